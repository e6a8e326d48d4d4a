import JvmDerived
import JvmDerived.Pilot.@@N@@Statement
import JvmDerived.Pilot.@@N@@Code
set_option linter.unusedVariables false
set_option linter.unusedSimpArgs false
@@BLOCK:NumsL.lean.txt@@
@@BLOCK:TracedD.lean.txt@@
namespace Jvm.RoadKit
open Sem ClassFile Op Lib Jvm.Stand Jvm.Free Jvm.LawKit
section New
variable {p : Program} {l : Launch} {e : Env} {R : Room} {s : State} {m : MethodId} {args : Array Value} {below : List Frame} {meth : Method} {c : Code} {T : State} {locs : List Loc} {cells slots : Nat}
theorem retI (X : Stand p l e R s m args below meth c T locs cells slots) (hx : p.tables.exec = Jvm.exec) {pc : Nat} {Ls : Array Slot} {z : Int32} {rest : List Value} (hret : meth.sig.returnType = some .int) (hd : decode c.code pc = .ok (.ireturn, 1)) {fs : List Frame}
    (hl : ∀ (f : JFrame) (acts : List Action), f.method = m → f.locked = none → f.entered = [] → (doReturn e (T.setTop f) acts (some (.int z))).1 = T.setFrames fs) : Steps p.tables e below (T.setTop (mkF m pc Ls (.int z :: rest))) (T.setFrames fs) := by
  have hm' : T.vm.method? m = some meth := X.method'
  have hn : narrow .int (.int z) = .int z := rfl
  show Steps p.tables e below (T.setTop { method := m, pc := pc, locals := Ls, stack := _ :: rest, locked := none }) _
  jvm_step X.here [X.here.top, hx, hd, hm', hret, hn]
  first | (intro acts; rw [hl _ acts rfl rfl rfl]) | rw [hl _ _ rfl rfl rfl]
  exact Steps.refl _
end New
end Jvm.RoadKit
/- laws to paste: Road.backV, Road.eqW (cut by pick.py; bodies as the Statement names them) -/
namespace Jvm.Pilot.@@N@@
namespace StrChars
open Jvm Sem ClassFile Op Lib Jvm.Stand Jvm.Free.XT Jvm.Free.ALB Jvm.Free.JM Jvm.Free
open Jvm.Lib.Cold (StaticIs)
/-- a char array whose places are chars -/
def Ch (a : Addr) (A : Cell) (U : State) : Prop := Arr .char a A U ∧ Typed .char A
theorem Ch.mv {a : Addr} {A : Cell} {U U' : State} (h : Ch a A U) (hal : U.vm.Alike U'.vm) (hh : U'.heap = U.heap) : Ch a A U' := ⟨h.1.mv hal hh, h.2⟩
theorem Ch.keep {a : Addr} {A : Cell} {U U' : State} (h : Ch a A U) (hal : U.vm.Alike U'.vm) (hk : U'.heap[a]? = some A) : Ch a A U' := ⟨h.1.keep hal hk, h.2⟩
/-- what place i of a char[]'s cell holds -/
def cv (A : Cell) (i : Nat) : Int32 := match A.slots[i]? with | some (.int x) => x | _ => 0
theorem Ch.get {a : Addr} {A : Cell} {U : State} (h : Ch a A U) {i : Nat} (hi : i < A.slots.size) : A.slots[i]? = some (.int (cv A i)) := by
  have e := Array.getElem?_eq_getElem hi
  have f := h.2 i _ e
  unfold cv; rw [e]
  generalize A.slots[i] = v at f
  cases v <;> simp [fits] at f ⊢
/-- the byte that i2b leaves of a char -/
def lo8 (x : Int32) : Int32 := x.toInt8.toInt32
theorem fits_lo8 (y : Int32) : fits .byte (.int (lo8 y)) = true := by
  have h1 := y.toInt8.le_toInt
  have h2 := y.toInt8.toInt_lt
  simp only [lo8, fits, Bool.and_eq_true, decide_eq_true_eq, Int32.le_iff_toInt_le, Int8.toInt_toInt32, show (-128 : Int32).toInt = -128 from by decide, show (127 : Int32).toInt = 127 from by decide]
  omega
/-- A' is A but that each place j of lo .. hi - 1 holds f j -/
def Laid (A A' : Cell) (lo hi : Nat) (f : Nat → Value) : Prop := A'.cls = A.cls ∧ A'.vm = A.vm ∧ A'.slots.size = A.slots.size ∧ ∀ i, A'.slots[i]? = if lo ≤ i ∧ i < hi then some (f i) else A.slots[i]?
theorem Laid.zero (A : Cell) (lo : Nat) (f : Nat → Value) : Laid A A lo (lo + 0) f := ⟨rfl, rfl, rfl, fun i => by rw [if_neg (by omega)]⟩
theorem Laid.step {A Ak : Cell} {lo k : Nat} {f : Nat → Value} {v : Value} (h : Laid A Ak lo k f) (hlo : lo ≤ k) (hk : k < Ak.slots.size) (hv : v = f k) : Laid A (Ak.setSlot k v) lo (k + 1) f := by
  refine ⟨h.1, h.2.1, by simpa [Cell.setSlot] using h.2.2.1, fun i => ?_⟩
  by_cases e : k = i
  · subst e; rw [Cell.slots_setSlot_self v hk, if_pos (by omega), hv]
  · rw [Cell.slots_setSlot_ne v e, h.2.2.2 i]
    by_cases q : lo ≤ i ∧ i < k
    · rw [if_pos q, if_pos (by omega)]
    · rw [if_neg q, if_neg (by omega)]
def U16 : String := "java/lang/StringUTF16"
namespace Cmp5
def yN : MethodName := ⟨"java/lang/StringUTF16", "compress", "([CI[BII)I"⟩
abbrev yB : ByteArray := jdk_52_method_21_code
theorem d0 : decode yB 0 = .ok (.iconst 0, 1) := by decide +kernel
theorem d1 : decode yB 1 = .ok (.istore 5, 2) := by decide +kernel
theorem d3 : decode yB 3 = .ok (.iload 5, 2) := by decide +kernel
theorem d5 : decode yB 5 = .ok (.iload 4, 2) := by decide +kernel
theorem d7 : decode yB 7 = .ok (.if_icmp (.ge) 37, 3) := by decide +kernel
theorem d10 : decode yB 10 = .ok (.aload_n 0, 1) := by decide +kernel
theorem d11 : decode yB 11 = .ok (.iload_n 1, 1) := by decide +kernel
theorem d12 : decode yB 12 = .ok (.caload, 1) := by decide +kernel
theorem d13 : decode yB 13 = .ok (.istore 6, 2) := by decide +kernel
theorem d15 : decode yB 15 = .ok (.iload 6, 2) := by decide +kernel
theorem d17 : decode yB 17 = .ok (.sipush 255, 3) := by decide +kernel
theorem d20 : decode yB 20 = .ok (.if_icmp (.le) 6, 3) := by decide +kernel
theorem d26 : decode yB 26 = .ok (.aload_n 2, 1) := by decide +kernel
theorem d27 : decode yB 27 = .ok (.iload_n 3, 1) := by decide +kernel
theorem d28 : decode yB 28 = .ok (.iload 6, 2) := by decide +kernel
theorem d30 : decode yB 30 = .ok (.i2b, 1) := by decide +kernel
theorem d31 : decode yB 31 = .ok (.bastore, 1) := by decide +kernel
theorem d32 : decode yB 32 = .ok (.iinc 1 1, 3) := by decide +kernel
theorem d35 : decode yB 35 = .ok (.iinc 3 1, 3) := by decide +kernel
theorem d38 : decode yB 38 = .ok (.iinc 5 1, 3) := by decide +kernel
theorem d41 : decode yB 41 = .ok (.goto (-38), 3) := by decide +kernel
theorem d44 : decode yB 44 = .ok (.iload 4, 2) := by decide +kernel
theorem d46 : decode yB 46 = .ok (.ireturn, 1) := by decide +kernel
def site : List Cond := []
def tab : Cond := tabOf yN yB 7 (some .int) site
def P (b : Addr) (A : Cell) (d : Addr) (B : Cell) (o q len : Nat) (args : Array Value) (s : State) : Prop := args = #[.ref b, .int (Int32.ofNat o), .ref d, .int (Int32.ofNat q), .int (Int32.ofNat len)] ∧ Ch b A s ∧ Arr .byte d B s ∧ b ≠ d ∧ o + len ≤ A.slots.size ∧ q + len ≤ B.slots.size ∧ ∀ i, i < len → ¬ 255 < cv A (o + i)
def E (b : Addr) (A : Cell) (d : Addr) (B : Cell) (o q len : Nat) (r : Option Value) (s u : State) : Prop := r = some (.int (Int32.ofNat len)) ∧ ∃ B', Put d B' s u ∧ Laid B B' q (q + len) (fun j => Value.int (lo8 (cv A (o + (j - q)))))
/-- no char of the range above 255: len; the places written hold each char's low byte -/
theorem law (l : Launch) (b : Addr) (A : Cell) (d : Addr) (B : Cell) (o q len : Nat) : Law l yN 5 5 0 0 yB 7 (some .int) site (P b A d B o q len) (E b A d B o q len) (copyLocs d q len) 0 0 := by
  refine Law.of_walk (plainFor_of_name (by decide +kernel)) (by decide +kernel) (by decide +kernel) (by decide) (fun _ _ h => by rw [h.1]; rfl) (fun _ U U' hal hh h => ⟨h.1, h.2.1.mv hal hh, h.2.2.1.mv hal hh, h.2.2.2⟩) (fun r U U' V V' h1 hal h2 h => ⟨h.1, h.2.elim fun B' q => ⟨B', q.1.mv h1 h2, q.2⟩⟩) ?_
  intro p e s m args below meth c s₁ X0 hexec hbytes hml hret hlk hnm hown hh0 W hP
  obtain ⟨rfl, hA, hB, hne, l1, l2, hp⟩ := hP
  have c1 : Steps p.tables e below (s₁.setTop (entryFrame m #[.ref b, .int (Int32.ofNat o), .ref d, .int (Int32.ofNat q), .int (Int32.ofNat len)] 7)) (s₁.setTop (mkF m 0 #[.val (.ref b), .val (.int (Int32.ofNat o)), .val (.ref d), .val (.int (Int32.ofNat q)), .val (.int (Int32.ofNat len)), .unset, .unset] [])) := entry rfl
  have hA0 := hA.1.mv X0.warmed.alike hh0
  have hB0 := hB.mv X0.warmed.alike hh0
  have a31 := hA.1.2.2.2
  have c2 : Steps p.tables e below (s₁.setTop (entryFrame m #[.ref b, .int (Int32.ofNat o), .ref d, .int (Int32.ofNat q), .int (Int32.ofNat len)] 7)) (s₁.setTop (mkF m 3 #[.val (.ref b), .val (.int (Int32.ofNat o)), .val (.ref d), .val (.int (Int32.ofNat q)), .val (.int (Int32.ofNat len)), .val (.int 0), .unset] [])) := c1.trans (by
    refine iconstV X0.here hexec rfl 0 (hb hbytes d0) (by decide) ?_
    refine XS.istore X0.here hexec rfl (hb hbytes d1) rfl rfl ?_
    exact Steps.refl _)
  have loop : ∀ (r i : Nat), i + r = len → ∀ (z : Slot), (z = .unset ∨ ∃ w, z = .val w ∧ w.category = 1) → ∀ (Tl : State) (Bk : Cell), Stand p l e { frames := 0, locals := 0, cells := 0, slots := 0 } s m #[.ref b, .int (Int32.ofNat o), .ref d, .int (Int32.ofNat q), .int (Int32.ofNat len)] below meth c Tl ([] ++ copyLocs d q i) 0 0 → Put d Bk s₁ Tl → Laid B Bk q (q + i) (fun j => Value.int (lo8 (cv A (o + (j - q))))) →
      Steps p.tables e below (s₁.setTop (entryFrame m #[.ref b, .int (Int32.ofNat o), .ref d, .int (Int32.ofNat q), .int (Int32.ofNat len)] 7)) (Tl.setTop (mkF m 3 #[.val (.ref b), .val (.int (Int32.ofNat (o + i))), .val (.ref d), .val (.int (Int32.ofNat (q + i))), .val (.int (Int32.ofNat len)), .val (.int (Int32.ofNat i)), z] [])) → ∃ (T' : State) (B' : Cell) (z' : Slot), Stand p l e { frames := 0, locals := 0, cells := 0, slots := 0 } s m #[.ref b, .int (Int32.ofNat o), .ref d, .int (Int32.ofNat q), .int (Int32.ofNat len)] below meth c T' ([] ++ copyLocs d q len) 0 0 ∧ Put d B' s₁ T' ∧ Laid B B' q (q + len) (fun j => Value.int (lo8 (cv A (o + (j - q))))) ∧
      Steps p.tables e below (s₁.setTop (entryFrame m #[.ref b, .int (Int32.ofNat o), .ref d, .int (Int32.ofNat q), .int (Int32.ofNat len)] 7)) (T'.setTop (mkF m 3 #[.val (.ref b), .val (.int (Int32.ofNat (o + len))), .val (.ref d), .val (.int (Int32.ofNat (q + len))), .val (.int (Int32.ofNat len)), .val (.int (Int32.ofNat len)), z'] [])) := by
    intro r
    induction r with
    | zero =>
      intro i hi z hz Tl Bk Xl pl fl cl
      have hil : i = len := by omega
      rw [hil] at Xl fl cl
      exact ⟨Tl, Bk, z, Xl, pl, fl, cl⟩
    | succ r ih =>
      intro i hi z hz Tl Bk Xl pl fl cl
      have all := X0.warmed.alike.symm.trans Xl.warmed.alike
      have hAl := hA0.keep all (pl.other hne hA0.1)
      have hBk := hB0.like all pl.1 fl.1 fl.2.1 fl.2.2.1
      have hlt : q + i < Bk.slots.size := by rw [fl.2.2.1]; omega
      have c3 : Steps p.tables e below (s₁.setTop (entryFrame m #[.ref b, .int (Int32.ofNat o), .ref d, .int (Int32.ofNat q), .int (Int32.ofNat len)] 7)) (Tl.setTop (mkF m 12 #[.val (.ref b), .val (.int (Int32.ofNat (o + i))), .val (.ref d), .val (.int (Int32.ofNat (q + i))), .val (.int (Int32.ofNat len)), .val (.int (Int32.ofNat i)), z] [.int (Int32.ofNat (o + i)), .ref b])) := cl.trans (by
        refine XS.iload Xl.here hexec rfl (hb hbytes d3) rfl ?_
        refine XS.iload Xl.here hexec rfl (hb hbytes d5) rfl ?_
        refine XS.icmpNo Xl.here hexec rfl (hb hbytes d7) rfl (ii_ge_f (lt32 (by omega) (by omega))) ?_
        refine XS.aloadN Xl.here hexec rfl (hb hbytes d10) rfl rfl ?_
        refine XS.iloadN Xl.here hexec rfl (hb hbytes d11) rfl ?_
        exact Steps.refl _)
      have c4 : Steps p.tables e below (s₁.setTop (entryFrame m #[.ref b, .int (Int32.ofNat o), .ref d, .int (Int32.ofNat q), .int (Int32.ofNat len)] 7)) (Tl.setTop (mkF m 13 #[.val (.ref b), .val (.int (Int32.ofNat (o + i))), .val (.ref d), .val (.int (Int32.ofNat (q + i))), .val (.int (Int32.ofNat len)), .val (.int (Int32.ofNat i)), z] [.int (cv A (o + i))])) := c3.trans (by
        refine Xl.aget hexec hAl rfl (hA.get (i := o + i) (by omega)) rfl rfl (hb hbytes d12) ?_
        exact Steps.refl _)
      have c5 : Steps p.tables e below (s₁.setTop (entryFrame m #[.ref b, .int (Int32.ofNat o), .ref d, .int (Int32.ofNat q), .int (Int32.ofNat len)] 7)) (Tl.setTop (mkF m 15 #[.val (.ref b), .val (.int (Int32.ofNat (o + i))), .val (.ref d), .val (.int (Int32.ofNat (q + i))), .val (.int (Int32.ofNat len)), .val (.int (Int32.ofNat i)), .val (.int (cv A (o + i)))] [])) := c4.trans (by
        refine XS.istoreS Xl.here hexec rfl (hb hbytes d13) rfl rfl hz ?_
        exact Steps.refl _)
      have c6 : Steps p.tables e below (s₁.setTop (entryFrame m #[.ref b, .int (Int32.ofNat o), .ref d, .int (Int32.ofNat q), .int (Int32.ofNat len)] 7)) (Tl.setTop (mkF m 31 #[.val (.ref b), .val (.int (Int32.ofNat (o + i))), .val (.ref d), .val (.int (Int32.ofNat (q + i))), .val (.int (Int32.ofNat len)), .val (.int (Int32.ofNat i)), .val (.int (cv A (o + i)))] [.int (lo8 (cv A (o + i))), .int (Int32.ofNat (q + i)), .ref d])) := c5.trans (by
        refine XS.iload Xl.here hexec rfl (hb hbytes d15) rfl ?_
        refine sipushV Xl.here hexec rfl 255 (hb hbytes d17) (by decide) ?_
        refine XS.icmpYes Xl.here hexec rfl (pc0 := 20) rfl (hb hbytes d20) rfl (ii_le_t (hp i (by omega))) (by decide) rfl ?_
        refine XS.aloadN Xl.here hexec rfl (hb hbytes d26) rfl rfl ?_
        refine XS.iloadN Xl.here hexec rfl (hb hbytes d27) rfl ?_
        refine XS.iload Xl.here hexec rfl (hb hbytes d28) rfl ?_
        refine i2b Xl.here hexec rfl (hb hbytes d30) rfl ?_
        exact Steps.refl _)
      obtain ⟨T7, X7, p7, st7⟩ := Xl.aput hexec hBk rfl hlt rfl (fits_lo8 (cv A (o + i))) (g := (mkF m 31 #[.val (.ref b), .val (.int (Int32.ofNat (o + i))), .val (.ref d), .val (.int (Int32.ofNat (q + i))), .val (.int (Int32.ofNat len)), .val (.int (Int32.ofNat i)), .val (.int (cv A (o + i)))] [.int (lo8 (cv A (o + i))), .int (Int32.ofNat (q + i)), .ref d])) rfl (rest := []) rfl (hb hbytes d31)
      have c8 : Steps p.tables e below (s₁.setTop (entryFrame m #[.ref b, .int (Int32.ofNat o), .ref d, .int (Int32.ofNat q), .int (Int32.ofNat len)] 7)) (T7.setTop (mkF m 32 #[.val (.ref b), .val (.int (Int32.ofNat (o + i))), .val (.ref d), .val (.int (Int32.ofNat (q + i))), .val (.int (Int32.ofNat len)), .val (.int (Int32.ofNat i)), .val (.int (cv A (o + i)))] [])) := c6.trans (st7 _ (Steps.refl _))
      have c9 : Steps p.tables e below (s₁.setTop (entryFrame m #[.ref b, .int (Int32.ofNat o), .ref d, .int (Int32.ofNat q), .int (Int32.ofNat len)] 7)) (T7.setTop (mkF m 3 #[.val (.ref b), .val (.int (Int32.ofNat (o + i) + 1)), .val (.ref d), .val (.int (Int32.ofNat (q + i) + 1)), .val (.int (Int32.ofNat len)), .val (.int (Int32.ofNat i + 1)), .val (.int (cv A (o + i)))] [])) := c8.trans (by
        refine iincV X7.here hexec rfl 1 (hb hbytes d32) (by decide) rfl rfl ?_
        refine iincV X7.here hexec rfl 1 (hb hbytes d35) (by decide) rfl rfl ?_
        refine iincV X7.here hexec rfl 1 (hb hbytes d38) (by decide) rfl rfl ?_
        refine XS.goto X7.here hexec rfl (pc0 := 41) rfl (hb hbytes d41) (by decide) rfl ?_
        exact Steps.refl _)
      have c10 : Steps p.tables e below (s₁.setTop (entryFrame m #[.ref b, .int (Int32.ofNat o), .ref d, .int (Int32.ofNat q), .int (Int32.ofNat len)] 7)) (T7.setTop (mkF m 3 #[.val (.ref b), .val (.int (Int32.ofNat (o + (i + 1)))), .val (.ref d), .val (.int (Int32.ofNat (q + (i + 1)))), .val (.int (Int32.ofNat len)), .val (.int (Int32.ofNat (i + 1))), .val (.int (cv A (o + i)))] [])) := by
        have := c9
        rw [succ32, succ32, succ32] at this
        exact this
      exact ih (i + 1) (by omega) _ (Or.inr ⟨_, rfl, rfl⟩) T7 _ (by rw [copyLocs_step, ← List.append_assoc]; exact X7) (pl.trans p7) (fl.step (by omega) hlt (by simp)) c10
  obtain ⟨T9, B9, z9, X9, p9, f9, g9⟩ := loop len 0 (by omega) .unset (Or.inl rfl) s₁ B (by simpa [copyLocs] using X0) ⟨hB0.1, fun _ _ => rfl, rfl⟩ (Laid.zero _ _ _) c2
  have c11 : Steps p.tables e below (s₁.setTop (entryFrame m #[.ref b, .int (Int32.ofNat o), .ref d, .int (Int32.ofNat q), .int (Int32.ofNat len)] 7)) (T9.setTop (mkF m 46 #[.val (.ref b), .val (.int (Int32.ofNat (o + len))), .val (.ref d), .val (.int (Int32.ofNat (q + len))), .val (.int (Int32.ofNat len)), .val (.int (Int32.ofNat len)), z9] [.int (Int32.ofNat len)])) := g9.trans (by
    refine XS.iload X9.here hexec rfl (hb hbytes d3) rfl ?_
    refine XS.iload X9.here hexec rfl (hb hbytes d5) rfl ?_
    refine XS.icmpYes X9.here hexec rfl (pc0 := 7) rfl (hb hbytes d7) rfl (ii_ge_t (nlt32 (by omega) (Nat.le_refl _))) (by decide) rfl ?_
    refine XS.iload X9.here hexec rfl (hb hbytes d44) rfl ?_
    exact Steps.refl _)
  exact ⟨T9, some (.int (Int32.ofNat len)), _, _, _, X9, by simp, rfl, rfl, (fun h => by cases h), ⟨rfl, B9, p9.from hh0, f9⟩, fun fs hl => c11.trans (X9.ireturnOut hexec hret rfl (Or.inl rfl) (hb hbytes d46) hl)⟩
end Cmp5
namespace Cmp3
def yN : MethodName := ⟨"java/lang/StringUTF16", "compress", "([CII)[B"⟩
abbrev yB : ByteArray := jdk_52_method_16_code
theorem d0 : decode yB 0 = .ok (.iload_n 2, 1) := by decide +kernel
theorem d1 : decode yB 1 = .ok (.newarray .byte, 2) := by decide +kernel
theorem d3 : decode yB 3 = .ok (.astore_n 3, 1) := by decide +kernel
theorem d4 : decode yB 4 = .ok (.aload_n 0, 1) := by decide +kernel
theorem d5 : decode yB 5 = .ok (.iload_n 1, 1) := by decide +kernel
theorem d6 : decode yB 6 = .ok (.aload_n 3, 1) := by decide +kernel
theorem d7 : decode yB 7 = .ok (.iconst 0, 1) := by decide +kernel
theorem d8 : decode yB 8 = .ok (.iload_n 2, 1) := by decide +kernel
theorem d9 : decode yB 9 = .ok (.invokestatic 115, 3) := by decide +kernel
theorem d12 : decode yB 12 = .ok (.istore 4, 2) := by decide +kernel
theorem d14 : decode yB 14 = .ok (.iload 4, 2) := by decide +kernel
theorem d16 : decode yB 16 = .ok (.iload_n 2, 1) := by decide +kernel
theorem d17 : decode yB 17 = .ok (.if_icmp (.eq) 40, 3) := by decide +kernel
theorem d57 : decode yB 57 = .ok (.aload_n 3, 1) := by decide +kernel
theorem d58 : decode yB 58 = .ok (.areturn, 1) := by decide +kernel
def site : List Cond := [.arrayClass .byte, Cmp5.tab] ++ staticW U16 115 Cmp5.yN
def tab : Cond := tabOf yN yB 6 (some (.array .byte)) site
def P (b : Addr) (A : Cell) (o len : Nat) (args : Array Value) (s : State) : Prop := args = #[.ref b, .int (Int32.ofNat o), .int (Int32.ofNat len)] ∧ Ch b A s ∧ o + len ≤ A.slots.size ∧ len ≤ 536870912 ∧ ∀ i, i < len → ¬ 255 < cv A (o + i)
def E (b : Addr) (A : Cell) (o len : Nat) (r : Option Value) (s u : State) : Prop := NewArr .byte "[B" len (fun j => .int (lo8 (cv A (o + j)))) r s u ∧ u.heap.size = s.heap.size + 1
/-- no char of the range above 255: a new byte[] of their low bytes -/
theorem law (l : Launch) (b : Addr) (A : Cell) (o len : Nat) : Law l yN 3 3 1 18 yB 6 (some (.array .byte)) site (P b A o len) (E b A o len) [] 1 len := by
  refine Law.of_walk (plainFor_of_name (by decide +kernel)) (by decide +kernel) (by decide +kernel) (by decide) (fun _ _ h => by rw [h.1]; rfl) (fun _ U U' hal hh h => ⟨h.1, h.2.1.mv hal hh, h.2.2⟩) (fun r U U' V V' h1 hal h2 h => ⟨NewArr.mv r U U' V V' h1 hal h2 h.1, by rw [h1, h2]; exact h.2⟩) ?_
  intro p e s m args below meth c s₁ X0 hexec hbytes hml hret hlk hnm hown hh0 W hP
  obtain ⟨rfl, hA, l1, l2, hp⟩ := hP
  have a31 := hA.1.2.2.2
  have c1 : Steps p.tables e below (s₁.setTop (entryFrame m #[.ref b, .int (Int32.ofNat o), .int (Int32.ofNat len)] 6)) (s₁.setTop (mkF m 0 #[.val (.ref b), .val (.int (Int32.ofNat o)), .val (.int (Int32.ofNat len)), .unset, .unset, .unset] [])) := entry rfl
  have c2 : Steps p.tables e below (s₁.setTop (entryFrame m #[.ref b, .int (Int32.ofNat o), .int (Int32.ofNat len)] 6)) (s₁.setTop (mkF m 1 #[.val (.ref b), .val (.int (Int32.ofNat o)), .val (.int (Int32.ofNat len)), .unset, .unset, .unset] [.int (Int32.ofNat len)])) := c1.trans (by
    refine XS.iloadN X0.here hexec rfl (hb hbytes d0) rfl ?_
    exact Steps.refl _)
  obtain ⟨T3, B3, X3, ba3, bs3, bv3, bh3, bf3, st3⟩ := X0.anew hexec (atype := .byte) (wk W (.arrayClass .byte)) rfl (by show len * 1 ≤ _; omega) (by omega) (g := (mkF m 1 #[.val (.ref b), .val (.int (Int32.ofNat o)), .val (.int (Int32.ofNat len)), .unset, .unset, .unset] [.int (Int32.ofNat len)])) rfl (hb hbytes d1) (rest := []) rfl (Nat.le_refl _) (by show 0 + len ≤ len; omega)
  rw [hh0] at ba3 st3
  have kp3 : XT.Kept s T3 := (XT.Kept.of_eq hh0).push bh3
  have hA3 := hA.keep X3.warmed.alike (kp3 _ _ hA.1.1)
  have hne : b ≠ s.heap.size := hA.1.ne
  have c4 : Steps p.tables e below (s₁.setTop (entryFrame m #[.ref b, .int (Int32.ofNat o), .int (Int32.ofNat len)] 6)) (T3.setTop (mkF m 3 #[.val (.ref b), .val (.int (Int32.ofNat o)), .val (.int (Int32.ofNat len)), .unset, .unset, .unset] [.ref s.heap.size])) := c2.trans (st3 _ (Steps.refl _))
  have c5 : Steps p.tables e below (s₁.setTop (entryFrame m #[.ref b, .int (Int32.ofNat o), .int (Int32.ofNat len)] 6)) (T3.setTop (mkF m 9 #[.val (.ref b), .val (.int (Int32.ofNat o)), .val (.int (Int32.ofNat len)), .val (.ref s.heap.size), .unset, .unset] [.int (Int32.ofNat len), .int 0, .ref s.heap.size, .int (Int32.ofNat o), .ref b])) := c4.trans (by
    refine XS.astoreN X3.here hexec rfl (hb hbytes d3) rfl rfl rfl ?_
    refine XS.aloadN X3.here hexec rfl (hb hbytes d4) rfl rfl ?_
    refine XS.iloadN X3.here hexec rfl (hb hbytes d5) rfl ?_
    refine XS.aloadN X3.here hexec rfl (hb hbytes d6) rfl rfl ?_
    refine iconstV X3.here hexec rfl 0 (hb hbytes d7) (by decide) ?_
    refine XS.iloadN X3.here hexec rfl (hb hbytes d8) rfl ?_
    exact Steps.refl _)
  obtain ⟨v6, T6, X6, E6, g6⟩ := X3.callS hexec (Cmp5.law l b A s.heap.size B3 o 0 len) hown (wks W (staticW U16 115 Cmp5.yN)) (wk W Cmp5.tab) (W := 0) (Nat.le_of_ble_eq_true rfl) (Nat.le_of_ble_eq_true rfl) (Nat.le_refl _) (by show 0 + len + 0 ≤ len; omega) (g := (mkF m 9 #[.val (.ref b), .val (.int (Int32.ofNat o)), .val (.int (Int32.ofNat len)), .val (.ref s.heap.size), .unset, .unset] [.int (Int32.ofNat len), .int (Int32.ofNat 0), .ref s.heap.size, .int (Int32.ofNat o), .ref b])) rfl (by rw [hml]; rfl) c5 (argsL := [.ref b, .int (Int32.ofNat o), .ref s.heap.size, .int (Int32.ofNat 0), .int (Int32.ofNat len)]) (rest := []) rfl rfl (by show 2 * 0 + 0 ≤ _; decide) (hb hbytes d9) (⟨rfl, hA3, ba3, hne, l1, by rw [bs3]; simp, hp⟩)
  obtain ⟨rfl, B6, p6, f6⟩ := E6
  have c7 : Steps p.tables e below (s₁.setTop (entryFrame m #[.ref b, .int (Int32.ofNat o), .int (Int32.ofNat len)] 6)) (T6.setTop (mkF m 12 #[.val (.ref b), .val (.int (Int32.ofNat o)), .val (.int (Int32.ofNat len)), .val (.ref s.heap.size), .unset, .unset] [.int (Int32.ofNat len)])) := g6
  have c8 : Steps p.tables e below (s₁.setTop (entryFrame m #[.ref b, .int (Int32.ofNat o), .int (Int32.ofNat len)] 6)) (T6.setTop (mkF m 58 #[.val (.ref b), .val (.int (Int32.ofNat o)), .val (.int (Int32.ofNat len)), .val (.ref s.heap.size), .val (.int (Int32.ofNat len)), .unset] [.ref s.heap.size])) := c7.trans (by
    refine XS.istore X6.here hexec rfl (hb hbytes d12) rfl rfl ?_
    refine XS.iload X6.here hexec rfl (hb hbytes d14) rfl ?_
    refine XS.iloadN X6.here hexec rfl (hb hbytes d16) rfl ?_
    refine XS.icmpYes X6.here hexec rfl (pc0 := 17) rfl (hb hbytes d17) rfl (ii_eq_t rfl) (by decide) rfl ?_
    refine XS.aloadN X6.here hexec rfl (hb hbytes d57) rfl rfl ?_
    exact Steps.refl _)
  have X8 := X6.wide (L' := []) (cells' := 1) (slots' := len) (fun x hx hlt => by
    simp only [List.nil_append, copyLocs, List.mem_map, List.mem_range] at hx
    obtain ⟨i, -, rfl⟩ := hx
    exact absurd hlt (Nat.lt_irrefl _)) (Nat.le_refl _) (by omega)
  exact ⟨T6, some (.ref s.heap.size), _, _, _, X8, rfl, rfl, rfl, (fun h => by cases h), ⟨⟨rfl, B6, ba3.like (X3.warmed.alike.symm.trans X6.warmed.alike) p6.1 f6.1 f6.2.1 f6.2.2.1, f6.2.1.trans bv3, by rw [X6.warmed.alike.findClass, f6.1]; exact bf3, by rw [f6.2.2.1, bs3]; simp, fun j hj => by rw [f6.2.2.2 j, if_pos (by omega)]; rfl, kp3.put p6 (Nat.le_refl _)⟩, by rw [p6.2.2, bh3, hh0]; simp⟩, fun fs hl => c8.trans (X8.areturnOut hexec rfl hret rfl (hb hbytes d58) hl)⟩
end Cmp3
namespace CodL
def yN : MethodName := ⟨"java/lang/StringUTF16", "coderFromArrayLen", "([BI)B"⟩
abbrev yB : ByteArray := jdk_52_method_15_code
theorem d0 : decode yB 0 = .ok (.iload_n 1, 1) := by decide +kernel
theorem d1 : decode yB 1 = .ok (.aload_n 0, 1) := by decide +kernel
theorem d2 : decode yB 2 = .ok (.arraylength, 1) := by decide +kernel
theorem d3 : decode yB 3 = .ok (.isub, 1) := by decide +kernel
theorem d4 : decode yB 4 = .ok (.bipush 31, 2) := by decide +kernel
theorem d6 : decode yB 6 = .ok (.iushr, 1) := by decide +kernel
theorem d7 : decode yB 7 = .ok (.i2b, 1) := by decide +kernel
theorem d8 : decode yB 8 = .ok (.ireturn, 1) := by decide +kernel
def site : List Cond := []
def tab : Cond := tabOf yN yB 2 (some .byte) site
def P (d : Addr) (B : Cell) (args : Array Value) (s : State) : Prop := args = #[.ref d, .int (Int32.ofNat B.slots.size)] ∧ Arr .byte d B s
def E (r : Option Value) (s u : State) : Prop := XT.PureE (some (.int 0)) r s u
/-- an array as long as the number of chars: LATIN1 -/
theorem law (l : Launch) (d : Addr) (B : Cell) : Law l yN 2 2 0 0 yB 2 (some .byte) site (P d B) E [] 0 0 := by
  refine Law.of_walk (plainFor_of_name (by decide +kernel)) (by decide +kernel) (by decide +kernel) (by decide) (fun _ _ h => by rw [h.1]; rfl) (fun _ U U' hal hh h => ⟨h.1, h.2.mv hal hh⟩) (fun r U U' V V' h1 hal h2 h => XT.PureE.mv r U U' V V' h1 hal h2 h) ?_
  intro p e s m args below meth c s₁ X0 hexec hbytes hml hret hlk hnm hown hh0 W hP
  obtain ⟨rfl, hB⟩ := hP
  have hB0 := hB.mv X0.warmed.alike hh0
  have c1 : Steps p.tables e below (s₁.setTop (entryFrame m #[.ref d, .int (Int32.ofNat B.slots.size)] 2)) (s₁.setTop (mkF m 0 #[.val (.ref d), .val (.int (Int32.ofNat B.slots.size))] [])) := entry rfl
  have c2 : Steps p.tables e below (s₁.setTop (entryFrame m #[.ref d, .int (Int32.ofNat B.slots.size)] 2)) (s₁.setTop (mkF m 2 #[.val (.ref d), .val (.int (Int32.ofNat B.slots.size))] [.ref d, .int (Int32.ofNat B.slots.size)])) := c1.trans (by
    refine XS.iloadN X0.here hexec rfl (hb hbytes d0) rfl ?_
    refine XS.aloadN X0.here hexec rfl (hb hbytes d1) rfl rfl ?_
    exact Steps.refl _)
  have c3 : Steps p.tables e below (s₁.setTop (entryFrame m #[.ref d, .int (Int32.ofNat B.slots.size)] 2)) (s₁.setTop (mkF m 8 #[.val (.ref d), .val (.int (Int32.ofNat B.slots.size))] [.int (lo8 (ushr (Int32.ofNat B.slots.size - Int32.ofNat B.slots.size) 31))])) := c2.trans (by
    refine X0.alen hexec hB0 rfl rfl (hb hbytes d2) ?_
    refine XS.isub X0.here hexec rfl (hb hbytes d3) rfl ?_
    refine bipushV X0.here hexec rfl 31 (hb hbytes d4) (by decide) ?_
    refine iushr X0.here hexec rfl (hb hbytes d6) rfl ?_
    refine i2b X0.here hexec rfl (hb hbytes d7) rfl ?_
    exact Steps.refl _)
  have e0 : lo8 (ushr (Int32.ofNat B.slots.size - Int32.ofNat B.slots.size) 31) = 0 := by rw [Int32.sub_self]; decide
  rw [e0] at c3
  exact ⟨s₁, some (.int 0), _, _, _, X0, rfl, rfl, rfl, (fun h => by cases h), ⟨rfl, hh0⟩, fun fs hl => c3.trans (X0.ireturnOut hexec hret rfl (Or.inr (Or.inr (Or.inl rfl))) (hb hbytes d8) hl)⟩
end CodL
/-- the String at a is Latin-1 over a new byte[] (the heap's one new cell): the low bytes of the len chars of A from o on; every cell but a is kept -/
def Got (a : Addr) (D : Cell) (fV fC : Field) (A : Cell) (o len : Nat) (r : Option Value) (s u : State) : Prop := r = none ∧ ∃ D' V : Cell, Blank "java/lang/String" a D' u ∧ Same D D' [fV.slot, fC.slot] ∧ D'.slots[fV.slot]? = some (.ref s.heap.size) ∧ D'.slots[fC.slot]? = some (.int 0) ∧ Arr .byte s.heap.size V u ∧ V.vm = .none ∧ u.vm.findClass "[B" = some V.cls ∧ V.slots.size = len ∧ (∀ j, j < len → V.slots[j]? = some (.int (lo8 (cv A (o + j))))) ∧ (∀ (y : Addr) (c : Cell), y ≠ a → s.heap[y]? = some c → u.heap[y]? = some c) ∧ u.heap.size = s.heap.size + 1
theorem Got.mv {a : Addr} {D A : Cell} {fV fC : Field} {o len : Nat} : ∀ r (U U' V V' : State), U'.heap = U.heap → V.vm.Alike V'.vm → V'.heap = V.heap → Got a D fV fC A o len r U V → Got a D fV fC A o len r U' V' :=
  fun r U U' V V' h1 hal h2 ⟨e0, D', X, a1, a2, a3, a4, a5, a6, a7, a8, a9, a10, a11⟩ => ⟨e0, D', X, a1.mv hal h2, a2, by rw [h1]; exact a3, a4, by rw [h1]; exact a5.mv hal h2, a6, by rw [hal.findClass]; exact a7, a8, a9, by rw [h1, h2]; exact a10, by rw [h1, h2]; exact a11⟩
namespace New4
def yN : MethodName := ⟨"java/lang/String", "<init>", "([CIILjava/lang/Void;)V"⟩
abbrev yB : ByteArray := jdk_42_method_149_code
theorem d0 : decode yB 0 = .ok (.aload_n 0, 1) := by decide +kernel
theorem d1 : decode yB 1 = .ok (.invokespecial 1, 3) := by decide +kernel
theorem d4 : decode yB 4 = .ok (.iload_n 3, 1) := by decide +kernel
theorem d5 : decode yB 5 = .ok (.ifCond (.ne) 22, 3) := by decide +kernel
theorem d27 : decode yB 27 = .ok (.getstatic 38, 3) := by decide +kernel
theorem d30 : decode yB 30 = .ok (.ifCond (.eq) 28, 3) := by decide +kernel
theorem d33 : decode yB 33 = .ok (.aload_n 1, 1) := by decide +kernel
theorem d34 : decode yB 34 = .ok (.iload_n 2, 1) := by decide +kernel
theorem d35 : decode yB 35 = .ok (.iload_n 3, 1) := by decide +kernel
theorem d36 : decode yB 36 = .ok (.invokestatic 177, 3) := by decide +kernel
theorem d39 : decode yB 39 = .ok (.astore 5, 2) := by decide +kernel
theorem d41 : decode yB 41 = .ok (.aload_n 0, 1) := by decide +kernel
theorem d42 : decode yB 42 = .ok (.aload 5, 2) := by decide +kernel
theorem d44 : decode yB 44 = .ok (.iload_n 3, 1) := by decide +kernel
theorem d45 : decode yB 45 = .ok (.invokestatic 47, 3) := by decide +kernel
theorem d48 : decode yB 48 = .ok (.putfield 15, 3) := by decide +kernel
theorem d51 : decode yB 51 = .ok (.aload_n 0, 1) := by decide +kernel
theorem d52 : decode yB 52 = .ok (.aload 5, 2) := by decide +kernel
theorem d54 : decode yB 54 = .ok (.putfield 9, 3) := by decide +kernel
theorem d57 : decode yB 57 = .ok (.return_, 1) := by decide +kernel
def site : List Cond := [.fieldLink "java/lang/String" 38 "java/lang/String" "COMPACT_STRINGS" "Z", Cmp3.tab, CodL.tab, .laysFinal "java/lang/String" "java/lang/String" "value" "[B", .fieldLink "java/lang/String" 9 "java/lang/String" "value" "[B", .laysFinal "java/lang/String" "java/lang/String" "coder" "B", .fieldLink "java/lang/String" 15 "java/lang/String" "coder" "B"] ++ objW "java/lang/String" 1 ++ staticW "java/lang/String" 177 Cmp3.yN ++ staticW "java/lang/String" 47 CodL.yN
def tab : Cond := tabOf yN yB 6 none site
def P (a : Addr) (D : Cell) (fV fC : Field) (b : Addr) (A : Cell) (z : Int32) (o len : Nat) (args : Array Value) (s : State) : Prop := args = #[.ref a, .ref b, .int (Int32.ofNat o), .int (Int32.ofNat len), .null] ∧ Blank "java/lang/String" a D s ∧ Found "java/lang/String" "value" "[B" fV s ∧ Found "java/lang/String" "coder" "B" fC s ∧ Ch b A s ∧ StaticIs s "java/lang/String" "COMPACT_STRINGS" "Z" (.int z) ∧ ¬ z = 0 ∧ 0 < len ∧ o + len ≤ A.slots.size ∧ len ≤ 536870912 ∧ ∀ i, i < len → ¬ 255 < cv A (o + i)
def E (a : Addr) (D : Cell) (fV fC : Field) (A : Cell) (o len : Nat) (r : Option Value) (s u : State) : Prop := Got a D fV fC A o len r s u
/-- len > 0, no char of the range above 255: a Latin-1 String of their low bytes -/
theorem law (l : Launch) (a : Addr) (D : Cell) (fV fC : Field) (b : Addr) (A : Cell) (z : Int32) (o len : Nat) : Law l yN 5 4 2 35 yB 6 none site (P a D fV fC b A z o len) (E a D fV fC A o len) [⟨a, fC.slot⟩, ⟨a, fV.slot⟩] 1 len := by
  refine Law.of_walk (plainFor_of_name (by decide +kernel)) (by decide +kernel) (by decide +kernel) (by decide) (fun _ _ h => by rw [h.1]; rfl) (fun _ U U' hal hh h => ⟨h.1, h.2.1.mv hal hh, h.2.2.1.al hal, h.2.2.2.1.al hal, h.2.2.2.2.1.mv hal hh, h.2.2.2.2.2.1.there hal hh, h.2.2.2.2.2.2⟩) (fun r U U' V V' h1 hal h2 h => Got.mv r U U' V V' h1 hal h2 h) ?_
  intro p e s m args below meth c s₁ X0 hexec hbytes hml hret hlk hnm hown hh0 W hP
  obtain ⟨rfl, hB, f1, f2, hA, s1, hz, l0, l1, l2, hp⟩ := hP
  have a31 := hA.1.2.2.2
  have c1 : Steps p.tables e below (s₁.setTop (entryFrame m #[.ref a, .ref b, .int (Int32.ofNat o), .int (Int32.ofNat len), .null] 6)) (s₁.setTop (mkF m 0 #[.val (.ref a), .val (.ref b), .val (.int (Int32.ofNat o)), .val (.int (Int32.ofNat len)), .val .null, .unset] [])) := entry rfl
  have c2 : Steps p.tables e below (s₁.setTop (entryFrame m #[.ref a, .ref b, .int (Int32.ofNat o), .int (Int32.ofNat len), .null] 6)) (s₁.setTop (mkF m 1 #[.val (.ref a), .val (.ref b), .val (.int (Int32.ofNat o)), .val (.int (Int32.ofNat len)), .val .null, .unset] [.ref a])) := c1.trans (by
    refine XS.aloadN X0.here hexec rfl (hb hbytes d0) rfl rfl ?_
    exact Steps.refl _)
  obtain ⟨T3, X3, q3, st3⟩ := X0.oinit hexec hown (wks W (objW "java/lang/String" 1)) (g := (mkF m 1 #[.val (.ref a), .val (.ref b), .val (.int (Int32.ofNat o)), .val (.int (Int32.ofNat len)), .val .null, .unset] [.ref a])) rfl (by rw [hml]; rfl) (rest := []) rfl (hb hbytes d1) (W := 0) (by show 2 * 0 + 0 ≤ _; decide) (Nat.le_of_ble_eq_true rfl) (Nat.le_of_ble_eq_true rfl)
  have hh3 := q3.trans hh0
  have c4 : Steps p.tables e below (s₁.setTop (entryFrame m #[.ref a, .ref b, .int (Int32.ofNat o), .int (Int32.ofNat len), .null] 6)) (T3.setTop (mkF m 27 #[.val (.ref a), .val (.ref b), .val (.int (Int32.ofNat o)), .val (.int (Int32.ofNat len)), .val .null, .unset] [])) := (c2.trans (st3 _ (Steps.refl _))).trans (by
    refine XS.iloadN X3.here hexec rfl (hb hbytes d4) rfl ?_
    refine XS.ifYes X3.here hexec rfl (pc0 := 5) rfl (hb hbytes d5) rfl (i0_ne_t (nz32 (by omega) l0)) (by decide) rfl ?_
    exact Steps.refl _)
  obtain ⟨T5, X5, q5, st5⟩ := X3.sget hexec hown (wk W (.fieldLink "java/lang/String" 38 "java/lang/String" "COMPACT_STRINGS" "Z")) s1 (fun _ _ h => by rw [hh3]; exact h) (g := (mkF m 27 #[.val (.ref a), .val (.ref b), .val (.int (Int32.ofNat o)), .val (.int (Int32.ofNat len)), .val .null, .unset] [])) rfl (hb hbytes d27)
  have hh5 := q5.trans hh3
  have c6 : Steps p.tables e below (s₁.setTop (entryFrame m #[.ref a, .ref b, .int (Int32.ofNat o), .int (Int32.ofNat len), .null] 6)) (T5.setTop (mkF m 30 #[.val (.ref a), .val (.ref b), .val (.int (Int32.ofNat o)), .val (.int (Int32.ofNat len)), .val .null, .unset] [.int z])) := c4.trans (st5 _ (Steps.refl _))
  have c7 : Steps p.tables e below (s₁.setTop (entryFrame m #[.ref a, .ref b, .int (Int32.ofNat o), .int (Int32.ofNat len), .null] 6)) (T5.setTop (mkF m 36 #[.val (.ref a), .val (.ref b), .val (.int (Int32.ofNat o)), .val (.int (Int32.ofNat len)), .val .null, .unset] [.int (Int32.ofNat len), .int (Int32.ofNat o), .ref b])) := c6.trans (by
    refine XS.ifNo X5.here hexec rfl (hb hbytes d30) rfl (i0_eq_f hz) ?_
    refine XS.aloadN X5.here hexec rfl (hb hbytes d33) rfl rfl ?_
    refine XS.iloadN X5.here hexec rfl (hb hbytes d34) rfl ?_
    refine XS.iloadN X5.here hexec rfl (hb hbytes d35) rfl ?_
    exact Steps.refl _)
  obtain ⟨v8, T8, X8, E8, g8⟩ := X5.callS hexec (Cmp3.law l b A o len) hown (wks W (staticW "java/lang/String" 177 Cmp3.yN)) (wk W Cmp3.tab) (W := 0) (Nat.le_of_ble_eq_true rfl) (Nat.le_of_ble_eq_true rfl) (Nat.le_refl _) (by show 0 + len ≤ len; omega) (g := (mkF m 36 #[.val (.ref a), .val (.ref b), .val (.int (Int32.ofNat o)), .val (.int (Int32.ofNat len)), .val .null, .unset] [.int (Int32.ofNat len), .int (Int32.ofNat o), .ref b])) rfl (by rw [hml]; rfl) c7 (argsL := [.ref b, .int (Int32.ofNat o), .int (Int32.ofNat len)]) (rest := []) rfl rfl (by show 2 * 0 + 0 ≤ _; decide) (hb hbytes d36) (⟨rfl, hA.mv X5.warmed.alike hh5, l1, l2, hp⟩)
  obtain ⟨e8, z8⟩ := E8
  obtain ⟨rfl, N, n1, n2, n3, n4, n5, n6⟩ := NewArr.mv _ T5 s _ _ hh5.symm (Vm.Alike.refl _) rfl e8
  rw [hh5] at z8
  have hB1 := hB.keep X8.warmed.alike (n6 _ _ hB.1)
  have hne : s.heap.size ≠ a := (Nat.ne_of_lt (Array.getElem?_eq_some_iff.mp hB.1).1).symm
  have c9 : Steps p.tables e below (s₁.setTop (entryFrame m #[.ref a, .ref b, .int (Int32.ofNat o), .int (Int32.ofNat len), .null] 6)) (T8.setTop (mkF m 39 #[.val (.ref a), .val (.ref b), .val (.int (Int32.ofNat o)), .val (.int (Int32.ofNat len)), .val .null, .unset] [.ref s.heap.size])) := g8
  have c10 : Steps p.tables e below (s₁.setTop (entryFrame m #[.ref a, .ref b, .int (Int32.ofNat o), .int (Int32.ofNat len), .null] 6)) (T8.setTop (mkF m 45 #[.val (.ref a), .val (.ref b), .val (.int (Int32.ofNat o)), .val (.int (Int32.ofNat len)), .val .null, .val (.ref s.heap.size)] [.int (Int32.ofNat N.slots.size), .ref s.heap.size, .ref a])) := by
    have hc : Steps p.tables e below (s₁.setTop (entryFrame m #[.ref a, .ref b, .int (Int32.ofNat o), .int (Int32.ofNat len), .null] 6)) (T8.setTop (mkF m 45 #[.val (.ref a), .val (.ref b), .val (.int (Int32.ofNat o)), .val (.int (Int32.ofNat len)), .val .null, .val (.ref s.heap.size)] [.int (Int32.ofNat len), .ref s.heap.size, .ref a])) := c9.trans (by
      refine XS.astore X8.here hexec rfl (hb hbytes d39) rfl rfl rfl ?_
      refine XS.aloadN X8.here hexec rfl (hb hbytes d41) rfl rfl ?_
      refine XS.aload X8.here hexec rfl (hb hbytes d42) rfl rfl ?_
      refine XS.iloadN X8.here hexec rfl (hb hbytes d44) rfl ?_
      exact Steps.refl _)
    rw [n4]; exact hc
  obtain ⟨v11, T11, X11, E11, g11⟩ := X8.callS hexec (CodL.law l s.heap.size N) hown (wks W (staticW "java/lang/String" 47 CodL.yN)) (wk W CodL.tab) (W := 1) (Nat.le_of_ble_eq_true rfl) (Nat.le_of_ble_eq_true rfl) (Nat.le_refl _) (by show 0 + len + 0 ≤ len; omega) (g := (mkF m 45 #[.val (.ref a), .val (.ref b), .val (.int (Int32.ofNat o)), .val (.int (Int32.ofNat len)), .val .null, .val (.ref s.heap.size)] [.int (Int32.ofNat N.slots.size), .ref s.heap.size, .ref a])) rfl (by rw [hml]; rfl) c10 (argsL := [.ref s.heap.size, .int (Int32.ofNat N.slots.size)]) (rest := [.ref a]) rfl rfl (by show 2 * 0 + (1 + 0) ≤ _; decide) (hb hbytes d45) (⟨rfl, n1⟩)
  obtain ⟨rfl, q11⟩ := E11
  have hB11 := hB1.mv (X8.warmed.alike.symm.trans X11.warmed.alike) q11
  have c12 : Steps p.tables e below (s₁.setTop (entryFrame m #[.ref a, .ref b, .int (Int32.ofNat o), .int (Int32.ofNat len), .null] 6)) (T11.setTop (mkF m 48 #[.val (.ref a), .val (.ref b), .val (.int (Int32.ofNat o)), .val (.int (Int32.ofNat len)), .val .null, .val (.ref s.heap.size)] [.int 0, .ref a])) := g11
  obtain ⟨T13, X13, p13, bl13, sl13, st13⟩ := X11.finit hexec hown (wk W (.fieldLink "java/lang/String" 15 "java/lang/String" "coder" "B")) (Or.inr ⟨_, (wk W (.laysFinal "java/lang/String" "java/lang/String" "coder" "B"))⟩) (Or.inl ⟨rfl, hnm⟩) f2 (Or.inl rfl) hB11 (t := .byte) (by decide +kernel) rfl (g := (mkF m 48 #[.val (.ref a), .val (.ref b), .val (.int (Int32.ofNat o)), .val (.int (Int32.ofNat len)), .val .null, .val (.ref s.heap.size)] [.int 0, .ref a])) rfl (rest := []) rfl (hb hbytes d48)
  have c14 : Steps p.tables e below (s₁.setTop (entryFrame m #[.ref a, .ref b, .int (Int32.ofNat o), .int (Int32.ofNat len), .null] 6)) (T13.setTop (mkF m 54 #[.val (.ref a), .val (.ref b), .val (.int (Int32.ofNat o)), .val (.int (Int32.ofNat len)), .val .null, .val (.ref s.heap.size)] [.ref s.heap.size, .ref a])) := (c12.trans (st13 _ (Steps.refl _))).trans (by
    refine XS.aloadN X13.here hexec rfl (hb hbytes d51) rfl rfl ?_
    refine XS.aload X13.here hexec rfl (hb hbytes d52) rfl rfl ?_
    exact Steps.refl _)
  obtain ⟨T15, X15, p15, bl15, sl15, st15⟩ := X13.finit hexec hown (wk W (.fieldLink "java/lang/String" 9 "java/lang/String" "value" "[B")) (Or.inr ⟨_, (wk W (.laysFinal "java/lang/String" "java/lang/String" "value" "[B"))⟩) (Or.inl ⟨rfl, hnm⟩) f1 (Or.inl rfl) bl13 (t := (.array .byte)) (by decide +kernel) rfl (g := (mkF m 54 #[.val (.ref a), .val (.ref b), .val (.int (Int32.ofNat o)), .val (.int (Int32.ofNat len)), .val .null, .val (.ref s.heap.size)] [.ref s.heap.size, .ref a])) rfl (rest := []) rfl (hb hbytes d54)
  have c16 : Steps p.tables e below (s₁.setTop (entryFrame m #[.ref a, .ref b, .int (Int32.ofNat o), .int (Int32.ofNat len), .null] 6)) (T15.setTop (mkF m 57 #[.val (.ref a), .val (.ref b), .val (.int (Int32.ofNat o)), .val (.int (Int32.ofNat len)), .val .null, .val (.ref s.heap.size)] [])) := c14.trans (st15 _ (Steps.refl _))
  have ap := apart (Or.inr ⟨_, (wk W (.laysFinal "java/lang/String" "java/lang/String" "value" "[B"))⟩) (Or.inr ⟨_, (wk W (.laysFinal "java/lang/String" "java/lang/String" "coder" "B"))⟩) f1 f2 (t₁ := .array .byte) (t₂ := .byte) (by decide +kernel) (by decide +kernel) (by decide)
  have al := X8.warmed.alike.symm.trans X15.warmed.alike
  have n7 : T11.heap[s.heap.size]? = some N := by rw [q11]; exact n1.1
  exact ⟨T15, none, _, _, _, X15, by simp, rfl, by omega, (fun _ => rfl), ⟨rfl, _, N, bl15, ((Same.refl D _).set _ (by simp)).set _ (by simp), sl15, (Cell.slots_setSlot_ne _ ap).trans sl13, n1.keep al (p15.other hne (p13.other hne n7)), n2, by rw [al.findClass]; exact n3, n4, n5, fun y c h1 h2 => p15.other h1 (p13.other h1 (by rw [q11]; exact n6 y c h2)), by rw [p15.2.2, p13.2.2, q11]; exact z8⟩, fun fs hl => c16.trans (X15.returnOut hexec hret (hb hbytes d57) hl)⟩
end New4
namespace New1
def yN : MethodName := ⟨"java/lang/String", "<init>", "([C)V"⟩
abbrev yB : ByteArray := jdk_42_method_3_code
theorem d0 : decode yB 0 = .ok (.aload_n 0, 1) := by decide +kernel
theorem d1 : decode yB 1 = .ok (.aload_n 1, 1) := by decide +kernel
theorem d2 : decode yB 2 = .ok (.iconst 0, 1) := by decide +kernel
theorem d3 : decode yB 3 = .ok (.aload_n 1, 1) := by decide +kernel
theorem d4 : decode yB 4 = .ok (.arraylength, 1) := by decide +kernel
theorem d5 : decode yB 5 = .ok (.aconst_null, 1) := by decide +kernel
theorem d6 : decode yB 6 = .ok (.invokespecial 27, 3) := by decide +kernel
theorem d9 : decode yB 9 = .ok (.return_, 1) := by decide +kernel
def site : List Cond := [New4.tab] ++ initW "java/lang/String" 27 New4.yN
def tab : Cond := tabOf yN yB 2 none site
def P (a : Addr) (D : Cell) (fV fC : Field) (b : Addr) (A : Cell) (z : Int32) (args : Array Value) (s : State) : Prop := args = #[.ref a, .ref b] ∧ Blank "java/lang/String" a D s ∧ Found "java/lang/String" "value" "[B" fV s ∧ Found "java/lang/String" "coder" "B" fC s ∧ Ch b A s ∧ StaticIs s "java/lang/String" "COMPACT_STRINGS" "Z" (.int z) ∧ ¬ z = 0 ∧ 0 < A.slots.size ∧ A.slots.size ≤ 536870912 ∧ ∀ i, i < A.slots.size → ¬ 255 < cv A i
def E (a : Addr) (D : Cell) (fV fC : Field) (A : Cell) (r : Option Value) (s u : State) : Prop := Got a D fV fC A 0 A.slots.size r s u
/-- new String(chars), not empty, no char above 255: a Latin-1 String of their low bytes -/
theorem law (l : Launch) (a : Addr) (D : Cell) (fV fC : Field) (b : Addr) (A : Cell) (z : Int32) : Law l yN 2 1 3 52 yB 2 none site (P a D fV fC b A z) (E a D fV fC A) [⟨a, fC.slot⟩, ⟨a, fV.slot⟩] 1 A.slots.size := by
  refine Law.of_walk (plainFor_of_name (by decide +kernel)) (by decide +kernel) (by decide +kernel) (by decide) (fun _ _ h => by rw [h.1]; rfl) (fun _ U U' hal hh h => ⟨h.1, h.2.1.mv hal hh, h.2.2.1.al hal, h.2.2.2.1.al hal, h.2.2.2.2.1.mv hal hh, h.2.2.2.2.2.1.there hal hh, h.2.2.2.2.2.2⟩) (fun r U U' V V' h1 hal h2 h => Got.mv r U U' V V' h1 hal h2 h) ?_
  intro p e s m args below meth c s₁ X0 hexec hbytes hml hret hlk hnm hown hh0 W hP
  obtain ⟨rfl, hB, f1, f2, hA, s1, hz, l0, l2, hp⟩ := hP
  have c1 : Steps p.tables e below (s₁.setTop (entryFrame m #[.ref a, .ref b] 2)) (s₁.setTop (mkF m 0 #[.val (.ref a), .val (.ref b)] [])) := entry rfl
  have c2 : Steps p.tables e below (s₁.setTop (entryFrame m #[.ref a, .ref b] 2)) (s₁.setTop (mkF m 6 #[.val (.ref a), .val (.ref b)] [.null, .int (Int32.ofNat A.slots.size), .int 0, .ref b, .ref a])) := c1.trans (by
    refine XS.aloadN X0.here hexec rfl (hb hbytes d0) rfl rfl ?_
    refine XS.aloadN X0.here hexec rfl (hb hbytes d1) rfl rfl ?_
    refine iconstV X0.here hexec rfl 0 (hb hbytes d2) (by decide) ?_
    refine XS.aloadN X0.here hexec rfl (hb hbytes d3) rfl rfl ?_
    refine X0.alen hexec (hA.1.mv X0.warmed.alike hh0) rfl rfl (hb hbytes d4) ?_
    refine XS.aconstNull X0.here hexec rfl (hb hbytes d5) ?_
    exact Steps.refl _)
  obtain ⟨v3, T3, X3, E3, g3⟩ := X0.callN hexec (New4.law l a D fV fC b A z 0 A.slots.size) rfl hown (wks W (initW "java/lang/String" 27 New4.yN)) (W New4.tab (by simp only [site, List.mem_cons, List.mem_append, true_or, or_true])) (W := 0) (Nat.le_of_ble_eq_true rfl) (Nat.le_of_ble_eq_true rfl) (Nat.le_refl _) (by show 0 + A.slots.size ≤ A.slots.size; omega) (g := (mkF m 6 #[.val (.ref a), .val (.ref b)] [.null, .int (Int32.ofNat A.slots.size), .int (Int32.ofNat 0), .ref b, .ref a])) rfl (by rw [hml]; rfl) c2 (argsL := [.ref b, .int (Int32.ofNat 0), .int (Int32.ofNat A.slots.size), .null]) (rest := []) rfl rfl (by show 2 * 0 + 0 ≤ _; decide) (hb hbytes d6) (⟨rfl, hB.mv X0.warmed.alike hh0, f1.al X0.warmed.alike, f2.al X0.warmed.alike, hA.mv X0.warmed.alike hh0, s1.there X0.warmed.alike hh0, hz, l0, by omega, l2, fun i hi => by rw [Nat.zero_add]; exact hp i hi⟩)
  have e0 := Got.mv _ s₁ s _ _ hh0.symm (Vm.Alike.refl _) rfl E3
  obtain rfl := e0.1
  have c4 : Steps p.tables e below (s₁.setTop (entryFrame m #[.ref a, .ref b] 2)) (T3.setTop (mkF m 9 #[.val (.ref a), .val (.ref b)] [])) := g3
  exact ⟨T3, none, _, _, _, X3, by simp, rfl, by omega, (fun _ => rfl), e0, fun fs hl => c4.trans (X3.returnOut hexec hret (hb hbytes d9) hl)⟩
theorem pays {l : Launch} {R : Room} {p : Program} {e : Env} {below : List Frame} {s : State} {sargs : Array Value} {len W : Nat} (a : Addr) (D : Cell) (fV fC : Field) (b : Addr) (A : Cell) (z : Int32) (htab : tab.before sargs s = true) (hfr : 4 ≤ R.frames) (hlo : W + 65 ≤ R.locals) :
    Back l R p e below s sargs yN len W (fun A₁ a₁ => A₁.cells + 1 ≤ R.cells ∧ A₁.slots + A.slots.size ≤ R.slots ∧ P a D fV fC b A z a₁ A₁.U) (fun A₁ _ v₁ B₁ => E a D fV fC A v₁ A₁.U B₁.U ∧ B₁.locs = A₁.locs ++ [⟨a, fC.slot⟩, ⟨a, fV.slot⟩] ∧ B₁.cells = A₁.cells + 1 ∧ B₁.slots = A₁.slots + A.slots.size) :=
  (law l a D fV fC b A z).pays htab hfr (by omega)
end New1
/-- the byte, read back as charAt reads it, is the char -/
theorem lo8_mask {x : Int32} (h0 : ¬ x < 0) (h1 : ¬ 255 < x) : lo8 x &&& 255 = x := by
  have t : ∀ k : Fin 256, lo8 (Int32.ofNat k.val) &&& 255 = Int32.ofNat k.val := by decide +kernel
  rw [Int32.lt_iff_toInt_lt] at h0 h1
  have e0 : (0 : Int32).toInt = 0 := rfl
  have e1 : (255 : Int32).toInt = 255 := rfl
  obtain ⟨k, hk⟩ : ∃ k : Nat, x.toInt = k := ⟨x.toInt.toNat, by omega⟩
  have hx : x = Int32.ofNat k := Int32.toInt_inj.mp (by rw [hk, Int32.toInt_ofNat_small (by omega)])
  rw [hx]
  exact t ⟨k, by omega⟩
end StrChars
namespace StrChars.Road
open Jvm Sem ClassFile Op Lib Jvm.Stand Jvm.Free Jvm.Free.XT
open Jvm.Lib.Cold (StaticIs)
abbrev ST : String := "java/lang/String"
/-- every table word that New1's law asks, flat -/
abbrev words : List Jvm.Cond := [.code New1.yN New1.yB 2 none, .initialized ST, .methodLink ST 27 New4.yN, .instanceMethod New4.yN,
  .code New4.yN New4.yB 6 none, .fieldLink ST 38 ST "COMPACT_STRINGS" "Z", .laysFinal ST ST "value" "[B", .fieldLink ST 9 ST "value" "[B", .laysFinal ST ST "coder" "B", .fieldLink ST 15 ST "coder" "B",
  .methodLink ST 1 Lib.objectInit, .instanceMethod Lib.objectInit, .code Lib.objectInit ⟨#[0xb1]⟩ 1 none, .methodLink ST 177 Cmp3.yN, .static Cmp3.yN, .methodLink ST 47 CodL.yN, .static CodL.yN,
  .code Cmp3.yN Cmp3.yB 6 (some (.array .byte)), .initialized U16, .arrayClass .byte, .methodLink U16 115 Cmp5.yN, .static Cmp5.yN, .code Cmp5.yN Cmp5.yB 7 (some .int), .code CodL.yN CodL.yB 2 (some .byte)]
theorem tab_of {a : Array Value} {s : State} (h : ∀ w ∈ words, w.before a s = true) : New1.tab.before a s = true := by
  have h5 : Cmp5.tab.before a s = true := unparts (wk h (.code Cmp5.yN Cmp5.yB 7 (some .int))) (wks h (.initialized Cmp5.yN.cls :: Cmp5.site))
  have hc : CodL.tab.before a s = true := unparts (wk h (.code CodL.yN CodL.yB 2 (some .byte))) (wks h (.initialized CodL.yN.cls :: CodL.site))
  have q5 : ∀ w ∈ Cmp5.tab :: words, w.before a s = true := fun w hw => (List.mem_cons.mp hw).elim (fun e => e ▸ h5) (h w)
  have h3 : Cmp3.tab.before a s = true := unparts (wk q5 (.code Cmp3.yN Cmp3.yB 6 (some (.array .byte)))) (wks q5 (.initialized Cmp3.yN.cls :: Cmp3.site))
  have q3 : ∀ w ∈ Cmp3.tab :: CodL.tab :: words, w.before a s = true := fun w hw => (List.mem_cons.mp hw).elim (fun e => e ▸ h3) fun hw => (List.mem_cons.mp hw).elim (fun e => e ▸ hc) (h w)
  have h4 : New4.tab.before a s = true := unparts (wk q3 (.code New4.yN New4.yB 6 none)) (wks q3 (.initialized New4.yN.cls :: New4.site))
  have q4 : ∀ w ∈ New4.tab :: words, w.before a s = true := fun w hw => (List.mem_cons.mp hw).elim (fun e => e ▸ h4) (h w)
  exact unparts (wk q4 (.code New1.yN New1.yB 2 none)) (wks q4 (.initialized New1.yN.cls :: New1.site))
/-- the words ride from the start Z to the walk's own state -/
theorem moved {Z s : State} {a0 args : Array Value} (hZ : Z.Warmed39 s.vm) (hw : ∀ d ∈ words, d.before a0 Z = true) : ∀ d ∈ words, d.before args s = true := fun d hd => by
  have q := hw d hd
  have t : ∀ d ∈ words, d = .arrayClass .byte ∨ (d.onTables && d.keepsFace) = true := by decide +kernel
  rcases t d hd with rfl | t
  · exact RoadKit.mvA hZ q
  · exact RoadKit.mv hZ q t
/-- WHAT COMES BACK, over the tables of the start Z: h the heap at the call, h' behind it -/
def Q (Z : State) (x : Addr) (A : Cell) (h : Heap) (v : Option Value) (h' : Heap) (L : List Loc) : Prop := v = none ∧ (∀ y ∈ L, y.base = x) ∧ RoadKit.Keep h h' [x] ∧ h'.size = h.size + 1 ∧ RoadKit.Exa Z h' x ST ∧ RoadKit.Fld Z h' x ST "value" "[B" (.ref h.size) ∧ RoadKit.Fld Z h' x ST "coder" "B" (.int 0) ∧
  (∃ V : Cell, RoadKit.Arr Z h' h.size V .byte ∧ V.vm = .none ∧ Z.vm.findClass "[B" = some V.cls ∧ V.slots.size = A.slots.size ∧ ∀ j, j < A.slots.size → V.slots[j]? = some (.int (lo8 (cv A j)))) ∧
  ∀ (O n d : String) (w : Value), RoadKit.Fld Z h x O n d w → RoadKit.slotOf Z O n d ≠ RoadKit.slotOf Z ST "value" "[B" → RoadKit.slotOf Z O n d ≠ RoadKit.slotOf Z ST "coder" "B" → RoadKit.Fld Z h' x O n d w
/-- **new String(chars) AT A CALL, IN THE ROAD'S FORM**: for specialBack behind newO: x the fresh String, b the char[] with the cell A -/
theorem back {p : Program} {l : Launch} {e : Env} {R : Room} {s : State} {args : Array Value} {below : List Frame} {len W : Nat} {Z : State} {a0 : Array Value} {h : Heap} (hZ : Z.Warmed39 s.vm) (hw : ∀ d ∈ words, d.before a0 Z = true) {kI : Nat} (wi : (Jvm.Cond.instantiable ST kI).before a0 Z = true)
    {x b : Addr} {A : Cell} {z : Int32} {v0 c0 : Value} (E : RoadKit.Exa Z h x ST) (V : RoadKit.Fld Z h x ST "value" "[B" v0) (C : RoadKit.Fld Z h x ST "coder" "B" c0) (K : RoadKit.Arr Z h b A .char) (hty : Typed .char A) (S : RoadKit.Sta Z h ST "COMPACT_STRINGS" "Z" (.int z)) (hz : ¬ z = 0)
    (l0 : 0 < A.slots.size) (l2 : A.slots.size ≤ 536870912) (hp : ∀ i, i < A.slots.size → ¬ 255 < cv A i) (hfr : 4 ≤ R.frames) (hlo : W + 65 ≤ R.locals) :
    Back l R p e below s args New1.yN len W (fun P a => a = #[.ref x, .ref b] ∧ P.U.heap = h ∧ P.cells + 1 ≤ R.cells ∧ P.slots + A.slots.size ≤ R.slots)
      (fun P _ v B => ∃ L, Q Z x A h v B.U.heap L ∧ B.locs = P.locs ++ L ∧ B.cells = P.cells + 1 ∧ B.slots = P.slots + A.slots.size) := by
  intro m meth c P g ig mk a X hg hsize hdg hW hn hp'
  obtain ⟨rfl, rfl, r1, r2⟩ := hp'
  have al : Z.vm.Alike P.U.vm := hZ.alike.trans X.warmed.alike
  obtain ⟨D, cfV, kV, iV, fV, hD, gV, stV, knV, obV, asV, slV⟩ := id V
  obtain ⟨D', cfC, kC, iC, fC, hD', gC, stC, -, -, asC, slC⟩ := id C
  cases hD.symm.trans hD'
  obtain ⟨D2, kD, e1, e2, e3, e4, e5⟩ := id E
  cases hD.symm.trans e1
  obtain ⟨c2, k2, i1, i2, i3, -⟩ := Cond.instantiable_spec wi
  cases e2.symm.trans i1
  cases e3.symm.trans i2
  obtain ⟨kU, u1, u2⟩ := al.2.2 _ _ e3
  have hB : Blank ST x D P.U := ⟨hD, ⟨knV, fun q hq => by rw [hq] at obV; cases obV⟩, by rw [al.findClass]; exact e2, kU, u1, by rw [u2]; exact i3, by rw [u2]; exact e5 i3⟩
  have F1 : Found ST "value" "[B" fV P.U := ⟨SBG.found_only al ⟨cfV, kV, iV, gV⟩, stV⟩
  have F2 : Found ST "coder" "B" fC P.U := ⟨SBG.found_only al ⟨cfC, kC, iC, gC⟩, stC⟩
  have hA : Ch b A P.U := ⟨⟨K.1, State.isArrayOf_alike al K.2.1, K.2.2, by omega⟩, hty⟩
  have hS : StaticIs P.U ST "COMPACT_STRINGS" "Z" (.int z) := by
    obtain ⟨cfS, iS, kS, fS, st, cS, t1, t2, t3, t4, t5, t6, t7⟩ := S
    exact StaticIs.there (s := { Z with heap := P.U.heap }) ⟨cfS, iS, kS, fS, st, cS, t1, t2, t3, t4, t5, (fun q => by rw [q] at t6; cases t6), t7⟩ al rfl
  obtain ⟨v, B, X', ⟨⟨hv, E', V', q1, q2, q3, q4, q5, q6, q7, q8, q9, q10, q11⟩, hl, hc, hs⟩, st⟩ := New1.pays x D fV fC b A z (tab_of (moved hZ hw)) hfr hlo m meth c P g ig mk _ X hg hsize hdg hW hn ⟨r1, r2, rfl, hB, F1, F2, hA, hS, hz, l0, l2, hp⟩
  have al' : Z.vm.Alike B.U.vm := hZ.alike.trans X'.warmed.alike
  have hsz : E'.slots.size = D.slots.size := by
    obtain ⟨-, -, -, kB, w1, w2, w3⟩ := q1
    obtain ⟨kB', y1, y2⟩ := al'.2.2 _ _ e3
    rw [q2.2.1] at w1
    cases w1.symm.trans y1
    rw [w3, e5 i3, y2]
  refine ⟨v, B, X', ⟨_, ⟨hv, ?_, ⟨by omega, fun y cy hy hn' => q10 y cy (by simpa using hn') hy, fun y cy hy => ?_⟩, q11, ⟨E', _, q1.1, by rw [q2.2.1]; exact e2, by rw [q2.2.1]; exact e3, by rw [q2.1]; exact obV, fun _ => by rw [hsz]; exact e5 i3⟩,
    ⟨E', cfV, kV, iV, fV, q1.1, gV, stV, by rw [q2.1]; exact knV, by rw [q2.1]; exact obV, by rw [q2.2.1]; exact asV, q3⟩, ⟨E', cfC, kC, iC, fC, q1.1, gC, stC, by rw [q2.1]; exact knV, by rw [q2.1]; exact obV, by rw [q2.2.1]; exact asC, q4⟩,
    ⟨V', ⟨q5.1, State.isArrayOf_alike al'.symm q5.2.1, q5.2.2.1⟩, q6, by rw [← al'.findClass]; exact q7, q8, fun j hj => by have := q9 j hj; rwa [Nat.zero_add] at this⟩, fun O n d w F n1 n2 => ?_⟩, hl, hc, hs⟩, st⟩
  · intro y hy
    simp only [List.mem_cons, List.not_mem_nil, or_false] at hy
    rcases hy with rfl | rfl <;> rfl
  · by_cases q : y = x
    · subst q
      cases hD.symm.trans hy
      exact ⟨E', q1.1, q2.2.1, q2.1, hsz⟩
    · exact ⟨cy, q10 y cy q hy, rfl, rfl, rfl⟩
  · obtain ⟨D3, cf, k, i, f, g1, g2, g3, g4, g5, g6, g7⟩ := F
    cases hD.symm.trans g1
    simp only [RoadKit.slotOf, g2, gV, gC, Option.map_some, Option.getD_some] at n1 n2
    exact ⟨E', cf, k, i, f, q1.1, g2, g3, by rw [q2.1]; exact g4, by rw [q2.1]; exact g5, by rw [q2.2.1]; exact g6, by rw [q2.2.2 f.slot (by simp [n1, n2])]; exact g7⟩
end StrChars.Road
namespace StrChars.Road
open Jvm Sem ClassFile Op Lib Jvm.Stand Jvm.Free Jvm.Free.XT
/-- WHAT COMES BACK, the byte[] as a list of values -/
def QA (Z : State) (x : Addr) (zn : Int32) (cs : List Int32) (h : Heap) (v : Option Value) (h' : Heap) (L : List Loc) : Prop := v = none ∧ (∀ y ∈ L, y.base = x) ∧ RoadKit.Keep h h' [x] ∧ h'.size = h.size + 1 ∧ RoadKit.Exa Z h' x ST ∧ RoadKit.Fld Z h' x ST "value" "[B" (.ref h.size) ∧ RoadKit.Fld Z h' x ST "coder" "B" (.int 0) ∧
  (∃ kb, Z.vm.findClass "[B" = some kb ∧ RoadKit.Arv Z h' h.size kb .byte zn (cs.map fun c => .int (lo8 c)) (.int 0)) ∧
  ∀ (O n d : String) (w : Value), RoadKit.Fld Z h x O n d w → RoadKit.slotOf Z O n d ≠ RoadKit.slotOf Z ST "value" "[B" → RoadKit.slotOf Z O n d ≠ RoadKit.slotOf Z ST "coder" "B" → RoadKit.Fld Z h' x O n d w
/-- **new String(chars) AT A CALL, THE ARRAYS AS LISTS**: the char[] at b holds cs, not empty, no char above 255 -/
theorem backArv {p : Program} {l : Launch} {e : Env} {R : Room} {s : State} {args : Array Value} {below : List Frame} {len W : Nat} {Z : State} {a0 : Array Value} {h : Heap} (hZ : Z.Warmed39 s.vm) (hw : ∀ d ∈ words, d.before a0 Z = true) {kI : Nat} (wi : (Jvm.Cond.instantiable ST kI).before a0 Z = true)
    {x b : Addr} {k : ClassId} {zn z : Int32} {cs : List Int32} {dv v0 c0 : Value} (E : RoadKit.Exa Z h x ST) (V : RoadKit.Fld Z h x ST "value" "[B" v0) (C : RoadKit.Fld Z h x ST "coder" "B" c0) (K : RoadKit.Arv Z h b k .char zn (cs.map Value.int) dv) (S : RoadKit.Sta Z h ST "COMPACT_STRINGS" "Z" (.int z)) (hz : ¬ z = 0)
    (hlen : zn.toNatClampNeg = cs.length) (h0 : 0 < cs.length) (hbig : cs.length ≤ 536870912) (hall : ∀ c ∈ cs, ¬ 255 < c) (hfr : 4 ≤ R.frames) (hlo : W + 65 ≤ R.locals) :
    Back l R p e below s args New1.yN len W (fun P a => a = #[.ref x, .ref b] ∧ P.U.heap = h ∧ P.cells + 1 ≤ R.cells ∧ P.slots + cs.length ≤ R.slots)
      (fun P _ v B => ∃ L, QA Z x zn cs h v B.U.heap L ∧ B.locs = P.locs ++ L ∧ B.cells = P.cells + 1 ∧ B.slots = P.slots + cs.length) := by
  obtain ⟨A, K1, K2, K3, K4, K5, K6⟩ := K
  have e : A.slots.size = cs.length := K3.trans hlen
  have hat : ∀ (i : Nat) (hi : i < cs.length), A.slots[i]? = some (.int cs[i]) := fun i hi => by rw [K5 i (by omega)]; simp [List.getD_eq_getElem?_getD, hi]
  have hcv : ∀ (i : Nat) (hi : i < cs.length), cv A i = cs[i] := fun i hi => by unfold cv; rw [hat i hi]
  have hty : Typed .char A := fun i v hv => by
    have hi : i < A.slots.size := (Array.getElem?_eq_some_iff.mp hv).1
    have q := K5 i hi
    rw [hv] at q
    rw [Option.some.inj q]
    exact K6 i hi
  refine Back.mono (back hZ hw wi E V C K1 hty S hz (by omega) (by omega) (fun i hi => by rw [hcv i (by omega)]; exact hall _ (List.getElem_mem _)) hfr hlo) (fun P a hp => ⟨hp.1, hp.2.1, hp.2.2.1, by rw [e]; exact hp.2.2.2⟩) (fun P a v B hp hq => ?_)
  obtain ⟨L, ⟨q1, q2, q3, q4, q5, q6, q7, ⟨V', v1, v2, v3, v4, v5⟩, q9⟩, hl, hc, hs⟩ := hq
  refine ⟨L, ⟨q1, q2, q3, q4, q5, q6, q7, ⟨V'.cls, v3, V', v1, rfl, by rw [v4, e, hlen], K4, fun i hi => ?_, fun i hi => ?_⟩, q9⟩, hl, hc, by rw [hs, e]⟩
  · have hi' : i < cs.length := by omega
    rw [v5 i (by omega), hcv i hi']; simp [List.getD_eq_getElem?_getD, hi']
  · have hi' : i < cs.length := by omega
    simp only [List.getD_eq_getElem?_getD, List.getElem?_map, List.getElem?_eq_getElem hi', Option.map_some, Option.getD_some]
    exact fits_lo8 _
end StrChars.Road
namespace StrChars.Road
open Jvm Sem ClassFile Op Lib Jvm.Stand Jvm.Free Jvm.Free.XT
/-- WHAT COMES BACK, in the writer's own shape -/
def QV (Z : State) (x : Addr) (N : Int32) (bs : List Int32) (h : Heap) (n0 : Nat) (v : Option Value) (h' : Heap) (L : List Loc) : Prop := v = none ∧ RoadKit.Fr n0 L ∧ RoadKit.Keep h h' [x] ∧ RoadKit.Exa Z h' x ST ∧ RoadKit.Fld Z h' x ST "coder" "B" (.int 0) ∧
  ∃ (t : Addr) (kb : ClassId), n0 ≤ t ∧ h.size ≤ t ∧ ¬ t = x ∧ RoadKit.Fld Z h' x ST "value" "[B" (.ref t) ∧ RoadKit.Arv Z h' t kb .byte N (bs.map Value.int) (.int 0)
/-- **new String(chars) AT A CALL, FOR THE WRITER**: a char[] of n known ints, each 0 to 255 -/
theorem backV {p : Program} {l : Launch} {e : Env} {R : Room} {s : State} {args : Array Value} {below : List Frame} {len W : Nat} {Z : State} {a0 : Array Value} {h : Heap} (hZ : Z.Warmed39 s.vm) (hw : ∀ d ∈ words, d.before a0 Z = true) {kI : Nat} (wi : (Jvm.Cond.instantiable ST kI).before a0 Z = true)
    {x b : Addr} {kC : ClassId} {cs bs : List Int32} {d v0 c0 : Value} {z N : Int32} {n n0 : Nat} (hx0 : n0 ≤ x) (hh0 : n0 ≤ h.size) (E : RoadKit.Exa Z h x ST) (V : RoadKit.Fld Z h x ST "value" "[B" v0) (C : RoadKit.Fld Z h x ST "coder" "B" c0) (K : RoadKit.Arv Z h b kC .char N (cs.map Value.int) d) (S : RoadKit.Sta Z h ST "COMPACT_STRINGS" "Z" (.int z)) (hz : ¬ z = 0)
    (hn : cs.length = n) (hN : N = Int32.ofNat n) (l0 : 0 < n) (l2 : n ≤ 4000) (hp : ∀ c ∈ cs, ¬ c < 0 ∧ ¬ (255 : Int32) < c) (hb : bs = cs.map (fun c => c.toInt8.toInt32)) (hfr : 4 ≤ R.frames) (hlo : W + 65 ≤ R.locals) :
    Back l R p e below s args (⟨"java/lang/String", "<init>", "([C)V"⟩ : MethodName) len W (fun P a => a = #[.ref x, .ref b] ∧ P.U.heap = h ∧ P.cells + 1 ≤ R.cells ∧ P.slots + n ≤ R.slots)
      (fun P _ v B => ∃ L, QV Z x N bs h n0 v B.U.heap L ∧ B.locs = P.locs ++ L ∧ B.cells = P.cells + 1 ∧ B.slots = P.slots + n) := by
  subst hn hN hb
  refine Back.mono (backArv hZ hw wi E V C K S hz (n32 (by omega)) l0 (by omega) (fun c hc => (hp c hc).2) hfr hlo) (fun P a hp => hp) (fun P a v B hp hq => ?_)
  obtain ⟨L, ⟨q1, q2, q3, q4, q5, q6, q7, ⟨kb, v1, v2⟩, q9⟩, hl, hc, hs⟩ := hq
  exact ⟨L, ⟨q1, fun y hy => by rw [q2 y hy]; exact hx0, q3, q5, q7, h.size, kb, hh0, Nat.le_refl _, Nat.ne_of_gt E.lt, q6, by rw [List.map_map]; exact v2⟩, hl, hc, hs⟩
end StrChars.Road
namespace StrChars
open Jvm Sem ClassFile Op Lib Jvm.Stand Jvm.Free.XT Jvm.Free.ALB Jvm.Free.JM Jvm.Free
open Jvm.Lib.Cold (StaticIs)
def hi8 (x : Int32) : Int32 := lo8 (x >>> ((8 : Int32) &&& 31))
/-- what StringUTF16.getChar makes of two bytes -/
def pairCh (u v : Int32) : Int32 := (((u &&& 255) <<< ((0 : Int32) &&& 31)) ||| ((v &&& 255) <<< ((8 : Int32) &&& 31))).toUInt32.toUInt16.toUInt32.toInt32
theorem lo8_and (x : Int32) : (lo8 x &&& 255).toBitVec.toNat = x.toBitVec.toNat % 256 := by
  have h : (lo8 x).toBitVec = (x.toBitVec.signExtend 8).signExtend 32 := by rw [lo8, Int8.toBitVec_toInt32, Int32.toBitVec_toInt8]
  rw [Int32.toBitVec_and, BitVec.toNat_and, h]
  have e : ((x.toBitVec.signExtend 8).signExtend 32).toNat % 256 = x.toBitVec.toNat % 256 := by
    rw [BitVec.toNat_signExtend]
    have hlt := x.toBitVec.isLt
    simp only [BitVec.toNat_setWidth, BitVec.toNat_signExtend]
    split <;> split <;> omega
  rw [← e]
  exact Nat.and_two_pow_sub_one_eq_mod _ 8
theorem pair_says {c : Int32} (h0 : ¬ c < 0) (h1 : ¬ 65535 < c) : pairCh (lo8 c) (hi8 c) = c := by
  rw [Int32.lt_iff_toInt_lt] at h0 h1
  have e0 : (0 : Int32).toInt = 0 := rfl
  have e1 : (65535 : Int32).toInt = 65535 := rfl
  have hc : c.toInt = c.toBitVec.toNat := by
    have := c.toBitVec.isLt
    have e : c.toInt = c.toBitVec.toInt := rfl
    rw [e] at h0 h1
    rw [e]
    rw [BitVec.toInt_eq_toNat_cond] at h0 h1 ⊢
    split at h0 <;> split <;> omega
  have hn : c.toBitVec.toNat < 65536 := by omega
  have a1 := lo8_and c
  have a2 : (hi8 c &&& 255).toBitVec.toNat = c.toBitVec.toNat / 256 := by
    rw [hi8, lo8_and]
    have e : ((8 : Int32) &&& 31) = 8 := by decide
    rw [e, Int32.toBitVec_shiftRight]
    have e2 : ((8 : Int32).toBitVec.smod 32) = 8#32 := by decide
    rw [e2, BitVec.sshiftRight_eq', BitVec.toNat_sshiftRight_of_msb_false (by rw [BitVec.msb_eq_false_iff_two_mul_lt]; omega)]
    show c.toBitVec.toNat >>> 8 % 256 = _
    rw [Nat.shiftRight_eq_div_pow]
    omega
  unfold pairCh
  apply Int32.toBitVec_inj.mp
  apply BitVec.eq_of_toNat_eq
  have f0 : ((0 : Int32) &&& 31) = 0 := by decide
  have f8 : ((8 : Int32) &&& 31) = 8 := by decide
  rw [f0, f8]
  have g : (((lo8 c &&& 255) <<< (0 : Int32)) ||| ((hi8 c &&& 255) <<< (8 : Int32))).toBitVec.toNat = c.toBitVec.toNat := by
    rw [Int32.toBitVec_or, Int32.toBitVec_shiftLeft, Int32.toBitVec_shiftLeft]
    have s0 : ((0 : Int32).toBitVec.smod 32) = 0#32 := by decide
    have s8 : ((8 : Int32).toBitVec.smod 32) = 8#32 := by decide
    rw [s0, s8, BitVec.toNat_or]
    simp only [BitVec.shiftLeft_eq', BitVec.toNat_shiftLeft, a1, a2]
    show (c.toBitVec.toNat % 256) <<< 0 % 2 ^ 32 ||| (c.toBitVec.toNat / 256) <<< 8 % 2 ^ 32 = _
    rw [Nat.shiftLeft_zero, Nat.mod_eq_of_lt (show c.toBitVec.toNat % 256 < 2 ^ 32 by omega), Nat.mod_eq_of_lt (show (c.toBitVec.toNat / 256) <<< 8 < 2 ^ 32 by rw [Nat.shiftLeft_eq]; omega), Nat.or_comm, ← Nat.shiftLeft_add_eq_or_of_lt (by omega), Nat.shiftLeft_eq]
    omega
  show BitVec.toNat (((((lo8 c &&& 255) <<< (0 : Int32)) ||| ((hi8 c &&& 255) <<< (8 : Int32))).toBitVec.setWidth 16).setWidth 32) = _
  rw [BitVec.toNat_setWidth, BitVec.toNat_setWidth, g]
  omega
end StrChars
namespace StrChars
open Jvm Sem ClassFile Op Lib Jvm.Stand Jvm.Free.XT Jvm.Free.ALB Jvm.Free.JM Jvm.Free
open Jvm.Lib.Cold (StaticIs)
/-- the array's cell V codes the n chars f 0 .. f (n - 1) by the coder cd, as the JDK does: coder 1 just where some char is above 255 -/
def Cod (cd : Int32) (n : Nat) (f : Nat → Int32) (V : Cell) : Prop := (cd = 0 ∧ V.slots.size = n ∧ ∀ j, j < n → V.slots[j]? = some (.int (lo8 (f j))) ∧ ¬ 255 < f j) ∨ (cd = 1 ∧ V.slots.size = 2 * n ∧ (∀ j, j < n → V.slots[2 * j]? = some (.int (lo8 (f j))) ∧ V.slots[2 * j + 1]? = some (.int (hi8 (f j)))) ∧ ∃ j, j < n ∧ 255 < f j)
/-- **x is a String of the n chars f 0 .. f (n - 1)**, Latin-1 or UTF-16; its array at t has the cell V -/
def Txt (x t : Addr) (V : Cell) (cd : Int32) (n : Nat) (f : Nat → Int32) (U : State) : Prop := Exact "java/lang/String" x U ∧ Has x "java/lang/String" "value" "[B" (.ref t) U ∧ Has x "java/lang/String" "coder" "B" (.int cd) U ∧ XT.Arr .byte t V U ∧ Cod cd n f V ∧ ∀ j, j < n → ¬ f j < 0 ∧ ¬ 65535 < f j
theorem Txt.mv {x t : Addr} {V : Cell} {cd : Int32} {n : Nat} {f : Nat → Int32} {U U' : State} (h : Txt x t V cd n f U) (hal : U.vm.Alike U'.vm) (hh : U'.heap = U.heap) : Txt x t V cd n f U' := ⟨h.1.mv hal hh, h.2.1.mv hal hh, h.2.2.1.mv hal hh, h.2.2.2.1.mv hal hh, h.2.2.2.2⟩
end StrChars
namespace StrChars.Road
open Jvm Sem ClassFile Op Lib Jvm.Stand Jvm.Free Jvm.Free.XT
open Jvm.Lib.Cold (StaticIs)
theorem consq {a : Array Value} {s : State} {c : Jvm.Cond} {L : List Jvm.Cond} (h0 : c.before a s = true) (h : ∀ w ∈ L, w.before a s = true) : ∀ w ∈ c :: L, w.before a s = true := fun w hw => (List.mem_cons.mp hw).elim (fun e => e ▸ h0) (h w)
/-- the bytes of the chars cs, low before high -/
def wideBytes : List Int32 → List Value
  | [] => []
  | c :: cs => .int (lo8 c) :: .int (hi8 c) :: wideBytes cs
theorem wide_lo (d : Value) : ∀ (cs : List Int32) (j : Nat), j < cs.length → (wideBytes cs).getD (2 * j) d = .int (lo8 (cs.getD j 0))
  | [], j, h => absurd h (Nat.not_lt_zero j)
  | c :: cs, 0, _ => rfl
  | c :: cs, j + 1, h => by
    have q := wide_lo d cs j (by simpa using h)
    rw [show 2 * (j + 1) = 2 * j + 1 + 1 from by omega]
    simpa [wideBytes] using q
theorem wide_hi (d : Value) : ∀ (cs : List Int32) (j : Nat), j < cs.length → (wideBytes cs).getD (2 * j + 1) d = .int (hi8 (cs.getD j 0))
  | [], j, h => absurd h (Nat.not_lt_zero j)
  | c :: cs, 0, _ => rfl
  | c :: cs, j + 1, h => by
    have q := wide_hi d cs j (by simpa using h)
    rw [show 2 * (j + 1) + 1 = 2 * j + 1 + 1 + 1 from by omega]
    simpa [wideBytes] using q
theorem low_at (d : Value) (cs : List Int32) (j : Nat) (h : j < cs.length) : (cs.map fun c => Value.int (lo8 c)).getD j d = .int (lo8 (cs.getD j 0)) := by
  simp [List.getD_eq_getElem?_getD, h]
/-- an array of N2 bytes vs codes the chars cs by the coder cd -/
def CodA (cs : List Int32) (cd N2 : Int32) (vs : List Value) : Prop := (cd = 0 ∧ N2 = Int32.ofNat cs.length ∧ vs = (cs.map fun c => Value.int (lo8 c)) ∧ ∀ c ∈ cs, ¬ 255 < c) ∨ (cd = 1 ∧ N2 = Int32.ofNat (2 * cs.length) ∧ vs = wideBytes cs ∧ ∃ c ∈ cs, 255 < c)
theorem CodA.cod {cs : List Int32} {cd N2 : Int32} {vs : List Value} {V : Cell} (h : CodA cs cd N2 vs) (hn : 2 * cs.length < 2 ^ 31) (hs : V.slots.size = N2.toNatClampNeg) (hv : RoadKit.Has V vs (.int 0)) : Cod cd cs.length (fun j => cs.getD j 0) V := by
  rcases h with ⟨rfl, rfl, rfl, h⟩ | ⟨rfl, rfl, rfl, c, hc, hw⟩
  · rw [n32 (by omega)] at hs
    exact Or.inl ⟨rfl, hs, fun j hj => ⟨by rw [hv j (by omega), low_at _ _ _ hj], by
      have e : cs.getD j 0 = cs[j] := by simp [List.getD_eq_getElem?_getD, hj]
      show ¬ 255 < cs.getD j 0
      rw [e]; exact h _ (List.getElem_mem _)⟩⟩
  · rw [n32 (by omega)] at hs
    obtain ⟨j, hj, rfl⟩ := List.getElem_of_mem hc
    exact Or.inr ⟨rfl, hs, fun j hj => ⟨by rw [hv _ (by omega), wide_lo _ _ _ hj], by rw [hv _ (by omega), wide_hi _ _ _ hj]⟩, j, hj, by
      have e : cs.getD j 0 = cs[j] := by simp [List.getD_eq_getElem?_getD, hj]
      show 255 < cs.getD j 0
      rw [e]; exact hw⟩
/-- an object of exactly java/lang/String, its two fields found: as the laws ask it -/
theorem strObj {Z U : State} {a0 : Array Value} {kI : Nat} (wi : (Jvm.Cond.instantiable ST kI).before a0 Z = true) (al : Z.vm.Alike U.vm) {x : Addr} {v0 c0 : Value} (E : RoadKit.Exa Z U.heap x ST) (V : RoadKit.Fld Z U.heap x ST "value" "[B" v0) (C : RoadKit.Fld Z U.heap x ST "coder" "B" c0) :
    ∃ (D : Cell) (fV fC : Field), Blank ST x D U ∧ Found ST "value" "[B" fV U ∧ Found ST "coder" "B" fC U ∧ D.slots[fV.slot]? = some v0 ∧ D.slots[fC.slot]? = some c0 ∧ RoadKit.slotOf Z ST "value" "[B" = fV.slot ∧ RoadKit.slotOf Z ST "coder" "B" = fC.slot := by
  obtain ⟨D, cfV, kV, iV, fV, hD, gV, stV, knV, obV, asV, slV⟩ := V
  obtain ⟨D', cfC, kC, iC, fC, hD', gC, stC, -, -, asC, slC⟩ := C
  cases hD.symm.trans hD'
  obtain ⟨D2, kD, e1, e2, e3, e4, e5⟩ := E
  cases hD.symm.trans e1
  obtain ⟨c2, k2, i1, i2, i3, -⟩ := Cond.instantiable_spec wi
  cases e2.symm.trans i1
  cases e3.symm.trans i2
  obtain ⟨kU, u1, u2⟩ := al.2.2 _ _ e3
  exact ⟨D, fV, fC, ⟨hD, ⟨knV, fun q hq => by rw [hq] at obV; cases obV⟩, by rw [al.findClass]; exact e2, kU, u1, by rw [u2]; exact i3, by rw [u2]; exact e5 i3⟩, ⟨SBG.found_only al ⟨cfV, kV, iV, gV⟩, stV⟩, ⟨SBG.found_only al ⟨cfC, kC, iC, gC⟩, stC⟩, slV, slC, by simp [RoadKit.slotOf, gV], by simp [RoadKit.slotOf, gC]⟩
theorem sta_is {Z U : State} (al : Z.vm.Alike U.vm) {C n d : String} {v : Value} (S : RoadKit.Sta Z U.heap C n d v) : StaticIs U C n d v := by
  obtain ⟨cfS, iS, kS, fS, st, cS, t1, t2, t3, t4, t5, t6, t7⟩ := S
  exact StaticIs.there (s := { Z with heap := U.heap }) ⟨cfS, iS, kS, fS, st, cS, t1, t2, t3, t4, t5, (fun q => by rw [q] at t6; cases t6), t7⟩ al rfl
end StrChars.Road
namespace StrChars
open Jvm Sem ClassFile Op Lib Jvm.Stand Jvm.Free.XT Jvm.Free.ALB Jvm.Free.JM Jvm.Free
open Jvm.Lib.Cold (StaticIs)
/-- what place i of a byte[]'s cell holds -/
def yv (A : Cell) (i : Nat) : Int32 := match A.slots[i]? with | some (.int x) => x | _ => 0
theorem yv_get {a : Addr} {A : Cell} {U : State} (h : XT.Arr .byte a A U) (ht : Typed .byte A) {i : Nat} (hi : i < A.slots.size) : A.slots[i]? = some (.int (yv A i)) := by
  have e := Array.getElem?_eq_getElem hi
  have f := ht i _ e
  unfold yv; rw [e]
  generalize A.slots[i] = v at f
  cases v <;> simp [fits] at f ⊢
/-- the two arrays are equal, place for place -/
def EqC (A B : Cell) : Prop := A.slots.size = B.slots.size ∧ ∀ i, i < A.slots.size → yv A i = yv B i
/-- a boolean that says whether p -/
def Says01 (q : Prop) (r : Option Value) (s u : State) : Prop := ∃ v : Int32, r = some (.int v) ∧ u.heap = s.heap ∧ ((v = 1 ∧ q) ∨ (v = 0 ∧ ¬ q))
theorem Says01.mv {q : Prop} : ∀ r (U U' V V' : State), U'.heap = U.heap → V.vm.Alike V'.vm → V'.heap = V.heap → Says01 q r U V → Says01 q r U' V' :=
  fun r U U' V V' h1 _ h2 ⟨v, a, b, c⟩ => ⟨v, a, by rw [h1, h2]; exact b, c⟩
namespace LEq
def yN : MethodName := ⟨"java/lang/StringLatin1", "equals", "([B[B)Z"⟩
abbrev yB : ByteArray := jdk_43_method_13_code
theorem d0 : decode yB 0 = .ok (.aload_n 0, 1) := by decide +kernel
theorem d1 : decode yB 1 = .ok (.arraylength, 1) := by decide +kernel
theorem d2 : decode yB 2 = .ok (.aload_n 1, 1) := by decide +kernel
theorem d3 : decode yB 3 = .ok (.arraylength, 1) := by decide +kernel
theorem d4 : decode yB 4 = .ok (.if_icmp (.ne) 30, 3) := by decide +kernel
theorem d7 : decode yB 7 = .ok (.iconst 0, 1) := by decide +kernel
theorem d8 : decode yB 8 = .ok (.istore_n 2, 1) := by decide +kernel
theorem d9 : decode yB 9 = .ok (.iload_n 2, 1) := by decide +kernel
theorem d10 : decode yB 10 = .ok (.aload_n 0, 1) := by decide +kernel
theorem d11 : decode yB 11 = .ok (.arraylength, 1) := by decide +kernel
theorem d12 : decode yB 12 = .ok (.if_icmp (.ge) 20, 3) := by decide +kernel
theorem d15 : decode yB 15 = .ok (.aload_n 0, 1) := by decide +kernel
theorem d16 : decode yB 16 = .ok (.iload_n 2, 1) := by decide +kernel
theorem d17 : decode yB 17 = .ok (.baload, 1) := by decide +kernel
theorem d18 : decode yB 18 = .ok (.aload_n 1, 1) := by decide +kernel
theorem d19 : decode yB 19 = .ok (.iload_n 2, 1) := by decide +kernel
theorem d20 : decode yB 20 = .ok (.baload, 1) := by decide +kernel
theorem d21 : decode yB 21 = .ok (.if_icmp (.eq) 5, 3) := by decide +kernel
theorem d24 : decode yB 24 = .ok (.iconst 0, 1) := by decide +kernel
theorem d25 : decode yB 25 = .ok (.ireturn, 1) := by decide +kernel
theorem d26 : decode yB 26 = .ok (.iinc 2 1, 3) := by decide +kernel
theorem d29 : decode yB 29 = .ok (.goto (-20), 3) := by decide +kernel
theorem d32 : decode yB 32 = .ok (.iconst 1, 1) := by decide +kernel
theorem d33 : decode yB 33 = .ok (.ireturn, 1) := by decide +kernel
theorem d34 : decode yB 34 = .ok (.iconst 0, 1) := by decide +kernel
theorem d35 : decode yB 35 = .ok (.ireturn, 1) := by decide +kernel
def site : List Cond := []
def tab : Cond := tabOf yN yB 3 (some .boolean) site
def P (a : Addr) (A : Cell) (b : Addr) (B : Cell) (args : Array Value) (s : State) : Prop := args = #[.ref a, .ref b] ∧ XT.Arr .byte a A s ∧ Typed .byte A ∧ XT.Arr .byte b B s ∧ Typed .byte B
/-- whether two byte[] are equal, place for place -/
theorem law (l : Launch) (a : Addr) (A : Cell) (b : Addr) (B : Cell) : Law l yN 2 2 0 0 yB 3 (some .boolean) site (P a A b B) (Says01 (EqC A B)) [] 0 0 := by
  refine Law.of_walk (plainFor_of_name (by decide +kernel)) (by decide +kernel) (by decide +kernel) (by decide) (fun _ _ h => by rw [h.1]; rfl) (fun _ U U' hal hh h => ⟨h.1, h.2.1.mv hal hh, h.2.2.1, h.2.2.2.1.mv hal hh, h.2.2.2.2⟩) (fun r U U' V V' h1 hal h2 h => Says01.mv r U U' V V' h1 hal h2 h) ?_
  intro p e s m args below meth c s₁ X0 hexec hbytes hml hret hlk hnm hown hh0 W hP
  obtain ⟨rfl, hA, tA, hB, tB⟩ := hP
  have a31 := hA.2.2.2
  have b31 := hB.2.2.2
  have hA0 := hA.mv X0.warmed.alike hh0
  have hB0 := hB.mv X0.warmed.alike hh0
  have c1 : Steps p.tables e below (s₁.setTop (entryFrame m #[.ref a, .ref b] 3)) (s₁.setTop (mkF m 0 #[.val (.ref a), .val (.ref b), .unset] [])) := entry rfl
  have c2 : Steps p.tables e below (s₁.setTop (entryFrame m #[.ref a, .ref b] 3)) (s₁.setTop (mkF m 4 #[.val (.ref a), .val (.ref b), .unset] [.int (Int32.ofNat B.slots.size), .int (Int32.ofNat A.slots.size)])) := c1.trans (by
    refine XS.aloadN X0.here hexec rfl (hb hbytes d0) rfl rfl ?_
    refine X0.alen hexec hA0 rfl rfl (hb hbytes d1) ?_
    refine XS.aloadN X0.here hexec rfl (hb hbytes d2) rfl rfl ?_
    refine X0.alen hexec hB0 rfl rfl (hb hbytes d3) ?_
    exact Steps.refl _)
  by_cases hs : A.slots.size = B.slots.size
  · have c3 : Steps p.tables e below (s₁.setTop (entryFrame m #[.ref a, .ref b] 3)) (s₁.setTop (mkF m 9 #[.val (.ref a), .val (.ref b), .val (.int 0)] [])) := c2.trans (by
      refine XS.icmpNo X0.here hexec rfl (hb hbytes d4) rfl (ii_ne_f (by rw [hs])) ?_
      refine iconstV X0.here hexec rfl 0 (hb hbytes d7) (by decide) ?_
      refine XS.istoreN X0.here hexec rfl (hb hbytes d8) rfl rfl ?_
      exact Steps.refl _)
    have loop : ∀ (r i : Nat), i + r = A.slots.size → (∀ j, j < i → yv A j = yv B j) → Steps p.tables e below (s₁.setTop (entryFrame m #[.ref a, .ref b] 3)) (s₁.setTop (mkF m 9 #[.val (.ref a), .val (.ref b), .val (.int (Int32.ofNat i))] [])) → ∃ (pc : Nat) (Ls : Array Slot) (v : Int32), (pc = 25 ∨ pc = 33) ∧ ((v = 1 ∧ EqC A B) ∨ (v = 0 ∧ ¬ EqC A B)) ∧ Steps p.tables e below (s₁.setTop (entryFrame m #[.ref a, .ref b] 3)) (s₁.setTop (mkF m pc Ls [.int v])) := by
      intro r
      induction r with
      | zero =>
        intro i hi he cl
        exact ⟨33, _, 1, Or.inr rfl, Or.inl ⟨rfl, hs, fun j hj => he j (by omega)⟩, cl.trans (by
          refine XS.iloadN X0.here hexec rfl (hb hbytes d9) rfl ?_
          refine XS.aloadN X0.here hexec rfl (hb hbytes d10) rfl rfl ?_
          refine X0.alen hexec hA0 rfl rfl (hb hbytes d11) ?_
          refine XS.icmpYes X0.here hexec rfl (pc0 := 12) rfl (hb hbytes d12) rfl (ii_ge_t (nlt32 (by omega) (by omega))) (by decide) rfl ?_
          refine iconstV X0.here hexec rfl 1 (hb hbytes d32) (by decide) ?_
          exact Steps.refl _)⟩
      | succ r ih =>
        intro i hi he cl
        have c4 : Steps p.tables e below (s₁.setTop (entryFrame m #[.ref a, .ref b] 3)) (s₁.setTop (mkF m 21 #[.val (.ref a), .val (.ref b), .val (.int (Int32.ofNat i))] [.int (yv B i), .int (yv A i)])) := cl.trans (by
          refine XS.iloadN X0.here hexec rfl (hb hbytes d9) rfl ?_
          refine XS.aloadN X0.here hexec rfl (hb hbytes d10) rfl rfl ?_
          refine X0.alen hexec hA0 rfl rfl (hb hbytes d11) ?_
          refine XS.icmpNo X0.here hexec rfl (hb hbytes d12) rfl (ii_ge_f (lt32 (by omega) (by omega))) ?_
          refine XS.aloadN X0.here hexec rfl (hb hbytes d15) rfl rfl ?_
          refine XS.iloadN X0.here hexec rfl (hb hbytes d16) rfl ?_
          refine X0.aget hexec hA0 rfl (yv_get hA tA (i := i) (by omega)) rfl rfl (hb hbytes d17) ?_
          refine XS.aloadN X0.here hexec rfl (hb hbytes d18) rfl rfl ?_
          refine XS.iloadN X0.here hexec rfl (hb hbytes d19) rfl ?_
          refine X0.aget hexec hB0 rfl (yv_get hB tB (i := i) (by omega)) rfl rfl (hb hbytes d20) ?_
          exact Steps.refl _)
        by_cases hv : yv A i = yv B i
        · have c5 : Steps p.tables e below (s₁.setTop (entryFrame m #[.ref a, .ref b] 3)) (s₁.setTop (mkF m 9 #[.val (.ref a), .val (.ref b), .val (.int (Int32.ofNat i + 1))] [])) := c4.trans (by
            refine XS.icmpYes X0.here hexec rfl (pc0 := 21) rfl (hb hbytes d21) rfl (ii_eq_t hv) (by decide) rfl ?_
            refine iincV X0.here hexec rfl 1 (hb hbytes d26) (by decide) rfl rfl ?_
            refine XS.goto X0.here hexec rfl (pc0 := 29) rfl (hb hbytes d29) (by decide) rfl ?_
            exact Steps.refl _)
          rw [succ32] at c5
          exact ih (i + 1) (by omega) (fun j hj => by
            by_cases e : j = i
            · rw [e]; exact hv
            · exact he j (by omega)) c5
        · exact ⟨25, _, 0, Or.inl rfl, Or.inr ⟨rfl, fun q => hv (q.2 i (by omega))⟩, c4.trans (by
            refine XS.icmpNo X0.here hexec rfl (hb hbytes d21) rfl (ii_eq_f hv) ?_
            refine iconstV X0.here hexec rfl 0 (hb hbytes d24) (by decide) ?_
            exact Steps.refl _)⟩
    obtain ⟨pc, Ls, v, hpc, hv, cz⟩ := loop A.slots.size 0 (by omega) (fun j hj => absurd hj (Nat.not_lt_zero j)) c3
    have nv : narrow .boolean (.int v) = .int v := by rcases hv with ⟨rfl, -⟩ | ⟨rfl, -⟩ <;> rfl
    rcases hpc with rfl | rfl
    · exact ⟨s₁, some (.int v), _, _, _, X0, rfl, rfl, rfl, (fun h => by cases h), ⟨v, rfl, hh0, hv⟩, fun fs hl => cz.trans (X0.ireturnOut hexec hret nv (Or.inr (Or.inl rfl)) (hb hbytes d25) hl)⟩
    · exact ⟨s₁, some (.int v), _, _, _, X0, rfl, rfl, rfl, (fun h => by cases h), ⟨v, rfl, hh0, hv⟩, fun fs hl => cz.trans (X0.ireturnOut hexec hret nv (Or.inr (Or.inl rfl)) (hb hbytes d33) hl)⟩
  · have c3 : Steps p.tables e below (s₁.setTop (entryFrame m #[.ref a, .ref b] 3)) (s₁.setTop (mkF m 35 #[.val (.ref a), .val (.ref b), .unset] [.int 0])) := c2.trans (by
      refine XS.icmpYes X0.here hexec rfl (pc0 := 4) rfl (hb hbytes d4) rfl (ii_ne_t (ne32 a31 b31 hs)) (by decide) rfl ?_
      refine iconstV X0.here hexec rfl 0 (hb hbytes d34) (by decide) ?_
      exact Steps.refl _)
    exact ⟨s₁, some (.int 0), _, _, _, X0, rfl, rfl, rfl, (fun h => by cases h), ⟨0, rfl, hh0, Or.inr ⟨rfl, fun q => hs q.1⟩⟩, fun fs hl => c3.trans (X0.ireturnOut hexec hret rfl (Or.inr (Or.inl rfl)) (hb hbytes d35) hl)⟩
end LEq
theorem Cod.ty {cd : Int32} {n : Nat} {f : Nat → Int32} {V : Cell} (h : Cod cd n f V) : Typed .byte V := fun i v hv => by
  have hi : i < V.slots.size := (Array.getElem?_eq_some_iff.mp hv).1
  rcases h with ⟨-, k1, k2⟩ | ⟨-, k1, k2, -⟩
  · rw [(k2 i (by omega)).1] at hv; cases hv; exact fits_lo8 _
  · rcases Nat.mod_two_eq_zero_or_one i with e | e
    · obtain ⟨j, rfl⟩ : ∃ j, i = 2 * j := ⟨i / 2, by omega⟩
      rw [(k2 j (by omega)).1] at hv; cases hv; exact fits_lo8 _
    · obtain ⟨j, rfl⟩ : ∃ j, i = 2 * j + 1 := ⟨i / 2, by omega⟩
      rw [(k2 j (by omega)).2] at hv; cases hv; exact fits_lo8 _
/-- the same text -/
def SameT (n : Nat) (f : Nat → Int32) (k : Nat) (g : Nat → Int32) : Prop := n = k ∧ ∀ j, j < n → f j = g j
theorem lo8_inj {x y : Int32} (h0 : ¬ x < 0) (h1 : ¬ 255 < x) (k0 : ¬ y < 0) (k1 : ¬ 255 < y) (h : lo8 x = lo8 y) : x = y := by
  rw [← lo8_mask h0 h1, ← lo8_mask k0 k1, h]
/-- arrays coded by one coder are equal just where the texts are -/
theorem Cod.eqv {cd : Int32} {n k : Nat} {f g : Nat → Int32} {V V' : Cell} (h : Cod cd n f V) (h' : Cod cd k g V') (hf : ∀ j, j < n → ¬ f j < 0 ∧ ¬ 65535 < f j) (hg : ∀ j, j < k → ¬ g j < 0 ∧ ¬ 65535 < g j) : EqC V V' ↔ SameT n f k g := by
  have yvv : ∀ {W : Cell} {i : Nat} {x : Int32}, W.slots[i]? = some (.int x) → yv W i = x := fun q => by unfold yv; rw [q]
  rcases h with ⟨rfl, k1, k2⟩ | ⟨rfl, k1, k2, -⟩
  · rcases h' with ⟨-, m1, m2⟩ | ⟨e, -⟩
    · constructor
      · rintro ⟨e1, e2⟩
        refine ⟨by omega, fun j hj => ?_⟩
        have q := e2 j (by omega)
        rw [yvv (k2 j hj).1, yvv (m2 j (by omega)).1] at q
        exact lo8_inj (hf j hj).1 (k2 j hj).2 (hg j (by omega)).1 (m2 j (by omega)).2 q
      · rintro ⟨rfl, e2⟩
        refine ⟨by omega, fun j hj => ?_⟩
        rw [yvv (k2 j (by omega)).1, yvv (m2 j (by omega)).1, e2 j (by omega)]
    · exact absurd e (by decide)
  · rcases h' with ⟨e, -⟩ | ⟨-, m1, m2, -⟩
    · exact absurd e (by decide)
    · constructor
      · rintro ⟨e1, e2⟩
        refine ⟨by omega, fun j hj => ?_⟩
        have q1 := e2 (2 * j) (by omega)
        have q2 := e2 (2 * j + 1) (by omega)
        rw [yvv (k2 j hj).1, yvv (m2 j (by omega)).1] at q1
        rw [yvv (k2 j hj).2, yvv (m2 j (by omega)).2] at q2
        rw [← pair_says (hf j hj).1 (hf j hj).2, ← pair_says (hg j (by omega)).1 (hg j (by omega)).2, q1, q2]
      · rintro ⟨rfl, e2⟩
        refine ⟨by omega, fun i hi => ?_⟩
        rcases Nat.mod_two_eq_zero_or_one i with e | e
        · obtain ⟨j, rfl⟩ : ∃ j, i = 2 * j := ⟨i / 2, by omega⟩
          rw [yvv (k2 j (by omega)).1, yvv (m2 j (by omega)).1, e2 j (by omega)]
        · obtain ⟨j, rfl⟩ : ∃ j, i = 2 * j + 1 := ⟨i / 2, by omega⟩
          rw [yvv (k2 j (by omega)).2, yvv (m2 j (by omega)).2, e2 j (by omega)]
/-- two codings differ: so do the texts -/
theorem Cod.dif {cd cd' : Int32} {n k : Nat} {f g : Nat → Int32} {V V' : Cell} (h : Cod cd n f V) (h' : Cod cd' k g V') (hne : ¬ cd = cd') : ¬ SameT n f k g := by
  rintro ⟨rfl, e⟩
  rcases h with ⟨rfl, -, k2⟩ | ⟨rfl, -, -, j, hj, hw⟩
  · rcases h' with ⟨rfl, -⟩ | ⟨-, -, -, j, hj, hw⟩
    · exact hne rfl
    · exact (k2 j hj).2 (by rw [e j hj]; exact hw)
  · rcases h' with ⟨-, -, m2⟩ | ⟨rfl, -⟩
    · exact (m2 j hj).2 (by rw [← e j hj]; exact hw)
    · exact hne rfl
/-- an object of exactly C is an instance of C -/
theorem cinst {p : Program} {l : Launch} {e : Env} {R : Room} {s : State} {m : MethodId} {args : Array Value} {below : List Frame} {meth : Method} {c : Code} {T : State} {locs : List Loc} {cells slots : Nat} (X : Stand p l e R s m args below meth c T locs cells slots) (hexec : p.tables.exec = Jvm.exec) {own C : String} {index : Nat} (hown : s.vm.findClass own = some m.cls) (hlink : (Cond.classLink own index C).before args s = true) {a : Addr} (hE : Exact C a T)
    {g : JFrame} (hg : g.method = m) {rest : List Value} (hstack : g.stack = .ref a :: rest) (hdg : decode c.code g.pc = .ok (.instanceof index, 3)) :
    ∃ T', Stand p l e R s m args below meth c T' locs cells slots ∧ T'.heap = T.heap ∧ ∀ target, Steps p.tables e below (T'.setTop { g with pc := g.pc + 3, stack := .int 1 :: rest }) target → Steps p.tables e below (T.setTop g) target := by
  obtain ⟨cB, h1, D, h2, h3, h4⟩ := hE
  have h1' : s.vm.findClass C = some cB := by rw [← X.warmed.alike.findClass]; exact h1
  obtain ⟨vm', X', st⟩ := X.instanceofYes hexec hown hlink h2 h4 h1' (by rw [h3]; exact Jvm.Free.SB.assignable_self _ _) hg hstack hdg
  exact ⟨_, X', rfl, st⟩
theorem cself {p : Program} {l : Launch} {e : Env} {R : Room} {s : State} {m : MethodId} {args : Array Value} {below : List Frame} {meth : Method} {c : Code} {T : State} {locs : List Loc} {cells slots : Nat} (X : Stand p l e R s m args below meth c T locs cells slots) (hexec : p.tables.exec = Jvm.exec) {own C : String} {index : Nat} (hown : s.vm.findClass own = some m.cls) (hlink : (Cond.classLink own index C).before args s = true) {a : Addr} (hE : Exact C a T)
    {g : JFrame} (hg : g.method = m) {rest : List Value} (hstack : g.stack = .ref a :: rest) (hdg : decode c.code g.pc = .ok (.checkcast index, 3)) :
    ∃ T', Stand p l e R s m args below meth c T' locs cells slots ∧ T'.heap = T.heap ∧ ∀ target, Steps p.tables e below (T'.setTop { g with pc := g.pc + 3, stack := .ref a :: rest }) target → Steps p.tables e below (T.setTop g) target := by
  obtain ⟨cB, h1, D, h2, h3, h4⟩ := hE
  have h1' : s.vm.findClass C = some cB := by rw [← X.warmed.alike.findClass]; exact h1
  obtain ⟨vm', X', st⟩ := X.checkcastYes hexec hown hlink h2 h4 h1' (by rw [h3]; exact Jvm.Free.SB.assignable_self _ _) hg hstack hdg
  exact ⟨_, X', rfl, fun t h => st t (by rw [← hstack] at h; exact h)⟩
namespace SEq
def yN : MethodName := ⟨"java/lang/String", "equals", "(Ljava/lang/Object;)Z"⟩
abbrev yB : ByteArray := jdk_42_method_66_code
theorem d0 : decode yB 0 = .ok (.aload_n 0, 1) := by decide +kernel
theorem d1 : decode yB 1 = .ok (.aload_n 1, 1) := by decide +kernel
theorem d2 : decode yB 2 = .ok (.if_acmp (.ne) 5, 3) := by decide +kernel
theorem d5 : decode yB 5 = .ok (.iconst 1, 1) := by decide +kernel
theorem d6 : decode yB 6 = .ok (.ireturn, 1) := by decide +kernel
theorem d7 : decode yB 7 = .ok (.aload_n 1, 1) := by decide +kernel
theorem d8 : decode yB 8 = .ok (.instanceof 10, 3) := by decide +kernel
theorem d11 : decode yB 11 = .ok (.ifCond (.eq) 43, 3) := by decide +kernel
theorem d14 : decode yB 14 = .ok (.aload_n 1, 1) := by decide +kernel
theorem d15 : decode yB 15 = .ok (.checkcast 10, 3) := by decide +kernel
theorem d18 : decode yB 18 = .ok (.astore_n 2, 1) := by decide +kernel
theorem d19 : decode yB 19 = .ok (.getstatic 38, 3) := by decide +kernel
theorem d22 : decode yB 22 = .ok (.ifCond (.eq) 14, 3) := by decide +kernel
theorem d25 : decode yB 25 = .ok (.aload_n 0, 1) := by decide +kernel
theorem d26 : decode yB 26 = .ok (.getfield 15, 3) := by decide +kernel
theorem d29 : decode yB 29 = .ok (.aload_n 2, 1) := by decide +kernel
theorem d30 : decode yB 30 = .ok (.getfield 15, 3) := by decide +kernel
theorem d33 : decode yB 33 = .ok (.if_icmp (.ne) 21, 3) := by decide +kernel
theorem d36 : decode yB 36 = .ok (.aload_n 0, 1) := by decide +kernel
theorem d37 : decode yB 37 = .ok (.getfield 9, 3) := by decide +kernel
theorem d40 : decode yB 40 = .ok (.aload_n 2, 1) := by decide +kernel
theorem d41 : decode yB 41 = .ok (.getfield 9, 3) := by decide +kernel
theorem d44 : decode yB 44 = .ok (.invokestatic 541, 3) := by decide +kernel
theorem d47 : decode yB 47 = .ok (.ifCond (.eq) 7, 3) := by decide +kernel
theorem d50 : decode yB 50 = .ok (.iconst 1, 1) := by decide +kernel
theorem d51 : decode yB 51 = .ok (.goto 4, 3) := by decide +kernel
theorem d54 : decode yB 54 = .ok (.iconst 0, 1) := by decide +kernel
theorem d55 : decode yB 55 = .ok (.ireturn, 1) := by decide +kernel
def site : List Cond := [.classLink "java/lang/String" 10 "java/lang/String", .fieldLink "java/lang/String" 38 "java/lang/String" "COMPACT_STRINGS" "Z", .fieldLink "java/lang/String" 15 "java/lang/String" "coder" "B", .fieldLink "java/lang/String" 9 "java/lang/String" "value" "[B", LEq.tab] ++ staticW "java/lang/String" 541 LEq.yN
def tab : Cond := tabOf yN yB 3 (some .boolean) site
def P (x t : Addr) (V : Cell) (cd : Int32) (n : Nat) (f : Nat → Int32) (y t' : Addr) (V' : Cell) (cd' : Int32) (k : Nat) (g : Nat → Int32) (z : Int32) (args : Array Value) (s : State) : Prop := args = #[.ref x, .ref y] ∧ Txt x t V cd n f s ∧ Txt y t' V' cd' k g s ∧ StaticIs s "java/lang/String" "COMPACT_STRINGS" "Z" (.int z) ∧ ¬ z = 0
/-- equals(Object) of two Strings: whether the texts are the same -/
theorem law (l : Launch) (x t : Addr) (V : Cell) (cd : Int32) (n : Nat) (f : Nat → Int32) (y t' : Addr) (V' : Cell) (cd' : Int32) (k : Nat) (g : Nat → Int32) (z : Int32) : Law l yN 2 1 1 14 yB 3 (some .boolean) site (P x t V cd n f y t' V' cd' k g z) (Says01 (SameT n f k g)) [] 0 0 := by
  refine Law.of_walk (plainFor_of_name (by decide +kernel)) (by decide +kernel) (by decide +kernel) (by decide) (fun _ _ h => by rw [h.1]; rfl) (fun _ U U' hal hh h => ⟨h.1, h.2.1.mv hal hh, h.2.2.1.mv hal hh, h.2.2.2.1.there hal hh, h.2.2.2.2⟩) (fun r U U' V V' h1 hal h2 h => Says01.mv r U U' V V' h1 hal h2 h) ?_
  intro p e s m args below meth c s₁ X0 hexec hbytes hml hret hlk hnm hown hh0 W hP
  obtain ⟨rfl, hx, hy, s1, hz⟩ := hP
  have c1 : Steps p.tables e below (s₁.setTop (entryFrame m #[.ref x, .ref y] 3)) (s₁.setTop (mkF m 2 #[.val (.ref x), .val (.ref y), .unset] [.ref y, .ref x])) := Steps.trans (entry rfl) (by
    show Steps p.tables e below (s₁.setTop (mkF m 0 #[.val (.ref x), .val (.ref y), .unset] [])) _
    refine XS.aloadN X0.here hexec rfl (hb hbytes d0) rfl rfl ?_
    refine XS.aloadN X0.here hexec rfl (hb hbytes d1) rfl rfl ?_
    exact Steps.refl _)
  by_cases hxy : x = y
  · have c2 : Steps p.tables e below (s₁.setTop (entryFrame m #[.ref x, .ref y] 3)) (s₁.setTop (mkF m 6 #[.val (.ref x), .val (.ref y), .unset] [.int 1])) := c1.trans (by
      refine acmpNo X0.here hexec rfl (hb hbytes d2) rfl rfl rfl (by simp [acmp, hxy]) ?_
      refine iconstV X0.here hexec rfl 1 (hb hbytes d5) (by decide) ?_
      exact Steps.refl _)
    subst hxy
    have ec : cd = cd' := by
      obtain ⟨D, fd, a1, a2, a3⟩ := hx.2.2.1
      obtain ⟨D', fd', b1, b2, b3⟩ := hy.2.2.1
      cases a1.symm.trans b1
      obtain ⟨q1, q2, q3, q4⟩ := a2.1
      obtain ⟨r1, r2, r3, r4⟩ := b2.1
      cases q4.symm.trans r4
      cases a3.symm.trans b3; rfl
    have et : t = t' := by
      obtain ⟨D, fd, a1, a2, a3⟩ := hx.2.1
      obtain ⟨D', fd', b1, b2, b3⟩ := hy.2.1
      cases a1.symm.trans b1
      obtain ⟨q1, q2, q3, q4⟩ := a2.1
      obtain ⟨r1, r2, r3, r4⟩ := b2.1
      cases q4.symm.trans r4
      cases a3.symm.trans b3; rfl
    subst ec et
    have ev : V = V' := by cases hx.2.2.2.1.1.symm.trans hy.2.2.2.1.1; rfl
    subst ev
    have hs : SameT n f k g := (Cod.eqv hx.2.2.2.2.1 hy.2.2.2.2.1 hx.2.2.2.2.2 hy.2.2.2.2.2).mp ⟨rfl, fun _ _ => rfl⟩
    exact ⟨s₁, some (.int 1), _, _, _, X0, rfl, rfl, rfl, (fun h => by cases h), ⟨1, rfl, hh0, Or.inl ⟨rfl, hs⟩⟩, fun fs hl => c2.trans (X0.ireturnOut hexec hret rfl (Or.inr (Or.inl rfl)) (hb hbytes d6) hl)⟩
  · have c2 : Steps p.tables e below (s₁.setTop (entryFrame m #[.ref x, .ref y] 3)) (s₁.setTop (mkF m 8 #[.val (.ref x), .val (.ref y), .unset] [.ref y])) := c1.trans (by
      refine acmpYes X0.here hexec rfl (pc0 := 2) rfl (hb hbytes d2) rfl rfl rfl (by simp [acmp, hxy]) (by decide) rfl ?_
      refine XS.aloadN X0.here hexec rfl (hb hbytes d7) rfl rfl ?_
      exact Steps.refl _)
    obtain ⟨T3, X3, q3, st3⟩ := cinst X0 hexec hown (wk W (.classLink "java/lang/String" 10 "java/lang/String")) (hy.mv X0.warmed.alike hh0).1 (g := (mkF m 8 #[.val (.ref x), .val (.ref y), .unset] [.ref y])) rfl (rest := []) rfl (hb hbytes d8)
    have hh3 := q3.trans hh0
    have c4 : Steps p.tables e below (s₁.setTop (entryFrame m #[.ref x, .ref y] 3)) (T3.setTop (mkF m 15 #[.val (.ref x), .val (.ref y), .unset] [.ref y])) := (c2.trans (st3 _ (Steps.refl _))).trans (by
      refine XS.ifNo X3.here hexec rfl (hb hbytes d11) rfl (i0_eq_f (by decide)) ?_
      refine XS.aloadN X3.here hexec rfl (hb hbytes d14) rfl rfl ?_
      exact Steps.refl _)
    obtain ⟨T5, X5, q5, st5⟩ := cself X3 hexec hown (wk W (.classLink "java/lang/String" 10 "java/lang/String")) (hy.mv X3.warmed.alike hh3).1 (g := (mkF m 15 #[.val (.ref x), .val (.ref y), .unset] [.ref y])) rfl (rest := []) rfl (hb hbytes d15)
    have hh5 := q5.trans hh3
    have c6 : Steps p.tables e below (s₁.setTop (entryFrame m #[.ref x, .ref y] 3)) (T5.setTop (mkF m 19 #[.val (.ref x), .val (.ref y), .val (.ref y)] [])) := (c4.trans (st5 _ (Steps.refl _))).trans (by
      refine XS.astoreN X5.here hexec rfl (hb hbytes d18) rfl rfl rfl ?_
      exact Steps.refl _)
    obtain ⟨T7, X7, q7, st7⟩ := X5.sget hexec hown (wk W (.fieldLink "java/lang/String" 38 "java/lang/String" "COMPACT_STRINGS" "Z")) s1 (fun _ _ h => by rw [hh5]; exact h) (g := (mkF m 19 #[.val (.ref x), .val (.ref y), .val (.ref y)] [])) rfl (hb hbytes d19)
    have hh7 := q7.trans hh5
    have c8 : Steps p.tables e below (s₁.setTop (entryFrame m #[.ref x, .ref y] 3)) (T7.setTop (mkF m 26 #[.val (.ref x), .val (.ref y), .val (.ref y)] [.ref x])) := (c6.trans (st7 _ (Steps.refl _))).trans (by
      refine XS.ifNo X7.here hexec rfl (hb hbytes d22) rfl (i0_eq_f hz) ?_
      refine XS.aloadN X7.here hexec rfl (hb hbytes d25) rfl rfl ?_
      exact Steps.refl _)
    obtain ⟨T9, X9, q9, st9⟩ := X7.hget hexec hown (wk W (.fieldLink "java/lang/String" 15 "java/lang/String" "coder" "B")) (hx.mv X7.warmed.alike hh7).2.2.1 (g := (mkF m 26 #[.val (.ref x), .val (.ref y), .val (.ref y)] [.ref x])) rfl (rest := []) rfl (hb hbytes d26)
    have hh9 := q9.trans hh7
    have c10 : Steps p.tables e below (s₁.setTop (entryFrame m #[.ref x, .ref y] 3)) (T9.setTop (mkF m 30 #[.val (.ref x), .val (.ref y), .val (.ref y)] [.ref y, .int cd])) := (c8.trans (st9 _ (Steps.refl _))).trans (by
      refine XS.aloadN X9.here hexec rfl (hb hbytes d29) rfl rfl ?_
      exact Steps.refl _)
    obtain ⟨T11, X11, q11, st11⟩ := X9.hget hexec hown (wk W (.fieldLink "java/lang/String" 15 "java/lang/String" "coder" "B")) (hy.mv X9.warmed.alike hh9).2.2.1 (g := (mkF m 30 #[.val (.ref x), .val (.ref y), .val (.ref y)] [.ref y, .int cd])) rfl (rest := [.int cd]) rfl (hb hbytes d30)
    have hh11 := q11.trans hh9
    have c12 : Steps p.tables e below (s₁.setTop (entryFrame m #[.ref x, .ref y] 3)) (T11.setTop (mkF m 33 #[.val (.ref x), .val (.ref y), .val (.ref y)] [.int cd', .int cd])) := c10.trans (st11 _ (Steps.refl _))
    by_cases hcd : cd = cd'
    · subst hcd
      have c13 : Steps p.tables e below (s₁.setTop (entryFrame m #[.ref x, .ref y] 3)) (T11.setTop (mkF m 37 #[.val (.ref x), .val (.ref y), .val (.ref y)] [.ref x])) := c12.trans (by
        refine XS.icmpNo X11.here hexec rfl (hb hbytes d33) rfl (ii_ne_f rfl) ?_
        refine XS.aloadN X11.here hexec rfl (hb hbytes d36) rfl rfl ?_
        exact Steps.refl _)
      obtain ⟨T14, X14, q14, st14⟩ := X11.hget hexec hown (wk W (.fieldLink "java/lang/String" 9 "java/lang/String" "value" "[B")) (hx.mv X11.warmed.alike hh11).2.1 (g := (mkF m 37 #[.val (.ref x), .val (.ref y), .val (.ref y)] [.ref x])) rfl (rest := []) rfl (hb hbytes d37)
      have hh14 := q14.trans hh11
      have c15 : Steps p.tables e below (s₁.setTop (entryFrame m #[.ref x, .ref y] 3)) (T14.setTop (mkF m 41 #[.val (.ref x), .val (.ref y), .val (.ref y)] [.ref y, .ref t])) := (c13.trans (st14 _ (Steps.refl _))).trans (by
        refine XS.aloadN X14.here hexec rfl (hb hbytes d40) rfl rfl ?_
        exact Steps.refl _)
      obtain ⟨T16, X16, q16, st16⟩ := X14.hget hexec hown (wk W (.fieldLink "java/lang/String" 9 "java/lang/String" "value" "[B")) (hy.mv X14.warmed.alike hh14).2.1 (g := (mkF m 41 #[.val (.ref x), .val (.ref y), .val (.ref y)] [.ref y, .ref t])) rfl (rest := [.ref t]) rfl (hb hbytes d41)
      have hh16 := q16.trans hh14
      have c17 : Steps p.tables e below (s₁.setTop (entryFrame m #[.ref x, .ref y] 3)) (T16.setTop (mkF m 44 #[.val (.ref x), .val (.ref y), .val (.ref y)] [.ref t', .ref t])) := c15.trans (st16 _ (Steps.refl _))
      obtain ⟨v18, T18, X18, E18, g18⟩ := X16.callS hexec (LEq.law l t V t' V') hown (wks W (staticW "java/lang/String" 541 LEq.yN)) (wk W LEq.tab) (W := 0) (Nat.le_of_ble_eq_true rfl) (Nat.le_of_ble_eq_true rfl) (Nat.le_refl _) (Nat.le_refl _) (g := (mkF m 44 #[.val (.ref x), .val (.ref y), .val (.ref y)] [.ref t', .ref t])) rfl (by rw [hml]; rfl) c17 (argsL := [.ref t, .ref t']) (rest := []) rfl rfl (by show 2 * 0 + 0 ≤ _; decide) (hb hbytes d44) (⟨rfl, hx.2.2.2.1.mv X16.warmed.alike hh16, hx.2.2.2.2.1.ty, hy.2.2.2.1.mv X16.warmed.alike hh16, hy.2.2.2.2.1.ty⟩)
      obtain ⟨v, rfl, q18, hv⟩ := E18
      have iff := Cod.eqv hx.2.2.2.2.1 hy.2.2.2.2.1 hx.2.2.2.2.2 hy.2.2.2.2.2
      rcases hv with ⟨rfl, he⟩ | ⟨rfl, he⟩
      · have c19 : Steps p.tables e below (s₁.setTop (entryFrame m #[.ref x, .ref y] 3)) (T18.setTop (mkF m 55 #[.val (.ref x), .val (.ref y), .val (.ref y)] [.int 1])) := Steps.trans g18 (by
          refine XS.ifNo X18.here hexec rfl (hb hbytes d47) rfl (i0_eq_f (by decide)) ?_
          refine iconstV X18.here hexec rfl 1 (hb hbytes d50) (by decide) ?_
          refine XS.goto X18.here hexec rfl (pc0 := 51) rfl (hb hbytes d51) (by decide) rfl ?_
          exact Steps.refl _)
        exact ⟨T18, some (.int 1), _, _, _, X18, rfl, rfl, rfl, (fun h => by cases h), ⟨1, rfl, q18.trans hh16, Or.inl ⟨rfl, iff.mp he⟩⟩, fun fs hl => c19.trans (X18.ireturnOut hexec hret rfl (Or.inr (Or.inl rfl)) (hb hbytes d55) hl)⟩
      · have c19 : Steps p.tables e below (s₁.setTop (entryFrame m #[.ref x, .ref y] 3)) (T18.setTop (mkF m 55 #[.val (.ref x), .val (.ref y), .val (.ref y)] [.int 0])) := Steps.trans g18 (by
          refine XS.ifYes X18.here hexec rfl (pc0 := 47) rfl (hb hbytes d47) rfl (i0_eq_t rfl) (by decide) rfl ?_
          refine iconstV X18.here hexec rfl 0 (hb hbytes d54) (by decide) ?_
          exact Steps.refl _)
        exact ⟨T18, some (.int 0), _, _, _, X18, rfl, rfl, rfl, (fun h => by cases h), ⟨0, rfl, q18.trans hh16, Or.inr ⟨rfl, fun q => he (iff.mpr q)⟩⟩, fun fs hl => c19.trans (X18.ireturnOut hexec hret rfl (Or.inr (Or.inl rfl)) (hb hbytes d55) hl)⟩
    · have c13 : Steps p.tables e below (s₁.setTop (entryFrame m #[.ref x, .ref y] 3)) (T11.setTop (mkF m 55 #[.val (.ref x), .val (.ref y), .val (.ref y)] [.int 0])) := c12.trans (by
        refine XS.icmpYes X11.here hexec rfl (pc0 := 33) rfl (hb hbytes d33) rfl (ii_ne_t hcd) (by decide) rfl ?_
        refine iconstV X11.here hexec rfl 0 (hb hbytes d54) (by decide) ?_
        exact Steps.refl _)
      exact ⟨T11, some (.int 0), _, _, _, X11, rfl, rfl, rfl, (fun h => by cases h), ⟨0, rfl, hh11, Or.inr ⟨rfl, Cod.dif hx.2.2.2.2.1 hy.2.2.2.2.1 hcd⟩⟩, fun fs hl => c13.trans (X11.ireturnOut hexec hret rfl (Or.inr (Or.inl rfl)) (hb hbytes d55) hl)⟩
theorem pays {l : Launch} {R : Room} {p : Program} {e : Env} {below : List Frame} {s : State} {sargs : Array Value} {len W : Nat} (x t : Addr) (V : Cell) (cd : Int32) (n : Nat) (f : Nat → Int32) (y t' : Addr) (V' : Cell) (cd' : Int32) (k : Nat) (g : Nat → Int32) (z : Int32) (htab : tab.before sargs s = true) (hfr : 2 ≤ R.frames) (hlo : W + 28 ≤ R.locals) :
    Back l R p e below s sargs yN len W (fun A₁ a₁ => A₁.cells + 0 ≤ R.cells ∧ A₁.slots + 0 ≤ R.slots ∧ P x t V cd n f y t' V' cd' k g z a₁ A₁.U) (fun A₁ _ v₁ B₁ => Says01 (SameT n f k g) v₁ A₁.U B₁.U ∧ B₁.locs = A₁.locs ++ [] ∧ B₁.cells = A₁.cells + 0 ∧ B₁.slots = A₁.slots + 0) :=
  (law l x t V cd n f y t' V' cd' k g z).pays htab hfr (by omega)
end SEq
end StrChars
namespace StrChars.Road
open Jvm Sem ClassFile Op Lib Jvm.Stand Jvm.Free Jvm.Free.XT
open Jvm.Lib.Cold (StaticIs)
/-- the words of String.equals(Object) -/
abbrev wordsEq : List Jvm.Cond := [.code SEq.yN SEq.yB 3 (some .boolean), .initialized ST, .classLink ST 10 ST, .fieldLink ST 38 ST "COMPACT_STRINGS" "Z", .fieldLink ST 15 ST "coder" "B", .fieldLink ST 9 ST "value" "[B", .methodLink ST 541 LEq.yN, .static LEq.yN, .code LEq.yN LEq.yB 3 (some .boolean), .initialized "java/lang/StringLatin1"]
theorem tabEq_of {a : Array Value} {s : State} (h : ∀ w ∈ wordsEq, w.before a s = true) : SEq.tab.before a s = true := by
  have hl : LEq.tab.before a s = true := unparts (wk h (.code LEq.yN LEq.yB 3 (some .boolean))) (wks h (.initialized LEq.yN.cls :: LEq.site))
  have q := consq hl h
  exact unparts (wk q (.code SEq.yN SEq.yB 3 (some .boolean))) (wks q (.initialized SEq.yN.cls :: SEq.site))
theorem movedEq {Z s : State} {a0 args : Array Value} (hZ : Z.Warmed39 s.vm) (hw : ∀ d ∈ wordsEq, d.before a0 Z = true) : ∀ d ∈ wordsEq, d.before args s = true := fun d hd => by
  have t : ∀ d ∈ wordsEq, (d.onTables && d.keepsFace) = true := by decide +kernel
  exact RoadKit.mv hZ (hw d hd) (t d hd)
/-- the road's facts of a String, as the laws ask it -/
theorem txt_of {Z U : State} {a0 : Array Value} {kI : Nat} (wi : (Jvm.Cond.instantiable ST kI).before a0 Z = true) (al : Z.vm.Alike U.vm) {x t : Addr} {kb : ClassId} {cs : List Int32} {cd N2 : Int32} {vs : List Value} (E : RoadKit.Exa Z U.heap x ST) (V : RoadKit.Fld Z U.heap x ST "value" "[B" (.ref t)) (C : RoadKit.Fld Z U.heap x ST "coder" "B" (.int cd)) (K : RoadKit.Arv Z U.heap t kb .byte N2 vs (.int 0)) (hc : CodA cs cd N2 vs) (hb : ∀ c ∈ cs, ¬ c < 0 ∧ ¬ (65535 : Int32) < c) (l2 : cs.length ≤ 4000) :
    ∃ A, Txt x t A cd cs.length (fun j => cs.getD j 0) U := by
  obtain ⟨A, K1, K2, K3, K4, K5, K6⟩ := K
  have hcod := hc.cod (by omega) K3 K5
  obtain ⟨D, fV, fC, hB, F1, F2, g1, g2, -, -⟩ := strObj wi al E V C
  exact ⟨A, ⟨_, hB.2.2.1, D, hB.1, rfl, by cases q : D.vm <;> first | rfl | exact absurd q (hB.2.1.2 _)⟩, Has.of hB F1 g1, Has.of hB F2 g2, ⟨K1.1, State.isArrayOf_alike al K1.2.1, K1.2.2, by rcases hcod with ⟨-, q, -⟩ | ⟨-, q, -⟩ <;> omega⟩, hcod, fun j hj => by
    have e : cs.getD j 0 = cs[j] := by simp [List.getD_eq_getElem?_getD, hj]
    show ¬ cs.getD j 0 < 0 ∧ ¬ 65535 < cs.getD j 0
    rw [e]; exact hb _ (List.getElem_mem _)⟩
theorem same_list (cs ds : List Int32) : SameT cs.length (fun j => cs.getD j 0) ds.length (fun j => ds.getD j 0) ↔ cs = ds := by
  constructor
  · rintro ⟨e, q⟩
    refine List.ext_getElem e fun j h1 h2 => ?_
    have := q j h1
    simpa [List.getD_eq_getElem?_getD, h1, h2] using this
  · rintro rfl
    exact ⟨rfl, fun _ _ => rfl⟩
/-- **equals(Object) OF TWO SUCH STRINGS**: 1 just where the chars are the same -/
theorem eqW {p : Program} {l : Launch} {e : Env} {R : Room} {s : State} {args : Array Value} {below : List Frame} {len W : Nat} {Z : State} {a0 : Array Value} {h : Heap} (hZ : Z.Warmed39 s.vm) (hw : ∀ d ∈ wordsEq, d.before a0 Z = true) {kI : Nat} (wi : (Jvm.Cond.instantiable ST kI).before a0 Z = true)
    {x t : Addr} {kb : ClassId} {cs : List Int32} {cd N2 : Int32} {vs : List Value} (E : RoadKit.Exa Z h x ST) (V : RoadKit.Fld Z h x ST "value" "[B" (.ref t)) (C : RoadKit.Fld Z h x ST "coder" "B" (.int cd)) (K : RoadKit.Arv Z h t kb .byte N2 vs (.int 0)) (hc : CodA cs cd N2 vs) (hb : ∀ c ∈ cs, ¬ c < 0 ∧ ¬ (65535 : Int32) < c) (l2 : cs.length ≤ 4000)
    {y t' : Addr} {kb' : ClassId} {ds : List Int32} {cd' N2' : Int32} {vs' : List Value} (E' : RoadKit.Exa Z h y ST) (V' : RoadKit.Fld Z h y ST "value" "[B" (.ref t')) (C' : RoadKit.Fld Z h y ST "coder" "B" (.int cd')) (K' : RoadKit.Arv Z h t' kb' .byte N2' vs' (.int 0)) (hc' : CodA ds cd' N2' vs') (hb' : ∀ c ∈ ds, ¬ c < 0 ∧ ¬ (65535 : Int32) < c) (l2' : ds.length ≤ 4000)
    {z : Int32} (S : RoadKit.Sta Z h ST "COMPACT_STRINGS" "Z" (.int z)) (hz : ¬ z = 0) (hfr : 2 ≤ R.frames) (hlo : W + 28 ≤ R.locals) :
    Back l R p e below s args (⟨"java/lang/String", "equals", "(Ljava/lang/Object;)Z"⟩ : MethodName) len W (fun P a => a = #[.ref x, .ref y] ∧ P.U.heap = h ∧ P.cells + 0 ≤ R.cells ∧ P.slots + 0 ≤ R.slots)
      (fun P _ v B => ∃ L, (((v = some (.int 1) ∧ cs = ds) ∨ (v = some (.int 0) ∧ ¬ cs = ds)) ∧ L = [] ∧ B.U.heap = h) ∧ B.locs = P.locs ++ L ∧ B.cells = P.cells + 0 ∧ B.slots = P.slots + 0) := by
  intro m meth c P g ig mk a X hg hsize hdg hW hn hp'
  obtain ⟨rfl, rfl, r1, r2⟩ := hp'
  have al : Z.vm.Alike P.U.vm := hZ.alike.trans X.warmed.alike
  obtain ⟨A, hx⟩ := txt_of wi al E V C K hc hb l2
  obtain ⟨A', hy⟩ := txt_of wi al E' V' C' K' hc' hb' l2'
  obtain ⟨v, B, X', ⟨⟨w, hv, hh, hq⟩, hl, hk, hs⟩, st⟩ := SEq.pays x t A cd cs.length (fun j => cs.getD j 0) y t' A' cd' ds.length (fun j => ds.getD j 0) z (tabEq_of (movedEq hZ hw)) hfr hlo m meth c P g ig mk _ X hg hsize hdg hW hn ⟨r1, r2, rfl, hx, hy, sta_is al S, hz⟩
  refine ⟨v, B, X', ⟨[], ⟨?_, rfl, hh⟩, hl, hk, hs⟩, st⟩
  rcases hq with ⟨rfl, q⟩ | ⟨rfl, q⟩
  · exact Or.inl ⟨hv, (same_list cs ds).mp q⟩
  · exact Or.inr ⟨hv, fun e => q ((same_list cs ds).mpr e)⟩
end StrChars.Road
end Jvm.Pilot.@@N@@
namespace Jvm.Pilot.@@N@@
open Jvm Jvm.ClassFile Sem Op Lib Jvm.Free Jvm.Stand Jvm.LawKit Jvm.RoadKit Bundle Jvm.Pilot.@@N@@.Jvm.D
/-- what a walk comes to, said forward -/
def Go (p : Program) (e : Env) (below : List Frame) (R : State → Outcome → Prop) (A : State) : Prop := ∃ t o, Steps p.tables e below A t ∧ R t o
def Fin1 (s : State) (below : List Frame) (Q : Option Value → Heap → List Loc → Prop) (K N : Nat) (t : State) (o : Outcome) : Prop := t.status = .running ∧ Ended t below o ∧ ∃ v L, o = .returned v ∧ Q v t.heap L ∧ FrameEnd s o t L K N
theorem Go.step {p : Program} {e : Env} {below : List Frame} {R : State → Outcome → Prop} {A B : State} (k : ∀ t, Steps p.tables e below A t → Steps p.tables e below B t) (h : Go p e below R A) : Go p e below R B := by
  obtain ⟨t, o, h1, h2⟩ := h
  exact ⟨t, o, k t h1, h2⟩
section GoRet
variable {p : Program} {l : Launch} {e : Env} {R : Room} {s : State} {m : MethodId} {args : Array Value} {below : List Frame} {meth : Method} {c : Code} {T : State} {locs : List Loc} {cells slots : Nat} {Q : Option Value → Heap → List Loc → Prop} {K N pc : Nat} {Ls : Array Slot} {rest : List Value}
theorem Go.retZ (X : Stand p l e R s m args below meth c T locs cells slots) (hx : p.tables.exec = Jvm.exec) {z : Int32} {t : FieldType} (hret : meth.sig.returnType = some t) (ht : t = .boolean ∨ t = .byte ∨ t = .char ∨ t = .short) (hlk : meth.locks = false) (hd : decode c.code pc = .ok (.ireturn, 1)) (hq : Q (some (.int (nar t z))) T.heap locs) (hc : cells ≤ K) (hn : slots ≤ N) : Go p e below (Fin1 s below Q K N) (T.setTop (mkF m pc Ls (.int z :: rest))) := by
  obtain ⟨fs, hr, hrun, hended, hW, hsame⟩ := X.leave (v := some (.int (nar t z))) (fun h => by rw [hret] at h; cases h) hlk
  exact ⟨_, _, retN X hx hret ht hd hr, hrun, hended, _, _, rfl, hq, ⟨_, rfl⟩, hW, hsame.mono hc hn⟩
theorem Go.retI (X : Stand p l e R s m args below meth c T locs cells slots) (hx : p.tables.exec = Jvm.exec) {z : Int32} (hret : meth.sig.returnType = some .int) (hlk : meth.locks = false) (hd : decode c.code pc = .ok (.ireturn, 1)) (hq : Q (some (.int z)) T.heap locs) (hc : cells ≤ K) (hn : slots ≤ N) : Go p e below (Fin1 s below Q K N) (T.setTop (mkF m pc Ls (.int z :: rest))) := by
  obtain ⟨fs, hr, hrun, hended, hW, hsame⟩ := X.leave (v := some (.int z)) (fun h => by rw [hret] at h; cases h) hlk
  exact ⟨_, _, Jvm.RoadKit.retI X hx hret hd hr, hrun, hended, _, _, rfl, hq, ⟨_, rfl⟩, hW, hsame.mono hc hn⟩
theorem Go.retJ (X : Stand p l e R s m args below meth c T locs cells slots) (hx : p.tables.exec = Jvm.exec) {z : Int64} (hret : meth.sig.returnType = some .long) (hlk : meth.locks = false) (hd : decode c.code pc = .ok (.lreturn, 1)) (hq : Q (some (.long z)) T.heap locs) (hc : cells ≤ K) (hn : slots ≤ N) : Go p e below (Fin1 s below Q K N) (T.setTop (mkF m pc Ls (.long z :: rest))) := by
  obtain ⟨fs, hr, hrun, hended, hW, hsame⟩ := X.leave (v := some (.long z)) (fun h => by rw [hret] at h; cases h) hlk
  exact ⟨_, _, retOut X hx hret rfl (Or.inr (Or.inl ⟨rfl, rfl, _, rfl⟩)) hd hr, hrun, hended, _, _, rfl, hq, ⟨_, rfl⟩, hW, hsame.mono hc hn⟩
theorem Go.retR (X : Stand p l e R s m args below meth c T locs cells slots) (hx : p.tables.exec = Jvm.exec) {w : Value} {t : FieldType} (hret : meth.sig.returnType = some t) (ht : t.isReference = true) (hw : w.isRef = true) (hlk : meth.locks = false) (hd : decode c.code pc = .ok (.areturn, 1)) (hq : Q (some w) T.heap locs) (hc : cells ≤ K) (hn : slots ≤ N) : Go p e below (Fin1 s below Q K N) (T.setTop (mkF m pc Ls (w :: rest))) := by
  obtain ⟨fs, hr, hrun, hended, hW, hsame⟩ := X.leave (v := some w) (fun h => by rw [hret] at h; cases h) hlk
  have hnw : narrow t w = w := by rcases ref_cases hw with rfl | ⟨a, rfl⟩ <;> cases t <;> first | rfl | (cases ht)
  exact ⟨_, _, retOut X hx hret hnw (Or.inr (Or.inr (Or.inr (Or.inr ⟨rfl, ht, hw⟩)))) hd hr, hrun, hended, _, _, rfl, hq, ⟨_, rfl⟩, hW, hsame.mono hc hn⟩
theorem Go.retV (X : Stand p l e R s m args below meth c T locs cells slots) (hx : p.tables.exec = Jvm.exec) (hret : meth.sig.returnType = none) (hlk : meth.locks = false) (hd : decode c.code pc = .ok (.return_, 1)) (hq : Q none T.heap locs) (hc : cells ≤ K) (hn : slots ≤ N) : Go p e below (Fin1 s below Q K N) (T.setTop (mkF m pc Ls [])) := by
  obtain ⟨fs, hr, hrun, hended, hW, hsame⟩ := X.leave (v := none) (fun _ => rfl) hlk
  exact ⟨_, _, X.returnOut hx hret hd hr, hrun, hended, _, _, rfl, hq, ⟨_, rfl⟩, hW, hsame.mono hc hn⟩
end GoRet
def Fin2 (s : State) (below : List Frame) (Q : Option Value → Heap → List Loc → Prop) (K N : Nat) (t : State) (o : Outcome) : Prop := t.status = .running ∧ Ended t below o ∧ ∃ v L, o = .returned v ∧ Q v t.heap L ∧ ReturnedEndW s o t L K N
theorem wmono {s t : State} {o : Outcome} {L : List Loc} {k n k' n' : Nat} (h : ReturnedEndW s o t L k n) (h1 : k ≤ k') (h2 : n ≤ n') : ReturnedEndW s o t L k' n' := ⟨h.1, h.2.1, h.2.2.1, h.2.2.2.mono h1 h2⟩
section GoRetW
variable {p : Program} {l : Launch} {e : Env} {R : Room} {s : State} {vm0 : Vm} {m : MethodId} {args : Array Value} {below : List Frame} {meth : Method} {c : Code} {T : State} {locs : List Loc} {cells slots : Nat} {Q : Option Value → Heap → List Loc → Prop} {K N pc k0 : Nat} {Ls : Array Slot} {rest : List Value}
theorem GoW.retZ (X : Stand p l e R (s.setVm vm0) m args below meth c T locs cells slots) (hS : s.Since vm0 k0) (hk : k0 ≤ T.heap.size) (hx : p.tables.exec = Jvm.exec) {z : Int32} {t : FieldType} (hret : meth.sig.returnType = some t) (ht : t = .boolean ∨ t = .byte ∨ t = .char ∨ t = .short) (hlk : meth.locks = false) (hd : decode c.code pc = .ok (.ireturn, 1)) (hq : Q (some (.int (nar t z))) T.heap locs) (hc : cells ≤ K) (hn : slots ≤ N) : Go p e below (Fin2 s below Q K N) (T.setTop (mkF m pc Ls (.int z :: rest))) := by
  obtain ⟨fs, hr, hrun, hended, hW⟩ := X.leaveW hS hk (v := some (.int (nar t z))) (fun h => by rw [hret] at h; cases h) hlk
  exact ⟨_, _, retN X hx hret ht hd hr, hrun, hended, _, _, rfl, hq, wmono hW hc hn⟩
theorem GoW.retI (X : Stand p l e R (s.setVm vm0) m args below meth c T locs cells slots) (hS : s.Since vm0 k0) (hk : k0 ≤ T.heap.size) (hx : p.tables.exec = Jvm.exec) {z : Int32} (hret : meth.sig.returnType = some .int) (hlk : meth.locks = false) (hd : decode c.code pc = .ok (.ireturn, 1)) (hq : Q (some (.int z)) T.heap locs) (hc : cells ≤ K) (hn : slots ≤ N) : Go p e below (Fin2 s below Q K N) (T.setTop (mkF m pc Ls (.int z :: rest))) := by
  obtain ⟨fs, hr, hrun, hended, hW⟩ := X.leaveW hS hk (v := some (.int z)) (fun h => by rw [hret] at h; cases h) hlk
  exact ⟨_, _, Jvm.RoadKit.retI X hx hret hd hr, hrun, hended, _, _, rfl, hq, wmono hW hc hn⟩
theorem GoW.retR (X : Stand p l e R (s.setVm vm0) m args below meth c T locs cells slots) (hS : s.Since vm0 k0) (hk : k0 ≤ T.heap.size) (hx : p.tables.exec = Jvm.exec) {w : Value} {t : FieldType} (hret : meth.sig.returnType = some t) (ht : t.isReference = true) (hw : w.isRef = true) (hlk : meth.locks = false) (hd : decode c.code pc = .ok (.areturn, 1)) (hq : Q (some w) T.heap locs) (hc : cells ≤ K) (hn : slots ≤ N) : Go p e below (Fin2 s below Q K N) (T.setTop (mkF m pc Ls (w :: rest))) := by
  obtain ⟨fs, hr, hrun, hended, hW⟩ := X.leaveW hS hk (v := some w) (fun h => by rw [hret] at h; cases h) hlk
  have hnw : narrow t w = w := by rcases ref_cases hw with rfl | ⟨a, rfl⟩ <;> cases t <;> first | rfl | (cases ht)
  exact ⟨_, _, retOut X hx hret hnw (Or.inr (Or.inr (Or.inr (Or.inr ⟨rfl, ht, hw⟩)))) hd hr, hrun, hended, _, _, rfl, hq, wmono hW hc hn⟩
theorem GoW.retV (X : Stand p l e R (s.setVm vm0) m args below meth c T locs cells slots) (hS : s.Since vm0 k0) (hk : k0 ≤ T.heap.size) (hx : p.tables.exec = Jvm.exec) (hret : meth.sig.returnType = none) (hlk : meth.locks = false) (hd : decode c.code pc = .ok (.return_, 1)) (hq : Q none T.heap locs) (hc : cells ≤ K) (hn : slots ≤ N) : Go p e below (Fin2 s below Q K N) (T.setTop (mkF m pc Ls [])) := by
  obtain ⟨fs, hr, hrun, hended, hW⟩ := X.leaveW hS hk (v := none) (fun _ => rfl) hlk
  exact ⟨_, _, X.returnOut hx hret hd hr, hrun, hended, _, _, rfl, hq, wmono hW hc hn⟩
end GoRetW
theorem wd {a0 : Array Value} {Z : State} (hw : ∀ d ∈ tables_1, d.before a0 Z = true) (i : Nat) {d : Jvm.Cond} (h : tables_1[i]? = some d) : d.before a0 Z = true := hw d (List.mem_of_getElem? h)
theorem sel_priv {Z s : State} {a0 args : Array Value} {y : MethodName} {n : Nat} (hZ : Z.Warmed39 s.vm) (wi : (Jvm.Cond.instantiable y.cls n).before a0 Z = true) (wp : (Jvm.Cond.privateMethod y).before a0 Z = true) (wm : (Jvm.Cond.instanceMethod y).before a0 Z = true) (hy : y.cls ≠ "java/lang/invoke/MethodHandle" ∧ y.cls ≠ "java/lang/invoke/VarHandle") : (Jvm.Cond.selects y.cls y y).before args s = true := by
  obtain ⟨c, k, h1, h2, -, h4, -⟩ := Cond.instantiable_spec (mv (args := args) hZ wi)
  simp only [Bool.or_eq_false_iff] at h4
  exact Jvm.Stand.selects_self_of_private h1 h2 h4.1 (Cond.privateMethod_at (mvP hZ wp (args := args))) (mv hZ wm) hy
theorem old_z0 {Z : State} {n0 : Nat} {h : Heap} (O : Old Z n0 h) : n0 ≤ h.size := O.1 ▸ O.2.1
theorem eq_long {args : Array Value} {s : State} {t : Term} {z : Int64} (h : (Jvm.Cond.eq t (.long z)).value args s none s [] = some true) : t.eval args s none [] s = some (.long z) := by
  simp only [Cond.value, Term.eval] at h
  cases e : t.eval args s none [] s with
  | none => simp [e] at h
  | some v => cases v <;> simp_all
theorem eq_int {args : Array Value} {s : State} {t : Term} {z : Int32} (h : (Jvm.Cond.eq t (.int z)).value args s none s [] = some true) : t.eval args s none [] s = some (.int z) := by
  simp only [Cond.value, Term.eval] at h
  cases e : t.eval args s none [] s with
  | none => simp [e] at h
  | some v => cases v <;> simp_all
abbrev SN (Z : State) (C f d C' f' d' : String) : Prop := Jvm.RoadKit.slotOf Z C f d ≠ Jvm.RoadKit.slotOf Z C' f' d'
abbrev rm (f c s l : Nat) : Room := { frames := f, cells := c, slots := s, locals := l }
section GS
variable {p : Program} {e : Env} {below : List Frame} {R : State → Outcome → Prop} {T : State} {m : MethodId} {c : Code} {pc : Nat} {Ls l' : Array Slot} {rest : List Value}

theorem gs.iload {k : Nat} {v : Int32} (h : At T m c below) (hx : p.tables.exec = Jvm.exec) (hd : decode c.code pc = .ok (.iload k, 2)) (hl : Ls[k]? = some (.val (.int v))) (H : Go p e below R (T.setTop (mkF m (pc + 2) Ls (.int v :: rest)))) : Go p e below R (T.setTop (mkF m pc Ls rest)) := Go.step (fun _ q_ => XS.iload h hx rfl hd hl q_) H
theorem gs.iloadN {k : Fin 4} {v : Int32} (h : At T m c below) (hx : p.tables.exec = Jvm.exec) (hd : decode c.code pc = .ok (.iload_n k, 1)) (hl : Ls[k.val]? = some (.val (.int v))) (H : Go p e below R (T.setTop (mkF m (pc + 1) Ls (.int v :: rest)))) : Go p e below R (T.setTop (mkF m pc Ls rest)) := Go.step (fun _ q_ => XS.iloadN h hx rfl hd hl q_) H
theorem gs.lload {k : Nat} {v : Int64} (h : At T m c below) (hx : p.tables.exec = Jvm.exec) (hd : decode c.code pc = .ok (.lload k, 2)) (hl : Ls[k]? = some (.val (.long v))) (H : Go p e below R (T.setTop (mkF m (pc + 2) Ls (.long v :: rest)))) : Go p e below R (T.setTop (mkF m pc Ls rest)) := Go.step (fun _ q_ => XS.lload h hx rfl hd hl q_) H
theorem gs.lloadN {k : Fin 4} {v : Int64} (h : At T m c below) (hx : p.tables.exec = Jvm.exec) (hd : decode c.code pc = .ok (.lload_n k, 1)) (hl : Ls[k.val]? = some (.val (.long v))) (H : Go p e below R (T.setTop (mkF m (pc + 1) Ls (.long v :: rest)))) : Go p e below R (T.setTop (mkF m pc Ls rest)) := Go.step (fun _ q_ => XS.lloadN h hx rfl hd hl q_) H
theorem gs.aload {k : Nat} {v : Value} (h : At T m c below) (hx : p.tables.exec = Jvm.exec) (hd : decode c.code pc = .ok (.aload k, 2)) (hl : Ls[k]? = some (.val v)) (hv : v.isRef = true) (H : Go p e below R (T.setTop (mkF m (pc + 2) Ls (v :: rest)))) : Go p e below R (T.setTop (mkF m pc Ls rest)) := Go.step (fun _ q_ => XS.aload h hx rfl hd hl hv q_) H
theorem gs.aloadN {k : Fin 4} {v : Value} (h : At T m c below) (hx : p.tables.exec = Jvm.exec) (hd : decode c.code pc = .ok (.aload_n k, 1)) (hl : Ls[k.val]? = some (.val v)) (hv : v.isRef = true) (H : Go p e below R (T.setTop (mkF m (pc + 1) Ls (v :: rest)))) : Go p e below R (T.setTop (mkF m pc Ls rest)) := Go.step (fun _ q_ => XS.aloadN h hx rfl hd hl hv q_) H
theorem gs.istore {k : Nat} {v : Int32} (h : At T m c below) (hx : p.tables.exec = Jvm.exec) (hd : decode c.code pc = .ok (.istore k, 2)) (hl : storeLocals Ls k (.int v) = some l') (H : Go p e below R (T.setTop (mkF m (pc + 2) l' rest))) : Go p e below R (T.setTop (mkF m pc Ls (.int v :: rest))) := Go.step (fun _ q_ => XS.istore h hx rfl hd rfl hl q_) H
theorem gs.istoreN {k : Fin 4} {v : Int32} (h : At T m c below) (hx : p.tables.exec = Jvm.exec) (hd : decode c.code pc = .ok (.istore_n k, 1)) (hl : storeLocals Ls k.val (.int v) = some l') (H : Go p e below R (T.setTop (mkF m (pc + 1) l' rest))) : Go p e below R (T.setTop (mkF m pc Ls (.int v :: rest))) := Go.step (fun _ q_ => XS.istoreN h hx rfl hd rfl hl q_) H
theorem gs.lstore {k : Nat} {v : Int64} (h : At T m c below) (hx : p.tables.exec = Jvm.exec) (hd : decode c.code pc = .ok (.lstore k, 2)) (hl : storeLocals Ls k (.long v) = some l') (H : Go p e below R (T.setTop (mkF m (pc + 2) l' rest))) : Go p e below R (T.setTop (mkF m pc Ls (.long v :: rest))) := Go.step (fun _ q_ => XS.lstore h hx rfl hd rfl hl q_) H
theorem gs.lstoreN {k : Fin 4} {v : Int64} (h : At T m c below) (hx : p.tables.exec = Jvm.exec) (hd : decode c.code pc = .ok (.lstore_n k, 1)) (hl : storeLocals Ls k.val (.long v) = some l') (H : Go p e below R (T.setTop (mkF m (pc + 1) l' rest))) : Go p e below R (T.setTop (mkF m pc Ls (.long v :: rest))) := Go.step (fun _ q_ => XS.lstoreN h hx rfl hd rfl hl q_) H
theorem gs.astore {k : Nat} {v : Value} (h : At T m c below) (hx : p.tables.exec = Jvm.exec) (hd : decode c.code pc = .ok (.astore k, 2)) (hv : v.isRef = true) (hl : storeLocals Ls k (v) = some l') (H : Go p e below R (T.setTop (mkF m (pc + 2) l' rest))) : Go p e below R (T.setTop (mkF m pc Ls (v :: rest))) := Go.step (fun _ q_ => XS.astore h hx rfl hd rfl hv hl q_) H
theorem gs.astoreN {k : Fin 4} {v : Value} (h : At T m c below) (hx : p.tables.exec = Jvm.exec) (hd : decode c.code pc = .ok (.astore_n k, 1)) (hv : v.isRef = true) (hl : storeLocals Ls k.val (v) = some l') (H : Go p e below R (T.setTop (mkF m (pc + 1) l' rest))) : Go p e below R (T.setTop (mkF m pc Ls (v :: rest))) := Go.step (fun _ q_ => XS.astoreN h hx rfl hd rfl hv hl q_) H
theorem gs.iconst {i : Int} (z : Int32) (h : At T m c below) (hx : p.tables.exec = Jvm.exec) (hd : decode c.code pc = .ok (.iconst i, 1)) (hz : Int32.ofInt i = z) (H : Go p e below R (T.setTop (mkF m (pc + 1) Ls (.int z :: rest)))) : Go p e below R (T.setTop (mkF m pc Ls rest)) := Go.step (fun _ q_ => XS.iconst h hx rfl hd (by rw [hz]; exact q_)) H
theorem gs.bipush {i : Int} (z : Int32) (h : At T m c below) (hx : p.tables.exec = Jvm.exec) (hd : decode c.code pc = .ok (.bipush i, 2)) (hz : (Int8.ofInt i).toInt32 = z) (H : Go p e below R (T.setTop (mkF m (pc + 2) Ls (.int z :: rest)))) : Go p e below R (T.setTop (mkF m pc Ls rest)) := Go.step (fun _ q_ => XS.bipush h hx rfl hd (by rw [hz]; exact q_)) H
theorem gs.sipush {i : Int} (z : Int32) (h : At T m c below) (hx : p.tables.exec = Jvm.exec) (hd : decode c.code pc = .ok (.sipush i, 3)) (hz : (Int16.ofInt i).toInt32 = z) (H : Go p e below R (T.setTop (mkF m (pc + 3) Ls (.int z :: rest)))) : Go p e below R (T.setTop (mkF m pc Ls rest)) := Go.step (fun _ q_ => XS.sipush h hx rfl hd (by rw [hz]; exact q_)) H
theorem gs.aconstNull  (h : At T m c below) (hx : p.tables.exec = Jvm.exec) (hd : decode c.code pc = .ok (.aconst_null, 1)) (H : Go p e below R (T.setTop (mkF m (pc + 1) Ls (.null :: rest)))) : Go p e below R (T.setTop (mkF m pc Ls rest)) := Go.step (fun _ q_ => XS.aconstNull h hx rfl hd q_) H
theorem gs.iadd {x y : Int32} (h : At T m c below) (hx : p.tables.exec = Jvm.exec) (hd : decode c.code pc = .ok (.iadd, 1)) (H : Go p e below R (T.setTop (mkF m (pc + 1) Ls (.int (x + y) :: rest)))) : Go p e below R (T.setTop (mkF m pc Ls (.int y :: .int x :: rest))) := Go.step (fun _ q_ => XS.iadd h hx rfl hd rfl q_) H
theorem gs.ladd {x y : Int64} (h : At T m c below) (hx : p.tables.exec = Jvm.exec) (hd : decode c.code pc = .ok (.ladd, 1)) (H : Go p e below R (T.setTop (mkF m (pc + 1) Ls (.long (x + y) :: rest)))) : Go p e below R (T.setTop (mkF m pc Ls (.long y :: .long x :: rest))) := Go.step (fun _ q_ => XS.ladd h hx rfl hd rfl q_) H
theorem gs.isub {x y : Int32} (h : At T m c below) (hx : p.tables.exec = Jvm.exec) (hd : decode c.code pc = .ok (.isub, 1)) (H : Go p e below R (T.setTop (mkF m (pc + 1) Ls (.int (x - y) :: rest)))) : Go p e below R (T.setTop (mkF m pc Ls (.int y :: .int x :: rest))) := Go.step (fun _ q_ => XS.isub h hx rfl hd rfl q_) H
theorem gs.lsub {x y : Int64} (h : At T m c below) (hx : p.tables.exec = Jvm.exec) (hd : decode c.code pc = .ok (.lsub, 1)) (H : Go p e below R (T.setTop (mkF m (pc + 1) Ls (.long (x - y) :: rest)))) : Go p e below R (T.setTop (mkF m pc Ls (.long y :: .long x :: rest))) := Go.step (fun _ q_ => XS.lsub h hx rfl hd rfl q_) H
theorem gs.imul {x y : Int32} (h : At T m c below) (hx : p.tables.exec = Jvm.exec) (hd : decode c.code pc = .ok (.imul, 1)) (H : Go p e below R (T.setTop (mkF m (pc + 1) Ls (.int (x * y) :: rest)))) : Go p e below R (T.setTop (mkF m pc Ls (.int y :: .int x :: rest))) := Go.step (fun _ q_ => XS.imul h hx rfl hd rfl q_) H
theorem gs.lmul {x y : Int64} (h : At T m c below) (hx : p.tables.exec = Jvm.exec) (hd : decode c.code pc = .ok (.lmul, 1)) (H : Go p e below R (T.setTop (mkF m (pc + 1) Ls (.long (x * y) :: rest)))) : Go p e below R (T.setTop (mkF m pc Ls (.long y :: .long x :: rest))) := Go.step (fun _ q_ => XS.lmul h hx rfl hd rfl q_) H
theorem gs.iand {x y : Int32} (h : At T m c below) (hx : p.tables.exec = Jvm.exec) (hd : decode c.code pc = .ok (.iand, 1)) (H : Go p e below R (T.setTop (mkF m (pc + 1) Ls (.int (x &&& y) :: rest)))) : Go p e below R (T.setTop (mkF m pc Ls (.int y :: .int x :: rest))) := Go.step (fun _ q_ => XS.iand h hx rfl hd rfl q_) H
theorem gs.land {x y : Int64} (h : At T m c below) (hx : p.tables.exec = Jvm.exec) (hd : decode c.code pc = .ok (.land, 1)) (H : Go p e below R (T.setTop (mkF m (pc + 1) Ls (.long (x &&& y) :: rest)))) : Go p e below R (T.setTop (mkF m pc Ls (.long y :: .long x :: rest))) := Go.step (fun _ q_ => XS.land h hx rfl hd rfl q_) H
theorem gs.ior {x y : Int32} (h : At T m c below) (hx : p.tables.exec = Jvm.exec) (hd : decode c.code pc = .ok (.ior, 1)) (H : Go p e below R (T.setTop (mkF m (pc + 1) Ls (.int (x ||| y) :: rest)))) : Go p e below R (T.setTop (mkF m pc Ls (.int y :: .int x :: rest))) := Go.step (fun _ q_ => XS.ior h hx rfl hd rfl q_) H
theorem gs.lor {x y : Int64} (h : At T m c below) (hx : p.tables.exec = Jvm.exec) (hd : decode c.code pc = .ok (.lor, 1)) (H : Go p e below R (T.setTop (mkF m (pc + 1) Ls (.long (x ||| y) :: rest)))) : Go p e below R (T.setTop (mkF m pc Ls (.long y :: .long x :: rest))) := Go.step (fun _ q_ => XS.lor h hx rfl hd rfl q_) H
theorem gs.ixor {x y : Int32} (h : At T m c below) (hx : p.tables.exec = Jvm.exec) (hd : decode c.code pc = .ok (.ixor, 1)) (H : Go p e below R (T.setTop (mkF m (pc + 1) Ls (.int (x ^^^ y) :: rest)))) : Go p e below R (T.setTop (mkF m pc Ls (.int y :: .int x :: rest))) := Go.step (fun _ q_ => XS.ixor h hx rfl hd rfl q_) H
theorem gs.lxor {x y : Int64} (h : At T m c below) (hx : p.tables.exec = Jvm.exec) (hd : decode c.code pc = .ok (.lxor, 1)) (H : Go p e below R (T.setTop (mkF m (pc + 1) Ls (.long (x ^^^ y) :: rest)))) : Go p e below R (T.setTop (mkF m pc Ls (.long y :: .long x :: rest))) := Go.step (fun _ q_ => XS.lxor h hx rfl hd rfl q_) H
theorem gs.dup {x : Value} (h : At T m c below) (hx : p.tables.exec = Jvm.exec) (hd : decode c.code pc = .ok (.dup, 1)) (hc : x.category = 1) (H : Go p e below R (T.setTop (mkF m (pc + 1) Ls (x :: x :: rest)))) : Go p e below R (T.setTop (mkF m pc Ls (x :: rest))) := Go.step (fun _ q_ => XS.dup h hx rfl hd rfl hc q_) H
theorem gs.pop {x : Value} (h : At T m c below) (hx : p.tables.exec = Jvm.exec) (hd : decode c.code pc = .ok (.pop, 1)) (hc : x.category = 1) (H : Go p e below R (T.setTop (mkF m (pc + 1) Ls rest))) : Go p e below R (T.setTop (mkF m pc Ls (x :: rest))) := Go.step (fun _ q_ => XS.pop h hx rfl hd rfl hc q_) H
theorem gs.dup2 {x y : Value} (h : At T m c below) (hx : p.tables.exec = Jvm.exec) (hd : decode c.code pc = .ok (.dup2, 1)) (hc : x.category = 1) (hc' : y.category = 1) (H : Go p e below R (T.setTop (mkF m (pc + 1) Ls (x :: y :: x :: y :: rest)))) : Go p e below R (T.setTop (mkF m pc Ls (x :: y :: rest))) := Go.step (fun _ q_ => XT.dup2 h hx rfl hd rfl hc hc' q_) H
theorem gs.goto {o : Int} (q : Nat) (h : At T m c below) (hx : p.tables.exec = Jvm.exec) (hd : decode c.code pc = .ok (.goto o, 3)) (hp : (pc : Int) + o = (q : Int)) (H : Go p e below R (T.setTop (mkF m q Ls rest))) : Go p e below R (T.setTop (mkF m pc Ls rest)) := Go.step (fun _ q_ => XS.goto h hx rfl rfl hd (by rw [hp]; exact Int.natCast_nonneg _) (by rw [hp]; rfl) q_) H
theorem gs.ifYes {cd : ClassFile.Cond} {x : Int32} {o : Int} (q : Nat) (h : At T m c below) (hx : p.tables.exec = Jvm.exec) (hd : decode c.code pc = .ok (.ifCond cd o, 3)) (hc : ifCond.holds cd x = true) (hp : (pc : Int) + o = (q : Int)) (H : Go p e below R (T.setTop (mkF m q Ls rest))) : Go p e below R (T.setTop (mkF m pc Ls (.int x :: rest))) := Go.step (fun _ q_ => XS.ifYes h hx rfl rfl hd rfl hc (by rw [hp]; exact Int.natCast_nonneg _) (by rw [hp]; rfl) q_) H
theorem gs.ifNo {cd : ClassFile.Cond} {x : Int32} {o : Int} (h : At T m c below) (hx : p.tables.exec = Jvm.exec) (hd : decode c.code pc = .ok (.ifCond cd o, 3)) (hc : ifCond.holds cd x = false) (H : Go p e below R (T.setTop (mkF m (pc + 3) Ls rest))) : Go p e below R (T.setTop (mkF m pc Ls (.int x :: rest))) := Go.step (fun _ q_ => XS.ifNo h hx rfl hd rfl hc q_) H
theorem gs.icmpYes {cd : ClassFile.Cond} {x y : Int32} {o : Int} (q : Nat) (h : At T m c below) (hx : p.tables.exec = Jvm.exec) (hd : decode c.code pc = .ok (.if_icmp cd o, 3)) (hc : if_icmp.holds cd x y = true) (hp : (pc : Int) + o = (q : Int)) (H : Go p e below R (T.setTop (mkF m q Ls rest))) : Go p e below R (T.setTop (mkF m pc Ls (.int y :: .int x :: rest))) := Go.step (fun _ q_ => XS.icmpYes h hx rfl rfl hd rfl hc (by rw [hp]; exact Int.natCast_nonneg _) (by rw [hp]; rfl) q_) H
theorem gs.icmpNo {cd : ClassFile.Cond} {x y : Int32} {o : Int} (h : At T m c below) (hx : p.tables.exec = Jvm.exec) (hd : decode c.code pc = .ok (.if_icmp cd o, 3)) (hc : if_icmp.holds cd x y = false) (H : Go p e below R (T.setTop (mkF m (pc + 3) Ls rest))) : Go p e below R (T.setTop (mkF m pc Ls (.int y :: .int x :: rest))) := Go.step (fun _ q_ => XS.icmpNo h hx rfl hd rfl hc q_) H
theorem Go.fin {T' : State} {stk S' : List Value} {q : Nat} (k : ∀ t, Steps p.tables e below (T'.setTop { mkF m pc Ls stk with pc := q, stack := S' }) t → Steps p.tables e below (T.setTop (mkF m pc Ls stk)) t) (H : Go p e below R (T'.setTop (mkF m q Ls S'))) : Go p e below R (T.setTop (mkF m pc Ls stk)) := Go.step k H
end GS
section GS2
variable {p : Program} {l : Launch} {e : Env} {Rm : Room} {s : State} {m : MethodId} {args : Array Value} {below : List Frame} {meth : Method} {c : Code} {T : State} {locs : List Loc} {cells slots : Nat} {Z : State} {a0 : Array Value} {h : Heap} {R : State → Outcome → Prop} {pc : Nat} {Ls : Array Slot} {rest : List Value}
theorem gs.getF (X : Stand p l e Rm s m args below meth c T locs cells slots) (hx : p.tables.exec = Jvm.exec) (hZ : Z.Warmed39 s.vm) {own R0 O n d : String} {index : Nat} (hown : s.vm.findClass own = some m.cls) (w : (Cond.fieldLink own index R0 n d).before a0 Z = true) (via : Via Z R0 O n d) (eT : T.heap = h) {a : Addr} {v : Value} (F : Fld Z h a O n d v) (hd : decode c.code pc = .ok (.getfield index, 3)) (H : ∀ T', Stand p l e Rm s m args below meth c T' locs cells slots → T'.heap = h → Go p e below R (T'.setTop (mkF m (pc + 3) Ls (v :: rest)))) : Go p e below R (T.setTop (mkF m pc Ls (.ref a :: rest))) := by
  obtain ⟨T', X', e', k⟩ := Jvm.RoadKit.getF X hx hZ hown (host := "") (Or.inl w) via eT F (g := mkF m pc Ls (.ref a :: rest)) rfl rfl hd
  exact Go.step k (H T' X' e')
theorem gs.getN (X : Stand p l e Rm s m args below meth c T locs cells slots) (hx : p.tables.exec = Jvm.exec) (hZ : Z.Warmed39 s.vm) {own R0 O n d host : String} {index : Nat} (hown : s.vm.findClass own = some m.cls) (w : (Cond.fieldLinkNest own index R0 n d host).before a0 Z = true) (via : Via Z R0 O n d) (eT : T.heap = h) {a : Addr} {v : Value} (F : Fld Z h a O n d v) (hd : decode c.code pc = .ok (.getfield index, 3)) (H : ∀ T', Stand p l e Rm s m args below meth c T' locs cells slots → T'.heap = h → Go p e below R (T'.setTop (mkF m (pc + 3) Ls (v :: rest)))) : Go p e below R (T.setTop (mkF m pc Ls (.ref a :: rest))) := by
  obtain ⟨T', X', e', k⟩ := Jvm.RoadKit.getF X hx hZ hown (Or.inr w) via eT F (g := mkF m pc Ls (.ref a :: rest)) rfl rfl hd
  exact Go.step k (H T' X' e')
end GS2
section GS3
variable {p : Program} {l : Launch} {e : Env} {Rm : Room} {s : State} {m : MethodId} {args : Array Value} {below : List Frame} {meth : Method} {c : Code} {T : State} {locs : List Loc} {cells slots : Nat} {Z : State} {a0 : Array Value} {h : Heap} {R : State → Outcome → Prop} {pc : Nat} {Ls : Array Slot} {rest stk argsL : List Value} {own C : String} {index count : Nat} {y z : MethodName} {bytes : ByteArray} {maxL : Nat} {ret : Option FieldType} {rm : Room} {as' : Array Value} {Q : Option Value → Heap → List Loc → Prop} {b : Addr}

theorem gs.stat (W : Nat) (X : Stand p l e Rm s m args below meth c T locs cells slots) (hx : p.tables.exec = Jvm.exec) (hZ : Z.Warmed39 s.vm) (hown : s.vm.findClass own = some m.cls) (hM : MetFree l y (head1 [Cond.code y bytes maxL ret] rm) (fun a U => a = as' ∧ Z.Warmed39 U.vm ∧ U.heap = h) (fun _ _ _ _ _ => True) (fun _ U o U' => ∃ v L, o = .returned v ∧ Q v U'.heap L ∧ FrameEnd U o U' L rm.cells rm.slots)) (wc : (Cond.code y bytes maxL ret).before a0 Z = true) (wz : (Cond.initialized y.cls).before a0 Z = true) (w1 : (Cond.methodLink own index y).before a0 Z = true) (w2 : (Cond.static y).before a0 Z = true) (hy : y.cls ≠ "java/lang/invoke/MethodHandle" ∧ y.cls ≠ "java/lang/invoke/VarHandle") (hf : rm.frames + 1 ≤ Rm.frames) (hl : W + (maxL + 11) + rm.locals ≤ Rm.locals) (hml : Ls.size = c.maxLocals) (argsL : List Value) (hlen : ∀ sig, parseMethodDescriptor y.desc = some sig → argsL.length = sig.parameters.length) (hst : stk = argsL.reverse ++ rest) (hW : (rest.map fun v => v.category).sum ≤ W) (hd : decode c.code pc = .ok (.invokestatic index, 3)) (has : (argsL).toArray = as') (eT : T.heap = h) (hc : cells + rm.cells ≤ Rm.cells) (hs : slots + rm.slots ≤ Rm.slots) (H : ∀ (T' : State) (Lc : List Loc) (v : Option Value), Stand p l e Rm s m args below meth c T' (locs ++ Lc) (cells + rm.cells) (slots + rm.slots) → Q v T'.heap Lc → Go p e below R (T'.setTop (mkF m (pc + 3) Ls (v.toList ++ rest)))) : Go p e below R (T.setTop (mkF m pc Ls stk)) := by
  obtain ⟨v, _, ⟨T', L', k', n'⟩, -, X', ⟨Lc, hQ, l1, l2, l3⟩, st⟩ := Jvm.LawKit.callS X hx hown (mvT hZ w1) (mvT hZ w2) (mvT hZ wz) (mvT hZ wc) hy (backOf (W := W) hM hZ wc wz hf hl) (g := mkF m pc Ls stk) rfl hml (argsL := argsL) (rest := rest) hlen hst (by show 2 * 0 + _ ≤ _; omega) hd (fun _ _ => ⟨has, eT, hc, hs⟩)
  dsimp only [Pt.U, Pt.locs, Pt.cells, Pt.slots] at X' l1 l2 l3 st hQ
  subst l1 l2 l3
  exact Go.step st (H T' Lc v X' hQ)
theorem gs.init (W : Nat) (X : Stand p l e Rm s m args below meth c T locs cells slots) (hx : p.tables.exec = Jvm.exec) (hZ : Z.Warmed39 s.vm) (hown : s.vm.findClass own = some m.cls) (hM : MetFree l y (head1 [Cond.code y bytes maxL none] rm) (fun a U => a = as' ∧ Z.Warmed39 U.vm ∧ U.heap = h) (fun _ _ _ _ _ => True) (fun _ U o U' => ∃ v L, o = .returned v ∧ Q v U'.heap L ∧ FrameEnd U o U' L rm.cells rm.slots)) (wc : (Cond.code y bytes maxL none).before a0 Z = true) (wz : (Cond.initialized y.cls).before a0 Z = true) (w1 : (Cond.methodLink own index y).before a0 Z = true) (h1 : y.name = "<init>") (w2 : (Cond.instanceMethod y).before a0 Z = true) (hy : y.cls ≠ "java/lang/invoke/MethodHandle" ∧ y.cls ≠ "java/lang/invoke/VarHandle") (hf : rm.frames + 1 ≤ Rm.frames) (hl : W + (maxL + 11) + rm.locals ≤ Rm.locals) (hml : Ls.size = c.maxLocals) (argsL : List Value) (hlen : ∀ sig, parseMethodDescriptor y.desc = some sig → argsL.length = sig.parameters.length) (hst : stk = argsL.reverse ++ .ref b :: rest) (hW : (rest.map fun v => v.category).sum ≤ W) (hd : decode c.code pc = .ok (.invokespecial index, 3)) (has : (.ref b :: argsL).toArray = as') (eT : T.heap = h) (hc : cells + rm.cells ≤ Rm.cells) (hs : slots + rm.slots ≤ Rm.slots) (H : ∀ (T' : State) (Lc : List Loc) (v : Option Value), Stand p l e Rm s m args below meth c T' (locs ++ Lc) (cells + rm.cells) (slots + rm.slots) → Q v T'.heap Lc → Go p e below R (T'.setTop (mkF m (pc + 3) Ls (v.toList ++ rest)))) : Go p e below R (T.setTop (mkF m pc Ls stk)) := by
  obtain ⟨v, _, ⟨T', L', k', n'⟩, -, X', ⟨Lc, hQ, l1, l2, l3⟩, st⟩ := X.specialBack hx h1 hown (mvT hZ w1) (mvT hZ w2) (mvT hZ wc) hy (backOf (W := W) hM hZ wc wz hf hl) (g := mkF m pc Ls stk) rfl hml (Steps.refl _) (a := b) (argsL := argsL) (rest := rest) hlen hst (by show 2 * 0 + _ ≤ _; omega) hd (fun _ _ => ⟨has, eT, hc, hs⟩)
  dsimp only [Pt.U, Pt.locs, Pt.cells, Pt.slots] at X' l1 l2 l3 st hQ
  subst l1 l2 l3
  exact Go.step (fun _ k => st.trans k) (H T' Lc v X' hQ)
theorem gs.priv (W : Nat) (X : Stand p l e Rm s m args below meth c T locs cells slots) (hx : p.tables.exec = Jvm.exec) (hZ : Z.Warmed39 s.vm) (hown : s.vm.findClass own = some m.cls) (hM : MetFree l y (head1 [Cond.code y bytes maxL ret] rm) (fun a U => a = as' ∧ Z.Warmed39 U.vm ∧ U.heap = h) (fun _ _ _ _ _ => True) (fun _ U o U' => ∃ v L, o = .returned v ∧ Q v U'.heap L ∧ FrameEnd U o U' L rm.cells rm.slots)) (wc : (Cond.code y bytes maxL ret).before a0 Z = true) (wz : (Cond.initialized y.cls).before a0 Z = true) (w1 : (Cond.methodLink own index y).before a0 Z = true) (w2 : (Cond.instanceMethod y).before a0 Z = true) (hsel : (Cond.selects y.cls y y).before args s = true) (w3 : (Cond.privateMethod y).before a0 Z = true) (hy : y.cls ≠ "java/lang/invoke/MethodHandle" ∧ y.cls ≠ "java/lang/invoke/VarHandle") (E : Exa Z h b C) (hf : rm.frames + 1 ≤ Rm.frames) (hl : W + (maxL + 11) + rm.locals ≤ Rm.locals) (hml : Ls.size = c.maxLocals) (argsL : List Value) (hlen : ∀ sig, parseMethodDescriptor y.desc = some sig → argsL.length = sig.parameters.length) (hst : stk = argsL.reverse ++ .ref b :: rest) (hW : (rest.map fun v => v.category).sum ≤ W) (hd : decode c.code pc = .ok (.invokevirtual index, 3)) (has : (.ref b :: argsL).toArray = as') (eT : T.heap = h) (hc : cells + rm.cells ≤ Rm.cells) (hs : slots + rm.slots ≤ Rm.slots) (H : ∀ (T' : State) (Lc : List Loc) (v : Option Value), Stand p l e Rm s m args below meth c T' (locs ++ Lc) (cells + rm.cells) (slots + rm.slots) → Q v T'.heap Lc → Go p e below R (T'.setTop (mkF m (pc + 3) Ls (v.toList ++ rest)))) : Go p e below R (T.setTop (mkF m pc Ls stk)) := by
  obtain ⟨cq, q, q'⟩ := E.cell
  obtain ⟨v, _, ⟨T', L', k', n'⟩, -, X', ⟨Lc, hQ, l1, l2, l3⟩, st⟩ := X.privateBack hx hown (mvT hZ w1) (mvT hZ w2) hsel (Cond.privateMethod_at (mvP hZ w3 (args := #[]))) (mvT hZ wc) hy (backOf (W := W) hM hZ wc wz hf hl) (g := mkF m pc Ls stk) rfl hml (Steps.refl _) (a := b) (by rw [eT]; exact q) q' (argsL := argsL) (rest := rest) hlen hst (by show 2 * 0 + _ ≤ _; omega) hd (fun _ _ => ⟨has, eT, hc, hs⟩)
  dsimp only [Pt.U, Pt.locs, Pt.cells, Pt.slots] at X' l1 l2 l3 st hQ
  subst l1 l2 l3
  exact Go.step (fun _ k => st.trans k) (H T' Lc v X' hQ)
theorem gs.virt (W : Nat) (X : Stand p l e Rm s m args below meth c T locs cells slots) (hx : p.tables.exec = Jvm.exec) (hZ : Z.Warmed39 s.vm) (hown : s.vm.findClass own = some m.cls) (hM : MetFree l z (head1 [Cond.code z bytes maxL ret] rm) (fun a U => a = as' ∧ Z.Warmed39 U.vm ∧ U.heap = h) (fun _ _ _ _ _ => True) (fun _ U o U' => ∃ v L, o = .returned v ∧ Q v U'.heap L ∧ FrameEnd U o U' L rm.cells rm.slots)) (wc : (Cond.code z bytes maxL ret).before a0 Z = true) (wz : (Cond.initialized z.cls).before a0 Z = true) (w1 : (Cond.methodLink own index y).before a0 Z = true) (w2 : (Cond.declares y).before a0 Z = true) (hnf : NotFace s y) (w3 : (Cond.selects C y z).before a0 Z = true) (w4 : (Cond.instanceMethod z).before a0 Z = true) (hy : y.cls ≠ "java/lang/invoke/MethodHandle" ∧ y.cls ≠ "java/lang/invoke/VarHandle") (E : Exa Z h b C) (hf : rm.frames + 1 ≤ Rm.frames) (hl : W + (maxL + 11) + rm.locals ≤ Rm.locals) (hml : Ls.size = c.maxLocals) (argsL : List Value) (hlen : ∀ sig, parseMethodDescriptor y.desc = some sig → argsL.length = sig.parameters.length) (hst : stk = argsL.reverse ++ .ref b :: rest) (hW : (rest.map fun v => v.category).sum ≤ W) (hd : decode c.code pc = .ok (.invokevirtual index, 3)) (has : (.ref b :: argsL).toArray = as') (eT : T.heap = h) (hc : cells + rm.cells ≤ Rm.cells) (hs : slots + rm.slots ≤ Rm.slots) (H : ∀ (T' : State) (Lc : List Loc) (v : Option Value), Stand p l e Rm s m args below meth c T' (locs ++ Lc) (cells + rm.cells) (slots + rm.slots) → Q v T'.heap Lc → Go p e below R (T'.setTop (mkF m (pc + 3) Ls (v.toList ++ rest)))) : Go p e below R (T.setTop (mkF m pc Ls stk)) := by
  obtain ⟨cq, kq, qa, qb, qc⟩ := isOf hZ eT E
  obtain ⟨v, _, ⟨T', L', k', n'⟩, -, X', ⟨Lc, hQ, l1, l2, l3⟩, st⟩ := X.virtualBack hx hown (mvT hZ w1) (mvT hZ w2) hnf (mvT hZ w3) (mvT hZ w4) hy (backOf (W := W) hM hZ wc wz hf hl) qa qc (g := mkF m pc Ls stk) rfl hml (Steps.refl _) (argsL := argsL) (rest := rest) hlen hst (by show 2 * 0 + _ ≤ _; omega) hd (fun _ _ => ⟨has, eT, hc, hs⟩)
  dsimp only [Pt.U, Pt.locs, Pt.cells, Pt.slots] at X' l1 l2 l3 st hQ
  subst l1 l2 l3
  exact Go.step (fun _ k => st.trans k) (H T' Lc v X' hQ)
theorem gs.face (W : Nat) (X : Stand p l e Rm s m args below meth c T locs cells slots) (hx : p.tables.exec = Jvm.exec) (hZ : Z.Warmed39 s.vm) (hown : s.vm.findClass own = some m.cls) (hM : MetFree l z (head1 [Cond.code z bytes maxL ret] rm) (fun a U => a = as' ∧ Z.Warmed39 U.vm ∧ U.heap = h) (fun _ _ _ _ _ => True) (fun _ U o U' => ∃ v L, o = .returned v ∧ Q v U'.heap L ∧ FrameEnd U o U' L rm.cells rm.slots)) (wc : (Cond.code z bytes maxL ret).before a0 Z = true) (wz : (Cond.initialized z.cls).before a0 Z = true) (w1 : (Cond.methodLink own index y).before a0 Z = true) (w2 : (Cond.declares y).before a0 Z = true) (w3 : (Cond.interfaceMethod y.cls y.cls y.name y.desc).before args s = true) (w4 : (Cond.selects C y z).before a0 Z = true) (w5 : (Cond.instanceMethod z).before a0 Z = true) (w6 : (Cond.publicMethod z).before a0 Z = true) (w7 : (Cond.unhidden C y.name y.desc).before a0 Z = true) (w8 : (Cond.castable C y.cls).before a0 Z = true) (hy : y.cls ≠ "java/lang/invoke/MethodHandle" ∧ y.cls ≠ "java/lang/invoke/VarHandle") (E : Exa Z h b C) (hf : rm.frames + 1 ≤ Rm.frames) (hl : W + (maxL + 11) + rm.locals ≤ Rm.locals) (hml : Ls.size = c.maxLocals) (argsL : List Value) (hlen : ∀ sig, parseMethodDescriptor y.desc = some sig → argsL.length = sig.parameters.length) (hst : stk = argsL.reverse ++ .ref b :: rest) (hW : (rest.map fun v => v.category).sum ≤ W) (hd : decode c.code pc = .ok (.invokeinterface index count, 5)) (has : (.ref b :: argsL).toArray = as') (eT : T.heap = h) (hc : cells + rm.cells ≤ Rm.cells) (hs : slots + rm.slots ≤ Rm.slots) (H : ∀ (T' : State) (Lc : List Loc) (v : Option Value), Stand p l e Rm s m args below meth c T' (locs ++ Lc) (cells + rm.cells) (slots + rm.slots) → Q v T'.heap Lc → Go p e below R (T'.setTop (mkF m (pc + 5) Ls (v.toList ++ rest)))) : Go p e below R (T.setTop (mkF m pc Ls stk)) := by
  obtain ⟨cq, kq, qa, qb, qc⟩ := isOf hZ eT E
  obtain ⟨v, _, ⟨T', L', k', n'⟩, -, X', ⟨Lc, hQ, l1, l2, l3⟩, st⟩ := X.interfaceBack hx hown (mvT hZ w1) (mvT hZ w2) w3 (mvT hZ w4) (mvT hZ w5) (mvT hZ w6) (mvT hZ w7) (mvT hZ w8) hy (backOf (W := W) hM hZ wc wz hf hl) qa qb qc (g := mkF m pc Ls stk) rfl hml (Steps.refl _) (argsL := argsL) (rest := rest) hlen hst (by show 2 * 0 + _ ≤ _; omega) hd (fun _ _ => ⟨has, eT, hc, hs⟩)
  dsimp only [Pt.U, Pt.locs, Pt.cells, Pt.slots] at X' l1 l2 l3 st hQ
  subst l1 l2 l3
  exact Go.step (fun _ k => st.trans k) (H T' Lc v X' hQ)
end GS3
abbrev y_1 : MethodName := ⟨"com/example/penelope/penelope/internal/CoverageCannotTakeEffectPinLaw", "make", "(ICC)Ljava/lang/String;"⟩
abbrev c_1 : ByteArray := method_3_code
abbrev y_2 : MethodName := ⟨"java/lang/String", "<init>", "([C)V"⟩
abbrev c_2 : ByteArray := jdk_42_method_3_code
abbrev y_3 : MethodName := ⟨"java/lang/String", "<init>", "([CIILjava/lang/Void;)V"⟩
abbrev c_3 : ByteArray := jdk_42_method_149_code
abbrev y_4 : MethodName := ⟨"java/lang/Object", "<init>", "()V"⟩
abbrev c_4 : ByteArray := object_method_1_code
abbrev y_5 : MethodName := ⟨"com/example/penelope/penelope/internal/CoverageCannotTakeEffectPinLaw", "expected", "(ICCICC)Ljava/lang/String;"⟩
abbrev c_5 : ByteArray := method_4_code
abbrev y_6 : MethodName := ⟨"java/lang/StringUTF16", "compress", "([CII)[B"⟩
abbrev c_6 : ByteArray := jdk_52_method_16_code
abbrev y_7 : MethodName := ⟨"java/lang/StringUTF16", "compress", "([CI[BII)I"⟩
abbrev c_7 : ByteArray := jdk_52_method_21_code
abbrev y_8 : MethodName := ⟨"java/lang/StringUTF16", "coderFromArrayLen", "([BI)B"⟩
abbrev c_8 : ByteArray := jdk_52_method_15_code
abbrev y_9 : MethodName := ⟨"com/example/penelope/penelope/internal/Coverage", "cannotTakeEffect", "(Ljava/lang/String;Ljava/lang/String;)Lcom/example/penelope/penelope/exception/InterceptionException;"⟩
abbrev c_9 : ByteArray := prog_13_method_8_code
abbrev y_10 : MethodName := ⟨"java/lang/StringBuilder", "<init>", "()V"⟩
abbrev c_10 : ByteArray := jdk_67_method_1_code
abbrev y_11 : MethodName := ⟨"java/lang/AbstractStringBuilder", "<init>", "(I)V"⟩
abbrev c_11 : ByteArray := jdk_68_method_2_code
abbrev y_12 : MethodName := ⟨"java/lang/StringBuilder", "append", "(Ljava/lang/String;)Ljava/lang/StringBuilder;"⟩
abbrev c_12 : ByteArray := jdk_67_method_7_code
abbrev y_13 : MethodName := ⟨"java/lang/AbstractStringBuilder", "append", "(Ljava/lang/String;)Ljava/lang/AbstractStringBuilder;"⟩
abbrev c_13 : ByteArray := jdk_68_method_22_code
abbrev y_14 : MethodName := ⟨"java/lang/String", "length", "()I"⟩
abbrev c_14 : ByteArray := jdk_42_method_54_code
abbrev y_15 : MethodName := ⟨"java/lang/String", "coder", "()B"⟩
abbrev c_15 : ByteArray := jdk_42_method_152_code
abbrev y_16 : MethodName := ⟨"java/lang/AbstractStringBuilder", "ensureCapacityInternal", "(I)V"⟩
abbrev c_16 : ByteArray := jdk_68_method_9_code
abbrev y_17 : MethodName := ⟨"java/lang/AbstractStringBuilder", "putStringAt", "(ILjava/lang/String;)V"⟩
abbrev c_17 : ByteArray := jdk_68_method_73_code
abbrev y_18 : MethodName := ⟨"java/lang/AbstractStringBuilder", "inflateIfNeededFor", "(Ljava/lang/String;)V"⟩
abbrev c_18 : ByteArray := jdk_68_method_71_code
abbrev y_19 : MethodName := ⟨"java/lang/String", "getBytes", "([BIB)V"⟩
abbrev c_19 : ByteArray := jdk_42_method_147_code
abbrev y_20 : MethodName := ⟨"java/lang/AbstractStringBuilder", "newCapacity", "(I)I"⟩
abbrev c_20 : ByteArray := jdk_68_method_10_code
abbrev y_21 : MethodName := ⟨"jdk/internal/util/ArraysSupport", "newLength", "(III)I"⟩
abbrev c_21 : ByteArray := jdk_48_method_27_code
abbrev y_22 : MethodName := ⟨"java/lang/Math", "max", "(II)I"⟩
abbrev c_22 : ByteArray := jdk_29_method_65_code
abbrev y_23 : MethodName := ⟨"java/util/Arrays", "copyOf", "([BI)[B"⟩
abbrev c_23 : ByteArray := jdk_65_method_121_code
abbrev y_24 : MethodName := ⟨"java/lang/Math", "min", "(II)I"⟩
abbrev c_24 : ByteArray := jdk_29_method_69_code
abbrev y_25 : MethodName := ⟨"java/lang/StringBuilder", "toString", "()Ljava/lang/String;"⟩
abbrev c_25 : ByteArray := jdk_67_method_42_code
abbrev y_26 : MethodName := ⟨"java/lang/String", "<init>", "(Ljava/lang/StringBuilder;)V"⟩
abbrev c_26 : ByteArray := jdk_42_method_53_code
abbrev y_27 : MethodName := ⟨"java/lang/String", "<init>", "(Ljava/lang/AbstractStringBuilder;Ljava/lang/Void;)V"⟩
abbrev c_27 : ByteArray := jdk_42_method_150_code
abbrev y_28 : MethodName := ⟨"java/lang/AbstractStringBuilder", "getValue", "()[B"⟩
abbrev c_28 : ByteArray := jdk_68_method_64_code
abbrev y_29 : MethodName := ⟨"java/lang/StringBuilder", "length", "()I"⟩
abbrev c_29 : ByteArray := jdk_67_method_93_code
abbrev y_30 : MethodName := ⟨"java/lang/AbstractStringBuilder", "length", "()I"⟩
abbrev c_30 : ByteArray := jdk_68_method_6_code
abbrev y_31 : MethodName := ⟨"java/lang/AbstractStringBuilder", "isLatin1", "()Z"⟩
abbrev c_31 : ByteArray := jdk_68_method_68_code
abbrev y_32 : MethodName := ⟨"java/util/Arrays", "copyOfRange", "([BII)[B"⟩
abbrev c_32 : ByteArray := jdk_65_method_132_code
abbrev y_33 : MethodName := ⟨"java/util/Arrays", "copyOfRangeByte", "([BII)[B"⟩
abbrev c_33 : ByteArray := jdk_65_method_133_code
abbrev y_34 : MethodName := ⟨"java/util/Arrays", "checkLength", "(II)V"⟩
abbrev c_34 : ByteArray := jdk_65_method_131_code
abbrev y_35 : MethodName := ⟨"com/example/penelope/penelope/exception/InterceptionException", "<init>", "(Ljava/lang/String;)V"⟩
abbrev c_35 : ByteArray := prog_7_method_1_code
abbrev y_36 : MethodName := ⟨"com/example/penelope/penelope/exception/TransactionException", "<init>", "(Ljava/lang/String;Ljava/lang/Throwable;)V"⟩
abbrev c_36 : ByteArray := prog_10_method_1_code
abbrev y_37 : MethodName := ⟨"java/lang/RuntimeException", "<init>", "(Ljava/lang/String;Ljava/lang/Throwable;)V"⟩
abbrev c_37 : ByteArray := jdk_58_method_3_code
abbrev y_38 : MethodName := ⟨"java/lang/Exception", "<init>", "(Ljava/lang/String;Ljava/lang/Throwable;)V"⟩
abbrev c_38 : ByteArray := jdk_59_method_3_code
abbrev y_39 : MethodName := ⟨"java/lang/Throwable", "<init>", "(Ljava/lang/String;Ljava/lang/Throwable;)V"⟩
abbrev c_39 : ByteArray := jdk_78_method_3_code
abbrev y_40 : MethodName := ⟨"java/lang/Throwable", "fillInStackTrace", "()Ljava/lang/Throwable;"⟩
abbrev c_40 : ByteArray := jdk_78_method_18_code
abbrev y_41 : MethodName := ⟨"java/lang/Throwable", "<init>", "()V"⟩
abbrev c_41 : ByteArray := jdk_78_method_1_code
abbrev y_42 : MethodName := ⟨"java/lang/Throwable", "getMessage", "()Ljava/lang/String;"⟩
abbrev c_42 : ByteArray := jdk_78_method_6_code
abbrev y_43 : MethodName := ⟨"java/lang/String", "equals", "(Ljava/lang/Object;)Z"⟩
abbrev c_43 : ByteArray := jdk_42_method_66_code
abbrev y_44 : MethodName := ⟨"java/lang/StringLatin1", "equals", "([B[B)Z"⟩
abbrev c_44 : ByteArray := jdk_43_method_13_code
abbrev y_45 : MethodName := ⟨"java/lang/Throwable", "getCause", "()Ljava/lang/Throwable;"⟩
abbrev c_45 : ByteArray := jdk_78_method_8_code
abbrev y_46 : MethodName := ⟨"java/lang/String", "valueOf", "(C)Ljava/lang/String;"⟩
abbrev c_46 : ByteArray := jdk_42_method_139_code
abbrev y_47 : MethodName := ⟨"java/lang/StringLatin1", "canEncode", "(C)Z"⟩
abbrev c_47 : ByteArray := jdk_43_method_3_code
abbrev y_48 : MethodName := ⟨"java/lang/StringLatin1", "toBytes", "(C)[B"⟩
abbrev c_48 : ByteArray := jdk_43_method_46_code
abbrev y_49 : MethodName := ⟨"java/lang/String", "<init>", "([BB)V"⟩
abbrev c_49 : ByteArray := jdk_42_method_151_code
theorem i32_is {k : Int32} (z : Int32) (h : k.toInt = z.toInt) : k = z := Int32.toInt_inj.mp h
theorem rem_bd (x m : Int32) (hm : 0 < m.toInt) : 0 ≤ ((x &&& (2147483647 : Int32)) % m).toInt ∧ ((x &&& (2147483647 : Int32)) % m).toInt < m.toInt := by
  have e1 : (x &&& (2147483647 : Int32)).toInt = x.toInt % 2 ^ 31 := Jvm.Kit.i32_mask x 2147483647 (k := 31) (by decide) (by decide)
  have h0 : 0 ≤ (x &&& (2147483647 : Int32)).toInt := by rw [e1]; exact Int.emod_nonneg _ (by decide)
  rw [Jvm.Kit.i32_rem_nonneg h0]
  exact ⟨Int.emod_nonneg _ (by omega), Int.emod_lt_of_pos _ hm⟩

theorem cs4 {k : Int32} (h : 0 ≤ k.toInt ∧ k.toInt < 4) : k = (0 : Int32) ∨ k = (1 : Int32) ∨ k = (2 : Int32) ∨ k = (3 : Int32) := by
  have q : k.toInt = 0 ∨ k.toInt = 1 ∨ k.toInt = 2 ∨ k.toInt = 3 := by omega
  rcases q with q | q | q | q
  · exact Or.inl (i32_is 0 q)
  · exact Or.inr (Or.inl (i32_is 1 q))
  · exact Or.inr (Or.inr (Or.inl (i32_is 2 q)))
  · exact Or.inr (Or.inr (Or.inr ((i32_is 3 q))))
theorem c8_of (x : Int32) : ∃ i : Fin 256, x &&& (255 : Int32) = Int32.ofNat i.val := by
  have e1 : (x &&& (255 : Int32)).toInt = x.toInt % 2 ^ 8 := Jvm.Kit.i32_mask x 255 (k := 8) (by decide) (by decide)
  have h0 := Int.emod_nonneg x.toInt (show (256 : Int) ≠ 0 by decide)
  have h1 := Int.emod_lt_of_pos x.toInt (show (0 : Int) < 256 by decide)
  refine ⟨⟨(x.toInt % 256).toNat, by omega⟩, Int32.toInt_inj.mp ?_⟩
  rw [e1, Int32.toInt_ofNat_small (by show (x.toInt % 256).toNat < 2 ^ 31; omega)]
  show x.toInt % 256 = ((x.toInt % 256).toNat : Int)
  omega
theorem c8f : ∀ i : Fin 256, (((Int32.ofNat i.val).toUInt32.toUInt16.toUInt32.toInt32).toUInt32.toUInt16.toUInt32.toInt32) = ((Int32.ofNat i.val).toUInt32.toUInt16.toUInt32.toInt32) ∧ ¬ (255 : Int32) < ((Int32.ofNat i.val).toUInt32.toUInt16.toUInt32.toInt32) := by decide +kernel
theorem c8 (x : Int32) : (((x &&& (255 : Int32)).toUInt32.toUInt16.toUInt32.toInt32).toUInt32.toUInt16.toUInt32.toInt32) = ((x &&& (255 : Int32)).toUInt32.toUInt16.toUInt32.toInt32) ∧ ¬ (255 : Int32) < ((x &&& (255 : Int32)).toUInt32.toUInt16.toUInt32.toInt32) := by
  obtain ⟨i, e⟩ := c8_of x
  rw [e]; exact c8f i
theorem eq_ref {args : Array Value} {s : State} {t u : Term} {b : Addr} (h : (Jvm.Cond.eq t u).value args s none s [] = some true) (hu : u.eval args s none [] s = some (.ref b)) : t.eval args s none [] s = some (.ref b) := by
  simp only [Cond.value, hu] at h
  cases e : t.eval args s none [] s with
  | none => simp [e] at h
  | some v => cases v <;> simp_all
theorem len_start {args : Array Value} {s : State} {t : Term} {a : Addr} {cl : Cell} {ty : FieldType} {z : Int32} (A : Arr s s.heap a cl ty) (ev : t.eval args s none [] s = some (.ref a)) (h : (Term.length t).eval args s none [] s = some (.int z)) : cl.slots.size < 2 ^ 31 ∧ cl.slots.size.toInt32 = z := by
  have ha := Arr.fin (Vm.Alike.refl s.vm) A
  have h' : (if cl.slots.size < 2147483648 then some (Value.int cl.slots.size.toInt32) else none) = some (Value.int z) := by simpa [Term.eval, ev, ha] using h
  by_cases q : cl.slots.size < 2147483648
  · rw [if_pos q] at h'; exact ⟨q, by simpa using h'⟩
  · rw [if_neg q] at h'; cases h'
theorem elem_start {args : Array Value} {s : State} {t : Term} {a b : Addr} {cl : Cell} {ty : FieldType} {j : Int32} {n : Nat} (A : Arr s s.heap a cl ty) (ev : t.eval args s none [] s = some (.ref a)) (h : (Term.elem t (.int j)).eval args s none [] s = some (.ref b)) (hj : ¬ j < 0 ∧ j.toNatClampNeg = n) : cl.slots[n]? = some (.ref b) := by
  have ha := Arr.fin (Vm.Alike.refl s.vm) A
  have q := elem_f (a := .int j) ev (Term.int_eval j) ha hj.1
  rw [hj.2] at q
  exact q.symm.trans h
theorem and3_bd (x : Int32) : 0 ≤ (x &&& (3 : Int32)).toInt ∧ (x &&& (3 : Int32)).toInt < 4 := by
  have e1 : (x &&& (3 : Int32)).toInt = x.toInt % 2 ^ 2 := Jvm.Kit.i32_mask x 3 (k := 2) (by decide) (by decide)
  rw [e1]; omega
theorem and3r_bd (x : Int32) : 0 ≤ ((x &&& (3 : Int32)) % (3 : Int32)).toInt ∧ ((x &&& (3 : Int32)) % (3 : Int32)).toInt < 3 := by
  rcases cs4 (and3_bd x) with e | e | e | e <;> rw [e] <;> decide
theorem cs3 {k : Int32} (h : 0 ≤ k.toInt ∧ k.toInt < 3) : k = (0 : Int32) ∨ k = (1 : Int32) ∨ k = (2 : Int32) := by
  have q : k.toInt = 0 ∨ k.toInt = 1 ∨ k.toInt = 2 := by omega
  rcases q with q | q | q
  · exact Or.inl (i32_is 0 q)
  · exact Or.inr (Or.inl (i32_is 1 q))
  · exact Or.inr (Or.inr ((i32_is 2 q)))
theorem rem15_bd (x : Int32) : 0 ≤ ((x &&& (32767 : Int32)) % (3 : Int32)).toInt ∧ ((x &&& (32767 : Int32)) % (3 : Int32)).toInt < 3 := by
  have e1 : (x &&& (32767 : Int32)).toInt = x.toInt % 2 ^ 15 := Jvm.Kit.i32_mask x 32767 (k := 15) (by decide) (by decide)
  have h0 : 0 ≤ (x &&& (32767 : Int32)).toInt := by rw [e1]; exact Int.emod_nonneg _ (by decide)
  rw [Jvm.Kit.i32_rem_nonneg h0]
  exact ⟨Int.emod_nonneg _ (by decide), Int.emod_lt_of_pos _ (by decide)⟩
theorem sel_priv2 {Z s : State} {a0 args : Array Value} {C : String} {y : MethodName} (hZ : Z.Warmed39 s.vm) (ws : (Jvm.Cond.selects C y y).before a0 Z = true) (wp : (Jvm.Cond.privateMethod y).before a0 Z = true) (wm : (Jvm.Cond.instanceMethod y).before a0 Z = true) (hy : y.cls ≠ "java/lang/invoke/MethodHandle" ∧ y.cls ≠ "java/lang/invoke/VarHandle") : (Jvm.Cond.selects y.cls y y).before args s = true := by
  obtain ⟨c2, r2, m2, q1, q2, q3, q4, kP, hkP, hkPi⟩ := Cond.selects_spec (show (Jvm.Cond.selects C y y).before args s = true from mvT hZ ws)
  exact Jvm.Stand.selects_self_of_private (findClass_of_methodNamed q3) hkP hkPi (Cond.privateMethod_at (mvP hZ wp (args := args))) (mv hZ wm) hy
theorem same_self {Z : State} {a0 : Array Value} {C : String} {y0 y : MethodName} (ws : (Jvm.Cond.selects C y0 y0).before a0 Z = true) (hc : y0.cls = y.cls) (wm : (Jvm.Cond.instanceMethod y).before a0 Z = true) (hy : y.cls ≠ "java/lang/invoke/MethodHandle" ∧ y.cls ≠ "java/lang/invoke/VarHandle") : (Jvm.Cond.sameMethod y.cls y.cls y.name y.desc).before a0 Z = true := by
  obtain ⟨c2, r2, m2, q1, q2, q3, q4, kP, hkP, hkPi⟩ := Cond.selects_spec ws
  obtain ⟨mk, methM, hnamed, hmethM, -, -⟩ := Cond.instanceMethod_spec wm
  have hfound : Z.methodFound? y.cls y.name y.desc = some mk := State.methodFound?_of_named hnamed hy
  have hn' : Z.methodNamed? ⟨y.cls, y.name, y.desc⟩ = some mk := hnamed
  have hcl := findClass_of_methodNamed q3
  rw [hc] at hcl
  simp [Cond.before, Cond.holds, Cond.value, hcl, hfound, hn', hkP, hkPi]
theorem notFace_by {args : Array Value} {s : State} {C : String} {y0 y : MethodName} (hsel : (Jvm.Cond.selects C y0 y0).before args s = true) (hc : y0.cls = y.cls) : NotFace s y := fun r0 h0 => by
  obtain ⟨c2, r2, m2, q1, q2, q3, q4, kP, hkP, hkPi⟩ := Cond.selects_spec hsel
  have e1 := findClass_of_methodNamed q3
  have e2 := findClass_of_methodNamed h0
  rw [hc] at e1
  have e3 : m2.cls = r0.cls := Option.some.inj (e1.symm.trans e2)
  rw [← e3]
  exact ⟨kP, hkP, hkPi⟩
def Fin3 (Z : State) (EL : List (String × Nat)) (s : State) (below : List Frame) (Q : Option Value → Heap → List Loc → Prop) (K N : Nat) (t : State) (o : Outcome) : Prop := t.status = .running ∧ Ended t below o ∧ ∃ v L, o = .returned v ∧ Q v t.heap L ∧ CHr Z EL s.vm s.heap t.vm t.heap ∧ ReturnedEndW s o t L K N
section GoRetH
variable {p : Program} {l : Launch} {e : Env} {R : Room} {s : State} {vm0 : Vm} {m : MethodId} {args : Array Value} {below : List Frame} {meth : Method} {c : Code} {T : State} {locs : List Loc} {cells slots : Nat} {Q : Option Value → Heap → List Loc → Prop} {K N pc k0 : Nat} {Ls : Array Slot} {rest : List Value} {Z : State} {a0 : Array Value} {EL : List (String × Nat)} {h0 h : Heap}
theorem chFin (X : Stand p l e R (s.setVm vm0) m args below meth c T locs cells slots) (hZ : Z.Warmed39 vm0) (hEL : EW Z a0 EL) (hh : s.heap = h0) (eT : T.heap = h) (hC : CHr Z EL s.vm h0 vm0 h) : CHr Z EL s.vm s.heap T.vm T.heap := by
  subst eT; rw [hh]; exact hC.trans (CHv.at X hZ hEL hC.1)
theorem GoH.retZ (X : Stand p l e R (s.setVm vm0) m args below meth c T locs cells slots) (hS : s.Since vm0 k0) (hk : k0 ≤ T.heap.size) (hZ : Z.Warmed39 vm0) (hEL : EW Z a0 EL) (hh : s.heap = h0) (eT : T.heap = h) (hC : CHr Z EL s.vm h0 vm0 h) (hx : p.tables.exec = Jvm.exec) {z : Int32} {t : FieldType} (hret : meth.sig.returnType = some t) (ht : t = .boolean ∨ t = .byte ∨ t = .char ∨ t = .short) (hlk : meth.locks = false) (hd : decode c.code pc = .ok (.ireturn, 1)) (hq : Q (some (.int (nar t z))) T.heap locs) (hc : cells ≤ K) (hn : slots ≤ N) : Go p e below (Fin3 Z EL s below Q K N) (T.setTop (mkF m pc Ls (.int z :: rest))) := by
  obtain ⟨fs, hr, hrun, hended, hW⟩ := X.leaveW hS hk (v := some (.int (nar t z))) (fun h => by rw [hret] at h; cases h) hlk
  exact ⟨_, _, retN X hx hret ht hd hr, hrun, hended, _, _, rfl, hq, (show CHr Z EL s.vm s.heap T.vm T.heap from chFin X hZ hEL hh eT hC), wmono hW hc hn⟩
theorem GoH.retI (X : Stand p l e R (s.setVm vm0) m args below meth c T locs cells slots) (hS : s.Since vm0 k0) (hk : k0 ≤ T.heap.size) (hZ : Z.Warmed39 vm0) (hEL : EW Z a0 EL) (hh : s.heap = h0) (eT : T.heap = h) (hC : CHr Z EL s.vm h0 vm0 h) (hx : p.tables.exec = Jvm.exec) {z : Int32} (hret : meth.sig.returnType = some .int) (hlk : meth.locks = false) (hd : decode c.code pc = .ok (.ireturn, 1)) (hq : Q (some (.int z)) T.heap locs) (hc : cells ≤ K) (hn : slots ≤ N) : Go p e below (Fin3 Z EL s below Q K N) (T.setTop (mkF m pc Ls (.int z :: rest))) := by
  obtain ⟨fs, hr, hrun, hended, hW⟩ := X.leaveW hS hk (v := some (.int z)) (fun h => by rw [hret] at h; cases h) hlk
  exact ⟨_, _, Jvm.RoadKit.retI X hx hret hd hr, hrun, hended, _, _, rfl, hq, (show CHr Z EL s.vm s.heap T.vm T.heap from chFin X hZ hEL hh eT hC), wmono hW hc hn⟩
theorem GoH.retR (X : Stand p l e R (s.setVm vm0) m args below meth c T locs cells slots) (hS : s.Since vm0 k0) (hk : k0 ≤ T.heap.size) (hZ : Z.Warmed39 vm0) (hEL : EW Z a0 EL) (hh : s.heap = h0) (eT : T.heap = h) (hC : CHr Z EL s.vm h0 vm0 h) (hx : p.tables.exec = Jvm.exec) {w : Value} {t : FieldType} (hret : meth.sig.returnType = some t) (ht : t.isReference = true) (hw : w.isRef = true) (hlk : meth.locks = false) (hd : decode c.code pc = .ok (.areturn, 1)) (hq : Q (some w) T.heap locs) (hc : cells ≤ K) (hn : slots ≤ N) : Go p e below (Fin3 Z EL s below Q K N) (T.setTop (mkF m pc Ls (w :: rest))) := by
  obtain ⟨fs, hr, hrun, hended, hW⟩ := X.leaveW hS hk (v := some w) (fun h => by rw [hret] at h; cases h) hlk
  have hnw : narrow t w = w := by rcases ref_cases hw with rfl | ⟨a, rfl⟩ <;> cases t <;> first | rfl | (cases ht)
  exact ⟨_, _, retOut X hx hret hnw (Or.inr (Or.inr (Or.inr (Or.inr ⟨rfl, ht, hw⟩)))) hd hr, hrun, hended, _, _, rfl, hq, (show CHr Z EL s.vm s.heap T.vm T.heap from chFin X hZ hEL hh eT hC), wmono hW hc hn⟩
theorem GoH.retV (X : Stand p l e R (s.setVm vm0) m args below meth c T locs cells slots) (hS : s.Since vm0 k0) (hk : k0 ≤ T.heap.size) (hZ : Z.Warmed39 vm0) (hEL : EW Z a0 EL) (hh : s.heap = h0) (eT : T.heap = h) (hC : CHr Z EL s.vm h0 vm0 h) (hx : p.tables.exec = Jvm.exec) (hret : meth.sig.returnType = none) (hlk : meth.locks = false) (hd : decode c.code pc = .ok (.return_, 1)) (hq : Q none T.heap locs) (hc : cells ≤ K) (hn : slots ≤ N) : Go p e below (Fin3 Z EL s below Q K N) (T.setTop (mkF m pc Ls [])) := by
  obtain ⟨fs, hr, hrun, hended, hW⟩ := X.leaveW hS hk (v := none) (fun _ => rfl) hlk
  exact ⟨_, _, X.returnOut hx hret hd hr, hrun, hended, _, _, rfl, hq, (show CHr Z EL s.vm s.heap T.vm T.heap from chFin X hZ hEL hh eT hC), wmono hW hc hn⟩
end GoRetH
/-- a String under construction (its value is null) is no booked literal -/
theorem safe_str {Z : State} {EL : List (String × Nat)} {vm : Vm} {h : Heap} {y : Addr} (hal : Z.vm.Alike vm) (E : Exa Z h y "java/lang/String") (F : Fld Z h y "java/lang/String" "value" "[B" .null) : Safe Z EL vm h y := fun B => by
  obtain ⟨cell, cv, kv, iv, f, g1, g2, g3, g4, g5, g6, g7⟩ := F
  obtain ⟨p, -, u, a, -, q, -, F', rfl | rfl⟩ := B
  · obtain ⟨cS, ⟨⟨s1, -, -, ⟨c1, k1, i1, f1, -⟩, -, -, -, v1, -⟩, -⟩, -⟩ := F'
    cases (show h[q.sa]? = some q.sC from s1).symm.trans g1
    obtain ⟨k3, e3, -⟩ := State.fieldFound?_setVm (s := Z) hal g2
    have e4 := (show (Wst Z vm h).fieldFound? _ _ _ = _ from e3).symm.trans f1
    simp only [Option.some.injEq, Prod.mk.injEq] at e4
    rw [← e4.2.2.2, g7] at v1
    simp at v1
  · obtain ⟨cell2, k, e1, e2, e3, -, -⟩ := E
    cases (show h[q.sd]? = some q.SA from F'.hd).symm.trans e1
    obtain ⟨cS, -, -, f2, -⟩ := F'
    have f3 : vm.findClass "[B" = some q.SA.cls := f2
    rw [hal.findClass] at f3
    obtain ⟨k1, q1, q2⟩ := Vm.findClass_spec f3
    obtain ⟨k2, q3, q4⟩ := Vm.findClass_spec e2
    cases q1.symm.trans q3
    exact absurd (q2.symm.trans q4) (by decide)
theorem exa_ne {Z : State} {h : Heap} {a b : Addr} {C D : String} (E : Exa Z h a C) (F : Exa Z h b D) (q : C ≠ D) : a ≠ b := fun e => by
  subst e
  obtain ⟨c1, k1, e1, e2, -⟩ := E
  obtain ⟨c2, k2, f1, f2, -⟩ := F
  cases e1.symm.trans f1
  obtain ⟨k3, q1, q2⟩ := Vm.findClass_spec e2
  obtain ⟨k4, q3, q4⟩ := Vm.findClass_spec f2
  cases q1.symm.trans q3
  exact q (q2.symm.trans q4)
theorem exa_arv_ne {Z : State} {h : Heap} {a b : Addr} {C : String} {n : Nat} {a0 : Array Value} {k : ClassId} {ty : FieldType} {z : Int32} {vs : List Value} {dv : Value} (wi : (Jvm.Cond.instantiable C n).before a0 Z = true) (E : Exa Z h a C) (A : Arv Z h b k ty z vs dv) : a ≠ b := fun e => by
  subst e
  obtain ⟨c1, k1, e1, e2, -⟩ := E
  obtain ⟨cl, ⟨A1, ⟨-, kA, hkA, compA, hkindA⟩, -⟩, -⟩ := A
  cases e1.symm.trans A1
  obtain ⟨cI, kI, hfI, hkI, hkindI, -⟩ := Cond.instantiable_spec wi
  cases e2.symm.trans hfI
  cases hkI.symm.trans hkA
  rw [hkindI] at hkindA; cases hkindA
section GsCst
variable {p : Program} {l : Launch} {e : Env} {Rm : Room} {s : State} {m : MethodId} {args : Array Value} {below : List Frame} {meth : Method} {c : Code} {T : State} {locs : List Loc} {cells slots pc n0 : Nat} {R : State → Outcome → Prop} {Ls : Array Slot} {rest : List Value} {Z : State} {h h0 : Heap} {a : Addr} {k : ClassId} {n j x : Int32} {vs : List Value} {dv : Value} {ws : List Addr}
/-- castore into an array whose components are told, in one step -/
theorem gs.cst (X : Stand p l e Rm s m args below meth c T locs cells slots) (hx : p.tables.exec = Jvm.exec) (hZ : Z.Warmed39 s.vm) (eT : T.heap = h) (F : Arv Z h a k .char n vs dv) (i : Nat) (h1 : (decide (¬ j < 0) && decide (j.toNatClampNeg = i) && decide (i < n.toNatClampNeg)) = true) {ll : Nat} (hlen : vs.length = ll) (hi : Nat.blt i ll = true) (N : Fr n0 locs) (nn : n0 ≤ a) (old : Old Z n0 h) (keep : Keep h0 h ws) (kw : a ∈ ws ∨ h0.size ≤ a) (hd : decode c.code pc = .ok (.castore, 1))
    (K : ∀ T' h', Stand p l e Rm s m args below meth c T' (locs ++ [⟨a, j.toNatClampNeg⟩]) cells slots → T'.heap = h' → Wr h h' a j.toNatClampNeg (.int (nar .char x)) → Fr n0 (locs ++ [⟨a, j.toNatClampNeg⟩]) → Old Z n0 h' → Keep h0 h' ws → Arv Z h' a k .char n (vs.set i (.int (nar .char x))) dv → (vs.set i (.int (nar .char x))).length = ll → Go p e below R (T'.setTop (mkF m (pc + 1) Ls rest))) : Go p e below R (T.setTop (mkF m pc Ls (.int x :: .int j :: .ref a :: rest))) := by
  obtain ⟨cl, A, q1, S, q3, H, G⟩ := id F
  simp only [Bool.and_eq_true, decide_eq_true_eq] at h1
  obtain ⟨⟨g1, g2⟩, g3⟩ := h1
  have hj : ¬ (j < 0 ∨ cl.slots.size ≤ j.toNatClampNeg) := by
    rintro (q | q)
    · exact g1 q
    · rw [S, g2] at q; omega
  obtain ⟨T', h', X', e', W, st⟩ := stC X hx hZ eT A hj (g := mkF m pc Ls (.int x :: .int j :: .ref a :: rest)) rfl rfl hd
  exact Go.step st (K T' h' X' e' W (Fr.snoc X' N nn) (old.wr W nn) (keep.wr W kw) (Arv.set A q1 S q3 H G (fits_nar_char _) W i g2 (by rw [hlen]; exact Nat.blt_eq.mp hi)) (by rw [List.length_set]; exact hlen))
end GsCst

abbrev EL_ : List (String × Nat) := consts_1
theorem hEL_ {a0 : Array Value} {Z : State} (hw : ∀ d ∈ tables_1, d.before a0 Z = true) : EW Z a0 EL_ := (EW.cons (wd hw 112 rfl) (by first | decide | simp | decide +kernel) (EW.cons (wd hw 18 rfl) (by first | decide | simp | decide +kernel) EW.nil))
theorem ne_v {args : Array Value} {s : State} {t : Term} {z y : Int32} (h : (Jvm.Cond.not (Jvm.Cond.eq t (.int z))).value args s none s [] = some true) (ev : t.eval args s none [] s = some (.int y)) : ¬ y = z := by intro q; subst q; simp [Cond.value, Term.eval, ev] at h
def Wd (Z : State) (cs_ : Int32) (un_ : Value) (sn_ : Value) : Prop := (Sta Z Z.heap "java/lang/String" "COMPACT_STRINGS" "Z" (.int cs_)) ∧ (¬ cs_ = (0 : Int32)) ∧ (Sta Z Z.heap "java/lang/Throwable" "UNASSIGNED_STACK" "[Ljava/lang/StackTraceElement;" un_) ∧ (un_.isRef = true) ∧ (Sta Z Z.heap "java/lang/Throwable" "SUPPRESSED_SENTINEL" "Ljava/util/List;" sn_) ∧ (sn_.isRef = true)
theorem wS_all {a0 : Array Value} {Z : State} (hw : ∀ d ∈ tables_1, d.before a0 Z = true) : ∀ a ∈ Bundle.stringAtoms, a.before a0 Z = true := fun a ha => hw a ((by decide +kernel : ∀ a ∈ Bundle.stringAtoms, a ∈ tables_1) a ha)
theorem backOfSPK {p : Program} {l : Launch} {e : Env} {R : Room} {s : State} {args : Array Value} {below : List Frame} {Z : State} {a0 : Array Value} {EL : List (String × Nat)} {h : Heap} {vm0 : Vm} {y : MethodName} {bytes : ByteArray} {maxL : Nat} {ret : Option FieldType} {rm : Room} {len W : Nat} {as' : Array Value} {Q : Option Value → Heap → List Loc → Prop}
    (hM : MetFree l y (head1 [Cond.code y bytes maxL ret] rm) (fun a U => a = as' ∧ Z.Warmed39 U.vm ∧ U.heap = h ∧ CHv Z EL U.vm h) (fun _ _ bl s _ => s.vm.MethodsKnown ∧ s.vm.FramesKnown bl) (fun _ U o U' => ∃ v L, o = .returned v ∧ Q v U'.heap L ∧ ReturnedEndW U o U' L rm.cells rm.slots))
    (hZ : Z.Warmed39 vm0) (wc : (Cond.code y bytes maxL ret).before a0 Z = true) (wz : (Cond.initialized y.cls).before a0 Z = true) (hf : rm.frames + 1 ≤ R.frames) (hl : W + (maxL + 11) + rm.locals ≤ R.locals) (hEL : EW Z a0 EL) (H : CHv Z EL vm0 h) (hTK : vm0.MethodsKnown) (hBelow : vm0.FramesKnown below) :
    BackS l R p e below (s.setVm vm0) args y len W (fun A a => a = as' ∧ A.U.heap = h ∧ A.cells + rm.cells ≤ R.cells ∧ A.slots + rm.slots ≤ R.slots)
      (fun A _ v B => ∃ L, Q v B.U.heap L ∧ B.locs = A.locs ++ L ∧ B.cells = A.cells + rm.cells ∧ B.slots = A.slots + rm.slots) :=
  BackS.of_freeWG (bytes := bytes) (maxL := maxL) (ret := ret) (E := fun _ _ o t L k n => k = rm.cells ∧ n = rm.slots ∧ ∃ v, o = .returned v ∧ Q v t.heap L) hM hf hl
    (fun m meth c A a Y hp => have hU : Z.Warmed39 A.U.vm := wtrans (s := s.setVm vm0) hZ Y.warmed
      ⟨by show (Cond.and _ .tt).before a A.U = true; rw [Cond.before_and, mv hU wc]; rfl, mv hU wc, mv hU wz, hp.2.2.1, hp.2.2.2⟩)
    (fun m meth c A a g mk Y hp => ⟨hp.1, wtrans (s := s.setVm vm0) hZ Y.warmed, hp.2.1, (CHv.at Y hZ hEL H).1⟩)
    (fun m meth c A a g mk Y _ hg => known_frames Y hg hTK hBelow)
    (fun _ _ _ _ ⟨v, L, h1, h2, h3⟩ => ⟨L, _, _, h3, rfl, rfl, v, h1, h2⟩)
    (fun m meth c A a g mk v t L k n Y hp _ _ ⟨e1, e2, v', e3, e4⟩ => by cases e3; subst e1 e2; exact ⟨L, e4, rfl, rfl, rfl⟩)
theorem hide_locs {p : Program} {l : Launch} {e : Env} {R : Room} {s : State} {m : MethodId} {args : Array Value} {below : List Frame} {meth : Method} {c : Code} {T : State} {locs : List Loc} {cells slots n0 : Nat} (X : Stand p l e R s m args below meth c T locs cells slots) (N : Fr n0 locs) : ∃ lc, Stand p l e R s m args below meth c T lc cells slots ∧ Fr n0 lc := ⟨_, X, N⟩
theorem map_lo8 (cs : List Int32) : cs.map StrChars.lo8 = cs.map (fun c => c.toInt8.toInt32) := rfl
def CH8 (c : Int32) : Prop := (c.toUInt32.toUInt16.toUInt32.toInt32) = c ∧ ¬ (255 : Int32) < c ∧ ¬ c < (0 : Int32) ∧ ((c.toInt8.toInt32).toInt8.toInt32) = c.toInt8.toInt32
instance (c : Int32) : Decidable (CH8 c) := by unfold CH8; infer_instance
theorem ch8f : ∀ i : Fin 256, CH8 ((Int32.ofNat i.val).toUInt32.toUInt16.toUInt32.toInt32) := by decide +kernel
theorem ch8 (x : Int32) : CH8 ((x &&& (255 : Int32)).toUInt32.toUInt16.toUInt32.toInt32) := by
  obtain ⟨i, e⟩ := c8_of x
  rw [e]; exact ch8f i
theorem allc0 : ∀ c ∈ ([] : List Int32), ¬ c < 0 ∧ ¬ (255 : Int32) < c := fun _ q => nomatch q
theorem allcS {x : Int32} {r : List Int32} (n : ¬ x < 0 ∧ ¬ (255 : Int32) < x) (h : ∀ c ∈ r, ¬ c < 0 ∧ ¬ (255 : Int32) < c) : ∀ c ∈ x :: r, ¬ c < 0 ∧ ¬ (255 : Int32) < c := fun c q => by
  rcases List.mem_cons.mp q with rfl | q
  · exact n
  · exact h c q
theorem litc {x : Int32} (h : (decide (¬ x < 0) && decide (¬ (255 : Int32) < x)) = true) : ¬ x < 0 ∧ ¬ (255 : Int32) < x := by simpa using h
theorem vwords {a0 : Array Value} {Z : State} (hw : ∀ d ∈ tables_1, d.before a0 Z = true) : ∀ d ∈ StrChars.Road.words, d.before a0 Z = true := fun d hd => hw d ((by decide +kernel : ∀ d ∈ StrChars.Road.words, d ∈ tables_1) d hd)
theorem vwordsEq {a0 : Array Value} {Z : State} (hw : ∀ d ∈ tables_1, d.before a0 Z = true) : ∀ d ∈ StrChars.Road.wordsEq, d.before a0 Z = true := fun d hd => hw d ((by decide +kernel : ∀ d ∈ StrChars.Road.wordsEq, d ∈ tables_1) d hd)
def cpL (vd vs : List Value) (sp dp nn : Int32) (dv : Value) : List Value := vd.take dp.toNatClampNeg ++ ((List.range nn.toNatClampNeg).map fun i => vs.getD (sp.toNatClampNeg + i) dv) ++ vd.drop (dp.toNatClampNeg + nn.toNatClampNeg)
theorem cpL_len {vd vs : List Value} {sp dp nn z : Int32} {dv : Value} (h : vd.length = z.toNatClampNeg) (q : dp.toNatClampNeg + nn.toNatClampNeg ≤ z.toNatClampNeg) : (cpL vd vs sp dp nn dv).length = z.toNatClampNeg := by
  simp only [cpL, List.length_append, List.length_take, List.length_map, List.length_range, List.length_drop]; omega
theorem rep_len (z : Int32) (dv : Value) : (List.replicate z.toNatClampNeg dv).length = z.toNatClampNeg := List.length_replicate
theorem shl0 (x : Int32) : x <<< ((0 : Int32) &&& 31) = x := by
  have e : ((0 : Int32) &&& 31) = 0 := by decide
  rw [e]; exact Int32.toBitVec_inj.mp (by simp)
theorem shr0 (x : Int32) : x >>> ((0 : Int32) &&& 31) = x := by
  have e : ((0 : Int32) &&& 31) = 0 := by decide
  rw [e]; exact Int32.toBitVec_inj.mp (by simp)
def pk (k a b : Int32) : List Int32 := if k = (0 : Int32) then [] else if k = (1 : Int32) then [a] else [a, b]
theorem pk0 (a b : Int32) : pk (0 : Int32) a b = [] := by simp [pk]
theorem pk1 (a b : Int32) : pk (1 : Int32) a b = [a] := by simp [pk]
theorem pk2 (a b : Int32) : pk (2 : Int32) a b = [a, b] := by simp [pk]
abbrev msgC : List Int32 := [32, 99, 97, 110, 110, 111, 116, 32, 116, 97, 107, 101, 32, 101, 102, 102, 101, 99, 116, 58, 32]
theorem pk_all {k a b : Int32} (ha : CH8 a) (hb : CH8 b) : ∀ c ∈ pk k a b, ¬ c < 0 ∧ ¬ (255 : Int32) < c := by
  unfold pk
  split
  · exact allc0
  · split
    · exact allcS ⟨ha.2.2.1, ha.2.1⟩ allc0
    · exact allcS ⟨ha.2.2.1, ha.2.1⟩ (allcS ⟨hb.2.2.1, hb.2.1⟩ allc0)
theorem msg_all : ∀ c ∈ msgC, ¬ c < 0 ∧ ¬ (255 : Int32) < c := by decide
abbrev csAll (ka ca cb kb cc cd : Int32) : List Int32 := pk ka ca cb ++ msgC ++ pk kb cc cd
theorem cs_all {ka ca cb kb cc cd : Int32} (h1 : CH8 ca) (h2 : CH8 cb) (h3 : CH8 cc) (h4 : CH8 cd) : ∀ c ∈ csAll ka ca cb kb cc cd, ¬ c < 0 ∧ ¬ (255 : Int32) < c := fun c hc => by
  rcases List.mem_append.mp hc with hc | hc
  · rcases List.mem_append.mp hc with hc | hc
    · exact pk_all h1 h2 c hc
    · exact msg_all c hc
  · exact pk_all h3 h4 c hc
theorem wide_c {x : Int32} (h : ¬ x < 0 ∧ ¬ (255 : Int32) < x) : ¬ x < 0 ∧ ¬ (65535 : Int32) < x := by
  have e1 : (255 : Int32).toInt = 255 := by decide
  have e2 : (65535 : Int32).toInt = 65535 := by decide
  refine ⟨h.1, fun q => h.2 ?_⟩
  rw [Int32.lt_iff_toInt_lt] at q ⊢; omega
theorem pk_len {k : Int32} (a b : Int32) (h : 0 ≤ k.toInt ∧ k.toInt < 3) : (pk k a b).length = k.toNatClampNeg := by
  rcases cs3 h with rfl | rfl | rfl
  · rw [pk0]; decide
  · rw [pk1]; rfl
  · rw [pk2]; rfl
theorem pkv_len {k : Int32} (a b : Int32) (h : 0 ≤ k.toInt ∧ k.toInt < 3) : (((pk k a b).map StrChars.lo8).map Value.int).length = k.toNatClampNeg := by
  rw [List.length_map, List.length_map]; exact pk_len a b h
theorem cs_len {ka ca cb kb cc cd : Int32} (h1 : 0 ≤ ka.toInt ∧ ka.toInt < 3) (h2 : 0 ≤ kb.toInt ∧ kb.toInt < 3) : (csAll ka ca cb kb cc cd).length ≤ 4000 := by
  rw [List.length_append, List.length_append, pk_len _ _ h1, pk_len _ _ h2]
  rcases cs3 h1 with rfl | rfl | rfl <;> rcases cs3 h2 with rfl | rfl | rfl <;> decide
theorem d3_0 : decode c_3 0 = .ok (.aload_n 0, 1) := by decide +kernel
theorem d3_1 : decode c_3 1 = .ok (.invokespecial 1, 3) := by decide +kernel
theorem d3_4 : decode c_3 4 = .ok (.iload_n 3, 1) := by decide +kernel
theorem d3_5 : decode c_3 5 = .ok (.ifCond .ne 22, 3) := by decide +kernel
theorem d3_8 : decode c_3 8 = .ok (.aload_n 0, 1) := by decide +kernel
theorem d3_9 : decode c_3 9 = .ok (.ldc 7, 2) := by decide +kernel
theorem d3_11 : decode c_3 11 = .ok (.getfield 9, 3) := by decide +kernel
theorem d3_14 : decode c_3 14 = .ok (.putfield 9, 3) := by decide +kernel
theorem d3_17 : decode c_3 17 = .ok (.aload_n 0, 1) := by decide +kernel
theorem d3_18 : decode c_3 18 = .ok (.ldc 7, 2) := by decide +kernel
theorem d3_20 : decode c_3 20 = .ok (.getfield 15, 3) := by decide +kernel
theorem d3_23 : decode c_3 23 = .ok (.putfield 15, 3) := by decide +kernel
theorem sn0 {a0 : Array Value} {Z : State} (hw : ∀ d ∈ tables_1, d.before a0 Z = true) : SN Z "java/lang/String" "coder" "B" "java/lang/String" "value" "[B" := slot_ne (Or.inr (wd hw 21 rfl)) (Or.inr (wd hw 20 rfl)) (by decide) (t := .byte) (t' := (.array .byte)) (by decide) (by decide)
theorem d3_26 : decode c_3 26 = .ok (.return_, 1) := by decide +kernel
theorem sn1 {a0 : Array Value} {Z : State} (hw : ∀ d ∈ tables_1, d.before a0 Z = true) : SN Z "java/lang/String" "value" "[B" "java/lang/String" "coder" "B" := slot_ne (Or.inr (wd hw 20 rfl)) (Or.inr (wd hw 21 rfl)) (by decide) (t := (.array .byte)) (t' := .byte) (by decide) (by decide)
theorem pn_0 : plainName "java/lang/String" = true := by first | (simp [plainName, overriddenIn]; done) | decide +kernel
theorem ef_rm_si0 (m : MethodId) (x0 : Addr) (x1 : Addr) (x2 : Int32) (x3 : Int32)  : entryFrame m #[(.ref x0), (.ref x1), (.int x2), (.int x3), .null] 6 = mkF m 0 #[.val (.ref x0), .val (.ref x1), .val (.int x2), .val (.int x3), .val .null, .unset] [] := by first | (simp [entryFrame, mkF, argsToLocals, Value.category]; done) | rfl
def Q_rm_si0 (Z : State) (cs_ : Int32) (un_ : Value) (sn_ : Value) (o : Addr) (q : Addr) (h0 : Heap) (n0 : Nat) (v : Option Value) (h : Heap) (L : List Loc) : Prop := v = none ∧ Fr n0 L ∧ Keep h0 h [o] ∧ (∃ (q1 : Addr) (k1 : ClassId), Fld Z h o "java/lang/String" "value" "[B" (.ref q1) ∧ Arv Z h q1 k1 .byte (0 : Int32) [] (.int 0)) ∧ (Exa Z h o "java/lang/String") ∧ (Fld Z h o "java/lang/String" "coder" "B" (.int (0 : Int32)))
set_option maxRecDepth 65536 in
set_option maxHeartbeats 40000000 in
theorem rm_si0 (l : Launch) (Z : State) (a0 : Array Value) (hw : ∀ d ∈ tables_1, d.before a0 Z = true) (ws : List Jvm.Cond) (cs_ : Int32) (un_ : Value) (sn_ : Value) (HW : Wd Z cs_ un_ sn_) (o : Addr) (q : Addr) (h0 : Heap) (n0 : Nat) (Ol : Old Z n0 h0) (HE_o : Exa Z h0 o "java/lang/String") (HF_o_String_value : Fld Z h0 o "java/lang/String" "value" "[B" .null) (HF_o_String_coder : Fld Z h0 o "java/lang/String" "coder" "B" (.int (0 : Int32))) (nn_o : n0 ≤ o) :
    MetFree l y_3 (head1 (Jvm.Cond.code y_3 jdk_42_method_149_code 6 none :: ws) (rm 1 4 8 12)) (fun a_ U_ => a_ = #[(.ref o), (.ref q), (.int (0 : Int32)), (.int (0 : Int32)), .null] ∧ Z.Warmed39 U_.vm ∧ U_.heap = h0 ∧ CHv Z EL_ U_.vm h0) (fun _ _ _ _ _ => True) (fun _ U_ o_ V_ => ∃ v_ L_, o_ = .returned v_ ∧ Q_rm_si0 Z cs_ un_ sn_ o q h0 n0 v_ V_.heap L_ ∧ CHr Z EL_ U_.vm U_.heap V_.vm V_.heap ∧ ReturnedEndW U_ o_ V_ L_ (rm 1 4 8 12).cells (rm 1 4 8 12).slots) := by
  refine MetFree.of_bodySF (plainFor_of_name pn_0) hisR ?_
  intro p e s m args below meth c s₁ Bd hml0 hP hK
  obtain ⟨rfl, hZ, hh, Hc0⟩ := hP
  have hx := Bd.exec
  have hby := Bd.bytes
  have hml : c.maxLocals = 6 := hml0
  have hown : s.vm.findClass "java/lang/String" = some m.cls := findClass_of_methodNamed Bd.named
  have hnm := (name_of_methodNamed Bd.named Bd.method).1
  have X0 : Stand p l e (rm 1 4 8 12) s m #[(.ref o), (.ref q), (.int (0 : Int32)), (.int (0 : Int32)), .null] below meth c s₁ [] 0 0 := Stand.of_body Bd
  have e0 : s₁.heap = h0 := by rw [← hh, Bd.state]; rfl
  have N0 := Fr.nil n0
  have kp0 := Keep.refl h0 [o]
  show Go p e below (Fin3 Z EL_ s below (Q_rm_si0 Z cs_ un_ sn_ o q h0 n0) (rm 1 4 8 12).cells (rm 1 4 8 12).slots) _
  have S0 : s.Since s.vm 0 := (State.WarmedH.refl s).since 0
  have hk0 : 0 ≤ h0.size := Nat.zero_le _
  refine Go.step (fun t_ k_ => castTop (ef_rm_si0 m o q (0 : Int32) (0 : Int32)) k_) ?_
  obtain ⟨S_cs, N_cs, S_un, R_un, S_sn, R_sn⟩ := id HW
  have S_o : Safe Z EL_ s.vm h0 o := safe_str hZ.alike HE_o HF_o_String_value
  have lt_o := HE_o.lt
  show Go p e below _ (s₁.setTop (mkF m 0 #[.val (.ref o), .val (.ref q), .val (.int (0 : Int32)), .val (.int (0 : Int32)), .val .null, .unset] []))
  refine gs.aloadN X0.here hx (hb hby d3_0) rfl rfl ?_
  obtain ⟨T1, X1, e1, st1⟩ := initO X0 hx hZ hown (wd hw 15 rfl) (wd hw 16 rfl) (wd hw 17 rfl) e0 (g := (mkF m 1 #[.val (.ref o), .val (.ref q), .val (.int (0 : Int32)), .val (.int (0 : Int32)), .val .null, .unset] [(.ref o)])) rfl (by rw [hml]; rfl) rfl (hb hby d3_1) (by decide) (W := 0) (by show 2 * 0 + _ ≤ _; exact Nat.le_of_eq rfl) (by decide)
  refine Go.step st1 ?_
  show Go p e below _ (T1.setTop (mkF m 4 #[.val (.ref o), .val (.ref q), .val (.int (0 : Int32)), .val (.int (0 : Int32)), .val .null, .unset] []))
  refine gs.iloadN X1.here hx (hb hby d3_4) rfl ?_
  have hc5 : (0 : Int32) = (0 : Int32) := by decide
  refine gs.ifNo X1.here hx (hb hby d3_5) ((if0 _ _).trans (teq hc5).2) ?_
  refine gs.aloadN X1.here hx (hb hby d3_8) rfl rfl ?_
  obtain ⟨sa2, T2, h2, k1_2, sb2, kc2, X2, e2, E2, S2, hkk2, hZ2, hown2, A2, Fc2, Fv2, V2, -, -, C2, -, ns2, st2⟩ := ldcCH (vm0 := s.vm) X1 hx hZ hown (wd hw 18 rfl) (wS_all hw) e1 S0 hk0 (hEL_ hw) (List.mem_of_getElem? (i := 1) rfl) (CHr.keep kp0 (sfS S_o sf0) Hc0).1 (vs := []) (z := (0 : Int32)) ⟨by first | decide | simp | decide +kernel, by first | rfl | decide +kernel⟩ (by decide) (by decide) (g := (mkF m 9 #[.val (.ref o), .val (.ref q), .val (.int (0 : Int32)), .val (.int (0 : Int32)), .val .null, .unset] [(.ref o)])) rfl (hb hby d3_9) (n := 0) (by decide +kernel) (by decide) (by decide) (by decide)
  have chb2 := (CHr.keep kp0 (sfS S_o sf0) Hc0).trans C2
  have old2 := Ol.ext E2
  have kp2 := kp0.ext E2
  have hk2 := Nat.le_trans hk0 E2.1
  obtain ⟨ne_o_sa2, ne_o_sb2⟩ := ns2 _ (chb2.safe lt_o S_o)
  refine Go.fin st2 ?_
  show Go p e below _ (T2.setTop (mkF m 11 _ [(.ref sa2), (.ref o)]))
  refine gs.getF X2 hx hZ2 hown2 (wd hw 24 rfl) Via.refl e2 Fv2 (hb hby d3_11) fun T3 X3 e3 => ?_
  have f4 := (HF_o_String_value.ext E2)
  have f5 := (HE_o.ext E2)
  obtain ⟨T6, h6, X6, e6, W6, st6⟩ := putF X3 hx hZ2 hown2 (host := "") (Or.inl (wd hw 24 rfl)) Via.refl e3 f4 f5 (Or.inr ⟨(wd hw 20 rfl), rfl, hnm⟩) (wd hw 5 rfl) (ty := (.array .byte)) (by decide) rfl rfl (g := (mkF m 14 #[.val (.ref o), .val (.ref q), .val (.int (0 : Int32)), .val (.int (0 : Int32)), .val .null, .unset] [(.ref sb2), (.ref o)])) rfl rfl (hb hby d3_14)
  have N6 := Fr.snoc X6 N0 nn_o
  have old6 := old2.wr W6 nn_o
  have kp6 := kp2.wr W6 (Or.inl (List.mem_of_getElem? (i := 0) rfl))
  have hk6 := Nat.le_trans hkk2 (Keep.of_wr W6).1
  have F6 := f4.same W6
  refine Go.fin st6 ?_
  show Go p e below _ (T6.setTop (mkF m 17 _ []))
  refine gs.aloadN X6.here hx (hb hby d3_17) rfl rfl ?_
  obtain ⟨sa7, T7, h7, k1_7, sb7, kc7, X7, e7, E7, S7, hkk7, hZ7, hown7, A7, Fc7, Fv7, V7, -, -, C7, -, ns7, st7⟩ := ldcCH (vm0 := T2.vm) X6 hx hZ2 hown2 (wd hw 18 rfl) (wS_all hw) e6 S2 hk6 (hEL_ hw) (List.mem_of_getElem? (i := 1) rfl) (chb2.trans (CHr.keep ((Keep.refl h2 [o]).wr W6 (Or.inl (List.mem_of_getElem? (i := 0) rfl))) (sfS (chb2.safe lt_o S_o) sf0) chb2.1)).1 (vs := []) (z := (0 : Int32)) ⟨by first | decide | simp | decide +kernel, by first | rfl | decide +kernel⟩ (by decide) (by decide) (g := (mkF m 18 #[.val (.ref o), .val (.ref q), .val (.int (0 : Int32)), .val (.int (0 : Int32)), .val .null, .unset] [(.ref o)])) rfl (hb hby d3_18) (n := 0) (by decide +kernel) (by decide) (by decide) (by decide)
  have chb7 := (chb2.trans (CHr.keep ((Keep.refl h2 [o]).wr W6 (Or.inl (List.mem_of_getElem? (i := 0) rfl))) (sfS (chb2.safe lt_o S_o) sf0) chb2.1)).trans C7
  have old7 := old6.ext E7
  have kp7 := kp6.ext E7
  have hk7 := Nat.le_trans hk6 E7.1
  obtain ⟨ne_o_sa7, ne_o_sb7⟩ := ns7 _ (chb7.safe lt_o S_o)
  refine Go.fin st7 ?_
  show Go p e below _ (T7.setTop (mkF m 20 _ [(.ref sa7), (.ref o)]))
  refine gs.getF X7 hx hZ7 hown7 (wd hw 25 rfl) Via.refl e7 Fc7 (hb hby d3_20) fun T8 X8 e8 => ?_
  have f9 := (((HF_o_String_coder.ext E2).other W6 (Or.inr (sn0 hw))).ext E7)
  have f10 := ((f5.wr W6).ext E7)
  obtain ⟨T11, h11, X11, e11, W11, st11⟩ := putFN X8 hx hZ7 hown7 (wd hw 25 rfl) Via.refl e8 f9 f10 (Or.inr ⟨(wd hw 21 rfl), rfl, hnm⟩) (wd hw 5 rfl) (ty := .byte) (v' := (.int (0 : Int32))) (by decide) rfl (by decide) (g := (mkF m 23 #[.val (.ref o), .val (.ref q), .val (.int (0 : Int32)), .val (.int (0 : Int32)), .val .null, .unset] [(.int (0 : Int32)), (.ref o)])) rfl rfl (hb hby d3_23)
  have N11 := Fr.snoc X11 N6 nn_o
  have old11 := old7.wr W11 nn_o
  have kp11 := kp7.wr W11 (Or.inl (List.mem_of_getElem? (i := 0) rfl))
  have hk11 := Nat.le_trans hkk7 (Keep.of_wr W11).1
  have F11 := f9.same W11
  refine Go.fin st11 ?_
  show Go p e below _ (T11.setTop (mkF m 26 _ []))
  have f12 := ((F6.ext E7).other W11 (Or.inr (sn1 hw)))
  have f13 := (((V2.other W6 (Ne.symm ne_o_sb2)).ext E7).other W11 (Ne.symm ne_o_sb2))
  have f14 := (f10.wr W11)
  refine GoH.retV X11 S7 (by rw [e11]; exact hk11) hZ7 (hEL_ hw) hh e11 (chb7.trans (CHr.keep ((Keep.refl h7 [o]).wr W11 (Or.inl (List.mem_of_getElem? (i := 0) rfl))) (sfS (chb7.safe lt_o S_o) sf0) chb7.1)) hx Bd.returns Bd.notSynchronized (hb hby d3_26) (by rw [e11]; exact ⟨rfl, N11, kp11, ⟨_, _, f12, f13⟩, f14, F11⟩) (by decide) (by decide)
theorem d2_0 : decode c_2 0 = .ok (.aload_n 0, 1) := by decide +kernel
theorem d2_1 : decode c_2 1 = .ok (.aload_n 1, 1) := by decide +kernel
theorem d2_2 : decode c_2 2 = .ok (.iconst 0, 1) := by decide +kernel
theorem d2_3 : decode c_2 3 = .ok (.aload_n 1, 1) := by decide +kernel
theorem d2_4 : decode c_2 4 = .ok (.arraylength, 1) := by decide +kernel
theorem d2_5 : decode c_2 5 = .ok (.aconst_null, 1) := by decide +kernel
theorem d2_6 : decode c_2 6 = .ok (.invokespecial 27, 3) := by decide +kernel
theorem pd_0 : parseMethodDescriptor "([CIILjava/lang/Void;)V" = some ⟨[(.array .char), .int, .int, (.object "java/lang/Void")], none⟩ := by decide +kernel
theorem d2_9 : decode c_2 9 = .ok (.return_, 1) := by decide +kernel
theorem ef_rm_in0 (m : MethodId) (x0 : Addr) (x1 : Addr)  : entryFrame m #[(.ref x0), (.ref x1)] 2 = mkF m 0 #[.val (.ref x0), .val (.ref x1)] [] := by first | (simp [entryFrame, mkF, argsToLocals, Value.category]; done) | rfl
def Q_rm_in0 (Z : State) (cs_ : Int32) (un_ : Value) (sn_ : Value) (o : Addr) (q : Addr) (kq : ClassId) (h0 : Heap) (n0 : Nat) (v : Option Value) (h : Heap) (L : List Loc) : Prop := v = none ∧ Fr n0 L ∧ Keep h0 h [o] ∧ (∃ (q1 : Addr) (k1 : ClassId), Fld Z h o "java/lang/String" "value" "[B" (.ref q1) ∧ Arv Z h q1 k1 .byte (0 : Int32) [] (.int 0)) ∧ (Exa Z h o "java/lang/String") ∧ (Fld Z h o "java/lang/String" "coder" "B" (.int (0 : Int32)))
set_option maxRecDepth 65536 in
set_option maxHeartbeats 40000000 in
theorem rm_in0 (l : Launch) (Z : State) (a0 : Array Value) (hw : ∀ d ∈ tables_1, d.before a0 Z = true) (ws : List Jvm.Cond) (cs_ : Int32) (un_ : Value) (sn_ : Value) (HW : Wd Z cs_ un_ sn_) (o : Addr) (q : Addr) (kq : ClassId) (h0 : Heap) (n0 : Nat) (Ol : Old Z n0 h0) (HE_o : Exa Z h0 o "java/lang/String") (HF_o_String_value : Fld Z h0 o "java/lang/String" "value" "[B" .null) (HF_o_String_coder : Fld Z h0 o "java/lang/String" "coder" "B" (.int (0 : Int32))) (HV_q : Arv Z h0 q kq .char (0 : Int32) [] (.int (0 : Int32))) (nn_o : n0 ≤ o) :
    MetFree l y_2 (head1 (Jvm.Cond.code y_2 jdk_42_method_3_code 2 none :: ws) (rm 2 4 8 29)) (fun a_ U_ => a_ = #[(.ref o), (.ref q)] ∧ Z.Warmed39 U_.vm ∧ U_.heap = h0 ∧ CHv Z EL_ U_.vm h0) (fun _ _ _ _ _ => True) (fun _ U_ o_ V_ => ∃ v_ L_, o_ = .returned v_ ∧ Q_rm_in0 Z cs_ un_ sn_ o q kq h0 n0 v_ V_.heap L_ ∧ CHr Z EL_ U_.vm U_.heap V_.vm V_.heap ∧ ReturnedEndW U_ o_ V_ L_ (rm 2 4 8 29).cells (rm 2 4 8 29).slots) := by
  refine MetFree.of_bodySF (plainFor_of_name pn_0) hisR ?_
  intro p e s m args below meth c s₁ Bd hml0 hP hK
  obtain ⟨rfl, hZ, hh, Hc0⟩ := hP
  have hx := Bd.exec
  have hby := Bd.bytes
  have hml : c.maxLocals = 2 := hml0
  have hown : s.vm.findClass "java/lang/String" = some m.cls := findClass_of_methodNamed Bd.named
  have hnm := (name_of_methodNamed Bd.named Bd.method).1
  have X0 : Stand p l e (rm 2 4 8 29) s m #[(.ref o), (.ref q)] below meth c s₁ [] 0 0 := Stand.of_body Bd
  have e0 : s₁.heap = h0 := by rw [← hh, Bd.state]; rfl
  have N0 := Fr.nil n0
  have kp0 := Keep.refl h0 [o]
  show Go p e below (Fin3 Z EL_ s below (Q_rm_in0 Z cs_ un_ sn_ o q kq h0 n0) (rm 2 4 8 29).cells (rm 2 4 8 29).slots) _
  have S0 : s.Since s.vm 0 := (State.WarmedH.refl s).since 0
  have hk0 : 0 ≤ h0.size := Nat.zero_le _
  refine Go.step (fun t_ k_ => castTop (ef_rm_in0 m o q) k_) ?_
  obtain ⟨S_cs, N_cs, S_un, R_un, S_sn, R_sn⟩ := id HW
  have S_o : Safe Z EL_ s.vm h0 o := safe_str hZ.alike HE_o HF_o_String_value
  have lt_o := HE_o.lt
  show Go p e below _ (s₁.setTop (mkF m 0 #[.val (.ref o), .val (.ref q)] []))
  refine gs.aloadN X0.here hx (hb hby d2_0) rfl rfl ?_
  refine gs.aloadN X0.here hx (hb hby d2_1) rfl rfl ?_
  refine gs.iconst 0 X0.here hx (hb hby d2_2) rfl ?_
  refine gs.aloadN X0.here hx (hb hby d2_3) rfl rfl ?_
  obtain ⟨cl1, Ar1, -, Sz1, Ng1, -, -⟩ := id HV_q
  refine Go.fin (fun t_ k_ => X0.arraylength hx (by rw [e0]; exact Ar1.1) (State.isArrayOf_alike hZ.alike Ar1.2.1) (g := mkF m 4 _ _) rfl rfl (hb hby d2_4) _ k_) ?_
  rw [len_of Sz1 Ng1]
  show Go p e below _ (s₁.setTop (mkF m 5 _ [(.int (0 : Int32)), (.int (0 : Int32)), (.ref q), (.ref o)]))
  refine gs.aconstNull X0.here hx (hb hby d2_5) ?_
  obtain ⟨_, _, ⟨T2, L2, k2, n2⟩, -, X2, S2, gr2, ⟨Lc2, hQ2, l2, y2, z2, C2⟩, st2⟩ := X0.specialBackS hx (y := y_3) rfl hown (mvT hZ (wd hw 11 rfl)) (mvT hZ (wd hw 12 rfl)) (mvT hZ (wd hw 14 rfl)) (by decide) (backOfSH (s := s) (vm0 := s.vm) (W := 0) (rm_si0 l Z a0 hw [] cs_ un_ sn_ HW o q h0 n0 Ol HE_o HF_o_String_value HF_o_String_coder nn_o) hZ (wd hw 14 rfl) (wd hw 6 rfl) (by decide) (by decide) (hEL_ hw) (CHr.keep kp0 (sfS S_o sf0) Hc0).1) (g := (mkF m 6 #[.val (.ref o), .val (.ref q)] [.null, (.int (0 : Int32)), (.int (0 : Int32)), (.ref q), (.ref o)])) rfl (by rw [hml]; rfl) (Steps.refl _) (a := o) (argsL := [(.ref q), (.int (0 : Int32)), (.int (0 : Int32)), .null]) (rest := []) (lenOf pd_0 rfl) rfl (by show 2 * 0 + _ ≤ _; exact Nat.le_of_eq rfl) (hb hby d2_6) (fun _ _ => ⟨rfl, e0, (by decide : 0 + 4 ≤ _), (by decide : 0 + 8 ≤ _)⟩)
  dsimp only [Pt.U, Pt.locs, Pt.cells, Pt.slots] at X2 l2 y2 z2 st2 hQ2 S2 gr2 C2
  subst l2 y2 z2
  have chb2 := (CHr.keep kp0 (sfS S_o sf0) Hc0).trans C2
  obtain ⟨X2, S2, hZ2, hown2⟩ := rebS (vm0 := s.vm) S0 (by rw [e0]; exact hk0) X2 S2 gr2 hZ hown
  obtain ⟨rfl, Nq2, K2, x2_0, p2_0, p2_1⟩ := hQ2
  obtain ⟨qz2, kz2, Fz2, Vz2⟩ := x2_0
  have old2 := Ol.keep K2 (allS nn_o all0)
  have kp2 := kp0.trans K2 (allS (Or.inl (List.mem_of_getElem? (i := 0) rfl)) all0)
  have N2 := Fr.app N0 Nq2
  refine Go.step (fun t_ k_ => st2.trans k_) ?_
  show Go p e below _ (T2.setTop (mkF m 9 #[.val (.ref o), .val (.ref q)] []))
  refine GoH.retV X2 S2 (by exact (Nat.le_refl _)) hZ2 (hEL_ hw) hh rfl chb2 hx Bd.returns Bd.notSynchronized (hb hby d2_9) (by exact ⟨rfl, N2, kp2, ⟨_, _, Fz2, Vz2⟩, p2_0, p2_1⟩) (by decide) (by decide)
section OwnExc
open Jvm.Free.Exc
abbrev skipW : Jvm.Cond := .lays tN tN "suppressedExceptions" listD
/-- Throwable's tables out of the words of excAtoms but the one on her own slot of suppressedExceptions: the subclass's word on that field serves -/
theorem own_links {rc : String} {args : Array Value} {s : State} {pl : Platform} (h1 : pl.frameOwnsMonitors = true) (h2 : pl.finalization = false) (h3 : pl.magicAccessors = ({} : Platform).magicAccessors) (W : ∀ c ∈ excAtoms rc, c ≠ skipW → c.before args s = true) (hne : rc ≠ tN) {cX : ClassId} {kX : Class} (hX : s.vm.findClass rc = some cX) (hkX : s.vm.classes[cX]? = some kX) :
    ∃ T : ThrowableC, T.Links pl s ∧ s.vm.findClass tN = some T.cT ∧ s.methodNamed? tFill = some T.fill ∧ s.methodNamed? tFill0 = some T.fill0 ∧ s.fieldFound? tN "stackTrace" steD = some (T.cT, T.kT, T.i17, T.fStack) ∧ T.fStack.type = .array (.object "java/lang/StackTraceElement") ∧ s.fieldFound? tN "UNASSIGNED_STACK" steD = some (T.cT, T.kT, T.i13, T.fUnassigned) := by
  have w : ∀ c, c ∈ excAtoms rc → c ≠ skipW → c.holds args s none s [] = true := fun c p q => W c p q
  obtain ⟨mo, meO, noO, meO1, stO, abO⟩ := Cond.instanceMethod_spec (w (.instanceMethod oInit) (by simp [excAtoms, throwableAtoms]) (by simp))
  obtain ⟨_, coO, meO2, coO1, byO, -, -, lkO, -, sgO⟩ := Cond.code_spec noO (w (.code oInit ⟨#[0xb1]⟩ 1 none) (by simp [excAtoms, throwableAtoms]) (by simp))
  cases meO1.symm.trans meO2
  obtain ⟨kO, ckO, nmO⟩ := Vm.findClass_spec (findClass_of_methodNamed noO)
  obtain ⟨naO, deO⟩ := name_of_methodNamed noO meO1
  obtain ⟨⟨cT, iN⟩, meN, noN, meN1, naN, cdN, lkN, sgN⟩ := Cond.native_spec (w (.native tFill0) (by simp [excAtoms, throwableAtoms]) (by simp))
  have hT : s.vm.findClass tN = some cT := findClass_of_methodNamed noN
  obtain ⟨kT, ckT, nmT⟩ := Vm.findClass_spec hT
  obtain ⟨iN', meN', noN', meN2, atN, stN, abN, na1, na2⟩ := Cond.ownMethod (x := tFill0) hT ckT (w (.instanceMethod tFill0) (by simp [excAtoms, throwableAtoms]) (by simp))
  obtain rfl : iN = iN' := by have := Option.some.inj (noN.symm.trans noN'); simpa using this
  obtain rfl : meN = meN' := Option.some.inj (meN1.symm.trans meN2)
  obtain ⟨iF, meF, noF, meF1, atF, stF, abF, -, -⟩ := Cond.ownMethod (x := tFill) hT ckT (w (.instanceMethod tFill) (by simp [excAtoms, throwableAtoms]) (by simp))
  obtain ⟨meF', coF, meF2, coF1, byF, mlF, reF, lkF, -, sgF⟩ := Cond.codeSync_spec noF (w (.codeSync tFill LibCode.Throwable.Fill.code 1 (some (.object tN))) (by simp [excAtoms, throwableAtoms]) (by simp))
  obtain rfl : meF = meF' := Option.some.inj (meF1.symm.trans meF2)
  obtain ⟨_, kT1, _, _, ckT1, _, _, ord, _, nif⟩ := Cond.superclass_spec hT (w (.superclass tN "java/lang/Object") (by simp [excAtoms, throwableAtoms]) (by simp))
  obtain rfl : kT = kT1 := Option.some.inj (ckT.symm.trans ckT1)
  have ini := Cond.initialized_spec hT ckT (w (.initialized tN) (by simp [excAtoms, throwableAtoms]) (by simp))
  obtain ⟨c1, n1, cf, L1, R1, C1, P1⟩ := Cond.linkedMethod hT ckT noO (w (.methodLink tN 1 oInit) (by simp [excAtoms, throwableAtoms]) (by simp)) pl h3
  obtain ⟨c27, n27, cf2, L27, R27, C27, P27⟩ := Cond.linkedMethod hT ckT noF (w (.methodLink tN 27 tFill) (by simp [excAtoms, throwableAtoms]) (by simp)) pl h3
  obtain ⟨c202, n202, cf3, L202, R202, C202, P202⟩ := Cond.linkedMethod hT ckT noN (w (.methodLink tN 202 tFill0) (by simp [excAtoms, throwableAtoms]) (by simp)) pl h3
  obtain rfl : cf = cf2 := Option.some.inj (C1.symm.trans C27)
  obtain rfl : cf = cf3 := Option.some.inj (C1.symm.trans C202)
  obtain ⟨g7, i7, f7, L7, R7, A7, s7, q7, -, -, F7⟩ := Cond.ownField (t := .object tN) hT ckT (by decide +kernel) (w (.fieldLink tN 7 tN "cause" "Ljava/lang/Throwable;") (by simp [excAtoms, throwableAtoms]) (by simp)) (w (.lays rc tN "cause" "Ljava/lang/Throwable;") (by simp [excAtoms]) (by simp)) pl h3
  obtain ⟨g17, i17, f17, L17, R17, A17, s17, q17, n17, t17, F17⟩ := Cond.ownField (t := .array (.object "java/lang/StackTraceElement")) hT ckT (by decide +kernel) (w (.fieldLink tN 17 tN "stackTrace" steD) (by simp [excAtoms, throwableAtoms]) (by simp)) (w (.lays rc tN "stackTrace" steD) (by simp [excAtoms]) (by simp)) pl h3
  obtain ⟨g24, i24, f24, L24, R24, A24, s24, q24, n24, -, F24⟩ := Cond.ownField (t := .object "java/util/List") hT ckT (by decide +kernel) (w (.fieldLink tN 24 tN "suppressedExceptions" listD) (by simp [excAtoms, throwableAtoms]) (by simp)) (w (.lays rc tN "suppressedExceptions" listD) (by simp [excAtoms]) (fun e => hne (by injection e))) pl h3
  obtain ⟨g13, i13, f13, aS, _, L13, R13, A13, s13, -, -, sta, -, -, -, -, F13⟩ := Cond.ownStatic (t := .array (.object "java/lang/StackTraceElement")) hT ckT (by decide +kernel) (w (.fieldLink tN 13 tN "UNASSIGNED_STACK" steD) (by simp [excAtoms, throwableAtoms]) (by simp)) (w (.laysStatic tN "UNASSIGNED_STACK" steD) (by simp [excAtoms, throwableAtoms]) (by simp)) pl h3
  obtain ⟨g20, i20, f20, _, _, L20, R20, A20, s20, -⟩ := Cond.ownStatic (t := .object "java/util/List") hT ckT (by decide +kernel) (w (.fieldLink tN 20 tN "SUPPRESSED_SENTINEL" listD) (by simp [excAtoms, throwableAtoms]) (by simp)) (w (.laysStatic tN "SUPPRESSED_SENTINEL" listD) (by simp [excAtoms, throwableAtoms]) (by simp)) pl h3
  obtain ⟨_, dS, hdS, hnS⟩ := Cond.laysAt hX hkX F17 (w (.lays rc tN "stackTrace" steD) (by simp [excAtoms]) (by simp))
  obtain ⟨_, dP, hdP, hnP⟩ := Cond.laysAt hX hkX F24 (w (.lays rc tN "suppressedExceptions" listD) (by simp [excAtoms]) (fun e => hne (by injection e)))
  have apart := Cond.laysApart hdS hdP hnS hnP (by rw [n17, n24]; decide)
  have pF : meF.sig.parameters = [] := by
    have e : parseMethodDescriptor tFill.desc = some ⟨[], some (.object tN)⟩ := by decide +kernel
    rw [e] at sgF; rw [← Option.some.inj sgF]
  have pN : meN.sig.parameters = [.int] := by
    have e : parseMethodDescriptor tFill0.desc = some ⟨[.int], some (.object tN)⟩ := by decide +kernel
    rw [e] at sgN; rw [← Option.some.inj sgN]
  have pO : meO.sig.parameters.length = 0 := by
    have e : parseMethodDescriptor oInit.desc = some ⟨[], none⟩ := by decide +kernel
    rw [e] at sgO; rw [← Option.some.inj sgO]; rfl
  refine ⟨{ cT := cT, kT := kT, cO := cT, aS := aS, fillIdx := iF, fill0Idx := iN, initSIdx := iF, obj := mo, kObj := kO, methFill := meF, methFill0 := meN, methInitS := meF, methObj := meO, codeFill := coF, codeInitS := coF, codeObj := coO, fBack := f7, fDepth := f7, fStack := f17, fCause := f7, fSupp := f24, fMsg := f7, fUnassigned := f13, fSentinel := f20, cfT := cf, ci1 := c1, n1 := n1, ci27 := c27, n27 := n27, ci202 := c202, n202 := n202, ci7 := g7, i7 := i7, ci13 := g13, i13 := i13, ci17 := g17, i17 := i17, ci20 := g20, i20 := i20, ci24 := g24, i24 := i24 }, ?_, hT, noF, noN, F17, t17, F13⟩
  constructor <;> first | assumption | exact Vm.findClass_boot hT ckT | (show lookupSpecial _ _ _ _ = _; rw [deO]; exact lookupSpecial_of_named noO meO1 stO)

theorem found_at {Z s : State} (hZ : Z.Warmed39 s.vm) {C n d : String} {cf i : Nat} {k : Class} {f : Field} (h : Z.fieldFound? C n d = some (cf, k, i, f)) : ∃ k', s.fieldFound? C n d = some (cf, k', i, f) ∧ k'.statics = k.statics := by
  obtain ⟨k', h1, h2⟩ := State.fieldFound?_setVm (s := Z) hZ.alike h
  exact ⟨k', h1, by rw [h2]⟩
section FillL
variable {p : Program} {l : Launch} {e : Env} {R : Room} {s : State} {m : MethodId} {args : Array Value} {below : List Frame} {meth : Method} {c : Code} {T : State} {locs : List Loc} {cells slots : Nat} {Z : State} {a0 : Array Value} {h h0 : Heap} {a : Addr} {rc : String} {n : Nat}
/-- the cells that stood at the body's start, where every written place is the object's -/
theorem keep_same (X : Stand p l e R s m args below meth c T locs cells slots) (hh : s.heap = h0) (hl : ∀ y ∈ locs, y.base = a) : Keep h0 T.heap [a] := by
  subst hh
  have q := X.same
  have at_ : ∀ (x : Addr) (cl : Cell), s.heap[x]? = some cl → ∃ c', T.heap[x]? = some c' ∧ c' = { cl with slots := c'.slots } ∧ c'.slots.size = cl.slots.size ∧ ∀ i, (⟨x, i⟩ : Loc) ∉ locs → c'.slots[i]? = cl.slots[i]? := q.2.2.2.2.2
  refine ⟨q.2.1, fun x cl hx hn => ?_, fun x cl hx => ?_⟩
  · obtain ⟨c', q1, q2, q3, q4⟩ := at_ x cl hx
    have e1 : c'.slots = cl.slots := Array.ext_getElem? fun i => q4 i fun hm => hn (by rw [← hl _ hm]; exact List.mem_singleton.mpr rfl)
    rw [q1, q2, e1]
  · obtain ⟨c', q1, q2, q3, q4⟩ := at_ x cl hx
    exact ⟨c', q1, by rw [q2], by rw [q2], q3⟩
theorem mon_same (X : Stand p l e R s m args below meth c T locs cells slots) {c0 c1 : Cell} (h0 : s.heap[a]? = some c0) (h1 : T.heap[a]? = some c1) : c1.monitor = c0.monitor := by
  have at_ : ∀ (x : Addr) (cl : Cell), s.heap[x]? = some cl → ∃ c', T.heap[x]? = some c' ∧ c' = { cl with slots := c'.slots } ∧ c'.slots.size = cl.slots.size ∧ ∀ i, (⟨x, i⟩ : Loc) ∉ locs → c'.slots[i]? = cl.slots[i]? := X.same.2.2.2.2.2
  obtain ⟨c', q1, q2, -⟩ := at_ a c0 h0
  cases h1.symm.trans q1
  rw [q2]
/-- invokevirtual Throwable.fillInStackTrace() inside a constructor of Throwable, on an object of the subclass rc -/
theorem fillL (X : Stand p l e R s m args below meth c T locs cells slots) (hx : p.tables.exec = Jvm.exec) (hl : l.stackTraces = true) (hZ : Z.Warmed39 s.vm) (hown : s.vm.findClass tN = some m.cls) (W : ∀ d ∈ excAtoms rc, d ≠ skipW → d.before a0 Z = true) (hne : rc ≠ tN) (wi : (Jvm.Cond.instantiable rc n).before a0 Z = true)
    (hh : s.heap = h0) (hT : ThS Z h0) (hTK : s.vm.MethodsKnown) (hBelow : s.vm.FramesKnown below) (eT : T.heap = h) (hloc : ∀ y ∈ locs, y.base = a) (E0 : Exa Z h0 a rc) (E : Exa Z h a rc) (N : Unt h a) {u : Value} (hu : u.isRef = true) (FS : Fld Z h a tN "stackTrace" steD u) (FB : Fld Z h a tN "backtrace" obD .null) (SU : Sta Z h tN "UNASSIGNED_STACK" steD u)
    {g : JFrame} (hg : g.method = m) (hsize : g.locals.size = c.maxLocals) {rest : List Value} (hs : g.stack = .ref a :: rest) (hd : decode c.code g.pc = .ok (.invokevirtual 27, 3)) (hf : 3 ≤ R.frames) (hlo : 2 * g.monitorRoom + (rest.map fun v => v.category).sum + 42 ≤ R.locals) (hc : cells + 1 ≤ R.cells) (hsl : slots + 2752 ≤ R.slots) :
    ∃ (T' : State) (h' : Heap) (L : List Loc), Stand p l e R s m args below meth c T' (locs ++ L) (cells + 1) (slots + 2752) ∧ T'.heap = h' ∧ (∀ y ∈ L, y.base = a) ∧ Keep h0 h' [a] ∧ Exa Z h' a rc ∧ Unt h' a ∧ (∀ {v : Value}, Fld Z h a tN "cause" thD v → Fld Z h' a tN "cause" thD v) ∧ (∀ {v : Value}, Fld Z h a tN "detailMessage" msgD v → Fld Z h' a tN "detailMessage" msgD v) ∧
      ∀ target, Steps p.tables e below (T'.setTop { g with pc := g.pc + 3, stack := .ref a :: rest }) target → Steps p.tables e below (T.setTop g) target := by
  have Ws : ∀ d ∈ excAtoms rc, d ≠ skipW → d.before args s = true := fun d h1 h2 => mvX (by rw [hh]; exact hT) hZ (List.all_eq_true.mp exc_ok d h1) (W d h1 h2)
  have w : ∀ d, d ∈ excAtoms rc → d ≠ skipW → d.holds args s none s [] = true := fun d p q => Ws d p q
  have hpl : e.platform.magicAccessors = ({} : Platform).magicAccessors := by rw [X.admits.platform]
  -- the object's cell and her class, at s
  obtain ⟨cell, kz, hcell, hfz, hkz, hst, hsz⟩ := E
  obtain ⟨cell', n1, n2, n3⟩ := N
  cases hcell.symm.trans n1
  obtain ⟨cX, kX, hX, hkX, hord, -⟩ := Cond.instantiable_spec (mv (args := args) hZ wi)
  have hXZ : Z.vm.findClass rc = some cX := by rw [← hZ.alike.findClass]; exact hX
  have ecl : cX = cell.cls := Option.some.inj (hXZ.symm.trans hfz)
  subst ecl
  obtain ⟨kz', hkz', ekz⟩ := hZ.alike.2.2 _ _ hkz
  obtain rfl : kz' = kX := Option.some.inj (hkz'.symm.trans hkX)
  have hsize' : cell.slots.size = kz'.instanceTypes.size := by rw [hsz (by rw [ekz] at hord; exact hord), ekz]
  obtain ⟨TT, L, fT, fF, fF0, F17, t17, F13⟩ := own_links (pl := e.platform) (by rw [X.admits.platform]) (by rw [X.admits.platform]) hpl Ws hne hX hkX
  have tk : ∀ {f : Field} {v : Value}, kz'.instanceTypes[f.slot]? = some f.type → fits f.type v = true → Jvm.Takes s cell f v := fun {f v} h1 h2 => by
    obtain ⟨q1, q2⟩ := Takes.of_laid (v := v) hkX hord h1 h2
    exact ⟨by rw [hsize']; simpa using q1, by rw [n2]; exact q2⟩
  -- her fields
  obtain ⟨_, _, _, _, f1, b1, b2, -, -, -, -, b7⟩ := FS
  cases hcell.symm.trans b1
  obtain ⟨k1, r1, -⟩ := found_at hZ b2
  cases F17.symm.trans r1
  obtain ⟨_, _, _, _, f2, d1, d2, -, -, -, -, d7⟩ := FB
  cases hcell.symm.trans d1
  obtain ⟨k2, r2, -⟩ := found_at hZ d2
  obtain ⟨ci, i198, fB, K198, G198, A198, sB, -, nB, tB, FF⟩ := Cond.ownField (t := .object "java/lang/Object") fT L.cls (by decide +kernel) (w (.fieldLink tN 198 tN "backtrace" obD) (by simp [excAtoms]) (by simp)) (w (.lays tN tN "backtrace" obD) (by simp [excAtoms]) (by simp)) e.platform hpl
  have eF : f2 = fB := by
    have e := Option.some.inj (FF.symm.trans r2)
    simp only [Prod.mk.injEq] at e
    exact e.2.2.2.symm
  rw [eF] at d7
  obtain ⟨cf3, i3, k3, f3, st3, cs3, u1, u2, u3, u4, u5, u6, u7⟩ := SU
  obtain ⟨k4, r3, r4⟩ := found_at hZ u1
  cases F13.symm.trans r3
  have eS : TT.aS = st3 := Option.some.inj (L.statics.symm.trans (r4.trans u4))
  have hneS : TT.aS ≠ a := fun q => by
    rw [eS] at q; subst q
    cases hcell.symm.trans u5
    rw [n2] at u6; cases u6
  obtain ⟨_, _, cD, kD, iD, fD, -, -, FD, stD, -⟩ := Cond.lays_spec (w (.lays rc tN "depth" "I") (by simp [excAtoms]) (by simp))
  obtain rfl : TT.cT = cD := Option.some.inj (fT.symm.trans (Cond.lays_declared (w (.lays rc tN "depth" "I") (by simp [excAtoms]) (by simp)) FD))
  obtain ⟨kD1, aD⟩ := State.fieldFound?_spec FD
  obtain rfl : TT.kT = kD := Option.some.inj (L.cls.symm.trans kD1)
  obtain ⟨nD, tD⟩ := State.fieldFound?_type FD (t := .int) (by decide +kernel)
  obtain ⟨comp, cO, kO, -, -, hkO, hkindO, hO⟩ := Cond.arrayOver_spec (Ws (.arrayOver (.object "java/lang/Object")) (by simp [excAtoms]) (by simp))
  obtain ⟨yS, dS, eS1, eS2⟩ := Cond.laysAt hX hkX F17 (w (.lays rc tN "stackTrace" steD) (by simp [excAtoms]) (by simp))
  obtain ⟨yB, dB, eB1, eB2⟩ := Cond.laysAt hX hkX FF (w (.lays rc tN "backtrace" obD) (by simp [excAtoms]) (by simp))
  obtain ⟨yD, dD, eD1, eD2⟩ := Cond.laysAt hX hkX FD (w (.lays rc tN "depth" "I") (by simp [excAtoms]) (by simp))
  have nS : TT.fStack.name = "stackTrace" := (State.fieldFound?_type F17 (t := .array (.object "java/lang/StackTraceElement")) (by decide +kernel)).1
  have hSE := Ws (.selects rc tFill tFill) (by simp [excAtoms]) (by simp)
  have hsel0 : selectMethod e.platform s.vm cell.cls TT.fill0 = .method TT.fill0 := by
    obtain ⟨c2, r2, m2, q1, q2, q3, q4, -⟩ := Cond.selects_spec (w (.selects rc tFill0 tFill0) (by simp [excAtoms]) (by simp))
    cases Option.some.inj (q1.symm.trans hX)
    cases Option.some.inj (q2.symm.trans (State.methodFound?_of_named fF0 (by decide)))
    cases Option.some.inj (q3.symm.trans fF0)
    rw [Launch.admits_selectMethod X.admits]; exact q4
  subst eT
  obtain ⟨v6, vm6, ⟨T6, L6, c6, n6⟩, -, X6, ⟨rfl, C6, nn, hnn, hD6, q1, q2, q3, q4, rfl, rfl, rfl⟩, st⟩ := X.virtualBack hx (own := tN) (C := rc) (index := 27) (y := tFill) (z := tFill) hown (Ws (.methodLink tN 27 tFill) (by simp [excAtoms, throwableAtoms]) (by simp)) (Ws (.declares tFill) (by simp [excAtoms]) (by simp)) (notFace_of_selects hSE) hSE (Ws (.instanceMethod tFill) (by simp [excAtoms, throwableAtoms]) (by simp)) (by decide)
    (fillPaysAny (l := l) (W := 2 * g.monitorRoom + (rest.map fun v => v.category).sum) hx (by rw [X.admits.platform]; exact hl) TT L fF (u0 := ⟨u, hu⟩) (self := a) (cell := cell) (cellS := cs3) (fun _ => by rw [n2]; simp) (by rw [n2]; simp) (by rw [n3]) (by rw [n3]) b7 hsel0 hneS (fun q => by rw [q] at u6; cases u6) u7 (tk yS (by rw [t17]; exact fits_refV_array _ ⟨u, hu⟩))
      ⟨{ ci198 := ci, i198 := i198, fBack := fB }, ⟨K198, G198, A198, sB⟩, d7⟩ hTK hBelow fT hO hkO hkindO (Cond.soleField_find fT L.cls (w (.soleField tN "backtrace") (by simp [excAtoms]) (by simp)) A198 nB sB) (Cond.soleField_find fT L.cls (w (.soleField tN "depth") (by simp [excAtoms]) (by simp)) aD nD stD)
      (fun x => tk yB (by rw [tB]; rfl)) (fun x => tk yD (by rw [tD]; rfl)) (by omega) (by omega))
    (b := a) (cB := cell.cls) hX ⟨cell, hcell, rfl, by rw [n2]; rfl⟩ (g := g) hg hsize (Steps.refl _) (argsL := []) (rest := rest)
    (fun sig h => by rw [show parseMethodDescriptor tFill.desc = some ⟨[], some (.object tN)⟩ from by decide +kernel] at h; rw [← Option.some.inj h]; rfl) (by rw [hs]; rfl) (Nat.le_refl _) hd
    (fun vmx hWx => ⟨rfl, hc, hsl, hcell, by rw [eS]; exact u5⟩)
  dsimp only [Pt.U, Pt.locs, Pt.cells, Pt.slots] at X6 hD6 st
  have fldK : ∀ {nm d : String} {t : FieldType} {v : Value}, parseFieldDescriptor d = some t → nm ≠ "backtrace" → nm ≠ "depth" → nm ≠ "stackTrace" → (Jvm.Cond.lays rc tN nm d).holds args s none s [] = true → Fld Z T.heap a tN nm d v → Fld Z T6.heap a tN nm d v := fun {nm d t v} hp z1 z2 z3 wl F => by
    obtain ⟨_, cf, k, i, f, e1, e2, e3, e4, e5, e6, e7⟩ := F
    cases hcell.symm.trans e1
    obtain ⟨kk, ff, -⟩ := found_at hZ e2
    have nf := (State.fieldFound?_type ff hp).1
    obtain ⟨-, dN, eN1, eN2⟩ := Cond.laysAt hX hkX ff wl
    exact ⟨C6, cf, k, i, f, hD6, e2, e3, by rw [q2]; exact e4, by rw [q2]; exact e5, by rw [q1]; exact e6, (q4 _ (Cond.laysApart eN1 eB1 eN2 eB2 (by rw [nf, nB]; exact z1)) (Cond.laysApart eN1 eD1 eN2 eD2 (by rw [nf, nD]; exact z2)) (Cond.laysApart eN1 eS1 eN2 eS2 (by rw [nf, nS]; exact z3))).trans e7⟩
  obtain ⟨c0, -, hc0, -⟩ := E0
  have m0 : cell.monitor = c0.monitor := mon_same X (by rw [hh]; exact hc0) hcell
  refine ⟨T6, T6.heap, _, X6.more (Nat.le_refl _) (Nat.add_le_add_left hnn _), rfl, ?_, keep_same X6 hh fun y hy => ?_, ⟨C6, kz, hD6, by rw [q1]; exact hfz, by rw [q1]; exact hkz, by rw [q2]; exact hst, fun o => by rw [q3]; exact hsz o⟩, ⟨C6, hD6, q2.trans n2, ?_⟩, fldK (t := .object "java/lang/Throwable") (by decide +kernel) (by decide) (by decide) (by decide) (w (.lays rc tN "cause" thD) (by simp [excAtoms]) (by simp)), fldK (t := .object "java/lang/String") (by decide +kernel) (by decide) (by decide) (by decide) (w (.lays rc tN "detailMessage" msgD) (by simp [excAtoms]) (by simp)), fun target q => st.trans q⟩
  · intro y hy
    simp only [List.mem_cons, List.not_mem_nil, or_false] at hy
    rcases hy with rfl | rfl | rfl <;> rfl
  · rcases List.mem_append.mp hy with hy | hy
    · exact hloc y hy
    · simp only [List.mem_cons, List.not_mem_nil, or_false] at hy
      rcases hy with rfl | rfl | rfl <;> rfl
  · rw [mon_same X6 (by rw [hh]; exact hc0) hD6, ← m0]; exact n3
end FillL
end OwnExc

theorem own_w {a0 : Array Value} {Z : State} (hw : ∀ d ∈ tables_1, d.before a0 Z = true) : ∀ d ∈ Jvm.Free.Exc.excAtoms "com/example/penelope/penelope/exception/InterceptionException", d ≠ skipW → d.before a0 Z = true := fun d h1 h2 => hw d (((by decide +kernel : ∀ d ∈ Jvm.Free.Exc.excAtoms "com/example/penelope/penelope/exception/InterceptionException", d = skipW ∨ d ∈ tables_1) d h1).resolve_left h2)
theorem d1_0 : decode c_1 0 = .ok (.iload_n 0, 1) := by decide +kernel
theorem d1_1 : decode c_1 1 = .ok (.ifCond .ne 14, 3) := by decide +kernel
theorem d1_4 : decode c_1 4 = .ok (.new 30, 3) := by decide +kernel
theorem d1_7 : decode c_1 7 = .ok (.dup, 1) := by decide +kernel
theorem d1_8 : decode c_1 8 = .ok (.iconst 0, 1) := by decide +kernel
theorem d1_9 : decode c_1 9 = .ok (.newarray .char, 2) := by decide +kernel
theorem d1_11 : decode c_1 11 = .ok (.invokespecial 39, 3) := by decide +kernel
theorem pd_1 : parseMethodDescriptor "([C)V" = some ⟨[(.array .char)], none⟩ := by decide +kernel
theorem d1_14 : decode c_1 14 = .ok (.areturn, 1) := by decide +kernel
theorem d1_15 : decode c_1 15 = .ok (.iload_n 0, 1) := by decide +kernel
theorem d1_16 : decode c_1 16 = .ok (.iconst 1, 1) := by decide +kernel
theorem d1_17 : decode c_1 17 = .ok (.if_icmp .ne 8, 3) := by decide +kernel
theorem d1_20 : decode c_1 20 = .ok (.iload_n 1, 1) := by decide +kernel
theorem d1_21 : decode c_1 21 = .ok (.invokestatic 42, 3) := by decide +kernel
theorem d46_0 : decode c_46 0 = .ok (.getstatic 38, 3) := by decide +kernel
theorem d46_3 : decode c_46 3 = .ok (.ifCond .eq 23, 3) := by decide +kernel
theorem d46_6 : decode c_46 6 = .ok (.iload_n 0, 1) := by decide +kernel
theorem d46_7 : decode c_46 7 = .ok (.invokestatic 1015, 3) := by decide +kernel
theorem d47_0 : decode c_47 0 = .ok (.iload_n 0, 1) := by decide +kernel
theorem d47_1 : decode c_47 1 = .ok (.sipush 255, 3) := by decide +kernel
theorem d47_4 : decode c_47 4 = .ok (.if_icmp .gt 7, 3) := by decide +kernel
theorem d47_7 : decode c_47 7 = .ok (.iconst 1, 1) := by decide +kernel
theorem d47_8 : decode c_47 8 = .ok (.goto 4, 3) := by decide +kernel
theorem d47_12 : decode c_47 12 = .ok (.ireturn, 1) := by decide +kernel
theorem pn_1 : plainName "java/lang/StringLatin1" = true := by first | (simp [plainName, overriddenIn]; done) | decide +kernel
theorem ef_am47_1 (m : MethodId) (x0 : Int32)  : entryFrame m #[(.int x0)] 1 = mkF m 0 #[.val (.int x0)] [] := by first | (simp [entryFrame, mkF, argsToLocals, Value.category]; done) | rfl
def Q_am47_1 (Z : State) (cs_ : Int32) (un_ : Value) (sn_ : Value) (iv1 : Int32) (h0 : Heap) (n0 : Nat) (v : Option Value) (h : Heap) (L : List Loc) : Prop := v = some (.int (1 : Int32)) ∧ Fr n0 L ∧ h = h0
set_option maxRecDepth 65536 in
set_option maxHeartbeats 40000000 in
theorem am47_1 (l : Launch) (Z : State) (a0 : Array Value) (hw : ∀ d ∈ tables_1, d.before a0 Z = true) (ws : List Jvm.Cond) (cs_ : Int32) (un_ : Value) (sn_ : Value) (HW : Wd Z cs_ un_ sn_) (iv1 : Int32) (h0 : Heap) (n0 : Nat) (Ol : Old Z n0 h0) (as0 : ¬ ((255 : Int32) < iv1)) :
    MetFree l y_47 (head1 (Jvm.Cond.code y_47 jdk_43_method_3_code 1 (some .boolean) :: ws) (rm 0 0 0 0)) (fun a_ U_ => a_ = #[(.int iv1)] ∧ Z.Warmed39 U_.vm ∧ U_.heap = h0) (fun _ _ _ _ _ => True) (fun _ U_ o_ V_ => ∃ v_ L_, o_ = .returned v_ ∧ Q_am47_1 Z cs_ un_ sn_ iv1 h0 n0 v_ V_.heap L_ ∧ FrameEnd U_ o_ V_ L_ (rm 0 0 0 0).cells (rm 0 0 0 0).slots) := by
  refine MetFree.of_bodySF (plainFor_of_name pn_1) hisR ?_
  intro p e s m args below meth c s₁ Bd hml0 hP hK
  obtain ⟨rfl, hZ, hh⟩ := hP
  have hx := Bd.exec
  have hby := Bd.bytes
  have hml : c.maxLocals = 1 := hml0
  have hown : s.vm.findClass "java/lang/StringLatin1" = some m.cls := findClass_of_methodNamed Bd.named
  have hnm := (name_of_methodNamed Bd.named Bd.method).1
  have X0 : Stand p l e (rm 0 0 0 0) s m #[(.int iv1)] below meth c s₁ [] 0 0 := Stand.of_body Bd
  have e0 : s₁.heap = h0 := by rw [← hh, Bd.state]; rfl
  have N0 := Fr.nil n0
  have kp0 := Keep.refl h0 []
  show Go p e below (Fin1 s below (Q_am47_1 Z cs_ un_ sn_ iv1 h0 n0) (rm 0 0 0 0).cells (rm 0 0 0 0).slots) _
  refine Go.step (fun t_ k_ => castTop (ef_am47_1 m iv1) k_) ?_
  obtain ⟨S_cs, N_cs, S_un, R_un, S_sn, R_sn⟩ := id HW
  show Go p e below _ (s₁.setTop (mkF m 0 #[.val (.int iv1)] []))
  refine gs.iloadN X0.here hx (hb hby d47_0) rfl ?_
  refine gs.sipush 255 X0.here hx (hb hby d47_1) rfl ?_
  have hc4 : ¬ ((255 : Int32) < iv1) := as0
  refine gs.icmpNo X0.here hx (hb hby d47_4) (flt hc4).2.2.1 ?_
  refine gs.iconst 1 X0.here hx (hb hby d47_7) rfl ?_
  refine gs.goto 12 X0.here hx (hb hby d47_8) rfl ?_
  refine Go.retZ X0 hx (t := .boolean) Bd.returns (by simp) Bd.notSynchronized (hb hby d47_12) (by rw [e0]; exact ⟨rfl, N0, rfl⟩) (by decide) (by decide)
theorem pd_2 : parseMethodDescriptor "(C)Z" = some ⟨[.char], some .boolean⟩ := by decide +kernel
theorem d46_10 : decode c_46 10 = .ok (.ifCond .eq 16, 3) := by decide +kernel
theorem d46_13 : decode c_46 13 = .ok (.new 10, 3) := by decide +kernel
theorem d46_16 : decode c_46 16 = .ok (.dup, 1) := by decide +kernel
theorem d46_17 : decode c_46 17 = .ok (.iload_n 0, 1) := by decide +kernel
theorem d46_18 : decode c_46 18 = .ok (.invokestatic 1018, 3) := by decide +kernel
theorem d48_0 : decode c_48 0 = .ok (.iconst 1, 1) := by decide +kernel
theorem d48_1 : decode c_48 1 = .ok (.newarray .byte, 2) := by decide +kernel
theorem d48_3 : decode c_48 3 = .ok (.dup, 1) := by decide +kernel
theorem d48_4 : decode c_48 4 = .ok (.iconst 0, 1) := by decide +kernel
theorem d48_5 : decode c_48 5 = .ok (.iload_n 0, 1) := by decide +kernel
theorem d48_6 : decode c_48 6 = .ok (.i2b, 1) := by decide +kernel
theorem d48_7 : decode c_48 7 = .ok (.bastore, 1) := by decide +kernel
theorem d48_8 : decode c_48 8 = .ok (.areturn, 1) := by decide +kernel
theorem ef_am48_1 (m : MethodId) (x0 : Int32)  : entryFrame m #[(.int x0)] 1 = mkF m 0 #[.val (.int x0)] [] := by first | (simp [entryFrame, mkF, argsToLocals, Value.category]; done) | rfl
def Q_am48_1 (Z : State) (cs_ : Int32) (un_ : Value) (sn_ : Value) (iv1 : Int32) (h0 : Heap) (n0 : Nat) (v : Option Value) (h : Heap) (L : List Loc) : Prop := ∃ fr1 : Addr, ∃ kx1 : ClassId, v = some (.ref fr1) ∧ h0.size ≤ fr1 ∧ Fr n0 L ∧ Keep h0 h [] ∧ (Arv Z h fr1 kx1 .byte (1 : Int32) [(.int ((iv1.toInt8.toInt32).toInt8.toInt32))] (.int (0 : Int32)))
set_option maxRecDepth 65536 in
set_option maxHeartbeats 40000000 in
theorem am48_1 (l : Launch) (Z : State) (a0 : Array Value) (hw : ∀ d ∈ tables_1, d.before a0 Z = true) (ws : List Jvm.Cond) (cs_ : Int32) (un_ : Value) (sn_ : Value) (HW : Wd Z cs_ un_ sn_) (iv1 : Int32) (h0 : Heap) (n0 : Nat) (Ol : Old Z n0 h0)  :
    MetFree l y_48 (head1 (Jvm.Cond.code y_48 jdk_43_method_46_code 1 (some (.array .byte)) :: ws) (rm 0 1 1 0)) (fun a_ U_ => a_ = #[(.int iv1)] ∧ Z.Warmed39 U_.vm ∧ U_.heap = h0) (fun _ _ _ _ _ => True) (fun _ U_ o_ V_ => ∃ v_ L_, o_ = .returned v_ ∧ Q_am48_1 Z cs_ un_ sn_ iv1 h0 n0 v_ V_.heap L_ ∧ FrameEnd U_ o_ V_ L_ (rm 0 1 1 0).cells (rm 0 1 1 0).slots) := by
  refine MetFree.of_bodySF (plainFor_of_name pn_1) hisR ?_
  intro p e s m args below meth c s₁ Bd hml0 hP hK
  obtain ⟨rfl, hZ, hh⟩ := hP
  have hx := Bd.exec
  have hby := Bd.bytes
  have hml : c.maxLocals = 1 := hml0
  have hown : s.vm.findClass "java/lang/StringLatin1" = some m.cls := findClass_of_methodNamed Bd.named
  have hnm := (name_of_methodNamed Bd.named Bd.method).1
  have X0 : Stand p l e (rm 0 1 1 0) s m #[(.int iv1)] below meth c s₁ [] 0 0 := Stand.of_body Bd
  have e0 : s₁.heap = h0 := by rw [← hh, Bd.state]; rfl
  have N0 := Fr.nil n0
  have kp0 := Keep.refl h0 []
  show Go p e below (Fin1 s below (Q_am48_1 Z cs_ un_ sn_ iv1 h0 n0) (rm 0 1 1 0).cells (rm 0 1 1 0).slots) _
  refine Go.step (fun t_ k_ => castTop (ef_am48_1 m iv1) k_) ?_
  obtain ⟨S_cs, N_cs, S_un, R_un, S_sn, R_sn⟩ := id HW
  show Go p e below _ (s₁.setTop (mkF m 0 #[.val (.int iv1)] []))
  refine gs.iconst 1 X0.here hx (hb hby d48_0) rfl ?_
  obtain ⟨T1, h1, k1, X1, e1, E1, A1, st1⟩ := newP X0 hx hZ (wd hw 19 rfl) e0 (g := (mkF m 1 #[.val (.int iv1)] [(.int (1 : Int32))])) rfl (hb hby d48_1) rfl (by decide) (cap := 1) (by decide) (by decide) (by decide) (by decide)
  obtain ⟨b1, g1⟩ : ∃ z, z = h0.size := ⟨_, rfl⟩
  rw [← g1] at A1 st1
  have nn_b1 : n0 ≤ b1 := Nat.le_trans (old_z0 Ol) (Nat.le_of_eq g1.symm)
  have sz_b1 : h0.size ≤ b1 := Nat.le_trans kp0.1 (Nat.le_of_eq g1.symm)
  have old1 := Ol.ext E1
  have kp1 := kp0.ext E1
  have V1 : Arv Z h1 b1 k1 .byte (1 : Int32) [(.int (0 : Int32))] (.int (0 : Int32)) := (Arv.new A1 (by decide)).pad (pad_rep [] (.int (0 : Int32)) 1)
  refine Go.fin st1 ?_
  show Go p e below _ (T1.setTop (mkF m 3 _ [(.ref b1)]))
  refine gs.dup X1.here hx (hb hby d48_3) rfl ?_
  refine gs.iconst 0 X1.here hx (hb hby d48_4) rfl ?_
  refine gs.iloadN X1.here hx (hb hby d48_5) rfl ?_
  refine Go.fin (fun t_ k_ => XS.i2b X1.here hx rfl (hb hby d48_6) rfl k_) ?_
  show Go p e below _ (T1.setTop (mkF m 7 _ [(.int (iv1.toInt8.toInt32)), (.int (0 : Int32)), (.ref b1), (.ref b1)]))
  obtain ⟨cl2, Ar2, q2, Sz2, Ng2, Hs2, G2⟩ := id V1
  have hin2 : ¬ ((0 : Int32) < 0 ∨ cl2.slots.size ≤ ((0 : Int32)).toNatClampNeg) := inb_of Sz2 ⟨by decide, by decide⟩
  obtain ⟨T3, h3, X3, e3, W3, st3⟩ := stB X1 hx hZ e1 Ar2 (j := (0 : Int32)) hin2 (g := (mkF m 7 #[.val (.int iv1)] [(.int (iv1.toInt8.toInt32)), (.int (0 : Int32)), (.ref b1), (.ref b1)])) rfl rfl (hb hby d48_7)
  have N3 := Fr.snoc X3 N0 nn_b1
  have old3 := old1.wr W3 nn_b1
  have kp3 := kp1.wr W3 (Or.inr sz_b1)
  have V3 : Arv Z h3 b1 k1 .byte (1 : Int32) [(.int ((iv1.toInt8.toInt32).toInt8.toInt32))] (.int (0 : Int32)) := Arv.set Ar2 q2 Sz2 Ng2 Hs2 G2 (fits_nar_byte _) W3 0 rfl (Nat.le_of_ble_eq_true rfl)
  refine Go.fin st3 ?_
  show Go p e below _ (T3.setTop (mkF m 8 _ [(.ref b1)]))
  refine Go.retR X3 hx Bd.returns rfl rfl Bd.notSynchronized (hb hby d48_8) (by rw [e3]; exact ⟨b1, k1, rfl, sz_b1, N3, kp3, V3⟩) (by decide) (by decide)
theorem pd_3 : parseMethodDescriptor "(C)[B" = some ⟨[.char], some (.array .byte)⟩ := by decide +kernel
theorem d46_21 : decode c_46 21 = .ok (.iconst 0, 1) := by decide +kernel
theorem d46_22 : decode c_46 22 = .ok (.invokespecial 209, 3) := by decide +kernel
theorem d49_0 : decode c_49 0 = .ok (.aload_n 0, 1) := by decide +kernel
theorem d49_1 : decode c_49 1 = .ok (.invokespecial 1, 3) := by decide +kernel
theorem d49_4 : decode c_49 4 = .ok (.aload_n 0, 1) := by decide +kernel
theorem d49_5 : decode c_49 5 = .ok (.aload_n 1, 1) := by decide +kernel
theorem d49_6 : decode c_49 6 = .ok (.putfield 9, 3) := by decide +kernel
theorem d49_9 : decode c_49 9 = .ok (.aload_n 0, 1) := by decide +kernel
theorem d49_10 : decode c_49 10 = .ok (.iload_n 2, 1) := by decide +kernel
theorem d49_11 : decode c_49 11 = .ok (.putfield 15, 3) := by decide +kernel
theorem d49_14 : decode c_49 14 = .ok (.return_, 1) := by decide +kernel
theorem ef_am49_1 (m : MethodId) (x0 : Addr) (x1 : Addr) (x2 : Int32)  : entryFrame m #[(.ref x0), (.ref x1), (.int x2)] 3 = mkF m 0 #[.val (.ref x0), .val (.ref x1), .val (.int x2)] [] := by first | (simp [entryFrame, mkF, argsToLocals, Value.category]; done) | rfl
def Q_am49_1 (Z : State) (cs_ : Int32) (un_ : Value) (sn_ : Value) (ad1 : Addr) (ad2 : Addr) (h0 : Heap) (n0 : Nat) (v : Option Value) (h : Heap) (L : List Loc) : Prop := v = none ∧ Fr n0 L ∧ Keep h0 h [ad1] ∧ (Exa Z h ad1 "java/lang/String") ∧ (Fld Z h ad1 "java/lang/String" "coder" "B" (.int (0 : Int32))) ∧ (Fld Z h ad1 "java/lang/String" "value" "[B" (.ref ad2))
set_option maxRecDepth 65536 in
set_option maxHeartbeats 40000000 in
theorem am49_1 (l : Launch) (Z : State) (a0 : Array Value) (hw : ∀ d ∈ tables_1, d.before a0 Z = true) (ws : List Jvm.Cond) (cs_ : Int32) (un_ : Value) (sn_ : Value) (HW : Wd Z cs_ un_ sn_) (ad1 : Addr) (ad2 : Addr) (h0 : Heap) (n0 : Nat) (Ol : Old Z n0 h0) (HE_ad1 : Exa Z h0 ad1 "java/lang/String") (HF_ad1_String_value : Fld Z h0 ad1 "java/lang/String" "value" "[B" .null) (HF_ad1_String_coder : Fld Z h0 ad1 "java/lang/String" "coder" "B" (.int (0 : Int32))) (nn_ad1 : n0 ≤ ad1) :
    MetFree l y_49 (head1 (Jvm.Cond.code y_49 jdk_42_method_151_code 3 none :: ws) (rm 1 0 0 12)) (fun a_ U_ => a_ = #[(.ref ad1), (.ref ad2), (.int (0 : Int32))] ∧ Z.Warmed39 U_.vm ∧ U_.heap = h0) (fun _ _ _ _ _ => True) (fun _ U_ o_ V_ => ∃ v_ L_, o_ = .returned v_ ∧ Q_am49_1 Z cs_ un_ sn_ ad1 ad2 h0 n0 v_ V_.heap L_ ∧ FrameEnd U_ o_ V_ L_ (rm 1 0 0 12).cells (rm 1 0 0 12).slots) := by
  refine MetFree.of_bodySF (plainFor_of_name pn_0) hisR ?_
  intro p e s m args below meth c s₁ Bd hml0 hP hK
  obtain ⟨rfl, hZ, hh⟩ := hP
  have hx := Bd.exec
  have hby := Bd.bytes
  have hml : c.maxLocals = 3 := hml0
  have hown : s.vm.findClass "java/lang/String" = some m.cls := findClass_of_methodNamed Bd.named
  have hnm := (name_of_methodNamed Bd.named Bd.method).1
  have X0 : Stand p l e (rm 1 0 0 12) s m #[(.ref ad1), (.ref ad2), (.int (0 : Int32))] below meth c s₁ [] 0 0 := Stand.of_body Bd
  have e0 : s₁.heap = h0 := by rw [← hh, Bd.state]; rfl
  have N0 := Fr.nil n0
  have kp0 := Keep.refl h0 [ad1]
  show Go p e below (Fin1 s below (Q_am49_1 Z cs_ un_ sn_ ad1 ad2 h0 n0) (rm 1 0 0 12).cells (rm 1 0 0 12).slots) _
  refine Go.step (fun t_ k_ => castTop (ef_am49_1 m ad1 ad2 (0 : Int32)) k_) ?_
  obtain ⟨S_cs, N_cs, S_un, R_un, S_sn, R_sn⟩ := id HW
  show Go p e below _ (s₁.setTop (mkF m 0 #[.val (.ref ad1), .val (.ref ad2), .val (.int (0 : Int32))] []))
  refine gs.aloadN X0.here hx (hb hby d49_0) rfl rfl ?_
  obtain ⟨T1, X1, e1, st1⟩ := initO X0 hx hZ hown (wd hw 15 rfl) (wd hw 16 rfl) (wd hw 17 rfl) e0 (g := (mkF m 1 #[.val (.ref ad1), .val (.ref ad2), .val (.int (0 : Int32))] [(.ref ad1)])) rfl (by rw [hml]; rfl) rfl (hb hby d49_1) (by decide) (W := 0) (by show 2 * 0 + _ ≤ _; exact Nat.le_of_eq rfl) (by decide)
  refine Go.step st1 ?_
  show Go p e below _ (T1.setTop (mkF m 4 #[.val (.ref ad1), .val (.ref ad2), .val (.int (0 : Int32))] []))
  refine gs.aloadN X1.here hx (hb hby d49_4) rfl rfl ?_
  refine gs.aloadN X1.here hx (hb hby d49_5) rfl rfl ?_
  obtain ⟨T2, h2, X2, e2, W2, st2⟩ := putF X1 hx hZ hown (host := "") (Or.inl (wd hw 24 rfl)) Via.refl e1 HF_ad1_String_value HE_ad1 (Or.inr ⟨(wd hw 20 rfl), rfl, hnm⟩) (wd hw 5 rfl) (ty := (.array .byte)) (by decide) rfl rfl (g := (mkF m 6 #[.val (.ref ad1), .val (.ref ad2), .val (.int (0 : Int32))] [(.ref ad2), (.ref ad1)])) rfl rfl (hb hby d49_6)
  have N2 := Fr.snoc X2 N0 nn_ad1
  have old2 := Ol.wr W2 nn_ad1
  have kp2 := kp0.wr W2 (Or.inl (List.mem_of_getElem? (i := 0) rfl))
  have F2 := HF_ad1_String_value.same W2
  refine Go.fin st2 ?_
  show Go p e below _ (T2.setTop (mkF m 9 _ []))
  refine gs.aloadN X2.here hx (hb hby d49_9) rfl rfl ?_
  refine gs.iloadN X2.here hx (hb hby d49_10) rfl ?_
  have f3 := (HF_ad1_String_coder.other W2 (Or.inr (sn0 hw)))
  have f4 := (HE_ad1.wr W2)
  obtain ⟨T5, h5, X5, e5, W5, st5⟩ := putFN X2 hx hZ hown (wd hw 25 rfl) Via.refl e2 f3 f4 (Or.inr ⟨(wd hw 21 rfl), rfl, hnm⟩) (wd hw 5 rfl) (ty := .byte) (v' := (.int (0 : Int32))) (by decide) rfl (by decide) (g := (mkF m 11 #[.val (.ref ad1), .val (.ref ad2), .val (.int (0 : Int32))] [(.int (0 : Int32)), (.ref ad1)])) rfl rfl (hb hby d49_11)
  have N5 := Fr.snoc X5 N2 nn_ad1
  have old5 := old2.wr W5 nn_ad1
  have kp5 := kp2.wr W5 (Or.inl (List.mem_of_getElem? (i := 0) rfl))
  have F5 := f3.same W5
  refine Go.fin st5 ?_
  show Go p e below _ (T5.setTop (mkF m 14 _ []))
  have f6 := (f4.wr W5)
  have f7 := (F2.other W5 (Or.inr (sn1 hw)))
  refine Go.retV X5 hx Bd.returns Bd.notSynchronized (hb hby d49_14) (by rw [e5]; exact ⟨rfl, N5, kp5, f6, F5, f7⟩) (by decide) (by decide)
theorem pd_4 : parseMethodDescriptor "([BB)V" = some ⟨[(.array .byte), .byte], none⟩ := by decide +kernel
theorem d46_25 : decode c_46 25 = .ok (.areturn, 1) := by decide +kernel
theorem ef_am46_1 (m : MethodId) (x0 : Int32)  : entryFrame m #[(.int x0)] 1 = mkF m 0 #[.val (.int x0)] [] := by first | (simp [entryFrame, mkF, argsToLocals, Value.category]; done) | rfl
def Q_am46_1 (Z : State) (cs_ : Int32) (un_ : Value) (sn_ : Value) (iv1 : Int32) (h0 : Heap) (n0 : Nat) (v : Option Value) (h : Heap) (L : List Loc) : Prop := ∃ fr1 : Addr, ∃ fr2 : Addr, ∃ kx1 : ClassId, v = some (.ref fr1) ∧ h0.size ≤ fr1 ∧ h0.size ≤ fr2 ∧ fr1 ≠ fr2 ∧ Fr n0 L ∧ Keep h0 h [] ∧ (Exa Z h fr1 "java/lang/String") ∧ (Fld Z h fr1 "java/lang/String" "coder" "B" (.int (0 : Int32))) ∧ (Fld Z h fr1 "java/lang/String" "value" "[B" (.ref fr2)) ∧ (Arv Z h fr2 kx1 .byte (1 : Int32) [(.int ((iv1.toInt8.toInt32).toInt8.toInt32))] (.int (0 : Int32)))
set_option maxRecDepth 65536 in
set_option maxHeartbeats 40000000 in
theorem am46_1 (l : Launch) (Z : State) (a0 : Array Value) (hw : ∀ d ∈ tables_1, d.before a0 Z = true) (ws : List Jvm.Cond) (cs_ : Int32) (un_ : Value) (sn_ : Value) (HW : Wd Z cs_ un_ sn_) (iv1 : Int32) (h0 : Heap) (n0 : Nat) (Ol : Old Z n0 h0) (as0 : ¬ ((255 : Int32) < iv1)) :
    MetFree l y_46 (head1 (Jvm.Cond.code y_46 jdk_42_method_139_code 1 (some (.object "java/lang/String")) :: ws) (rm 2 2 5 27)) (fun a_ U_ => a_ = #[(.int iv1)] ∧ Z.Warmed39 U_.vm ∧ U_.heap = h0) (fun _ _ _ _ _ => True) (fun _ U_ o_ V_ => ∃ v_ L_, o_ = .returned v_ ∧ Q_am46_1 Z cs_ un_ sn_ iv1 h0 n0 v_ V_.heap L_ ∧ FrameEnd U_ o_ V_ L_ (rm 2 2 5 27).cells (rm 2 2 5 27).slots) := by
  refine MetFree.of_bodySF (plainFor_of_name pn_0) hisR ?_
  intro p e s m args below meth c s₁ Bd hml0 hP hK
  obtain ⟨rfl, hZ, hh⟩ := hP
  have hx := Bd.exec
  have hby := Bd.bytes
  have hml : c.maxLocals = 1 := hml0
  have hown : s.vm.findClass "java/lang/String" = some m.cls := findClass_of_methodNamed Bd.named
  have hnm := (name_of_methodNamed Bd.named Bd.method).1
  have X0 : Stand p l e (rm 2 2 5 27) s m #[(.int iv1)] below meth c s₁ [] 0 0 := Stand.of_body Bd
  have e0 : s₁.heap = h0 := by rw [← hh, Bd.state]; rfl
  have N0 := Fr.nil n0
  have kp0 := Keep.refl h0 []
  show Go p e below (Fin1 s below (Q_am46_1 Z cs_ un_ sn_ iv1 h0 n0) (rm 2 2 5 27).cells (rm 2 2 5 27).slots) _
  refine Go.step (fun t_ k_ => castTop (ef_am46_1 m iv1) k_) ?_
  obtain ⟨S_cs, N_cs, S_un, R_un, S_sn, R_sn⟩ := id HW
  show Go p e below _ (s₁.setTop (mkF m 0 #[.val (.int iv1)] []))
  obtain ⟨T1, X1, e1, st1⟩ := getS2 X0 hx hZ hown (host := "") (Or.inl (wd hw 29 rfl)) Via.refl e0 (S_cs.ext Ol.2) (g := (mkF m 0 #[.val (.int iv1)] [])) rfl (hb hby d46_0)
  refine Go.fin st1 ?_
  show Go p e below _ (T1.setTop (mkF m 3 _ [(.int cs_)]))
  have hc3 : ¬ (cs_ = (0 : Int32)) := N_cs
  refine gs.ifNo X1.here hx (hb hby d46_3) ((if0 _ _).trans (feq hc3).1) ?_
  refine gs.iloadN X1.here hx (hb hby d46_6) rfl ?_
  refine gs.stat 0 X1 hx hZ hown (am47_1 l Z a0 hw [] cs_ un_ sn_ HW (iv1) h0 n0 Ol as0) (wd hw 264 rfl) (wd hw 251 rfl) (wd hw 262 rfl) (wd hw 263 rfl) (by decide) (by decide) (by decide) (by rw [hml]; rfl) [(.int iv1)] (lenOf pd_2 rfl) rfl (Nat.le_of_eq rfl) (hb hby d46_7) rfl e1 (by decide) (by decide) fun T2 Lc2 v2 X2 hQ2 => ?_
  obtain ⟨rfl, Nq2, e2⟩ := hQ2
  have N2 := Fr.app N0 Nq2
  show Go p e below _ (T2.setTop (mkF m 10 _ [(.int (1 : Int32))]))
  have hc10 : ¬ ((1 : Int32) = (0 : Int32)) := by decide
  refine gs.ifNo X2.here hx (hb hby d46_10) ((if0 _ _).trans (feq hc10).1) ?_
  obtain ⟨T3, h3, X3, e3, E3, A3, D3, Y3, st3⟩ := newO X2 hx hZ hown (wd hw 248 rfl) (wd hw 5 rfl) (wd hw 6 rfl) e2 (g := (mkF m 13 #[.val (.int iv1)] [])) rfl (hb hby d46_13) (by decide) (by decide)
  obtain ⟨b3, g3⟩ : ∃ z, z = h0.size := ⟨_, rfl⟩
  rw [← g3] at A3 D3 Y3 st3
  have nn_b3 : n0 ≤ b3 := Nat.le_trans (old_z0 Ol) (Nat.le_of_eq g3.symm)
  have sz_b3 : h0.size ≤ b3 := Nat.le_trans kp0.1 (Nat.le_of_eq g3.symm)
  have old3 := Ol.ext E3
  have kp3 := kp0.ext E3
  have F3_value : Fld Z h3 b3 "java/lang/String" "value" "[B" .null := D3 (Or.inr (wd hw 20 rfl)) (ty := (.array .byte)) (by decide)
  have F3_coder : Fld Z h3 b3 "java/lang/String" "coder" "B" (.int (0 : Int32)) := D3 (Or.inr (wd hw 21 rfl)) (ty := .byte) (by decide)
  refine Go.fin st3 ?_
  show Go p e below _ (T3.setTop (mkF m 16 _ [(.ref b3)]))
  refine gs.dup X3.here hx (hb hby d46_16) rfl ?_
  refine gs.iloadN X3.here hx (hb hby d46_17) rfl ?_
  refine gs.stat 2 X3 hx hZ hown (am48_1 l Z a0 hw [] cs_ un_ sn_ HW (iv1) h3 n0 old3 ) (wd hw 267 rfl) (wd hw 251 rfl) (wd hw 265 rfl) (wd hw 266 rfl) (by decide) (by decide) (by decide) (by rw [hml]; rfl) [(.int iv1)] (lenOf pd_3 rfl) rfl (Nat.le_of_eq rfl) (hb hby d46_18) rfl e3 (by decide) (by decide) fun T4 Lc4 v4 X4 hQ4 => ?_
  obtain ⟨b4_0, kx4_0, rfl, gb_b4_0, Nq4, K4, p4_0⟩ := hQ4
  have nn_b4_0 : n0 ≤ b4_0 := Nat.le_trans (old_z0 old3) gb_b4_0
  have sz_b4_0 : h0.size ≤ b4_0 := Nat.le_trans kp3.1 gb_b4_0
  have old4 := old3.keep K4 all0
  have kp4 := kp3.trans K4 all0
  have N4 := Fr.app N2 Nq4
  show Go p e below _ (T4.setTop (mkF m 21 _ [(.ref b4_0), (.ref b3), (.ref b3)]))
  refine gs.iconst 0 X4.here hx (hb hby d46_21) rfl ?_
  have f5 := (A3.keep K4)
  have f6 := (F3_value.keep K4 nin0)
  have f7 := (F3_coder.keep K4 nin0)
  refine gs.init 1 X4 hx hZ hown (am49_1 l Z a0 hw [] cs_ un_ sn_ HW (b3) (b4_0) T4.heap n0 old4 f5 f6 f7 nn_b3) (wd hw 270 rfl) (wd hw 6 rfl) (wd hw 268 rfl) rfl (wd hw 269 rfl) (by decide) (by decide) (by decide) (by rw [hml]; rfl) [(.ref b4_0), (.int (0 : Int32))] (lenOf pd_4 rfl) rfl (Nat.le_of_eq rfl) (hb hby d46_22) rfl rfl (by decide) (by decide) fun T8 Lc8 v8 X8 hQ8 => ?_
  obtain ⟨rfl, Nq8, K8, p8_0, p8_1, p8_2⟩ := hQ8
  have old8 := old4.keep K8 (allS nn_b3 all0)
  have kp8 := kp4.trans K8 (allS (Or.inr sz_b3) all0)
  have N8 := Fr.app N4 Nq8
  show Go p e below _ (T8.setTop (mkF m 25 _ [(.ref b3)]))
  have ne_b3_b4_0 : b3 ≠ b4_0 := Nat.ne_of_lt (Nat.lt_of_lt_of_le A3.lt gb_b4_0)
  have f9 := (p4_0.keep K8 (ninS (Ne.symm ne_b3_b4_0) nin0))
  refine Go.retR X8 hx Bd.returns rfl rfl Bd.notSynchronized (hb hby d46_25) (by exact ⟨b3, b4_0, kx4_0, rfl, sz_b3, sz_b4_0, ne_b3_b4_0, N8, kp8, p8_0, p8_1, p8_2, f9⟩) (by decide) (by decide)
theorem pd_5 : parseMethodDescriptor "(C)Ljava/lang/String;" = some ⟨[.char], some (.object "java/lang/String")⟩ := by decide +kernel
theorem d1_24 : decode c_1 24 = .ok (.areturn, 1) := by decide +kernel
theorem d1_25 : decode c_1 25 = .ok (.iconst 2, 1) := by decide +kernel
theorem d1_26 : decode c_1 26 = .ok (.newarray .char, 2) := by decide +kernel
theorem d1_28 : decode c_1 28 = .ok (.astore_n 3, 1) := by decide +kernel
theorem d1_29 : decode c_1 29 = .ok (.aload_n 3, 1) := by decide +kernel
theorem d1_30 : decode c_1 30 = .ok (.iconst 0, 1) := by decide +kernel
theorem d1_31 : decode c_1 31 = .ok (.iload_n 1, 1) := by decide +kernel
theorem d1_32 : decode c_1 32 = .ok (.castore, 1) := by decide +kernel
theorem d1_33 : decode c_1 33 = .ok (.aload_n 3, 1) := by decide +kernel
theorem d1_34 : decode c_1 34 = .ok (.iconst 1, 1) := by decide +kernel
theorem d1_35 : decode c_1 35 = .ok (.iload_n 2, 1) := by decide +kernel
theorem d1_36 : decode c_1 36 = .ok (.castore, 1) := by decide +kernel
theorem d1_37 : decode c_1 37 = .ok (.new 30, 3) := by decide +kernel
theorem d1_40 : decode c_1 40 = .ok (.dup, 1) := by decide +kernel
theorem d1_41 : decode c_1 41 = .ok (.aload_n 3, 1) := by decide +kernel
theorem d1_42 : decode c_1 42 = .ok (.invokespecial 39, 3) := by decide +kernel
theorem d1_45 : decode c_1 45 = .ok (.areturn, 1) := by decide +kernel
theorem pn_2 : plainName "com/example/penelope/penelope/internal/CoverageCannotTakeEffectPinLaw" = true := by first | (simp [plainName, overriddenIn]; done) | decide +kernel
theorem ef_rm1 (m : MethodId) (x0 : Int32) (x1 : Int32) (x2 : Int32)  : entryFrame m #[(.int x0), (.int x1), (.int x2)] 4 = mkF m 0 #[.val (.int x0), .val (.int x1), .val (.int x2), .unset] [] := by first | (simp [entryFrame, mkF, argsToLocals, Value.category]; done) | rfl
def Q_rm1 (Z : State) (cs_ : Int32) (un_ : Value) (sn_ : Value) (u0 : Int32) (u1 : Int32) (u2 : Int32) (h0 : Heap) (n0 : Nat) (v : Option Value) (h : Heap) (L : List Loc) : Prop := ∃ b : Addr, v = some (.ref b) ∧ h0.size ≤ b ∧ Fr n0 L ∧ Keep h0 h [] ∧ (∃ (q1 : Addr) (k1 : ClassId), Fld Z h b "java/lang/String" "value" "[B" (.ref q1) ∧ Arv Z h q1 k1 .byte u0 (((pk u0 u1 u2).map StrChars.lo8).map Value.int) (.int (0 : Int32))) ∧ (Exa Z h b "java/lang/String") ∧ (Fld Z h b "java/lang/String" "coder" "B" (.int (0 : Int32)))
set_option maxRecDepth 65536 in
set_option maxHeartbeats 40000000 in
theorem rm1 (l : Launch) (Z : State) (a0 : Array Value) (hw : ∀ d ∈ tables_1, d.before a0 Z = true) (ws : List Jvm.Cond) (cs_ : Int32) (un_ : Value) (sn_ : Value) (HW : Wd Z cs_ un_ sn_) (u0 : Int32) (u1 : Int32) (u2 : Int32) (h0 : Heap) (n0 : Nat) (Ol : Old Z n0 h0) (hk_0 : 0 ≤ u0.toInt ∧ u0.toInt < 3) (h_1 : CH8 u1) (h_2 : CH8 u2) :
    MetFree l y_1 (head1 (Jvm.Cond.code y_1 method_3_code 4 (some (.object "java/lang/String")) :: ws) (rm 4 6 12 66)) (fun a_ U_ => a_ = #[(.int u0), (.int u1), (.int u2)] ∧ Z.Warmed39 U_.vm ∧ U_.heap = h0 ∧ CHv Z EL_ U_.vm h0) (fun _ _ _ _ _ => True) (fun _ U_ o_ V_ => ∃ v_ L_, o_ = .returned v_ ∧ Q_rm1 Z cs_ un_ sn_ u0 u1 u2 h0 n0 v_ V_.heap L_ ∧ CHr Z EL_ U_.vm U_.heap V_.vm V_.heap ∧ ReturnedEndW U_ o_ V_ L_ (rm 4 6 12 66).cells (rm 4 6 12 66).slots) := by
  refine MetFree.of_bodySF (plainFor_of_name pn_2) hisR ?_
  intro p e s m args below meth c s₁ Bd hml0 hP hK
  obtain ⟨rfl, hZ, hh, Hc0⟩ := hP
  have hx := Bd.exec
  have hby := Bd.bytes
  have hml : c.maxLocals = 4 := hml0
  have hown : s.vm.findClass "com/example/penelope/penelope/internal/CoverageCannotTakeEffectPinLaw" = some m.cls := findClass_of_methodNamed Bd.named
  have hnm := (name_of_methodNamed Bd.named Bd.method).1
  have X0 : Stand p l e (rm 4 6 12 66) s m #[(.int u0), (.int u1), (.int u2)] below meth c s₁ [] 0 0 := Stand.of_body Bd
  have e0 : s₁.heap = h0 := by rw [← hh, Bd.state]; rfl
  have N0 := Fr.nil n0
  have kp0 := Keep.refl h0 []
  show Go p e below (Fin3 Z EL_ s below (Q_rm1 Z cs_ un_ sn_ u0 u1 u2 h0 n0) (rm 4 6 12 66).cells (rm 4 6 12 66).slots) _
  have S0 : s.Since s.vm 0 := (State.WarmedH.refl s).since 0
  have hk0 : 0 ≤ h0.size := Nat.zero_le _
  refine Go.step (fun t_ k_ => castTop (ef_rm1 m u0 u1 u2) k_) ?_
  obtain ⟨S_cs, N_cs, S_un, R_un, S_sn, R_sn⟩ := id HW
  show Go p e below _ (s₁.setTop (mkF m 0 #[.val (.int u0), .val (.int u1), .val (.int u2), .unset] []))
  rcases cs3 hk_0 with rfl | rfl | rfl
  next =>
    show Go p e below _ (s₁.setTop (mkF m 0 #[.val (.int (0 : Int32)), .val (.int u1), .val (.int u2), .unset] []))
    refine gs.iloadN X0.here hx (hb hby d1_0) rfl ?_
    have hc1 : (0 : Int32) = (0 : Int32) := by decide
    refine gs.ifNo X0.here hx (hb hby d1_1) ((if0 _ _).trans (teq hc1).2) ?_
    obtain ⟨T1, h1, X1, e1, E1, A1, D1, Y1, st1⟩ := newO X0 hx hZ hown (wd hw 4 rfl) (wd hw 5 rfl) (wd hw 6 rfl) e0 (g := (mkF m 4 #[.val (.int (0 : Int32)), .val (.int u1), .val (.int u2), .unset] [])) rfl (hb hby d1_4) (by decide) (by decide)
    obtain ⟨b1, g1⟩ : ∃ z, z = h0.size := ⟨_, rfl⟩
    rw [← g1] at A1 D1 Y1 st1
    have nn_b1 : n0 ≤ b1 := Nat.le_trans (old_z0 Ol) (Nat.le_of_eq g1.symm)
    have sz_b1 : h0.size ≤ b1 := Nat.le_trans kp0.1 (Nat.le_of_eq g1.symm)
    have old1 := Ol.ext E1
    have kp1 := kp0.ext E1
    have hk1 := Nat.le_trans hk0 E1.1
    have F1_value : Fld Z h1 b1 "java/lang/String" "value" "[B" .null := D1 (Or.inr (wd hw 20 rfl)) (ty := (.array .byte)) (by decide)
    have F1_coder : Fld Z h1 b1 "java/lang/String" "coder" "B" (.int (0 : Int32)) := D1 (Or.inr (wd hw 21 rfl)) (ty := .byte) (by decide)
    refine Go.fin st1 ?_
    show Go p e below _ (T1.setTop (mkF m 7 _ [(.ref b1)]))
    refine gs.dup X1.here hx (hb hby d1_7) rfl ?_
    refine gs.iconst 0 X1.here hx (hb hby d1_8) rfl ?_
    obtain ⟨T2, h2, k2, X2, e2, E2, A2, st2⟩ := newP X1 hx hZ (wd hw 7 rfl) e1 (g := (mkF m 9 #[.val (.int (0 : Int32)), .val (.int u1), .val (.int u2), .unset] [(.int (0 : Int32)), (.ref b1), (.ref b1)])) rfl (hb hby d1_9) rfl (by decide) (cap := 0) (by decide) (by decide) (by decide) (by decide)
    obtain ⟨b2, g2⟩ : ∃ z, z = h1.size := ⟨_, rfl⟩
    rw [← g2] at A2 st2
    have nn_b2 : n0 ≤ b2 := Nat.le_trans (old_z0 old1) (Nat.le_of_eq g2.symm)
    have sz_b2 : h0.size ≤ b2 := Nat.le_trans kp1.1 (Nat.le_of_eq g2.symm)
    have old2 := old1.ext E2
    have kp2 := kp1.ext E2
    have hk2 := Nat.le_trans hk1 E2.1
    have V2 : Arv Z h2 b2 k2 .char (0 : Int32) [] (.int (0 : Int32)) := (Arv.new A2 (by decide)).pad (pad_rep [] (.int (0 : Int32)) 0)
    refine Go.fin st2 ?_
    show Go p e below _ (T2.setTop (mkF m 11 _ [(.ref b2), (.ref b1), (.ref b1)]))
    have f3 := (A1.ext E2)
    have f4 := (F1_value.ext E2)
    have f5 := (F1_coder.ext E2)
    obtain ⟨_, _, ⟨T6, L6, k6, n6⟩, -, X6, S6, gr6, ⟨Lc6, hQ6, l6, y6, z6, C6⟩, st6⟩ := X2.specialBackS hx (y := y_2) rfl hown (mvT hZ (wd hw 8 rfl)) (mvT hZ (wd hw 9 rfl)) (mvT hZ (wd hw 10 rfl)) (by decide) (backOfSH (s := s) (vm0 := s.vm) (W := 1) (rm_in0 l Z a0 hw [] cs_ un_ sn_ HW b1 b2 k2 h2 n0 old2 f3 f4 f5 V2 nn_b1) hZ (wd hw 10 rfl) (wd hw 6 rfl) (by decide) (by decide) (hEL_ hw) (CHr.keep kp2 sf0 Hc0).1) (g := (mkF m 11 #[.val (.int (0 : Int32)), .val (.int u1), .val (.int u2), .unset] [(.ref b2), (.ref b1), (.ref b1)])) rfl (by rw [hml]; rfl) (Steps.refl _) (a := b1) (argsL := [(.ref b2)]) (rest := [(.ref b1)]) (lenOf pd_1 rfl) rfl (by show 2 * 0 + _ ≤ _; exact Nat.le_of_eq rfl) (hb hby d1_11) (fun _ _ => ⟨rfl, e2, (by decide : 2 + 4 ≤ _), (by decide : 4 + 8 ≤ _)⟩)
    dsimp only [Pt.U, Pt.locs, Pt.cells, Pt.slots] at X6 l6 y6 z6 st6 hQ6 S6 gr6 C6
    subst l6 y6 z6
    have chb6 := (CHr.keep kp2 sf0 Hc0).trans C6
    obtain ⟨X6, S6, hZ6, hown6⟩ := rebS (vm0 := s.vm) S0 (by rw [e2]; exact hk2) X6 S6 gr6 hZ hown
    obtain ⟨rfl, Nq6, K6, x6_0, p6_0, p6_1⟩ := hQ6
    obtain ⟨qz6, kz6, Fz6, Vz6⟩ := x6_0
    have old6 := old2.keep K6 (allS nn_b1 all0)
    have kp6 := kp2.trans K6 (allS (Or.inr sz_b1) all0)
    have N6 := Fr.app N0 Nq6
    refine Go.step (fun t_ k_ => st6.trans k_) ?_
    show Go p e below _ (T6.setTop (mkF m 14 #[.val (.int (0 : Int32)), .val (.int u1), .val (.int u2), .unset] [(.ref b1)]))
    refine GoH.retR X6 S6 (by exact (Nat.le_refl _)) hZ6 (hEL_ hw) hh rfl chb6 hx Bd.returns rfl rfl Bd.notSynchronized (hb hby d1_14) (by exact ⟨b1, rfl, sz_b1, N6, kp6, ⟨_, _, Fz6, (by rw [pk0]; exact Vz6)⟩, p6_0, p6_1⟩) (by decide) (by decide)
  next =>
    show Go p e below _ (s₁.setTop (mkF m 0 #[.val (.int (1 : Int32)), .val (.int u1), .val (.int u2), .unset] []))
    refine gs.iloadN X0.here hx (hb hby d1_0) rfl ?_
    have hc1 : ¬ ((1 : Int32) = (0 : Int32)) := by decide
    refine gs.ifYes 15 X0.here hx (hb hby d1_1) ((if0 _ _).trans (feq hc1).2) rfl ?_
    refine gs.iloadN X0.here hx (hb hby d1_15) rfl ?_
    refine gs.iconst 1 X0.here hx (hb hby d1_16) rfl ?_
    have hc17 : (1 : Int32) = (1 : Int32) := by decide
    refine gs.icmpNo X0.here hx (hb hby d1_17) (teq hc17).2 ?_
    refine gs.iloadN X0.here hx (hb hby d1_20) rfl ?_
    refine gs.stat 0 X0 hx hZ hown (am46_1 l Z a0 hw [] cs_ un_ sn_ HW (u1) h0 n0 Ol h_1.2.1) (wd hw 261 rfl) (wd hw 6 rfl) (wd hw 259 rfl) (wd hw 260 rfl) (by decide) (by decide) (by decide) (by rw [hml]; rfl) [(.int u1)] (lenOf pd_5 rfl) rfl (Nat.le_of_eq rfl) (hb hby d1_21) rfl e0 (by decide) (by decide) fun T7 Lc7 v7 X7 hQ7 => ?_
    obtain ⟨b7_0, b7_1, kx7_0, rfl, gb_b7_0, gb_b7_1, ne_b7_0_b7_1, Nq7, K7, p7_0, p7_1, p7_2, p7_3⟩ := hQ7
    have nn_b7_0 : n0 ≤ b7_0 := Nat.le_trans (old_z0 Ol) gb_b7_0
    have sz_b7_0 : h0.size ≤ b7_0 := Nat.le_trans kp0.1 gb_b7_0
    have nn_b7_1 : n0 ≤ b7_1 := Nat.le_trans (old_z0 Ol) gb_b7_1
    have sz_b7_1 : h0.size ≤ b7_1 := Nat.le_trans kp0.1 gb_b7_1
    have old7 := Ol.keep K7 all0
    have hk7 := Nat.le_trans hk0 K7.1
    have kp7 := kp0.trans K7 all0
    have N7 := Fr.app N0 Nq7
    show Go p e below _ (T7.setTop (mkF m 24 _ [(.ref b7_0)]))
    refine GoH.retR X7 S0 (by exact hk7) hZ (hEL_ hw) hh rfl (CHr.keep kp7 sf0 Hc0) hx Bd.returns rfl rfl Bd.notSynchronized (hb hby d1_24) (by exact ⟨b7_0, rfl, sz_b7_0, N7, kp7, ⟨_, _, p7_2, (by rw [pk1]; have q_ := p7_3; rw [h_1.2.2.2] at q_; exact q_)⟩, p7_0, p7_1⟩) (by decide) (by decide)
  next =>
    show Go p e below _ (s₁.setTop (mkF m 0 #[.val (.int (2 : Int32)), .val (.int u1), .val (.int u2), .unset] []))
    refine gs.iloadN X0.here hx (hb hby d1_0) rfl ?_
    have hc1 : ¬ ((2 : Int32) = (0 : Int32)) := by decide
    refine gs.ifYes 15 X0.here hx (hb hby d1_1) ((if0 _ _).trans (feq hc1).2) rfl ?_
    refine gs.iloadN X0.here hx (hb hby d1_15) rfl ?_
    refine gs.iconst 1 X0.here hx (hb hby d1_16) rfl ?_
    have hc17 : ¬ ((2 : Int32) = (1 : Int32)) := by decide
    refine gs.icmpYes 25 X0.here hx (hb hby d1_17) (feq hc17).2 rfl ?_
    refine gs.iconst 2 X0.here hx (hb hby d1_25) rfl ?_
    obtain ⟨T8, h8, k8, X8, e8, E8, A8, st8⟩ := newP X0 hx hZ (wd hw 7 rfl) e0 (g := (mkF m 26 #[.val (.int (2 : Int32)), .val (.int u1), .val (.int u2), .unset] [(.int (2 : Int32))])) rfl (hb hby d1_26) rfl (by decide) (cap := 2) (by decide) (by decide) (by decide) (by decide)
    obtain ⟨b8, g8⟩ : ∃ z, z = h0.size := ⟨_, rfl⟩
    rw [← g8] at A8 st8
    have nn_b8 : n0 ≤ b8 := Nat.le_trans (old_z0 Ol) (Nat.le_of_eq g8.symm)
    have sz_b8 : h0.size ≤ b8 := Nat.le_trans kp0.1 (Nat.le_of_eq g8.symm)
    have old8 := Ol.ext E8
    have kp8 := kp0.ext E8
    have hk8 := Nat.le_trans hk0 E8.1
    have V8 : Arv Z h8 b8 k8 .char (2 : Int32) [(.int (0 : Int32)), (.int (0 : Int32))] (.int (0 : Int32)) := (Arv.new A8 (by decide)).pad (pad_rep [] (.int (0 : Int32)) 2)
    refine Go.fin st8 ?_
    show Go p e below _ (T8.setTop (mkF m 28 _ [(.ref b8)]))
    refine gs.astoreN X8.here hx (hb hby d1_28) rfl (l' := #[.val (.int (2 : Int32)), .val (.int u1), .val (.int u2), .val (.ref b8)]) rfl ?_
    refine gs.aloadN X8.here hx (hb hby d1_29) rfl rfl ?_
    refine gs.iconst 0 X8.here hx (hb hby d1_30) rfl ?_
    refine gs.iloadN X8.here hx (hb hby d1_31) rfl ?_
    obtain ⟨cl9, Ar9, q9, Sz9, Ng9, Hs9, G9⟩ := id V8
    have hin9 : ¬ ((0 : Int32) < 0 ∨ cl9.slots.size ≤ ((0 : Int32)).toNatClampNeg) := inb_of Sz9 ⟨by decide, by decide⟩
    obtain ⟨T10, h10, X10, e10, W10, st10⟩ := stC X8 hx hZ e8 Ar9 (j := (0 : Int32)) hin9 (g := (mkF m 32 #[.val (.int (2 : Int32)), .val (.int u1), .val (.int u2), .val (.ref b8)] [(.int u1), (.int (0 : Int32)), (.ref b8)])) rfl rfl (hb hby d1_32)
    have N10 := Fr.snoc X10 N0 nn_b8
    have old10 := old8.wr W10 nn_b8
    have kp10 := kp8.wr W10 (Or.inr sz_b8)
    have hk10 := Nat.le_trans hk8 (Keep.of_wr W10).1
    have V10 : Arv Z h10 b8 k8 .char (2 : Int32) [(.int (u1.toUInt32.toUInt16.toUInt32.toInt32)), (.int (0 : Int32))] (.int (0 : Int32)) := Arv.set Ar9 q9 Sz9 Ng9 Hs9 G9 (fits_nar_char _) W10 0 rfl (Nat.le_of_ble_eq_true rfl)
    refine Go.fin st10 ?_
    show Go p e below _ (T10.setTop (mkF m 33 _ []))
    refine gs.aloadN X10.here hx (hb hby d1_33) rfl rfl ?_
    refine gs.iconst 1 X10.here hx (hb hby d1_34) rfl ?_
    refine gs.iloadN X10.here hx (hb hby d1_35) rfl ?_
    obtain ⟨cl11, Ar11, q11, Sz11, Ng11, Hs11, G11⟩ := id V10
    have hin11 : ¬ ((1 : Int32) < 0 ∨ cl11.slots.size ≤ ((1 : Int32)).toNatClampNeg) := inb_of Sz11 ⟨by decide, by decide⟩
    obtain ⟨T12, h12, X12, e12, W12, st12⟩ := stC X10 hx hZ e10 Ar11 (j := (1 : Int32)) hin11 (g := (mkF m 36 #[.val (.int (2 : Int32)), .val (.int u1), .val (.int u2), .val (.ref b8)] [(.int u2), (.int (1 : Int32)), (.ref b8)])) rfl rfl (hb hby d1_36)
    have N12 := Fr.snoc X12 N10 nn_b8
    have old12 := old10.wr W12 nn_b8
    have kp12 := kp10.wr W12 (Or.inr sz_b8)
    have hk12 := Nat.le_trans hk10 (Keep.of_wr W12).1
    have V12 : Arv Z h12 b8 k8 .char (2 : Int32) [(.int (u1.toUInt32.toUInt16.toUInt32.toInt32)), (.int (u2.toUInt32.toUInt16.toUInt32.toInt32))] (.int (0 : Int32)) := Arv.set Ar11 q11 Sz11 Ng11 Hs11 G11 (fits_nar_char _) W12 1 rfl (Nat.le_of_ble_eq_true rfl)
    refine Go.fin st12 ?_
    show Go p e below _ (T12.setTop (mkF m 37 _ []))
    obtain ⟨T13, h13, X13, e13, E13, A13, D13, Y13, st13⟩ := newO X12 hx hZ hown (wd hw 4 rfl) (wd hw 5 rfl) (wd hw 6 rfl) e12 (g := (mkF m 37 #[.val (.int (2 : Int32)), .val (.int u1), .val (.int u2), .val (.ref b8)] [])) rfl (hb hby d1_37) (by decide) (by decide)
    obtain ⟨b13, g13⟩ : ∃ z, z = h12.size := ⟨_, rfl⟩
    rw [← g13] at A13 D13 Y13 st13
    have nn_b13 : n0 ≤ b13 := Nat.le_trans (old_z0 old12) (Nat.le_of_eq g13.symm)
    have sz_b13 : h0.size ≤ b13 := Nat.le_trans kp12.1 (Nat.le_of_eq g13.symm)
    have old13 := old12.ext E13
    have kp13 := kp12.ext E13
    have hk13 := Nat.le_trans hk12 E13.1
    have F13_value : Fld Z h13 b13 "java/lang/String" "value" "[B" .null := D13 (Or.inr (wd hw 20 rfl)) (ty := (.array .byte)) (by decide)
    have F13_coder : Fld Z h13 b13 "java/lang/String" "coder" "B" (.int (0 : Int32)) := D13 (Or.inr (wd hw 21 rfl)) (ty := .byte) (by decide)
    refine Go.fin st13 ?_
    show Go p e below _ (T13.setTop (mkF m 40 _ [(.ref b13)]))
    refine gs.dup X13.here hx (hb hby d1_40) rfl ?_
    refine gs.aloadN X13.here hx (hb hby d1_41) rfl rfl ?_
    have f14 := (V12.ext E13)
    have Kc15 := f14
    simp only [h_1.1, h_2.1] at Kc15
    obtain ⟨_, _, ⟨T15, L15, k15, n15⟩, -, X15, ⟨Lc15, hQ15, l15, y15, z15⟩, st15⟩ := X13.specialBack hx (y := y_2) rfl hown (mvT hZ (wd hw 8 rfl)) (mvT hZ (wd hw 9 rfl)) (mvT hZ (wd hw 10 rfl)) (by decide) (StrChars.Road.backV (W := 1) hZ (vwords hw) (wd hw 5 rfl) nn_b13 (old_z0 old13) A13 F13_value F13_coder (cs := ([u1, u2] : List Int32)) (bs := ([u1, u2] : List Int32).map StrChars.lo8) (N := (2 : Int32)) (n := 2) Kc15 (S_cs.ext old13.2) N_cs rfl (by decide) (by decide) (by decide) (allcS ⟨h_1.2.2.1, h_1.2.1⟩ (allcS ⟨h_2.2.2.1, h_2.2.1⟩ allc0)) (map_lo8 _) (by decide) (by decide)) (g := (mkF m 42 #[.val (.int (2 : Int32)), .val (.int u1), .val (.int u2), .val (.ref b8)] [(.ref b8), (.ref b13), (.ref b13)])) rfl (by rw [hml]; rfl) (Steps.refl _) (a := b13) (argsL := [(.ref b8)]) (rest := [(.ref b13)]) (lenOf pd_1 rfl) rfl (by show 2 * 0 + _ ≤ _; exact Nat.le_of_eq rfl) (hb hby d1_42) (fun _ _ => ⟨rfl, e13, (by decide : 2 + 1 ≤ _), (by decide : 6 + 2 ≤ _)⟩)
    dsimp only [Pt.U, Pt.locs, Pt.cells, Pt.slots] at X15 l15 y15 z15 st15 hQ15
    subst l15 y15 z15
    obtain ⟨rfl, Nq15, K15, Ex15, Fc15, t15, kb15, -, gt_t15, -, Fv15, Va15⟩ := hQ15
    have nn_t15 : n0 ≤ t15 := Nat.le_trans (old_z0 old13) gt_t15
    have sz_t15 : h0.size ≤ t15 := Nat.le_trans kp13.1 gt_t15
    have old15 := old13.keep K15 (allS nn_b13 all0)
    have hk15 := Nat.le_trans hk13 K15.1
    have kp15 := kp13.trans K15 (allS (Or.inr sz_b13) all0)
    have N15 := Fr.app N12 Nq15
    refine Go.step (fun t_ k_ => st15.trans k_) ?_
    show Go p e below _ (T15.setTop (mkF m 45 #[.val (.int (2 : Int32)), .val (.int u1), .val (.int u2), .val (.ref b8)] [(.ref b13)]))
    refine GoH.retR X15 S0 (by exact hk15) hZ (hEL_ hw) hh rfl (CHr.keep kp15 sf0 Hc0) hx Bd.returns rfl rfl Bd.notSynchronized (hb hby d1_45) (by exact ⟨b13, rfl, sz_b13, N15, kp15, ⟨_, _, Fv15, (by rw [pk2]; exact Va15)⟩, Ex15, Fc15⟩) (by decide) (by decide)
theorem d5_0 : decode c_5 0 = .ok (.iload_n 0, 1) := by decide +kernel
theorem d5_1 : decode c_5 1 = .ok (.iload_n 3, 1) := by decide +kernel
theorem d5_2 : decode c_5 2 = .ok (.iadd, 1) := by decide +kernel
theorem d5_3 : decode c_5 3 = .ok (.istore 6, 2) := by decide +kernel
theorem d5_5 : decode c_5 5 = .ok (.iload 6, 2) := by decide +kernel
theorem d5_7 : decode c_5 7 = .ok (.ifCond .ne 12, 3) := by decide +kernel
theorem d5_10 : decode c_5 10 = .ok (.bipush 21, 2) := by decide +kernel
theorem d5_12 : decode c_5 12 = .ok (.newarray .char, 2) := by decide +kernel
theorem d5_14 : decode c_5 14 = .ok (.astore 7, 2) := by decide +kernel
theorem d5_16 : decode c_5 16 = .ok (.goto 54, 3) := by decide +kernel
theorem d5_70 : decode c_5 70 = .ok (.iload_n 0, 1) := by decide +kernel
theorem d5_71 : decode c_5 71 = .ok (.iconst 1, 1) := by decide +kernel
theorem d5_72 : decode c_5 72 = .ok (.if_icmp .lt 8, 3) := by decide +kernel
theorem d5_80 : decode c_5 80 = .ok (.iload_n 0, 1) := by decide +kernel
theorem d5_81 : decode c_5 81 = .ok (.iconst 2, 1) := by decide +kernel
theorem d5_82 : decode c_5 82 = .ok (.if_icmp .lt 8, 3) := by decide +kernel
theorem d5_90 : decode c_5 90 = .ok (.iload_n 0, 1) := by decide +kernel
theorem d5_91 : decode c_5 91 = .ok (.istore 8, 2) := by decide +kernel
theorem d5_93 : decode c_5 93 = .ok (.aload 7, 2) := by decide +kernel
theorem d5_95 : decode c_5 95 = .ok (.iload 8, 2) := by decide +kernel
theorem d5_97 : decode c_5 97 = .ok (.bipush 32, 2) := by decide +kernel
theorem d5_99 : decode c_5 99 = .ok (.castore, 1) := by decide +kernel
theorem d5_100 : decode c_5 100 = .ok (.aload 7, 2) := by decide +kernel
theorem d5_102 : decode c_5 102 = .ok (.iload 8, 2) := by decide +kernel
theorem d5_104 : decode c_5 104 = .ok (.iconst 1, 1) := by decide +kernel
theorem d5_105 : decode c_5 105 = .ok (.iadd, 1) := by decide +kernel
theorem d5_106 : decode c_5 106 = .ok (.bipush 99, 2) := by decide +kernel
theorem d5_108 : decode c_5 108 = .ok (.castore, 1) := by decide +kernel
theorem d5_109 : decode c_5 109 = .ok (.aload 7, 2) := by decide +kernel
theorem d5_111 : decode c_5 111 = .ok (.iload 8, 2) := by decide +kernel
theorem d5_113 : decode c_5 113 = .ok (.iconst 2, 1) := by decide +kernel
theorem d5_114 : decode c_5 114 = .ok (.iadd, 1) := by decide +kernel
theorem d5_115 : decode c_5 115 = .ok (.bipush 97, 2) := by decide +kernel
theorem d5_117 : decode c_5 117 = .ok (.castore, 1) := by decide +kernel
theorem d5_118 : decode c_5 118 = .ok (.aload 7, 2) := by decide +kernel
theorem d5_120 : decode c_5 120 = .ok (.iload 8, 2) := by decide +kernel
theorem d5_122 : decode c_5 122 = .ok (.iconst 3, 1) := by decide +kernel
theorem d5_123 : decode c_5 123 = .ok (.iadd, 1) := by decide +kernel
theorem d5_124 : decode c_5 124 = .ok (.bipush 110, 2) := by decide +kernel
theorem d5_126 : decode c_5 126 = .ok (.castore, 1) := by decide +kernel
theorem d5_127 : decode c_5 127 = .ok (.aload 7, 2) := by decide +kernel
theorem d5_129 : decode c_5 129 = .ok (.iload 8, 2) := by decide +kernel
theorem d5_131 : decode c_5 131 = .ok (.iconst 4, 1) := by decide +kernel
theorem d5_132 : decode c_5 132 = .ok (.iadd, 1) := by decide +kernel
theorem d5_133 : decode c_5 133 = .ok (.bipush 110, 2) := by decide +kernel
theorem d5_135 : decode c_5 135 = .ok (.castore, 1) := by decide +kernel
theorem d5_136 : decode c_5 136 = .ok (.aload 7, 2) := by decide +kernel
theorem d5_138 : decode c_5 138 = .ok (.iload 8, 2) := by decide +kernel
theorem d5_140 : decode c_5 140 = .ok (.iconst 5, 1) := by decide +kernel
theorem d5_141 : decode c_5 141 = .ok (.iadd, 1) := by decide +kernel
theorem d5_142 : decode c_5 142 = .ok (.bipush 111, 2) := by decide +kernel
theorem d5_144 : decode c_5 144 = .ok (.castore, 1) := by decide +kernel
theorem d5_145 : decode c_5 145 = .ok (.aload 7, 2) := by decide +kernel
theorem d5_147 : decode c_5 147 = .ok (.iload 8, 2) := by decide +kernel
theorem d5_149 : decode c_5 149 = .ok (.bipush 6, 2) := by decide +kernel
theorem d5_151 : decode c_5 151 = .ok (.iadd, 1) := by decide +kernel
theorem d5_152 : decode c_5 152 = .ok (.bipush 116, 2) := by decide +kernel
theorem d5_154 : decode c_5 154 = .ok (.castore, 1) := by decide +kernel
theorem d5_155 : decode c_5 155 = .ok (.aload 7, 2) := by decide +kernel
theorem d5_157 : decode c_5 157 = .ok (.iload 8, 2) := by decide +kernel
theorem d5_159 : decode c_5 159 = .ok (.bipush 7, 2) := by decide +kernel
theorem d5_161 : decode c_5 161 = .ok (.iadd, 1) := by decide +kernel
theorem d5_162 : decode c_5 162 = .ok (.bipush 32, 2) := by decide +kernel
theorem d5_164 : decode c_5 164 = .ok (.castore, 1) := by decide +kernel
theorem d5_165 : decode c_5 165 = .ok (.aload 7, 2) := by decide +kernel
theorem d5_167 : decode c_5 167 = .ok (.iload 8, 2) := by decide +kernel
theorem d5_169 : decode c_5 169 = .ok (.bipush 8, 2) := by decide +kernel
theorem d5_171 : decode c_5 171 = .ok (.iadd, 1) := by decide +kernel
theorem d5_172 : decode c_5 172 = .ok (.bipush 116, 2) := by decide +kernel
theorem d5_174 : decode c_5 174 = .ok (.castore, 1) := by decide +kernel
theorem d5_175 : decode c_5 175 = .ok (.aload 7, 2) := by decide +kernel
theorem d5_177 : decode c_5 177 = .ok (.iload 8, 2) := by decide +kernel
theorem d5_179 : decode c_5 179 = .ok (.bipush 9, 2) := by decide +kernel
theorem d5_181 : decode c_5 181 = .ok (.iadd, 1) := by decide +kernel
theorem d5_182 : decode c_5 182 = .ok (.bipush 97, 2) := by decide +kernel
theorem d5_184 : decode c_5 184 = .ok (.castore, 1) := by decide +kernel
theorem d5_185 : decode c_5 185 = .ok (.aload 7, 2) := by decide +kernel
theorem d5_187 : decode c_5 187 = .ok (.iload 8, 2) := by decide +kernel
theorem d5_189 : decode c_5 189 = .ok (.bipush 10, 2) := by decide +kernel
theorem d5_191 : decode c_5 191 = .ok (.iadd, 1) := by decide +kernel
theorem d5_192 : decode c_5 192 = .ok (.bipush 107, 2) := by decide +kernel
theorem d5_194 : decode c_5 194 = .ok (.castore, 1) := by decide +kernel
theorem d5_195 : decode c_5 195 = .ok (.aload 7, 2) := by decide +kernel
theorem d5_197 : decode c_5 197 = .ok (.iload 8, 2) := by decide +kernel
theorem d5_199 : decode c_5 199 = .ok (.bipush 11, 2) := by decide +kernel
theorem d5_201 : decode c_5 201 = .ok (.iadd, 1) := by decide +kernel
theorem d5_202 : decode c_5 202 = .ok (.bipush 101, 2) := by decide +kernel
theorem d5_204 : decode c_5 204 = .ok (.castore, 1) := by decide +kernel
theorem d5_205 : decode c_5 205 = .ok (.aload 7, 2) := by decide +kernel
theorem d5_207 : decode c_5 207 = .ok (.iload 8, 2) := by decide +kernel
theorem d5_209 : decode c_5 209 = .ok (.bipush 12, 2) := by decide +kernel
theorem d5_211 : decode c_5 211 = .ok (.iadd, 1) := by decide +kernel
theorem d5_212 : decode c_5 212 = .ok (.bipush 32, 2) := by decide +kernel
theorem d5_214 : decode c_5 214 = .ok (.castore, 1) := by decide +kernel
theorem d5_215 : decode c_5 215 = .ok (.aload 7, 2) := by decide +kernel
theorem d5_217 : decode c_5 217 = .ok (.iload 8, 2) := by decide +kernel
theorem d5_219 : decode c_5 219 = .ok (.bipush 13, 2) := by decide +kernel
theorem d5_221 : decode c_5 221 = .ok (.iadd, 1) := by decide +kernel
theorem d5_222 : decode c_5 222 = .ok (.bipush 101, 2) := by decide +kernel
theorem d5_224 : decode c_5 224 = .ok (.castore, 1) := by decide +kernel
theorem d5_225 : decode c_5 225 = .ok (.aload 7, 2) := by decide +kernel
theorem d5_227 : decode c_5 227 = .ok (.iload 8, 2) := by decide +kernel
theorem d5_229 : decode c_5 229 = .ok (.bipush 14, 2) := by decide +kernel
theorem d5_231 : decode c_5 231 = .ok (.iadd, 1) := by decide +kernel
theorem d5_232 : decode c_5 232 = .ok (.bipush 102, 2) := by decide +kernel
theorem d5_234 : decode c_5 234 = .ok (.castore, 1) := by decide +kernel
theorem d5_235 : decode c_5 235 = .ok (.aload 7, 2) := by decide +kernel
theorem d5_237 : decode c_5 237 = .ok (.iload 8, 2) := by decide +kernel
theorem d5_239 : decode c_5 239 = .ok (.bipush 15, 2) := by decide +kernel
theorem d5_241 : decode c_5 241 = .ok (.iadd, 1) := by decide +kernel
theorem d5_242 : decode c_5 242 = .ok (.bipush 102, 2) := by decide +kernel
theorem d5_244 : decode c_5 244 = .ok (.castore, 1) := by decide +kernel
theorem d5_245 : decode c_5 245 = .ok (.aload 7, 2) := by decide +kernel
theorem d5_247 : decode c_5 247 = .ok (.iload 8, 2) := by decide +kernel
theorem d5_249 : decode c_5 249 = .ok (.bipush 16, 2) := by decide +kernel
theorem d5_251 : decode c_5 251 = .ok (.iadd, 1) := by decide +kernel
theorem d5_252 : decode c_5 252 = .ok (.bipush 101, 2) := by decide +kernel
theorem d5_254 : decode c_5 254 = .ok (.castore, 1) := by decide +kernel
theorem d5_255 : decode c_5 255 = .ok (.aload 7, 2) := by decide +kernel
theorem d5_257 : decode c_5 257 = .ok (.iload 8, 2) := by decide +kernel
theorem d5_259 : decode c_5 259 = .ok (.bipush 17, 2) := by decide +kernel
theorem d5_261 : decode c_5 261 = .ok (.iadd, 1) := by decide +kernel
theorem d5_262 : decode c_5 262 = .ok (.bipush 99, 2) := by decide +kernel
theorem d5_264 : decode c_5 264 = .ok (.castore, 1) := by decide +kernel
theorem d5_265 : decode c_5 265 = .ok (.aload 7, 2) := by decide +kernel
theorem d5_267 : decode c_5 267 = .ok (.iload 8, 2) := by decide +kernel
theorem d5_269 : decode c_5 269 = .ok (.bipush 18, 2) := by decide +kernel
theorem d5_271 : decode c_5 271 = .ok (.iadd, 1) := by decide +kernel
theorem d5_272 : decode c_5 272 = .ok (.bipush 116, 2) := by decide +kernel
theorem d5_274 : decode c_5 274 = .ok (.castore, 1) := by decide +kernel
theorem d5_275 : decode c_5 275 = .ok (.aload 7, 2) := by decide +kernel
theorem d5_277 : decode c_5 277 = .ok (.iload 8, 2) := by decide +kernel
theorem d5_279 : decode c_5 279 = .ok (.bipush 19, 2) := by decide +kernel
theorem d5_281 : decode c_5 281 = .ok (.iadd, 1) := by decide +kernel
theorem d5_282 : decode c_5 282 = .ok (.bipush 58, 2) := by decide +kernel
theorem d5_284 : decode c_5 284 = .ok (.castore, 1) := by decide +kernel
theorem d5_285 : decode c_5 285 = .ok (.aload 7, 2) := by decide +kernel
theorem d5_287 : decode c_5 287 = .ok (.iload 8, 2) := by decide +kernel
theorem d5_289 : decode c_5 289 = .ok (.bipush 20, 2) := by decide +kernel
theorem d5_291 : decode c_5 291 = .ok (.iadd, 1) := by decide +kernel
theorem d5_292 : decode c_5 292 = .ok (.bipush 32, 2) := by decide +kernel
theorem d5_294 : decode c_5 294 = .ok (.castore, 1) := by decide +kernel
theorem d5_295 : decode c_5 295 = .ok (.iload_n 3, 1) := by decide +kernel
theorem d5_296 : decode c_5 296 = .ok (.iconst 1, 1) := by decide +kernel
theorem d5_297 : decode c_5 297 = .ok (.if_icmp .lt 12, 3) := by decide +kernel
theorem d5_309 : decode c_5 309 = .ok (.iload_n 3, 1) := by decide +kernel
theorem d5_310 : decode c_5 310 = .ok (.iconst 2, 1) := by decide +kernel
theorem d5_311 : decode c_5 311 = .ok (.if_icmp .lt 12, 3) := by decide +kernel
theorem d5_323 : decode c_5 323 = .ok (.new 30, 3) := by decide +kernel
theorem d5_326 : decode c_5 326 = .ok (.dup, 1) := by decide +kernel
theorem d5_327 : decode c_5 327 = .ok (.aload 7, 2) := by decide +kernel
theorem d5_329 : decode c_5 329 = .ok (.invokespecial 39, 3) := by decide +kernel
theorem d5_332 : decode c_5 332 = .ok (.areturn, 1) := by decide +kernel
theorem d5_19 : decode c_5 19 = .ok (.iload 6, 2) := by decide +kernel
theorem d5_21 : decode c_5 21 = .ok (.iconst 1, 1) := by decide +kernel
theorem d5_22 : decode c_5 22 = .ok (.if_icmp .ne 12, 3) := by decide +kernel
theorem d5_25 : decode c_5 25 = .ok (.bipush 22, 2) := by decide +kernel
theorem d5_27 : decode c_5 27 = .ok (.newarray .char, 2) := by decide +kernel
theorem d5_29 : decode c_5 29 = .ok (.astore 7, 2) := by decide +kernel
theorem d5_31 : decode c_5 31 = .ok (.goto 39, 3) := by decide +kernel
theorem d5_300 : decode c_5 300 = .ok (.aload 7, 2) := by decide +kernel
theorem d5_302 : decode c_5 302 = .ok (.iload_n 0, 1) := by decide +kernel
theorem d5_303 : decode c_5 303 = .ok (.bipush 21, 2) := by decide +kernel
theorem d5_305 : decode c_5 305 = .ok (.iadd, 1) := by decide +kernel
theorem d5_306 : decode c_5 306 = .ok (.iload 4, 2) := by decide +kernel
theorem d5_308 : decode c_5 308 = .ok (.castore, 1) := by decide +kernel
theorem d5_34 : decode c_5 34 = .ok (.iload 6, 2) := by decide +kernel
theorem d5_36 : decode c_5 36 = .ok (.iconst 2, 1) := by decide +kernel
theorem d5_37 : decode c_5 37 = .ok (.if_icmp .ne 12, 3) := by decide +kernel
theorem d5_40 : decode c_5 40 = .ok (.bipush 23, 2) := by decide +kernel
theorem d5_42 : decode c_5 42 = .ok (.newarray .char, 2) := by decide +kernel
theorem d5_44 : decode c_5 44 = .ok (.astore 7, 2) := by decide +kernel
theorem d5_46 : decode c_5 46 = .ok (.goto 24, 3) := by decide +kernel
theorem d5_314 : decode c_5 314 = .ok (.aload 7, 2) := by decide +kernel
theorem d5_316 : decode c_5 316 = .ok (.iload_n 0, 1) := by decide +kernel
theorem d5_317 : decode c_5 317 = .ok (.bipush 22, 2) := by decide +kernel
theorem d5_319 : decode c_5 319 = .ok (.iadd, 1) := by decide +kernel
theorem d5_320 : decode c_5 320 = .ok (.iload 5, 2) := by decide +kernel
theorem d5_322 : decode c_5 322 = .ok (.castore, 1) := by decide +kernel
theorem d5_75 : decode c_5 75 = .ok (.aload 7, 2) := by decide +kernel
theorem d5_77 : decode c_5 77 = .ok (.iconst 0, 1) := by decide +kernel
theorem d5_78 : decode c_5 78 = .ok (.iload_n 1, 1) := by decide +kernel
theorem d5_79 : decode c_5 79 = .ok (.castore, 1) := by decide +kernel
theorem d5_49 : decode c_5 49 = .ok (.iload 6, 2) := by decide +kernel
theorem d5_51 : decode c_5 51 = .ok (.iconst 3, 1) := by decide +kernel
theorem d5_52 : decode c_5 52 = .ok (.if_icmp .ne 12, 3) := by decide +kernel
theorem d5_55 : decode c_5 55 = .ok (.bipush 24, 2) := by decide +kernel
theorem d5_57 : decode c_5 57 = .ok (.newarray .char, 2) := by decide +kernel
theorem d5_59 : decode c_5 59 = .ok (.astore 7, 2) := by decide +kernel
theorem d5_61 : decode c_5 61 = .ok (.goto 9, 3) := by decide +kernel
theorem d5_85 : decode c_5 85 = .ok (.aload 7, 2) := by decide +kernel
theorem d5_87 : decode c_5 87 = .ok (.iconst 1, 1) := by decide +kernel
theorem d5_88 : decode c_5 88 = .ok (.iload_n 2, 1) := by decide +kernel
theorem d5_89 : decode c_5 89 = .ok (.castore, 1) := by decide +kernel
theorem d5_64 : decode c_5 64 = .ok (.bipush 25, 2) := by decide +kernel
theorem d5_66 : decode c_5 66 = .ok (.newarray .char, 2) := by decide +kernel
theorem d5_68 : decode c_5 68 = .ok (.astore 7, 2) := by decide +kernel
theorem ef_rm5 (m : MethodId) (x0 : Int32) (x1 : Int32) (x2 : Int32) (x3 : Int32) (x4 : Int32) (x5 : Int32)  : entryFrame m #[(.int x0), (.int x1), (.int x2), (.int x3), (.int x4), (.int x5)] 9 = mkF m 0 #[.val (.int x0), .val (.int x1), .val (.int x2), .val (.int x3), .val (.int x4), .val (.int x5), .unset, .unset, .unset] [] := by first | (simp [entryFrame, mkF, argsToLocals, Value.category]; done) | rfl
def Q_rm5 (Z : State) (cs_ : Int32) (un_ : Value) (sn_ : Value) (u0 : Int32) (u1 : Int32) (u2 : Int32) (u3 : Int32) (u4 : Int32) (u5 : Int32) (h0 : Heap) (n0 : Nat) (v : Option Value) (h : Heap) (L : List Loc) : Prop := ∃ b : Addr, v = some (.ref b) ∧ h0.size ≤ b ∧ Fr n0 L ∧ Keep h0 h [] ∧ (∃ (q1 : Addr) (k1 : ClassId), Fld Z h b "java/lang/String" "value" "[B" (.ref q1) ∧ Arv Z h q1 k1 .byte ((21 : Int32) + (u0 + u3)) (((csAll u0 u1 u2 u3 u4 u5).map StrChars.lo8).map Value.int) (.int (0 : Int32))) ∧ (Exa Z h b "java/lang/String") ∧ (Fld Z h b "java/lang/String" "coder" "B" (.int (0 : Int32)))
set_option maxRecDepth 65536 in
set_option maxHeartbeats 40000000 in
theorem rm5_00 (l : Launch) (Z : State) (a0 : Array Value) (hw : ∀ d ∈ tables_1, d.before a0 Z = true) (ws : List Jvm.Cond) (cs_ : Int32) (un_ : Value) (sn_ : Value) (HW : Wd Z cs_ un_ sn_) (u1 : Int32) (u2 : Int32) (u4 : Int32) (u5 : Int32) (h0 : Heap) (n0 : Nat) (Ol : Old Z n0 h0) (h_1 : CH8 u1) (h_2 : CH8 u2) (h_4 : CH8 u4) (h_5 : CH8 u5) :
    MetFree l y_5 (head1 (Jvm.Cond.code y_5 method_4_code 9 (some (.object "java/lang/String")) :: ws) (rm 4 3 54 66)) (fun a_ U_ => a_ = #[(.int (0 : Int32)), (.int u1), (.int u2), (.int (0 : Int32)), (.int u4), (.int u5)] ∧ Z.Warmed39 U_.vm ∧ U_.heap = h0) (fun _ _ _ _ _ => True) (fun _ U_ o_ V_ => ∃ v_ L_, o_ = .returned v_ ∧ Q_rm5 Z cs_ un_ sn_ (0 : Int32) u1 u2 (0 : Int32) u4 u5 h0 n0 v_ V_.heap L_ ∧ FrameEnd U_ o_ V_ L_ (rm 4 3 54 66).cells (rm 4 3 54 66).slots) := by
  refine MetFree.of_bodySF (plainFor_of_name pn_2) hisR ?_
  intro p e s m args below meth c s₁ Bd hml0 hP hK
  obtain ⟨rfl, hZ, hh⟩ := hP
  have hx := Bd.exec
  have hby := Bd.bytes
  have hml : c.maxLocals = 9 := hml0
  have hown : s.vm.findClass "com/example/penelope/penelope/internal/CoverageCannotTakeEffectPinLaw" = some m.cls := findClass_of_methodNamed Bd.named
  have hnm := (name_of_methodNamed Bd.named Bd.method).1
  have X0 : Stand p l e (rm 4 3 54 66) s m #[(.int (0 : Int32)), (.int u1), (.int u2), (.int (0 : Int32)), (.int u4), (.int u5)] below meth c s₁ [] 0 0 := Stand.of_body Bd
  have e0 : s₁.heap = h0 := by rw [← hh, Bd.state]; rfl
  have N0 := Fr.nil n0
  have kp0 := Keep.refl h0 []
  show Go p e below (Fin1 s below (Q_rm5 Z cs_ un_ sn_ (0 : Int32) u1 u2 (0 : Int32) u4 u5 h0 n0) (rm 4 3 54 66).cells (rm 4 3 54 66).slots) _
  refine Go.step (fun t_ k_ => castTop (ef_rm5 m (0 : Int32) u1 u2 (0 : Int32) u4 u5) k_) ?_
  obtain ⟨S_cs, N_cs, S_un, R_un, S_sn, R_sn⟩ := id HW
  show Go p e below _ (s₁.setTop (mkF m 0 #[.val (.int (0 : Int32)), .val (.int u1), .val (.int u2), .val (.int (0 : Int32)), .val (.int u4), .val (.int u5), .unset, .unset, .unset] []))
  show Go p e below _ (s₁.setTop (mkF m 0 #[.val (.int (0 : Int32)), .val (.int u1), .val (.int u2), .val (.int (0 : Int32)), .val (.int u4), .val (.int u5), .unset, .unset, .unset] []))
  refine gs.iloadN X0.here hx (hb hby d5_0) rfl ?_
  refine gs.iloadN X0.here hx (hb hby d5_1) rfl ?_
  refine gs.iadd X0.here hx (hb hby d5_2) ?_
  rw [show ((0 : Int32) + (0 : Int32)) = (0 : Int32) from by decide]
  refine gs.istore X0.here hx (hb hby d5_3) (l' := #[.val (.int (0 : Int32)), .val (.int u1), .val (.int u2), .val (.int (0 : Int32)), .val (.int u4), .val (.int u5), .val (.int (0 : Int32)), .unset, .unset]) rfl ?_
  refine gs.iload X0.here hx (hb hby d5_5) rfl ?_
  have hc7 : (0 : Int32) = (0 : Int32) := by decide
  refine gs.ifNo X0.here hx (hb hby d5_7) ((if0 _ _).trans (teq hc7).2) ?_
  refine gs.bipush 21 X0.here hx (hb hby d5_10) rfl ?_
  obtain ⟨T1, h1, k1, X1, e1, E1, A1, st1⟩ := newP X0 hx hZ (wd hw 7 rfl) e0 (g := (mkF m 12 #[.val (.int (0 : Int32)), .val (.int u1), .val (.int u2), .val (.int (0 : Int32)), .val (.int u4), .val (.int u5), .val (.int (0 : Int32)), .unset, .unset] [(.int (21 : Int32))])) rfl (hb hby d5_12) rfl (by decide) (cap := 21) (by decide) (by decide) (by decide) (by decide)
  obtain ⟨b1, g1⟩ : ∃ z, z = h0.size := ⟨_, rfl⟩
  rw [← g1] at A1 st1
  have nn_b1 : n0 ≤ b1 := Nat.le_trans (old_z0 Ol) (Nat.le_of_eq g1.symm)
  have sz_b1 : h0.size ≤ b1 := Nat.le_trans kp0.1 (Nat.le_of_eq g1.symm)
  have old1 := Ol.ext E1
  have kp1 := kp0.ext E1
  have V1 : Arv Z h1 b1 k1 .char (21 : Int32) [(.int (0 : Int32)), (.int (0 : Int32)), (.int (0 : Int32)), (.int (0 : Int32)), (.int (0 : Int32)), (.int (0 : Int32)), (.int (0 : Int32)), (.int (0 : Int32)), (.int (0 : Int32)), (.int (0 : Int32)), (.int (0 : Int32)), (.int (0 : Int32)), (.int (0 : Int32)), (.int (0 : Int32)), (.int (0 : Int32)), (.int (0 : Int32)), (.int (0 : Int32)), (.int (0 : Int32)), (.int (0 : Int32)), (.int (0 : Int32)), (.int (0 : Int32))] (.int (0 : Int32)) := (Arv.new A1 (by decide)).pad (pad_rep [] (.int (0 : Int32)) 21)
  refine Go.fin st1 ?_
  show Go p e below _ (T1.setTop (mkF m 14 _ [(.ref b1)]))
  refine gs.astore X1.here hx (hb hby d5_14) rfl (l' := #[.val (.int (0 : Int32)), .val (.int u1), .val (.int u2), .val (.int (0 : Int32)), .val (.int u4), .val (.int u5), .val (.int (0 : Int32)), .val (.ref b1), .unset]) rfl ?_
  refine gs.goto 70 X1.here hx (hb hby d5_16) rfl ?_
  refine gs.iloadN X1.here hx (hb hby d5_70) rfl ?_
  refine gs.iconst 1 X1.here hx (hb hby d5_71) rfl ?_
  have hc72 : (0 : Int32) < (1 : Int32) := by decide
  refine gs.icmpYes 80 X1.here hx (hb hby d5_72) (tlt hc72).1 rfl ?_
  refine gs.iloadN X1.here hx (hb hby d5_80) rfl ?_
  refine gs.iconst 2 X1.here hx (hb hby d5_81) rfl ?_
  have hc82 : (0 : Int32) < (2 : Int32) := by decide
  refine gs.icmpYes 90 X1.here hx (hb hby d5_82) (tlt hc82).1 rfl ?_
  refine gs.iloadN X1.here hx (hb hby d5_90) rfl ?_
  refine gs.istore X1.here hx (hb hby d5_91) (l' := #[.val (.int (0 : Int32)), .val (.int u1), .val (.int u2), .val (.int (0 : Int32)), .val (.int u4), .val (.int u5), .val (.int (0 : Int32)), .val (.ref b1), .val (.int (0 : Int32))]) rfl ?_
  refine gs.aload X1.here hx (hb hby d5_93) rfl rfl ?_
  refine gs.iload X1.here hx (hb hby d5_95) rfl ?_
  refine gs.bipush 32 X1.here hx (hb hby d5_97) rfl ?_
  refine gs.cst X1 hx hZ e1 V1 0 (by decide) (rfl : ([(.int (0 : Int32)), (.int (0 : Int32)), (.int (0 : Int32)), (.int (0 : Int32)), (.int (0 : Int32)), (.int (0 : Int32)), (.int (0 : Int32)), (.int (0 : Int32)), (.int (0 : Int32)), (.int (0 : Int32)), (.int (0 : Int32)), (.int (0 : Int32)), (.int (0 : Int32)), (.int (0 : Int32)), (.int (0 : Int32)), (.int (0 : Int32)), (.int (0 : Int32)), (.int (0 : Int32)), (.int (0 : Int32)), (.int (0 : Int32)), (.int (0 : Int32))] : List Value).length = 21) rfl N0 nn_b1 old1 kp1 (Or.inr sz_b1) (hb hby d5_99) fun T2 h2 X2 e2 W2 N2 old2 kp2 V2 ll2 => ?_
  show Go p e below _ (T2.setTop (mkF m 100 _ []))
  refine gs.aload X2.here hx (hb hby d5_100) rfl rfl ?_
  refine gs.iload X2.here hx (hb hby d5_102) rfl ?_
  refine gs.iconst 1 X2.here hx (hb hby d5_104) rfl ?_
  refine gs.iadd X2.here hx (hb hby d5_105) ?_
  rw [show ((0 : Int32) + (1 : Int32)) = (1 : Int32) from by decide]
  refine gs.bipush 99 X2.here hx (hb hby d5_106) rfl ?_
  refine gs.cst X2 hx hZ e2 V2 1 (by decide) ll2 rfl N2 nn_b1 old2 kp2 (Or.inr sz_b1) (hb hby d5_108) fun T3 h3 X3 e3 W3 N3 old3 kp3 V3 ll3 => ?_
  show Go p e below _ (T3.setTop (mkF m 109 _ []))
  refine gs.aload X3.here hx (hb hby d5_109) rfl rfl ?_
  refine gs.iload X3.here hx (hb hby d5_111) rfl ?_
  refine gs.iconst 2 X3.here hx (hb hby d5_113) rfl ?_
  refine gs.iadd X3.here hx (hb hby d5_114) ?_
  rw [show ((0 : Int32) + (2 : Int32)) = (2 : Int32) from by decide]
  refine gs.bipush 97 X3.here hx (hb hby d5_115) rfl ?_
  refine gs.cst X3 hx hZ e3 V3 2 (by decide) ll3 rfl N3 nn_b1 old3 kp3 (Or.inr sz_b1) (hb hby d5_117) fun T4 h4 X4 e4 W4 N4 old4 kp4 V4 ll4 => ?_
  show Go p e below _ (T4.setTop (mkF m 118 _ []))
  refine gs.aload X4.here hx (hb hby d5_118) rfl rfl ?_
  refine gs.iload X4.here hx (hb hby d5_120) rfl ?_
  refine gs.iconst 3 X4.here hx (hb hby d5_122) rfl ?_
  refine gs.iadd X4.here hx (hb hby d5_123) ?_
  rw [show ((0 : Int32) + (3 : Int32)) = (3 : Int32) from by decide]
  refine gs.bipush 110 X4.here hx (hb hby d5_124) rfl ?_
  refine gs.cst X4 hx hZ e4 V4 3 (by decide) ll4 rfl N4 nn_b1 old4 kp4 (Or.inr sz_b1) (hb hby d5_126) fun T5 h5 X5 e5 W5 N5 old5 kp5 V5 ll5 => ?_
  show Go p e below _ (T5.setTop (mkF m 127 _ []))
  refine gs.aload X5.here hx (hb hby d5_127) rfl rfl ?_
  refine gs.iload X5.here hx (hb hby d5_129) rfl ?_
  refine gs.iconst 4 X5.here hx (hb hby d5_131) rfl ?_
  refine gs.iadd X5.here hx (hb hby d5_132) ?_
  rw [show ((0 : Int32) + (4 : Int32)) = (4 : Int32) from by decide]
  refine gs.bipush 110 X5.here hx (hb hby d5_133) rfl ?_
  refine gs.cst X5 hx hZ e5 V5 4 (by decide) ll5 rfl N5 nn_b1 old5 kp5 (Or.inr sz_b1) (hb hby d5_135) fun T6 h6 X6 e6 W6 N6 old6 kp6 V6 ll6 => ?_
  show Go p e below _ (T6.setTop (mkF m 136 _ []))
  refine gs.aload X6.here hx (hb hby d5_136) rfl rfl ?_
  refine gs.iload X6.here hx (hb hby d5_138) rfl ?_
  refine gs.iconst 5 X6.here hx (hb hby d5_140) rfl ?_
  refine gs.iadd X6.here hx (hb hby d5_141) ?_
  rw [show ((0 : Int32) + (5 : Int32)) = (5 : Int32) from by decide]
  refine gs.bipush 111 X6.here hx (hb hby d5_142) rfl ?_
  refine gs.cst X6 hx hZ e6 V6 5 (by decide) ll6 rfl N6 nn_b1 old6 kp6 (Or.inr sz_b1) (hb hby d5_144) fun T7 h7 X7 e7 W7 N7 old7 kp7 V7 ll7 => ?_
  show Go p e below _ (T7.setTop (mkF m 145 _ []))
  refine gs.aload X7.here hx (hb hby d5_145) rfl rfl ?_
  refine gs.iload X7.here hx (hb hby d5_147) rfl ?_
  refine gs.bipush 6 X7.here hx (hb hby d5_149) rfl ?_
  refine gs.iadd X7.here hx (hb hby d5_151) ?_
  rw [show ((0 : Int32) + (6 : Int32)) = (6 : Int32) from by decide]
  refine gs.bipush 116 X7.here hx (hb hby d5_152) rfl ?_
  refine gs.cst X7 hx hZ e7 V7 6 (by decide) ll7 rfl N7 nn_b1 old7 kp7 (Or.inr sz_b1) (hb hby d5_154) fun T8 h8 X8 e8 W8 N8 old8 kp8 V8 ll8 => ?_
  show Go p e below _ (T8.setTop (mkF m 155 _ []))
  refine gs.aload X8.here hx (hb hby d5_155) rfl rfl ?_
  refine gs.iload X8.here hx (hb hby d5_157) rfl ?_
  refine gs.bipush 7 X8.here hx (hb hby d5_159) rfl ?_
  refine gs.iadd X8.here hx (hb hby d5_161) ?_
  rw [show ((0 : Int32) + (7 : Int32)) = (7 : Int32) from by decide]
  refine gs.bipush 32 X8.here hx (hb hby d5_162) rfl ?_
  refine gs.cst X8 hx hZ e8 V8 7 (by decide) ll8 rfl N8 nn_b1 old8 kp8 (Or.inr sz_b1) (hb hby d5_164) fun T9 h9 X9 e9 W9 N9 old9 kp9 V9 ll9 => ?_
  show Go p e below _ (T9.setTop (mkF m 165 _ []))
  refine gs.aload X9.here hx (hb hby d5_165) rfl rfl ?_
  refine gs.iload X9.here hx (hb hby d5_167) rfl ?_
  refine gs.bipush 8 X9.here hx (hb hby d5_169) rfl ?_
  refine gs.iadd X9.here hx (hb hby d5_171) ?_
  rw [show ((0 : Int32) + (8 : Int32)) = (8 : Int32) from by decide]
  refine gs.bipush 116 X9.here hx (hb hby d5_172) rfl ?_
  refine gs.cst X9 hx hZ e9 V9 8 (by decide) ll9 rfl N9 nn_b1 old9 kp9 (Or.inr sz_b1) (hb hby d5_174) fun T10 h10 X10 e10 W10 N10 old10 kp10 V10 ll10 => ?_
  show Go p e below _ (T10.setTop (mkF m 175 _ []))
  refine gs.aload X10.here hx (hb hby d5_175) rfl rfl ?_
  refine gs.iload X10.here hx (hb hby d5_177) rfl ?_
  refine gs.bipush 9 X10.here hx (hb hby d5_179) rfl ?_
  refine gs.iadd X10.here hx (hb hby d5_181) ?_
  rw [show ((0 : Int32) + (9 : Int32)) = (9 : Int32) from by decide]
  refine gs.bipush 97 X10.here hx (hb hby d5_182) rfl ?_
  refine gs.cst X10 hx hZ e10 V10 9 (by decide) ll10 rfl N10 nn_b1 old10 kp10 (Or.inr sz_b1) (hb hby d5_184) fun T11 h11 X11 e11 W11 N11 old11 kp11 V11 ll11 => ?_
  show Go p e below _ (T11.setTop (mkF m 185 _ []))
  refine gs.aload X11.here hx (hb hby d5_185) rfl rfl ?_
  refine gs.iload X11.here hx (hb hby d5_187) rfl ?_
  refine gs.bipush 10 X11.here hx (hb hby d5_189) rfl ?_
  refine gs.iadd X11.here hx (hb hby d5_191) ?_
  rw [show ((0 : Int32) + (10 : Int32)) = (10 : Int32) from by decide]
  refine gs.bipush 107 X11.here hx (hb hby d5_192) rfl ?_
  refine gs.cst X11 hx hZ e11 V11 10 (by decide) ll11 rfl N11 nn_b1 old11 kp11 (Or.inr sz_b1) (hb hby d5_194) fun T12 h12 X12 e12 W12 N12 old12 kp12 V12 ll12 => ?_
  show Go p e below _ (T12.setTop (mkF m 195 _ []))
  refine gs.aload X12.here hx (hb hby d5_195) rfl rfl ?_
  refine gs.iload X12.here hx (hb hby d5_197) rfl ?_
  refine gs.bipush 11 X12.here hx (hb hby d5_199) rfl ?_
  refine gs.iadd X12.here hx (hb hby d5_201) ?_
  rw [show ((0 : Int32) + (11 : Int32)) = (11 : Int32) from by decide]
  refine gs.bipush 101 X12.here hx (hb hby d5_202) rfl ?_
  refine gs.cst X12 hx hZ e12 V12 11 (by decide) ll12 rfl N12 nn_b1 old12 kp12 (Or.inr sz_b1) (hb hby d5_204) fun T13 h13 X13 e13 W13 N13 old13 kp13 V13 ll13 => ?_
  show Go p e below _ (T13.setTop (mkF m 205 _ []))
  refine gs.aload X13.here hx (hb hby d5_205) rfl rfl ?_
  refine gs.iload X13.here hx (hb hby d5_207) rfl ?_
  refine gs.bipush 12 X13.here hx (hb hby d5_209) rfl ?_
  refine gs.iadd X13.here hx (hb hby d5_211) ?_
  rw [show ((0 : Int32) + (12 : Int32)) = (12 : Int32) from by decide]
  refine gs.bipush 32 X13.here hx (hb hby d5_212) rfl ?_
  refine gs.cst X13 hx hZ e13 V13 12 (by decide) ll13 rfl N13 nn_b1 old13 kp13 (Or.inr sz_b1) (hb hby d5_214) fun T14 h14 X14 e14 W14 N14 old14 kp14 V14 ll14 => ?_
  show Go p e below _ (T14.setTop (mkF m 215 _ []))
  refine gs.aload X14.here hx (hb hby d5_215) rfl rfl ?_
  refine gs.iload X14.here hx (hb hby d5_217) rfl ?_
  refine gs.bipush 13 X14.here hx (hb hby d5_219) rfl ?_
  refine gs.iadd X14.here hx (hb hby d5_221) ?_
  rw [show ((0 : Int32) + (13 : Int32)) = (13 : Int32) from by decide]
  refine gs.bipush 101 X14.here hx (hb hby d5_222) rfl ?_
  refine gs.cst X14 hx hZ e14 V14 13 (by decide) ll14 rfl N14 nn_b1 old14 kp14 (Or.inr sz_b1) (hb hby d5_224) fun T15 h15 X15 e15 W15 N15 old15 kp15 V15 ll15 => ?_
  show Go p e below _ (T15.setTop (mkF m 225 _ []))
  refine gs.aload X15.here hx (hb hby d5_225) rfl rfl ?_
  refine gs.iload X15.here hx (hb hby d5_227) rfl ?_
  refine gs.bipush 14 X15.here hx (hb hby d5_229) rfl ?_
  refine gs.iadd X15.here hx (hb hby d5_231) ?_
  rw [show ((0 : Int32) + (14 : Int32)) = (14 : Int32) from by decide]
  refine gs.bipush 102 X15.here hx (hb hby d5_232) rfl ?_
  refine gs.cst X15 hx hZ e15 V15 14 (by decide) ll15 rfl N15 nn_b1 old15 kp15 (Or.inr sz_b1) (hb hby d5_234) fun T16 h16 X16 e16 W16 N16 old16 kp16 V16 ll16 => ?_
  show Go p e below _ (T16.setTop (mkF m 235 _ []))
  refine gs.aload X16.here hx (hb hby d5_235) rfl rfl ?_
  refine gs.iload X16.here hx (hb hby d5_237) rfl ?_
  refine gs.bipush 15 X16.here hx (hb hby d5_239) rfl ?_
  refine gs.iadd X16.here hx (hb hby d5_241) ?_
  rw [show ((0 : Int32) + (15 : Int32)) = (15 : Int32) from by decide]
  refine gs.bipush 102 X16.here hx (hb hby d5_242) rfl ?_
  refine gs.cst X16 hx hZ e16 V16 15 (by decide) ll16 rfl N16 nn_b1 old16 kp16 (Or.inr sz_b1) (hb hby d5_244) fun T17 h17 X17 e17 W17 N17 old17 kp17 V17 ll17 => ?_
  show Go p e below _ (T17.setTop (mkF m 245 _ []))
  refine gs.aload X17.here hx (hb hby d5_245) rfl rfl ?_
  refine gs.iload X17.here hx (hb hby d5_247) rfl ?_
  refine gs.bipush 16 X17.here hx (hb hby d5_249) rfl ?_
  refine gs.iadd X17.here hx (hb hby d5_251) ?_
  rw [show ((0 : Int32) + (16 : Int32)) = (16 : Int32) from by decide]
  refine gs.bipush 101 X17.here hx (hb hby d5_252) rfl ?_
  refine gs.cst X17 hx hZ e17 V17 16 (by decide) ll17 rfl N17 nn_b1 old17 kp17 (Or.inr sz_b1) (hb hby d5_254) fun T18 h18 X18 e18 W18 N18 old18 kp18 V18 ll18 => ?_
  show Go p e below _ (T18.setTop (mkF m 255 _ []))
  refine gs.aload X18.here hx (hb hby d5_255) rfl rfl ?_
  refine gs.iload X18.here hx (hb hby d5_257) rfl ?_
  refine gs.bipush 17 X18.here hx (hb hby d5_259) rfl ?_
  refine gs.iadd X18.here hx (hb hby d5_261) ?_
  rw [show ((0 : Int32) + (17 : Int32)) = (17 : Int32) from by decide]
  refine gs.bipush 99 X18.here hx (hb hby d5_262) rfl ?_
  refine gs.cst X18 hx hZ e18 V18 17 (by decide) ll18 rfl N18 nn_b1 old18 kp18 (Or.inr sz_b1) (hb hby d5_264) fun T19 h19 X19 e19 W19 N19 old19 kp19 V19 ll19 => ?_
  show Go p e below _ (T19.setTop (mkF m 265 _ []))
  refine gs.aload X19.here hx (hb hby d5_265) rfl rfl ?_
  refine gs.iload X19.here hx (hb hby d5_267) rfl ?_
  refine gs.bipush 18 X19.here hx (hb hby d5_269) rfl ?_
  refine gs.iadd X19.here hx (hb hby d5_271) ?_
  rw [show ((0 : Int32) + (18 : Int32)) = (18 : Int32) from by decide]
  refine gs.bipush 116 X19.here hx (hb hby d5_272) rfl ?_
  refine gs.cst X19 hx hZ e19 V19 18 (by decide) ll19 rfl N19 nn_b1 old19 kp19 (Or.inr sz_b1) (hb hby d5_274) fun T20 h20 X20 e20 W20 N20 old20 kp20 V20 ll20 => ?_
  show Go p e below _ (T20.setTop (mkF m 275 _ []))
  refine gs.aload X20.here hx (hb hby d5_275) rfl rfl ?_
  refine gs.iload X20.here hx (hb hby d5_277) rfl ?_
  refine gs.bipush 19 X20.here hx (hb hby d5_279) rfl ?_
  refine gs.iadd X20.here hx (hb hby d5_281) ?_
  rw [show ((0 : Int32) + (19 : Int32)) = (19 : Int32) from by decide]
  refine gs.bipush 58 X20.here hx (hb hby d5_282) rfl ?_
  refine gs.cst X20 hx hZ e20 V20 19 (by decide) ll20 rfl N20 nn_b1 old20 kp20 (Or.inr sz_b1) (hb hby d5_284) fun T21 h21 X21 e21 W21 N21 old21 kp21 V21 ll21 => ?_
  show Go p e below _ (T21.setTop (mkF m 285 _ []))
  refine gs.aload X21.here hx (hb hby d5_285) rfl rfl ?_
  refine gs.iload X21.here hx (hb hby d5_287) rfl ?_
  refine gs.bipush 20 X21.here hx (hb hby d5_289) rfl ?_
  refine gs.iadd X21.here hx (hb hby d5_291) ?_
  rw [show ((0 : Int32) + (20 : Int32)) = (20 : Int32) from by decide]
  refine gs.bipush 32 X21.here hx (hb hby d5_292) rfl ?_
  refine gs.cst X21 hx hZ e21 V21 20 (by decide) ll21 rfl N21 nn_b1 old21 kp21 (Or.inr sz_b1) (hb hby d5_294) fun T22 h22 X22 e22 W22 N22 old22 kp22 V22 ll22 => ?_
  show Go p e below _ (T22.setTop (mkF m 295 _ []))
  refine gs.iloadN X22.here hx (hb hby d5_295) rfl ?_
  refine gs.iconst 1 X22.here hx (hb hby d5_296) rfl ?_
  have hc297 : (0 : Int32) < (1 : Int32) := by decide
  refine gs.icmpYes 309 X22.here hx (hb hby d5_297) (tlt hc297).1 rfl ?_
  refine gs.iloadN X22.here hx (hb hby d5_309) rfl ?_
  refine gs.iconst 2 X22.here hx (hb hby d5_310) rfl ?_
  have hc311 : (0 : Int32) < (2 : Int32) := by decide
  refine gs.icmpYes 323 X22.here hx (hb hby d5_311) (tlt hc311).1 rfl ?_
  obtain ⟨T23, h23, X23, e23, E23, A23, D23, Y23, st23⟩ := newO X22 hx hZ hown (wd hw 4 rfl) (wd hw 5 rfl) (wd hw 6 rfl) e22 (g := (mkF m 323 #[.val (.int (0 : Int32)), .val (.int u1), .val (.int u2), .val (.int (0 : Int32)), .val (.int u4), .val (.int u5), .val (.int (0 : Int32)), .val (.ref b1), .val (.int (0 : Int32))] [])) rfl (hb hby d5_323) (by decide) (by decide)
  obtain ⟨b23, g23⟩ : ∃ z, z = h22.size := ⟨_, rfl⟩
  rw [← g23] at A23 D23 Y23 st23
  have nn_b23 : n0 ≤ b23 := Nat.le_trans (old_z0 old22) (Nat.le_of_eq g23.symm)
  have sz_b23 : h0.size ≤ b23 := Nat.le_trans kp22.1 (Nat.le_of_eq g23.symm)
  have old23 := old22.ext E23
  have kp23 := kp22.ext E23
  have F23_value : Fld Z h23 b23 "java/lang/String" "value" "[B" .null := D23 (Or.inr (wd hw 20 rfl)) (ty := (.array .byte)) (by decide)
  have F23_coder : Fld Z h23 b23 "java/lang/String" "coder" "B" (.int (0 : Int32)) := D23 (Or.inr (wd hw 21 rfl)) (ty := .byte) (by decide)
  refine Go.fin st23 ?_
  show Go p e below _ (T23.setTop (mkF m 326 _ [(.ref b23)]))
  refine gs.dup X23.here hx (hb hby d5_326) rfl ?_
  refine gs.aload X23.here hx (hb hby d5_327) rfl rfl ?_
  have f24 := (V22.ext E23)
  have Kd25 : Arv Z h23 b1 k1 .char (21 : Int32) [(.int (32 : Int32)), (.int (99 : Int32)), (.int (97 : Int32)), (.int (110 : Int32)), (.int (110 : Int32)), (.int (111 : Int32)), (.int (116 : Int32)), (.int (32 : Int32)), (.int (116 : Int32)), (.int (97 : Int32)), (.int (107 : Int32)), (.int (101 : Int32)), (.int (32 : Int32)), (.int (101 : Int32)), (.int (102 : Int32)), (.int (102 : Int32)), (.int (101 : Int32)), (.int (99 : Int32)), (.int (116 : Int32)), (.int (58 : Int32)), (.int (32 : Int32))] (.int (0 : Int32)) := by have q := f24; simp only [List.set] at q; exact q
  obtain ⟨lc25, XX25, NN25⟩ := hide_locs X23 N22
  obtain ⟨cl25, hcl25⟩ : ∃ z : List Int32, z = ([(32 : Int32), (99 : Int32), (97 : Int32), (110 : Int32), (110 : Int32), (111 : Int32), (116 : Int32), (32 : Int32), (116 : Int32), (97 : Int32), (107 : Int32), (101 : Int32), (32 : Int32), (101 : Int32), (102 : Int32), (102 : Int32), (101 : Int32), (99 : Int32), (116 : Int32), (58 : Int32), (32 : Int32)] : List Int32) := ⟨_, rfl⟩
  have Kcl25 : Arv Z h23 b1 k1 .char (21 : Int32) (cl25.map Value.int) (.int (0 : Int32)) := by rw [hcl25]; exact Kd25
  have ncl25 : cl25.length = 21 := by rw [hcl25]; rfl
  have pcl25 : ∀ c ∈ cl25, ¬ c < 0 ∧ ¬ (255 : Int32) < c := by rw [hcl25]; exact (allcS (litc (by decide)) (allcS (litc (by decide)) (allcS (litc (by decide)) (allcS (litc (by decide)) (allcS (litc (by decide)) (allcS (litc (by decide)) (allcS (litc (by decide)) (allcS (litc (by decide)) (allcS (litc (by decide)) (allcS (litc (by decide)) (allcS (litc (by decide)) (allcS (litc (by decide)) (allcS (litc (by decide)) (allcS (litc (by decide)) (allcS (litc (by decide)) (allcS (litc (by decide)) (allcS (litc (by decide)) (allcS (litc (by decide)) (allcS (litc (by decide)) (allcS (litc (by decide)) (allcS (litc (by decide)) allc0)))))))))))))))))))))
  obtain ⟨_, _, ⟨T25, L25, k25, n25⟩, -, X25, ⟨Lc25, hQ25, l25, y25, z25⟩, st25⟩ := XX25.specialBack hx (y := y_2) rfl hown (mvT hZ (wd hw 8 rfl)) (mvT hZ (wd hw 9 rfl)) (mvT hZ (wd hw 10 rfl)) (by decide) (StrChars.Road.backV (W := 1) hZ (vwords hw) (wd hw 5 rfl) nn_b23 (old_z0 old23) A23 F23_value F23_coder (cs := cl25) (bs := cl25.map StrChars.lo8) (N := (21 : Int32)) (n := 21) Kcl25 (S_cs.ext old23.2) N_cs ncl25 (by decide) (by decide) (by decide) pcl25 (map_lo8 _) (by decide) (by decide)) (g := (mkF m 329 #[.val (.int (0 : Int32)), .val (.int u1), .val (.int u2), .val (.int (0 : Int32)), .val (.int u4), .val (.int u5), .val (.int (0 : Int32)), .val (.ref b1), .val (.int (0 : Int32))] [(.ref b1), (.ref b23), (.ref b23)])) rfl (by rw [hml]; rfl) (Steps.refl _) (a := b23) (argsL := [(.ref b1)]) (rest := [(.ref b23)]) (lenOf pd_1 rfl) rfl (by show 2 * 0 + _ ≤ _; exact Nat.le_of_eq rfl) (hb hby d5_329) (fun _ _ => ⟨rfl, e23, (by decide : 2 + 1 ≤ _), (by decide : 25 + 21 ≤ _)⟩)
  dsimp only [Pt.U, Pt.locs, Pt.cells, Pt.slots] at X25 l25 y25 z25 st25 hQ25
  subst l25 y25 z25
  obtain ⟨rfl, Nq25, K25, Ex25, Fc25, t25, kb25, -, gt_t25, -, Fv25, Va25⟩ := hQ25
  have nn_t25 : n0 ≤ t25 := Nat.le_trans (old_z0 old23) gt_t25
  have sz_t25 : h0.size ≤ t25 := Nat.le_trans kp23.1 gt_t25
  have old25 := old23.keep K25 (allS nn_b23 all0)
  have kp25 := kp23.trans K25 (allS (Or.inr sz_b23) all0)
  have N25 := Fr.app NN25 Nq25
  refine Go.step (fun t_ k_ => st25.trans k_) ?_
  show Go p e below _ (T25.setTop (mkF m 332 #[.val (.int (0 : Int32)), .val (.int u1), .val (.int u2), .val (.int (0 : Int32)), .val (.int u4), .val (.int u5), .val (.int (0 : Int32)), .val (.ref b1), .val (.int (0 : Int32))] [(.ref b23)]))
  refine Go.retR X25 hx Bd.returns rfl rfl Bd.notSynchronized (hb hby d5_332) (by exact ⟨b23, rfl, sz_b23, N25, kp25, ⟨_, _, Fv25, (by rw [show ((21 : Int32) + ((0 : Int32) + (0 : Int32))) = (21 : Int32) from by decide, show csAll (0 : Int32) u1 u2 (0 : Int32) u4 u5 = cl25 from by rw [hcl25]; simp only [csAll, pk0]; rfl]; exact Va25)⟩, Ex25, Fc25⟩) (by decide) (by decide)
set_option maxRecDepth 65536 in
set_option maxHeartbeats 40000000 in
theorem rm5_01 (l : Launch) (Z : State) (a0 : Array Value) (hw : ∀ d ∈ tables_1, d.before a0 Z = true) (ws : List Jvm.Cond) (cs_ : Int32) (un_ : Value) (sn_ : Value) (HW : Wd Z cs_ un_ sn_) (u1 : Int32) (u2 : Int32) (u4 : Int32) (u5 : Int32) (h0 : Heap) (n0 : Nat) (Ol : Old Z n0 h0) (h_1 : CH8 u1) (h_2 : CH8 u2) (h_4 : CH8 u4) (h_5 : CH8 u5) :
    MetFree l y_5 (head1 (Jvm.Cond.code y_5 method_4_code 9 (some (.object "java/lang/String")) :: ws) (rm 4 3 54 66)) (fun a_ U_ => a_ = #[(.int (0 : Int32)), (.int u1), (.int u2), (.int (1 : Int32)), (.int u4), (.int u5)] ∧ Z.Warmed39 U_.vm ∧ U_.heap = h0) (fun _ _ _ _ _ => True) (fun _ U_ o_ V_ => ∃ v_ L_, o_ = .returned v_ ∧ Q_rm5 Z cs_ un_ sn_ (0 : Int32) u1 u2 (1 : Int32) u4 u5 h0 n0 v_ V_.heap L_ ∧ FrameEnd U_ o_ V_ L_ (rm 4 3 54 66).cells (rm 4 3 54 66).slots) := by
  refine MetFree.of_bodySF (plainFor_of_name pn_2) hisR ?_
  intro p e s m args below meth c s₁ Bd hml0 hP hK
  obtain ⟨rfl, hZ, hh⟩ := hP
  have hx := Bd.exec
  have hby := Bd.bytes
  have hml : c.maxLocals = 9 := hml0
  have hown : s.vm.findClass "com/example/penelope/penelope/internal/CoverageCannotTakeEffectPinLaw" = some m.cls := findClass_of_methodNamed Bd.named
  have hnm := (name_of_methodNamed Bd.named Bd.method).1
  have X0 : Stand p l e (rm 4 3 54 66) s m #[(.int (0 : Int32)), (.int u1), (.int u2), (.int (1 : Int32)), (.int u4), (.int u5)] below meth c s₁ [] 0 0 := Stand.of_body Bd
  have e0 : s₁.heap = h0 := by rw [← hh, Bd.state]; rfl
  have N0 := Fr.nil n0
  have kp0 := Keep.refl h0 []
  show Go p e below (Fin1 s below (Q_rm5 Z cs_ un_ sn_ (0 : Int32) u1 u2 (1 : Int32) u4 u5 h0 n0) (rm 4 3 54 66).cells (rm 4 3 54 66).slots) _
  refine Go.step (fun t_ k_ => castTop (ef_rm5 m (0 : Int32) u1 u2 (1 : Int32) u4 u5) k_) ?_
  obtain ⟨S_cs, N_cs, S_un, R_un, S_sn, R_sn⟩ := id HW
  show Go p e below _ (s₁.setTop (mkF m 0 #[.val (.int (0 : Int32)), .val (.int u1), .val (.int u2), .val (.int (1 : Int32)), .val (.int u4), .val (.int u5), .unset, .unset, .unset] []))
  show Go p e below _ (s₁.setTop (mkF m 0 #[.val (.int (0 : Int32)), .val (.int u1), .val (.int u2), .val (.int (1 : Int32)), .val (.int u4), .val (.int u5), .unset, .unset, .unset] []))
  refine gs.iloadN X0.here hx (hb hby d5_0) rfl ?_
  refine gs.iloadN X0.here hx (hb hby d5_1) rfl ?_
  refine gs.iadd X0.here hx (hb hby d5_2) ?_
  rw [show ((0 : Int32) + (1 : Int32)) = (1 : Int32) from by decide]
  refine gs.istore X0.here hx (hb hby d5_3) (l' := #[.val (.int (0 : Int32)), .val (.int u1), .val (.int u2), .val (.int (1 : Int32)), .val (.int u4), .val (.int u5), .val (.int (1 : Int32)), .unset, .unset]) rfl ?_
  refine gs.iload X0.here hx (hb hby d5_5) rfl ?_
  have hc7 : ¬ ((1 : Int32) = (0 : Int32)) := by decide
  refine gs.ifYes 19 X0.here hx (hb hby d5_7) ((if0 _ _).trans (feq hc7).2) rfl ?_
  refine gs.iload X0.here hx (hb hby d5_19) rfl ?_
  refine gs.iconst 1 X0.here hx (hb hby d5_21) rfl ?_
  have hc22 : (1 : Int32) = (1 : Int32) := by decide
  refine gs.icmpNo X0.here hx (hb hby d5_22) (teq hc22).2 ?_
  refine gs.bipush 22 X0.here hx (hb hby d5_25) rfl ?_
  obtain ⟨T26, h26, k26, X26, e26, E26, A26, st26⟩ := newP X0 hx hZ (wd hw 7 rfl) e0 (g := (mkF m 27 #[.val (.int (0 : Int32)), .val (.int u1), .val (.int u2), .val (.int (1 : Int32)), .val (.int u4), .val (.int u5), .val (.int (1 : Int32)), .unset, .unset] [(.int (22 : Int32))])) rfl (hb hby d5_27) rfl (by decide) (cap := 22) (by decide) (by decide) (by decide) (by decide)
  obtain ⟨b26, g26⟩ : ∃ z, z = h0.size := ⟨_, rfl⟩
  rw [← g26] at A26 st26
  have nn_b26 : n0 ≤ b26 := Nat.le_trans (old_z0 Ol) (Nat.le_of_eq g26.symm)
  have sz_b26 : h0.size ≤ b26 := Nat.le_trans kp0.1 (Nat.le_of_eq g26.symm)
  have old26 := Ol.ext E26
  have kp26 := kp0.ext E26
  have V26 : Arv Z h26 b26 k26 .char (22 : Int32) [(.int (0 : Int32)), (.int (0 : Int32)), (.int (0 : Int32)), (.int (0 : Int32)), (.int (0 : Int32)), (.int (0 : Int32)), (.int (0 : Int32)), (.int (0 : Int32)), (.int (0 : Int32)), (.int (0 : Int32)), (.int (0 : Int32)), (.int (0 : Int32)), (.int (0 : Int32)), (.int (0 : Int32)), (.int (0 : Int32)), (.int (0 : Int32)), (.int (0 : Int32)), (.int (0 : Int32)), (.int (0 : Int32)), (.int (0 : Int32)), (.int (0 : Int32)), (.int (0 : Int32))] (.int (0 : Int32)) := (Arv.new A26 (by decide)).pad (pad_rep [] (.int (0 : Int32)) 22)
  refine Go.fin st26 ?_
  show Go p e below _ (T26.setTop (mkF m 29 _ [(.ref b26)]))
  refine gs.astore X26.here hx (hb hby d5_29) rfl (l' := #[.val (.int (0 : Int32)), .val (.int u1), .val (.int u2), .val (.int (1 : Int32)), .val (.int u4), .val (.int u5), .val (.int (1 : Int32)), .val (.ref b26), .unset]) rfl ?_
  refine gs.goto 70 X26.here hx (hb hby d5_31) rfl ?_
  refine gs.iloadN X26.here hx (hb hby d5_70) rfl ?_
  refine gs.iconst 1 X26.here hx (hb hby d5_71) rfl ?_
  have hc72 : (0 : Int32) < (1 : Int32) := by decide
  refine gs.icmpYes 80 X26.here hx (hb hby d5_72) (tlt hc72).1 rfl ?_
  refine gs.iloadN X26.here hx (hb hby d5_80) rfl ?_
  refine gs.iconst 2 X26.here hx (hb hby d5_81) rfl ?_
  have hc82 : (0 : Int32) < (2 : Int32) := by decide
  refine gs.icmpYes 90 X26.here hx (hb hby d5_82) (tlt hc82).1 rfl ?_
  refine gs.iloadN X26.here hx (hb hby d5_90) rfl ?_
  refine gs.istore X26.here hx (hb hby d5_91) (l' := #[.val (.int (0 : Int32)), .val (.int u1), .val (.int u2), .val (.int (1 : Int32)), .val (.int u4), .val (.int u5), .val (.int (1 : Int32)), .val (.ref b26), .val (.int (0 : Int32))]) rfl ?_
  refine gs.aload X26.here hx (hb hby d5_93) rfl rfl ?_
  refine gs.iload X26.here hx (hb hby d5_95) rfl ?_
  refine gs.bipush 32 X26.here hx (hb hby d5_97) rfl ?_
  refine gs.cst X26 hx hZ e26 V26 0 (by decide) (rfl : ([(.int (0 : Int32)), (.int (0 : Int32)), (.int (0 : Int32)), (.int (0 : Int32)), (.int (0 : Int32)), (.int (0 : Int32)), (.int (0 : Int32)), (.int (0 : Int32)), (.int (0 : Int32)), (.int (0 : Int32)), (.int (0 : Int32)), (.int (0 : Int32)), (.int (0 : Int32)), (.int (0 : Int32)), (.int (0 : Int32)), (.int (0 : Int32)), (.int (0 : Int32)), (.int (0 : Int32)), (.int (0 : Int32)), (.int (0 : Int32)), (.int (0 : Int32)), (.int (0 : Int32))] : List Value).length = 22) rfl N0 nn_b26 old26 kp26 (Or.inr sz_b26) (hb hby d5_99) fun T27 h27 X27 e27 W27 N27 old27 kp27 V27 ll27 => ?_
  show Go p e below _ (T27.setTop (mkF m 100 _ []))
  refine gs.aload X27.here hx (hb hby d5_100) rfl rfl ?_
  refine gs.iload X27.here hx (hb hby d5_102) rfl ?_
  refine gs.iconst 1 X27.here hx (hb hby d5_104) rfl ?_
  refine gs.iadd X27.here hx (hb hby d5_105) ?_
  rw [show ((0 : Int32) + (1 : Int32)) = (1 : Int32) from by decide]
  refine gs.bipush 99 X27.here hx (hb hby d5_106) rfl ?_
  refine gs.cst X27 hx hZ e27 V27 1 (by decide) ll27 rfl N27 nn_b26 old27 kp27 (Or.inr sz_b26) (hb hby d5_108) fun T28 h28 X28 e28 W28 N28 old28 kp28 V28 ll28 => ?_
  show Go p e below _ (T28.setTop (mkF m 109 _ []))
  refine gs.aload X28.here hx (hb hby d5_109) rfl rfl ?_
  refine gs.iload X28.here hx (hb hby d5_111) rfl ?_
  refine gs.iconst 2 X28.here hx (hb hby d5_113) rfl ?_
  refine gs.iadd X28.here hx (hb hby d5_114) ?_
  rw [show ((0 : Int32) + (2 : Int32)) = (2 : Int32) from by decide]
  refine gs.bipush 97 X28.here hx (hb hby d5_115) rfl ?_
  refine gs.cst X28 hx hZ e28 V28 2 (by decide) ll28 rfl N28 nn_b26 old28 kp28 (Or.inr sz_b26) (hb hby d5_117) fun T29 h29 X29 e29 W29 N29 old29 kp29 V29 ll29 => ?_
  show Go p e below _ (T29.setTop (mkF m 118 _ []))
  refine gs.aload X29.here hx (hb hby d5_118) rfl rfl ?_
  refine gs.iload X29.here hx (hb hby d5_120) rfl ?_
  refine gs.iconst 3 X29.here hx (hb hby d5_122) rfl ?_
  refine gs.iadd X29.here hx (hb hby d5_123) ?_
  rw [show ((0 : Int32) + (3 : Int32)) = (3 : Int32) from by decide]
  refine gs.bipush 110 X29.here hx (hb hby d5_124) rfl ?_
  refine gs.cst X29 hx hZ e29 V29 3 (by decide) ll29 rfl N29 nn_b26 old29 kp29 (Or.inr sz_b26) (hb hby d5_126) fun T30 h30 X30 e30 W30 N30 old30 kp30 V30 ll30 => ?_
  show Go p e below _ (T30.setTop (mkF m 127 _ []))
  refine gs.aload X30.here hx (hb hby d5_127) rfl rfl ?_
  refine gs.iload X30.here hx (hb hby d5_129) rfl ?_
  refine gs.iconst 4 X30.here hx (hb hby d5_131) rfl ?_
  refine gs.iadd X30.here hx (hb hby d5_132) ?_
  rw [show ((0 : Int32) + (4 : Int32)) = (4 : Int32) from by decide]
  refine gs.bipush 110 X30.here hx (hb hby d5_133) rfl ?_
  refine gs.cst X30 hx hZ e30 V30 4 (by decide) ll30 rfl N30 nn_b26 old30 kp30 (Or.inr sz_b26) (hb hby d5_135) fun T31 h31 X31 e31 W31 N31 old31 kp31 V31 ll31 => ?_
  show Go p e below _ (T31.setTop (mkF m 136 _ []))
  refine gs.aload X31.here hx (hb hby d5_136) rfl rfl ?_
  refine gs.iload X31.here hx (hb hby d5_138) rfl ?_
  refine gs.iconst 5 X31.here hx (hb hby d5_140) rfl ?_
  refine gs.iadd X31.here hx (hb hby d5_141) ?_
  rw [show ((0 : Int32) + (5 : Int32)) = (5 : Int32) from by decide]
  refine gs.bipush 111 X31.here hx (hb hby d5_142) rfl ?_
  refine gs.cst X31 hx hZ e31 V31 5 (by decide) ll31 rfl N31 nn_b26 old31 kp31 (Or.inr sz_b26) (hb hby d5_144) fun T32 h32 X32 e32 W32 N32 old32 kp32 V32 ll32 => ?_
  show Go p e below _ (T32.setTop (mkF m 145 _ []))
  refine gs.aload X32.here hx (hb hby d5_145) rfl rfl ?_
  refine gs.iload X32.here hx (hb hby d5_147) rfl ?_
  refine gs.bipush 6 X32.here hx (hb hby d5_149) rfl ?_
  refine gs.iadd X32.here hx (hb hby d5_151) ?_
  rw [show ((0 : Int32) + (6 : Int32)) = (6 : Int32) from by decide]
  refine gs.bipush 116 X32.here hx (hb hby d5_152) rfl ?_
  refine gs.cst X32 hx hZ e32 V32 6 (by decide) ll32 rfl N32 nn_b26 old32 kp32 (Or.inr sz_b26) (hb hby d5_154) fun T33 h33 X33 e33 W33 N33 old33 kp33 V33 ll33 => ?_
  show Go p e below _ (T33.setTop (mkF m 155 _ []))
  refine gs.aload X33.here hx (hb hby d5_155) rfl rfl ?_
  refine gs.iload X33.here hx (hb hby d5_157) rfl ?_
  refine gs.bipush 7 X33.here hx (hb hby d5_159) rfl ?_
  refine gs.iadd X33.here hx (hb hby d5_161) ?_
  rw [show ((0 : Int32) + (7 : Int32)) = (7 : Int32) from by decide]
  refine gs.bipush 32 X33.here hx (hb hby d5_162) rfl ?_
  refine gs.cst X33 hx hZ e33 V33 7 (by decide) ll33 rfl N33 nn_b26 old33 kp33 (Or.inr sz_b26) (hb hby d5_164) fun T34 h34 X34 e34 W34 N34 old34 kp34 V34 ll34 => ?_
  show Go p e below _ (T34.setTop (mkF m 165 _ []))
  refine gs.aload X34.here hx (hb hby d5_165) rfl rfl ?_
  refine gs.iload X34.here hx (hb hby d5_167) rfl ?_
  refine gs.bipush 8 X34.here hx (hb hby d5_169) rfl ?_
  refine gs.iadd X34.here hx (hb hby d5_171) ?_
  rw [show ((0 : Int32) + (8 : Int32)) = (8 : Int32) from by decide]
  refine gs.bipush 116 X34.here hx (hb hby d5_172) rfl ?_
  refine gs.cst X34 hx hZ e34 V34 8 (by decide) ll34 rfl N34 nn_b26 old34 kp34 (Or.inr sz_b26) (hb hby d5_174) fun T35 h35 X35 e35 W35 N35 old35 kp35 V35 ll35 => ?_
  show Go p e below _ (T35.setTop (mkF m 175 _ []))
  refine gs.aload X35.here hx (hb hby d5_175) rfl rfl ?_
  refine gs.iload X35.here hx (hb hby d5_177) rfl ?_
  refine gs.bipush 9 X35.here hx (hb hby d5_179) rfl ?_
  refine gs.iadd X35.here hx (hb hby d5_181) ?_
  rw [show ((0 : Int32) + (9 : Int32)) = (9 : Int32) from by decide]
  refine gs.bipush 97 X35.here hx (hb hby d5_182) rfl ?_
  refine gs.cst X35 hx hZ e35 V35 9 (by decide) ll35 rfl N35 nn_b26 old35 kp35 (Or.inr sz_b26) (hb hby d5_184) fun T36 h36 X36 e36 W36 N36 old36 kp36 V36 ll36 => ?_
  show Go p e below _ (T36.setTop (mkF m 185 _ []))
  refine gs.aload X36.here hx (hb hby d5_185) rfl rfl ?_
  refine gs.iload X36.here hx (hb hby d5_187) rfl ?_
  refine gs.bipush 10 X36.here hx (hb hby d5_189) rfl ?_
  refine gs.iadd X36.here hx (hb hby d5_191) ?_
  rw [show ((0 : Int32) + (10 : Int32)) = (10 : Int32) from by decide]
  refine gs.bipush 107 X36.here hx (hb hby d5_192) rfl ?_
  refine gs.cst X36 hx hZ e36 V36 10 (by decide) ll36 rfl N36 nn_b26 old36 kp36 (Or.inr sz_b26) (hb hby d5_194) fun T37 h37 X37 e37 W37 N37 old37 kp37 V37 ll37 => ?_
  show Go p e below _ (T37.setTop (mkF m 195 _ []))
  refine gs.aload X37.here hx (hb hby d5_195) rfl rfl ?_
  refine gs.iload X37.here hx (hb hby d5_197) rfl ?_
  refine gs.bipush 11 X37.here hx (hb hby d5_199) rfl ?_
  refine gs.iadd X37.here hx (hb hby d5_201) ?_
  rw [show ((0 : Int32) + (11 : Int32)) = (11 : Int32) from by decide]
  refine gs.bipush 101 X37.here hx (hb hby d5_202) rfl ?_
  refine gs.cst X37 hx hZ e37 V37 11 (by decide) ll37 rfl N37 nn_b26 old37 kp37 (Or.inr sz_b26) (hb hby d5_204) fun T38 h38 X38 e38 W38 N38 old38 kp38 V38 ll38 => ?_
  show Go p e below _ (T38.setTop (mkF m 205 _ []))
  refine gs.aload X38.here hx (hb hby d5_205) rfl rfl ?_
  refine gs.iload X38.here hx (hb hby d5_207) rfl ?_
  refine gs.bipush 12 X38.here hx (hb hby d5_209) rfl ?_
  refine gs.iadd X38.here hx (hb hby d5_211) ?_
  rw [show ((0 : Int32) + (12 : Int32)) = (12 : Int32) from by decide]
  refine gs.bipush 32 X38.here hx (hb hby d5_212) rfl ?_
  refine gs.cst X38 hx hZ e38 V38 12 (by decide) ll38 rfl N38 nn_b26 old38 kp38 (Or.inr sz_b26) (hb hby d5_214) fun T39 h39 X39 e39 W39 N39 old39 kp39 V39 ll39 => ?_
  show Go p e below _ (T39.setTop (mkF m 215 _ []))
  refine gs.aload X39.here hx (hb hby d5_215) rfl rfl ?_
  refine gs.iload X39.here hx (hb hby d5_217) rfl ?_
  refine gs.bipush 13 X39.here hx (hb hby d5_219) rfl ?_
  refine gs.iadd X39.here hx (hb hby d5_221) ?_
  rw [show ((0 : Int32) + (13 : Int32)) = (13 : Int32) from by decide]
  refine gs.bipush 101 X39.here hx (hb hby d5_222) rfl ?_
  refine gs.cst X39 hx hZ e39 V39 13 (by decide) ll39 rfl N39 nn_b26 old39 kp39 (Or.inr sz_b26) (hb hby d5_224) fun T40 h40 X40 e40 W40 N40 old40 kp40 V40 ll40 => ?_
  show Go p e below _ (T40.setTop (mkF m 225 _ []))
  refine gs.aload X40.here hx (hb hby d5_225) rfl rfl ?_
  refine gs.iload X40.here hx (hb hby d5_227) rfl ?_
  refine gs.bipush 14 X40.here hx (hb hby d5_229) rfl ?_
  refine gs.iadd X40.here hx (hb hby d5_231) ?_
  rw [show ((0 : Int32) + (14 : Int32)) = (14 : Int32) from by decide]
  refine gs.bipush 102 X40.here hx (hb hby d5_232) rfl ?_
  refine gs.cst X40 hx hZ e40 V40 14 (by decide) ll40 rfl N40 nn_b26 old40 kp40 (Or.inr sz_b26) (hb hby d5_234) fun T41 h41 X41 e41 W41 N41 old41 kp41 V41 ll41 => ?_
  show Go p e below _ (T41.setTop (mkF m 235 _ []))
  refine gs.aload X41.here hx (hb hby d5_235) rfl rfl ?_
  refine gs.iload X41.here hx (hb hby d5_237) rfl ?_
  refine gs.bipush 15 X41.here hx (hb hby d5_239) rfl ?_
  refine gs.iadd X41.here hx (hb hby d5_241) ?_
  rw [show ((0 : Int32) + (15 : Int32)) = (15 : Int32) from by decide]
  refine gs.bipush 102 X41.here hx (hb hby d5_242) rfl ?_
  refine gs.cst X41 hx hZ e41 V41 15 (by decide) ll41 rfl N41 nn_b26 old41 kp41 (Or.inr sz_b26) (hb hby d5_244) fun T42 h42 X42 e42 W42 N42 old42 kp42 V42 ll42 => ?_
  show Go p e below _ (T42.setTop (mkF m 245 _ []))
  refine gs.aload X42.here hx (hb hby d5_245) rfl rfl ?_
  refine gs.iload X42.here hx (hb hby d5_247) rfl ?_
  refine gs.bipush 16 X42.here hx (hb hby d5_249) rfl ?_
  refine gs.iadd X42.here hx (hb hby d5_251) ?_
  rw [show ((0 : Int32) + (16 : Int32)) = (16 : Int32) from by decide]
  refine gs.bipush 101 X42.here hx (hb hby d5_252) rfl ?_
  refine gs.cst X42 hx hZ e42 V42 16 (by decide) ll42 rfl N42 nn_b26 old42 kp42 (Or.inr sz_b26) (hb hby d5_254) fun T43 h43 X43 e43 W43 N43 old43 kp43 V43 ll43 => ?_
  show Go p e below _ (T43.setTop (mkF m 255 _ []))
  refine gs.aload X43.here hx (hb hby d5_255) rfl rfl ?_
  refine gs.iload X43.here hx (hb hby d5_257) rfl ?_
  refine gs.bipush 17 X43.here hx (hb hby d5_259) rfl ?_
  refine gs.iadd X43.here hx (hb hby d5_261) ?_
  rw [show ((0 : Int32) + (17 : Int32)) = (17 : Int32) from by decide]
  refine gs.bipush 99 X43.here hx (hb hby d5_262) rfl ?_
  refine gs.cst X43 hx hZ e43 V43 17 (by decide) ll43 rfl N43 nn_b26 old43 kp43 (Or.inr sz_b26) (hb hby d5_264) fun T44 h44 X44 e44 W44 N44 old44 kp44 V44 ll44 => ?_
  show Go p e below _ (T44.setTop (mkF m 265 _ []))
  refine gs.aload X44.here hx (hb hby d5_265) rfl rfl ?_
  refine gs.iload X44.here hx (hb hby d5_267) rfl ?_
  refine gs.bipush 18 X44.here hx (hb hby d5_269) rfl ?_
  refine gs.iadd X44.here hx (hb hby d5_271) ?_
  rw [show ((0 : Int32) + (18 : Int32)) = (18 : Int32) from by decide]
  refine gs.bipush 116 X44.here hx (hb hby d5_272) rfl ?_
  refine gs.cst X44 hx hZ e44 V44 18 (by decide) ll44 rfl N44 nn_b26 old44 kp44 (Or.inr sz_b26) (hb hby d5_274) fun T45 h45 X45 e45 W45 N45 old45 kp45 V45 ll45 => ?_
  show Go p e below _ (T45.setTop (mkF m 275 _ []))
  refine gs.aload X45.here hx (hb hby d5_275) rfl rfl ?_
  refine gs.iload X45.here hx (hb hby d5_277) rfl ?_
  refine gs.bipush 19 X45.here hx (hb hby d5_279) rfl ?_
  refine gs.iadd X45.here hx (hb hby d5_281) ?_
  rw [show ((0 : Int32) + (19 : Int32)) = (19 : Int32) from by decide]
  refine gs.bipush 58 X45.here hx (hb hby d5_282) rfl ?_
  refine gs.cst X45 hx hZ e45 V45 19 (by decide) ll45 rfl N45 nn_b26 old45 kp45 (Or.inr sz_b26) (hb hby d5_284) fun T46 h46 X46 e46 W46 N46 old46 kp46 V46 ll46 => ?_
  show Go p e below _ (T46.setTop (mkF m 285 _ []))
  refine gs.aload X46.here hx (hb hby d5_285) rfl rfl ?_
  refine gs.iload X46.here hx (hb hby d5_287) rfl ?_
  refine gs.bipush 20 X46.here hx (hb hby d5_289) rfl ?_
  refine gs.iadd X46.here hx (hb hby d5_291) ?_
  rw [show ((0 : Int32) + (20 : Int32)) = (20 : Int32) from by decide]
  refine gs.bipush 32 X46.here hx (hb hby d5_292) rfl ?_
  refine gs.cst X46 hx hZ e46 V46 20 (by decide) ll46 rfl N46 nn_b26 old46 kp46 (Or.inr sz_b26) (hb hby d5_294) fun T47 h47 X47 e47 W47 N47 old47 kp47 V47 ll47 => ?_
  show Go p e below _ (T47.setTop (mkF m 295 _ []))
  refine gs.iloadN X47.here hx (hb hby d5_295) rfl ?_
  refine gs.iconst 1 X47.here hx (hb hby d5_296) rfl ?_
  have hc297 : ¬ ((1 : Int32) < (1 : Int32)) := by decide
  refine gs.icmpNo X47.here hx (hb hby d5_297) (flt hc297).1 ?_
  refine gs.aload X47.here hx (hb hby d5_300) rfl rfl ?_
  refine gs.iloadN X47.here hx (hb hby d5_302) rfl ?_
  refine gs.bipush 21 X47.here hx (hb hby d5_303) rfl ?_
  refine gs.iadd X47.here hx (hb hby d5_305) ?_
  rw [show ((0 : Int32) + (21 : Int32)) = (21 : Int32) from by decide]
  refine gs.iload X47.here hx (hb hby d5_306) rfl ?_
  refine gs.cst X47 hx hZ e47 V47 21 (by decide) ll47 rfl N47 nn_b26 old47 kp47 (Or.inr sz_b26) (hb hby d5_308) fun T48 h48 X48 e48 W48 N48 old48 kp48 V48 ll48 => ?_
  show Go p e below _ (T48.setTop (mkF m 309 _ []))
  refine gs.iloadN X48.here hx (hb hby d5_309) rfl ?_
  refine gs.iconst 2 X48.here hx (hb hby d5_310) rfl ?_
  have hc311 : (1 : Int32) < (2 : Int32) := by decide
  refine gs.icmpYes 323 X48.here hx (hb hby d5_311) (tlt hc311).1 rfl ?_
  obtain ⟨T49, h49, X49, e49, E49, A49, D49, Y49, st49⟩ := newO X48 hx hZ hown (wd hw 4 rfl) (wd hw 5 rfl) (wd hw 6 rfl) e48 (g := (mkF m 323 #[.val (.int (0 : Int32)), .val (.int u1), .val (.int u2), .val (.int (1 : Int32)), .val (.int u4), .val (.int u5), .val (.int (1 : Int32)), .val (.ref b26), .val (.int (0 : Int32))] [])) rfl (hb hby d5_323) (by decide) (by decide)
  obtain ⟨b49, g49⟩ : ∃ z, z = h48.size := ⟨_, rfl⟩
  rw [← g49] at A49 D49 Y49 st49
  have nn_b49 : n0 ≤ b49 := Nat.le_trans (old_z0 old48) (Nat.le_of_eq g49.symm)
  have sz_b49 : h0.size ≤ b49 := Nat.le_trans kp48.1 (Nat.le_of_eq g49.symm)
  have old49 := old48.ext E49
  have kp49 := kp48.ext E49
  have F49_value : Fld Z h49 b49 "java/lang/String" "value" "[B" .null := D49 (Or.inr (wd hw 20 rfl)) (ty := (.array .byte)) (by decide)
  have F49_coder : Fld Z h49 b49 "java/lang/String" "coder" "B" (.int (0 : Int32)) := D49 (Or.inr (wd hw 21 rfl)) (ty := .byte) (by decide)
  refine Go.fin st49 ?_
  show Go p e below _ (T49.setTop (mkF m 326 _ [(.ref b49)]))
  refine gs.dup X49.here hx (hb hby d5_326) rfl ?_
  refine gs.aload X49.here hx (hb hby d5_327) rfl rfl ?_
  have f50 := (V48.ext E49)
  have Kd51 : Arv Z h49 b26 k26 .char (22 : Int32) [(.int (32 : Int32)), (.int (99 : Int32)), (.int (97 : Int32)), (.int (110 : Int32)), (.int (110 : Int32)), (.int (111 : Int32)), (.int (116 : Int32)), (.int (32 : Int32)), (.int (116 : Int32)), (.int (97 : Int32)), (.int (107 : Int32)), (.int (101 : Int32)), (.int (32 : Int32)), (.int (101 : Int32)), (.int (102 : Int32)), (.int (102 : Int32)), (.int (101 : Int32)), (.int (99 : Int32)), (.int (116 : Int32)), (.int (58 : Int32)), (.int (32 : Int32)), (.int (u4.toUInt32.toUInt16.toUInt32.toInt32))] (.int (0 : Int32)) := by have q := f50; simp only [List.set] at q; exact q
  have Kc51 := Kd51
  simp only [h_4.1] at Kc51
  obtain ⟨lc51, XX51, NN51⟩ := hide_locs X49 N48
  obtain ⟨cl51, hcl51⟩ : ∃ z : List Int32, z = ([(32 : Int32), (99 : Int32), (97 : Int32), (110 : Int32), (110 : Int32), (111 : Int32), (116 : Int32), (32 : Int32), (116 : Int32), (97 : Int32), (107 : Int32), (101 : Int32), (32 : Int32), (101 : Int32), (102 : Int32), (102 : Int32), (101 : Int32), (99 : Int32), (116 : Int32), (58 : Int32), (32 : Int32), u4] : List Int32) := ⟨_, rfl⟩
  have Kcl51 : Arv Z h49 b26 k26 .char (22 : Int32) (cl51.map Value.int) (.int (0 : Int32)) := by rw [hcl51]; exact Kc51
  have ncl51 : cl51.length = 22 := by rw [hcl51]; rfl
  have pcl51 : ∀ c ∈ cl51, ¬ c < 0 ∧ ¬ (255 : Int32) < c := by rw [hcl51]; exact (allcS (litc (by decide)) (allcS (litc (by decide)) (allcS (litc (by decide)) (allcS (litc (by decide)) (allcS (litc (by decide)) (allcS (litc (by decide)) (allcS (litc (by decide)) (allcS (litc (by decide)) (allcS (litc (by decide)) (allcS (litc (by decide)) (allcS (litc (by decide)) (allcS (litc (by decide)) (allcS (litc (by decide)) (allcS (litc (by decide)) (allcS (litc (by decide)) (allcS (litc (by decide)) (allcS (litc (by decide)) (allcS (litc (by decide)) (allcS (litc (by decide)) (allcS (litc (by decide)) (allcS (litc (by decide)) (allcS ⟨h_4.2.2.1, h_4.2.1⟩ allc0))))))))))))))))))))))
  obtain ⟨_, _, ⟨T51, L51, k51, n51⟩, -, X51, ⟨Lc51, hQ51, l51, y51, z51⟩, st51⟩ := XX51.specialBack hx (y := y_2) rfl hown (mvT hZ (wd hw 8 rfl)) (mvT hZ (wd hw 9 rfl)) (mvT hZ (wd hw 10 rfl)) (by decide) (StrChars.Road.backV (W := 1) hZ (vwords hw) (wd hw 5 rfl) nn_b49 (old_z0 old49) A49 F49_value F49_coder (cs := cl51) (bs := cl51.map StrChars.lo8) (N := (22 : Int32)) (n := 22) Kcl51 (S_cs.ext old49.2) N_cs ncl51 (by decide) (by decide) (by decide) pcl51 (map_lo8 _) (by decide) (by decide)) (g := (mkF m 329 #[.val (.int (0 : Int32)), .val (.int u1), .val (.int u2), .val (.int (1 : Int32)), .val (.int u4), .val (.int u5), .val (.int (1 : Int32)), .val (.ref b26), .val (.int (0 : Int32))] [(.ref b26), (.ref b49), (.ref b49)])) rfl (by rw [hml]; rfl) (Steps.refl _) (a := b49) (argsL := [(.ref b26)]) (rest := [(.ref b49)]) (lenOf pd_1 rfl) rfl (by show 2 * 0 + _ ≤ _; exact Nat.le_of_eq rfl) (hb hby d5_329) (fun _ _ => ⟨rfl, e49, (by decide : 2 + 1 ≤ _), (by decide : 26 + 22 ≤ _)⟩)
  dsimp only [Pt.U, Pt.locs, Pt.cells, Pt.slots] at X51 l51 y51 z51 st51 hQ51
  subst l51 y51 z51
  obtain ⟨rfl, Nq51, K51, Ex51, Fc51, t51, kb51, -, gt_t51, -, Fv51, Va51⟩ := hQ51
  have nn_t51 : n0 ≤ t51 := Nat.le_trans (old_z0 old49) gt_t51
  have sz_t51 : h0.size ≤ t51 := Nat.le_trans kp49.1 gt_t51
  have old51 := old49.keep K51 (allS nn_b49 all0)
  have kp51 := kp49.trans K51 (allS (Or.inr sz_b49) all0)
  have N51 := Fr.app NN51 Nq51
  refine Go.step (fun t_ k_ => st51.trans k_) ?_
  show Go p e below _ (T51.setTop (mkF m 332 #[.val (.int (0 : Int32)), .val (.int u1), .val (.int u2), .val (.int (1 : Int32)), .val (.int u4), .val (.int u5), .val (.int (1 : Int32)), .val (.ref b26), .val (.int (0 : Int32))] [(.ref b49)]))
  refine Go.retR X51 hx Bd.returns rfl rfl Bd.notSynchronized (hb hby d5_332) (by exact ⟨b49, rfl, sz_b49, N51, kp51, ⟨_, _, Fv51, (by rw [show ((21 : Int32) + ((0 : Int32) + (1 : Int32))) = (22 : Int32) from by decide, show csAll (0 : Int32) u1 u2 (1 : Int32) u4 u5 = cl51 from by rw [hcl51]; rw [csAll, pk0, pk1]; rfl]; exact Va51)⟩, Ex51, Fc51⟩) (by decide) (by decide)
set_option maxRecDepth 65536 in
set_option maxHeartbeats 40000000 in
theorem rm5_02 (l : Launch) (Z : State) (a0 : Array Value) (hw : ∀ d ∈ tables_1, d.before a0 Z = true) (ws : List Jvm.Cond) (cs_ : Int32) (un_ : Value) (sn_ : Value) (HW : Wd Z cs_ un_ sn_) (u1 : Int32) (u2 : Int32) (u4 : Int32) (u5 : Int32) (h0 : Heap) (n0 : Nat) (Ol : Old Z n0 h0) (h_1 : CH8 u1) (h_2 : CH8 u2) (h_4 : CH8 u4) (h_5 : CH8 u5) :
    MetFree l y_5 (head1 (Jvm.Cond.code y_5 method_4_code 9 (some (.object "java/lang/String")) :: ws) (rm 4 3 54 66)) (fun a_ U_ => a_ = #[(.int (0 : Int32)), (.int u1), (.int u2), (.int (2 : Int32)), (.int u4), (.int u5)] ∧ Z.Warmed39 U_.vm ∧ U_.heap = h0) (fun _ _ _ _ _ => True) (fun _ U_ o_ V_ => ∃ v_ L_, o_ = .returned v_ ∧ Q_rm5 Z cs_ un_ sn_ (0 : Int32) u1 u2 (2 : Int32) u4 u5 h0 n0 v_ V_.heap L_ ∧ FrameEnd U_ o_ V_ L_ (rm 4 3 54 66).cells (rm 4 3 54 66).slots) := by
  refine MetFree.of_bodySF (plainFor_of_name pn_2) hisR ?_
  intro p e s m args below meth c s₁ Bd hml0 hP hK
  obtain ⟨rfl, hZ, hh⟩ := hP
  have hx := Bd.exec
  have hby := Bd.bytes
  have hml : c.maxLocals = 9 := hml0
  have hown : s.vm.findClass "com/example/penelope/penelope/internal/CoverageCannotTakeEffectPinLaw" = some m.cls := findClass_of_methodNamed Bd.named
  have hnm := (name_of_methodNamed Bd.named Bd.method).1
  have X0 : Stand p l e (rm 4 3 54 66) s m #[(.int (0 : Int32)), (.int u1), (.int u2), (.int (2 : Int32)), (.int u4), (.int u5)] below meth c s₁ [] 0 0 := Stand.of_body Bd
  have e0 : s₁.heap = h0 := by rw [← hh, Bd.state]; rfl
  have N0 := Fr.nil n0
  have kp0 := Keep.refl h0 []
  show Go p e below (Fin1 s below (Q_rm5 Z cs_ un_ sn_ (0 : Int32) u1 u2 (2 : Int32) u4 u5 h0 n0) (rm 4 3 54 66).cells (rm 4 3 54 66).slots) _
  refine Go.step (fun t_ k_ => castTop (ef_rm5 m (0 : Int32) u1 u2 (2 : Int32) u4 u5) k_) ?_
  obtain ⟨S_cs, N_cs, S_un, R_un, S_sn, R_sn⟩ := id HW
  show Go p e below _ (s₁.setTop (mkF m 0 #[.val (.int (0 : Int32)), .val (.int u1), .val (.int u2), .val (.int (2 : Int32)), .val (.int u4), .val (.int u5), .unset, .unset, .unset] []))
  show Go p e below _ (s₁.setTop (mkF m 0 #[.val (.int (0 : Int32)), .val (.int u1), .val (.int u2), .val (.int (2 : Int32)), .val (.int u4), .val (.int u5), .unset, .unset, .unset] []))
  refine gs.iloadN X0.here hx (hb hby d5_0) rfl ?_
  refine gs.iloadN X0.here hx (hb hby d5_1) rfl ?_
  refine gs.iadd X0.here hx (hb hby d5_2) ?_
  rw [show ((0 : Int32) + (2 : Int32)) = (2 : Int32) from by decide]
  refine gs.istore X0.here hx (hb hby d5_3) (l' := #[.val (.int (0 : Int32)), .val (.int u1), .val (.int u2), .val (.int (2 : Int32)), .val (.int u4), .val (.int u5), .val (.int (2 : Int32)), .unset, .unset]) rfl ?_
  refine gs.iload X0.here hx (hb hby d5_5) rfl ?_
  have hc7 : ¬ ((2 : Int32) = (0 : Int32)) := by decide
  refine gs.ifYes 19 X0.here hx (hb hby d5_7) ((if0 _ _).trans (feq hc7).2) rfl ?_
  refine gs.iload X0.here hx (hb hby d5_19) rfl ?_
  refine gs.iconst 1 X0.here hx (hb hby d5_21) rfl ?_
  have hc22 : ¬ ((2 : Int32) = (1 : Int32)) := by decide
  refine gs.icmpYes 34 X0.here hx (hb hby d5_22) (feq hc22).2 rfl ?_
  refine gs.iload X0.here hx (hb hby d5_34) rfl ?_
  refine gs.iconst 2 X0.here hx (hb hby d5_36) rfl ?_
  have hc37 : (2 : Int32) = (2 : Int32) := by decide
  refine gs.icmpNo X0.here hx (hb hby d5_37) (teq hc37).2 ?_
  refine gs.bipush 23 X0.here hx (hb hby d5_40) rfl ?_
  obtain ⟨T52, h52, k52, X52, e52, E52, A52, st52⟩ := newP X0 hx hZ (wd hw 7 rfl) e0 (g := (mkF m 42 #[.val (.int (0 : Int32)), .val (.int u1), .val (.int u2), .val (.int (2 : Int32)), .val (.int u4), .val (.int u5), .val (.int (2 : Int32)), .unset, .unset] [(.int (23 : Int32))])) rfl (hb hby d5_42) rfl (by decide) (cap := 23) (by decide) (by decide) (by decide) (by decide)
  obtain ⟨b52, g52⟩ : ∃ z, z = h0.size := ⟨_, rfl⟩
  rw [← g52] at A52 st52
  have nn_b52 : n0 ≤ b52 := Nat.le_trans (old_z0 Ol) (Nat.le_of_eq g52.symm)
  have sz_b52 : h0.size ≤ b52 := Nat.le_trans kp0.1 (Nat.le_of_eq g52.symm)
  have old52 := Ol.ext E52
  have kp52 := kp0.ext E52
  have V52 : Arv Z h52 b52 k52 .char (23 : Int32) [(.int (0 : Int32)), (.int (0 : Int32)), (.int (0 : Int32)), (.int (0 : Int32)), (.int (0 : Int32)), (.int (0 : Int32)), (.int (0 : Int32)), (.int (0 : Int32)), (.int (0 : Int32)), (.int (0 : Int32)), (.int (0 : Int32)), (.int (0 : Int32)), (.int (0 : Int32)), (.int (0 : Int32)), (.int (0 : Int32)), (.int (0 : Int32)), (.int (0 : Int32)), (.int (0 : Int32)), (.int (0 : Int32)), (.int (0 : Int32)), (.int (0 : Int32)), (.int (0 : Int32)), (.int (0 : Int32))] (.int (0 : Int32)) := (Arv.new A52 (by decide)).pad (pad_rep [] (.int (0 : Int32)) 23)
  refine Go.fin st52 ?_
  show Go p e below _ (T52.setTop (mkF m 44 _ [(.ref b52)]))
  refine gs.astore X52.here hx (hb hby d5_44) rfl (l' := #[.val (.int (0 : Int32)), .val (.int u1), .val (.int u2), .val (.int (2 : Int32)), .val (.int u4), .val (.int u5), .val (.int (2 : Int32)), .val (.ref b52), .unset]) rfl ?_
  refine gs.goto 70 X52.here hx (hb hby d5_46) rfl ?_
  refine gs.iloadN X52.here hx (hb hby d5_70) rfl ?_
  refine gs.iconst 1 X52.here hx (hb hby d5_71) rfl ?_
  have hc72 : (0 : Int32) < (1 : Int32) := by decide
  refine gs.icmpYes 80 X52.here hx (hb hby d5_72) (tlt hc72).1 rfl ?_
  refine gs.iloadN X52.here hx (hb hby d5_80) rfl ?_
  refine gs.iconst 2 X52.here hx (hb hby d5_81) rfl ?_
  have hc82 : (0 : Int32) < (2 : Int32) := by decide
  refine gs.icmpYes 90 X52.here hx (hb hby d5_82) (tlt hc82).1 rfl ?_
  refine gs.iloadN X52.here hx (hb hby d5_90) rfl ?_
  refine gs.istore X52.here hx (hb hby d5_91) (l' := #[.val (.int (0 : Int32)), .val (.int u1), .val (.int u2), .val (.int (2 : Int32)), .val (.int u4), .val (.int u5), .val (.int (2 : Int32)), .val (.ref b52), .val (.int (0 : Int32))]) rfl ?_
  refine gs.aload X52.here hx (hb hby d5_93) rfl rfl ?_
  refine gs.iload X52.here hx (hb hby d5_95) rfl ?_
  refine gs.bipush 32 X52.here hx (hb hby d5_97) rfl ?_
  refine gs.cst X52 hx hZ e52 V52 0 (by decide) (rfl : ([(.int (0 : Int32)), (.int (0 : Int32)), (.int (0 : Int32)), (.int (0 : Int32)), (.int (0 : Int32)), (.int (0 : Int32)), (.int (0 : Int32)), (.int (0 : Int32)), (.int (0 : Int32)), (.int (0 : Int32)), (.int (0 : Int32)), (.int (0 : Int32)), (.int (0 : Int32)), (.int (0 : Int32)), (.int (0 : Int32)), (.int (0 : Int32)), (.int (0 : Int32)), (.int (0 : Int32)), (.int (0 : Int32)), (.int (0 : Int32)), (.int (0 : Int32)), (.int (0 : Int32)), (.int (0 : Int32))] : List Value).length = 23) rfl N0 nn_b52 old52 kp52 (Or.inr sz_b52) (hb hby d5_99) fun T53 h53 X53 e53 W53 N53 old53 kp53 V53 ll53 => ?_
  show Go p e below _ (T53.setTop (mkF m 100 _ []))
  refine gs.aload X53.here hx (hb hby d5_100) rfl rfl ?_
  refine gs.iload X53.here hx (hb hby d5_102) rfl ?_
  refine gs.iconst 1 X53.here hx (hb hby d5_104) rfl ?_
  refine gs.iadd X53.here hx (hb hby d5_105) ?_
  rw [show ((0 : Int32) + (1 : Int32)) = (1 : Int32) from by decide]
  refine gs.bipush 99 X53.here hx (hb hby d5_106) rfl ?_
  refine gs.cst X53 hx hZ e53 V53 1 (by decide) ll53 rfl N53 nn_b52 old53 kp53 (Or.inr sz_b52) (hb hby d5_108) fun T54 h54 X54 e54 W54 N54 old54 kp54 V54 ll54 => ?_
  show Go p e below _ (T54.setTop (mkF m 109 _ []))
  refine gs.aload X54.here hx (hb hby d5_109) rfl rfl ?_
  refine gs.iload X54.here hx (hb hby d5_111) rfl ?_
  refine gs.iconst 2 X54.here hx (hb hby d5_113) rfl ?_
  refine gs.iadd X54.here hx (hb hby d5_114) ?_
  rw [show ((0 : Int32) + (2 : Int32)) = (2 : Int32) from by decide]
  refine gs.bipush 97 X54.here hx (hb hby d5_115) rfl ?_
  refine gs.cst X54 hx hZ e54 V54 2 (by decide) ll54 rfl N54 nn_b52 old54 kp54 (Or.inr sz_b52) (hb hby d5_117) fun T55 h55 X55 e55 W55 N55 old55 kp55 V55 ll55 => ?_
  show Go p e below _ (T55.setTop (mkF m 118 _ []))
  refine gs.aload X55.here hx (hb hby d5_118) rfl rfl ?_
  refine gs.iload X55.here hx (hb hby d5_120) rfl ?_
  refine gs.iconst 3 X55.here hx (hb hby d5_122) rfl ?_
  refine gs.iadd X55.here hx (hb hby d5_123) ?_
  rw [show ((0 : Int32) + (3 : Int32)) = (3 : Int32) from by decide]
  refine gs.bipush 110 X55.here hx (hb hby d5_124) rfl ?_
  refine gs.cst X55 hx hZ e55 V55 3 (by decide) ll55 rfl N55 nn_b52 old55 kp55 (Or.inr sz_b52) (hb hby d5_126) fun T56 h56 X56 e56 W56 N56 old56 kp56 V56 ll56 => ?_
  show Go p e below _ (T56.setTop (mkF m 127 _ []))
  refine gs.aload X56.here hx (hb hby d5_127) rfl rfl ?_
  refine gs.iload X56.here hx (hb hby d5_129) rfl ?_
  refine gs.iconst 4 X56.here hx (hb hby d5_131) rfl ?_
  refine gs.iadd X56.here hx (hb hby d5_132) ?_
  rw [show ((0 : Int32) + (4 : Int32)) = (4 : Int32) from by decide]
  refine gs.bipush 110 X56.here hx (hb hby d5_133) rfl ?_
  refine gs.cst X56 hx hZ e56 V56 4 (by decide) ll56 rfl N56 nn_b52 old56 kp56 (Or.inr sz_b52) (hb hby d5_135) fun T57 h57 X57 e57 W57 N57 old57 kp57 V57 ll57 => ?_
  show Go p e below _ (T57.setTop (mkF m 136 _ []))
  refine gs.aload X57.here hx (hb hby d5_136) rfl rfl ?_
  refine gs.iload X57.here hx (hb hby d5_138) rfl ?_
  refine gs.iconst 5 X57.here hx (hb hby d5_140) rfl ?_
  refine gs.iadd X57.here hx (hb hby d5_141) ?_
  rw [show ((0 : Int32) + (5 : Int32)) = (5 : Int32) from by decide]
  refine gs.bipush 111 X57.here hx (hb hby d5_142) rfl ?_
  refine gs.cst X57 hx hZ e57 V57 5 (by decide) ll57 rfl N57 nn_b52 old57 kp57 (Or.inr sz_b52) (hb hby d5_144) fun T58 h58 X58 e58 W58 N58 old58 kp58 V58 ll58 => ?_
  show Go p e below _ (T58.setTop (mkF m 145 _ []))
  refine gs.aload X58.here hx (hb hby d5_145) rfl rfl ?_
  refine gs.iload X58.here hx (hb hby d5_147) rfl ?_
  refine gs.bipush 6 X58.here hx (hb hby d5_149) rfl ?_
  refine gs.iadd X58.here hx (hb hby d5_151) ?_
  rw [show ((0 : Int32) + (6 : Int32)) = (6 : Int32) from by decide]
  refine gs.bipush 116 X58.here hx (hb hby d5_152) rfl ?_
  refine gs.cst X58 hx hZ e58 V58 6 (by decide) ll58 rfl N58 nn_b52 old58 kp58 (Or.inr sz_b52) (hb hby d5_154) fun T59 h59 X59 e59 W59 N59 old59 kp59 V59 ll59 => ?_
  show Go p e below _ (T59.setTop (mkF m 155 _ []))
  refine gs.aload X59.here hx (hb hby d5_155) rfl rfl ?_
  refine gs.iload X59.here hx (hb hby d5_157) rfl ?_
  refine gs.bipush 7 X59.here hx (hb hby d5_159) rfl ?_
  refine gs.iadd X59.here hx (hb hby d5_161) ?_
  rw [show ((0 : Int32) + (7 : Int32)) = (7 : Int32) from by decide]
  refine gs.bipush 32 X59.here hx (hb hby d5_162) rfl ?_
  refine gs.cst X59 hx hZ e59 V59 7 (by decide) ll59 rfl N59 nn_b52 old59 kp59 (Or.inr sz_b52) (hb hby d5_164) fun T60 h60 X60 e60 W60 N60 old60 kp60 V60 ll60 => ?_
  show Go p e below _ (T60.setTop (mkF m 165 _ []))
  refine gs.aload X60.here hx (hb hby d5_165) rfl rfl ?_
  refine gs.iload X60.here hx (hb hby d5_167) rfl ?_
  refine gs.bipush 8 X60.here hx (hb hby d5_169) rfl ?_
  refine gs.iadd X60.here hx (hb hby d5_171) ?_
  rw [show ((0 : Int32) + (8 : Int32)) = (8 : Int32) from by decide]
  refine gs.bipush 116 X60.here hx (hb hby d5_172) rfl ?_
  refine gs.cst X60 hx hZ e60 V60 8 (by decide) ll60 rfl N60 nn_b52 old60 kp60 (Or.inr sz_b52) (hb hby d5_174) fun T61 h61 X61 e61 W61 N61 old61 kp61 V61 ll61 => ?_
  show Go p e below _ (T61.setTop (mkF m 175 _ []))
  refine gs.aload X61.here hx (hb hby d5_175) rfl rfl ?_
  refine gs.iload X61.here hx (hb hby d5_177) rfl ?_
  refine gs.bipush 9 X61.here hx (hb hby d5_179) rfl ?_
  refine gs.iadd X61.here hx (hb hby d5_181) ?_
  rw [show ((0 : Int32) + (9 : Int32)) = (9 : Int32) from by decide]
  refine gs.bipush 97 X61.here hx (hb hby d5_182) rfl ?_
  refine gs.cst X61 hx hZ e61 V61 9 (by decide) ll61 rfl N61 nn_b52 old61 kp61 (Or.inr sz_b52) (hb hby d5_184) fun T62 h62 X62 e62 W62 N62 old62 kp62 V62 ll62 => ?_
  show Go p e below _ (T62.setTop (mkF m 185 _ []))
  refine gs.aload X62.here hx (hb hby d5_185) rfl rfl ?_
  refine gs.iload X62.here hx (hb hby d5_187) rfl ?_
  refine gs.bipush 10 X62.here hx (hb hby d5_189) rfl ?_
  refine gs.iadd X62.here hx (hb hby d5_191) ?_
  rw [show ((0 : Int32) + (10 : Int32)) = (10 : Int32) from by decide]
  refine gs.bipush 107 X62.here hx (hb hby d5_192) rfl ?_
  refine gs.cst X62 hx hZ e62 V62 10 (by decide) ll62 rfl N62 nn_b52 old62 kp62 (Or.inr sz_b52) (hb hby d5_194) fun T63 h63 X63 e63 W63 N63 old63 kp63 V63 ll63 => ?_
  show Go p e below _ (T63.setTop (mkF m 195 _ []))
  refine gs.aload X63.here hx (hb hby d5_195) rfl rfl ?_
  refine gs.iload X63.here hx (hb hby d5_197) rfl ?_
  refine gs.bipush 11 X63.here hx (hb hby d5_199) rfl ?_
  refine gs.iadd X63.here hx (hb hby d5_201) ?_
  rw [show ((0 : Int32) + (11 : Int32)) = (11 : Int32) from by decide]
  refine gs.bipush 101 X63.here hx (hb hby d5_202) rfl ?_
  refine gs.cst X63 hx hZ e63 V63 11 (by decide) ll63 rfl N63 nn_b52 old63 kp63 (Or.inr sz_b52) (hb hby d5_204) fun T64 h64 X64 e64 W64 N64 old64 kp64 V64 ll64 => ?_
  show Go p e below _ (T64.setTop (mkF m 205 _ []))
  refine gs.aload X64.here hx (hb hby d5_205) rfl rfl ?_
  refine gs.iload X64.here hx (hb hby d5_207) rfl ?_
  refine gs.bipush 12 X64.here hx (hb hby d5_209) rfl ?_
  refine gs.iadd X64.here hx (hb hby d5_211) ?_
  rw [show ((0 : Int32) + (12 : Int32)) = (12 : Int32) from by decide]
  refine gs.bipush 32 X64.here hx (hb hby d5_212) rfl ?_
  refine gs.cst X64 hx hZ e64 V64 12 (by decide) ll64 rfl N64 nn_b52 old64 kp64 (Or.inr sz_b52) (hb hby d5_214) fun T65 h65 X65 e65 W65 N65 old65 kp65 V65 ll65 => ?_
  show Go p e below _ (T65.setTop (mkF m 215 _ []))
  refine gs.aload X65.here hx (hb hby d5_215) rfl rfl ?_
  refine gs.iload X65.here hx (hb hby d5_217) rfl ?_
  refine gs.bipush 13 X65.here hx (hb hby d5_219) rfl ?_
  refine gs.iadd X65.here hx (hb hby d5_221) ?_
  rw [show ((0 : Int32) + (13 : Int32)) = (13 : Int32) from by decide]
  refine gs.bipush 101 X65.here hx (hb hby d5_222) rfl ?_
  refine gs.cst X65 hx hZ e65 V65 13 (by decide) ll65 rfl N65 nn_b52 old65 kp65 (Or.inr sz_b52) (hb hby d5_224) fun T66 h66 X66 e66 W66 N66 old66 kp66 V66 ll66 => ?_
  show Go p e below _ (T66.setTop (mkF m 225 _ []))
  refine gs.aload X66.here hx (hb hby d5_225) rfl rfl ?_
  refine gs.iload X66.here hx (hb hby d5_227) rfl ?_
  refine gs.bipush 14 X66.here hx (hb hby d5_229) rfl ?_
  refine gs.iadd X66.here hx (hb hby d5_231) ?_
  rw [show ((0 : Int32) + (14 : Int32)) = (14 : Int32) from by decide]
  refine gs.bipush 102 X66.here hx (hb hby d5_232) rfl ?_
  refine gs.cst X66 hx hZ e66 V66 14 (by decide) ll66 rfl N66 nn_b52 old66 kp66 (Or.inr sz_b52) (hb hby d5_234) fun T67 h67 X67 e67 W67 N67 old67 kp67 V67 ll67 => ?_
  show Go p e below _ (T67.setTop (mkF m 235 _ []))
  refine gs.aload X67.here hx (hb hby d5_235) rfl rfl ?_
  refine gs.iload X67.here hx (hb hby d5_237) rfl ?_
  refine gs.bipush 15 X67.here hx (hb hby d5_239) rfl ?_
  refine gs.iadd X67.here hx (hb hby d5_241) ?_
  rw [show ((0 : Int32) + (15 : Int32)) = (15 : Int32) from by decide]
  refine gs.bipush 102 X67.here hx (hb hby d5_242) rfl ?_
  refine gs.cst X67 hx hZ e67 V67 15 (by decide) ll67 rfl N67 nn_b52 old67 kp67 (Or.inr sz_b52) (hb hby d5_244) fun T68 h68 X68 e68 W68 N68 old68 kp68 V68 ll68 => ?_
  show Go p e below _ (T68.setTop (mkF m 245 _ []))
  refine gs.aload X68.here hx (hb hby d5_245) rfl rfl ?_
  refine gs.iload X68.here hx (hb hby d5_247) rfl ?_
  refine gs.bipush 16 X68.here hx (hb hby d5_249) rfl ?_
  refine gs.iadd X68.here hx (hb hby d5_251) ?_
  rw [show ((0 : Int32) + (16 : Int32)) = (16 : Int32) from by decide]
  refine gs.bipush 101 X68.here hx (hb hby d5_252) rfl ?_
  refine gs.cst X68 hx hZ e68 V68 16 (by decide) ll68 rfl N68 nn_b52 old68 kp68 (Or.inr sz_b52) (hb hby d5_254) fun T69 h69 X69 e69 W69 N69 old69 kp69 V69 ll69 => ?_
  show Go p e below _ (T69.setTop (mkF m 255 _ []))
  refine gs.aload X69.here hx (hb hby d5_255) rfl rfl ?_
  refine gs.iload X69.here hx (hb hby d5_257) rfl ?_
  refine gs.bipush 17 X69.here hx (hb hby d5_259) rfl ?_
  refine gs.iadd X69.here hx (hb hby d5_261) ?_
  rw [show ((0 : Int32) + (17 : Int32)) = (17 : Int32) from by decide]
  refine gs.bipush 99 X69.here hx (hb hby d5_262) rfl ?_
  refine gs.cst X69 hx hZ e69 V69 17 (by decide) ll69 rfl N69 nn_b52 old69 kp69 (Or.inr sz_b52) (hb hby d5_264) fun T70 h70 X70 e70 W70 N70 old70 kp70 V70 ll70 => ?_
  show Go p e below _ (T70.setTop (mkF m 265 _ []))
  refine gs.aload X70.here hx (hb hby d5_265) rfl rfl ?_
  refine gs.iload X70.here hx (hb hby d5_267) rfl ?_
  refine gs.bipush 18 X70.here hx (hb hby d5_269) rfl ?_
  refine gs.iadd X70.here hx (hb hby d5_271) ?_
  rw [show ((0 : Int32) + (18 : Int32)) = (18 : Int32) from by decide]
  refine gs.bipush 116 X70.here hx (hb hby d5_272) rfl ?_
  refine gs.cst X70 hx hZ e70 V70 18 (by decide) ll70 rfl N70 nn_b52 old70 kp70 (Or.inr sz_b52) (hb hby d5_274) fun T71 h71 X71 e71 W71 N71 old71 kp71 V71 ll71 => ?_
  show Go p e below _ (T71.setTop (mkF m 275 _ []))
  refine gs.aload X71.here hx (hb hby d5_275) rfl rfl ?_
  refine gs.iload X71.here hx (hb hby d5_277) rfl ?_
  refine gs.bipush 19 X71.here hx (hb hby d5_279) rfl ?_
  refine gs.iadd X71.here hx (hb hby d5_281) ?_
  rw [show ((0 : Int32) + (19 : Int32)) = (19 : Int32) from by decide]
  refine gs.bipush 58 X71.here hx (hb hby d5_282) rfl ?_
  refine gs.cst X71 hx hZ e71 V71 19 (by decide) ll71 rfl N71 nn_b52 old71 kp71 (Or.inr sz_b52) (hb hby d5_284) fun T72 h72 X72 e72 W72 N72 old72 kp72 V72 ll72 => ?_
  show Go p e below _ (T72.setTop (mkF m 285 _ []))
  refine gs.aload X72.here hx (hb hby d5_285) rfl rfl ?_
  refine gs.iload X72.here hx (hb hby d5_287) rfl ?_
  refine gs.bipush 20 X72.here hx (hb hby d5_289) rfl ?_
  refine gs.iadd X72.here hx (hb hby d5_291) ?_
  rw [show ((0 : Int32) + (20 : Int32)) = (20 : Int32) from by decide]
  refine gs.bipush 32 X72.here hx (hb hby d5_292) rfl ?_
  refine gs.cst X72 hx hZ e72 V72 20 (by decide) ll72 rfl N72 nn_b52 old72 kp72 (Or.inr sz_b52) (hb hby d5_294) fun T73 h73 X73 e73 W73 N73 old73 kp73 V73 ll73 => ?_
  show Go p e below _ (T73.setTop (mkF m 295 _ []))
  refine gs.iloadN X73.here hx (hb hby d5_295) rfl ?_
  refine gs.iconst 1 X73.here hx (hb hby d5_296) rfl ?_
  have hc297 : ¬ ((2 : Int32) < (1 : Int32)) := by decide
  refine gs.icmpNo X73.here hx (hb hby d5_297) (flt hc297).1 ?_
  refine gs.aload X73.here hx (hb hby d5_300) rfl rfl ?_
  refine gs.iloadN X73.here hx (hb hby d5_302) rfl ?_
  refine gs.bipush 21 X73.here hx (hb hby d5_303) rfl ?_
  refine gs.iadd X73.here hx (hb hby d5_305) ?_
  rw [show ((0 : Int32) + (21 : Int32)) = (21 : Int32) from by decide]
  refine gs.iload X73.here hx (hb hby d5_306) rfl ?_
  refine gs.cst X73 hx hZ e73 V73 21 (by decide) ll73 rfl N73 nn_b52 old73 kp73 (Or.inr sz_b52) (hb hby d5_308) fun T74 h74 X74 e74 W74 N74 old74 kp74 V74 ll74 => ?_
  show Go p e below _ (T74.setTop (mkF m 309 _ []))
  refine gs.iloadN X74.here hx (hb hby d5_309) rfl ?_
  refine gs.iconst 2 X74.here hx (hb hby d5_310) rfl ?_
  have hc311 : ¬ ((2 : Int32) < (2 : Int32)) := by decide
  refine gs.icmpNo X74.here hx (hb hby d5_311) (flt hc311).1 ?_
  refine gs.aload X74.here hx (hb hby d5_314) rfl rfl ?_
  refine gs.iloadN X74.here hx (hb hby d5_316) rfl ?_
  refine gs.bipush 22 X74.here hx (hb hby d5_317) rfl ?_
  refine gs.iadd X74.here hx (hb hby d5_319) ?_
  rw [show ((0 : Int32) + (22 : Int32)) = (22 : Int32) from by decide]
  refine gs.iload X74.here hx (hb hby d5_320) rfl ?_
  refine gs.cst X74 hx hZ e74 V74 22 (by decide) ll74 rfl N74 nn_b52 old74 kp74 (Or.inr sz_b52) (hb hby d5_322) fun T75 h75 X75 e75 W75 N75 old75 kp75 V75 ll75 => ?_
  show Go p e below _ (T75.setTop (mkF m 323 _ []))
  obtain ⟨T76, h76, X76, e76, E76, A76, D76, Y76, st76⟩ := newO X75 hx hZ hown (wd hw 4 rfl) (wd hw 5 rfl) (wd hw 6 rfl) e75 (g := (mkF m 323 #[.val (.int (0 : Int32)), .val (.int u1), .val (.int u2), .val (.int (2 : Int32)), .val (.int u4), .val (.int u5), .val (.int (2 : Int32)), .val (.ref b52), .val (.int (0 : Int32))] [])) rfl (hb hby d5_323) (by decide) (by decide)
  obtain ⟨b76, g76⟩ : ∃ z, z = h75.size := ⟨_, rfl⟩
  rw [← g76] at A76 D76 Y76 st76
  have nn_b76 : n0 ≤ b76 := Nat.le_trans (old_z0 old75) (Nat.le_of_eq g76.symm)
  have sz_b76 : h0.size ≤ b76 := Nat.le_trans kp75.1 (Nat.le_of_eq g76.symm)
  have old76 := old75.ext E76
  have kp76 := kp75.ext E76
  have F76_value : Fld Z h76 b76 "java/lang/String" "value" "[B" .null := D76 (Or.inr (wd hw 20 rfl)) (ty := (.array .byte)) (by decide)
  have F76_coder : Fld Z h76 b76 "java/lang/String" "coder" "B" (.int (0 : Int32)) := D76 (Or.inr (wd hw 21 rfl)) (ty := .byte) (by decide)
  refine Go.fin st76 ?_
  show Go p e below _ (T76.setTop (mkF m 326 _ [(.ref b76)]))
  refine gs.dup X76.here hx (hb hby d5_326) rfl ?_
  refine gs.aload X76.here hx (hb hby d5_327) rfl rfl ?_
  have f77 := (V75.ext E76)
  have Kd78 : Arv Z h76 b52 k52 .char (23 : Int32) [(.int (32 : Int32)), (.int (99 : Int32)), (.int (97 : Int32)), (.int (110 : Int32)), (.int (110 : Int32)), (.int (111 : Int32)), (.int (116 : Int32)), (.int (32 : Int32)), (.int (116 : Int32)), (.int (97 : Int32)), (.int (107 : Int32)), (.int (101 : Int32)), (.int (32 : Int32)), (.int (101 : Int32)), (.int (102 : Int32)), (.int (102 : Int32)), (.int (101 : Int32)), (.int (99 : Int32)), (.int (116 : Int32)), (.int (58 : Int32)), (.int (32 : Int32)), (.int (u4.toUInt32.toUInt16.toUInt32.toInt32)), (.int (u5.toUInt32.toUInt16.toUInt32.toInt32))] (.int (0 : Int32)) := by have q := f77; simp only [List.set] at q; exact q
  have Kc78 := Kd78
  simp only [h_4.1, h_5.1] at Kc78
  obtain ⟨lc78, XX78, NN78⟩ := hide_locs X76 N75
  obtain ⟨cl78, hcl78⟩ : ∃ z : List Int32, z = ([(32 : Int32), (99 : Int32), (97 : Int32), (110 : Int32), (110 : Int32), (111 : Int32), (116 : Int32), (32 : Int32), (116 : Int32), (97 : Int32), (107 : Int32), (101 : Int32), (32 : Int32), (101 : Int32), (102 : Int32), (102 : Int32), (101 : Int32), (99 : Int32), (116 : Int32), (58 : Int32), (32 : Int32), u4, u5] : List Int32) := ⟨_, rfl⟩
  have Kcl78 : Arv Z h76 b52 k52 .char (23 : Int32) (cl78.map Value.int) (.int (0 : Int32)) := by rw [hcl78]; exact Kc78
  have ncl78 : cl78.length = 23 := by rw [hcl78]; rfl
  have pcl78 : ∀ c ∈ cl78, ¬ c < 0 ∧ ¬ (255 : Int32) < c := by rw [hcl78]; exact (allcS (litc (by decide)) (allcS (litc (by decide)) (allcS (litc (by decide)) (allcS (litc (by decide)) (allcS (litc (by decide)) (allcS (litc (by decide)) (allcS (litc (by decide)) (allcS (litc (by decide)) (allcS (litc (by decide)) (allcS (litc (by decide)) (allcS (litc (by decide)) (allcS (litc (by decide)) (allcS (litc (by decide)) (allcS (litc (by decide)) (allcS (litc (by decide)) (allcS (litc (by decide)) (allcS (litc (by decide)) (allcS (litc (by decide)) (allcS (litc (by decide)) (allcS (litc (by decide)) (allcS (litc (by decide)) (allcS ⟨h_4.2.2.1, h_4.2.1⟩ (allcS ⟨h_5.2.2.1, h_5.2.1⟩ allc0)))))))))))))))))))))))
  obtain ⟨_, _, ⟨T78, L78, k78, n78⟩, -, X78, ⟨Lc78, hQ78, l78, y78, z78⟩, st78⟩ := XX78.specialBack hx (y := y_2) rfl hown (mvT hZ (wd hw 8 rfl)) (mvT hZ (wd hw 9 rfl)) (mvT hZ (wd hw 10 rfl)) (by decide) (StrChars.Road.backV (W := 1) hZ (vwords hw) (wd hw 5 rfl) nn_b76 (old_z0 old76) A76 F76_value F76_coder (cs := cl78) (bs := cl78.map StrChars.lo8) (N := (23 : Int32)) (n := 23) Kcl78 (S_cs.ext old76.2) N_cs ncl78 (by decide) (by decide) (by decide) pcl78 (map_lo8 _) (by decide) (by decide)) (g := (mkF m 329 #[.val (.int (0 : Int32)), .val (.int u1), .val (.int u2), .val (.int (2 : Int32)), .val (.int u4), .val (.int u5), .val (.int (2 : Int32)), .val (.ref b52), .val (.int (0 : Int32))] [(.ref b52), (.ref b76), (.ref b76)])) rfl (by rw [hml]; rfl) (Steps.refl _) (a := b76) (argsL := [(.ref b52)]) (rest := [(.ref b76)]) (lenOf pd_1 rfl) rfl (by show 2 * 0 + _ ≤ _; exact Nat.le_of_eq rfl) (hb hby d5_329) (fun _ _ => ⟨rfl, e76, (by decide : 2 + 1 ≤ _), (by decide : 27 + 23 ≤ _)⟩)
  dsimp only [Pt.U, Pt.locs, Pt.cells, Pt.slots] at X78 l78 y78 z78 st78 hQ78
  subst l78 y78 z78
  obtain ⟨rfl, Nq78, K78, Ex78, Fc78, t78, kb78, -, gt_t78, -, Fv78, Va78⟩ := hQ78
  have nn_t78 : n0 ≤ t78 := Nat.le_trans (old_z0 old76) gt_t78
  have sz_t78 : h0.size ≤ t78 := Nat.le_trans kp76.1 gt_t78
  have old78 := old76.keep K78 (allS nn_b76 all0)
  have kp78 := kp76.trans K78 (allS (Or.inr sz_b76) all0)
  have N78 := Fr.app NN78 Nq78
  refine Go.step (fun t_ k_ => st78.trans k_) ?_
  show Go p e below _ (T78.setTop (mkF m 332 #[.val (.int (0 : Int32)), .val (.int u1), .val (.int u2), .val (.int (2 : Int32)), .val (.int u4), .val (.int u5), .val (.int (2 : Int32)), .val (.ref b52), .val (.int (0 : Int32))] [(.ref b76)]))
  refine Go.retR X78 hx Bd.returns rfl rfl Bd.notSynchronized (hb hby d5_332) (by exact ⟨b76, rfl, sz_b76, N78, kp78, ⟨_, _, Fv78, (by rw [show ((21 : Int32) + ((0 : Int32) + (2 : Int32))) = (23 : Int32) from by decide, show csAll (0 : Int32) u1 u2 (2 : Int32) u4 u5 = cl78 from by rw [hcl78]; rw [csAll, pk0, pk2]; rfl]; exact Va78)⟩, Ex78, Fc78⟩) (by decide) (by decide)
set_option maxRecDepth 65536 in
set_option maxHeartbeats 40000000 in
theorem rm5_10 (l : Launch) (Z : State) (a0 : Array Value) (hw : ∀ d ∈ tables_1, d.before a0 Z = true) (ws : List Jvm.Cond) (cs_ : Int32) (un_ : Value) (sn_ : Value) (HW : Wd Z cs_ un_ sn_) (u1 : Int32) (u2 : Int32) (u4 : Int32) (u5 : Int32) (h0 : Heap) (n0 : Nat) (Ol : Old Z n0 h0) (h_1 : CH8 u1) (h_2 : CH8 u2) (h_4 : CH8 u4) (h_5 : CH8 u5) :
    MetFree l y_5 (head1 (Jvm.Cond.code y_5 method_4_code 9 (some (.object "java/lang/String")) :: ws) (rm 4 3 54 66)) (fun a_ U_ => a_ = #[(.int (1 : Int32)), (.int u1), (.int u2), (.int (0 : Int32)), (.int u4), (.int u5)] ∧ Z.Warmed39 U_.vm ∧ U_.heap = h0) (fun _ _ _ _ _ => True) (fun _ U_ o_ V_ => ∃ v_ L_, o_ = .returned v_ ∧ Q_rm5 Z cs_ un_ sn_ (1 : Int32) u1 u2 (0 : Int32) u4 u5 h0 n0 v_ V_.heap L_ ∧ FrameEnd U_ o_ V_ L_ (rm 4 3 54 66).cells (rm 4 3 54 66).slots) := by
  refine MetFree.of_bodySF (plainFor_of_name pn_2) hisR ?_
  intro p e s m args below meth c s₁ Bd hml0 hP hK
  obtain ⟨rfl, hZ, hh⟩ := hP
  have hx := Bd.exec
  have hby := Bd.bytes
  have hml : c.maxLocals = 9 := hml0
  have hown : s.vm.findClass "com/example/penelope/penelope/internal/CoverageCannotTakeEffectPinLaw" = some m.cls := findClass_of_methodNamed Bd.named
  have hnm := (name_of_methodNamed Bd.named Bd.method).1
  have X0 : Stand p l e (rm 4 3 54 66) s m #[(.int (1 : Int32)), (.int u1), (.int u2), (.int (0 : Int32)), (.int u4), (.int u5)] below meth c s₁ [] 0 0 := Stand.of_body Bd
  have e0 : s₁.heap = h0 := by rw [← hh, Bd.state]; rfl
  have N0 := Fr.nil n0
  have kp0 := Keep.refl h0 []
  show Go p e below (Fin1 s below (Q_rm5 Z cs_ un_ sn_ (1 : Int32) u1 u2 (0 : Int32) u4 u5 h0 n0) (rm 4 3 54 66).cells (rm 4 3 54 66).slots) _
  refine Go.step (fun t_ k_ => castTop (ef_rm5 m (1 : Int32) u1 u2 (0 : Int32) u4 u5) k_) ?_
  obtain ⟨S_cs, N_cs, S_un, R_un, S_sn, R_sn⟩ := id HW
  show Go p e below _ (s₁.setTop (mkF m 0 #[.val (.int (1 : Int32)), .val (.int u1), .val (.int u2), .val (.int (0 : Int32)), .val (.int u4), .val (.int u5), .unset, .unset, .unset] []))
  show Go p e below _ (s₁.setTop (mkF m 0 #[.val (.int (1 : Int32)), .val (.int u1), .val (.int u2), .val (.int (0 : Int32)), .val (.int u4), .val (.int u5), .unset, .unset, .unset] []))
  refine gs.iloadN X0.here hx (hb hby d5_0) rfl ?_
  refine gs.iloadN X0.here hx (hb hby d5_1) rfl ?_
  refine gs.iadd X0.here hx (hb hby d5_2) ?_
  rw [show ((1 : Int32) + (0 : Int32)) = (1 : Int32) from by decide]
  refine gs.istore X0.here hx (hb hby d5_3) (l' := #[.val (.int (1 : Int32)), .val (.int u1), .val (.int u2), .val (.int (0 : Int32)), .val (.int u4), .val (.int u5), .val (.int (1 : Int32)), .unset, .unset]) rfl ?_
  refine gs.iload X0.here hx (hb hby d5_5) rfl ?_
  have hc7 : ¬ ((1 : Int32) = (0 : Int32)) := by decide
  refine gs.ifYes 19 X0.here hx (hb hby d5_7) ((if0 _ _).trans (feq hc7).2) rfl ?_
  refine gs.iload X0.here hx (hb hby d5_19) rfl ?_
  refine gs.iconst 1 X0.here hx (hb hby d5_21) rfl ?_
  have hc22 : (1 : Int32) = (1 : Int32) := by decide
  refine gs.icmpNo X0.here hx (hb hby d5_22) (teq hc22).2 ?_
  refine gs.bipush 22 X0.here hx (hb hby d5_25) rfl ?_
  obtain ⟨T79, h79, k79, X79, e79, E79, A79, st79⟩ := newP X0 hx hZ (wd hw 7 rfl) e0 (g := (mkF m 27 #[.val (.int (1 : Int32)), .val (.int u1), .val (.int u2), .val (.int (0 : Int32)), .val (.int u4), .val (.int u5), .val (.int (1 : Int32)), .unset, .unset] [(.int (22 : Int32))])) rfl (hb hby d5_27) rfl (by decide) (cap := 22) (by decide) (by decide) (by decide) (by decide)
  obtain ⟨b79, g79⟩ : ∃ z, z = h0.size := ⟨_, rfl⟩
  rw [← g79] at A79 st79
  have nn_b79 : n0 ≤ b79 := Nat.le_trans (old_z0 Ol) (Nat.le_of_eq g79.symm)
  have sz_b79 : h0.size ≤ b79 := Nat.le_trans kp0.1 (Nat.le_of_eq g79.symm)
  have old79 := Ol.ext E79
  have kp79 := kp0.ext E79
  have V79 : Arv Z h79 b79 k79 .char (22 : Int32) [(.int (0 : Int32)), (.int (0 : Int32)), (.int (0 : Int32)), (.int (0 : Int32)), (.int (0 : Int32)), (.int (0 : Int32)), (.int (0 : Int32)), (.int (0 : Int32)), (.int (0 : Int32)), (.int (0 : Int32)), (.int (0 : Int32)), (.int (0 : Int32)), (.int (0 : Int32)), (.int (0 : Int32)), (.int (0 : Int32)), (.int (0 : Int32)), (.int (0 : Int32)), (.int (0 : Int32)), (.int (0 : Int32)), (.int (0 : Int32)), (.int (0 : Int32)), (.int (0 : Int32))] (.int (0 : Int32)) := (Arv.new A79 (by decide)).pad (pad_rep [] (.int (0 : Int32)) 22)
  refine Go.fin st79 ?_
  show Go p e below _ (T79.setTop (mkF m 29 _ [(.ref b79)]))
  refine gs.astore X79.here hx (hb hby d5_29) rfl (l' := #[.val (.int (1 : Int32)), .val (.int u1), .val (.int u2), .val (.int (0 : Int32)), .val (.int u4), .val (.int u5), .val (.int (1 : Int32)), .val (.ref b79), .unset]) rfl ?_
  refine gs.goto 70 X79.here hx (hb hby d5_31) rfl ?_
  refine gs.iloadN X79.here hx (hb hby d5_70) rfl ?_
  refine gs.iconst 1 X79.here hx (hb hby d5_71) rfl ?_
  have hc72 : ¬ ((1 : Int32) < (1 : Int32)) := by decide
  refine gs.icmpNo X79.here hx (hb hby d5_72) (flt hc72).1 ?_
  refine gs.aload X79.here hx (hb hby d5_75) rfl rfl ?_
  refine gs.iconst 0 X79.here hx (hb hby d5_77) rfl ?_
  refine gs.iloadN X79.here hx (hb hby d5_78) rfl ?_
  refine gs.cst X79 hx hZ e79 V79 0 (by decide) (rfl : ([(.int (0 : Int32)), (.int (0 : Int32)), (.int (0 : Int32)), (.int (0 : Int32)), (.int (0 : Int32)), (.int (0 : Int32)), (.int (0 : Int32)), (.int (0 : Int32)), (.int (0 : Int32)), (.int (0 : Int32)), (.int (0 : Int32)), (.int (0 : Int32)), (.int (0 : Int32)), (.int (0 : Int32)), (.int (0 : Int32)), (.int (0 : Int32)), (.int (0 : Int32)), (.int (0 : Int32)), (.int (0 : Int32)), (.int (0 : Int32)), (.int (0 : Int32)), (.int (0 : Int32))] : List Value).length = 22) rfl N0 nn_b79 old79 kp79 (Or.inr sz_b79) (hb hby d5_79) fun T80 h80 X80 e80 W80 N80 old80 kp80 V80 ll80 => ?_
  show Go p e below _ (T80.setTop (mkF m 80 _ []))
  refine gs.iloadN X80.here hx (hb hby d5_80) rfl ?_
  refine gs.iconst 2 X80.here hx (hb hby d5_81) rfl ?_
  have hc82 : (1 : Int32) < (2 : Int32) := by decide
  refine gs.icmpYes 90 X80.here hx (hb hby d5_82) (tlt hc82).1 rfl ?_
  refine gs.iloadN X80.here hx (hb hby d5_90) rfl ?_
  refine gs.istore X80.here hx (hb hby d5_91) (l' := #[.val (.int (1 : Int32)), .val (.int u1), .val (.int u2), .val (.int (0 : Int32)), .val (.int u4), .val (.int u5), .val (.int (1 : Int32)), .val (.ref b79), .val (.int (1 : Int32))]) rfl ?_
  refine gs.aload X80.here hx (hb hby d5_93) rfl rfl ?_
  refine gs.iload X80.here hx (hb hby d5_95) rfl ?_
  refine gs.bipush 32 X80.here hx (hb hby d5_97) rfl ?_
  refine gs.cst X80 hx hZ e80 V80 1 (by decide) ll80 rfl N80 nn_b79 old80 kp80 (Or.inr sz_b79) (hb hby d5_99) fun T81 h81 X81 e81 W81 N81 old81 kp81 V81 ll81 => ?_
  show Go p e below _ (T81.setTop (mkF m 100 _ []))
  refine gs.aload X81.here hx (hb hby d5_100) rfl rfl ?_
  refine gs.iload X81.here hx (hb hby d5_102) rfl ?_
  refine gs.iconst 1 X81.here hx (hb hby d5_104) rfl ?_
  refine gs.iadd X81.here hx (hb hby d5_105) ?_
  rw [show ((1 : Int32) + (1 : Int32)) = (2 : Int32) from by decide]
  refine gs.bipush 99 X81.here hx (hb hby d5_106) rfl ?_
  refine gs.cst X81 hx hZ e81 V81 2 (by decide) ll81 rfl N81 nn_b79 old81 kp81 (Or.inr sz_b79) (hb hby d5_108) fun T82 h82 X82 e82 W82 N82 old82 kp82 V82 ll82 => ?_
  show Go p e below _ (T82.setTop (mkF m 109 _ []))
  refine gs.aload X82.here hx (hb hby d5_109) rfl rfl ?_
  refine gs.iload X82.here hx (hb hby d5_111) rfl ?_
  refine gs.iconst 2 X82.here hx (hb hby d5_113) rfl ?_
  refine gs.iadd X82.here hx (hb hby d5_114) ?_
  rw [show ((1 : Int32) + (2 : Int32)) = (3 : Int32) from by decide]
  refine gs.bipush 97 X82.here hx (hb hby d5_115) rfl ?_
  refine gs.cst X82 hx hZ e82 V82 3 (by decide) ll82 rfl N82 nn_b79 old82 kp82 (Or.inr sz_b79) (hb hby d5_117) fun T83 h83 X83 e83 W83 N83 old83 kp83 V83 ll83 => ?_
  show Go p e below _ (T83.setTop (mkF m 118 _ []))
  refine gs.aload X83.here hx (hb hby d5_118) rfl rfl ?_
  refine gs.iload X83.here hx (hb hby d5_120) rfl ?_
  refine gs.iconst 3 X83.here hx (hb hby d5_122) rfl ?_
  refine gs.iadd X83.here hx (hb hby d5_123) ?_
  rw [show ((1 : Int32) + (3 : Int32)) = (4 : Int32) from by decide]
  refine gs.bipush 110 X83.here hx (hb hby d5_124) rfl ?_
  refine gs.cst X83 hx hZ e83 V83 4 (by decide) ll83 rfl N83 nn_b79 old83 kp83 (Or.inr sz_b79) (hb hby d5_126) fun T84 h84 X84 e84 W84 N84 old84 kp84 V84 ll84 => ?_
  show Go p e below _ (T84.setTop (mkF m 127 _ []))
  refine gs.aload X84.here hx (hb hby d5_127) rfl rfl ?_
  refine gs.iload X84.here hx (hb hby d5_129) rfl ?_
  refine gs.iconst 4 X84.here hx (hb hby d5_131) rfl ?_
  refine gs.iadd X84.here hx (hb hby d5_132) ?_
  rw [show ((1 : Int32) + (4 : Int32)) = (5 : Int32) from by decide]
  refine gs.bipush 110 X84.here hx (hb hby d5_133) rfl ?_
  refine gs.cst X84 hx hZ e84 V84 5 (by decide) ll84 rfl N84 nn_b79 old84 kp84 (Or.inr sz_b79) (hb hby d5_135) fun T85 h85 X85 e85 W85 N85 old85 kp85 V85 ll85 => ?_
  show Go p e below _ (T85.setTop (mkF m 136 _ []))
  refine gs.aload X85.here hx (hb hby d5_136) rfl rfl ?_
  refine gs.iload X85.here hx (hb hby d5_138) rfl ?_
  refine gs.iconst 5 X85.here hx (hb hby d5_140) rfl ?_
  refine gs.iadd X85.here hx (hb hby d5_141) ?_
  rw [show ((1 : Int32) + (5 : Int32)) = (6 : Int32) from by decide]
  refine gs.bipush 111 X85.here hx (hb hby d5_142) rfl ?_
  refine gs.cst X85 hx hZ e85 V85 6 (by decide) ll85 rfl N85 nn_b79 old85 kp85 (Or.inr sz_b79) (hb hby d5_144) fun T86 h86 X86 e86 W86 N86 old86 kp86 V86 ll86 => ?_
  show Go p e below _ (T86.setTop (mkF m 145 _ []))
  refine gs.aload X86.here hx (hb hby d5_145) rfl rfl ?_
  refine gs.iload X86.here hx (hb hby d5_147) rfl ?_
  refine gs.bipush 6 X86.here hx (hb hby d5_149) rfl ?_
  refine gs.iadd X86.here hx (hb hby d5_151) ?_
  rw [show ((1 : Int32) + (6 : Int32)) = (7 : Int32) from by decide]
  refine gs.bipush 116 X86.here hx (hb hby d5_152) rfl ?_
  refine gs.cst X86 hx hZ e86 V86 7 (by decide) ll86 rfl N86 nn_b79 old86 kp86 (Or.inr sz_b79) (hb hby d5_154) fun T87 h87 X87 e87 W87 N87 old87 kp87 V87 ll87 => ?_
  show Go p e below _ (T87.setTop (mkF m 155 _ []))
  refine gs.aload X87.here hx (hb hby d5_155) rfl rfl ?_
  refine gs.iload X87.here hx (hb hby d5_157) rfl ?_
  refine gs.bipush 7 X87.here hx (hb hby d5_159) rfl ?_
  refine gs.iadd X87.here hx (hb hby d5_161) ?_
  rw [show ((1 : Int32) + (7 : Int32)) = (8 : Int32) from by decide]
  refine gs.bipush 32 X87.here hx (hb hby d5_162) rfl ?_
  refine gs.cst X87 hx hZ e87 V87 8 (by decide) ll87 rfl N87 nn_b79 old87 kp87 (Or.inr sz_b79) (hb hby d5_164) fun T88 h88 X88 e88 W88 N88 old88 kp88 V88 ll88 => ?_
  show Go p e below _ (T88.setTop (mkF m 165 _ []))
  refine gs.aload X88.here hx (hb hby d5_165) rfl rfl ?_
  refine gs.iload X88.here hx (hb hby d5_167) rfl ?_
  refine gs.bipush 8 X88.here hx (hb hby d5_169) rfl ?_
  refine gs.iadd X88.here hx (hb hby d5_171) ?_
  rw [show ((1 : Int32) + (8 : Int32)) = (9 : Int32) from by decide]
  refine gs.bipush 116 X88.here hx (hb hby d5_172) rfl ?_
  refine gs.cst X88 hx hZ e88 V88 9 (by decide) ll88 rfl N88 nn_b79 old88 kp88 (Or.inr sz_b79) (hb hby d5_174) fun T89 h89 X89 e89 W89 N89 old89 kp89 V89 ll89 => ?_
  show Go p e below _ (T89.setTop (mkF m 175 _ []))
  refine gs.aload X89.here hx (hb hby d5_175) rfl rfl ?_
  refine gs.iload X89.here hx (hb hby d5_177) rfl ?_
  refine gs.bipush 9 X89.here hx (hb hby d5_179) rfl ?_
  refine gs.iadd X89.here hx (hb hby d5_181) ?_
  rw [show ((1 : Int32) + (9 : Int32)) = (10 : Int32) from by decide]
  refine gs.bipush 97 X89.here hx (hb hby d5_182) rfl ?_
  refine gs.cst X89 hx hZ e89 V89 10 (by decide) ll89 rfl N89 nn_b79 old89 kp89 (Or.inr sz_b79) (hb hby d5_184) fun T90 h90 X90 e90 W90 N90 old90 kp90 V90 ll90 => ?_
  show Go p e below _ (T90.setTop (mkF m 185 _ []))
  refine gs.aload X90.here hx (hb hby d5_185) rfl rfl ?_
  refine gs.iload X90.here hx (hb hby d5_187) rfl ?_
  refine gs.bipush 10 X90.here hx (hb hby d5_189) rfl ?_
  refine gs.iadd X90.here hx (hb hby d5_191) ?_
  rw [show ((1 : Int32) + (10 : Int32)) = (11 : Int32) from by decide]
  refine gs.bipush 107 X90.here hx (hb hby d5_192) rfl ?_
  refine gs.cst X90 hx hZ e90 V90 11 (by decide) ll90 rfl N90 nn_b79 old90 kp90 (Or.inr sz_b79) (hb hby d5_194) fun T91 h91 X91 e91 W91 N91 old91 kp91 V91 ll91 => ?_
  show Go p e below _ (T91.setTop (mkF m 195 _ []))
  refine gs.aload X91.here hx (hb hby d5_195) rfl rfl ?_
  refine gs.iload X91.here hx (hb hby d5_197) rfl ?_
  refine gs.bipush 11 X91.here hx (hb hby d5_199) rfl ?_
  refine gs.iadd X91.here hx (hb hby d5_201) ?_
  rw [show ((1 : Int32) + (11 : Int32)) = (12 : Int32) from by decide]
  refine gs.bipush 101 X91.here hx (hb hby d5_202) rfl ?_
  refine gs.cst X91 hx hZ e91 V91 12 (by decide) ll91 rfl N91 nn_b79 old91 kp91 (Or.inr sz_b79) (hb hby d5_204) fun T92 h92 X92 e92 W92 N92 old92 kp92 V92 ll92 => ?_
  show Go p e below _ (T92.setTop (mkF m 205 _ []))
  refine gs.aload X92.here hx (hb hby d5_205) rfl rfl ?_
  refine gs.iload X92.here hx (hb hby d5_207) rfl ?_
  refine gs.bipush 12 X92.here hx (hb hby d5_209) rfl ?_
  refine gs.iadd X92.here hx (hb hby d5_211) ?_
  rw [show ((1 : Int32) + (12 : Int32)) = (13 : Int32) from by decide]
  refine gs.bipush 32 X92.here hx (hb hby d5_212) rfl ?_
  refine gs.cst X92 hx hZ e92 V92 13 (by decide) ll92 rfl N92 nn_b79 old92 kp92 (Or.inr sz_b79) (hb hby d5_214) fun T93 h93 X93 e93 W93 N93 old93 kp93 V93 ll93 => ?_
  show Go p e below _ (T93.setTop (mkF m 215 _ []))
  refine gs.aload X93.here hx (hb hby d5_215) rfl rfl ?_
  refine gs.iload X93.here hx (hb hby d5_217) rfl ?_
  refine gs.bipush 13 X93.here hx (hb hby d5_219) rfl ?_
  refine gs.iadd X93.here hx (hb hby d5_221) ?_
  rw [show ((1 : Int32) + (13 : Int32)) = (14 : Int32) from by decide]
  refine gs.bipush 101 X93.here hx (hb hby d5_222) rfl ?_
  refine gs.cst X93 hx hZ e93 V93 14 (by decide) ll93 rfl N93 nn_b79 old93 kp93 (Or.inr sz_b79) (hb hby d5_224) fun T94 h94 X94 e94 W94 N94 old94 kp94 V94 ll94 => ?_
  show Go p e below _ (T94.setTop (mkF m 225 _ []))
  refine gs.aload X94.here hx (hb hby d5_225) rfl rfl ?_
  refine gs.iload X94.here hx (hb hby d5_227) rfl ?_
  refine gs.bipush 14 X94.here hx (hb hby d5_229) rfl ?_
  refine gs.iadd X94.here hx (hb hby d5_231) ?_
  rw [show ((1 : Int32) + (14 : Int32)) = (15 : Int32) from by decide]
  refine gs.bipush 102 X94.here hx (hb hby d5_232) rfl ?_
  refine gs.cst X94 hx hZ e94 V94 15 (by decide) ll94 rfl N94 nn_b79 old94 kp94 (Or.inr sz_b79) (hb hby d5_234) fun T95 h95 X95 e95 W95 N95 old95 kp95 V95 ll95 => ?_
  show Go p e below _ (T95.setTop (mkF m 235 _ []))
  refine gs.aload X95.here hx (hb hby d5_235) rfl rfl ?_
  refine gs.iload X95.here hx (hb hby d5_237) rfl ?_
  refine gs.bipush 15 X95.here hx (hb hby d5_239) rfl ?_
  refine gs.iadd X95.here hx (hb hby d5_241) ?_
  rw [show ((1 : Int32) + (15 : Int32)) = (16 : Int32) from by decide]
  refine gs.bipush 102 X95.here hx (hb hby d5_242) rfl ?_
  refine gs.cst X95 hx hZ e95 V95 16 (by decide) ll95 rfl N95 nn_b79 old95 kp95 (Or.inr sz_b79) (hb hby d5_244) fun T96 h96 X96 e96 W96 N96 old96 kp96 V96 ll96 => ?_
  show Go p e below _ (T96.setTop (mkF m 245 _ []))
  refine gs.aload X96.here hx (hb hby d5_245) rfl rfl ?_
  refine gs.iload X96.here hx (hb hby d5_247) rfl ?_
  refine gs.bipush 16 X96.here hx (hb hby d5_249) rfl ?_
  refine gs.iadd X96.here hx (hb hby d5_251) ?_
  rw [show ((1 : Int32) + (16 : Int32)) = (17 : Int32) from by decide]
  refine gs.bipush 101 X96.here hx (hb hby d5_252) rfl ?_
  refine gs.cst X96 hx hZ e96 V96 17 (by decide) ll96 rfl N96 nn_b79 old96 kp96 (Or.inr sz_b79) (hb hby d5_254) fun T97 h97 X97 e97 W97 N97 old97 kp97 V97 ll97 => ?_
  show Go p e below _ (T97.setTop (mkF m 255 _ []))
  refine gs.aload X97.here hx (hb hby d5_255) rfl rfl ?_
  refine gs.iload X97.here hx (hb hby d5_257) rfl ?_
  refine gs.bipush 17 X97.here hx (hb hby d5_259) rfl ?_
  refine gs.iadd X97.here hx (hb hby d5_261) ?_
  rw [show ((1 : Int32) + (17 : Int32)) = (18 : Int32) from by decide]
  refine gs.bipush 99 X97.here hx (hb hby d5_262) rfl ?_
  refine gs.cst X97 hx hZ e97 V97 18 (by decide) ll97 rfl N97 nn_b79 old97 kp97 (Or.inr sz_b79) (hb hby d5_264) fun T98 h98 X98 e98 W98 N98 old98 kp98 V98 ll98 => ?_
  show Go p e below _ (T98.setTop (mkF m 265 _ []))
  refine gs.aload X98.here hx (hb hby d5_265) rfl rfl ?_
  refine gs.iload X98.here hx (hb hby d5_267) rfl ?_
  refine gs.bipush 18 X98.here hx (hb hby d5_269) rfl ?_
  refine gs.iadd X98.here hx (hb hby d5_271) ?_
  rw [show ((1 : Int32) + (18 : Int32)) = (19 : Int32) from by decide]
  refine gs.bipush 116 X98.here hx (hb hby d5_272) rfl ?_
  refine gs.cst X98 hx hZ e98 V98 19 (by decide) ll98 rfl N98 nn_b79 old98 kp98 (Or.inr sz_b79) (hb hby d5_274) fun T99 h99 X99 e99 W99 N99 old99 kp99 V99 ll99 => ?_
  show Go p e below _ (T99.setTop (mkF m 275 _ []))
  refine gs.aload X99.here hx (hb hby d5_275) rfl rfl ?_
  refine gs.iload X99.here hx (hb hby d5_277) rfl ?_
  refine gs.bipush 19 X99.here hx (hb hby d5_279) rfl ?_
  refine gs.iadd X99.here hx (hb hby d5_281) ?_
  rw [show ((1 : Int32) + (19 : Int32)) = (20 : Int32) from by decide]
  refine gs.bipush 58 X99.here hx (hb hby d5_282) rfl ?_
  refine gs.cst X99 hx hZ e99 V99 20 (by decide) ll99 rfl N99 nn_b79 old99 kp99 (Or.inr sz_b79) (hb hby d5_284) fun T100 h100 X100 e100 W100 N100 old100 kp100 V100 ll100 => ?_
  show Go p e below _ (T100.setTop (mkF m 285 _ []))
  refine gs.aload X100.here hx (hb hby d5_285) rfl rfl ?_
  refine gs.iload X100.here hx (hb hby d5_287) rfl ?_
  refine gs.bipush 20 X100.here hx (hb hby d5_289) rfl ?_
  refine gs.iadd X100.here hx (hb hby d5_291) ?_
  rw [show ((1 : Int32) + (20 : Int32)) = (21 : Int32) from by decide]
  refine gs.bipush 32 X100.here hx (hb hby d5_292) rfl ?_
  refine gs.cst X100 hx hZ e100 V100 21 (by decide) ll100 rfl N100 nn_b79 old100 kp100 (Or.inr sz_b79) (hb hby d5_294) fun T101 h101 X101 e101 W101 N101 old101 kp101 V101 ll101 => ?_
  show Go p e below _ (T101.setTop (mkF m 295 _ []))
  refine gs.iloadN X101.here hx (hb hby d5_295) rfl ?_
  refine gs.iconst 1 X101.here hx (hb hby d5_296) rfl ?_
  have hc297 : (0 : Int32) < (1 : Int32) := by decide
  refine gs.icmpYes 309 X101.here hx (hb hby d5_297) (tlt hc297).1 rfl ?_
  refine gs.iloadN X101.here hx (hb hby d5_309) rfl ?_
  refine gs.iconst 2 X101.here hx (hb hby d5_310) rfl ?_
  have hc311 : (0 : Int32) < (2 : Int32) := by decide
  refine gs.icmpYes 323 X101.here hx (hb hby d5_311) (tlt hc311).1 rfl ?_
  obtain ⟨T102, h102, X102, e102, E102, A102, D102, Y102, st102⟩ := newO X101 hx hZ hown (wd hw 4 rfl) (wd hw 5 rfl) (wd hw 6 rfl) e101 (g := (mkF m 323 #[.val (.int (1 : Int32)), .val (.int u1), .val (.int u2), .val (.int (0 : Int32)), .val (.int u4), .val (.int u5), .val (.int (1 : Int32)), .val (.ref b79), .val (.int (1 : Int32))] [])) rfl (hb hby d5_323) (by decide) (by decide)
  obtain ⟨b102, g102⟩ : ∃ z, z = h101.size := ⟨_, rfl⟩
  rw [← g102] at A102 D102 Y102 st102
  have nn_b102 : n0 ≤ b102 := Nat.le_trans (old_z0 old101) (Nat.le_of_eq g102.symm)
  have sz_b102 : h0.size ≤ b102 := Nat.le_trans kp101.1 (Nat.le_of_eq g102.symm)
  have old102 := old101.ext E102
  have kp102 := kp101.ext E102
  have F102_value : Fld Z h102 b102 "java/lang/String" "value" "[B" .null := D102 (Or.inr (wd hw 20 rfl)) (ty := (.array .byte)) (by decide)
  have F102_coder : Fld Z h102 b102 "java/lang/String" "coder" "B" (.int (0 : Int32)) := D102 (Or.inr (wd hw 21 rfl)) (ty := .byte) (by decide)
  refine Go.fin st102 ?_
  show Go p e below _ (T102.setTop (mkF m 326 _ [(.ref b102)]))
  refine gs.dup X102.here hx (hb hby d5_326) rfl ?_
  refine gs.aload X102.here hx (hb hby d5_327) rfl rfl ?_
  have f103 := (V101.ext E102)
  have Kd104 : Arv Z h102 b79 k79 .char (22 : Int32) [(.int (u1.toUInt32.toUInt16.toUInt32.toInt32)), (.int (32 : Int32)), (.int (99 : Int32)), (.int (97 : Int32)), (.int (110 : Int32)), (.int (110 : Int32)), (.int (111 : Int32)), (.int (116 : Int32)), (.int (32 : Int32)), (.int (116 : Int32)), (.int (97 : Int32)), (.int (107 : Int32)), (.int (101 : Int32)), (.int (32 : Int32)), (.int (101 : Int32)), (.int (102 : Int32)), (.int (102 : Int32)), (.int (101 : Int32)), (.int (99 : Int32)), (.int (116 : Int32)), (.int (58 : Int32)), (.int (32 : Int32))] (.int (0 : Int32)) := by have q := f103; simp only [List.set] at q; exact q
  have Kc104 := Kd104
  simp only [h_1.1] at Kc104
  obtain ⟨lc104, XX104, NN104⟩ := hide_locs X102 N101
  obtain ⟨cl104, hcl104⟩ : ∃ z : List Int32, z = ([u1, (32 : Int32), (99 : Int32), (97 : Int32), (110 : Int32), (110 : Int32), (111 : Int32), (116 : Int32), (32 : Int32), (116 : Int32), (97 : Int32), (107 : Int32), (101 : Int32), (32 : Int32), (101 : Int32), (102 : Int32), (102 : Int32), (101 : Int32), (99 : Int32), (116 : Int32), (58 : Int32), (32 : Int32)] : List Int32) := ⟨_, rfl⟩
  have Kcl104 : Arv Z h102 b79 k79 .char (22 : Int32) (cl104.map Value.int) (.int (0 : Int32)) := by rw [hcl104]; exact Kc104
  have ncl104 : cl104.length = 22 := by rw [hcl104]; rfl
  have pcl104 : ∀ c ∈ cl104, ¬ c < 0 ∧ ¬ (255 : Int32) < c := by rw [hcl104]; exact (allcS ⟨h_1.2.2.1, h_1.2.1⟩ (allcS (litc (by decide)) (allcS (litc (by decide)) (allcS (litc (by decide)) (allcS (litc (by decide)) (allcS (litc (by decide)) (allcS (litc (by decide)) (allcS (litc (by decide)) (allcS (litc (by decide)) (allcS (litc (by decide)) (allcS (litc (by decide)) (allcS (litc (by decide)) (allcS (litc (by decide)) (allcS (litc (by decide)) (allcS (litc (by decide)) (allcS (litc (by decide)) (allcS (litc (by decide)) (allcS (litc (by decide)) (allcS (litc (by decide)) (allcS (litc (by decide)) (allcS (litc (by decide)) (allcS (litc (by decide)) allc0))))))))))))))))))))))
  obtain ⟨_, _, ⟨T104, L104, k104, n104⟩, -, X104, ⟨Lc104, hQ104, l104, y104, z104⟩, st104⟩ := XX104.specialBack hx (y := y_2) rfl hown (mvT hZ (wd hw 8 rfl)) (mvT hZ (wd hw 9 rfl)) (mvT hZ (wd hw 10 rfl)) (by decide) (StrChars.Road.backV (W := 1) hZ (vwords hw) (wd hw 5 rfl) nn_b102 (old_z0 old102) A102 F102_value F102_coder (cs := cl104) (bs := cl104.map StrChars.lo8) (N := (22 : Int32)) (n := 22) Kcl104 (S_cs.ext old102.2) N_cs ncl104 (by decide) (by decide) (by decide) pcl104 (map_lo8 _) (by decide) (by decide)) (g := (mkF m 329 #[.val (.int (1 : Int32)), .val (.int u1), .val (.int u2), .val (.int (0 : Int32)), .val (.int u4), .val (.int u5), .val (.int (1 : Int32)), .val (.ref b79), .val (.int (1 : Int32))] [(.ref b79), (.ref b102), (.ref b102)])) rfl (by rw [hml]; rfl) (Steps.refl _) (a := b102) (argsL := [(.ref b79)]) (rest := [(.ref b102)]) (lenOf pd_1 rfl) rfl (by show 2 * 0 + _ ≤ _; exact Nat.le_of_eq rfl) (hb hby d5_329) (fun _ _ => ⟨rfl, e102, (by decide : 2 + 1 ≤ _), (by decide : 26 + 22 ≤ _)⟩)
  dsimp only [Pt.U, Pt.locs, Pt.cells, Pt.slots] at X104 l104 y104 z104 st104 hQ104
  subst l104 y104 z104
  obtain ⟨rfl, Nq104, K104, Ex104, Fc104, t104, kb104, -, gt_t104, -, Fv104, Va104⟩ := hQ104
  have nn_t104 : n0 ≤ t104 := Nat.le_trans (old_z0 old102) gt_t104
  have sz_t104 : h0.size ≤ t104 := Nat.le_trans kp102.1 gt_t104
  have old104 := old102.keep K104 (allS nn_b102 all0)
  have kp104 := kp102.trans K104 (allS (Or.inr sz_b102) all0)
  have N104 := Fr.app NN104 Nq104
  refine Go.step (fun t_ k_ => st104.trans k_) ?_
  show Go p e below _ (T104.setTop (mkF m 332 #[.val (.int (1 : Int32)), .val (.int u1), .val (.int u2), .val (.int (0 : Int32)), .val (.int u4), .val (.int u5), .val (.int (1 : Int32)), .val (.ref b79), .val (.int (1 : Int32))] [(.ref b102)]))
  refine Go.retR X104 hx Bd.returns rfl rfl Bd.notSynchronized (hb hby d5_332) (by exact ⟨b102, rfl, sz_b102, N104, kp104, ⟨_, _, Fv104, (by rw [show ((21 : Int32) + ((1 : Int32) + (0 : Int32))) = (22 : Int32) from by decide, show csAll (1 : Int32) u1 u2 (0 : Int32) u4 u5 = cl104 from by rw [hcl104]; rw [csAll, pk1, pk0]; rfl]; exact Va104)⟩, Ex104, Fc104⟩) (by decide) (by decide)
set_option maxRecDepth 65536 in
set_option maxHeartbeats 40000000 in
theorem rm5_11 (l : Launch) (Z : State) (a0 : Array Value) (hw : ∀ d ∈ tables_1, d.before a0 Z = true) (ws : List Jvm.Cond) (cs_ : Int32) (un_ : Value) (sn_ : Value) (HW : Wd Z cs_ un_ sn_) (u1 : Int32) (u2 : Int32) (u4 : Int32) (u5 : Int32) (h0 : Heap) (n0 : Nat) (Ol : Old Z n0 h0) (h_1 : CH8 u1) (h_2 : CH8 u2) (h_4 : CH8 u4) (h_5 : CH8 u5) :
    MetFree l y_5 (head1 (Jvm.Cond.code y_5 method_4_code 9 (some (.object "java/lang/String")) :: ws) (rm 4 3 54 66)) (fun a_ U_ => a_ = #[(.int (1 : Int32)), (.int u1), (.int u2), (.int (1 : Int32)), (.int u4), (.int u5)] ∧ Z.Warmed39 U_.vm ∧ U_.heap = h0) (fun _ _ _ _ _ => True) (fun _ U_ o_ V_ => ∃ v_ L_, o_ = .returned v_ ∧ Q_rm5 Z cs_ un_ sn_ (1 : Int32) u1 u2 (1 : Int32) u4 u5 h0 n0 v_ V_.heap L_ ∧ FrameEnd U_ o_ V_ L_ (rm 4 3 54 66).cells (rm 4 3 54 66).slots) := by
  refine MetFree.of_bodySF (plainFor_of_name pn_2) hisR ?_
  intro p e s m args below meth c s₁ Bd hml0 hP hK
  obtain ⟨rfl, hZ, hh⟩ := hP
  have hx := Bd.exec
  have hby := Bd.bytes
  have hml : c.maxLocals = 9 := hml0
  have hown : s.vm.findClass "com/example/penelope/penelope/internal/CoverageCannotTakeEffectPinLaw" = some m.cls := findClass_of_methodNamed Bd.named
  have hnm := (name_of_methodNamed Bd.named Bd.method).1
  have X0 : Stand p l e (rm 4 3 54 66) s m #[(.int (1 : Int32)), (.int u1), (.int u2), (.int (1 : Int32)), (.int u4), (.int u5)] below meth c s₁ [] 0 0 := Stand.of_body Bd
  have e0 : s₁.heap = h0 := by rw [← hh, Bd.state]; rfl
  have N0 := Fr.nil n0
  have kp0 := Keep.refl h0 []
  show Go p e below (Fin1 s below (Q_rm5 Z cs_ un_ sn_ (1 : Int32) u1 u2 (1 : Int32) u4 u5 h0 n0) (rm 4 3 54 66).cells (rm 4 3 54 66).slots) _
  refine Go.step (fun t_ k_ => castTop (ef_rm5 m (1 : Int32) u1 u2 (1 : Int32) u4 u5) k_) ?_
  obtain ⟨S_cs, N_cs, S_un, R_un, S_sn, R_sn⟩ := id HW
  show Go p e below _ (s₁.setTop (mkF m 0 #[.val (.int (1 : Int32)), .val (.int u1), .val (.int u2), .val (.int (1 : Int32)), .val (.int u4), .val (.int u5), .unset, .unset, .unset] []))
  show Go p e below _ (s₁.setTop (mkF m 0 #[.val (.int (1 : Int32)), .val (.int u1), .val (.int u2), .val (.int (1 : Int32)), .val (.int u4), .val (.int u5), .unset, .unset, .unset] []))
  refine gs.iloadN X0.here hx (hb hby d5_0) rfl ?_
  refine gs.iloadN X0.here hx (hb hby d5_1) rfl ?_
  refine gs.iadd X0.here hx (hb hby d5_2) ?_
  rw [show ((1 : Int32) + (1 : Int32)) = (2 : Int32) from by decide]
  refine gs.istore X0.here hx (hb hby d5_3) (l' := #[.val (.int (1 : Int32)), .val (.int u1), .val (.int u2), .val (.int (1 : Int32)), .val (.int u4), .val (.int u5), .val (.int (2 : Int32)), .unset, .unset]) rfl ?_
  refine gs.iload X0.here hx (hb hby d5_5) rfl ?_
  have hc7 : ¬ ((2 : Int32) = (0 : Int32)) := by decide
  refine gs.ifYes 19 X0.here hx (hb hby d5_7) ((if0 _ _).trans (feq hc7).2) rfl ?_
  refine gs.iload X0.here hx (hb hby d5_19) rfl ?_
  refine gs.iconst 1 X0.here hx (hb hby d5_21) rfl ?_
  have hc22 : ¬ ((2 : Int32) = (1 : Int32)) := by decide
  refine gs.icmpYes 34 X0.here hx (hb hby d5_22) (feq hc22).2 rfl ?_
  refine gs.iload X0.here hx (hb hby d5_34) rfl ?_
  refine gs.iconst 2 X0.here hx (hb hby d5_36) rfl ?_
  have hc37 : (2 : Int32) = (2 : Int32) := by decide
  refine gs.icmpNo X0.here hx (hb hby d5_37) (teq hc37).2 ?_
  refine gs.bipush 23 X0.here hx (hb hby d5_40) rfl ?_
  obtain ⟨T105, h105, k105, X105, e105, E105, A105, st105⟩ := newP X0 hx hZ (wd hw 7 rfl) e0 (g := (mkF m 42 #[.val (.int (1 : Int32)), .val (.int u1), .val (.int u2), .val (.int (1 : Int32)), .val (.int u4), .val (.int u5), .val (.int (2 : Int32)), .unset, .unset] [(.int (23 : Int32))])) rfl (hb hby d5_42) rfl (by decide) (cap := 23) (by decide) (by decide) (by decide) (by decide)
  obtain ⟨b105, g105⟩ : ∃ z, z = h0.size := ⟨_, rfl⟩
  rw [← g105] at A105 st105
  have nn_b105 : n0 ≤ b105 := Nat.le_trans (old_z0 Ol) (Nat.le_of_eq g105.symm)
  have sz_b105 : h0.size ≤ b105 := Nat.le_trans kp0.1 (Nat.le_of_eq g105.symm)
  have old105 := Ol.ext E105
  have kp105 := kp0.ext E105
  have V105 : Arv Z h105 b105 k105 .char (23 : Int32) [(.int (0 : Int32)), (.int (0 : Int32)), (.int (0 : Int32)), (.int (0 : Int32)), (.int (0 : Int32)), (.int (0 : Int32)), (.int (0 : Int32)), (.int (0 : Int32)), (.int (0 : Int32)), (.int (0 : Int32)), (.int (0 : Int32)), (.int (0 : Int32)), (.int (0 : Int32)), (.int (0 : Int32)), (.int (0 : Int32)), (.int (0 : Int32)), (.int (0 : Int32)), (.int (0 : Int32)), (.int (0 : Int32)), (.int (0 : Int32)), (.int (0 : Int32)), (.int (0 : Int32)), (.int (0 : Int32))] (.int (0 : Int32)) := (Arv.new A105 (by decide)).pad (pad_rep [] (.int (0 : Int32)) 23)
  refine Go.fin st105 ?_
  show Go p e below _ (T105.setTop (mkF m 44 _ [(.ref b105)]))
  refine gs.astore X105.here hx (hb hby d5_44) rfl (l' := #[.val (.int (1 : Int32)), .val (.int u1), .val (.int u2), .val (.int (1 : Int32)), .val (.int u4), .val (.int u5), .val (.int (2 : Int32)), .val (.ref b105), .unset]) rfl ?_
  refine gs.goto 70 X105.here hx (hb hby d5_46) rfl ?_
  refine gs.iloadN X105.here hx (hb hby d5_70) rfl ?_
  refine gs.iconst 1 X105.here hx (hb hby d5_71) rfl ?_
  have hc72 : ¬ ((1 : Int32) < (1 : Int32)) := by decide
  refine gs.icmpNo X105.here hx (hb hby d5_72) (flt hc72).1 ?_
  refine gs.aload X105.here hx (hb hby d5_75) rfl rfl ?_
  refine gs.iconst 0 X105.here hx (hb hby d5_77) rfl ?_
  refine gs.iloadN X105.here hx (hb hby d5_78) rfl ?_
  refine gs.cst X105 hx hZ e105 V105 0 (by decide) (rfl : ([(.int (0 : Int32)), (.int (0 : Int32)), (.int (0 : Int32)), (.int (0 : Int32)), (.int (0 : Int32)), (.int (0 : Int32)), (.int (0 : Int32)), (.int (0 : Int32)), (.int (0 : Int32)), (.int (0 : Int32)), (.int (0 : Int32)), (.int (0 : Int32)), (.int (0 : Int32)), (.int (0 : Int32)), (.int (0 : Int32)), (.int (0 : Int32)), (.int (0 : Int32)), (.int (0 : Int32)), (.int (0 : Int32)), (.int (0 : Int32)), (.int (0 : Int32)), (.int (0 : Int32)), (.int (0 : Int32))] : List Value).length = 23) rfl N0 nn_b105 old105 kp105 (Or.inr sz_b105) (hb hby d5_79) fun T106 h106 X106 e106 W106 N106 old106 kp106 V106 ll106 => ?_
  show Go p e below _ (T106.setTop (mkF m 80 _ []))
  refine gs.iloadN X106.here hx (hb hby d5_80) rfl ?_
  refine gs.iconst 2 X106.here hx (hb hby d5_81) rfl ?_
  have hc82 : (1 : Int32) < (2 : Int32) := by decide
  refine gs.icmpYes 90 X106.here hx (hb hby d5_82) (tlt hc82).1 rfl ?_
  refine gs.iloadN X106.here hx (hb hby d5_90) rfl ?_
  refine gs.istore X106.here hx (hb hby d5_91) (l' := #[.val (.int (1 : Int32)), .val (.int u1), .val (.int u2), .val (.int (1 : Int32)), .val (.int u4), .val (.int u5), .val (.int (2 : Int32)), .val (.ref b105), .val (.int (1 : Int32))]) rfl ?_
  refine gs.aload X106.here hx (hb hby d5_93) rfl rfl ?_
  refine gs.iload X106.here hx (hb hby d5_95) rfl ?_
  refine gs.bipush 32 X106.here hx (hb hby d5_97) rfl ?_
  refine gs.cst X106 hx hZ e106 V106 1 (by decide) ll106 rfl N106 nn_b105 old106 kp106 (Or.inr sz_b105) (hb hby d5_99) fun T107 h107 X107 e107 W107 N107 old107 kp107 V107 ll107 => ?_
  show Go p e below _ (T107.setTop (mkF m 100 _ []))
  refine gs.aload X107.here hx (hb hby d5_100) rfl rfl ?_
  refine gs.iload X107.here hx (hb hby d5_102) rfl ?_
  refine gs.iconst 1 X107.here hx (hb hby d5_104) rfl ?_
  refine gs.iadd X107.here hx (hb hby d5_105) ?_
  rw [show ((1 : Int32) + (1 : Int32)) = (2 : Int32) from by decide]
  refine gs.bipush 99 X107.here hx (hb hby d5_106) rfl ?_
  refine gs.cst X107 hx hZ e107 V107 2 (by decide) ll107 rfl N107 nn_b105 old107 kp107 (Or.inr sz_b105) (hb hby d5_108) fun T108 h108 X108 e108 W108 N108 old108 kp108 V108 ll108 => ?_
  show Go p e below _ (T108.setTop (mkF m 109 _ []))
  refine gs.aload X108.here hx (hb hby d5_109) rfl rfl ?_
  refine gs.iload X108.here hx (hb hby d5_111) rfl ?_
  refine gs.iconst 2 X108.here hx (hb hby d5_113) rfl ?_
  refine gs.iadd X108.here hx (hb hby d5_114) ?_
  rw [show ((1 : Int32) + (2 : Int32)) = (3 : Int32) from by decide]
  refine gs.bipush 97 X108.here hx (hb hby d5_115) rfl ?_
  refine gs.cst X108 hx hZ e108 V108 3 (by decide) ll108 rfl N108 nn_b105 old108 kp108 (Or.inr sz_b105) (hb hby d5_117) fun T109 h109 X109 e109 W109 N109 old109 kp109 V109 ll109 => ?_
  show Go p e below _ (T109.setTop (mkF m 118 _ []))
  refine gs.aload X109.here hx (hb hby d5_118) rfl rfl ?_
  refine gs.iload X109.here hx (hb hby d5_120) rfl ?_
  refine gs.iconst 3 X109.here hx (hb hby d5_122) rfl ?_
  refine gs.iadd X109.here hx (hb hby d5_123) ?_
  rw [show ((1 : Int32) + (3 : Int32)) = (4 : Int32) from by decide]
  refine gs.bipush 110 X109.here hx (hb hby d5_124) rfl ?_
  refine gs.cst X109 hx hZ e109 V109 4 (by decide) ll109 rfl N109 nn_b105 old109 kp109 (Or.inr sz_b105) (hb hby d5_126) fun T110 h110 X110 e110 W110 N110 old110 kp110 V110 ll110 => ?_
  show Go p e below _ (T110.setTop (mkF m 127 _ []))
  refine gs.aload X110.here hx (hb hby d5_127) rfl rfl ?_
  refine gs.iload X110.here hx (hb hby d5_129) rfl ?_
  refine gs.iconst 4 X110.here hx (hb hby d5_131) rfl ?_
  refine gs.iadd X110.here hx (hb hby d5_132) ?_
  rw [show ((1 : Int32) + (4 : Int32)) = (5 : Int32) from by decide]
  refine gs.bipush 110 X110.here hx (hb hby d5_133) rfl ?_
  refine gs.cst X110 hx hZ e110 V110 5 (by decide) ll110 rfl N110 nn_b105 old110 kp110 (Or.inr sz_b105) (hb hby d5_135) fun T111 h111 X111 e111 W111 N111 old111 kp111 V111 ll111 => ?_
  show Go p e below _ (T111.setTop (mkF m 136 _ []))
  refine gs.aload X111.here hx (hb hby d5_136) rfl rfl ?_
  refine gs.iload X111.here hx (hb hby d5_138) rfl ?_
  refine gs.iconst 5 X111.here hx (hb hby d5_140) rfl ?_
  refine gs.iadd X111.here hx (hb hby d5_141) ?_
  rw [show ((1 : Int32) + (5 : Int32)) = (6 : Int32) from by decide]
  refine gs.bipush 111 X111.here hx (hb hby d5_142) rfl ?_
  refine gs.cst X111 hx hZ e111 V111 6 (by decide) ll111 rfl N111 nn_b105 old111 kp111 (Or.inr sz_b105) (hb hby d5_144) fun T112 h112 X112 e112 W112 N112 old112 kp112 V112 ll112 => ?_
  show Go p e below _ (T112.setTop (mkF m 145 _ []))
  refine gs.aload X112.here hx (hb hby d5_145) rfl rfl ?_
  refine gs.iload X112.here hx (hb hby d5_147) rfl ?_
  refine gs.bipush 6 X112.here hx (hb hby d5_149) rfl ?_
  refine gs.iadd X112.here hx (hb hby d5_151) ?_
  rw [show ((1 : Int32) + (6 : Int32)) = (7 : Int32) from by decide]
  refine gs.bipush 116 X112.here hx (hb hby d5_152) rfl ?_
  refine gs.cst X112 hx hZ e112 V112 7 (by decide) ll112 rfl N112 nn_b105 old112 kp112 (Or.inr sz_b105) (hb hby d5_154) fun T113 h113 X113 e113 W113 N113 old113 kp113 V113 ll113 => ?_
  show Go p e below _ (T113.setTop (mkF m 155 _ []))
  refine gs.aload X113.here hx (hb hby d5_155) rfl rfl ?_
  refine gs.iload X113.here hx (hb hby d5_157) rfl ?_
  refine gs.bipush 7 X113.here hx (hb hby d5_159) rfl ?_
  refine gs.iadd X113.here hx (hb hby d5_161) ?_
  rw [show ((1 : Int32) + (7 : Int32)) = (8 : Int32) from by decide]
  refine gs.bipush 32 X113.here hx (hb hby d5_162) rfl ?_
  refine gs.cst X113 hx hZ e113 V113 8 (by decide) ll113 rfl N113 nn_b105 old113 kp113 (Or.inr sz_b105) (hb hby d5_164) fun T114 h114 X114 e114 W114 N114 old114 kp114 V114 ll114 => ?_
  show Go p e below _ (T114.setTop (mkF m 165 _ []))
  refine gs.aload X114.here hx (hb hby d5_165) rfl rfl ?_
  refine gs.iload X114.here hx (hb hby d5_167) rfl ?_
  refine gs.bipush 8 X114.here hx (hb hby d5_169) rfl ?_
  refine gs.iadd X114.here hx (hb hby d5_171) ?_
  rw [show ((1 : Int32) + (8 : Int32)) = (9 : Int32) from by decide]
  refine gs.bipush 116 X114.here hx (hb hby d5_172) rfl ?_
  refine gs.cst X114 hx hZ e114 V114 9 (by decide) ll114 rfl N114 nn_b105 old114 kp114 (Or.inr sz_b105) (hb hby d5_174) fun T115 h115 X115 e115 W115 N115 old115 kp115 V115 ll115 => ?_
  show Go p e below _ (T115.setTop (mkF m 175 _ []))
  refine gs.aload X115.here hx (hb hby d5_175) rfl rfl ?_
  refine gs.iload X115.here hx (hb hby d5_177) rfl ?_
  refine gs.bipush 9 X115.here hx (hb hby d5_179) rfl ?_
  refine gs.iadd X115.here hx (hb hby d5_181) ?_
  rw [show ((1 : Int32) + (9 : Int32)) = (10 : Int32) from by decide]
  refine gs.bipush 97 X115.here hx (hb hby d5_182) rfl ?_
  refine gs.cst X115 hx hZ e115 V115 10 (by decide) ll115 rfl N115 nn_b105 old115 kp115 (Or.inr sz_b105) (hb hby d5_184) fun T116 h116 X116 e116 W116 N116 old116 kp116 V116 ll116 => ?_
  show Go p e below _ (T116.setTop (mkF m 185 _ []))
  refine gs.aload X116.here hx (hb hby d5_185) rfl rfl ?_
  refine gs.iload X116.here hx (hb hby d5_187) rfl ?_
  refine gs.bipush 10 X116.here hx (hb hby d5_189) rfl ?_
  refine gs.iadd X116.here hx (hb hby d5_191) ?_
  rw [show ((1 : Int32) + (10 : Int32)) = (11 : Int32) from by decide]
  refine gs.bipush 107 X116.here hx (hb hby d5_192) rfl ?_
  refine gs.cst X116 hx hZ e116 V116 11 (by decide) ll116 rfl N116 nn_b105 old116 kp116 (Or.inr sz_b105) (hb hby d5_194) fun T117 h117 X117 e117 W117 N117 old117 kp117 V117 ll117 => ?_
  show Go p e below _ (T117.setTop (mkF m 195 _ []))
  refine gs.aload X117.here hx (hb hby d5_195) rfl rfl ?_
  refine gs.iload X117.here hx (hb hby d5_197) rfl ?_
  refine gs.bipush 11 X117.here hx (hb hby d5_199) rfl ?_
  refine gs.iadd X117.here hx (hb hby d5_201) ?_
  rw [show ((1 : Int32) + (11 : Int32)) = (12 : Int32) from by decide]
  refine gs.bipush 101 X117.here hx (hb hby d5_202) rfl ?_
  refine gs.cst X117 hx hZ e117 V117 12 (by decide) ll117 rfl N117 nn_b105 old117 kp117 (Or.inr sz_b105) (hb hby d5_204) fun T118 h118 X118 e118 W118 N118 old118 kp118 V118 ll118 => ?_
  show Go p e below _ (T118.setTop (mkF m 205 _ []))
  refine gs.aload X118.here hx (hb hby d5_205) rfl rfl ?_
  refine gs.iload X118.here hx (hb hby d5_207) rfl ?_
  refine gs.bipush 12 X118.here hx (hb hby d5_209) rfl ?_
  refine gs.iadd X118.here hx (hb hby d5_211) ?_
  rw [show ((1 : Int32) + (12 : Int32)) = (13 : Int32) from by decide]
  refine gs.bipush 32 X118.here hx (hb hby d5_212) rfl ?_
  refine gs.cst X118 hx hZ e118 V118 13 (by decide) ll118 rfl N118 nn_b105 old118 kp118 (Or.inr sz_b105) (hb hby d5_214) fun T119 h119 X119 e119 W119 N119 old119 kp119 V119 ll119 => ?_
  show Go p e below _ (T119.setTop (mkF m 215 _ []))
  refine gs.aload X119.here hx (hb hby d5_215) rfl rfl ?_
  refine gs.iload X119.here hx (hb hby d5_217) rfl ?_
  refine gs.bipush 13 X119.here hx (hb hby d5_219) rfl ?_
  refine gs.iadd X119.here hx (hb hby d5_221) ?_
  rw [show ((1 : Int32) + (13 : Int32)) = (14 : Int32) from by decide]
  refine gs.bipush 101 X119.here hx (hb hby d5_222) rfl ?_
  refine gs.cst X119 hx hZ e119 V119 14 (by decide) ll119 rfl N119 nn_b105 old119 kp119 (Or.inr sz_b105) (hb hby d5_224) fun T120 h120 X120 e120 W120 N120 old120 kp120 V120 ll120 => ?_
  show Go p e below _ (T120.setTop (mkF m 225 _ []))
  refine gs.aload X120.here hx (hb hby d5_225) rfl rfl ?_
  refine gs.iload X120.here hx (hb hby d5_227) rfl ?_
  refine gs.bipush 14 X120.here hx (hb hby d5_229) rfl ?_
  refine gs.iadd X120.here hx (hb hby d5_231) ?_
  rw [show ((1 : Int32) + (14 : Int32)) = (15 : Int32) from by decide]
  refine gs.bipush 102 X120.here hx (hb hby d5_232) rfl ?_
  refine gs.cst X120 hx hZ e120 V120 15 (by decide) ll120 rfl N120 nn_b105 old120 kp120 (Or.inr sz_b105) (hb hby d5_234) fun T121 h121 X121 e121 W121 N121 old121 kp121 V121 ll121 => ?_
  show Go p e below _ (T121.setTop (mkF m 235 _ []))
  refine gs.aload X121.here hx (hb hby d5_235) rfl rfl ?_
  refine gs.iload X121.here hx (hb hby d5_237) rfl ?_
  refine gs.bipush 15 X121.here hx (hb hby d5_239) rfl ?_
  refine gs.iadd X121.here hx (hb hby d5_241) ?_
  rw [show ((1 : Int32) + (15 : Int32)) = (16 : Int32) from by decide]
  refine gs.bipush 102 X121.here hx (hb hby d5_242) rfl ?_
  refine gs.cst X121 hx hZ e121 V121 16 (by decide) ll121 rfl N121 nn_b105 old121 kp121 (Or.inr sz_b105) (hb hby d5_244) fun T122 h122 X122 e122 W122 N122 old122 kp122 V122 ll122 => ?_
  show Go p e below _ (T122.setTop (mkF m 245 _ []))
  refine gs.aload X122.here hx (hb hby d5_245) rfl rfl ?_
  refine gs.iload X122.here hx (hb hby d5_247) rfl ?_
  refine gs.bipush 16 X122.here hx (hb hby d5_249) rfl ?_
  refine gs.iadd X122.here hx (hb hby d5_251) ?_
  rw [show ((1 : Int32) + (16 : Int32)) = (17 : Int32) from by decide]
  refine gs.bipush 101 X122.here hx (hb hby d5_252) rfl ?_
  refine gs.cst X122 hx hZ e122 V122 17 (by decide) ll122 rfl N122 nn_b105 old122 kp122 (Or.inr sz_b105) (hb hby d5_254) fun T123 h123 X123 e123 W123 N123 old123 kp123 V123 ll123 => ?_
  show Go p e below _ (T123.setTop (mkF m 255 _ []))
  refine gs.aload X123.here hx (hb hby d5_255) rfl rfl ?_
  refine gs.iload X123.here hx (hb hby d5_257) rfl ?_
  refine gs.bipush 17 X123.here hx (hb hby d5_259) rfl ?_
  refine gs.iadd X123.here hx (hb hby d5_261) ?_
  rw [show ((1 : Int32) + (17 : Int32)) = (18 : Int32) from by decide]
  refine gs.bipush 99 X123.here hx (hb hby d5_262) rfl ?_
  refine gs.cst X123 hx hZ e123 V123 18 (by decide) ll123 rfl N123 nn_b105 old123 kp123 (Or.inr sz_b105) (hb hby d5_264) fun T124 h124 X124 e124 W124 N124 old124 kp124 V124 ll124 => ?_
  show Go p e below _ (T124.setTop (mkF m 265 _ []))
  refine gs.aload X124.here hx (hb hby d5_265) rfl rfl ?_
  refine gs.iload X124.here hx (hb hby d5_267) rfl ?_
  refine gs.bipush 18 X124.here hx (hb hby d5_269) rfl ?_
  refine gs.iadd X124.here hx (hb hby d5_271) ?_
  rw [show ((1 : Int32) + (18 : Int32)) = (19 : Int32) from by decide]
  refine gs.bipush 116 X124.here hx (hb hby d5_272) rfl ?_
  refine gs.cst X124 hx hZ e124 V124 19 (by decide) ll124 rfl N124 nn_b105 old124 kp124 (Or.inr sz_b105) (hb hby d5_274) fun T125 h125 X125 e125 W125 N125 old125 kp125 V125 ll125 => ?_
  show Go p e below _ (T125.setTop (mkF m 275 _ []))
  refine gs.aload X125.here hx (hb hby d5_275) rfl rfl ?_
  refine gs.iload X125.here hx (hb hby d5_277) rfl ?_
  refine gs.bipush 19 X125.here hx (hb hby d5_279) rfl ?_
  refine gs.iadd X125.here hx (hb hby d5_281) ?_
  rw [show ((1 : Int32) + (19 : Int32)) = (20 : Int32) from by decide]
  refine gs.bipush 58 X125.here hx (hb hby d5_282) rfl ?_
  refine gs.cst X125 hx hZ e125 V125 20 (by decide) ll125 rfl N125 nn_b105 old125 kp125 (Or.inr sz_b105) (hb hby d5_284) fun T126 h126 X126 e126 W126 N126 old126 kp126 V126 ll126 => ?_
  show Go p e below _ (T126.setTop (mkF m 285 _ []))
  refine gs.aload X126.here hx (hb hby d5_285) rfl rfl ?_
  refine gs.iload X126.here hx (hb hby d5_287) rfl ?_
  refine gs.bipush 20 X126.here hx (hb hby d5_289) rfl ?_
  refine gs.iadd X126.here hx (hb hby d5_291) ?_
  rw [show ((1 : Int32) + (20 : Int32)) = (21 : Int32) from by decide]
  refine gs.bipush 32 X126.here hx (hb hby d5_292) rfl ?_
  refine gs.cst X126 hx hZ e126 V126 21 (by decide) ll126 rfl N126 nn_b105 old126 kp126 (Or.inr sz_b105) (hb hby d5_294) fun T127 h127 X127 e127 W127 N127 old127 kp127 V127 ll127 => ?_
  show Go p e below _ (T127.setTop (mkF m 295 _ []))
  refine gs.iloadN X127.here hx (hb hby d5_295) rfl ?_
  refine gs.iconst 1 X127.here hx (hb hby d5_296) rfl ?_
  have hc297 : ¬ ((1 : Int32) < (1 : Int32)) := by decide
  refine gs.icmpNo X127.here hx (hb hby d5_297) (flt hc297).1 ?_
  refine gs.aload X127.here hx (hb hby d5_300) rfl rfl ?_
  refine gs.iloadN X127.here hx (hb hby d5_302) rfl ?_
  refine gs.bipush 21 X127.here hx (hb hby d5_303) rfl ?_
  refine gs.iadd X127.here hx (hb hby d5_305) ?_
  rw [show ((1 : Int32) + (21 : Int32)) = (22 : Int32) from by decide]
  refine gs.iload X127.here hx (hb hby d5_306) rfl ?_
  refine gs.cst X127 hx hZ e127 V127 22 (by decide) ll127 rfl N127 nn_b105 old127 kp127 (Or.inr sz_b105) (hb hby d5_308) fun T128 h128 X128 e128 W128 N128 old128 kp128 V128 ll128 => ?_
  show Go p e below _ (T128.setTop (mkF m 309 _ []))
  refine gs.iloadN X128.here hx (hb hby d5_309) rfl ?_
  refine gs.iconst 2 X128.here hx (hb hby d5_310) rfl ?_
  have hc311 : (1 : Int32) < (2 : Int32) := by decide
  refine gs.icmpYes 323 X128.here hx (hb hby d5_311) (tlt hc311).1 rfl ?_
  obtain ⟨T129, h129, X129, e129, E129, A129, D129, Y129, st129⟩ := newO X128 hx hZ hown (wd hw 4 rfl) (wd hw 5 rfl) (wd hw 6 rfl) e128 (g := (mkF m 323 #[.val (.int (1 : Int32)), .val (.int u1), .val (.int u2), .val (.int (1 : Int32)), .val (.int u4), .val (.int u5), .val (.int (2 : Int32)), .val (.ref b105), .val (.int (1 : Int32))] [])) rfl (hb hby d5_323) (by decide) (by decide)
  obtain ⟨b129, g129⟩ : ∃ z, z = h128.size := ⟨_, rfl⟩
  rw [← g129] at A129 D129 Y129 st129
  have nn_b129 : n0 ≤ b129 := Nat.le_trans (old_z0 old128) (Nat.le_of_eq g129.symm)
  have sz_b129 : h0.size ≤ b129 := Nat.le_trans kp128.1 (Nat.le_of_eq g129.symm)
  have old129 := old128.ext E129
  have kp129 := kp128.ext E129
  have F129_value : Fld Z h129 b129 "java/lang/String" "value" "[B" .null := D129 (Or.inr (wd hw 20 rfl)) (ty := (.array .byte)) (by decide)
  have F129_coder : Fld Z h129 b129 "java/lang/String" "coder" "B" (.int (0 : Int32)) := D129 (Or.inr (wd hw 21 rfl)) (ty := .byte) (by decide)
  refine Go.fin st129 ?_
  show Go p e below _ (T129.setTop (mkF m 326 _ [(.ref b129)]))
  refine gs.dup X129.here hx (hb hby d5_326) rfl ?_
  refine gs.aload X129.here hx (hb hby d5_327) rfl rfl ?_
  have f130 := (V128.ext E129)
  have Kd131 : Arv Z h129 b105 k105 .char (23 : Int32) [(.int (u1.toUInt32.toUInt16.toUInt32.toInt32)), (.int (32 : Int32)), (.int (99 : Int32)), (.int (97 : Int32)), (.int (110 : Int32)), (.int (110 : Int32)), (.int (111 : Int32)), (.int (116 : Int32)), (.int (32 : Int32)), (.int (116 : Int32)), (.int (97 : Int32)), (.int (107 : Int32)), (.int (101 : Int32)), (.int (32 : Int32)), (.int (101 : Int32)), (.int (102 : Int32)), (.int (102 : Int32)), (.int (101 : Int32)), (.int (99 : Int32)), (.int (116 : Int32)), (.int (58 : Int32)), (.int (32 : Int32)), (.int (u4.toUInt32.toUInt16.toUInt32.toInt32))] (.int (0 : Int32)) := by have q := f130; simp only [List.set] at q; exact q
  have Kc131 := Kd131
  simp only [h_1.1, h_4.1] at Kc131
  obtain ⟨lc131, XX131, NN131⟩ := hide_locs X129 N128
  obtain ⟨cl131, hcl131⟩ : ∃ z : List Int32, z = ([u1, (32 : Int32), (99 : Int32), (97 : Int32), (110 : Int32), (110 : Int32), (111 : Int32), (116 : Int32), (32 : Int32), (116 : Int32), (97 : Int32), (107 : Int32), (101 : Int32), (32 : Int32), (101 : Int32), (102 : Int32), (102 : Int32), (101 : Int32), (99 : Int32), (116 : Int32), (58 : Int32), (32 : Int32), u4] : List Int32) := ⟨_, rfl⟩
  have Kcl131 : Arv Z h129 b105 k105 .char (23 : Int32) (cl131.map Value.int) (.int (0 : Int32)) := by rw [hcl131]; exact Kc131
  have ncl131 : cl131.length = 23 := by rw [hcl131]; rfl
  have pcl131 : ∀ c ∈ cl131, ¬ c < 0 ∧ ¬ (255 : Int32) < c := by rw [hcl131]; exact (allcS ⟨h_1.2.2.1, h_1.2.1⟩ (allcS (litc (by decide)) (allcS (litc (by decide)) (allcS (litc (by decide)) (allcS (litc (by decide)) (allcS (litc (by decide)) (allcS (litc (by decide)) (allcS (litc (by decide)) (allcS (litc (by decide)) (allcS (litc (by decide)) (allcS (litc (by decide)) (allcS (litc (by decide)) (allcS (litc (by decide)) (allcS (litc (by decide)) (allcS (litc (by decide)) (allcS (litc (by decide)) (allcS (litc (by decide)) (allcS (litc (by decide)) (allcS (litc (by decide)) (allcS (litc (by decide)) (allcS (litc (by decide)) (allcS (litc (by decide)) (allcS ⟨h_4.2.2.1, h_4.2.1⟩ allc0)))))))))))))))))))))))
  obtain ⟨_, _, ⟨T131, L131, k131, n131⟩, -, X131, ⟨Lc131, hQ131, l131, y131, z131⟩, st131⟩ := XX131.specialBack hx (y := y_2) rfl hown (mvT hZ (wd hw 8 rfl)) (mvT hZ (wd hw 9 rfl)) (mvT hZ (wd hw 10 rfl)) (by decide) (StrChars.Road.backV (W := 1) hZ (vwords hw) (wd hw 5 rfl) nn_b129 (old_z0 old129) A129 F129_value F129_coder (cs := cl131) (bs := cl131.map StrChars.lo8) (N := (23 : Int32)) (n := 23) Kcl131 (S_cs.ext old129.2) N_cs ncl131 (by decide) (by decide) (by decide) pcl131 (map_lo8 _) (by decide) (by decide)) (g := (mkF m 329 #[.val (.int (1 : Int32)), .val (.int u1), .val (.int u2), .val (.int (1 : Int32)), .val (.int u4), .val (.int u5), .val (.int (2 : Int32)), .val (.ref b105), .val (.int (1 : Int32))] [(.ref b105), (.ref b129), (.ref b129)])) rfl (by rw [hml]; rfl) (Steps.refl _) (a := b129) (argsL := [(.ref b105)]) (rest := [(.ref b129)]) (lenOf pd_1 rfl) rfl (by show 2 * 0 + _ ≤ _; exact Nat.le_of_eq rfl) (hb hby d5_329) (fun _ _ => ⟨rfl, e129, (by decide : 2 + 1 ≤ _), (by decide : 27 + 23 ≤ _)⟩)
  dsimp only [Pt.U, Pt.locs, Pt.cells, Pt.slots] at X131 l131 y131 z131 st131 hQ131
  subst l131 y131 z131
  obtain ⟨rfl, Nq131, K131, Ex131, Fc131, t131, kb131, -, gt_t131, -, Fv131, Va131⟩ := hQ131
  have nn_t131 : n0 ≤ t131 := Nat.le_trans (old_z0 old129) gt_t131
  have sz_t131 : h0.size ≤ t131 := Nat.le_trans kp129.1 gt_t131
  have old131 := old129.keep K131 (allS nn_b129 all0)
  have kp131 := kp129.trans K131 (allS (Or.inr sz_b129) all0)
  have N131 := Fr.app NN131 Nq131
  refine Go.step (fun t_ k_ => st131.trans k_) ?_
  show Go p e below _ (T131.setTop (mkF m 332 #[.val (.int (1 : Int32)), .val (.int u1), .val (.int u2), .val (.int (1 : Int32)), .val (.int u4), .val (.int u5), .val (.int (2 : Int32)), .val (.ref b105), .val (.int (1 : Int32))] [(.ref b129)]))
  refine Go.retR X131 hx Bd.returns rfl rfl Bd.notSynchronized (hb hby d5_332) (by exact ⟨b129, rfl, sz_b129, N131, kp131, ⟨_, _, Fv131, (by rw [show ((21 : Int32) + ((1 : Int32) + (1 : Int32))) = (23 : Int32) from by decide, show csAll (1 : Int32) u1 u2 (1 : Int32) u4 u5 = cl131 from by rw [hcl131]; simp only [csAll, pk1]; rfl]; exact Va131)⟩, Ex131, Fc131⟩) (by decide) (by decide)
set_option maxRecDepth 65536 in
set_option maxHeartbeats 40000000 in
theorem rm5_12 (l : Launch) (Z : State) (a0 : Array Value) (hw : ∀ d ∈ tables_1, d.before a0 Z = true) (ws : List Jvm.Cond) (cs_ : Int32) (un_ : Value) (sn_ : Value) (HW : Wd Z cs_ un_ sn_) (u1 : Int32) (u2 : Int32) (u4 : Int32) (u5 : Int32) (h0 : Heap) (n0 : Nat) (Ol : Old Z n0 h0) (h_1 : CH8 u1) (h_2 : CH8 u2) (h_4 : CH8 u4) (h_5 : CH8 u5) :
    MetFree l y_5 (head1 (Jvm.Cond.code y_5 method_4_code 9 (some (.object "java/lang/String")) :: ws) (rm 4 3 54 66)) (fun a_ U_ => a_ = #[(.int (1 : Int32)), (.int u1), (.int u2), (.int (2 : Int32)), (.int u4), (.int u5)] ∧ Z.Warmed39 U_.vm ∧ U_.heap = h0) (fun _ _ _ _ _ => True) (fun _ U_ o_ V_ => ∃ v_ L_, o_ = .returned v_ ∧ Q_rm5 Z cs_ un_ sn_ (1 : Int32) u1 u2 (2 : Int32) u4 u5 h0 n0 v_ V_.heap L_ ∧ FrameEnd U_ o_ V_ L_ (rm 4 3 54 66).cells (rm 4 3 54 66).slots) := by
  refine MetFree.of_bodySF (plainFor_of_name pn_2) hisR ?_
  intro p e s m args below meth c s₁ Bd hml0 hP hK
  obtain ⟨rfl, hZ, hh⟩ := hP
  have hx := Bd.exec
  have hby := Bd.bytes
  have hml : c.maxLocals = 9 := hml0
  have hown : s.vm.findClass "com/example/penelope/penelope/internal/CoverageCannotTakeEffectPinLaw" = some m.cls := findClass_of_methodNamed Bd.named
  have hnm := (name_of_methodNamed Bd.named Bd.method).1
  have X0 : Stand p l e (rm 4 3 54 66) s m #[(.int (1 : Int32)), (.int u1), (.int u2), (.int (2 : Int32)), (.int u4), (.int u5)] below meth c s₁ [] 0 0 := Stand.of_body Bd
  have e0 : s₁.heap = h0 := by rw [← hh, Bd.state]; rfl
  have N0 := Fr.nil n0
  have kp0 := Keep.refl h0 []
  show Go p e below (Fin1 s below (Q_rm5 Z cs_ un_ sn_ (1 : Int32) u1 u2 (2 : Int32) u4 u5 h0 n0) (rm 4 3 54 66).cells (rm 4 3 54 66).slots) _
  refine Go.step (fun t_ k_ => castTop (ef_rm5 m (1 : Int32) u1 u2 (2 : Int32) u4 u5) k_) ?_
  obtain ⟨S_cs, N_cs, S_un, R_un, S_sn, R_sn⟩ := id HW
  show Go p e below _ (s₁.setTop (mkF m 0 #[.val (.int (1 : Int32)), .val (.int u1), .val (.int u2), .val (.int (2 : Int32)), .val (.int u4), .val (.int u5), .unset, .unset, .unset] []))
  show Go p e below _ (s₁.setTop (mkF m 0 #[.val (.int (1 : Int32)), .val (.int u1), .val (.int u2), .val (.int (2 : Int32)), .val (.int u4), .val (.int u5), .unset, .unset, .unset] []))
  refine gs.iloadN X0.here hx (hb hby d5_0) rfl ?_
  refine gs.iloadN X0.here hx (hb hby d5_1) rfl ?_
  refine gs.iadd X0.here hx (hb hby d5_2) ?_
  rw [show ((1 : Int32) + (2 : Int32)) = (3 : Int32) from by decide]
  refine gs.istore X0.here hx (hb hby d5_3) (l' := #[.val (.int (1 : Int32)), .val (.int u1), .val (.int u2), .val (.int (2 : Int32)), .val (.int u4), .val (.int u5), .val (.int (3 : Int32)), .unset, .unset]) rfl ?_
  refine gs.iload X0.here hx (hb hby d5_5) rfl ?_
  have hc7 : ¬ ((3 : Int32) = (0 : Int32)) := by decide
  refine gs.ifYes 19 X0.here hx (hb hby d5_7) ((if0 _ _).trans (feq hc7).2) rfl ?_
  refine gs.iload X0.here hx (hb hby d5_19) rfl ?_
  refine gs.iconst 1 X0.here hx (hb hby d5_21) rfl ?_
  have hc22 : ¬ ((3 : Int32) = (1 : Int32)) := by decide
  refine gs.icmpYes 34 X0.here hx (hb hby d5_22) (feq hc22).2 rfl ?_
  refine gs.iload X0.here hx (hb hby d5_34) rfl ?_
  refine gs.iconst 2 X0.here hx (hb hby d5_36) rfl ?_
  have hc37 : ¬ ((3 : Int32) = (2 : Int32)) := by decide
  refine gs.icmpYes 49 X0.here hx (hb hby d5_37) (feq hc37).2 rfl ?_
  refine gs.iload X0.here hx (hb hby d5_49) rfl ?_
  refine gs.iconst 3 X0.here hx (hb hby d5_51) rfl ?_
  have hc52 : (3 : Int32) = (3 : Int32) := by decide
  refine gs.icmpNo X0.here hx (hb hby d5_52) (teq hc52).2 ?_
  refine gs.bipush 24 X0.here hx (hb hby d5_55) rfl ?_
  obtain ⟨T132, h132, k132, X132, e132, E132, A132, st132⟩ := newP X0 hx hZ (wd hw 7 rfl) e0 (g := (mkF m 57 #[.val (.int (1 : Int32)), .val (.int u1), .val (.int u2), .val (.int (2 : Int32)), .val (.int u4), .val (.int u5), .val (.int (3 : Int32)), .unset, .unset] [(.int (24 : Int32))])) rfl (hb hby d5_57) rfl (by decide) (cap := 24) (by decide) (by decide) (by decide) (by decide)
  obtain ⟨b132, g132⟩ : ∃ z, z = h0.size := ⟨_, rfl⟩
  rw [← g132] at A132 st132
  have nn_b132 : n0 ≤ b132 := Nat.le_trans (old_z0 Ol) (Nat.le_of_eq g132.symm)
  have sz_b132 : h0.size ≤ b132 := Nat.le_trans kp0.1 (Nat.le_of_eq g132.symm)
  have old132 := Ol.ext E132
  have kp132 := kp0.ext E132
  have V132 : Arv Z h132 b132 k132 .char (24 : Int32) [(.int (0 : Int32)), (.int (0 : Int32)), (.int (0 : Int32)), (.int (0 : Int32)), (.int (0 : Int32)), (.int (0 : Int32)), (.int (0 : Int32)), (.int (0 : Int32)), (.int (0 : Int32)), (.int (0 : Int32)), (.int (0 : Int32)), (.int (0 : Int32)), (.int (0 : Int32)), (.int (0 : Int32)), (.int (0 : Int32)), (.int (0 : Int32)), (.int (0 : Int32)), (.int (0 : Int32)), (.int (0 : Int32)), (.int (0 : Int32)), (.int (0 : Int32)), (.int (0 : Int32)), (.int (0 : Int32)), (.int (0 : Int32))] (.int (0 : Int32)) := (Arv.new A132 (by decide)).pad (pad_rep [] (.int (0 : Int32)) 24)
  refine Go.fin st132 ?_
  show Go p e below _ (T132.setTop (mkF m 59 _ [(.ref b132)]))
  refine gs.astore X132.here hx (hb hby d5_59) rfl (l' := #[.val (.int (1 : Int32)), .val (.int u1), .val (.int u2), .val (.int (2 : Int32)), .val (.int u4), .val (.int u5), .val (.int (3 : Int32)), .val (.ref b132), .unset]) rfl ?_
  refine gs.goto 70 X132.here hx (hb hby d5_61) rfl ?_
  refine gs.iloadN X132.here hx (hb hby d5_70) rfl ?_
  refine gs.iconst 1 X132.here hx (hb hby d5_71) rfl ?_
  have hc72 : ¬ ((1 : Int32) < (1 : Int32)) := by decide
  refine gs.icmpNo X132.here hx (hb hby d5_72) (flt hc72).1 ?_
  refine gs.aload X132.here hx (hb hby d5_75) rfl rfl ?_
  refine gs.iconst 0 X132.here hx (hb hby d5_77) rfl ?_
  refine gs.iloadN X132.here hx (hb hby d5_78) rfl ?_
  refine gs.cst X132 hx hZ e132 V132 0 (by decide) (rfl : ([(.int (0 : Int32)), (.int (0 : Int32)), (.int (0 : Int32)), (.int (0 : Int32)), (.int (0 : Int32)), (.int (0 : Int32)), (.int (0 : Int32)), (.int (0 : Int32)), (.int (0 : Int32)), (.int (0 : Int32)), (.int (0 : Int32)), (.int (0 : Int32)), (.int (0 : Int32)), (.int (0 : Int32)), (.int (0 : Int32)), (.int (0 : Int32)), (.int (0 : Int32)), (.int (0 : Int32)), (.int (0 : Int32)), (.int (0 : Int32)), (.int (0 : Int32)), (.int (0 : Int32)), (.int (0 : Int32)), (.int (0 : Int32))] : List Value).length = 24) rfl N0 nn_b132 old132 kp132 (Or.inr sz_b132) (hb hby d5_79) fun T133 h133 X133 e133 W133 N133 old133 kp133 V133 ll133 => ?_
  show Go p e below _ (T133.setTop (mkF m 80 _ []))
  refine gs.iloadN X133.here hx (hb hby d5_80) rfl ?_
  refine gs.iconst 2 X133.here hx (hb hby d5_81) rfl ?_
  have hc82 : (1 : Int32) < (2 : Int32) := by decide
  refine gs.icmpYes 90 X133.here hx (hb hby d5_82) (tlt hc82).1 rfl ?_
  refine gs.iloadN X133.here hx (hb hby d5_90) rfl ?_
  refine gs.istore X133.here hx (hb hby d5_91) (l' := #[.val (.int (1 : Int32)), .val (.int u1), .val (.int u2), .val (.int (2 : Int32)), .val (.int u4), .val (.int u5), .val (.int (3 : Int32)), .val (.ref b132), .val (.int (1 : Int32))]) rfl ?_
  refine gs.aload X133.here hx (hb hby d5_93) rfl rfl ?_
  refine gs.iload X133.here hx (hb hby d5_95) rfl ?_
  refine gs.bipush 32 X133.here hx (hb hby d5_97) rfl ?_
  refine gs.cst X133 hx hZ e133 V133 1 (by decide) ll133 rfl N133 nn_b132 old133 kp133 (Or.inr sz_b132) (hb hby d5_99) fun T134 h134 X134 e134 W134 N134 old134 kp134 V134 ll134 => ?_
  show Go p e below _ (T134.setTop (mkF m 100 _ []))
  refine gs.aload X134.here hx (hb hby d5_100) rfl rfl ?_
  refine gs.iload X134.here hx (hb hby d5_102) rfl ?_
  refine gs.iconst 1 X134.here hx (hb hby d5_104) rfl ?_
  refine gs.iadd X134.here hx (hb hby d5_105) ?_
  rw [show ((1 : Int32) + (1 : Int32)) = (2 : Int32) from by decide]
  refine gs.bipush 99 X134.here hx (hb hby d5_106) rfl ?_
  refine gs.cst X134 hx hZ e134 V134 2 (by decide) ll134 rfl N134 nn_b132 old134 kp134 (Or.inr sz_b132) (hb hby d5_108) fun T135 h135 X135 e135 W135 N135 old135 kp135 V135 ll135 => ?_
  show Go p e below _ (T135.setTop (mkF m 109 _ []))
  refine gs.aload X135.here hx (hb hby d5_109) rfl rfl ?_
  refine gs.iload X135.here hx (hb hby d5_111) rfl ?_
  refine gs.iconst 2 X135.here hx (hb hby d5_113) rfl ?_
  refine gs.iadd X135.here hx (hb hby d5_114) ?_
  rw [show ((1 : Int32) + (2 : Int32)) = (3 : Int32) from by decide]
  refine gs.bipush 97 X135.here hx (hb hby d5_115) rfl ?_
  refine gs.cst X135 hx hZ e135 V135 3 (by decide) ll135 rfl N135 nn_b132 old135 kp135 (Or.inr sz_b132) (hb hby d5_117) fun T136 h136 X136 e136 W136 N136 old136 kp136 V136 ll136 => ?_
  show Go p e below _ (T136.setTop (mkF m 118 _ []))
  refine gs.aload X136.here hx (hb hby d5_118) rfl rfl ?_
  refine gs.iload X136.here hx (hb hby d5_120) rfl ?_
  refine gs.iconst 3 X136.here hx (hb hby d5_122) rfl ?_
  refine gs.iadd X136.here hx (hb hby d5_123) ?_
  rw [show ((1 : Int32) + (3 : Int32)) = (4 : Int32) from by decide]
  refine gs.bipush 110 X136.here hx (hb hby d5_124) rfl ?_
  refine gs.cst X136 hx hZ e136 V136 4 (by decide) ll136 rfl N136 nn_b132 old136 kp136 (Or.inr sz_b132) (hb hby d5_126) fun T137 h137 X137 e137 W137 N137 old137 kp137 V137 ll137 => ?_
  show Go p e below _ (T137.setTop (mkF m 127 _ []))
  refine gs.aload X137.here hx (hb hby d5_127) rfl rfl ?_
  refine gs.iload X137.here hx (hb hby d5_129) rfl ?_
  refine gs.iconst 4 X137.here hx (hb hby d5_131) rfl ?_
  refine gs.iadd X137.here hx (hb hby d5_132) ?_
  rw [show ((1 : Int32) + (4 : Int32)) = (5 : Int32) from by decide]
  refine gs.bipush 110 X137.here hx (hb hby d5_133) rfl ?_
  refine gs.cst X137 hx hZ e137 V137 5 (by decide) ll137 rfl N137 nn_b132 old137 kp137 (Or.inr sz_b132) (hb hby d5_135) fun T138 h138 X138 e138 W138 N138 old138 kp138 V138 ll138 => ?_
  show Go p e below _ (T138.setTop (mkF m 136 _ []))
  refine gs.aload X138.here hx (hb hby d5_136) rfl rfl ?_
  refine gs.iload X138.here hx (hb hby d5_138) rfl ?_
  refine gs.iconst 5 X138.here hx (hb hby d5_140) rfl ?_
  refine gs.iadd X138.here hx (hb hby d5_141) ?_
  rw [show ((1 : Int32) + (5 : Int32)) = (6 : Int32) from by decide]
  refine gs.bipush 111 X138.here hx (hb hby d5_142) rfl ?_
  refine gs.cst X138 hx hZ e138 V138 6 (by decide) ll138 rfl N138 nn_b132 old138 kp138 (Or.inr sz_b132) (hb hby d5_144) fun T139 h139 X139 e139 W139 N139 old139 kp139 V139 ll139 => ?_
  show Go p e below _ (T139.setTop (mkF m 145 _ []))
  refine gs.aload X139.here hx (hb hby d5_145) rfl rfl ?_
  refine gs.iload X139.here hx (hb hby d5_147) rfl ?_
  refine gs.bipush 6 X139.here hx (hb hby d5_149) rfl ?_
  refine gs.iadd X139.here hx (hb hby d5_151) ?_
  rw [show ((1 : Int32) + (6 : Int32)) = (7 : Int32) from by decide]
  refine gs.bipush 116 X139.here hx (hb hby d5_152) rfl ?_
  refine gs.cst X139 hx hZ e139 V139 7 (by decide) ll139 rfl N139 nn_b132 old139 kp139 (Or.inr sz_b132) (hb hby d5_154) fun T140 h140 X140 e140 W140 N140 old140 kp140 V140 ll140 => ?_
  show Go p e below _ (T140.setTop (mkF m 155 _ []))
  refine gs.aload X140.here hx (hb hby d5_155) rfl rfl ?_
  refine gs.iload X140.here hx (hb hby d5_157) rfl ?_
  refine gs.bipush 7 X140.here hx (hb hby d5_159) rfl ?_
  refine gs.iadd X140.here hx (hb hby d5_161) ?_
  rw [show ((1 : Int32) + (7 : Int32)) = (8 : Int32) from by decide]
  refine gs.bipush 32 X140.here hx (hb hby d5_162) rfl ?_
  refine gs.cst X140 hx hZ e140 V140 8 (by decide) ll140 rfl N140 nn_b132 old140 kp140 (Or.inr sz_b132) (hb hby d5_164) fun T141 h141 X141 e141 W141 N141 old141 kp141 V141 ll141 => ?_
  show Go p e below _ (T141.setTop (mkF m 165 _ []))
  refine gs.aload X141.here hx (hb hby d5_165) rfl rfl ?_
  refine gs.iload X141.here hx (hb hby d5_167) rfl ?_
  refine gs.bipush 8 X141.here hx (hb hby d5_169) rfl ?_
  refine gs.iadd X141.here hx (hb hby d5_171) ?_
  rw [show ((1 : Int32) + (8 : Int32)) = (9 : Int32) from by decide]
  refine gs.bipush 116 X141.here hx (hb hby d5_172) rfl ?_
  refine gs.cst X141 hx hZ e141 V141 9 (by decide) ll141 rfl N141 nn_b132 old141 kp141 (Or.inr sz_b132) (hb hby d5_174) fun T142 h142 X142 e142 W142 N142 old142 kp142 V142 ll142 => ?_
  show Go p e below _ (T142.setTop (mkF m 175 _ []))
  refine gs.aload X142.here hx (hb hby d5_175) rfl rfl ?_
  refine gs.iload X142.here hx (hb hby d5_177) rfl ?_
  refine gs.bipush 9 X142.here hx (hb hby d5_179) rfl ?_
  refine gs.iadd X142.here hx (hb hby d5_181) ?_
  rw [show ((1 : Int32) + (9 : Int32)) = (10 : Int32) from by decide]
  refine gs.bipush 97 X142.here hx (hb hby d5_182) rfl ?_
  refine gs.cst X142 hx hZ e142 V142 10 (by decide) ll142 rfl N142 nn_b132 old142 kp142 (Or.inr sz_b132) (hb hby d5_184) fun T143 h143 X143 e143 W143 N143 old143 kp143 V143 ll143 => ?_
  show Go p e below _ (T143.setTop (mkF m 185 _ []))
  refine gs.aload X143.here hx (hb hby d5_185) rfl rfl ?_
  refine gs.iload X143.here hx (hb hby d5_187) rfl ?_
  refine gs.bipush 10 X143.here hx (hb hby d5_189) rfl ?_
  refine gs.iadd X143.here hx (hb hby d5_191) ?_
  rw [show ((1 : Int32) + (10 : Int32)) = (11 : Int32) from by decide]
  refine gs.bipush 107 X143.here hx (hb hby d5_192) rfl ?_
  refine gs.cst X143 hx hZ e143 V143 11 (by decide) ll143 rfl N143 nn_b132 old143 kp143 (Or.inr sz_b132) (hb hby d5_194) fun T144 h144 X144 e144 W144 N144 old144 kp144 V144 ll144 => ?_
  show Go p e below _ (T144.setTop (mkF m 195 _ []))
  refine gs.aload X144.here hx (hb hby d5_195) rfl rfl ?_
  refine gs.iload X144.here hx (hb hby d5_197) rfl ?_
  refine gs.bipush 11 X144.here hx (hb hby d5_199) rfl ?_
  refine gs.iadd X144.here hx (hb hby d5_201) ?_
  rw [show ((1 : Int32) + (11 : Int32)) = (12 : Int32) from by decide]
  refine gs.bipush 101 X144.here hx (hb hby d5_202) rfl ?_
  refine gs.cst X144 hx hZ e144 V144 12 (by decide) ll144 rfl N144 nn_b132 old144 kp144 (Or.inr sz_b132) (hb hby d5_204) fun T145 h145 X145 e145 W145 N145 old145 kp145 V145 ll145 => ?_
  show Go p e below _ (T145.setTop (mkF m 205 _ []))
  refine gs.aload X145.here hx (hb hby d5_205) rfl rfl ?_
  refine gs.iload X145.here hx (hb hby d5_207) rfl ?_
  refine gs.bipush 12 X145.here hx (hb hby d5_209) rfl ?_
  refine gs.iadd X145.here hx (hb hby d5_211) ?_
  rw [show ((1 : Int32) + (12 : Int32)) = (13 : Int32) from by decide]
  refine gs.bipush 32 X145.here hx (hb hby d5_212) rfl ?_
  refine gs.cst X145 hx hZ e145 V145 13 (by decide) ll145 rfl N145 nn_b132 old145 kp145 (Or.inr sz_b132) (hb hby d5_214) fun T146 h146 X146 e146 W146 N146 old146 kp146 V146 ll146 => ?_
  show Go p e below _ (T146.setTop (mkF m 215 _ []))
  refine gs.aload X146.here hx (hb hby d5_215) rfl rfl ?_
  refine gs.iload X146.here hx (hb hby d5_217) rfl ?_
  refine gs.bipush 13 X146.here hx (hb hby d5_219) rfl ?_
  refine gs.iadd X146.here hx (hb hby d5_221) ?_
  rw [show ((1 : Int32) + (13 : Int32)) = (14 : Int32) from by decide]
  refine gs.bipush 101 X146.here hx (hb hby d5_222) rfl ?_
  refine gs.cst X146 hx hZ e146 V146 14 (by decide) ll146 rfl N146 nn_b132 old146 kp146 (Or.inr sz_b132) (hb hby d5_224) fun T147 h147 X147 e147 W147 N147 old147 kp147 V147 ll147 => ?_
  show Go p e below _ (T147.setTop (mkF m 225 _ []))
  refine gs.aload X147.here hx (hb hby d5_225) rfl rfl ?_
  refine gs.iload X147.here hx (hb hby d5_227) rfl ?_
  refine gs.bipush 14 X147.here hx (hb hby d5_229) rfl ?_
  refine gs.iadd X147.here hx (hb hby d5_231) ?_
  rw [show ((1 : Int32) + (14 : Int32)) = (15 : Int32) from by decide]
  refine gs.bipush 102 X147.here hx (hb hby d5_232) rfl ?_
  refine gs.cst X147 hx hZ e147 V147 15 (by decide) ll147 rfl N147 nn_b132 old147 kp147 (Or.inr sz_b132) (hb hby d5_234) fun T148 h148 X148 e148 W148 N148 old148 kp148 V148 ll148 => ?_
  show Go p e below _ (T148.setTop (mkF m 235 _ []))
  refine gs.aload X148.here hx (hb hby d5_235) rfl rfl ?_
  refine gs.iload X148.here hx (hb hby d5_237) rfl ?_
  refine gs.bipush 15 X148.here hx (hb hby d5_239) rfl ?_
  refine gs.iadd X148.here hx (hb hby d5_241) ?_
  rw [show ((1 : Int32) + (15 : Int32)) = (16 : Int32) from by decide]
  refine gs.bipush 102 X148.here hx (hb hby d5_242) rfl ?_
  refine gs.cst X148 hx hZ e148 V148 16 (by decide) ll148 rfl N148 nn_b132 old148 kp148 (Or.inr sz_b132) (hb hby d5_244) fun T149 h149 X149 e149 W149 N149 old149 kp149 V149 ll149 => ?_
  show Go p e below _ (T149.setTop (mkF m 245 _ []))
  refine gs.aload X149.here hx (hb hby d5_245) rfl rfl ?_
  refine gs.iload X149.here hx (hb hby d5_247) rfl ?_
  refine gs.bipush 16 X149.here hx (hb hby d5_249) rfl ?_
  refine gs.iadd X149.here hx (hb hby d5_251) ?_
  rw [show ((1 : Int32) + (16 : Int32)) = (17 : Int32) from by decide]
  refine gs.bipush 101 X149.here hx (hb hby d5_252) rfl ?_
  refine gs.cst X149 hx hZ e149 V149 17 (by decide) ll149 rfl N149 nn_b132 old149 kp149 (Or.inr sz_b132) (hb hby d5_254) fun T150 h150 X150 e150 W150 N150 old150 kp150 V150 ll150 => ?_
  show Go p e below _ (T150.setTop (mkF m 255 _ []))
  refine gs.aload X150.here hx (hb hby d5_255) rfl rfl ?_
  refine gs.iload X150.here hx (hb hby d5_257) rfl ?_
  refine gs.bipush 17 X150.here hx (hb hby d5_259) rfl ?_
  refine gs.iadd X150.here hx (hb hby d5_261) ?_
  rw [show ((1 : Int32) + (17 : Int32)) = (18 : Int32) from by decide]
  refine gs.bipush 99 X150.here hx (hb hby d5_262) rfl ?_
  refine gs.cst X150 hx hZ e150 V150 18 (by decide) ll150 rfl N150 nn_b132 old150 kp150 (Or.inr sz_b132) (hb hby d5_264) fun T151 h151 X151 e151 W151 N151 old151 kp151 V151 ll151 => ?_
  show Go p e below _ (T151.setTop (mkF m 265 _ []))
  refine gs.aload X151.here hx (hb hby d5_265) rfl rfl ?_
  refine gs.iload X151.here hx (hb hby d5_267) rfl ?_
  refine gs.bipush 18 X151.here hx (hb hby d5_269) rfl ?_
  refine gs.iadd X151.here hx (hb hby d5_271) ?_
  rw [show ((1 : Int32) + (18 : Int32)) = (19 : Int32) from by decide]
  refine gs.bipush 116 X151.here hx (hb hby d5_272) rfl ?_
  refine gs.cst X151 hx hZ e151 V151 19 (by decide) ll151 rfl N151 nn_b132 old151 kp151 (Or.inr sz_b132) (hb hby d5_274) fun T152 h152 X152 e152 W152 N152 old152 kp152 V152 ll152 => ?_
  show Go p e below _ (T152.setTop (mkF m 275 _ []))
  refine gs.aload X152.here hx (hb hby d5_275) rfl rfl ?_
  refine gs.iload X152.here hx (hb hby d5_277) rfl ?_
  refine gs.bipush 19 X152.here hx (hb hby d5_279) rfl ?_
  refine gs.iadd X152.here hx (hb hby d5_281) ?_
  rw [show ((1 : Int32) + (19 : Int32)) = (20 : Int32) from by decide]
  refine gs.bipush 58 X152.here hx (hb hby d5_282) rfl ?_
  refine gs.cst X152 hx hZ e152 V152 20 (by decide) ll152 rfl N152 nn_b132 old152 kp152 (Or.inr sz_b132) (hb hby d5_284) fun T153 h153 X153 e153 W153 N153 old153 kp153 V153 ll153 => ?_
  show Go p e below _ (T153.setTop (mkF m 285 _ []))
  refine gs.aload X153.here hx (hb hby d5_285) rfl rfl ?_
  refine gs.iload X153.here hx (hb hby d5_287) rfl ?_
  refine gs.bipush 20 X153.here hx (hb hby d5_289) rfl ?_
  refine gs.iadd X153.here hx (hb hby d5_291) ?_
  rw [show ((1 : Int32) + (20 : Int32)) = (21 : Int32) from by decide]
  refine gs.bipush 32 X153.here hx (hb hby d5_292) rfl ?_
  refine gs.cst X153 hx hZ e153 V153 21 (by decide) ll153 rfl N153 nn_b132 old153 kp153 (Or.inr sz_b132) (hb hby d5_294) fun T154 h154 X154 e154 W154 N154 old154 kp154 V154 ll154 => ?_
  show Go p e below _ (T154.setTop (mkF m 295 _ []))
  refine gs.iloadN X154.here hx (hb hby d5_295) rfl ?_
  refine gs.iconst 1 X154.here hx (hb hby d5_296) rfl ?_
  have hc297 : ¬ ((2 : Int32) < (1 : Int32)) := by decide
  refine gs.icmpNo X154.here hx (hb hby d5_297) (flt hc297).1 ?_
  refine gs.aload X154.here hx (hb hby d5_300) rfl rfl ?_
  refine gs.iloadN X154.here hx (hb hby d5_302) rfl ?_
  refine gs.bipush 21 X154.here hx (hb hby d5_303) rfl ?_
  refine gs.iadd X154.here hx (hb hby d5_305) ?_
  rw [show ((1 : Int32) + (21 : Int32)) = (22 : Int32) from by decide]
  refine gs.iload X154.here hx (hb hby d5_306) rfl ?_
  refine gs.cst X154 hx hZ e154 V154 22 (by decide) ll154 rfl N154 nn_b132 old154 kp154 (Or.inr sz_b132) (hb hby d5_308) fun T155 h155 X155 e155 W155 N155 old155 kp155 V155 ll155 => ?_
  show Go p e below _ (T155.setTop (mkF m 309 _ []))
  refine gs.iloadN X155.here hx (hb hby d5_309) rfl ?_
  refine gs.iconst 2 X155.here hx (hb hby d5_310) rfl ?_
  have hc311 : ¬ ((2 : Int32) < (2 : Int32)) := by decide
  refine gs.icmpNo X155.here hx (hb hby d5_311) (flt hc311).1 ?_
  refine gs.aload X155.here hx (hb hby d5_314) rfl rfl ?_
  refine gs.iloadN X155.here hx (hb hby d5_316) rfl ?_
  refine gs.bipush 22 X155.here hx (hb hby d5_317) rfl ?_
  refine gs.iadd X155.here hx (hb hby d5_319) ?_
  rw [show ((1 : Int32) + (22 : Int32)) = (23 : Int32) from by decide]
  refine gs.iload X155.here hx (hb hby d5_320) rfl ?_
  refine gs.cst X155 hx hZ e155 V155 23 (by decide) ll155 rfl N155 nn_b132 old155 kp155 (Or.inr sz_b132) (hb hby d5_322) fun T156 h156 X156 e156 W156 N156 old156 kp156 V156 ll156 => ?_
  show Go p e below _ (T156.setTop (mkF m 323 _ []))
  obtain ⟨T157, h157, X157, e157, E157, A157, D157, Y157, st157⟩ := newO X156 hx hZ hown (wd hw 4 rfl) (wd hw 5 rfl) (wd hw 6 rfl) e156 (g := (mkF m 323 #[.val (.int (1 : Int32)), .val (.int u1), .val (.int u2), .val (.int (2 : Int32)), .val (.int u4), .val (.int u5), .val (.int (3 : Int32)), .val (.ref b132), .val (.int (1 : Int32))] [])) rfl (hb hby d5_323) (by decide) (by decide)
  obtain ⟨b157, g157⟩ : ∃ z, z = h156.size := ⟨_, rfl⟩
  rw [← g157] at A157 D157 Y157 st157
  have nn_b157 : n0 ≤ b157 := Nat.le_trans (old_z0 old156) (Nat.le_of_eq g157.symm)
  have sz_b157 : h0.size ≤ b157 := Nat.le_trans kp156.1 (Nat.le_of_eq g157.symm)
  have old157 := old156.ext E157
  have kp157 := kp156.ext E157
  have F157_value : Fld Z h157 b157 "java/lang/String" "value" "[B" .null := D157 (Or.inr (wd hw 20 rfl)) (ty := (.array .byte)) (by decide)
  have F157_coder : Fld Z h157 b157 "java/lang/String" "coder" "B" (.int (0 : Int32)) := D157 (Or.inr (wd hw 21 rfl)) (ty := .byte) (by decide)
  refine Go.fin st157 ?_
  show Go p e below _ (T157.setTop (mkF m 326 _ [(.ref b157)]))
  refine gs.dup X157.here hx (hb hby d5_326) rfl ?_
  refine gs.aload X157.here hx (hb hby d5_327) rfl rfl ?_
  have f158 := (V156.ext E157)
  have Kd159 : Arv Z h157 b132 k132 .char (24 : Int32) [(.int (u1.toUInt32.toUInt16.toUInt32.toInt32)), (.int (32 : Int32)), (.int (99 : Int32)), (.int (97 : Int32)), (.int (110 : Int32)), (.int (110 : Int32)), (.int (111 : Int32)), (.int (116 : Int32)), (.int (32 : Int32)), (.int (116 : Int32)), (.int (97 : Int32)), (.int (107 : Int32)), (.int (101 : Int32)), (.int (32 : Int32)), (.int (101 : Int32)), (.int (102 : Int32)), (.int (102 : Int32)), (.int (101 : Int32)), (.int (99 : Int32)), (.int (116 : Int32)), (.int (58 : Int32)), (.int (32 : Int32)), (.int (u4.toUInt32.toUInt16.toUInt32.toInt32)), (.int (u5.toUInt32.toUInt16.toUInt32.toInt32))] (.int (0 : Int32)) := by have q := f158; simp only [List.set] at q; exact q
  have Kc159 := Kd159
  simp only [h_1.1, h_4.1, h_5.1] at Kc159
  obtain ⟨lc159, XX159, NN159⟩ := hide_locs X157 N156
  obtain ⟨cl159, hcl159⟩ : ∃ z : List Int32, z = ([u1, (32 : Int32), (99 : Int32), (97 : Int32), (110 : Int32), (110 : Int32), (111 : Int32), (116 : Int32), (32 : Int32), (116 : Int32), (97 : Int32), (107 : Int32), (101 : Int32), (32 : Int32), (101 : Int32), (102 : Int32), (102 : Int32), (101 : Int32), (99 : Int32), (116 : Int32), (58 : Int32), (32 : Int32), u4, u5] : List Int32) := ⟨_, rfl⟩
  have Kcl159 : Arv Z h157 b132 k132 .char (24 : Int32) (cl159.map Value.int) (.int (0 : Int32)) := by rw [hcl159]; exact Kc159
  have ncl159 : cl159.length = 24 := by rw [hcl159]; rfl
  have pcl159 : ∀ c ∈ cl159, ¬ c < 0 ∧ ¬ (255 : Int32) < c := by rw [hcl159]; exact (allcS ⟨h_1.2.2.1, h_1.2.1⟩ (allcS (litc (by decide)) (allcS (litc (by decide)) (allcS (litc (by decide)) (allcS (litc (by decide)) (allcS (litc (by decide)) (allcS (litc (by decide)) (allcS (litc (by decide)) (allcS (litc (by decide)) (allcS (litc (by decide)) (allcS (litc (by decide)) (allcS (litc (by decide)) (allcS (litc (by decide)) (allcS (litc (by decide)) (allcS (litc (by decide)) (allcS (litc (by decide)) (allcS (litc (by decide)) (allcS (litc (by decide)) (allcS (litc (by decide)) (allcS (litc (by decide)) (allcS (litc (by decide)) (allcS (litc (by decide)) (allcS ⟨h_4.2.2.1, h_4.2.1⟩ (allcS ⟨h_5.2.2.1, h_5.2.1⟩ allc0))))))))))))))))))))))))
  obtain ⟨_, _, ⟨T159, L159, k159, n159⟩, -, X159, ⟨Lc159, hQ159, l159, y159, z159⟩, st159⟩ := XX159.specialBack hx (y := y_2) rfl hown (mvT hZ (wd hw 8 rfl)) (mvT hZ (wd hw 9 rfl)) (mvT hZ (wd hw 10 rfl)) (by decide) (StrChars.Road.backV (W := 1) hZ (vwords hw) (wd hw 5 rfl) nn_b157 (old_z0 old157) A157 F157_value F157_coder (cs := cl159) (bs := cl159.map StrChars.lo8) (N := (24 : Int32)) (n := 24) Kcl159 (S_cs.ext old157.2) N_cs ncl159 (by decide) (by decide) (by decide) pcl159 (map_lo8 _) (by decide) (by decide)) (g := (mkF m 329 #[.val (.int (1 : Int32)), .val (.int u1), .val (.int u2), .val (.int (2 : Int32)), .val (.int u4), .val (.int u5), .val (.int (3 : Int32)), .val (.ref b132), .val (.int (1 : Int32))] [(.ref b132), (.ref b157), (.ref b157)])) rfl (by rw [hml]; rfl) (Steps.refl _) (a := b157) (argsL := [(.ref b132)]) (rest := [(.ref b157)]) (lenOf pd_1 rfl) rfl (by show 2 * 0 + _ ≤ _; exact Nat.le_of_eq rfl) (hb hby d5_329) (fun _ _ => ⟨rfl, e157, (by decide : 2 + 1 ≤ _), (by decide : 28 + 24 ≤ _)⟩)
  dsimp only [Pt.U, Pt.locs, Pt.cells, Pt.slots] at X159 l159 y159 z159 st159 hQ159
  subst l159 y159 z159
  obtain ⟨rfl, Nq159, K159, Ex159, Fc159, t159, kb159, -, gt_t159, -, Fv159, Va159⟩ := hQ159
  have nn_t159 : n0 ≤ t159 := Nat.le_trans (old_z0 old157) gt_t159
  have sz_t159 : h0.size ≤ t159 := Nat.le_trans kp157.1 gt_t159
  have old159 := old157.keep K159 (allS nn_b157 all0)
  have kp159 := kp157.trans K159 (allS (Or.inr sz_b157) all0)
  have N159 := Fr.app NN159 Nq159
  refine Go.step (fun t_ k_ => st159.trans k_) ?_
  show Go p e below _ (T159.setTop (mkF m 332 #[.val (.int (1 : Int32)), .val (.int u1), .val (.int u2), .val (.int (2 : Int32)), .val (.int u4), .val (.int u5), .val (.int (3 : Int32)), .val (.ref b132), .val (.int (1 : Int32))] [(.ref b157)]))
  refine Go.retR X159 hx Bd.returns rfl rfl Bd.notSynchronized (hb hby d5_332) (by exact ⟨b157, rfl, sz_b157, N159, kp159, ⟨_, _, Fv159, (by rw [show ((21 : Int32) + ((1 : Int32) + (2 : Int32))) = (24 : Int32) from by decide, show csAll (1 : Int32) u1 u2 (2 : Int32) u4 u5 = cl159 from by rw [hcl159]; rw [csAll, pk1, pk2]; rfl]; exact Va159)⟩, Ex159, Fc159⟩) (by decide) (by decide)
set_option maxRecDepth 65536 in
set_option maxHeartbeats 40000000 in
theorem rm5_20 (l : Launch) (Z : State) (a0 : Array Value) (hw : ∀ d ∈ tables_1, d.before a0 Z = true) (ws : List Jvm.Cond) (cs_ : Int32) (un_ : Value) (sn_ : Value) (HW : Wd Z cs_ un_ sn_) (u1 : Int32) (u2 : Int32) (u4 : Int32) (u5 : Int32) (h0 : Heap) (n0 : Nat) (Ol : Old Z n0 h0) (h_1 : CH8 u1) (h_2 : CH8 u2) (h_4 : CH8 u4) (h_5 : CH8 u5) :
    MetFree l y_5 (head1 (Jvm.Cond.code y_5 method_4_code 9 (some (.object "java/lang/String")) :: ws) (rm 4 3 54 66)) (fun a_ U_ => a_ = #[(.int (2 : Int32)), (.int u1), (.int u2), (.int (0 : Int32)), (.int u4), (.int u5)] ∧ Z.Warmed39 U_.vm ∧ U_.heap = h0) (fun _ _ _ _ _ => True) (fun _ U_ o_ V_ => ∃ v_ L_, o_ = .returned v_ ∧ Q_rm5 Z cs_ un_ sn_ (2 : Int32) u1 u2 (0 : Int32) u4 u5 h0 n0 v_ V_.heap L_ ∧ FrameEnd U_ o_ V_ L_ (rm 4 3 54 66).cells (rm 4 3 54 66).slots) := by
  refine MetFree.of_bodySF (plainFor_of_name pn_2) hisR ?_
  intro p e s m args below meth c s₁ Bd hml0 hP hK
  obtain ⟨rfl, hZ, hh⟩ := hP
  have hx := Bd.exec
  have hby := Bd.bytes
  have hml : c.maxLocals = 9 := hml0
  have hown : s.vm.findClass "com/example/penelope/penelope/internal/CoverageCannotTakeEffectPinLaw" = some m.cls := findClass_of_methodNamed Bd.named
  have hnm := (name_of_methodNamed Bd.named Bd.method).1
  have X0 : Stand p l e (rm 4 3 54 66) s m #[(.int (2 : Int32)), (.int u1), (.int u2), (.int (0 : Int32)), (.int u4), (.int u5)] below meth c s₁ [] 0 0 := Stand.of_body Bd
  have e0 : s₁.heap = h0 := by rw [← hh, Bd.state]; rfl
  have N0 := Fr.nil n0
  have kp0 := Keep.refl h0 []
  show Go p e below (Fin1 s below (Q_rm5 Z cs_ un_ sn_ (2 : Int32) u1 u2 (0 : Int32) u4 u5 h0 n0) (rm 4 3 54 66).cells (rm 4 3 54 66).slots) _
  refine Go.step (fun t_ k_ => castTop (ef_rm5 m (2 : Int32) u1 u2 (0 : Int32) u4 u5) k_) ?_
  obtain ⟨S_cs, N_cs, S_un, R_un, S_sn, R_sn⟩ := id HW
  show Go p e below _ (s₁.setTop (mkF m 0 #[.val (.int (2 : Int32)), .val (.int u1), .val (.int u2), .val (.int (0 : Int32)), .val (.int u4), .val (.int u5), .unset, .unset, .unset] []))
  show Go p e below _ (s₁.setTop (mkF m 0 #[.val (.int (2 : Int32)), .val (.int u1), .val (.int u2), .val (.int (0 : Int32)), .val (.int u4), .val (.int u5), .unset, .unset, .unset] []))
  refine gs.iloadN X0.here hx (hb hby d5_0) rfl ?_
  refine gs.iloadN X0.here hx (hb hby d5_1) rfl ?_
  refine gs.iadd X0.here hx (hb hby d5_2) ?_
  rw [show ((2 : Int32) + (0 : Int32)) = (2 : Int32) from by decide]
  refine gs.istore X0.here hx (hb hby d5_3) (l' := #[.val (.int (2 : Int32)), .val (.int u1), .val (.int u2), .val (.int (0 : Int32)), .val (.int u4), .val (.int u5), .val (.int (2 : Int32)), .unset, .unset]) rfl ?_
  refine gs.iload X0.here hx (hb hby d5_5) rfl ?_
  have hc7 : ¬ ((2 : Int32) = (0 : Int32)) := by decide
  refine gs.ifYes 19 X0.here hx (hb hby d5_7) ((if0 _ _).trans (feq hc7).2) rfl ?_
  refine gs.iload X0.here hx (hb hby d5_19) rfl ?_
  refine gs.iconst 1 X0.here hx (hb hby d5_21) rfl ?_
  have hc22 : ¬ ((2 : Int32) = (1 : Int32)) := by decide
  refine gs.icmpYes 34 X0.here hx (hb hby d5_22) (feq hc22).2 rfl ?_
  refine gs.iload X0.here hx (hb hby d5_34) rfl ?_
  refine gs.iconst 2 X0.here hx (hb hby d5_36) rfl ?_
  have hc37 : (2 : Int32) = (2 : Int32) := by decide
  refine gs.icmpNo X0.here hx (hb hby d5_37) (teq hc37).2 ?_
  refine gs.bipush 23 X0.here hx (hb hby d5_40) rfl ?_
  obtain ⟨T160, h160, k160, X160, e160, E160, A160, st160⟩ := newP X0 hx hZ (wd hw 7 rfl) e0 (g := (mkF m 42 #[.val (.int (2 : Int32)), .val (.int u1), .val (.int u2), .val (.int (0 : Int32)), .val (.int u4), .val (.int u5), .val (.int (2 : Int32)), .unset, .unset] [(.int (23 : Int32))])) rfl (hb hby d5_42) rfl (by decide) (cap := 23) (by decide) (by decide) (by decide) (by decide)
  obtain ⟨b160, g160⟩ : ∃ z, z = h0.size := ⟨_, rfl⟩
  rw [← g160] at A160 st160
  have nn_b160 : n0 ≤ b160 := Nat.le_trans (old_z0 Ol) (Nat.le_of_eq g160.symm)
  have sz_b160 : h0.size ≤ b160 := Nat.le_trans kp0.1 (Nat.le_of_eq g160.symm)
  have old160 := Ol.ext E160
  have kp160 := kp0.ext E160
  have V160 : Arv Z h160 b160 k160 .char (23 : Int32) [(.int (0 : Int32)), (.int (0 : Int32)), (.int (0 : Int32)), (.int (0 : Int32)), (.int (0 : Int32)), (.int (0 : Int32)), (.int (0 : Int32)), (.int (0 : Int32)), (.int (0 : Int32)), (.int (0 : Int32)), (.int (0 : Int32)), (.int (0 : Int32)), (.int (0 : Int32)), (.int (0 : Int32)), (.int (0 : Int32)), (.int (0 : Int32)), (.int (0 : Int32)), (.int (0 : Int32)), (.int (0 : Int32)), (.int (0 : Int32)), (.int (0 : Int32)), (.int (0 : Int32)), (.int (0 : Int32))] (.int (0 : Int32)) := (Arv.new A160 (by decide)).pad (pad_rep [] (.int (0 : Int32)) 23)
  refine Go.fin st160 ?_
  show Go p e below _ (T160.setTop (mkF m 44 _ [(.ref b160)]))
  refine gs.astore X160.here hx (hb hby d5_44) rfl (l' := #[.val (.int (2 : Int32)), .val (.int u1), .val (.int u2), .val (.int (0 : Int32)), .val (.int u4), .val (.int u5), .val (.int (2 : Int32)), .val (.ref b160), .unset]) rfl ?_
  refine gs.goto 70 X160.here hx (hb hby d5_46) rfl ?_
  refine gs.iloadN X160.here hx (hb hby d5_70) rfl ?_
  refine gs.iconst 1 X160.here hx (hb hby d5_71) rfl ?_
  have hc72 : ¬ ((2 : Int32) < (1 : Int32)) := by decide
  refine gs.icmpNo X160.here hx (hb hby d5_72) (flt hc72).1 ?_
  refine gs.aload X160.here hx (hb hby d5_75) rfl rfl ?_
  refine gs.iconst 0 X160.here hx (hb hby d5_77) rfl ?_
  refine gs.iloadN X160.here hx (hb hby d5_78) rfl ?_
  refine gs.cst X160 hx hZ e160 V160 0 (by decide) (rfl : ([(.int (0 : Int32)), (.int (0 : Int32)), (.int (0 : Int32)), (.int (0 : Int32)), (.int (0 : Int32)), (.int (0 : Int32)), (.int (0 : Int32)), (.int (0 : Int32)), (.int (0 : Int32)), (.int (0 : Int32)), (.int (0 : Int32)), (.int (0 : Int32)), (.int (0 : Int32)), (.int (0 : Int32)), (.int (0 : Int32)), (.int (0 : Int32)), (.int (0 : Int32)), (.int (0 : Int32)), (.int (0 : Int32)), (.int (0 : Int32)), (.int (0 : Int32)), (.int (0 : Int32)), (.int (0 : Int32))] : List Value).length = 23) rfl N0 nn_b160 old160 kp160 (Or.inr sz_b160) (hb hby d5_79) fun T161 h161 X161 e161 W161 N161 old161 kp161 V161 ll161 => ?_
  show Go p e below _ (T161.setTop (mkF m 80 _ []))
  refine gs.iloadN X161.here hx (hb hby d5_80) rfl ?_
  refine gs.iconst 2 X161.here hx (hb hby d5_81) rfl ?_
  have hc82 : ¬ ((2 : Int32) < (2 : Int32)) := by decide
  refine gs.icmpNo X161.here hx (hb hby d5_82) (flt hc82).1 ?_
  refine gs.aload X161.here hx (hb hby d5_85) rfl rfl ?_
  refine gs.iconst 1 X161.here hx (hb hby d5_87) rfl ?_
  refine gs.iloadN X161.here hx (hb hby d5_88) rfl ?_
  refine gs.cst X161 hx hZ e161 V161 1 (by decide) ll161 rfl N161 nn_b160 old161 kp161 (Or.inr sz_b160) (hb hby d5_89) fun T162 h162 X162 e162 W162 N162 old162 kp162 V162 ll162 => ?_
  show Go p e below _ (T162.setTop (mkF m 90 _ []))
  refine gs.iloadN X162.here hx (hb hby d5_90) rfl ?_
  refine gs.istore X162.here hx (hb hby d5_91) (l' := #[.val (.int (2 : Int32)), .val (.int u1), .val (.int u2), .val (.int (0 : Int32)), .val (.int u4), .val (.int u5), .val (.int (2 : Int32)), .val (.ref b160), .val (.int (2 : Int32))]) rfl ?_
  refine gs.aload X162.here hx (hb hby d5_93) rfl rfl ?_
  refine gs.iload X162.here hx (hb hby d5_95) rfl ?_
  refine gs.bipush 32 X162.here hx (hb hby d5_97) rfl ?_
  refine gs.cst X162 hx hZ e162 V162 2 (by decide) ll162 rfl N162 nn_b160 old162 kp162 (Or.inr sz_b160) (hb hby d5_99) fun T163 h163 X163 e163 W163 N163 old163 kp163 V163 ll163 => ?_
  show Go p e below _ (T163.setTop (mkF m 100 _ []))
  refine gs.aload X163.here hx (hb hby d5_100) rfl rfl ?_
  refine gs.iload X163.here hx (hb hby d5_102) rfl ?_
  refine gs.iconst 1 X163.here hx (hb hby d5_104) rfl ?_
  refine gs.iadd X163.here hx (hb hby d5_105) ?_
  rw [show ((2 : Int32) + (1 : Int32)) = (3 : Int32) from by decide]
  refine gs.bipush 99 X163.here hx (hb hby d5_106) rfl ?_
  refine gs.cst X163 hx hZ e163 V163 3 (by decide) ll163 rfl N163 nn_b160 old163 kp163 (Or.inr sz_b160) (hb hby d5_108) fun T164 h164 X164 e164 W164 N164 old164 kp164 V164 ll164 => ?_
  show Go p e below _ (T164.setTop (mkF m 109 _ []))
  refine gs.aload X164.here hx (hb hby d5_109) rfl rfl ?_
  refine gs.iload X164.here hx (hb hby d5_111) rfl ?_
  refine gs.iconst 2 X164.here hx (hb hby d5_113) rfl ?_
  refine gs.iadd X164.here hx (hb hby d5_114) ?_
  rw [show ((2 : Int32) + (2 : Int32)) = (4 : Int32) from by decide]
  refine gs.bipush 97 X164.here hx (hb hby d5_115) rfl ?_
  refine gs.cst X164 hx hZ e164 V164 4 (by decide) ll164 rfl N164 nn_b160 old164 kp164 (Or.inr sz_b160) (hb hby d5_117) fun T165 h165 X165 e165 W165 N165 old165 kp165 V165 ll165 => ?_
  show Go p e below _ (T165.setTop (mkF m 118 _ []))
  refine gs.aload X165.here hx (hb hby d5_118) rfl rfl ?_
  refine gs.iload X165.here hx (hb hby d5_120) rfl ?_
  refine gs.iconst 3 X165.here hx (hb hby d5_122) rfl ?_
  refine gs.iadd X165.here hx (hb hby d5_123) ?_
  rw [show ((2 : Int32) + (3 : Int32)) = (5 : Int32) from by decide]
  refine gs.bipush 110 X165.here hx (hb hby d5_124) rfl ?_
  refine gs.cst X165 hx hZ e165 V165 5 (by decide) ll165 rfl N165 nn_b160 old165 kp165 (Or.inr sz_b160) (hb hby d5_126) fun T166 h166 X166 e166 W166 N166 old166 kp166 V166 ll166 => ?_
  show Go p e below _ (T166.setTop (mkF m 127 _ []))
  refine gs.aload X166.here hx (hb hby d5_127) rfl rfl ?_
  refine gs.iload X166.here hx (hb hby d5_129) rfl ?_
  refine gs.iconst 4 X166.here hx (hb hby d5_131) rfl ?_
  refine gs.iadd X166.here hx (hb hby d5_132) ?_
  rw [show ((2 : Int32) + (4 : Int32)) = (6 : Int32) from by decide]
  refine gs.bipush 110 X166.here hx (hb hby d5_133) rfl ?_
  refine gs.cst X166 hx hZ e166 V166 6 (by decide) ll166 rfl N166 nn_b160 old166 kp166 (Or.inr sz_b160) (hb hby d5_135) fun T167 h167 X167 e167 W167 N167 old167 kp167 V167 ll167 => ?_
  show Go p e below _ (T167.setTop (mkF m 136 _ []))
  refine gs.aload X167.here hx (hb hby d5_136) rfl rfl ?_
  refine gs.iload X167.here hx (hb hby d5_138) rfl ?_
  refine gs.iconst 5 X167.here hx (hb hby d5_140) rfl ?_
  refine gs.iadd X167.here hx (hb hby d5_141) ?_
  rw [show ((2 : Int32) + (5 : Int32)) = (7 : Int32) from by decide]
  refine gs.bipush 111 X167.here hx (hb hby d5_142) rfl ?_
  refine gs.cst X167 hx hZ e167 V167 7 (by decide) ll167 rfl N167 nn_b160 old167 kp167 (Or.inr sz_b160) (hb hby d5_144) fun T168 h168 X168 e168 W168 N168 old168 kp168 V168 ll168 => ?_
  show Go p e below _ (T168.setTop (mkF m 145 _ []))
  refine gs.aload X168.here hx (hb hby d5_145) rfl rfl ?_
  refine gs.iload X168.here hx (hb hby d5_147) rfl ?_
  refine gs.bipush 6 X168.here hx (hb hby d5_149) rfl ?_
  refine gs.iadd X168.here hx (hb hby d5_151) ?_
  rw [show ((2 : Int32) + (6 : Int32)) = (8 : Int32) from by decide]
  refine gs.bipush 116 X168.here hx (hb hby d5_152) rfl ?_
  refine gs.cst X168 hx hZ e168 V168 8 (by decide) ll168 rfl N168 nn_b160 old168 kp168 (Or.inr sz_b160) (hb hby d5_154) fun T169 h169 X169 e169 W169 N169 old169 kp169 V169 ll169 => ?_
  show Go p e below _ (T169.setTop (mkF m 155 _ []))
  refine gs.aload X169.here hx (hb hby d5_155) rfl rfl ?_
  refine gs.iload X169.here hx (hb hby d5_157) rfl ?_
  refine gs.bipush 7 X169.here hx (hb hby d5_159) rfl ?_
  refine gs.iadd X169.here hx (hb hby d5_161) ?_
  rw [show ((2 : Int32) + (7 : Int32)) = (9 : Int32) from by decide]
  refine gs.bipush 32 X169.here hx (hb hby d5_162) rfl ?_
  refine gs.cst X169 hx hZ e169 V169 9 (by decide) ll169 rfl N169 nn_b160 old169 kp169 (Or.inr sz_b160) (hb hby d5_164) fun T170 h170 X170 e170 W170 N170 old170 kp170 V170 ll170 => ?_
  show Go p e below _ (T170.setTop (mkF m 165 _ []))
  refine gs.aload X170.here hx (hb hby d5_165) rfl rfl ?_
  refine gs.iload X170.here hx (hb hby d5_167) rfl ?_
  refine gs.bipush 8 X170.here hx (hb hby d5_169) rfl ?_
  refine gs.iadd X170.here hx (hb hby d5_171) ?_
  rw [show ((2 : Int32) + (8 : Int32)) = (10 : Int32) from by decide]
  refine gs.bipush 116 X170.here hx (hb hby d5_172) rfl ?_
  refine gs.cst X170 hx hZ e170 V170 10 (by decide) ll170 rfl N170 nn_b160 old170 kp170 (Or.inr sz_b160) (hb hby d5_174) fun T171 h171 X171 e171 W171 N171 old171 kp171 V171 ll171 => ?_
  show Go p e below _ (T171.setTop (mkF m 175 _ []))
  refine gs.aload X171.here hx (hb hby d5_175) rfl rfl ?_
  refine gs.iload X171.here hx (hb hby d5_177) rfl ?_
  refine gs.bipush 9 X171.here hx (hb hby d5_179) rfl ?_
  refine gs.iadd X171.here hx (hb hby d5_181) ?_
  rw [show ((2 : Int32) + (9 : Int32)) = (11 : Int32) from by decide]
  refine gs.bipush 97 X171.here hx (hb hby d5_182) rfl ?_
  refine gs.cst X171 hx hZ e171 V171 11 (by decide) ll171 rfl N171 nn_b160 old171 kp171 (Or.inr sz_b160) (hb hby d5_184) fun T172 h172 X172 e172 W172 N172 old172 kp172 V172 ll172 => ?_
  show Go p e below _ (T172.setTop (mkF m 185 _ []))
  refine gs.aload X172.here hx (hb hby d5_185) rfl rfl ?_
  refine gs.iload X172.here hx (hb hby d5_187) rfl ?_
  refine gs.bipush 10 X172.here hx (hb hby d5_189) rfl ?_
  refine gs.iadd X172.here hx (hb hby d5_191) ?_
  rw [show ((2 : Int32) + (10 : Int32)) = (12 : Int32) from by decide]
  refine gs.bipush 107 X172.here hx (hb hby d5_192) rfl ?_
  refine gs.cst X172 hx hZ e172 V172 12 (by decide) ll172 rfl N172 nn_b160 old172 kp172 (Or.inr sz_b160) (hb hby d5_194) fun T173 h173 X173 e173 W173 N173 old173 kp173 V173 ll173 => ?_
  show Go p e below _ (T173.setTop (mkF m 195 _ []))
  refine gs.aload X173.here hx (hb hby d5_195) rfl rfl ?_
  refine gs.iload X173.here hx (hb hby d5_197) rfl ?_
  refine gs.bipush 11 X173.here hx (hb hby d5_199) rfl ?_
  refine gs.iadd X173.here hx (hb hby d5_201) ?_
  rw [show ((2 : Int32) + (11 : Int32)) = (13 : Int32) from by decide]
  refine gs.bipush 101 X173.here hx (hb hby d5_202) rfl ?_
  refine gs.cst X173 hx hZ e173 V173 13 (by decide) ll173 rfl N173 nn_b160 old173 kp173 (Or.inr sz_b160) (hb hby d5_204) fun T174 h174 X174 e174 W174 N174 old174 kp174 V174 ll174 => ?_
  show Go p e below _ (T174.setTop (mkF m 205 _ []))
  refine gs.aload X174.here hx (hb hby d5_205) rfl rfl ?_
  refine gs.iload X174.here hx (hb hby d5_207) rfl ?_
  refine gs.bipush 12 X174.here hx (hb hby d5_209) rfl ?_
  refine gs.iadd X174.here hx (hb hby d5_211) ?_
  rw [show ((2 : Int32) + (12 : Int32)) = (14 : Int32) from by decide]
  refine gs.bipush 32 X174.here hx (hb hby d5_212) rfl ?_
  refine gs.cst X174 hx hZ e174 V174 14 (by decide) ll174 rfl N174 nn_b160 old174 kp174 (Or.inr sz_b160) (hb hby d5_214) fun T175 h175 X175 e175 W175 N175 old175 kp175 V175 ll175 => ?_
  show Go p e below _ (T175.setTop (mkF m 215 _ []))
  refine gs.aload X175.here hx (hb hby d5_215) rfl rfl ?_
  refine gs.iload X175.here hx (hb hby d5_217) rfl ?_
  refine gs.bipush 13 X175.here hx (hb hby d5_219) rfl ?_
  refine gs.iadd X175.here hx (hb hby d5_221) ?_
  rw [show ((2 : Int32) + (13 : Int32)) = (15 : Int32) from by decide]
  refine gs.bipush 101 X175.here hx (hb hby d5_222) rfl ?_
  refine gs.cst X175 hx hZ e175 V175 15 (by decide) ll175 rfl N175 nn_b160 old175 kp175 (Or.inr sz_b160) (hb hby d5_224) fun T176 h176 X176 e176 W176 N176 old176 kp176 V176 ll176 => ?_
  show Go p e below _ (T176.setTop (mkF m 225 _ []))
  refine gs.aload X176.here hx (hb hby d5_225) rfl rfl ?_
  refine gs.iload X176.here hx (hb hby d5_227) rfl ?_
  refine gs.bipush 14 X176.here hx (hb hby d5_229) rfl ?_
  refine gs.iadd X176.here hx (hb hby d5_231) ?_
  rw [show ((2 : Int32) + (14 : Int32)) = (16 : Int32) from by decide]
  refine gs.bipush 102 X176.here hx (hb hby d5_232) rfl ?_
  refine gs.cst X176 hx hZ e176 V176 16 (by decide) ll176 rfl N176 nn_b160 old176 kp176 (Or.inr sz_b160) (hb hby d5_234) fun T177 h177 X177 e177 W177 N177 old177 kp177 V177 ll177 => ?_
  show Go p e below _ (T177.setTop (mkF m 235 _ []))
  refine gs.aload X177.here hx (hb hby d5_235) rfl rfl ?_
  refine gs.iload X177.here hx (hb hby d5_237) rfl ?_
  refine gs.bipush 15 X177.here hx (hb hby d5_239) rfl ?_
  refine gs.iadd X177.here hx (hb hby d5_241) ?_
  rw [show ((2 : Int32) + (15 : Int32)) = (17 : Int32) from by decide]
  refine gs.bipush 102 X177.here hx (hb hby d5_242) rfl ?_
  refine gs.cst X177 hx hZ e177 V177 17 (by decide) ll177 rfl N177 nn_b160 old177 kp177 (Or.inr sz_b160) (hb hby d5_244) fun T178 h178 X178 e178 W178 N178 old178 kp178 V178 ll178 => ?_
  show Go p e below _ (T178.setTop (mkF m 245 _ []))
  refine gs.aload X178.here hx (hb hby d5_245) rfl rfl ?_
  refine gs.iload X178.here hx (hb hby d5_247) rfl ?_
  refine gs.bipush 16 X178.here hx (hb hby d5_249) rfl ?_
  refine gs.iadd X178.here hx (hb hby d5_251) ?_
  rw [show ((2 : Int32) + (16 : Int32)) = (18 : Int32) from by decide]
  refine gs.bipush 101 X178.here hx (hb hby d5_252) rfl ?_
  refine gs.cst X178 hx hZ e178 V178 18 (by decide) ll178 rfl N178 nn_b160 old178 kp178 (Or.inr sz_b160) (hb hby d5_254) fun T179 h179 X179 e179 W179 N179 old179 kp179 V179 ll179 => ?_
  show Go p e below _ (T179.setTop (mkF m 255 _ []))
  refine gs.aload X179.here hx (hb hby d5_255) rfl rfl ?_
  refine gs.iload X179.here hx (hb hby d5_257) rfl ?_
  refine gs.bipush 17 X179.here hx (hb hby d5_259) rfl ?_
  refine gs.iadd X179.here hx (hb hby d5_261) ?_
  rw [show ((2 : Int32) + (17 : Int32)) = (19 : Int32) from by decide]
  refine gs.bipush 99 X179.here hx (hb hby d5_262) rfl ?_
  refine gs.cst X179 hx hZ e179 V179 19 (by decide) ll179 rfl N179 nn_b160 old179 kp179 (Or.inr sz_b160) (hb hby d5_264) fun T180 h180 X180 e180 W180 N180 old180 kp180 V180 ll180 => ?_
  show Go p e below _ (T180.setTop (mkF m 265 _ []))
  refine gs.aload X180.here hx (hb hby d5_265) rfl rfl ?_
  refine gs.iload X180.here hx (hb hby d5_267) rfl ?_
  refine gs.bipush 18 X180.here hx (hb hby d5_269) rfl ?_
  refine gs.iadd X180.here hx (hb hby d5_271) ?_
  rw [show ((2 : Int32) + (18 : Int32)) = (20 : Int32) from by decide]
  refine gs.bipush 116 X180.here hx (hb hby d5_272) rfl ?_
  refine gs.cst X180 hx hZ e180 V180 20 (by decide) ll180 rfl N180 nn_b160 old180 kp180 (Or.inr sz_b160) (hb hby d5_274) fun T181 h181 X181 e181 W181 N181 old181 kp181 V181 ll181 => ?_
  show Go p e below _ (T181.setTop (mkF m 275 _ []))
  refine gs.aload X181.here hx (hb hby d5_275) rfl rfl ?_
  refine gs.iload X181.here hx (hb hby d5_277) rfl ?_
  refine gs.bipush 19 X181.here hx (hb hby d5_279) rfl ?_
  refine gs.iadd X181.here hx (hb hby d5_281) ?_
  rw [show ((2 : Int32) + (19 : Int32)) = (21 : Int32) from by decide]
  refine gs.bipush 58 X181.here hx (hb hby d5_282) rfl ?_
  refine gs.cst X181 hx hZ e181 V181 21 (by decide) ll181 rfl N181 nn_b160 old181 kp181 (Or.inr sz_b160) (hb hby d5_284) fun T182 h182 X182 e182 W182 N182 old182 kp182 V182 ll182 => ?_
  show Go p e below _ (T182.setTop (mkF m 285 _ []))
  refine gs.aload X182.here hx (hb hby d5_285) rfl rfl ?_
  refine gs.iload X182.here hx (hb hby d5_287) rfl ?_
  refine gs.bipush 20 X182.here hx (hb hby d5_289) rfl ?_
  refine gs.iadd X182.here hx (hb hby d5_291) ?_
  rw [show ((2 : Int32) + (20 : Int32)) = (22 : Int32) from by decide]
  refine gs.bipush 32 X182.here hx (hb hby d5_292) rfl ?_
  refine gs.cst X182 hx hZ e182 V182 22 (by decide) ll182 rfl N182 nn_b160 old182 kp182 (Or.inr sz_b160) (hb hby d5_294) fun T183 h183 X183 e183 W183 N183 old183 kp183 V183 ll183 => ?_
  show Go p e below _ (T183.setTop (mkF m 295 _ []))
  refine gs.iloadN X183.here hx (hb hby d5_295) rfl ?_
  refine gs.iconst 1 X183.here hx (hb hby d5_296) rfl ?_
  have hc297 : (0 : Int32) < (1 : Int32) := by decide
  refine gs.icmpYes 309 X183.here hx (hb hby d5_297) (tlt hc297).1 rfl ?_
  refine gs.iloadN X183.here hx (hb hby d5_309) rfl ?_
  refine gs.iconst 2 X183.here hx (hb hby d5_310) rfl ?_
  have hc311 : (0 : Int32) < (2 : Int32) := by decide
  refine gs.icmpYes 323 X183.here hx (hb hby d5_311) (tlt hc311).1 rfl ?_
  obtain ⟨T184, h184, X184, e184, E184, A184, D184, Y184, st184⟩ := newO X183 hx hZ hown (wd hw 4 rfl) (wd hw 5 rfl) (wd hw 6 rfl) e183 (g := (mkF m 323 #[.val (.int (2 : Int32)), .val (.int u1), .val (.int u2), .val (.int (0 : Int32)), .val (.int u4), .val (.int u5), .val (.int (2 : Int32)), .val (.ref b160), .val (.int (2 : Int32))] [])) rfl (hb hby d5_323) (by decide) (by decide)
  obtain ⟨b184, g184⟩ : ∃ z, z = h183.size := ⟨_, rfl⟩
  rw [← g184] at A184 D184 Y184 st184
  have nn_b184 : n0 ≤ b184 := Nat.le_trans (old_z0 old183) (Nat.le_of_eq g184.symm)
  have sz_b184 : h0.size ≤ b184 := Nat.le_trans kp183.1 (Nat.le_of_eq g184.symm)
  have old184 := old183.ext E184
  have kp184 := kp183.ext E184
  have F184_value : Fld Z h184 b184 "java/lang/String" "value" "[B" .null := D184 (Or.inr (wd hw 20 rfl)) (ty := (.array .byte)) (by decide)
  have F184_coder : Fld Z h184 b184 "java/lang/String" "coder" "B" (.int (0 : Int32)) := D184 (Or.inr (wd hw 21 rfl)) (ty := .byte) (by decide)
  refine Go.fin st184 ?_
  show Go p e below _ (T184.setTop (mkF m 326 _ [(.ref b184)]))
  refine gs.dup X184.here hx (hb hby d5_326) rfl ?_
  refine gs.aload X184.here hx (hb hby d5_327) rfl rfl ?_
  have f185 := (V183.ext E184)
  have Kd186 : Arv Z h184 b160 k160 .char (23 : Int32) [(.int (u1.toUInt32.toUInt16.toUInt32.toInt32)), (.int (u2.toUInt32.toUInt16.toUInt32.toInt32)), (.int (32 : Int32)), (.int (99 : Int32)), (.int (97 : Int32)), (.int (110 : Int32)), (.int (110 : Int32)), (.int (111 : Int32)), (.int (116 : Int32)), (.int (32 : Int32)), (.int (116 : Int32)), (.int (97 : Int32)), (.int (107 : Int32)), (.int (101 : Int32)), (.int (32 : Int32)), (.int (101 : Int32)), (.int (102 : Int32)), (.int (102 : Int32)), (.int (101 : Int32)), (.int (99 : Int32)), (.int (116 : Int32)), (.int (58 : Int32)), (.int (32 : Int32))] (.int (0 : Int32)) := by have q := f185; simp only [List.set] at q; exact q
  have Kc186 := Kd186
  simp only [h_1.1, h_2.1] at Kc186
  obtain ⟨lc186, XX186, NN186⟩ := hide_locs X184 N183
  obtain ⟨cl186, hcl186⟩ : ∃ z : List Int32, z = ([u1, u2, (32 : Int32), (99 : Int32), (97 : Int32), (110 : Int32), (110 : Int32), (111 : Int32), (116 : Int32), (32 : Int32), (116 : Int32), (97 : Int32), (107 : Int32), (101 : Int32), (32 : Int32), (101 : Int32), (102 : Int32), (102 : Int32), (101 : Int32), (99 : Int32), (116 : Int32), (58 : Int32), (32 : Int32)] : List Int32) := ⟨_, rfl⟩
  have Kcl186 : Arv Z h184 b160 k160 .char (23 : Int32) (cl186.map Value.int) (.int (0 : Int32)) := by rw [hcl186]; exact Kc186
  have ncl186 : cl186.length = 23 := by rw [hcl186]; rfl
  have pcl186 : ∀ c ∈ cl186, ¬ c < 0 ∧ ¬ (255 : Int32) < c := by rw [hcl186]; exact (allcS ⟨h_1.2.2.1, h_1.2.1⟩ (allcS ⟨h_2.2.2.1, h_2.2.1⟩ (allcS (litc (by decide)) (allcS (litc (by decide)) (allcS (litc (by decide)) (allcS (litc (by decide)) (allcS (litc (by decide)) (allcS (litc (by decide)) (allcS (litc (by decide)) (allcS (litc (by decide)) (allcS (litc (by decide)) (allcS (litc (by decide)) (allcS (litc (by decide)) (allcS (litc (by decide)) (allcS (litc (by decide)) (allcS (litc (by decide)) (allcS (litc (by decide)) (allcS (litc (by decide)) (allcS (litc (by decide)) (allcS (litc (by decide)) (allcS (litc (by decide)) (allcS (litc (by decide)) (allcS (litc (by decide)) allc0)))))))))))))))))))))))
  obtain ⟨_, _, ⟨T186, L186, k186, n186⟩, -, X186, ⟨Lc186, hQ186, l186, y186, z186⟩, st186⟩ := XX186.specialBack hx (y := y_2) rfl hown (mvT hZ (wd hw 8 rfl)) (mvT hZ (wd hw 9 rfl)) (mvT hZ (wd hw 10 rfl)) (by decide) (StrChars.Road.backV (W := 1) hZ (vwords hw) (wd hw 5 rfl) nn_b184 (old_z0 old184) A184 F184_value F184_coder (cs := cl186) (bs := cl186.map StrChars.lo8) (N := (23 : Int32)) (n := 23) Kcl186 (S_cs.ext old184.2) N_cs ncl186 (by decide) (by decide) (by decide) pcl186 (map_lo8 _) (by decide) (by decide)) (g := (mkF m 329 #[.val (.int (2 : Int32)), .val (.int u1), .val (.int u2), .val (.int (0 : Int32)), .val (.int u4), .val (.int u5), .val (.int (2 : Int32)), .val (.ref b160), .val (.int (2 : Int32))] [(.ref b160), (.ref b184), (.ref b184)])) rfl (by rw [hml]; rfl) (Steps.refl _) (a := b184) (argsL := [(.ref b160)]) (rest := [(.ref b184)]) (lenOf pd_1 rfl) rfl (by show 2 * 0 + _ ≤ _; exact Nat.le_of_eq rfl) (hb hby d5_329) (fun _ _ => ⟨rfl, e184, (by decide : 2 + 1 ≤ _), (by decide : 27 + 23 ≤ _)⟩)
  dsimp only [Pt.U, Pt.locs, Pt.cells, Pt.slots] at X186 l186 y186 z186 st186 hQ186
  subst l186 y186 z186
  obtain ⟨rfl, Nq186, K186, Ex186, Fc186, t186, kb186, -, gt_t186, -, Fv186, Va186⟩ := hQ186
  have nn_t186 : n0 ≤ t186 := Nat.le_trans (old_z0 old184) gt_t186
  have sz_t186 : h0.size ≤ t186 := Nat.le_trans kp184.1 gt_t186
  have old186 := old184.keep K186 (allS nn_b184 all0)
  have kp186 := kp184.trans K186 (allS (Or.inr sz_b184) all0)
  have N186 := Fr.app NN186 Nq186
  refine Go.step (fun t_ k_ => st186.trans k_) ?_
  show Go p e below _ (T186.setTop (mkF m 332 #[.val (.int (2 : Int32)), .val (.int u1), .val (.int u2), .val (.int (0 : Int32)), .val (.int u4), .val (.int u5), .val (.int (2 : Int32)), .val (.ref b160), .val (.int (2 : Int32))] [(.ref b184)]))
  refine Go.retR X186 hx Bd.returns rfl rfl Bd.notSynchronized (hb hby d5_332) (by exact ⟨b184, rfl, sz_b184, N186, kp186, ⟨_, _, Fv186, (by rw [show ((21 : Int32) + ((2 : Int32) + (0 : Int32))) = (23 : Int32) from by decide, show csAll (2 : Int32) u1 u2 (0 : Int32) u4 u5 = cl186 from by rw [hcl186]; rw [csAll, pk2, pk0]; rfl]; exact Va186)⟩, Ex186, Fc186⟩) (by decide) (by decide)
set_option maxRecDepth 65536 in
set_option maxHeartbeats 40000000 in
theorem rm5_21 (l : Launch) (Z : State) (a0 : Array Value) (hw : ∀ d ∈ tables_1, d.before a0 Z = true) (ws : List Jvm.Cond) (cs_ : Int32) (un_ : Value) (sn_ : Value) (HW : Wd Z cs_ un_ sn_) (u1 : Int32) (u2 : Int32) (u4 : Int32) (u5 : Int32) (h0 : Heap) (n0 : Nat) (Ol : Old Z n0 h0) (h_1 : CH8 u1) (h_2 : CH8 u2) (h_4 : CH8 u4) (h_5 : CH8 u5) :
    MetFree l y_5 (head1 (Jvm.Cond.code y_5 method_4_code 9 (some (.object "java/lang/String")) :: ws) (rm 4 3 54 66)) (fun a_ U_ => a_ = #[(.int (2 : Int32)), (.int u1), (.int u2), (.int (1 : Int32)), (.int u4), (.int u5)] ∧ Z.Warmed39 U_.vm ∧ U_.heap = h0) (fun _ _ _ _ _ => True) (fun _ U_ o_ V_ => ∃ v_ L_, o_ = .returned v_ ∧ Q_rm5 Z cs_ un_ sn_ (2 : Int32) u1 u2 (1 : Int32) u4 u5 h0 n0 v_ V_.heap L_ ∧ FrameEnd U_ o_ V_ L_ (rm 4 3 54 66).cells (rm 4 3 54 66).slots) := by
  refine MetFree.of_bodySF (plainFor_of_name pn_2) hisR ?_
  intro p e s m args below meth c s₁ Bd hml0 hP hK
  obtain ⟨rfl, hZ, hh⟩ := hP
  have hx := Bd.exec
  have hby := Bd.bytes
  have hml : c.maxLocals = 9 := hml0
  have hown : s.vm.findClass "com/example/penelope/penelope/internal/CoverageCannotTakeEffectPinLaw" = some m.cls := findClass_of_methodNamed Bd.named
  have hnm := (name_of_methodNamed Bd.named Bd.method).1
  have X0 : Stand p l e (rm 4 3 54 66) s m #[(.int (2 : Int32)), (.int u1), (.int u2), (.int (1 : Int32)), (.int u4), (.int u5)] below meth c s₁ [] 0 0 := Stand.of_body Bd
  have e0 : s₁.heap = h0 := by rw [← hh, Bd.state]; rfl
  have N0 := Fr.nil n0
  have kp0 := Keep.refl h0 []
  show Go p e below (Fin1 s below (Q_rm5 Z cs_ un_ sn_ (2 : Int32) u1 u2 (1 : Int32) u4 u5 h0 n0) (rm 4 3 54 66).cells (rm 4 3 54 66).slots) _
  refine Go.step (fun t_ k_ => castTop (ef_rm5 m (2 : Int32) u1 u2 (1 : Int32) u4 u5) k_) ?_
  obtain ⟨S_cs, N_cs, S_un, R_un, S_sn, R_sn⟩ := id HW
  show Go p e below _ (s₁.setTop (mkF m 0 #[.val (.int (2 : Int32)), .val (.int u1), .val (.int u2), .val (.int (1 : Int32)), .val (.int u4), .val (.int u5), .unset, .unset, .unset] []))
  show Go p e below _ (s₁.setTop (mkF m 0 #[.val (.int (2 : Int32)), .val (.int u1), .val (.int u2), .val (.int (1 : Int32)), .val (.int u4), .val (.int u5), .unset, .unset, .unset] []))
  refine gs.iloadN X0.here hx (hb hby d5_0) rfl ?_
  refine gs.iloadN X0.here hx (hb hby d5_1) rfl ?_
  refine gs.iadd X0.here hx (hb hby d5_2) ?_
  rw [show ((2 : Int32) + (1 : Int32)) = (3 : Int32) from by decide]
  refine gs.istore X0.here hx (hb hby d5_3) (l' := #[.val (.int (2 : Int32)), .val (.int u1), .val (.int u2), .val (.int (1 : Int32)), .val (.int u4), .val (.int u5), .val (.int (3 : Int32)), .unset, .unset]) rfl ?_
  refine gs.iload X0.here hx (hb hby d5_5) rfl ?_
  have hc7 : ¬ ((3 : Int32) = (0 : Int32)) := by decide
  refine gs.ifYes 19 X0.here hx (hb hby d5_7) ((if0 _ _).trans (feq hc7).2) rfl ?_
  refine gs.iload X0.here hx (hb hby d5_19) rfl ?_
  refine gs.iconst 1 X0.here hx (hb hby d5_21) rfl ?_
  have hc22 : ¬ ((3 : Int32) = (1 : Int32)) := by decide
  refine gs.icmpYes 34 X0.here hx (hb hby d5_22) (feq hc22).2 rfl ?_
  refine gs.iload X0.here hx (hb hby d5_34) rfl ?_
  refine gs.iconst 2 X0.here hx (hb hby d5_36) rfl ?_
  have hc37 : ¬ ((3 : Int32) = (2 : Int32)) := by decide
  refine gs.icmpYes 49 X0.here hx (hb hby d5_37) (feq hc37).2 rfl ?_
  refine gs.iload X0.here hx (hb hby d5_49) rfl ?_
  refine gs.iconst 3 X0.here hx (hb hby d5_51) rfl ?_
  have hc52 : (3 : Int32) = (3 : Int32) := by decide
  refine gs.icmpNo X0.here hx (hb hby d5_52) (teq hc52).2 ?_
  refine gs.bipush 24 X0.here hx (hb hby d5_55) rfl ?_
  obtain ⟨T187, h187, k187, X187, e187, E187, A187, st187⟩ := newP X0 hx hZ (wd hw 7 rfl) e0 (g := (mkF m 57 #[.val (.int (2 : Int32)), .val (.int u1), .val (.int u2), .val (.int (1 : Int32)), .val (.int u4), .val (.int u5), .val (.int (3 : Int32)), .unset, .unset] [(.int (24 : Int32))])) rfl (hb hby d5_57) rfl (by decide) (cap := 24) (by decide) (by decide) (by decide) (by decide)
  obtain ⟨b187, g187⟩ : ∃ z, z = h0.size := ⟨_, rfl⟩
  rw [← g187] at A187 st187
  have nn_b187 : n0 ≤ b187 := Nat.le_trans (old_z0 Ol) (Nat.le_of_eq g187.symm)
  have sz_b187 : h0.size ≤ b187 := Nat.le_trans kp0.1 (Nat.le_of_eq g187.symm)
  have old187 := Ol.ext E187
  have kp187 := kp0.ext E187
  have V187 : Arv Z h187 b187 k187 .char (24 : Int32) [(.int (0 : Int32)), (.int (0 : Int32)), (.int (0 : Int32)), (.int (0 : Int32)), (.int (0 : Int32)), (.int (0 : Int32)), (.int (0 : Int32)), (.int (0 : Int32)), (.int (0 : Int32)), (.int (0 : Int32)), (.int (0 : Int32)), (.int (0 : Int32)), (.int (0 : Int32)), (.int (0 : Int32)), (.int (0 : Int32)), (.int (0 : Int32)), (.int (0 : Int32)), (.int (0 : Int32)), (.int (0 : Int32)), (.int (0 : Int32)), (.int (0 : Int32)), (.int (0 : Int32)), (.int (0 : Int32)), (.int (0 : Int32))] (.int (0 : Int32)) := (Arv.new A187 (by decide)).pad (pad_rep [] (.int (0 : Int32)) 24)
  refine Go.fin st187 ?_
  show Go p e below _ (T187.setTop (mkF m 59 _ [(.ref b187)]))
  refine gs.astore X187.here hx (hb hby d5_59) rfl (l' := #[.val (.int (2 : Int32)), .val (.int u1), .val (.int u2), .val (.int (1 : Int32)), .val (.int u4), .val (.int u5), .val (.int (3 : Int32)), .val (.ref b187), .unset]) rfl ?_
  refine gs.goto 70 X187.here hx (hb hby d5_61) rfl ?_
  refine gs.iloadN X187.here hx (hb hby d5_70) rfl ?_
  refine gs.iconst 1 X187.here hx (hb hby d5_71) rfl ?_
  have hc72 : ¬ ((2 : Int32) < (1 : Int32)) := by decide
  refine gs.icmpNo X187.here hx (hb hby d5_72) (flt hc72).1 ?_
  refine gs.aload X187.here hx (hb hby d5_75) rfl rfl ?_
  refine gs.iconst 0 X187.here hx (hb hby d5_77) rfl ?_
  refine gs.iloadN X187.here hx (hb hby d5_78) rfl ?_
  refine gs.cst X187 hx hZ e187 V187 0 (by decide) (rfl : ([(.int (0 : Int32)), (.int (0 : Int32)), (.int (0 : Int32)), (.int (0 : Int32)), (.int (0 : Int32)), (.int (0 : Int32)), (.int (0 : Int32)), (.int (0 : Int32)), (.int (0 : Int32)), (.int (0 : Int32)), (.int (0 : Int32)), (.int (0 : Int32)), (.int (0 : Int32)), (.int (0 : Int32)), (.int (0 : Int32)), (.int (0 : Int32)), (.int (0 : Int32)), (.int (0 : Int32)), (.int (0 : Int32)), (.int (0 : Int32)), (.int (0 : Int32)), (.int (0 : Int32)), (.int (0 : Int32)), (.int (0 : Int32))] : List Value).length = 24) rfl N0 nn_b187 old187 kp187 (Or.inr sz_b187) (hb hby d5_79) fun T188 h188 X188 e188 W188 N188 old188 kp188 V188 ll188 => ?_
  show Go p e below _ (T188.setTop (mkF m 80 _ []))
  refine gs.iloadN X188.here hx (hb hby d5_80) rfl ?_
  refine gs.iconst 2 X188.here hx (hb hby d5_81) rfl ?_
  have hc82 : ¬ ((2 : Int32) < (2 : Int32)) := by decide
  refine gs.icmpNo X188.here hx (hb hby d5_82) (flt hc82).1 ?_
  refine gs.aload X188.here hx (hb hby d5_85) rfl rfl ?_
  refine gs.iconst 1 X188.here hx (hb hby d5_87) rfl ?_
  refine gs.iloadN X188.here hx (hb hby d5_88) rfl ?_
  refine gs.cst X188 hx hZ e188 V188 1 (by decide) ll188 rfl N188 nn_b187 old188 kp188 (Or.inr sz_b187) (hb hby d5_89) fun T189 h189 X189 e189 W189 N189 old189 kp189 V189 ll189 => ?_
  show Go p e below _ (T189.setTop (mkF m 90 _ []))
  refine gs.iloadN X189.here hx (hb hby d5_90) rfl ?_
  refine gs.istore X189.here hx (hb hby d5_91) (l' := #[.val (.int (2 : Int32)), .val (.int u1), .val (.int u2), .val (.int (1 : Int32)), .val (.int u4), .val (.int u5), .val (.int (3 : Int32)), .val (.ref b187), .val (.int (2 : Int32))]) rfl ?_
  refine gs.aload X189.here hx (hb hby d5_93) rfl rfl ?_
  refine gs.iload X189.here hx (hb hby d5_95) rfl ?_
  refine gs.bipush 32 X189.here hx (hb hby d5_97) rfl ?_
  refine gs.cst X189 hx hZ e189 V189 2 (by decide) ll189 rfl N189 nn_b187 old189 kp189 (Or.inr sz_b187) (hb hby d5_99) fun T190 h190 X190 e190 W190 N190 old190 kp190 V190 ll190 => ?_
  show Go p e below _ (T190.setTop (mkF m 100 _ []))
  refine gs.aload X190.here hx (hb hby d5_100) rfl rfl ?_
  refine gs.iload X190.here hx (hb hby d5_102) rfl ?_
  refine gs.iconst 1 X190.here hx (hb hby d5_104) rfl ?_
  refine gs.iadd X190.here hx (hb hby d5_105) ?_
  rw [show ((2 : Int32) + (1 : Int32)) = (3 : Int32) from by decide]
  refine gs.bipush 99 X190.here hx (hb hby d5_106) rfl ?_
  refine gs.cst X190 hx hZ e190 V190 3 (by decide) ll190 rfl N190 nn_b187 old190 kp190 (Or.inr sz_b187) (hb hby d5_108) fun T191 h191 X191 e191 W191 N191 old191 kp191 V191 ll191 => ?_
  show Go p e below _ (T191.setTop (mkF m 109 _ []))
  refine gs.aload X191.here hx (hb hby d5_109) rfl rfl ?_
  refine gs.iload X191.here hx (hb hby d5_111) rfl ?_
  refine gs.iconst 2 X191.here hx (hb hby d5_113) rfl ?_
  refine gs.iadd X191.here hx (hb hby d5_114) ?_
  rw [show ((2 : Int32) + (2 : Int32)) = (4 : Int32) from by decide]
  refine gs.bipush 97 X191.here hx (hb hby d5_115) rfl ?_
  refine gs.cst X191 hx hZ e191 V191 4 (by decide) ll191 rfl N191 nn_b187 old191 kp191 (Or.inr sz_b187) (hb hby d5_117) fun T192 h192 X192 e192 W192 N192 old192 kp192 V192 ll192 => ?_
  show Go p e below _ (T192.setTop (mkF m 118 _ []))
  refine gs.aload X192.here hx (hb hby d5_118) rfl rfl ?_
  refine gs.iload X192.here hx (hb hby d5_120) rfl ?_
  refine gs.iconst 3 X192.here hx (hb hby d5_122) rfl ?_
  refine gs.iadd X192.here hx (hb hby d5_123) ?_
  rw [show ((2 : Int32) + (3 : Int32)) = (5 : Int32) from by decide]
  refine gs.bipush 110 X192.here hx (hb hby d5_124) rfl ?_
  refine gs.cst X192 hx hZ e192 V192 5 (by decide) ll192 rfl N192 nn_b187 old192 kp192 (Or.inr sz_b187) (hb hby d5_126) fun T193 h193 X193 e193 W193 N193 old193 kp193 V193 ll193 => ?_
  show Go p e below _ (T193.setTop (mkF m 127 _ []))
  refine gs.aload X193.here hx (hb hby d5_127) rfl rfl ?_
  refine gs.iload X193.here hx (hb hby d5_129) rfl ?_
  refine gs.iconst 4 X193.here hx (hb hby d5_131) rfl ?_
  refine gs.iadd X193.here hx (hb hby d5_132) ?_
  rw [show ((2 : Int32) + (4 : Int32)) = (6 : Int32) from by decide]
  refine gs.bipush 110 X193.here hx (hb hby d5_133) rfl ?_
  refine gs.cst X193 hx hZ e193 V193 6 (by decide) ll193 rfl N193 nn_b187 old193 kp193 (Or.inr sz_b187) (hb hby d5_135) fun T194 h194 X194 e194 W194 N194 old194 kp194 V194 ll194 => ?_
  show Go p e below _ (T194.setTop (mkF m 136 _ []))
  refine gs.aload X194.here hx (hb hby d5_136) rfl rfl ?_
  refine gs.iload X194.here hx (hb hby d5_138) rfl ?_
  refine gs.iconst 5 X194.here hx (hb hby d5_140) rfl ?_
  refine gs.iadd X194.here hx (hb hby d5_141) ?_
  rw [show ((2 : Int32) + (5 : Int32)) = (7 : Int32) from by decide]
  refine gs.bipush 111 X194.here hx (hb hby d5_142) rfl ?_
  refine gs.cst X194 hx hZ e194 V194 7 (by decide) ll194 rfl N194 nn_b187 old194 kp194 (Or.inr sz_b187) (hb hby d5_144) fun T195 h195 X195 e195 W195 N195 old195 kp195 V195 ll195 => ?_
  show Go p e below _ (T195.setTop (mkF m 145 _ []))
  refine gs.aload X195.here hx (hb hby d5_145) rfl rfl ?_
  refine gs.iload X195.here hx (hb hby d5_147) rfl ?_
  refine gs.bipush 6 X195.here hx (hb hby d5_149) rfl ?_
  refine gs.iadd X195.here hx (hb hby d5_151) ?_
  rw [show ((2 : Int32) + (6 : Int32)) = (8 : Int32) from by decide]
  refine gs.bipush 116 X195.here hx (hb hby d5_152) rfl ?_
  refine gs.cst X195 hx hZ e195 V195 8 (by decide) ll195 rfl N195 nn_b187 old195 kp195 (Or.inr sz_b187) (hb hby d5_154) fun T196 h196 X196 e196 W196 N196 old196 kp196 V196 ll196 => ?_
  show Go p e below _ (T196.setTop (mkF m 155 _ []))
  refine gs.aload X196.here hx (hb hby d5_155) rfl rfl ?_
  refine gs.iload X196.here hx (hb hby d5_157) rfl ?_
  refine gs.bipush 7 X196.here hx (hb hby d5_159) rfl ?_
  refine gs.iadd X196.here hx (hb hby d5_161) ?_
  rw [show ((2 : Int32) + (7 : Int32)) = (9 : Int32) from by decide]
  refine gs.bipush 32 X196.here hx (hb hby d5_162) rfl ?_
  refine gs.cst X196 hx hZ e196 V196 9 (by decide) ll196 rfl N196 nn_b187 old196 kp196 (Or.inr sz_b187) (hb hby d5_164) fun T197 h197 X197 e197 W197 N197 old197 kp197 V197 ll197 => ?_
  show Go p e below _ (T197.setTop (mkF m 165 _ []))
  refine gs.aload X197.here hx (hb hby d5_165) rfl rfl ?_
  refine gs.iload X197.here hx (hb hby d5_167) rfl ?_
  refine gs.bipush 8 X197.here hx (hb hby d5_169) rfl ?_
  refine gs.iadd X197.here hx (hb hby d5_171) ?_
  rw [show ((2 : Int32) + (8 : Int32)) = (10 : Int32) from by decide]
  refine gs.bipush 116 X197.here hx (hb hby d5_172) rfl ?_
  refine gs.cst X197 hx hZ e197 V197 10 (by decide) ll197 rfl N197 nn_b187 old197 kp197 (Or.inr sz_b187) (hb hby d5_174) fun T198 h198 X198 e198 W198 N198 old198 kp198 V198 ll198 => ?_
  show Go p e below _ (T198.setTop (mkF m 175 _ []))
  refine gs.aload X198.here hx (hb hby d5_175) rfl rfl ?_
  refine gs.iload X198.here hx (hb hby d5_177) rfl ?_
  refine gs.bipush 9 X198.here hx (hb hby d5_179) rfl ?_
  refine gs.iadd X198.here hx (hb hby d5_181) ?_
  rw [show ((2 : Int32) + (9 : Int32)) = (11 : Int32) from by decide]
  refine gs.bipush 97 X198.here hx (hb hby d5_182) rfl ?_
  refine gs.cst X198 hx hZ e198 V198 11 (by decide) ll198 rfl N198 nn_b187 old198 kp198 (Or.inr sz_b187) (hb hby d5_184) fun T199 h199 X199 e199 W199 N199 old199 kp199 V199 ll199 => ?_
  show Go p e below _ (T199.setTop (mkF m 185 _ []))
  refine gs.aload X199.here hx (hb hby d5_185) rfl rfl ?_
  refine gs.iload X199.here hx (hb hby d5_187) rfl ?_
  refine gs.bipush 10 X199.here hx (hb hby d5_189) rfl ?_
  refine gs.iadd X199.here hx (hb hby d5_191) ?_
  rw [show ((2 : Int32) + (10 : Int32)) = (12 : Int32) from by decide]
  refine gs.bipush 107 X199.here hx (hb hby d5_192) rfl ?_
  refine gs.cst X199 hx hZ e199 V199 12 (by decide) ll199 rfl N199 nn_b187 old199 kp199 (Or.inr sz_b187) (hb hby d5_194) fun T200 h200 X200 e200 W200 N200 old200 kp200 V200 ll200 => ?_
  show Go p e below _ (T200.setTop (mkF m 195 _ []))
  refine gs.aload X200.here hx (hb hby d5_195) rfl rfl ?_
  refine gs.iload X200.here hx (hb hby d5_197) rfl ?_
  refine gs.bipush 11 X200.here hx (hb hby d5_199) rfl ?_
  refine gs.iadd X200.here hx (hb hby d5_201) ?_
  rw [show ((2 : Int32) + (11 : Int32)) = (13 : Int32) from by decide]
  refine gs.bipush 101 X200.here hx (hb hby d5_202) rfl ?_
  refine gs.cst X200 hx hZ e200 V200 13 (by decide) ll200 rfl N200 nn_b187 old200 kp200 (Or.inr sz_b187) (hb hby d5_204) fun T201 h201 X201 e201 W201 N201 old201 kp201 V201 ll201 => ?_
  show Go p e below _ (T201.setTop (mkF m 205 _ []))
  refine gs.aload X201.here hx (hb hby d5_205) rfl rfl ?_
  refine gs.iload X201.here hx (hb hby d5_207) rfl ?_
  refine gs.bipush 12 X201.here hx (hb hby d5_209) rfl ?_
  refine gs.iadd X201.here hx (hb hby d5_211) ?_
  rw [show ((2 : Int32) + (12 : Int32)) = (14 : Int32) from by decide]
  refine gs.bipush 32 X201.here hx (hb hby d5_212) rfl ?_
  refine gs.cst X201 hx hZ e201 V201 14 (by decide) ll201 rfl N201 nn_b187 old201 kp201 (Or.inr sz_b187) (hb hby d5_214) fun T202 h202 X202 e202 W202 N202 old202 kp202 V202 ll202 => ?_
  show Go p e below _ (T202.setTop (mkF m 215 _ []))
  refine gs.aload X202.here hx (hb hby d5_215) rfl rfl ?_
  refine gs.iload X202.here hx (hb hby d5_217) rfl ?_
  refine gs.bipush 13 X202.here hx (hb hby d5_219) rfl ?_
  refine gs.iadd X202.here hx (hb hby d5_221) ?_
  rw [show ((2 : Int32) + (13 : Int32)) = (15 : Int32) from by decide]
  refine gs.bipush 101 X202.here hx (hb hby d5_222) rfl ?_
  refine gs.cst X202 hx hZ e202 V202 15 (by decide) ll202 rfl N202 nn_b187 old202 kp202 (Or.inr sz_b187) (hb hby d5_224) fun T203 h203 X203 e203 W203 N203 old203 kp203 V203 ll203 => ?_
  show Go p e below _ (T203.setTop (mkF m 225 _ []))
  refine gs.aload X203.here hx (hb hby d5_225) rfl rfl ?_
  refine gs.iload X203.here hx (hb hby d5_227) rfl ?_
  refine gs.bipush 14 X203.here hx (hb hby d5_229) rfl ?_
  refine gs.iadd X203.here hx (hb hby d5_231) ?_
  rw [show ((2 : Int32) + (14 : Int32)) = (16 : Int32) from by decide]
  refine gs.bipush 102 X203.here hx (hb hby d5_232) rfl ?_
  refine gs.cst X203 hx hZ e203 V203 16 (by decide) ll203 rfl N203 nn_b187 old203 kp203 (Or.inr sz_b187) (hb hby d5_234) fun T204 h204 X204 e204 W204 N204 old204 kp204 V204 ll204 => ?_
  show Go p e below _ (T204.setTop (mkF m 235 _ []))
  refine gs.aload X204.here hx (hb hby d5_235) rfl rfl ?_
  refine gs.iload X204.here hx (hb hby d5_237) rfl ?_
  refine gs.bipush 15 X204.here hx (hb hby d5_239) rfl ?_
  refine gs.iadd X204.here hx (hb hby d5_241) ?_
  rw [show ((2 : Int32) + (15 : Int32)) = (17 : Int32) from by decide]
  refine gs.bipush 102 X204.here hx (hb hby d5_242) rfl ?_
  refine gs.cst X204 hx hZ e204 V204 17 (by decide) ll204 rfl N204 nn_b187 old204 kp204 (Or.inr sz_b187) (hb hby d5_244) fun T205 h205 X205 e205 W205 N205 old205 kp205 V205 ll205 => ?_
  show Go p e below _ (T205.setTop (mkF m 245 _ []))
  refine gs.aload X205.here hx (hb hby d5_245) rfl rfl ?_
  refine gs.iload X205.here hx (hb hby d5_247) rfl ?_
  refine gs.bipush 16 X205.here hx (hb hby d5_249) rfl ?_
  refine gs.iadd X205.here hx (hb hby d5_251) ?_
  rw [show ((2 : Int32) + (16 : Int32)) = (18 : Int32) from by decide]
  refine gs.bipush 101 X205.here hx (hb hby d5_252) rfl ?_
  refine gs.cst X205 hx hZ e205 V205 18 (by decide) ll205 rfl N205 nn_b187 old205 kp205 (Or.inr sz_b187) (hb hby d5_254) fun T206 h206 X206 e206 W206 N206 old206 kp206 V206 ll206 => ?_
  show Go p e below _ (T206.setTop (mkF m 255 _ []))
  refine gs.aload X206.here hx (hb hby d5_255) rfl rfl ?_
  refine gs.iload X206.here hx (hb hby d5_257) rfl ?_
  refine gs.bipush 17 X206.here hx (hb hby d5_259) rfl ?_
  refine gs.iadd X206.here hx (hb hby d5_261) ?_
  rw [show ((2 : Int32) + (17 : Int32)) = (19 : Int32) from by decide]
  refine gs.bipush 99 X206.here hx (hb hby d5_262) rfl ?_
  refine gs.cst X206 hx hZ e206 V206 19 (by decide) ll206 rfl N206 nn_b187 old206 kp206 (Or.inr sz_b187) (hb hby d5_264) fun T207 h207 X207 e207 W207 N207 old207 kp207 V207 ll207 => ?_
  show Go p e below _ (T207.setTop (mkF m 265 _ []))
  refine gs.aload X207.here hx (hb hby d5_265) rfl rfl ?_
  refine gs.iload X207.here hx (hb hby d5_267) rfl ?_
  refine gs.bipush 18 X207.here hx (hb hby d5_269) rfl ?_
  refine gs.iadd X207.here hx (hb hby d5_271) ?_
  rw [show ((2 : Int32) + (18 : Int32)) = (20 : Int32) from by decide]
  refine gs.bipush 116 X207.here hx (hb hby d5_272) rfl ?_
  refine gs.cst X207 hx hZ e207 V207 20 (by decide) ll207 rfl N207 nn_b187 old207 kp207 (Or.inr sz_b187) (hb hby d5_274) fun T208 h208 X208 e208 W208 N208 old208 kp208 V208 ll208 => ?_
  show Go p e below _ (T208.setTop (mkF m 275 _ []))
  refine gs.aload X208.here hx (hb hby d5_275) rfl rfl ?_
  refine gs.iload X208.here hx (hb hby d5_277) rfl ?_
  refine gs.bipush 19 X208.here hx (hb hby d5_279) rfl ?_
  refine gs.iadd X208.here hx (hb hby d5_281) ?_
  rw [show ((2 : Int32) + (19 : Int32)) = (21 : Int32) from by decide]
  refine gs.bipush 58 X208.here hx (hb hby d5_282) rfl ?_
  refine gs.cst X208 hx hZ e208 V208 21 (by decide) ll208 rfl N208 nn_b187 old208 kp208 (Or.inr sz_b187) (hb hby d5_284) fun T209 h209 X209 e209 W209 N209 old209 kp209 V209 ll209 => ?_
  show Go p e below _ (T209.setTop (mkF m 285 _ []))
  refine gs.aload X209.here hx (hb hby d5_285) rfl rfl ?_
  refine gs.iload X209.here hx (hb hby d5_287) rfl ?_
  refine gs.bipush 20 X209.here hx (hb hby d5_289) rfl ?_
  refine gs.iadd X209.here hx (hb hby d5_291) ?_
  rw [show ((2 : Int32) + (20 : Int32)) = (22 : Int32) from by decide]
  refine gs.bipush 32 X209.here hx (hb hby d5_292) rfl ?_
  refine gs.cst X209 hx hZ e209 V209 22 (by decide) ll209 rfl N209 nn_b187 old209 kp209 (Or.inr sz_b187) (hb hby d5_294) fun T210 h210 X210 e210 W210 N210 old210 kp210 V210 ll210 => ?_
  show Go p e below _ (T210.setTop (mkF m 295 _ []))
  refine gs.iloadN X210.here hx (hb hby d5_295) rfl ?_
  refine gs.iconst 1 X210.here hx (hb hby d5_296) rfl ?_
  have hc297 : ¬ ((1 : Int32) < (1 : Int32)) := by decide
  refine gs.icmpNo X210.here hx (hb hby d5_297) (flt hc297).1 ?_
  refine gs.aload X210.here hx (hb hby d5_300) rfl rfl ?_
  refine gs.iloadN X210.here hx (hb hby d5_302) rfl ?_
  refine gs.bipush 21 X210.here hx (hb hby d5_303) rfl ?_
  refine gs.iadd X210.here hx (hb hby d5_305) ?_
  rw [show ((2 : Int32) + (21 : Int32)) = (23 : Int32) from by decide]
  refine gs.iload X210.here hx (hb hby d5_306) rfl ?_
  refine gs.cst X210 hx hZ e210 V210 23 (by decide) ll210 rfl N210 nn_b187 old210 kp210 (Or.inr sz_b187) (hb hby d5_308) fun T211 h211 X211 e211 W211 N211 old211 kp211 V211 ll211 => ?_
  show Go p e below _ (T211.setTop (mkF m 309 _ []))
  refine gs.iloadN X211.here hx (hb hby d5_309) rfl ?_
  refine gs.iconst 2 X211.here hx (hb hby d5_310) rfl ?_
  have hc311 : (1 : Int32) < (2 : Int32) := by decide
  refine gs.icmpYes 323 X211.here hx (hb hby d5_311) (tlt hc311).1 rfl ?_
  obtain ⟨T212, h212, X212, e212, E212, A212, D212, Y212, st212⟩ := newO X211 hx hZ hown (wd hw 4 rfl) (wd hw 5 rfl) (wd hw 6 rfl) e211 (g := (mkF m 323 #[.val (.int (2 : Int32)), .val (.int u1), .val (.int u2), .val (.int (1 : Int32)), .val (.int u4), .val (.int u5), .val (.int (3 : Int32)), .val (.ref b187), .val (.int (2 : Int32))] [])) rfl (hb hby d5_323) (by decide) (by decide)
  obtain ⟨b212, g212⟩ : ∃ z, z = h211.size := ⟨_, rfl⟩
  rw [← g212] at A212 D212 Y212 st212
  have nn_b212 : n0 ≤ b212 := Nat.le_trans (old_z0 old211) (Nat.le_of_eq g212.symm)
  have sz_b212 : h0.size ≤ b212 := Nat.le_trans kp211.1 (Nat.le_of_eq g212.symm)
  have old212 := old211.ext E212
  have kp212 := kp211.ext E212
  have F212_value : Fld Z h212 b212 "java/lang/String" "value" "[B" .null := D212 (Or.inr (wd hw 20 rfl)) (ty := (.array .byte)) (by decide)
  have F212_coder : Fld Z h212 b212 "java/lang/String" "coder" "B" (.int (0 : Int32)) := D212 (Or.inr (wd hw 21 rfl)) (ty := .byte) (by decide)
  refine Go.fin st212 ?_
  show Go p e below _ (T212.setTop (mkF m 326 _ [(.ref b212)]))
  refine gs.dup X212.here hx (hb hby d5_326) rfl ?_
  refine gs.aload X212.here hx (hb hby d5_327) rfl rfl ?_
  have f213 := (V211.ext E212)
  have Kd214 : Arv Z h212 b187 k187 .char (24 : Int32) [(.int (u1.toUInt32.toUInt16.toUInt32.toInt32)), (.int (u2.toUInt32.toUInt16.toUInt32.toInt32)), (.int (32 : Int32)), (.int (99 : Int32)), (.int (97 : Int32)), (.int (110 : Int32)), (.int (110 : Int32)), (.int (111 : Int32)), (.int (116 : Int32)), (.int (32 : Int32)), (.int (116 : Int32)), (.int (97 : Int32)), (.int (107 : Int32)), (.int (101 : Int32)), (.int (32 : Int32)), (.int (101 : Int32)), (.int (102 : Int32)), (.int (102 : Int32)), (.int (101 : Int32)), (.int (99 : Int32)), (.int (116 : Int32)), (.int (58 : Int32)), (.int (32 : Int32)), (.int (u4.toUInt32.toUInt16.toUInt32.toInt32))] (.int (0 : Int32)) := by have q := f213; simp only [List.set] at q; exact q
  have Kc214 := Kd214
  simp only [h_1.1, h_2.1, h_4.1] at Kc214
  obtain ⟨lc214, XX214, NN214⟩ := hide_locs X212 N211
  obtain ⟨cl214, hcl214⟩ : ∃ z : List Int32, z = ([u1, u2, (32 : Int32), (99 : Int32), (97 : Int32), (110 : Int32), (110 : Int32), (111 : Int32), (116 : Int32), (32 : Int32), (116 : Int32), (97 : Int32), (107 : Int32), (101 : Int32), (32 : Int32), (101 : Int32), (102 : Int32), (102 : Int32), (101 : Int32), (99 : Int32), (116 : Int32), (58 : Int32), (32 : Int32), u4] : List Int32) := ⟨_, rfl⟩
  have Kcl214 : Arv Z h212 b187 k187 .char (24 : Int32) (cl214.map Value.int) (.int (0 : Int32)) := by rw [hcl214]; exact Kc214
  have ncl214 : cl214.length = 24 := by rw [hcl214]; rfl
  have pcl214 : ∀ c ∈ cl214, ¬ c < 0 ∧ ¬ (255 : Int32) < c := by rw [hcl214]; exact (allcS ⟨h_1.2.2.1, h_1.2.1⟩ (allcS ⟨h_2.2.2.1, h_2.2.1⟩ (allcS (litc (by decide)) (allcS (litc (by decide)) (allcS (litc (by decide)) (allcS (litc (by decide)) (allcS (litc (by decide)) (allcS (litc (by decide)) (allcS (litc (by decide)) (allcS (litc (by decide)) (allcS (litc (by decide)) (allcS (litc (by decide)) (allcS (litc (by decide)) (allcS (litc (by decide)) (allcS (litc (by decide)) (allcS (litc (by decide)) (allcS (litc (by decide)) (allcS (litc (by decide)) (allcS (litc (by decide)) (allcS (litc (by decide)) (allcS (litc (by decide)) (allcS (litc (by decide)) (allcS (litc (by decide)) (allcS ⟨h_4.2.2.1, h_4.2.1⟩ allc0))))))))))))))))))))))))
  obtain ⟨_, _, ⟨T214, L214, k214, n214⟩, -, X214, ⟨Lc214, hQ214, l214, y214, z214⟩, st214⟩ := XX214.specialBack hx (y := y_2) rfl hown (mvT hZ (wd hw 8 rfl)) (mvT hZ (wd hw 9 rfl)) (mvT hZ (wd hw 10 rfl)) (by decide) (StrChars.Road.backV (W := 1) hZ (vwords hw) (wd hw 5 rfl) nn_b212 (old_z0 old212) A212 F212_value F212_coder (cs := cl214) (bs := cl214.map StrChars.lo8) (N := (24 : Int32)) (n := 24) Kcl214 (S_cs.ext old212.2) N_cs ncl214 (by decide) (by decide) (by decide) pcl214 (map_lo8 _) (by decide) (by decide)) (g := (mkF m 329 #[.val (.int (2 : Int32)), .val (.int u1), .val (.int u2), .val (.int (1 : Int32)), .val (.int u4), .val (.int u5), .val (.int (3 : Int32)), .val (.ref b187), .val (.int (2 : Int32))] [(.ref b187), (.ref b212), (.ref b212)])) rfl (by rw [hml]; rfl) (Steps.refl _) (a := b212) (argsL := [(.ref b187)]) (rest := [(.ref b212)]) (lenOf pd_1 rfl) rfl (by show 2 * 0 + _ ≤ _; exact Nat.le_of_eq rfl) (hb hby d5_329) (fun _ _ => ⟨rfl, e212, (by decide : 2 + 1 ≤ _), (by decide : 28 + 24 ≤ _)⟩)
  dsimp only [Pt.U, Pt.locs, Pt.cells, Pt.slots] at X214 l214 y214 z214 st214 hQ214
  subst l214 y214 z214
  obtain ⟨rfl, Nq214, K214, Ex214, Fc214, t214, kb214, -, gt_t214, -, Fv214, Va214⟩ := hQ214
  have nn_t214 : n0 ≤ t214 := Nat.le_trans (old_z0 old212) gt_t214
  have sz_t214 : h0.size ≤ t214 := Nat.le_trans kp212.1 gt_t214
  have old214 := old212.keep K214 (allS nn_b212 all0)
  have kp214 := kp212.trans K214 (allS (Or.inr sz_b212) all0)
  have N214 := Fr.app NN214 Nq214
  refine Go.step (fun t_ k_ => st214.trans k_) ?_
  show Go p e below _ (T214.setTop (mkF m 332 #[.val (.int (2 : Int32)), .val (.int u1), .val (.int u2), .val (.int (1 : Int32)), .val (.int u4), .val (.int u5), .val (.int (3 : Int32)), .val (.ref b187), .val (.int (2 : Int32))] [(.ref b212)]))
  refine Go.retR X214 hx Bd.returns rfl rfl Bd.notSynchronized (hb hby d5_332) (by exact ⟨b212, rfl, sz_b212, N214, kp214, ⟨_, _, Fv214, (by rw [show ((21 : Int32) + ((2 : Int32) + (1 : Int32))) = (24 : Int32) from by decide, show csAll (2 : Int32) u1 u2 (1 : Int32) u4 u5 = cl214 from by rw [hcl214]; rw [csAll, pk2, pk1]; rfl]; exact Va214)⟩, Ex214, Fc214⟩) (by decide) (by decide)
set_option maxRecDepth 65536 in
set_option maxHeartbeats 40000000 in
theorem rm5_22 (l : Launch) (Z : State) (a0 : Array Value) (hw : ∀ d ∈ tables_1, d.before a0 Z = true) (ws : List Jvm.Cond) (cs_ : Int32) (un_ : Value) (sn_ : Value) (HW : Wd Z cs_ un_ sn_) (u1 : Int32) (u2 : Int32) (u4 : Int32) (u5 : Int32) (h0 : Heap) (n0 : Nat) (Ol : Old Z n0 h0) (h_1 : CH8 u1) (h_2 : CH8 u2) (h_4 : CH8 u4) (h_5 : CH8 u5) :
    MetFree l y_5 (head1 (Jvm.Cond.code y_5 method_4_code 9 (some (.object "java/lang/String")) :: ws) (rm 4 3 54 66)) (fun a_ U_ => a_ = #[(.int (2 : Int32)), (.int u1), (.int u2), (.int (2 : Int32)), (.int u4), (.int u5)] ∧ Z.Warmed39 U_.vm ∧ U_.heap = h0) (fun _ _ _ _ _ => True) (fun _ U_ o_ V_ => ∃ v_ L_, o_ = .returned v_ ∧ Q_rm5 Z cs_ un_ sn_ (2 : Int32) u1 u2 (2 : Int32) u4 u5 h0 n0 v_ V_.heap L_ ∧ FrameEnd U_ o_ V_ L_ (rm 4 3 54 66).cells (rm 4 3 54 66).slots) := by
  refine MetFree.of_bodySF (plainFor_of_name pn_2) hisR ?_
  intro p e s m args below meth c s₁ Bd hml0 hP hK
  obtain ⟨rfl, hZ, hh⟩ := hP
  have hx := Bd.exec
  have hby := Bd.bytes
  have hml : c.maxLocals = 9 := hml0
  have hown : s.vm.findClass "com/example/penelope/penelope/internal/CoverageCannotTakeEffectPinLaw" = some m.cls := findClass_of_methodNamed Bd.named
  have hnm := (name_of_methodNamed Bd.named Bd.method).1
  have X0 : Stand p l e (rm 4 3 54 66) s m #[(.int (2 : Int32)), (.int u1), (.int u2), (.int (2 : Int32)), (.int u4), (.int u5)] below meth c s₁ [] 0 0 := Stand.of_body Bd
  have e0 : s₁.heap = h0 := by rw [← hh, Bd.state]; rfl
  have N0 := Fr.nil n0
  have kp0 := Keep.refl h0 []
  show Go p e below (Fin1 s below (Q_rm5 Z cs_ un_ sn_ (2 : Int32) u1 u2 (2 : Int32) u4 u5 h0 n0) (rm 4 3 54 66).cells (rm 4 3 54 66).slots) _
  refine Go.step (fun t_ k_ => castTop (ef_rm5 m (2 : Int32) u1 u2 (2 : Int32) u4 u5) k_) ?_
  obtain ⟨S_cs, N_cs, S_un, R_un, S_sn, R_sn⟩ := id HW
  show Go p e below _ (s₁.setTop (mkF m 0 #[.val (.int (2 : Int32)), .val (.int u1), .val (.int u2), .val (.int (2 : Int32)), .val (.int u4), .val (.int u5), .unset, .unset, .unset] []))
  show Go p e below _ (s₁.setTop (mkF m 0 #[.val (.int (2 : Int32)), .val (.int u1), .val (.int u2), .val (.int (2 : Int32)), .val (.int u4), .val (.int u5), .unset, .unset, .unset] []))
  refine gs.iloadN X0.here hx (hb hby d5_0) rfl ?_
  refine gs.iloadN X0.here hx (hb hby d5_1) rfl ?_
  refine gs.iadd X0.here hx (hb hby d5_2) ?_
  rw [show ((2 : Int32) + (2 : Int32)) = (4 : Int32) from by decide]
  refine gs.istore X0.here hx (hb hby d5_3) (l' := #[.val (.int (2 : Int32)), .val (.int u1), .val (.int u2), .val (.int (2 : Int32)), .val (.int u4), .val (.int u5), .val (.int (4 : Int32)), .unset, .unset]) rfl ?_
  refine gs.iload X0.here hx (hb hby d5_5) rfl ?_
  have hc7 : ¬ ((4 : Int32) = (0 : Int32)) := by decide
  refine gs.ifYes 19 X0.here hx (hb hby d5_7) ((if0 _ _).trans (feq hc7).2) rfl ?_
  refine gs.iload X0.here hx (hb hby d5_19) rfl ?_
  refine gs.iconst 1 X0.here hx (hb hby d5_21) rfl ?_
  have hc22 : ¬ ((4 : Int32) = (1 : Int32)) := by decide
  refine gs.icmpYes 34 X0.here hx (hb hby d5_22) (feq hc22).2 rfl ?_
  refine gs.iload X0.here hx (hb hby d5_34) rfl ?_
  refine gs.iconst 2 X0.here hx (hb hby d5_36) rfl ?_
  have hc37 : ¬ ((4 : Int32) = (2 : Int32)) := by decide
  refine gs.icmpYes 49 X0.here hx (hb hby d5_37) (feq hc37).2 rfl ?_
  refine gs.iload X0.here hx (hb hby d5_49) rfl ?_
  refine gs.iconst 3 X0.here hx (hb hby d5_51) rfl ?_
  have hc52 : ¬ ((4 : Int32) = (3 : Int32)) := by decide
  refine gs.icmpYes 64 X0.here hx (hb hby d5_52) (feq hc52).2 rfl ?_
  refine gs.bipush 25 X0.here hx (hb hby d5_64) rfl ?_
  obtain ⟨T215, h215, k215, X215, e215, E215, A215, st215⟩ := newP X0 hx hZ (wd hw 7 rfl) e0 (g := (mkF m 66 #[.val (.int (2 : Int32)), .val (.int u1), .val (.int u2), .val (.int (2 : Int32)), .val (.int u4), .val (.int u5), .val (.int (4 : Int32)), .unset, .unset] [(.int (25 : Int32))])) rfl (hb hby d5_66) rfl (by decide) (cap := 25) (by decide) (by decide) (by decide) (by decide)
  obtain ⟨b215, g215⟩ : ∃ z, z = h0.size := ⟨_, rfl⟩
  rw [← g215] at A215 st215
  have nn_b215 : n0 ≤ b215 := Nat.le_trans (old_z0 Ol) (Nat.le_of_eq g215.symm)
  have sz_b215 : h0.size ≤ b215 := Nat.le_trans kp0.1 (Nat.le_of_eq g215.symm)
  have old215 := Ol.ext E215
  have kp215 := kp0.ext E215
  have V215 : Arv Z h215 b215 k215 .char (25 : Int32) [(.int (0 : Int32)), (.int (0 : Int32)), (.int (0 : Int32)), (.int (0 : Int32)), (.int (0 : Int32)), (.int (0 : Int32)), (.int (0 : Int32)), (.int (0 : Int32)), (.int (0 : Int32)), (.int (0 : Int32)), (.int (0 : Int32)), (.int (0 : Int32)), (.int (0 : Int32)), (.int (0 : Int32)), (.int (0 : Int32)), (.int (0 : Int32)), (.int (0 : Int32)), (.int (0 : Int32)), (.int (0 : Int32)), (.int (0 : Int32)), (.int (0 : Int32)), (.int (0 : Int32)), (.int (0 : Int32)), (.int (0 : Int32)), (.int (0 : Int32))] (.int (0 : Int32)) := (Arv.new A215 (by decide)).pad (pad_rep [] (.int (0 : Int32)) 25)
  refine Go.fin st215 ?_
  show Go p e below _ (T215.setTop (mkF m 68 _ [(.ref b215)]))
  refine gs.astore X215.here hx (hb hby d5_68) rfl (l' := #[.val (.int (2 : Int32)), .val (.int u1), .val (.int u2), .val (.int (2 : Int32)), .val (.int u4), .val (.int u5), .val (.int (4 : Int32)), .val (.ref b215), .unset]) rfl ?_
  refine gs.iloadN X215.here hx (hb hby d5_70) rfl ?_
  refine gs.iconst 1 X215.here hx (hb hby d5_71) rfl ?_
  have hc72 : ¬ ((2 : Int32) < (1 : Int32)) := by decide
  refine gs.icmpNo X215.here hx (hb hby d5_72) (flt hc72).1 ?_
  refine gs.aload X215.here hx (hb hby d5_75) rfl rfl ?_
  refine gs.iconst 0 X215.here hx (hb hby d5_77) rfl ?_
  refine gs.iloadN X215.here hx (hb hby d5_78) rfl ?_
  refine gs.cst X215 hx hZ e215 V215 0 (by decide) (rfl : ([(.int (0 : Int32)), (.int (0 : Int32)), (.int (0 : Int32)), (.int (0 : Int32)), (.int (0 : Int32)), (.int (0 : Int32)), (.int (0 : Int32)), (.int (0 : Int32)), (.int (0 : Int32)), (.int (0 : Int32)), (.int (0 : Int32)), (.int (0 : Int32)), (.int (0 : Int32)), (.int (0 : Int32)), (.int (0 : Int32)), (.int (0 : Int32)), (.int (0 : Int32)), (.int (0 : Int32)), (.int (0 : Int32)), (.int (0 : Int32)), (.int (0 : Int32)), (.int (0 : Int32)), (.int (0 : Int32)), (.int (0 : Int32)), (.int (0 : Int32))] : List Value).length = 25) rfl N0 nn_b215 old215 kp215 (Or.inr sz_b215) (hb hby d5_79) fun T216 h216 X216 e216 W216 N216 old216 kp216 V216 ll216 => ?_
  show Go p e below _ (T216.setTop (mkF m 80 _ []))
  refine gs.iloadN X216.here hx (hb hby d5_80) rfl ?_
  refine gs.iconst 2 X216.here hx (hb hby d5_81) rfl ?_
  have hc82 : ¬ ((2 : Int32) < (2 : Int32)) := by decide
  refine gs.icmpNo X216.here hx (hb hby d5_82) (flt hc82).1 ?_
  refine gs.aload X216.here hx (hb hby d5_85) rfl rfl ?_
  refine gs.iconst 1 X216.here hx (hb hby d5_87) rfl ?_
  refine gs.iloadN X216.here hx (hb hby d5_88) rfl ?_
  refine gs.cst X216 hx hZ e216 V216 1 (by decide) ll216 rfl N216 nn_b215 old216 kp216 (Or.inr sz_b215) (hb hby d5_89) fun T217 h217 X217 e217 W217 N217 old217 kp217 V217 ll217 => ?_
  show Go p e below _ (T217.setTop (mkF m 90 _ []))
  refine gs.iloadN X217.here hx (hb hby d5_90) rfl ?_
  refine gs.istore X217.here hx (hb hby d5_91) (l' := #[.val (.int (2 : Int32)), .val (.int u1), .val (.int u2), .val (.int (2 : Int32)), .val (.int u4), .val (.int u5), .val (.int (4 : Int32)), .val (.ref b215), .val (.int (2 : Int32))]) rfl ?_
  refine gs.aload X217.here hx (hb hby d5_93) rfl rfl ?_
  refine gs.iload X217.here hx (hb hby d5_95) rfl ?_
  refine gs.bipush 32 X217.here hx (hb hby d5_97) rfl ?_
  refine gs.cst X217 hx hZ e217 V217 2 (by decide) ll217 rfl N217 nn_b215 old217 kp217 (Or.inr sz_b215) (hb hby d5_99) fun T218 h218 X218 e218 W218 N218 old218 kp218 V218 ll218 => ?_
  show Go p e below _ (T218.setTop (mkF m 100 _ []))
  refine gs.aload X218.here hx (hb hby d5_100) rfl rfl ?_
  refine gs.iload X218.here hx (hb hby d5_102) rfl ?_
  refine gs.iconst 1 X218.here hx (hb hby d5_104) rfl ?_
  refine gs.iadd X218.here hx (hb hby d5_105) ?_
  rw [show ((2 : Int32) + (1 : Int32)) = (3 : Int32) from by decide]
  refine gs.bipush 99 X218.here hx (hb hby d5_106) rfl ?_
  refine gs.cst X218 hx hZ e218 V218 3 (by decide) ll218 rfl N218 nn_b215 old218 kp218 (Or.inr sz_b215) (hb hby d5_108) fun T219 h219 X219 e219 W219 N219 old219 kp219 V219 ll219 => ?_
  show Go p e below _ (T219.setTop (mkF m 109 _ []))
  refine gs.aload X219.here hx (hb hby d5_109) rfl rfl ?_
  refine gs.iload X219.here hx (hb hby d5_111) rfl ?_
  refine gs.iconst 2 X219.here hx (hb hby d5_113) rfl ?_
  refine gs.iadd X219.here hx (hb hby d5_114) ?_
  rw [show ((2 : Int32) + (2 : Int32)) = (4 : Int32) from by decide]
  refine gs.bipush 97 X219.here hx (hb hby d5_115) rfl ?_
  refine gs.cst X219 hx hZ e219 V219 4 (by decide) ll219 rfl N219 nn_b215 old219 kp219 (Or.inr sz_b215) (hb hby d5_117) fun T220 h220 X220 e220 W220 N220 old220 kp220 V220 ll220 => ?_
  show Go p e below _ (T220.setTop (mkF m 118 _ []))
  refine gs.aload X220.here hx (hb hby d5_118) rfl rfl ?_
  refine gs.iload X220.here hx (hb hby d5_120) rfl ?_
  refine gs.iconst 3 X220.here hx (hb hby d5_122) rfl ?_
  refine gs.iadd X220.here hx (hb hby d5_123) ?_
  rw [show ((2 : Int32) + (3 : Int32)) = (5 : Int32) from by decide]
  refine gs.bipush 110 X220.here hx (hb hby d5_124) rfl ?_
  refine gs.cst X220 hx hZ e220 V220 5 (by decide) ll220 rfl N220 nn_b215 old220 kp220 (Or.inr sz_b215) (hb hby d5_126) fun T221 h221 X221 e221 W221 N221 old221 kp221 V221 ll221 => ?_
  show Go p e below _ (T221.setTop (mkF m 127 _ []))
  refine gs.aload X221.here hx (hb hby d5_127) rfl rfl ?_
  refine gs.iload X221.here hx (hb hby d5_129) rfl ?_
  refine gs.iconst 4 X221.here hx (hb hby d5_131) rfl ?_
  refine gs.iadd X221.here hx (hb hby d5_132) ?_
  rw [show ((2 : Int32) + (4 : Int32)) = (6 : Int32) from by decide]
  refine gs.bipush 110 X221.here hx (hb hby d5_133) rfl ?_
  refine gs.cst X221 hx hZ e221 V221 6 (by decide) ll221 rfl N221 nn_b215 old221 kp221 (Or.inr sz_b215) (hb hby d5_135) fun T222 h222 X222 e222 W222 N222 old222 kp222 V222 ll222 => ?_
  show Go p e below _ (T222.setTop (mkF m 136 _ []))
  refine gs.aload X222.here hx (hb hby d5_136) rfl rfl ?_
  refine gs.iload X222.here hx (hb hby d5_138) rfl ?_
  refine gs.iconst 5 X222.here hx (hb hby d5_140) rfl ?_
  refine gs.iadd X222.here hx (hb hby d5_141) ?_
  rw [show ((2 : Int32) + (5 : Int32)) = (7 : Int32) from by decide]
  refine gs.bipush 111 X222.here hx (hb hby d5_142) rfl ?_
  refine gs.cst X222 hx hZ e222 V222 7 (by decide) ll222 rfl N222 nn_b215 old222 kp222 (Or.inr sz_b215) (hb hby d5_144) fun T223 h223 X223 e223 W223 N223 old223 kp223 V223 ll223 => ?_
  show Go p e below _ (T223.setTop (mkF m 145 _ []))
  refine gs.aload X223.here hx (hb hby d5_145) rfl rfl ?_
  refine gs.iload X223.here hx (hb hby d5_147) rfl ?_
  refine gs.bipush 6 X223.here hx (hb hby d5_149) rfl ?_
  refine gs.iadd X223.here hx (hb hby d5_151) ?_
  rw [show ((2 : Int32) + (6 : Int32)) = (8 : Int32) from by decide]
  refine gs.bipush 116 X223.here hx (hb hby d5_152) rfl ?_
  refine gs.cst X223 hx hZ e223 V223 8 (by decide) ll223 rfl N223 nn_b215 old223 kp223 (Or.inr sz_b215) (hb hby d5_154) fun T224 h224 X224 e224 W224 N224 old224 kp224 V224 ll224 => ?_
  show Go p e below _ (T224.setTop (mkF m 155 _ []))
  refine gs.aload X224.here hx (hb hby d5_155) rfl rfl ?_
  refine gs.iload X224.here hx (hb hby d5_157) rfl ?_
  refine gs.bipush 7 X224.here hx (hb hby d5_159) rfl ?_
  refine gs.iadd X224.here hx (hb hby d5_161) ?_
  rw [show ((2 : Int32) + (7 : Int32)) = (9 : Int32) from by decide]
  refine gs.bipush 32 X224.here hx (hb hby d5_162) rfl ?_
  refine gs.cst X224 hx hZ e224 V224 9 (by decide) ll224 rfl N224 nn_b215 old224 kp224 (Or.inr sz_b215) (hb hby d5_164) fun T225 h225 X225 e225 W225 N225 old225 kp225 V225 ll225 => ?_
  show Go p e below _ (T225.setTop (mkF m 165 _ []))
  refine gs.aload X225.here hx (hb hby d5_165) rfl rfl ?_
  refine gs.iload X225.here hx (hb hby d5_167) rfl ?_
  refine gs.bipush 8 X225.here hx (hb hby d5_169) rfl ?_
  refine gs.iadd X225.here hx (hb hby d5_171) ?_
  rw [show ((2 : Int32) + (8 : Int32)) = (10 : Int32) from by decide]
  refine gs.bipush 116 X225.here hx (hb hby d5_172) rfl ?_
  refine gs.cst X225 hx hZ e225 V225 10 (by decide) ll225 rfl N225 nn_b215 old225 kp225 (Or.inr sz_b215) (hb hby d5_174) fun T226 h226 X226 e226 W226 N226 old226 kp226 V226 ll226 => ?_
  show Go p e below _ (T226.setTop (mkF m 175 _ []))
  refine gs.aload X226.here hx (hb hby d5_175) rfl rfl ?_
  refine gs.iload X226.here hx (hb hby d5_177) rfl ?_
  refine gs.bipush 9 X226.here hx (hb hby d5_179) rfl ?_
  refine gs.iadd X226.here hx (hb hby d5_181) ?_
  rw [show ((2 : Int32) + (9 : Int32)) = (11 : Int32) from by decide]
  refine gs.bipush 97 X226.here hx (hb hby d5_182) rfl ?_
  refine gs.cst X226 hx hZ e226 V226 11 (by decide) ll226 rfl N226 nn_b215 old226 kp226 (Or.inr sz_b215) (hb hby d5_184) fun T227 h227 X227 e227 W227 N227 old227 kp227 V227 ll227 => ?_
  show Go p e below _ (T227.setTop (mkF m 185 _ []))
  refine gs.aload X227.here hx (hb hby d5_185) rfl rfl ?_
  refine gs.iload X227.here hx (hb hby d5_187) rfl ?_
  refine gs.bipush 10 X227.here hx (hb hby d5_189) rfl ?_
  refine gs.iadd X227.here hx (hb hby d5_191) ?_
  rw [show ((2 : Int32) + (10 : Int32)) = (12 : Int32) from by decide]
  refine gs.bipush 107 X227.here hx (hb hby d5_192) rfl ?_
  refine gs.cst X227 hx hZ e227 V227 12 (by decide) ll227 rfl N227 nn_b215 old227 kp227 (Or.inr sz_b215) (hb hby d5_194) fun T228 h228 X228 e228 W228 N228 old228 kp228 V228 ll228 => ?_
  show Go p e below _ (T228.setTop (mkF m 195 _ []))
  refine gs.aload X228.here hx (hb hby d5_195) rfl rfl ?_
  refine gs.iload X228.here hx (hb hby d5_197) rfl ?_
  refine gs.bipush 11 X228.here hx (hb hby d5_199) rfl ?_
  refine gs.iadd X228.here hx (hb hby d5_201) ?_
  rw [show ((2 : Int32) + (11 : Int32)) = (13 : Int32) from by decide]
  refine gs.bipush 101 X228.here hx (hb hby d5_202) rfl ?_
  refine gs.cst X228 hx hZ e228 V228 13 (by decide) ll228 rfl N228 nn_b215 old228 kp228 (Or.inr sz_b215) (hb hby d5_204) fun T229 h229 X229 e229 W229 N229 old229 kp229 V229 ll229 => ?_
  show Go p e below _ (T229.setTop (mkF m 205 _ []))
  refine gs.aload X229.here hx (hb hby d5_205) rfl rfl ?_
  refine gs.iload X229.here hx (hb hby d5_207) rfl ?_
  refine gs.bipush 12 X229.here hx (hb hby d5_209) rfl ?_
  refine gs.iadd X229.here hx (hb hby d5_211) ?_
  rw [show ((2 : Int32) + (12 : Int32)) = (14 : Int32) from by decide]
  refine gs.bipush 32 X229.here hx (hb hby d5_212) rfl ?_
  refine gs.cst X229 hx hZ e229 V229 14 (by decide) ll229 rfl N229 nn_b215 old229 kp229 (Or.inr sz_b215) (hb hby d5_214) fun T230 h230 X230 e230 W230 N230 old230 kp230 V230 ll230 => ?_
  show Go p e below _ (T230.setTop (mkF m 215 _ []))
  refine gs.aload X230.here hx (hb hby d5_215) rfl rfl ?_
  refine gs.iload X230.here hx (hb hby d5_217) rfl ?_
  refine gs.bipush 13 X230.here hx (hb hby d5_219) rfl ?_
  refine gs.iadd X230.here hx (hb hby d5_221) ?_
  rw [show ((2 : Int32) + (13 : Int32)) = (15 : Int32) from by decide]
  refine gs.bipush 101 X230.here hx (hb hby d5_222) rfl ?_
  refine gs.cst X230 hx hZ e230 V230 15 (by decide) ll230 rfl N230 nn_b215 old230 kp230 (Or.inr sz_b215) (hb hby d5_224) fun T231 h231 X231 e231 W231 N231 old231 kp231 V231 ll231 => ?_
  show Go p e below _ (T231.setTop (mkF m 225 _ []))
  refine gs.aload X231.here hx (hb hby d5_225) rfl rfl ?_
  refine gs.iload X231.here hx (hb hby d5_227) rfl ?_
  refine gs.bipush 14 X231.here hx (hb hby d5_229) rfl ?_
  refine gs.iadd X231.here hx (hb hby d5_231) ?_
  rw [show ((2 : Int32) + (14 : Int32)) = (16 : Int32) from by decide]
  refine gs.bipush 102 X231.here hx (hb hby d5_232) rfl ?_
  refine gs.cst X231 hx hZ e231 V231 16 (by decide) ll231 rfl N231 nn_b215 old231 kp231 (Or.inr sz_b215) (hb hby d5_234) fun T232 h232 X232 e232 W232 N232 old232 kp232 V232 ll232 => ?_
  show Go p e below _ (T232.setTop (mkF m 235 _ []))
  refine gs.aload X232.here hx (hb hby d5_235) rfl rfl ?_
  refine gs.iload X232.here hx (hb hby d5_237) rfl ?_
  refine gs.bipush 15 X232.here hx (hb hby d5_239) rfl ?_
  refine gs.iadd X232.here hx (hb hby d5_241) ?_
  rw [show ((2 : Int32) + (15 : Int32)) = (17 : Int32) from by decide]
  refine gs.bipush 102 X232.here hx (hb hby d5_242) rfl ?_
  refine gs.cst X232 hx hZ e232 V232 17 (by decide) ll232 rfl N232 nn_b215 old232 kp232 (Or.inr sz_b215) (hb hby d5_244) fun T233 h233 X233 e233 W233 N233 old233 kp233 V233 ll233 => ?_
  show Go p e below _ (T233.setTop (mkF m 245 _ []))
  refine gs.aload X233.here hx (hb hby d5_245) rfl rfl ?_
  refine gs.iload X233.here hx (hb hby d5_247) rfl ?_
  refine gs.bipush 16 X233.here hx (hb hby d5_249) rfl ?_
  refine gs.iadd X233.here hx (hb hby d5_251) ?_
  rw [show ((2 : Int32) + (16 : Int32)) = (18 : Int32) from by decide]
  refine gs.bipush 101 X233.here hx (hb hby d5_252) rfl ?_
  refine gs.cst X233 hx hZ e233 V233 18 (by decide) ll233 rfl N233 nn_b215 old233 kp233 (Or.inr sz_b215) (hb hby d5_254) fun T234 h234 X234 e234 W234 N234 old234 kp234 V234 ll234 => ?_
  show Go p e below _ (T234.setTop (mkF m 255 _ []))
  refine gs.aload X234.here hx (hb hby d5_255) rfl rfl ?_
  refine gs.iload X234.here hx (hb hby d5_257) rfl ?_
  refine gs.bipush 17 X234.here hx (hb hby d5_259) rfl ?_
  refine gs.iadd X234.here hx (hb hby d5_261) ?_
  rw [show ((2 : Int32) + (17 : Int32)) = (19 : Int32) from by decide]
  refine gs.bipush 99 X234.here hx (hb hby d5_262) rfl ?_
  refine gs.cst X234 hx hZ e234 V234 19 (by decide) ll234 rfl N234 nn_b215 old234 kp234 (Or.inr sz_b215) (hb hby d5_264) fun T235 h235 X235 e235 W235 N235 old235 kp235 V235 ll235 => ?_
  show Go p e below _ (T235.setTop (mkF m 265 _ []))
  refine gs.aload X235.here hx (hb hby d5_265) rfl rfl ?_
  refine gs.iload X235.here hx (hb hby d5_267) rfl ?_
  refine gs.bipush 18 X235.here hx (hb hby d5_269) rfl ?_
  refine gs.iadd X235.here hx (hb hby d5_271) ?_
  rw [show ((2 : Int32) + (18 : Int32)) = (20 : Int32) from by decide]
  refine gs.bipush 116 X235.here hx (hb hby d5_272) rfl ?_
  refine gs.cst X235 hx hZ e235 V235 20 (by decide) ll235 rfl N235 nn_b215 old235 kp235 (Or.inr sz_b215) (hb hby d5_274) fun T236 h236 X236 e236 W236 N236 old236 kp236 V236 ll236 => ?_
  show Go p e below _ (T236.setTop (mkF m 275 _ []))
  refine gs.aload X236.here hx (hb hby d5_275) rfl rfl ?_
  refine gs.iload X236.here hx (hb hby d5_277) rfl ?_
  refine gs.bipush 19 X236.here hx (hb hby d5_279) rfl ?_
  refine gs.iadd X236.here hx (hb hby d5_281) ?_
  rw [show ((2 : Int32) + (19 : Int32)) = (21 : Int32) from by decide]
  refine gs.bipush 58 X236.here hx (hb hby d5_282) rfl ?_
  refine gs.cst X236 hx hZ e236 V236 21 (by decide) ll236 rfl N236 nn_b215 old236 kp236 (Or.inr sz_b215) (hb hby d5_284) fun T237 h237 X237 e237 W237 N237 old237 kp237 V237 ll237 => ?_
  show Go p e below _ (T237.setTop (mkF m 285 _ []))
  refine gs.aload X237.here hx (hb hby d5_285) rfl rfl ?_
  refine gs.iload X237.here hx (hb hby d5_287) rfl ?_
  refine gs.bipush 20 X237.here hx (hb hby d5_289) rfl ?_
  refine gs.iadd X237.here hx (hb hby d5_291) ?_
  rw [show ((2 : Int32) + (20 : Int32)) = (22 : Int32) from by decide]
  refine gs.bipush 32 X237.here hx (hb hby d5_292) rfl ?_
  refine gs.cst X237 hx hZ e237 V237 22 (by decide) ll237 rfl N237 nn_b215 old237 kp237 (Or.inr sz_b215) (hb hby d5_294) fun T238 h238 X238 e238 W238 N238 old238 kp238 V238 ll238 => ?_
  show Go p e below _ (T238.setTop (mkF m 295 _ []))
  refine gs.iloadN X238.here hx (hb hby d5_295) rfl ?_
  refine gs.iconst 1 X238.here hx (hb hby d5_296) rfl ?_
  have hc297 : ¬ ((2 : Int32) < (1 : Int32)) := by decide
  refine gs.icmpNo X238.here hx (hb hby d5_297) (flt hc297).1 ?_
  refine gs.aload X238.here hx (hb hby d5_300) rfl rfl ?_
  refine gs.iloadN X238.here hx (hb hby d5_302) rfl ?_
  refine gs.bipush 21 X238.here hx (hb hby d5_303) rfl ?_
  refine gs.iadd X238.here hx (hb hby d5_305) ?_
  rw [show ((2 : Int32) + (21 : Int32)) = (23 : Int32) from by decide]
  refine gs.iload X238.here hx (hb hby d5_306) rfl ?_
  refine gs.cst X238 hx hZ e238 V238 23 (by decide) ll238 rfl N238 nn_b215 old238 kp238 (Or.inr sz_b215) (hb hby d5_308) fun T239 h239 X239 e239 W239 N239 old239 kp239 V239 ll239 => ?_
  show Go p e below _ (T239.setTop (mkF m 309 _ []))
  refine gs.iloadN X239.here hx (hb hby d5_309) rfl ?_
  refine gs.iconst 2 X239.here hx (hb hby d5_310) rfl ?_
  have hc311 : ¬ ((2 : Int32) < (2 : Int32)) := by decide
  refine gs.icmpNo X239.here hx (hb hby d5_311) (flt hc311).1 ?_
  refine gs.aload X239.here hx (hb hby d5_314) rfl rfl ?_
  refine gs.iloadN X239.here hx (hb hby d5_316) rfl ?_
  refine gs.bipush 22 X239.here hx (hb hby d5_317) rfl ?_
  refine gs.iadd X239.here hx (hb hby d5_319) ?_
  rw [show ((2 : Int32) + (22 : Int32)) = (24 : Int32) from by decide]
  refine gs.iload X239.here hx (hb hby d5_320) rfl ?_
  refine gs.cst X239 hx hZ e239 V239 24 (by decide) ll239 rfl N239 nn_b215 old239 kp239 (Or.inr sz_b215) (hb hby d5_322) fun T240 h240 X240 e240 W240 N240 old240 kp240 V240 ll240 => ?_
  show Go p e below _ (T240.setTop (mkF m 323 _ []))
  obtain ⟨T241, h241, X241, e241, E241, A241, D241, Y241, st241⟩ := newO X240 hx hZ hown (wd hw 4 rfl) (wd hw 5 rfl) (wd hw 6 rfl) e240 (g := (mkF m 323 #[.val (.int (2 : Int32)), .val (.int u1), .val (.int u2), .val (.int (2 : Int32)), .val (.int u4), .val (.int u5), .val (.int (4 : Int32)), .val (.ref b215), .val (.int (2 : Int32))] [])) rfl (hb hby d5_323) (by decide) (by decide)
  obtain ⟨b241, g241⟩ : ∃ z, z = h240.size := ⟨_, rfl⟩
  rw [← g241] at A241 D241 Y241 st241
  have nn_b241 : n0 ≤ b241 := Nat.le_trans (old_z0 old240) (Nat.le_of_eq g241.symm)
  have sz_b241 : h0.size ≤ b241 := Nat.le_trans kp240.1 (Nat.le_of_eq g241.symm)
  have old241 := old240.ext E241
  have kp241 := kp240.ext E241
  have F241_value : Fld Z h241 b241 "java/lang/String" "value" "[B" .null := D241 (Or.inr (wd hw 20 rfl)) (ty := (.array .byte)) (by decide)
  have F241_coder : Fld Z h241 b241 "java/lang/String" "coder" "B" (.int (0 : Int32)) := D241 (Or.inr (wd hw 21 rfl)) (ty := .byte) (by decide)
  refine Go.fin st241 ?_
  show Go p e below _ (T241.setTop (mkF m 326 _ [(.ref b241)]))
  refine gs.dup X241.here hx (hb hby d5_326) rfl ?_
  refine gs.aload X241.here hx (hb hby d5_327) rfl rfl ?_
  have f242 := (V240.ext E241)
  have Kd243 : Arv Z h241 b215 k215 .char (25 : Int32) [(.int (u1.toUInt32.toUInt16.toUInt32.toInt32)), (.int (u2.toUInt32.toUInt16.toUInt32.toInt32)), (.int (32 : Int32)), (.int (99 : Int32)), (.int (97 : Int32)), (.int (110 : Int32)), (.int (110 : Int32)), (.int (111 : Int32)), (.int (116 : Int32)), (.int (32 : Int32)), (.int (116 : Int32)), (.int (97 : Int32)), (.int (107 : Int32)), (.int (101 : Int32)), (.int (32 : Int32)), (.int (101 : Int32)), (.int (102 : Int32)), (.int (102 : Int32)), (.int (101 : Int32)), (.int (99 : Int32)), (.int (116 : Int32)), (.int (58 : Int32)), (.int (32 : Int32)), (.int (u4.toUInt32.toUInt16.toUInt32.toInt32)), (.int (u5.toUInt32.toUInt16.toUInt32.toInt32))] (.int (0 : Int32)) := by have q := f242; simp only [List.set] at q; exact q
  have Kc243 := Kd243
  simp only [h_1.1, h_2.1, h_4.1, h_5.1] at Kc243
  obtain ⟨lc243, XX243, NN243⟩ := hide_locs X241 N240
  obtain ⟨cl243, hcl243⟩ : ∃ z : List Int32, z = ([u1, u2, (32 : Int32), (99 : Int32), (97 : Int32), (110 : Int32), (110 : Int32), (111 : Int32), (116 : Int32), (32 : Int32), (116 : Int32), (97 : Int32), (107 : Int32), (101 : Int32), (32 : Int32), (101 : Int32), (102 : Int32), (102 : Int32), (101 : Int32), (99 : Int32), (116 : Int32), (58 : Int32), (32 : Int32), u4, u5] : List Int32) := ⟨_, rfl⟩
  have Kcl243 : Arv Z h241 b215 k215 .char (25 : Int32) (cl243.map Value.int) (.int (0 : Int32)) := by rw [hcl243]; exact Kc243
  have ncl243 : cl243.length = 25 := by rw [hcl243]; rfl
  have pcl243 : ∀ c ∈ cl243, ¬ c < 0 ∧ ¬ (255 : Int32) < c := by rw [hcl243]; exact (allcS ⟨h_1.2.2.1, h_1.2.1⟩ (allcS ⟨h_2.2.2.1, h_2.2.1⟩ (allcS (litc (by decide)) (allcS (litc (by decide)) (allcS (litc (by decide)) (allcS (litc (by decide)) (allcS (litc (by decide)) (allcS (litc (by decide)) (allcS (litc (by decide)) (allcS (litc (by decide)) (allcS (litc (by decide)) (allcS (litc (by decide)) (allcS (litc (by decide)) (allcS (litc (by decide)) (allcS (litc (by decide)) (allcS (litc (by decide)) (allcS (litc (by decide)) (allcS (litc (by decide)) (allcS (litc (by decide)) (allcS (litc (by decide)) (allcS (litc (by decide)) (allcS (litc (by decide)) (allcS (litc (by decide)) (allcS ⟨h_4.2.2.1, h_4.2.1⟩ (allcS ⟨h_5.2.2.1, h_5.2.1⟩ allc0)))))))))))))))))))))))))
  obtain ⟨_, _, ⟨T243, L243, k243, n243⟩, -, X243, ⟨Lc243, hQ243, l243, y243, z243⟩, st243⟩ := XX243.specialBack hx (y := y_2) rfl hown (mvT hZ (wd hw 8 rfl)) (mvT hZ (wd hw 9 rfl)) (mvT hZ (wd hw 10 rfl)) (by decide) (StrChars.Road.backV (W := 1) hZ (vwords hw) (wd hw 5 rfl) nn_b241 (old_z0 old241) A241 F241_value F241_coder (cs := cl243) (bs := cl243.map StrChars.lo8) (N := (25 : Int32)) (n := 25) Kcl243 (S_cs.ext old241.2) N_cs ncl243 (by decide) (by decide) (by decide) pcl243 (map_lo8 _) (by decide) (by decide)) (g := (mkF m 329 #[.val (.int (2 : Int32)), .val (.int u1), .val (.int u2), .val (.int (2 : Int32)), .val (.int u4), .val (.int u5), .val (.int (4 : Int32)), .val (.ref b215), .val (.int (2 : Int32))] [(.ref b215), (.ref b241), (.ref b241)])) rfl (by rw [hml]; rfl) (Steps.refl _) (a := b241) (argsL := [(.ref b215)]) (rest := [(.ref b241)]) (lenOf pd_1 rfl) rfl (by show 2 * 0 + _ ≤ _; exact Nat.le_of_eq rfl) (hb hby d5_329) (fun _ _ => ⟨rfl, e241, (by decide : 2 + 1 ≤ _), (by decide : 29 + 25 ≤ _)⟩)
  dsimp only [Pt.U, Pt.locs, Pt.cells, Pt.slots] at X243 l243 y243 z243 st243 hQ243
  subst l243 y243 z243
  obtain ⟨rfl, Nq243, K243, Ex243, Fc243, t243, kb243, -, gt_t243, -, Fv243, Va243⟩ := hQ243
  have nn_t243 : n0 ≤ t243 := Nat.le_trans (old_z0 old241) gt_t243
  have sz_t243 : h0.size ≤ t243 := Nat.le_trans kp241.1 gt_t243
  have old243 := old241.keep K243 (allS nn_b241 all0)
  have kp243 := kp241.trans K243 (allS (Or.inr sz_b241) all0)
  have N243 := Fr.app NN243 Nq243
  refine Go.step (fun t_ k_ => st243.trans k_) ?_
  show Go p e below _ (T243.setTop (mkF m 332 #[.val (.int (2 : Int32)), .val (.int u1), .val (.int u2), .val (.int (2 : Int32)), .val (.int u4), .val (.int u5), .val (.int (4 : Int32)), .val (.ref b215), .val (.int (2 : Int32))] [(.ref b241)]))
  refine Go.retR X243 hx Bd.returns rfl rfl Bd.notSynchronized (hb hby d5_332) (by exact ⟨b241, rfl, sz_b241, N243, kp243, ⟨_, _, Fv243, (by rw [show ((21 : Int32) + ((2 : Int32) + (2 : Int32))) = (25 : Int32) from by decide, show csAll (2 : Int32) u1 u2 (2 : Int32) u4 u5 = cl243 from by rw [hcl243]; simp only [csAll, pk2]; rfl]; exact Va243)⟩, Ex243, Fc243⟩) (by decide) (by decide)
set_option maxRecDepth 65536 in
set_option maxHeartbeats 40000000 in
theorem rm5 (l : Launch) (Z : State) (a0 : Array Value) (hw : ∀ d ∈ tables_1, d.before a0 Z = true) (ws : List Jvm.Cond) (cs_ : Int32) (un_ : Value) (sn_ : Value) (HW : Wd Z cs_ un_ sn_) (u0 : Int32) (u1 : Int32) (u2 : Int32) (u3 : Int32) (u4 : Int32) (u5 : Int32) (h0 : Heap) (n0 : Nat) (Ol : Old Z n0 h0) (hk_0 : 0 ≤ u0.toInt ∧ u0.toInt < 3) (hk_3 : 0 ≤ u3.toInt ∧ u3.toInt < 3) (h_1 : CH8 u1) (h_2 : CH8 u2) (h_4 : CH8 u4) (h_5 : CH8 u5) :
    MetFree l y_5 (head1 (Jvm.Cond.code y_5 method_4_code 9 (some (.object "java/lang/String")) :: ws) (rm 4 3 54 66)) (fun a_ U_ => a_ = #[(.int u0), (.int u1), (.int u2), (.int u3), (.int u4), (.int u5)] ∧ Z.Warmed39 U_.vm ∧ U_.heap = h0) (fun _ _ _ _ _ => True) (fun _ U_ o_ V_ => ∃ v_ L_, o_ = .returned v_ ∧ Q_rm5 Z cs_ un_ sn_ u0 u1 u2 u3 u4 u5 h0 n0 v_ V_.heap L_ ∧ FrameEnd U_ o_ V_ L_ (rm 4 3 54 66).cells (rm 4 3 54 66).slots) := by
  rcases cs3 hk_0 with rfl | rfl | rfl <;> rcases cs3 hk_3 with rfl | rfl | rfl
  · exact rm5_00 l Z a0 hw ws cs_ un_ sn_ HW u1 u2 u4 u5 h0 n0 Ol h_1 h_2 h_4 h_5
  · exact rm5_01 l Z a0 hw ws cs_ un_ sn_ HW u1 u2 u4 u5 h0 n0 Ol h_1 h_2 h_4 h_5
  · exact rm5_02 l Z a0 hw ws cs_ un_ sn_ HW u1 u2 u4 u5 h0 n0 Ol h_1 h_2 h_4 h_5
  · exact rm5_10 l Z a0 hw ws cs_ un_ sn_ HW u1 u2 u4 u5 h0 n0 Ol h_1 h_2 h_4 h_5
  · exact rm5_11 l Z a0 hw ws cs_ un_ sn_ HW u1 u2 u4 u5 h0 n0 Ol h_1 h_2 h_4 h_5
  · exact rm5_12 l Z a0 hw ws cs_ un_ sn_ HW u1 u2 u4 u5 h0 n0 Ol h_1 h_2 h_4 h_5
  · exact rm5_20 l Z a0 hw ws cs_ un_ sn_ HW u1 u2 u4 u5 h0 n0 Ol h_1 h_2 h_4 h_5
  · exact rm5_21 l Z a0 hw ws cs_ un_ sn_ HW u1 u2 u4 u5 h0 n0 Ol h_1 h_2 h_4 h_5
  · exact rm5_22 l Z a0 hw ws cs_ un_ sn_ HW u1 u2 u4 u5 h0 n0 Ol h_1 h_2 h_4 h_5
theorem pd_6 : parseMethodDescriptor "(ICC)Ljava/lang/String;" = some ⟨[.int, .char, .char], some (.object "java/lang/String")⟩ := by decide +kernel
theorem pd_7 : parseMethodDescriptor "(ICCICC)Ljava/lang/String;" = some ⟨[.int, .char, .char, .int, .char, .char], some (.object "java/lang/String")⟩ := by decide +kernel
theorem d9_0 : decode c_9 0 = .ok (.new 102, 3) := by decide +kernel
theorem d9_3 : decode c_9 3 = .ok (.dup, 1) := by decide +kernel
theorem d9_4 : decode c_9 4 = .ok (.new 104, 3) := by decide +kernel
theorem d9_7 : decode c_9 7 = .ok (.dup, 1) := by decide +kernel
theorem d9_8 : decode c_9 8 = .ok (.invokespecial 106, 3) := by decide +kernel
theorem d10_0 : decode c_10 0 = .ok (.aload_n 0, 1) := by decide +kernel
theorem d10_1 : decode c_10 1 = .ok (.bipush 16, 2) := by decide +kernel
theorem d10_3 : decode c_10 3 = .ok (.invokespecial 1, 3) := by decide +kernel
theorem d11_0 : decode c_11 0 = .ok (.aload_n 0, 1) := by decide +kernel
theorem d11_1 : decode c_11 1 = .ok (.invokespecial 3, 3) := by decide +kernel
theorem d11_4 : decode c_11 4 = .ok (.getstatic 18, 3) := by decide +kernel
theorem d11_7 : decode c_11 7 = .ok (.ifCond .eq 18, 3) := by decide +kernel
theorem d11_10 : decode c_11 10 = .ok (.aload_n 0, 1) := by decide +kernel
theorem d11_11 : decode c_11 11 = .ok (.iload_n 1, 1) := by decide +kernel
theorem d11_12 : decode c_11 12 = .ok (.newarray .byte, 2) := by decide +kernel
theorem d11_14 : decode c_11 14 = .ok (.putfield 15, 3) := by decide +kernel
theorem d11_17 : decode c_11 17 = .ok (.aload_n 0, 1) := by decide +kernel
theorem d11_18 : decode c_11 18 = .ok (.iconst 0, 1) := by decide +kernel
theorem d11_19 : decode c_11 19 = .ok (.putfield 22, 3) := by decide +kernel
theorem sn2 {a0 : Array Value} {Z : State} (hw : ∀ d ∈ tables_1, d.before a0 Z = true) : SN Z "java/lang/AbstractStringBuilder" "coder" "B" "java/lang/AbstractStringBuilder" "value" "[B" := slot_ne (Or.inl (wd hw 64 rfl)) (Or.inl (wd hw 62 rfl)) (by decide) (t := .byte) (t' := (.array .byte)) (by decide) (by decide)
theorem d11_22 : decode c_11 22 = .ok (.goto 16, 3) := by decide +kernel
theorem d11_38 : decode c_11 38 = .ok (.return_, 1) := by decide +kernel
theorem sn3 {a0 : Array Value} {Z : State} (hw : ∀ d ∈ tables_1, d.before a0 Z = true) : SN Z "java/lang/AbstractStringBuilder" "count" "I" "java/lang/AbstractStringBuilder" "value" "[B" := slot_ne (Or.inl (wd hw 86 rfl)) (Or.inl (wd hw 62 rfl)) (by decide) (t := .int) (t' := (.array .byte)) (by decide) (by decide)
theorem sn4 {a0 : Array Value} {Z : State} (hw : ∀ d ∈ tables_1, d.before a0 Z = true) : SN Z "java/lang/AbstractStringBuilder" "count" "I" "java/lang/AbstractStringBuilder" "coder" "B" := slot_ne (Or.inl (wd hw 86 rfl)) (Or.inl (wd hw 64 rfl)) (by decide) (t := .int) (t' := .byte) (by decide) (by decide)
theorem sn5 {a0 : Array Value} {Z : State} (hw : ∀ d ∈ tables_1, d.before a0 Z = true) : SN Z "java/lang/AbstractStringBuilder" "value" "[B" "java/lang/AbstractStringBuilder" "coder" "B" := slot_ne (Or.inl (wd hw 62 rfl)) (Or.inl (wd hw 64 rfl)) (by decide) (t := (.array .byte)) (t' := .byte) (by decide) (by decide)
theorem pn_3 : plainName "java/lang/AbstractStringBuilder" = true := by first | (simp [plainName, overriddenIn]; done) | decide +kernel
theorem ef_am11_1 (m : MethodId) (x0 : Addr) (x1 : Int32)  : entryFrame m #[(.ref x0), (.int x1)] 2 = mkF m 0 #[.val (.ref x0), .val (.int x1)] [] := by first | (simp [entryFrame, mkF, argsToLocals, Value.category]; done) | rfl
def Q_am11_1 (Z : State) (cs_ : Int32) (un_ : Value) (sn_ : Value) (ad1 : Addr) (h0 : Heap) (n0 : Nat) (v : Option Value) (h : Heap) (L : List Loc) : Prop := ∃ fr1 : Addr, ∃ kx1 : ClassId, v = none ∧ h0.size ≤ fr1 ∧ Fr n0 L ∧ Keep h0 h [ad1] ∧ (Exa Z h ad1 "java/lang/StringBuilder") ∧ (Fld Z h ad1 "java/lang/AbstractStringBuilder" "coder" "B" (.int (0 : Int32))) ∧ (Fld Z h ad1 "java/lang/AbstractStringBuilder" "count" "I" (.int (0 : Int32))) ∧ (Fld Z h ad1 "java/lang/AbstractStringBuilder" "value" "[B" (.ref fr1)) ∧ (((List.replicate ((16 : Int32)).toNatClampNeg (.int (0 : Int32))) : List Value).length = ((16 : Int32)).toNatClampNeg) ∧ (Arv Z h fr1 kx1 .byte (16 : Int32) (List.replicate ((16 : Int32)).toNatClampNeg (.int (0 : Int32))) (.int (0 : Int32)))
set_option maxRecDepth 65536 in
set_option maxHeartbeats 40000000 in
theorem am11_1 (l : Launch) (Z : State) (a0 : Array Value) (hw : ∀ d ∈ tables_1, d.before a0 Z = true) (ws : List Jvm.Cond) (cs_ : Int32) (un_ : Value) (sn_ : Value) (HW : Wd Z cs_ un_ sn_) (ad1 : Addr) (h0 : Heap) (n0 : Nat) (Ol : Old Z n0 h0) (HE_ad1 : Exa Z h0 ad1 "java/lang/StringBuilder") (HF_ad1_AbstractStringBuilder_value : Fld Z h0 ad1 "java/lang/AbstractStringBuilder" "value" "[B" .null) (HF_ad1_AbstractStringBuilder_coder : Fld Z h0 ad1 "java/lang/AbstractStringBuilder" "coder" "B" (.int (0 : Int32))) (HF_ad1_AbstractStringBuilder_count : Fld Z h0 ad1 "java/lang/AbstractStringBuilder" "count" "I" (.int (0 : Int32))) (nn_ad1 : n0 ≤ ad1) :
    MetFree l y_11 (head1 (Jvm.Cond.code y_11 jdk_68_method_2_code 2 none :: ws) (rm 1 1 16 12)) (fun a_ U_ => a_ = #[(.ref ad1), (.int (16 : Int32))] ∧ Z.Warmed39 U_.vm ∧ U_.heap = h0) (fun _ _ _ _ _ => True) (fun _ U_ o_ V_ => ∃ v_ L_, o_ = .returned v_ ∧ Q_am11_1 Z cs_ un_ sn_ ad1 h0 n0 v_ V_.heap L_ ∧ FrameEnd U_ o_ V_ L_ (rm 1 1 16 12).cells (rm 1 1 16 12).slots) := by
  refine MetFree.of_bodySF (plainFor_of_name pn_3) hisR ?_
  intro p e s m args below meth c s₁ Bd hml0 hP hK
  obtain ⟨rfl, hZ, hh⟩ := hP
  have hx := Bd.exec
  have hby := Bd.bytes
  have hml : c.maxLocals = 2 := hml0
  have hown : s.vm.findClass "java/lang/AbstractStringBuilder" = some m.cls := findClass_of_methodNamed Bd.named
  have hnm := (name_of_methodNamed Bd.named Bd.method).1
  have X0 : Stand p l e (rm 1 1 16 12) s m #[(.ref ad1), (.int (16 : Int32))] below meth c s₁ [] 0 0 := Stand.of_body Bd
  have e0 : s₁.heap = h0 := by rw [← hh, Bd.state]; rfl
  have N0 := Fr.nil n0
  have kp0 := Keep.refl h0 [ad1]
  show Go p e below (Fin1 s below (Q_am11_1 Z cs_ un_ sn_ ad1 h0 n0) (rm 1 1 16 12).cells (rm 1 1 16 12).slots) _
  refine Go.step (fun t_ k_ => castTop (ef_am11_1 m ad1 (16 : Int32)) k_) ?_
  obtain ⟨S_cs, N_cs, S_un, R_un, S_sn, R_sn⟩ := id HW
  show Go p e below _ (s₁.setTop (mkF m 0 #[.val (.ref ad1), .val (.int (16 : Int32))] []))
  refine gs.aloadN X0.here hx (hb hby d11_0) rfl rfl ?_
  obtain ⟨T1, X1, e1, st1⟩ := initO X0 hx hZ hown (wd hw 59 rfl) (wd hw 16 rfl) (wd hw 17 rfl) e0 (g := (mkF m 1 #[.val (.ref ad1), .val (.int (16 : Int32))] [(.ref ad1)])) rfl (by rw [hml]; rfl) rfl (hb hby d11_1) (by decide) (W := 0) (by show 2 * 0 + _ ≤ _; exact Nat.le_of_eq rfl) (by decide)
  refine Go.step st1 ?_
  show Go p e below _ (T1.setTop (mkF m 4 #[.val (.ref ad1), .val (.int (16 : Int32))] []))
  obtain ⟨T2, X2, e2, st2⟩ := getS2 X1 hx hZ hown (host := "") (Or.inl (wd hw 60 rfl)) Via.refl e1 (S_cs.ext Ol.2) (g := (mkF m 4 #[.val (.ref ad1), .val (.int (16 : Int32))] [])) rfl (hb hby d11_4)
  refine Go.fin st2 ?_
  show Go p e below _ (T2.setTop (mkF m 7 _ [(.int cs_)]))
  have hc7 : ¬ (cs_ = (0 : Int32)) := N_cs
  refine gs.ifNo X2.here hx (hb hby d11_7) ((if0 _ _).trans (feq hc7).1) ?_
  refine gs.aloadN X2.here hx (hb hby d11_10) rfl rfl ?_
  refine gs.iloadN X2.here hx (hb hby d11_11) rfl ?_
  obtain ⟨T3, h3, k3, X3, e3, E3, A3, st3⟩ := newP X2 hx hZ (wd hw 19 rfl) e2 (g := (mkF m 12 #[.val (.ref ad1), .val (.int (16 : Int32))] [(.int (16 : Int32)), (.ref ad1)])) rfl (hb hby d11_12) rfl (by decide) (cap := 16) (by decide) (by decide) (by decide) (by decide)
  obtain ⟨b3, g3⟩ : ∃ z, z = h0.size := ⟨_, rfl⟩
  rw [← g3] at A3 st3
  have nn_b3 : n0 ≤ b3 := Nat.le_trans (old_z0 Ol) (Nat.le_of_eq g3.symm)
  have sz_b3 : h0.size ≤ b3 := Nat.le_trans kp0.1 (Nat.le_of_eq g3.symm)
  have old3 := Ol.ext E3
  have kp3 := kp0.ext E3
  have V3 : Arv Z h3 b3 k3 .byte (16 : Int32) (List.replicate ((16 : Int32)).toNatClampNeg (.int (0 : Int32))) (.int (0 : Int32)) := (Arv.new A3 (by decide)).pad (pad_rep [] (.int (0 : Int32)) ((16 : Int32)).toNatClampNeg)
  refine Go.fin st3 ?_
  show Go p e below _ (T3.setTop (mkF m 14 _ [(.ref b3), (.ref ad1)]))
  have f4 := (HF_ad1_AbstractStringBuilder_value.ext E3)
  have f5 := (HE_ad1.ext E3)
  obtain ⟨T6, h6, X6, e6, W6, st6⟩ := putF X3 hx hZ hown (host := "") (Or.inl (wd hw 61 rfl)) Via.refl e3 f4 f5 (Or.inl (wd hw 62 rfl)) (wd hw 48 rfl) (ty := (.array .byte)) (by decide) rfl rfl (g := (mkF m 14 #[.val (.ref ad1), .val (.int (16 : Int32))] [(.ref b3), (.ref ad1)])) rfl rfl (hb hby d11_14)
  have N6 := Fr.snoc X6 N0 nn_ad1
  have old6 := old3.wr W6 nn_ad1
  have kp6 := kp3.wr W6 (Or.inl (List.mem_of_getElem? (i := 0) rfl))
  have F6 := f4.same W6
  refine Go.fin st6 ?_
  show Go p e below _ (T6.setTop (mkF m 17 _ []))
  refine gs.aloadN X6.here hx (hb hby d11_17) rfl rfl ?_
  refine gs.iconst 0 X6.here hx (hb hby d11_18) rfl ?_
  have f7 := ((HF_ad1_AbstractStringBuilder_coder.ext E3).other W6 (Or.inr (sn2 hw)))
  have f8 := (f5.wr W6)
  obtain ⟨T9, h9, X9, e9, W9, st9⟩ := putFN X6 hx hZ hown (wd hw 63 rfl) Via.refl e6 f7 f8 (Or.inl (wd hw 64 rfl)) (wd hw 48 rfl) (ty := .byte) (v' := (.int (0 : Int32))) (by decide) rfl (by decide) (g := (mkF m 19 #[.val (.ref ad1), .val (.int (16 : Int32))] [(.int (0 : Int32)), (.ref ad1)])) rfl rfl (hb hby d11_19)
  have N9 := Fr.snoc X9 N6 nn_ad1
  have old9 := old6.wr W9 nn_ad1
  have kp9 := kp6.wr W9 (Or.inl (List.mem_of_getElem? (i := 0) rfl))
  have F9 := f7.same W9
  refine Go.fin st9 ?_
  show Go p e below _ (T9.setTop (mkF m 22 _ []))
  refine gs.goto 38 X9.here hx (hb hby d11_22) rfl ?_
  have f10 := (f8.wr W9)
  have f11 := (((HF_ad1_AbstractStringBuilder_count.ext E3).other W6 (Or.inr (sn3 hw))).other W9 (Or.inr (sn4 hw)))
  have f12 := (F6.other W9 (Or.inr (sn5 hw)))
  have f13 := (rep_len (16 : Int32) (.int (0 : Int32)))
  have ne_ad1_b3 : ad1 ≠ b3 := Nat.ne_of_lt (Nat.lt_of_lt_of_le HE_ad1.lt (Nat.le_of_eq g3.symm))
  have f14 := ((V3.other W6 (Ne.symm ne_ad1_b3)).other W9 (Ne.symm ne_ad1_b3))
  refine Go.retV X9 hx Bd.returns Bd.notSynchronized (hb hby d11_38) (by rw [e9]; exact ⟨b3, k3, rfl, sz_b3, N9, kp9, f10, F9, f11, f12, f13, f14⟩) (by decide) (by decide)
theorem pd_8 : parseMethodDescriptor "(I)V" = some ⟨[.int], none⟩ := by decide +kernel
theorem d10_6 : decode c_10 6 = .ok (.return_, 1) := by decide +kernel
theorem pn_4 : plainName "java/lang/StringBuilder" = true := by first | (simp [plainName, overriddenIn]; done) | decide +kernel
theorem ef_am10_1 (m : MethodId) (x0 : Addr)  : entryFrame m #[(.ref x0)] 1 = mkF m 0 #[.val (.ref x0)] [] := by first | (simp [entryFrame, mkF, argsToLocals, Value.category]; done) | rfl
def Q_am10_1 (Z : State) (cs_ : Int32) (un_ : Value) (sn_ : Value) (ad1 : Addr) (h0 : Heap) (n0 : Nat) (v : Option Value) (h : Heap) (L : List Loc) : Prop := ∃ fr1 : Addr, ∃ kx1 : ClassId, v = none ∧ h0.size ≤ fr1 ∧ Fr n0 L ∧ Keep h0 h [ad1] ∧ (Exa Z h ad1 "java/lang/StringBuilder") ∧ (Fld Z h ad1 "java/lang/AbstractStringBuilder" "coder" "B" (.int (0 : Int32))) ∧ (Fld Z h ad1 "java/lang/AbstractStringBuilder" "count" "I" (.int (0 : Int32))) ∧ (Fld Z h ad1 "java/lang/AbstractStringBuilder" "value" "[B" (.ref fr1)) ∧ (((List.replicate ((16 : Int32)).toNatClampNeg (.int (0 : Int32))) : List Value).length = ((16 : Int32)).toNatClampNeg) ∧ (Arv Z h fr1 kx1 .byte (16 : Int32) (List.replicate ((16 : Int32)).toNatClampNeg (.int (0 : Int32))) (.int (0 : Int32)))
set_option maxRecDepth 65536 in
set_option maxHeartbeats 40000000 in
theorem am10_1 (l : Launch) (Z : State) (a0 : Array Value) (hw : ∀ d ∈ tables_1, d.before a0 Z = true) (ws : List Jvm.Cond) (cs_ : Int32) (un_ : Value) (sn_ : Value) (HW : Wd Z cs_ un_ sn_) (ad1 : Addr) (h0 : Heap) (n0 : Nat) (Ol : Old Z n0 h0) (HE_ad1 : Exa Z h0 ad1 "java/lang/StringBuilder") (HF_ad1_AbstractStringBuilder_value : Fld Z h0 ad1 "java/lang/AbstractStringBuilder" "value" "[B" .null) (HF_ad1_AbstractStringBuilder_coder : Fld Z h0 ad1 "java/lang/AbstractStringBuilder" "coder" "B" (.int (0 : Int32))) (HF_ad1_AbstractStringBuilder_count : Fld Z h0 ad1 "java/lang/AbstractStringBuilder" "count" "I" (.int (0 : Int32))) (nn_ad1 : n0 ≤ ad1) :
    MetFree l y_10 (head1 (Jvm.Cond.code y_10 jdk_67_method_1_code 1 none :: ws) (rm 2 1 16 25)) (fun a_ U_ => a_ = #[(.ref ad1)] ∧ Z.Warmed39 U_.vm ∧ U_.heap = h0) (fun _ _ _ _ _ => True) (fun _ U_ o_ V_ => ∃ v_ L_, o_ = .returned v_ ∧ Q_am10_1 Z cs_ un_ sn_ ad1 h0 n0 v_ V_.heap L_ ∧ FrameEnd U_ o_ V_ L_ (rm 2 1 16 25).cells (rm 2 1 16 25).slots) := by
  refine MetFree.of_bodySF (plainFor_of_name pn_4) hisR ?_
  intro p e s m args below meth c s₁ Bd hml0 hP hK
  obtain ⟨rfl, hZ, hh⟩ := hP
  have hx := Bd.exec
  have hby := Bd.bytes
  have hml : c.maxLocals = 1 := hml0
  have hown : s.vm.findClass "java/lang/StringBuilder" = some m.cls := findClass_of_methodNamed Bd.named
  have hnm := (name_of_methodNamed Bd.named Bd.method).1
  have X0 : Stand p l e (rm 2 1 16 25) s m #[(.ref ad1)] below meth c s₁ [] 0 0 := Stand.of_body Bd
  have e0 : s₁.heap = h0 := by rw [← hh, Bd.state]; rfl
  have N0 := Fr.nil n0
  have kp0 := Keep.refl h0 [ad1]
  show Go p e below (Fin1 s below (Q_am10_1 Z cs_ un_ sn_ ad1 h0 n0) (rm 2 1 16 25).cells (rm 2 1 16 25).slots) _
  refine Go.step (fun t_ k_ => castTop (ef_am10_1 m ad1) k_) ?_
  obtain ⟨S_cs, N_cs, S_un, R_un, S_sn, R_sn⟩ := id HW
  show Go p e below _ (s₁.setTop (mkF m 0 #[.val (.ref ad1)] []))
  refine gs.aloadN X0.here hx (hb hby d10_0) rfl rfl ?_
  refine gs.bipush 16 X0.here hx (hb hby d10_1) rfl ?_
  refine gs.init 0 X0 hx hZ hown (am11_1 l Z a0 hw [] cs_ un_ sn_ HW (ad1) h0 n0 Ol HE_ad1 HF_ad1_AbstractStringBuilder_value HF_ad1_AbstractStringBuilder_coder HF_ad1_AbstractStringBuilder_count nn_ad1) (wd hw 58 rfl) (wd hw 57 rfl) (wd hw 53 rfl) rfl (wd hw 54 rfl) (by decide) (by decide) (by decide) (by rw [hml]; rfl) [(.int (16 : Int32))] (lenOf pd_8 rfl) rfl (Nat.le_of_eq rfl) (hb hby d10_3) rfl e0 (by decide) (by decide) fun T1 Lc1 v1 X1 hQ1 => ?_
  obtain ⟨b1_0, kx1_0, rfl, gb_b1_0, Nq1, K1, p1_0, p1_1, p1_2, p1_3, p1_4, p1_5⟩ := hQ1
  have nn_b1_0 : n0 ≤ b1_0 := Nat.le_trans (old_z0 Ol) gb_b1_0
  have sz_b1_0 : h0.size ≤ b1_0 := Nat.le_trans kp0.1 gb_b1_0
  have old1 := Ol.keep K1 (allS nn_ad1 all0)
  have kp1 := kp0.trans K1 (allS (Or.inl (List.mem_of_getElem? (i := 0) rfl)) all0)
  have N1 := Fr.app N0 Nq1
  show Go p e below _ (T1.setTop (mkF m 6 _ []))
  refine Go.retV X1 hx Bd.returns Bd.notSynchronized (hb hby d10_6) (by exact ⟨b1_0, kx1_0, rfl, sz_b1_0, N1, kp1, p1_0, p1_1, p1_2, p1_3, p1_4, p1_5⟩) (by decide) (by decide)
theorem pd_9 : parseMethodDescriptor "()V" = some ⟨[], none⟩ := by decide +kernel
theorem d9_11 : decode c_9 11 = .ok (.aload_n 0, 1) := by decide +kernel
theorem d9_12 : decode c_9 12 = .ok (.invokevirtual 107, 3) := by decide +kernel
theorem d12_0 : decode c_12 0 = .ok (.aload_n 0, 1) := by decide +kernel
theorem d12_1 : decode c_12 1 = .ok (.aload_n 1, 1) := by decide +kernel
theorem d12_2 : decode c_12 2 = .ok (.invokespecial 29, 3) := by decide +kernel
theorem d13_0 : decode c_13 0 = .ok (.aload_n 1, 1) := by decide +kernel
theorem d13_1 : decode c_13 1 = .ok (.ifnonnull 8, 3) := by decide +kernel
theorem d13_9 : decode c_13 9 = .ok (.aload_n 1, 1) := by decide +kernel
theorem d13_10 : decode c_13 10 = .ok (.invokevirtual 32, 3) := by decide +kernel
theorem d14_0 : decode c_14 0 = .ok (.aload_n 0, 1) := by decide +kernel
theorem d14_1 : decode c_14 1 = .ok (.getfield 9, 3) := by decide +kernel
theorem d14_4 : decode c_14 4 = .ok (.arraylength, 1) := by decide +kernel
theorem d14_5 : decode c_14 5 = .ok (.aload_n 0, 1) := by decide +kernel
theorem d14_6 : decode c_14 6 = .ok (.invokevirtual 335, 3) := by decide +kernel
theorem d15_0 : decode c_15 0 = .ok (.getstatic 38, 3) := by decide +kernel
theorem d15_3 : decode c_15 3 = .ok (.ifCond .eq 10, 3) := by decide +kernel
theorem d15_6 : decode c_15 6 = .ok (.aload_n 0, 1) := by decide +kernel
theorem d15_7 : decode c_15 7 = .ok (.getfield 15, 3) := by decide +kernel
theorem d15_10 : decode c_15 10 = .ok (.goto 4, 3) := by decide +kernel
theorem d15_14 : decode c_15 14 = .ok (.ireturn, 1) := by decide +kernel
theorem ef_am15_1 (m : MethodId) (x0 : Addr)  : entryFrame m #[(.ref x0)] 1 = mkF m 0 #[.val (.ref x0)] [] := by first | (simp [entryFrame, mkF, argsToLocals, Value.category]; done) | rfl
def Q_am15_1 (Z : State) (cs_ : Int32) (un_ : Value) (sn_ : Value) (ad1 : Addr) (h0 : Heap) (n0 : Nat) (v : Option Value) (h : Heap) (L : List Loc) : Prop := v = some (.int (0 : Int32)) ∧ Fr n0 L ∧ h = h0
set_option maxRecDepth 65536 in
set_option maxHeartbeats 40000000 in
theorem am15_1 (l : Launch) (Z : State) (a0 : Array Value) (hw : ∀ d ∈ tables_1, d.before a0 Z = true) (ws : List Jvm.Cond) (cs_ : Int32) (un_ : Value) (sn_ : Value) (HW : Wd Z cs_ un_ sn_) (ad1 : Addr) (h0 : Heap) (n0 : Nat) (Ol : Old Z n0 h0) (HF_ad1_String_coder : Fld Z h0 ad1 "java/lang/String" "coder" "B" (.int (0 : Int32))) :
    MetFree l y_15 (head1 (Jvm.Cond.code y_15 jdk_42_method_152_code 1 (some .byte) :: ws) (rm 0 0 0 0)) (fun a_ U_ => a_ = #[(.ref ad1)] ∧ Z.Warmed39 U_.vm ∧ U_.heap = h0) (fun _ _ _ _ _ => True) (fun _ U_ o_ V_ => ∃ v_ L_, o_ = .returned v_ ∧ Q_am15_1 Z cs_ un_ sn_ ad1 h0 n0 v_ V_.heap L_ ∧ FrameEnd U_ o_ V_ L_ (rm 0 0 0 0).cells (rm 0 0 0 0).slots) := by
  refine MetFree.of_bodySF (plainFor_of_name pn_0) hisR ?_
  intro p e s m args below meth c s₁ Bd hml0 hP hK
  obtain ⟨rfl, hZ, hh⟩ := hP
  have hx := Bd.exec
  have hby := Bd.bytes
  have hml : c.maxLocals = 1 := hml0
  have hown : s.vm.findClass "java/lang/String" = some m.cls := findClass_of_methodNamed Bd.named
  have hnm := (name_of_methodNamed Bd.named Bd.method).1
  have X0 : Stand p l e (rm 0 0 0 0) s m #[(.ref ad1)] below meth c s₁ [] 0 0 := Stand.of_body Bd
  have e0 : s₁.heap = h0 := by rw [← hh, Bd.state]; rfl
  have N0 := Fr.nil n0
  have kp0 := Keep.refl h0 []
  show Go p e below (Fin1 s below (Q_am15_1 Z cs_ un_ sn_ ad1 h0 n0) (rm 0 0 0 0).cells (rm 0 0 0 0).slots) _
  refine Go.step (fun t_ k_ => castTop (ef_am15_1 m ad1) k_) ?_
  obtain ⟨S_cs, N_cs, S_un, R_un, S_sn, R_sn⟩ := id HW
  show Go p e below _ (s₁.setTop (mkF m 0 #[.val (.ref ad1)] []))
  obtain ⟨T1, X1, e1, st1⟩ := getS2 X0 hx hZ hown (host := "") (Or.inl (wd hw 29 rfl)) Via.refl e0 (S_cs.ext Ol.2) (g := (mkF m 0 #[.val (.ref ad1)] [])) rfl (hb hby d15_0)
  refine Go.fin st1 ?_
  show Go p e below _ (T1.setTop (mkF m 3 _ [(.int cs_)]))
  have hc3 : ¬ (cs_ = (0 : Int32)) := N_cs
  refine gs.ifNo X1.here hx (hb hby d15_3) ((if0 _ _).trans (feq hc3).1) ?_
  refine gs.aloadN X1.here hx (hb hby d15_6) rfl rfl ?_
  refine gs.getF X1 hx hZ hown (wd hw 25 rfl) Via.refl e1 HF_ad1_String_coder (hb hby d15_7) fun T2 X2 e2 => ?_
  refine gs.goto 14 X2.here hx (hb hby d15_10) rfl ?_
  refine Go.retZ X2 hx (t := .byte) Bd.returns (by simp) Bd.notSynchronized (hb hby d15_14) (by rw [e2]; exact ⟨rfl, N0, rfl⟩) (by decide) (by decide)
theorem pd_10 : parseMethodDescriptor "()B" = some ⟨[], some .byte⟩ := by decide +kernel
theorem d14_9 : decode c_14 9 = .ok (.ishr, 1) := by decide +kernel
theorem d14_10 : decode c_14 10 = .ok (.ireturn, 1) := by decide +kernel
theorem ef_am14_1 (m : MethodId) (x0 : Addr)  : entryFrame m #[(.ref x0)] 1 = mkF m 0 #[.val (.ref x0)] [] := by first | (simp [entryFrame, mkF, argsToLocals, Value.category]; done) | rfl
def Q_am14_1 (Z : State) (cs_ : Int32) (un_ : Value) (sn_ : Value) (ad1 : Addr) (ad2 : Addr) (kc1 : ClassId) (iv1 : Int32) (ls1 : List Value) (h0 : Heap) (n0 : Nat) (v : Option Value) (h : Heap) (L : List Loc) : Prop := v = some (.int iv1) ∧ Fr n0 L ∧ h = h0
set_option maxRecDepth 65536 in
set_option maxHeartbeats 40000000 in
theorem am14_1 (l : Launch) (Z : State) (a0 : Array Value) (hw : ∀ d ∈ tables_1, d.before a0 Z = true) (ws : List Jvm.Cond) (cs_ : Int32) (un_ : Value) (sn_ : Value) (HW : Wd Z cs_ un_ sn_) (ad1 : Addr) (ad2 : Addr) (kc1 : ClassId) (iv1 : Int32) (ls1 : List Value) (h0 : Heap) (n0 : Nat) (Ol : Old Z n0 h0) (HF_ad1_String_value : Fld Z h0 ad1 "java/lang/String" "value" "[B" (.ref ad2)) (HV_ad2 : Arv Z h0 ad2 kc1 .byte iv1 ls1 (.int (0 : Int32))) (HE_ad1 : Exa Z h0 ad1 "java/lang/String") (HF_ad1_String_coder : Fld Z h0 ad1 "java/lang/String" "coder" "B" (.int (0 : Int32))) :
    MetFree l y_14 (head1 (Jvm.Cond.code y_14 jdk_42_method_54_code 1 (some .int) :: ws) (rm 1 0 0 13)) (fun a_ U_ => a_ = #[(.ref ad1)] ∧ Z.Warmed39 U_.vm ∧ U_.heap = h0) (fun _ _ _ _ _ => True) (fun _ U_ o_ V_ => ∃ v_ L_, o_ = .returned v_ ∧ Q_am14_1 Z cs_ un_ sn_ ad1 ad2 kc1 iv1 ls1 h0 n0 v_ V_.heap L_ ∧ FrameEnd U_ o_ V_ L_ (rm 1 0 0 13).cells (rm 1 0 0 13).slots) := by
  refine MetFree.of_bodySF (plainFor_of_name pn_0) hisR ?_
  intro p e s m args below meth c s₁ Bd hml0 hP hK
  obtain ⟨rfl, hZ, hh⟩ := hP
  have hx := Bd.exec
  have hby := Bd.bytes
  have hml : c.maxLocals = 1 := hml0
  have hown : s.vm.findClass "java/lang/String" = some m.cls := findClass_of_methodNamed Bd.named
  have hnm := (name_of_methodNamed Bd.named Bd.method).1
  have X0 : Stand p l e (rm 1 0 0 13) s m #[(.ref ad1)] below meth c s₁ [] 0 0 := Stand.of_body Bd
  have e0 : s₁.heap = h0 := by rw [← hh, Bd.state]; rfl
  have N0 := Fr.nil n0
  have kp0 := Keep.refl h0 []
  show Go p e below (Fin1 s below (Q_am14_1 Z cs_ un_ sn_ ad1 ad2 kc1 iv1 ls1 h0 n0) (rm 1 0 0 13).cells (rm 1 0 0 13).slots) _
  refine Go.step (fun t_ k_ => castTop (ef_am14_1 m ad1) k_) ?_
  obtain ⟨S_cs, N_cs, S_un, R_un, S_sn, R_sn⟩ := id HW
  show Go p e below _ (s₁.setTop (mkF m 0 #[.val (.ref ad1)] []))
  refine gs.aloadN X0.here hx (hb hby d14_0) rfl rfl ?_
  refine gs.getF X0 hx hZ hown (wd hw 24 rfl) Via.refl e0 HF_ad1_String_value (hb hby d14_1) fun T1 X1 e1 => ?_
  obtain ⟨cl2, Ar2, -, Sz2, Ng2, -, -⟩ := id HV_ad2
  refine Go.fin (fun t_ k_ => X1.arraylength hx (by rw [e1]; exact Ar2.1) (State.isArrayOf_alike hZ.alike Ar2.2.1) (g := mkF m 4 _ _) rfl rfl (hb hby d14_4) _ k_) ?_
  rw [len_of Sz2 Ng2]
  show Go p e below _ (T1.setTop (mkF m 5 _ [(.int iv1)]))
  refine gs.aloadN X1.here hx (hb hby d14_5) rfl rfl ?_
  refine gs.virt 1 X1 hx hZ hown (am15_1 l Z a0 hw [] cs_ un_ sn_ HW (ad1) h0 n0 Ol HF_ad1_String_coder) (wd hw 84 rfl) (wd hw 6 rfl) (wd hw 80 rfl) (wd hw 81 rfl) (notFace_of_selects (args := #[]) (mvT hZ (wd hw 83 rfl))) (wd hw 83 rfl) (wd hw 82 rfl) (by decide) HE_ad1 (by decide) (by decide) (by rw [hml]; rfl) [] (lenOf pd_10 rfl) rfl (Nat.le_of_eq rfl) (hb hby d14_6) rfl e1 (by decide) (by decide) fun T3 Lc3 v3 X3 hQ3 => ?_
  obtain ⟨rfl, Nq3, e3⟩ := hQ3
  have N3 := Fr.app N0 Nq3
  show Go p e below _ (T3.setTop (mkF m 9 _ [(.int (0 : Int32)), (.int iv1)]))
  refine Go.fin (fun t_ k_ => XS.ishr X3.here hx rfl (hb hby d14_9) rfl k_) ?_
  show Go p e below _ (T3.setTop (mkF m 10 _ [(.int (iv1 >>> ((0 : Int32) &&& 31)))]))
  rw [shr0 iv1]
  refine Go.retI X3 hx Bd.returns Bd.notSynchronized (hb hby d14_10) (by rw [e3]; exact ⟨rfl, N3, rfl⟩) (by decide) (by decide)
theorem pd_11 : parseMethodDescriptor "()I" = some ⟨[], some .int⟩ := by decide +kernel
theorem d13_13 : decode c_13 13 = .ok (.istore_n 2, 1) := by decide +kernel
theorem d13_14 : decode c_13 14 = .ok (.aload_n 0, 1) := by decide +kernel
theorem d13_15 : decode c_13 15 = .ok (.aload_n 0, 1) := by decide +kernel
theorem d13_16 : decode c_13 16 = .ok (.getfield 79, 3) := by decide +kernel
theorem d13_19 : decode c_13 19 = .ok (.iload_n 2, 1) := by decide +kernel
theorem d13_20 : decode c_13 20 = .ok (.iadd, 1) := by decide +kernel
theorem d13_21 : decode c_13 21 = .ok (.invokevirtual 100, 3) := by decide +kernel
theorem d16_0 : decode c_16 0 = .ok (.aload_n 0, 1) := by decide +kernel
theorem d16_1 : decode c_16 1 = .ok (.getfield 15, 3) := by decide +kernel
theorem d16_4 : decode c_16 4 = .ok (.arraylength, 1) := by decide +kernel
theorem d16_5 : decode c_16 5 = .ok (.aload_n 0, 1) := by decide +kernel
theorem d16_6 : decode c_16 6 = .ok (.getfield 22, 3) := by decide +kernel
theorem d16_9 : decode c_16 9 = .ok (.ishr, 1) := by decide +kernel
theorem d16_10 : decode c_16 10 = .ok (.istore_n 2, 1) := by decide +kernel
theorem d16_11 : decode c_16 11 = .ok (.iload_n 1, 1) := by decide +kernel
theorem d16_12 : decode c_16 12 = .ok (.iload_n 2, 1) := by decide +kernel
theorem d16_13 : decode c_16 13 = .ok (.isub, 1) := by decide +kernel
theorem d16_14 : decode c_16 14 = .ok (.ifCond .le 24, 3) := by decide +kernel
theorem d16_38 : decode c_16 38 = .ok (.return_, 1) := by decide +kernel
theorem ef_am16_1 (m : MethodId) (x0 : Addr) (x1 : Int32)  : entryFrame m #[(.ref x0), (.int x1)] 3 = mkF m 0 #[.val (.ref x0), .val (.int x1), .unset] [] := by first | (simp [entryFrame, mkF, argsToLocals, Value.category]; done) | rfl
def Q_am16_1 (Z : State) (cs_ : Int32) (un_ : Value) (sn_ : Value) (ad1 : Addr) (iv1 : Int32) (ad2 : Addr) (kc1 : ClassId) (h0 : Heap) (n0 : Nat) (v : Option Value) (h : Heap) (L : List Loc) : Prop := v = none ∧ Fr n0 L ∧ h = h0
set_option maxRecDepth 65536 in
set_option maxHeartbeats 40000000 in
theorem am16_1 (l : Launch) (Z : State) (a0 : Array Value) (hw : ∀ d ∈ tables_1, d.before a0 Z = true) (ws : List Jvm.Cond) (cs_ : Int32) (un_ : Value) (sn_ : Value) (HW : Wd Z cs_ un_ sn_) (ad1 : Addr) (iv1 : Int32) (ad2 : Addr) (kc1 : ClassId) (h0 : Heap) (n0 : Nat) (Ol : Old Z n0 h0) (HF_ad1_AbstractStringBuilder_value : Fld Z h0 ad1 "java/lang/AbstractStringBuilder" "value" "[B" (.ref ad2)) (HF_ad1_AbstractStringBuilder_coder : Fld Z h0 ad1 "java/lang/AbstractStringBuilder" "coder" "B" (.int (0 : Int32))) (HV_ad2 : Arv Z h0 ad2 kc1 .byte (16 : Int32) (List.replicate ((16 : Int32)).toNatClampNeg (.int (0 : Int32))) (.int (0 : Int32))) (as0 : ¬ ((0 : Int32) < (iv1 - (16 : Int32)))) :
    MetFree l y_16 (head1 (Jvm.Cond.code y_16 jdk_68_method_9_code 3 none :: ws) (rm 0 0 0 0)) (fun a_ U_ => a_ = #[(.ref ad1), (.int iv1)] ∧ Z.Warmed39 U_.vm ∧ U_.heap = h0) (fun _ _ _ _ _ => True) (fun _ U_ o_ V_ => ∃ v_ L_, o_ = .returned v_ ∧ Q_am16_1 Z cs_ un_ sn_ ad1 iv1 ad2 kc1 h0 n0 v_ V_.heap L_ ∧ FrameEnd U_ o_ V_ L_ (rm 0 0 0 0).cells (rm 0 0 0 0).slots) := by
  refine MetFree.of_bodySF (plainFor_of_name pn_3) hisR ?_
  intro p e s m args below meth c s₁ Bd hml0 hP hK
  obtain ⟨rfl, hZ, hh⟩ := hP
  have hx := Bd.exec
  have hby := Bd.bytes
  have hml : c.maxLocals = 3 := hml0
  have hown : s.vm.findClass "java/lang/AbstractStringBuilder" = some m.cls := findClass_of_methodNamed Bd.named
  have hnm := (name_of_methodNamed Bd.named Bd.method).1
  have X0 : Stand p l e (rm 0 0 0 0) s m #[(.ref ad1), (.int iv1)] below meth c s₁ [] 0 0 := Stand.of_body Bd
  have e0 : s₁.heap = h0 := by rw [← hh, Bd.state]; rfl
  have N0 := Fr.nil n0
  have kp0 := Keep.refl h0 []
  show Go p e below (Fin1 s below (Q_am16_1 Z cs_ un_ sn_ ad1 iv1 ad2 kc1 h0 n0) (rm 0 0 0 0).cells (rm 0 0 0 0).slots) _
  refine Go.step (fun t_ k_ => castTop (ef_am16_1 m ad1 iv1) k_) ?_
  obtain ⟨S_cs, N_cs, S_un, R_un, S_sn, R_sn⟩ := id HW
  show Go p e below _ (s₁.setTop (mkF m 0 #[.val (.ref ad1), .val (.int iv1), .unset] []))
  refine gs.aloadN X0.here hx (hb hby d16_0) rfl rfl ?_
  refine gs.getF X0 hx hZ hown (wd hw 61 rfl) Via.refl e0 HF_ad1_AbstractStringBuilder_value (hb hby d16_1) fun T1 X1 e1 => ?_
  obtain ⟨cl2, Ar2, -, Sz2, Ng2, -, -⟩ := id HV_ad2
  refine Go.fin (fun t_ k_ => X1.arraylength hx (by rw [e1]; exact Ar2.1) (State.isArrayOf_alike hZ.alike Ar2.2.1) (g := mkF m 4 _ _) rfl rfl (hb hby d16_4) _ k_) ?_
  rw [len_of Sz2 Ng2]
  show Go p e below _ (T1.setTop (mkF m 5 _ [(.int (16 : Int32))]))
  refine gs.aloadN X1.here hx (hb hby d16_5) rfl rfl ?_
  refine gs.getF X1 hx hZ hown (wd hw 63 rfl) Via.refl e1 HF_ad1_AbstractStringBuilder_coder (hb hby d16_6) fun T3 X3 e3 => ?_
  refine Go.fin (fun t_ k_ => XS.ishr X3.here hx rfl (hb hby d16_9) rfl k_) ?_
  show Go p e below _ (T3.setTop (mkF m 10 _ [(.int ((16 : Int32) >>> ((0 : Int32) &&& 31)))]))
  rw [show ((16 : Int32) >>> ((0 : Int32) &&& 31)) = (16 : Int32) from by decide]
  refine gs.istoreN X3.here hx (hb hby d16_10) (l' := #[.val (.ref ad1), .val (.int iv1), .val (.int (16 : Int32))]) rfl ?_
  refine gs.iloadN X3.here hx (hb hby d16_11) rfl ?_
  refine gs.iloadN X3.here hx (hb hby d16_12) rfl ?_
  refine gs.isub X3.here hx (hb hby d16_13) ?_
  have hc14 : ¬ ((0 : Int32) < (iv1 - (16 : Int32))) := as0
  refine gs.ifYes 38 X3.here hx (hb hby d16_14) ((if0 _ _).trans (flt hc14).2.2.2) rfl ?_
  refine Go.retV X3 hx Bd.returns Bd.notSynchronized (hb hby d16_38) (by rw [e3]; exact ⟨rfl, N0, rfl⟩) (by decide) (by decide)
theorem d13_24 : decode c_13 24 = .ok (.aload_n 0, 1) := by decide +kernel
theorem d13_25 : decode c_13 25 = .ok (.aload_n 0, 1) := by decide +kernel
theorem d13_26 : decode c_13 26 = .ok (.getfield 79, 3) := by decide +kernel
theorem d13_29 : decode c_13 29 = .ok (.aload_n 1, 1) := by decide +kernel
theorem d13_30 : decode c_13 30 = .ok (.invokevirtual 208, 3) := by decide +kernel
theorem d17_0 : decode c_17 0 = .ok (.aload_n 0, 1) := by decide +kernel
theorem d17_1 : decode c_17 1 = .ok (.aload_n 2, 1) := by decide +kernel
theorem d17_2 : decode c_17 2 = .ok (.invokevirtual 397, 3) := by decide +kernel
theorem d18_0 : decode c_18 0 = .ok (.getstatic 18, 3) := by decide +kernel
theorem d18_3 : decode c_18 3 = .ok (.ifCond .eq 18, 3) := by decide +kernel
theorem d18_6 : decode c_18 6 = .ok (.aload_n 0, 1) := by decide +kernel
theorem d18_7 : decode c_18 7 = .ok (.getfield 22, 3) := by decide +kernel
theorem d18_10 : decode c_18 10 = .ok (.aload_n 1, 1) := by decide +kernel
theorem d18_11 : decode c_18 11 = .ok (.invokevirtual 40, 3) := by decide +kernel
theorem d18_14 : decode c_18 14 = .ok (.if_icmp .eq 7, 3) := by decide +kernel
theorem d18_21 : decode c_18 21 = .ok (.return_, 1) := by decide +kernel
theorem ef_am18_1 (m : MethodId) (x0 : Addr) (x1 : Addr)  : entryFrame m #[(.ref x0), (.ref x1)] 2 = mkF m 0 #[.val (.ref x0), .val (.ref x1)] [] := by first | (simp [entryFrame, mkF, argsToLocals, Value.category]; done) | rfl
def Q_am18_1 (Z : State) (cs_ : Int32) (un_ : Value) (sn_ : Value) (ad1 : Addr) (ad2 : Addr) (h0 : Heap) (n0 : Nat) (v : Option Value) (h : Heap) (L : List Loc) : Prop := v = none ∧ Fr n0 L ∧ h = h0
set_option maxRecDepth 65536 in
set_option maxHeartbeats 40000000 in
theorem am18_1 (l : Launch) (Z : State) (a0 : Array Value) (hw : ∀ d ∈ tables_1, d.before a0 Z = true) (ws : List Jvm.Cond) (cs_ : Int32) (un_ : Value) (sn_ : Value) (HW : Wd Z cs_ un_ sn_) (ad1 : Addr) (ad2 : Addr) (h0 : Heap) (n0 : Nat) (Ol : Old Z n0 h0) (HE_ad2 : Exa Z h0 ad2 "java/lang/String") (HF_ad2_String_coder : Fld Z h0 ad2 "java/lang/String" "coder" "B" (.int (0 : Int32))) (HF_ad1_AbstractStringBuilder_coder : Fld Z h0 ad1 "java/lang/AbstractStringBuilder" "coder" "B" (.int (0 : Int32))) :
    MetFree l y_18 (head1 (Jvm.Cond.code y_18 jdk_68_method_71_code 2 none :: ws) (rm 1 0 0 13)) (fun a_ U_ => a_ = #[(.ref ad1), (.ref ad2)] ∧ Z.Warmed39 U_.vm ∧ U_.heap = h0) (fun _ _ _ _ _ => True) (fun _ U_ o_ V_ => ∃ v_ L_, o_ = .returned v_ ∧ Q_am18_1 Z cs_ un_ sn_ ad1 ad2 h0 n0 v_ V_.heap L_ ∧ FrameEnd U_ o_ V_ L_ (rm 1 0 0 13).cells (rm 1 0 0 13).slots) := by
  refine MetFree.of_bodySF (plainFor_of_name pn_3) hisR ?_
  intro p e s m args below meth c s₁ Bd hml0 hP hK
  obtain ⟨rfl, hZ, hh⟩ := hP
  have hx := Bd.exec
  have hby := Bd.bytes
  have hml : c.maxLocals = 2 := hml0
  have hown : s.vm.findClass "java/lang/AbstractStringBuilder" = some m.cls := findClass_of_methodNamed Bd.named
  have hnm := (name_of_methodNamed Bd.named Bd.method).1
  have X0 : Stand p l e (rm 1 0 0 13) s m #[(.ref ad1), (.ref ad2)] below meth c s₁ [] 0 0 := Stand.of_body Bd
  have e0 : s₁.heap = h0 := by rw [← hh, Bd.state]; rfl
  have N0 := Fr.nil n0
  have kp0 := Keep.refl h0 []
  show Go p e below (Fin1 s below (Q_am18_1 Z cs_ un_ sn_ ad1 ad2 h0 n0) (rm 1 0 0 13).cells (rm 1 0 0 13).slots) _
  refine Go.step (fun t_ k_ => castTop (ef_am18_1 m ad1 ad2) k_) ?_
  obtain ⟨S_cs, N_cs, S_un, R_un, S_sn, R_sn⟩ := id HW
  show Go p e below _ (s₁.setTop (mkF m 0 #[.val (.ref ad1), .val (.ref ad2)] []))
  obtain ⟨T1, X1, e1, st1⟩ := getS2 X0 hx hZ hown (host := "") (Or.inl (wd hw 60 rfl)) Via.refl e0 (S_cs.ext Ol.2) (g := (mkF m 0 #[.val (.ref ad1), .val (.ref ad2)] [])) rfl (hb hby d18_0)
  refine Go.fin st1 ?_
  show Go p e below _ (T1.setTop (mkF m 3 _ [(.int cs_)]))
  have hc3 : ¬ (cs_ = (0 : Int32)) := N_cs
  refine gs.ifNo X1.here hx (hb hby d18_3) ((if0 _ _).trans (feq hc3).1) ?_
  refine gs.aloadN X1.here hx (hb hby d18_6) rfl rfl ?_
  refine gs.getF X1 hx hZ hown (wd hw 63 rfl) Via.refl e1 HF_ad1_AbstractStringBuilder_coder (hb hby d18_7) fun T2 X2 e2 => ?_
  refine gs.aloadN X2.here hx (hb hby d18_10) rfl rfl ?_
  refine gs.virt 1 X2 hx hZ hown (am15_1 l Z a0 hw [] cs_ un_ sn_ HW (ad2) h0 n0 Ol HF_ad2_String_coder) (wd hw 84 rfl) (wd hw 6 rfl) (wd hw 102 rfl) (wd hw 81 rfl) (notFace_of_selects (args := #[]) (mvT hZ (wd hw 83 rfl))) (wd hw 83 rfl) (wd hw 82 rfl) (by decide) HE_ad2 (by decide) (by decide) (by rw [hml]; rfl) [] (lenOf pd_10 rfl) rfl (Nat.le_of_eq rfl) (hb hby d18_11) rfl e2 (by decide) (by decide) fun T3 Lc3 v3 X3 hQ3 => ?_
  obtain ⟨rfl, Nq3, e3⟩ := hQ3
  have N3 := Fr.app N0 Nq3
  show Go p e below _ (T3.setTop (mkF m 14 _ [(.int (0 : Int32)), (.int (0 : Int32))]))
  have hc14 : (0 : Int32) = (0 : Int32) := by decide
  refine gs.icmpYes 21 X3.here hx (hb hby d18_14) (teq hc14).1 rfl ?_
  refine Go.retV X3 hx Bd.returns Bd.notSynchronized (hb hby d18_21) (by rw [e3]; exact ⟨rfl, N3, rfl⟩) (by decide) (by decide)
theorem pd_12 : parseMethodDescriptor "(Ljava/lang/String;)V" = some ⟨[(.object "java/lang/String")], none⟩ := by decide +kernel
theorem d17_5 : decode c_17 5 = .ok (.aload_n 2, 1) := by decide +kernel
theorem d17_6 : decode c_17 6 = .ok (.aload_n 0, 1) := by decide +kernel
theorem d17_7 : decode c_17 7 = .ok (.getfield 15, 3) := by decide +kernel
theorem d17_10 : decode c_17 10 = .ok (.iload_n 1, 1) := by decide +kernel
theorem d17_11 : decode c_17 11 = .ok (.aload_n 0, 1) := by decide +kernel
theorem d17_12 : decode c_17 12 = .ok (.getfield 22, 3) := by decide +kernel
theorem d17_15 : decode c_17 15 = .ok (.invokevirtual 399, 3) := by decide +kernel
theorem d19_0 : decode c_19 0 = .ok (.aload_n 0, 1) := by decide +kernel
theorem d19_1 : decode c_19 1 = .ok (.invokevirtual 335, 3) := by decide +kernel
theorem d19_4 : decode c_19 4 = .ok (.iload_n 3, 1) := by decide +kernel
theorem d19_5 : decode c_19 5 = .ok (.if_icmp .ne 23, 3) := by decide +kernel
theorem d19_8 : decode c_19 8 = .ok (.aload_n 0, 1) := by decide +kernel
theorem d19_9 : decode c_19 9 = .ok (.getfield 9, 3) := by decide +kernel
theorem d19_12 : decode c_19 12 = .ok (.iconst 0, 1) := by decide +kernel
theorem d19_13 : decode c_19 13 = .ok (.aload_n 1, 1) := by decide +kernel
theorem d19_14 : decode c_19 14 = .ok (.iload_n 2, 1) := by decide +kernel
theorem d19_15 : decode c_19 15 = .ok (.iload_n 3, 1) := by decide +kernel
theorem d19_16 : decode c_19 16 = .ok (.ishl, 1) := by decide +kernel
theorem d19_17 : decode c_19 17 = .ok (.aload_n 0, 1) := by decide +kernel
theorem d19_18 : decode c_19 18 = .ok (.getfield 9, 3) := by decide +kernel
theorem d19_21 : decode c_19 21 = .ok (.arraylength, 1) := by decide +kernel
theorem d19_22 : decode c_19 22 = .ok (.invokestatic 212, 3) := by decide +kernel
theorem d19_25 : decode c_19 25 = .ok (.goto 18, 3) := by decide +kernel
theorem d19_43 : decode c_19 43 = .ok (.return_, 1) := by decide +kernel
theorem ef_am19_1 (m : MethodId) (x0 : Addr) (x1 : Addr) (x2 : Int32) (x3 : Int32)  : entryFrame m #[(.ref x0), (.ref x1), (.int x2), (.int x3)] 4 = mkF m 0 #[.val (.ref x0), .val (.ref x1), .val (.int x2), .val (.int x3)] [] := by first | (simp [entryFrame, mkF, argsToLocals, Value.category]; done) | rfl
def Q_am19_1 (Z : State) (cs_ : Int32) (un_ : Value) (sn_ : Value) (ad1 : Addr) (ad2 : Addr) (ad3 : Addr) (kc1 : ClassId) (iv1 : Int32) (ls1 : List Value) (kc3 : ClassId) (h0 : Heap) (n0 : Nat) (v : Option Value) (h : Heap) (L : List Loc) : Prop := v = none ∧ Fr n0 L ∧ Keep h0 h [ad2] ∧ (((cpL (List.replicate ((16 : Int32)).toNatClampNeg (.int (0 : Int32))) ls1 (0 : Int32) (0 : Int32) iv1 (.int (0 : Int32))) : List Value).length = ((16 : Int32)).toNatClampNeg) ∧ (Arv Z h ad2 kc3 .byte (16 : Int32) (cpL (List.replicate ((16 : Int32)).toNatClampNeg (.int (0 : Int32))) ls1 (0 : Int32) (0 : Int32) iv1 (.int (0 : Int32))) (.int (0 : Int32)))
set_option maxRecDepth 65536 in
set_option maxHeartbeats 40000000 in
theorem am19_1 (l : Launch) (Z : State) (a0 : Array Value) (hw : ∀ d ∈ tables_1, d.before a0 Z = true) (ws : List Jvm.Cond) (cs_ : Int32) (un_ : Value) (sn_ : Value) (HW : Wd Z cs_ un_ sn_) (ad1 : Addr) (ad2 : Addr) (ad3 : Addr) (kc1 : ClassId) (iv1 : Int32) (ls1 : List Value) (kc3 : ClassId) (h0 : Heap) (n0 : Nat) (Ol : Old Z n0 h0) (HF_ad1_String_value : Fld Z h0 ad1 "java/lang/String" "value" "[B" (.ref ad3)) (HV_ad3 : Arv Z h0 ad3 kc1 .byte iv1 ls1 (.int (0 : Int32))) (HE_ad1 : Exa Z h0 ad1 "java/lang/String") (HF_ad1_String_coder : Fld Z h0 ad1 "java/lang/String" "coder" "B" (.int (0 : Int32))) (HL_ad2 : ((List.replicate ((16 : Int32)).toNatClampNeg (.int (0 : Int32))) : List Value).length = ((16 : Int32)).toNatClampNeg) (HV_ad2 : Arv Z h0 ad2 kc3 .byte (16 : Int32) (List.replicate ((16 : Int32)).toNatClampNeg (.int (0 : Int32))) (.int (0 : Int32))) (nn_ad2 : n0 ≤ ad2) (as0 : ((0 : Int32)).toNatClampNeg + (iv1).toNatClampNeg ≤ ((16 : Int32)).toNatClampNeg) (as1 : ((0 : Int32)).toNatClampNeg + (iv1).toNatClampNeg ≤ (iv1).toNatClampNeg) (as2 : ¬ (iv1 < (0 : Int32))) :
    MetFree l y_19 (head1 (Jvm.Cond.code y_19 jdk_42_method_147_code 4 none :: ws) (rm 1 0 0 18)) (fun a_ U_ => a_ = #[(.ref ad1), (.ref ad2), (.int (0 : Int32)), (.int (0 : Int32))] ∧ Z.Warmed39 U_.vm ∧ U_.heap = h0) (fun _ _ _ _ _ => True) (fun _ U_ o_ V_ => ∃ v_ L_, o_ = .returned v_ ∧ Q_am19_1 Z cs_ un_ sn_ ad1 ad2 ad3 kc1 iv1 ls1 kc3 h0 n0 v_ V_.heap L_ ∧ FrameEnd U_ o_ V_ L_ (rm 1 0 0 18).cells (rm 1 0 0 18).slots) := by
  refine MetFree.of_bodySF (plainFor_of_name pn_0) hisR ?_
  intro p e s m args below meth c s₁ Bd hml0 hP hK
  obtain ⟨rfl, hZ, hh⟩ := hP
  have hx := Bd.exec
  have hby := Bd.bytes
  have hml : c.maxLocals = 4 := hml0
  have hown : s.vm.findClass "java/lang/String" = some m.cls := findClass_of_methodNamed Bd.named
  have hnm := (name_of_methodNamed Bd.named Bd.method).1
  have X0 : Stand p l e (rm 1 0 0 18) s m #[(.ref ad1), (.ref ad2), (.int (0 : Int32)), (.int (0 : Int32))] below meth c s₁ [] 0 0 := Stand.of_body Bd
  have e0 : s₁.heap = h0 := by rw [← hh, Bd.state]; rfl
  have N0 := Fr.nil n0
  have kp0 := Keep.refl h0 [ad2]
  show Go p e below (Fin1 s below (Q_am19_1 Z cs_ un_ sn_ ad1 ad2 ad3 kc1 iv1 ls1 kc3 h0 n0) (rm 1 0 0 18).cells (rm 1 0 0 18).slots) _
  refine Go.step (fun t_ k_ => castTop (ef_am19_1 m ad1 ad2 (0 : Int32) (0 : Int32)) k_) ?_
  obtain ⟨S_cs, N_cs, S_un, R_un, S_sn, R_sn⟩ := id HW
  show Go p e below _ (s₁.setTop (mkF m 0 #[.val (.ref ad1), .val (.ref ad2), .val (.int (0 : Int32)), .val (.int (0 : Int32))] []))
  refine gs.aloadN X0.here hx (hb hby d19_0) rfl rfl ?_
  refine gs.virt 0 X0 hx hZ hown (am15_1 l Z a0 hw [] cs_ un_ sn_ HW (ad1) h0 n0 Ol HF_ad1_String_coder) (wd hw 84 rfl) (wd hw 6 rfl) (wd hw 80 rfl) (wd hw 81 rfl) (notFace_of_selects (args := #[]) (mvT hZ (wd hw 83 rfl))) (wd hw 83 rfl) (wd hw 82 rfl) (by decide) HE_ad1 (by decide) (by decide) (by rw [hml]; rfl) [] (lenOf pd_10 rfl) rfl (Nat.le_of_eq rfl) (hb hby d19_1) rfl e0 (by decide) (by decide) fun T1 Lc1 v1 X1 hQ1 => ?_
  obtain ⟨rfl, Nq1, e1⟩ := hQ1
  have N1 := Fr.app N0 Nq1
  show Go p e below _ (T1.setTop (mkF m 4 _ [(.int (0 : Int32))]))
  refine gs.iloadN X1.here hx (hb hby d19_4) rfl ?_
  have hc5 : (0 : Int32) = (0 : Int32) := by decide
  refine gs.icmpNo X1.here hx (hb hby d19_5) (teq hc5).2 ?_
  refine gs.aloadN X1.here hx (hb hby d19_8) rfl rfl ?_
  refine gs.getF X1 hx hZ hown (wd hw 24 rfl) Via.refl e1 HF_ad1_String_value (hb hby d19_9) fun T2 X2 e2 => ?_
  refine gs.iconst 0 X2.here hx (hb hby d19_12) rfl ?_
  refine gs.aloadN X2.here hx (hb hby d19_13) rfl rfl ?_
  refine gs.iloadN X2.here hx (hb hby d19_14) rfl ?_
  refine gs.iloadN X2.here hx (hb hby d19_15) rfl ?_
  refine Go.fin (fun t_ k_ => XS.ishl X2.here hx rfl (hb hby d19_16) rfl k_) ?_
  show Go p e below _ (T2.setTop (mkF m 17 _ [(.int ((0 : Int32) <<< ((0 : Int32) &&& 31))), (.ref ad2), (.int (0 : Int32)), (.ref ad3)]))
  rw [show ((0 : Int32) <<< ((0 : Int32) &&& 31)) = (0 : Int32) from by decide]
  refine gs.aloadN X2.here hx (hb hby d19_17) rfl rfl ?_
  refine gs.getF X2 hx hZ hown (wd hw 24 rfl) Via.refl e2 HF_ad1_String_value (hb hby d19_18) fun T3 X3 e3 => ?_
  obtain ⟨cl4, Ar4, -, Sz4, Ng4, -, -⟩ := id HV_ad3
  refine Go.fin (fun t_ k_ => X3.arraylength hx (by rw [e3]; exact Ar4.1) (State.isArrayOf_alike hZ.alike Ar4.2.1) (g := mkF m 21 _ _) rfl rfl (hb hby d19_21) _ k_) ?_
  rw [len_of Sz4 Ng4]
  show Go p e below _ (T3.setTop (mkF m 22 _ [(.int iv1), (.int (0 : Int32)), (.ref ad2), (.int (0 : Int32)), (.ref ad3)]))
  obtain ⟨T5, h5, L5, X5, e5, N5, K5, B5, st5⟩ := cpA X3 hx hZ hown (wd hw 108 rfl) (wd hw 111 rfl) (wd hw 109 rfl) (wd hw 110 rfl) e3 HV_ad3 HV_ad2 (us := ((List.range (iv1).toNatClampNeg).map fun i => (ls1).getD (((0 : Int32)).toNatClampNeg + i) (.int (0 : Int32)))) (Or.inl ⟨rfl, rfl⟩) (by decide) (by decide) as2 as1 as0 rfl (Nat.le_trans as0 (Nat.le_of_eq (Eq.symm HL_ad2))) N1 nn_ad2 (g := (mkF m 22 #[.val (.ref ad1), .val (.ref ad2), .val (.int (0 : Int32)), .val (.int (0 : Int32))] [(.int iv1), (.int (0 : Int32)), (.ref ad2), (.int (0 : Int32)), (.ref ad3)])) rfl (by rw [hml]; rfl) (rest := []) rfl (hb hby d19_22) (by decide) (W := 0) (by show 2 * 0 + _ ≤ _; exact Nat.le_of_eq rfl) (by decide)
  have old5 := Ol.keep K5 (allS nn_ad2 all0)
  have kp5 := kp0.trans K5 (allS (Or.inl (List.mem_of_getElem? (i := 0) rfl)) all0)
  have V5 : Arv Z h5 ad2 kc3 .byte (16 : Int32) (cpL (List.replicate ((16 : Int32)).toNatClampNeg (.int (0 : Int32))) ls1 (0 : Int32) (0 : Int32) iv1 (.int (0 : Int32))) (.int (0 : Int32)) := B5
  refine Go.step st5 ?_
  show Go p e below _ (T5.setTop (mkF m 25 #[.val (.ref ad1), .val (.ref ad2), .val (.int (0 : Int32)), .val (.int (0 : Int32))] []))
  refine gs.goto 43 X5.here hx (hb hby d19_25) rfl ?_
  refine Go.retV X5 hx Bd.returns Bd.notSynchronized (hb hby d19_43) (by rw [e5]; exact ⟨rfl, N5, kp5, (cpL_len HL_ad2 as0), V5⟩) (by decide) (by decide)
theorem pd_13 : parseMethodDescriptor "([BIB)V" = some ⟨[(.array .byte), .int, .byte], none⟩ := by decide +kernel
theorem d17_18 : decode c_17 18 = .ok (.return_, 1) := by decide +kernel
theorem ef_am17_1 (m : MethodId) (x0 : Addr) (x1 : Int32) (x2 : Addr)  : entryFrame m #[(.ref x0), (.int x1), (.ref x2)] 3 = mkF m 0 #[.val (.ref x0), .val (.int x1), .val (.ref x2)] [] := by first | (simp [entryFrame, mkF, argsToLocals, Value.category]; done) | rfl
def Q_am17_1 (Z : State) (cs_ : Int32) (un_ : Value) (sn_ : Value) (ad1 : Addr) (ad2 : Addr) (ad3 : Addr) (kc1 : ClassId) (iv1 : Int32) (ls1 : List Value) (ad4 : Addr) (kc3 : ClassId) (h0 : Heap) (n0 : Nat) (v : Option Value) (h : Heap) (L : List Loc) : Prop := v = none ∧ Fr n0 L ∧ Keep h0 h [ad4] ∧ (((cpL (List.replicate ((16 : Int32)).toNatClampNeg (.int (0 : Int32))) ls1 (0 : Int32) (0 : Int32) iv1 (.int (0 : Int32))) : List Value).length = ((16 : Int32)).toNatClampNeg) ∧ (Arv Z h ad4 kc3 .byte (16 : Int32) (cpL (List.replicate ((16 : Int32)).toNatClampNeg (.int (0 : Int32))) ls1 (0 : Int32) (0 : Int32) iv1 (.int (0 : Int32))) (.int (0 : Int32)))
set_option maxRecDepth 65536 in
set_option maxHeartbeats 40000000 in
theorem am17_1 (l : Launch) (Z : State) (a0 : Array Value) (hw : ∀ d ∈ tables_1, d.before a0 Z = true) (ws : List Jvm.Cond) (cs_ : Int32) (un_ : Value) (sn_ : Value) (HW : Wd Z cs_ un_ sn_) (ad1 : Addr) (ad2 : Addr) (ad3 : Addr) (kc1 : ClassId) (iv1 : Int32) (ls1 : List Value) (ad4 : Addr) (kc3 : ClassId) (h0 : Heap) (n0 : Nat) (Ol : Old Z n0 h0) (HF_ad2_String_value : Fld Z h0 ad2 "java/lang/String" "value" "[B" (.ref ad3)) (HV_ad3 : Arv Z h0 ad3 kc1 .byte iv1 ls1 (.int (0 : Int32))) (HE_ad2 : Exa Z h0 ad2 "java/lang/String") (HF_ad2_String_coder : Fld Z h0 ad2 "java/lang/String" "coder" "B" (.int (0 : Int32))) (HE_ad1 : Exa Z h0 ad1 "java/lang/StringBuilder") (HF_ad1_AbstractStringBuilder_value : Fld Z h0 ad1 "java/lang/AbstractStringBuilder" "value" "[B" (.ref ad4)) (HF_ad1_AbstractStringBuilder_coder : Fld Z h0 ad1 "java/lang/AbstractStringBuilder" "coder" "B" (.int (0 : Int32))) (HL_ad4 : ((List.replicate ((16 : Int32)).toNatClampNeg (.int (0 : Int32))) : List Value).length = ((16 : Int32)).toNatClampNeg) (HV_ad4 : Arv Z h0 ad4 kc3 .byte (16 : Int32) (List.replicate ((16 : Int32)).toNatClampNeg (.int (0 : Int32))) (.int (0 : Int32))) (nn_ad4 : n0 ≤ ad4) (as0 : ((0 : Int32)).toNatClampNeg + (iv1).toNatClampNeg ≤ ((16 : Int32)).toNatClampNeg) (as1 : ((0 : Int32)).toNatClampNeg + (iv1).toNatClampNeg ≤ (iv1).toNatClampNeg) (as2 : ¬ (iv1 < (0 : Int32))) :
    MetFree l y_17 (head1 (Jvm.Cond.code y_17 jdk_68_method_73_code 3 none :: ws) (rm 2 0 0 33)) (fun a_ U_ => a_ = #[(.ref ad1), (.int (0 : Int32)), (.ref ad2)] ∧ Z.Warmed39 U_.vm ∧ U_.heap = h0) (fun _ _ _ _ _ => True) (fun _ U_ o_ V_ => ∃ v_ L_, o_ = .returned v_ ∧ Q_am17_1 Z cs_ un_ sn_ ad1 ad2 ad3 kc1 iv1 ls1 ad4 kc3 h0 n0 v_ V_.heap L_ ∧ FrameEnd U_ o_ V_ L_ (rm 2 0 0 33).cells (rm 2 0 0 33).slots) := by
  refine MetFree.of_bodySF (plainFor_of_name pn_3) hisR ?_
  intro p e s m args below meth c s₁ Bd hml0 hP hK
  obtain ⟨rfl, hZ, hh⟩ := hP
  have hx := Bd.exec
  have hby := Bd.bytes
  have hml : c.maxLocals = 3 := hml0
  have hown : s.vm.findClass "java/lang/AbstractStringBuilder" = some m.cls := findClass_of_methodNamed Bd.named
  have hnm := (name_of_methodNamed Bd.named Bd.method).1
  have X0 : Stand p l e (rm 2 0 0 33) s m #[(.ref ad1), (.int (0 : Int32)), (.ref ad2)] below meth c s₁ [] 0 0 := Stand.of_body Bd
  have e0 : s₁.heap = h0 := by rw [← hh, Bd.state]; rfl
  have N0 := Fr.nil n0
  have kp0 := Keep.refl h0 [ad4]
  show Go p e below (Fin1 s below (Q_am17_1 Z cs_ un_ sn_ ad1 ad2 ad3 kc1 iv1 ls1 ad4 kc3 h0 n0) (rm 2 0 0 33).cells (rm 2 0 0 33).slots) _
  refine Go.step (fun t_ k_ => castTop (ef_am17_1 m ad1 (0 : Int32) ad2) k_) ?_
  obtain ⟨S_cs, N_cs, S_un, R_un, S_sn, R_sn⟩ := id HW
  show Go p e below _ (s₁.setTop (mkF m 0 #[.val (.ref ad1), .val (.int (0 : Int32)), .val (.ref ad2)] []))
  refine gs.aloadN X0.here hx (hb hby d17_0) rfl rfl ?_
  refine gs.aloadN X0.here hx (hb hby d17_1) rfl rfl ?_
  refine gs.priv 0 X0 hx hZ hown (am18_1 l Z a0 hw [] cs_ un_ sn_ HW (ad1) (ad2) h0 n0 Ol HE_ad2 HF_ad2_String_coder HF_ad1_AbstractStringBuilder_coder) (wd hw 101 rfl) (wd hw 57 rfl) (wd hw 97 rfl) (wd hw 98 rfl) (sel_priv2 hZ (wd hw 100 rfl) (wd hw 99 rfl) (wd hw 98 rfl) (by decide)) (wd hw 99 rfl) (by decide) HE_ad1 (by decide) (by decide) (by rw [hml]; rfl) [(.ref ad2)] (lenOf pd_12 rfl) rfl (Nat.le_of_eq rfl) (hb hby d17_2) rfl e0 (by decide) (by decide) fun T1 Lc1 v1 X1 hQ1 => ?_
  obtain ⟨rfl, Nq1, e1⟩ := hQ1
  have N1 := Fr.app N0 Nq1
  show Go p e below _ (T1.setTop (mkF m 5 _ []))
  refine gs.aloadN X1.here hx (hb hby d17_5) rfl rfl ?_
  refine gs.aloadN X1.here hx (hb hby d17_6) rfl rfl ?_
  refine gs.getF X1 hx hZ hown (wd hw 61 rfl) Via.refl e1 HF_ad1_AbstractStringBuilder_value (hb hby d17_7) fun T2 X2 e2 => ?_
  refine gs.iloadN X2.here hx (hb hby d17_10) rfl ?_
  refine gs.aloadN X2.here hx (hb hby d17_11) rfl rfl ?_
  refine gs.getF X2 hx hZ hown (wd hw 63 rfl) Via.refl e2 HF_ad1_AbstractStringBuilder_coder (hb hby d17_12) fun T3 X3 e3 => ?_
  refine gs.virt 0 X3 hx hZ hown (am19_1 l Z a0 hw [] cs_ un_ sn_ HW (ad2) (ad4) (ad3) (kc1) (iv1) (ls1) (kc3) h0 n0 Ol HF_ad2_String_value HV_ad3 HE_ad2 HF_ad2_String_coder HL_ad4 HV_ad4 nn_ad4 as0 as1 as2) (wd hw 107 rfl) (wd hw 6 rfl) (wd hw 103 rfl) (wd hw 104 rfl) (notFace_of_selects (args := #[]) (mvT hZ (wd hw 106 rfl))) (wd hw 106 rfl) (wd hw 105 rfl) (by decide) HE_ad2 (by decide) (by decide) (by rw [hml]; rfl) [(.ref ad4), (.int (0 : Int32)), (.int (0 : Int32))] (lenOf pd_13 rfl) rfl (Nat.le_of_eq rfl) (hb hby d17_15) rfl e3 (by decide) (by decide) fun T4 Lc4 v4 X4 hQ4 => ?_
  obtain ⟨rfl, Nq4, K4, p4_0, p4_1⟩ := hQ4
  have old4 := Ol.keep K4 (allS nn_ad4 all0)
  have kp4 := kp0.trans K4 (allS (Or.inl (List.mem_of_getElem? (i := 0) rfl)) all0)
  have N4 := Fr.app N1 Nq4
  show Go p e below _ (T4.setTop (mkF m 18 _ []))
  refine Go.retV X4 hx Bd.returns Bd.notSynchronized (hb hby d17_18) (by exact ⟨rfl, N4, kp4, p4_0, p4_1⟩) (by decide) (by decide)
theorem pd_14 : parseMethodDescriptor "(ILjava/lang/String;)V" = some ⟨[.int, (.object "java/lang/String")], none⟩ := by decide +kernel
theorem d13_33 : decode c_13 33 = .ok (.aload_n 0, 1) := by decide +kernel
theorem d13_34 : decode c_13 34 = .ok (.dup, 1) := by decide +kernel
theorem d13_35 : decode c_13 35 = .ok (.getfield 79, 3) := by decide +kernel
theorem d13_38 : decode c_13 38 = .ok (.iload_n 2, 1) := by decide +kernel
theorem d13_39 : decode c_13 39 = .ok (.iadd, 1) := by decide +kernel
theorem d13_40 : decode c_13 40 = .ok (.putfield 79, 3) := by decide +kernel
theorem d13_43 : decode c_13 43 = .ok (.aload_n 0, 1) := by decide +kernel
theorem d13_44 : decode c_13 44 = .ok (.areturn, 1) := by decide +kernel
theorem sn6 {a0 : Array Value} {Z : State} (hw : ∀ d ∈ tables_1, d.before a0 Z = true) : SN Z "java/lang/AbstractStringBuilder" "coder" "B" "java/lang/AbstractStringBuilder" "count" "I" := slot_ne (Or.inl (wd hw 64 rfl)) (Or.inl (wd hw 86 rfl)) (by decide) (t := .byte) (t' := .int) (by decide) (by decide)
theorem sn7 {a0 : Array Value} {Z : State} (hw : ∀ d ∈ tables_1, d.before a0 Z = true) : SN Z "java/lang/AbstractStringBuilder" "value" "[B" "java/lang/AbstractStringBuilder" "count" "I" := slot_ne (Or.inl (wd hw 62 rfl)) (Or.inl (wd hw 86 rfl)) (by decide) (t := (.array .byte)) (t' := .int) (by decide) (by decide)
theorem ef_am13_1 (m : MethodId) (x0 : Addr) (x1 : Addr)  : entryFrame m #[(.ref x0), (.ref x1)] 3 = mkF m 0 #[.val (.ref x0), .val (.ref x1), .unset] [] := by first | (simp [entryFrame, mkF, argsToLocals, Value.category]; done) | rfl
def Q_am13_1 (Z : State) (cs_ : Int32) (un_ : Value) (sn_ : Value) (ad1 : Addr) (ad2 : Addr) (ad3 : Addr) (kc1 : ClassId) (iv1 : Int32) (ls1 : List Value) (ad4 : Addr) (kc3 : ClassId) (h0 : Heap) (n0 : Nat) (v : Option Value) (h : Heap) (L : List Loc) : Prop := v = some (.ref ad1) ∧ Fr n0 L ∧ Keep h0 h [ad1, ad4] ∧ (Exa Z h ad1 "java/lang/StringBuilder") ∧ (Fld Z h ad1 "java/lang/AbstractStringBuilder" "coder" "B" (.int (0 : Int32))) ∧ (Fld Z h ad1 "java/lang/AbstractStringBuilder" "count" "I" (.int ((0 : Int32) + iv1))) ∧ (Fld Z h ad1 "java/lang/AbstractStringBuilder" "value" "[B" (.ref ad4)) ∧ (((cpL (List.replicate ((16 : Int32)).toNatClampNeg (.int (0 : Int32))) ls1 (0 : Int32) (0 : Int32) iv1 (.int (0 : Int32))) : List Value).length = ((16 : Int32)).toNatClampNeg) ∧ (Arv Z h ad4 kc3 .byte (16 : Int32) (cpL (List.replicate ((16 : Int32)).toNatClampNeg (.int (0 : Int32))) ls1 (0 : Int32) (0 : Int32) iv1 (.int (0 : Int32))) (.int (0 : Int32)))
set_option maxRecDepth 65536 in
set_option maxHeartbeats 40000000 in
theorem am13_1 (l : Launch) (Z : State) (a0 : Array Value) (hw : ∀ d ∈ tables_1, d.before a0 Z = true) (ws : List Jvm.Cond) (cs_ : Int32) (un_ : Value) (sn_ : Value) (HW : Wd Z cs_ un_ sn_) (ad1 : Addr) (ad2 : Addr) (ad3 : Addr) (kc1 : ClassId) (iv1 : Int32) (ls1 : List Value) (ad4 : Addr) (kc3 : ClassId) (h0 : Heap) (n0 : Nat) (Ol : Old Z n0 h0) (HF_ad2_String_value : Fld Z h0 ad2 "java/lang/String" "value" "[B" (.ref ad3)) (HV_ad3 : Arv Z h0 ad3 kc1 .byte iv1 ls1 (.int (0 : Int32))) (HE_ad2 : Exa Z h0 ad2 "java/lang/String") (HF_ad2_String_coder : Fld Z h0 ad2 "java/lang/String" "coder" "B" (.int (0 : Int32))) (HE_ad1 : Exa Z h0 ad1 "java/lang/StringBuilder") (HF_ad1_AbstractStringBuilder_value : Fld Z h0 ad1 "java/lang/AbstractStringBuilder" "value" "[B" (.ref ad4)) (HF_ad1_AbstractStringBuilder_coder : Fld Z h0 ad1 "java/lang/AbstractStringBuilder" "coder" "B" (.int (0 : Int32))) (HF_ad1_AbstractStringBuilder_count : Fld Z h0 ad1 "java/lang/AbstractStringBuilder" "count" "I" (.int (0 : Int32))) (HL_ad4 : ((List.replicate ((16 : Int32)).toNatClampNeg (.int (0 : Int32))) : List Value).length = ((16 : Int32)).toNatClampNeg) (HV_ad4 : Arv Z h0 ad4 kc3 .byte (16 : Int32) (List.replicate ((16 : Int32)).toNatClampNeg (.int (0 : Int32))) (.int (0 : Int32))) (nn_ad1 : n0 ≤ ad1) (nn_ad4 : n0 ≤ ad4) (ne_ad1_ad4 : ad1 ≠ ad4) (as0 : ((0 : Int32)).toNatClampNeg + (iv1).toNatClampNeg ≤ ((16 : Int32)).toNatClampNeg) (as1 : ((0 : Int32)).toNatClampNeg + (iv1).toNatClampNeg ≤ (iv1).toNatClampNeg) (as2 : ¬ ((0 : Int32) < (((0 : Int32) + iv1) - (16 : Int32)))) (as3 : ¬ (iv1 < (0 : Int32))) :
    MetFree l y_13 (head1 (Jvm.Cond.code y_13 jdk_68_method_22_code 3 (some (.object "java/lang/AbstractStringBuilder")) :: ws) (rm 3 0 0 47)) (fun a_ U_ => a_ = #[(.ref ad1), (.ref ad2)] ∧ Z.Warmed39 U_.vm ∧ U_.heap = h0) (fun _ _ _ _ _ => True) (fun _ U_ o_ V_ => ∃ v_ L_, o_ = .returned v_ ∧ Q_am13_1 Z cs_ un_ sn_ ad1 ad2 ad3 kc1 iv1 ls1 ad4 kc3 h0 n0 v_ V_.heap L_ ∧ FrameEnd U_ o_ V_ L_ (rm 3 0 0 47).cells (rm 3 0 0 47).slots) := by
  refine MetFree.of_bodySF (plainFor_of_name pn_3) hisR ?_
  intro p e s m args below meth c s₁ Bd hml0 hP hK
  obtain ⟨rfl, hZ, hh⟩ := hP
  have hx := Bd.exec
  have hby := Bd.bytes
  have hml : c.maxLocals = 3 := hml0
  have hown : s.vm.findClass "java/lang/AbstractStringBuilder" = some m.cls := findClass_of_methodNamed Bd.named
  have hnm := (name_of_methodNamed Bd.named Bd.method).1
  have X0 : Stand p l e (rm 3 0 0 47) s m #[(.ref ad1), (.ref ad2)] below meth c s₁ [] 0 0 := Stand.of_body Bd
  have e0 : s₁.heap = h0 := by rw [← hh, Bd.state]; rfl
  have N0 := Fr.nil n0
  have kp0 := Keep.refl h0 [ad1, ad4]
  show Go p e below (Fin1 s below (Q_am13_1 Z cs_ un_ sn_ ad1 ad2 ad3 kc1 iv1 ls1 ad4 kc3 h0 n0) (rm 3 0 0 47).cells (rm 3 0 0 47).slots) _
  refine Go.step (fun t_ k_ => castTop (ef_am13_1 m ad1 ad2) k_) ?_
  obtain ⟨S_cs, N_cs, S_un, R_un, S_sn, R_sn⟩ := id HW
  show Go p e below _ (s₁.setTop (mkF m 0 #[.val (.ref ad1), .val (.ref ad2), .unset] []))
  refine gs.aloadN X0.here hx (hb hby d13_0) rfl rfl ?_
  refine Go.fin (fun t_ k_ => XS.ifnonnullYes X0.here hx rfl (pc0 := 1) (pc' := 9) rfl (hb hby d13_1) rfl (by decide) (by decide) k_) ?_
  show Go p e below _ (s₁.setTop (mkF m 9 _ []))
  refine gs.aloadN X0.here hx (hb hby d13_9) rfl rfl ?_
  refine gs.virt 0 X0 hx hZ hown (am14_1 l Z a0 hw [] cs_ un_ sn_ HW (ad2) (ad3) (kc1) (iv1) (ls1) h0 n0 Ol HF_ad2_String_value HV_ad3 HE_ad2 HF_ad2_String_coder) (wd hw 79 rfl) (wd hw 6 rfl) (wd hw 75 rfl) (wd hw 76 rfl) (notFace_of_selects (args := #[]) (mvT hZ (wd hw 78 rfl))) (wd hw 78 rfl) (wd hw 77 rfl) (by decide) HE_ad2 (by decide) (by decide) (by rw [hml]; rfl) [] (lenOf pd_11 rfl) rfl (Nat.le_of_eq rfl) (hb hby d13_10) rfl e0 (by decide) (by decide) fun T1 Lc1 v1 X1 hQ1 => ?_
  obtain ⟨rfl, Nq1, e1⟩ := hQ1
  have N1 := Fr.app N0 Nq1
  show Go p e below _ (T1.setTop (mkF m 13 _ [(.int iv1)]))
  refine gs.istoreN X1.here hx (hb hby d13_13) (l' := #[.val (.ref ad1), .val (.ref ad2), .val (.int iv1)]) rfl ?_
  refine gs.aloadN X1.here hx (hb hby d13_14) rfl rfl ?_
  refine gs.aloadN X1.here hx (hb hby d13_15) rfl rfl ?_
  refine gs.getF X1 hx hZ hown (wd hw 85 rfl) Via.refl e1 HF_ad1_AbstractStringBuilder_count (hb hby d13_16) fun T2 X2 e2 => ?_
  refine gs.iloadN X2.here hx (hb hby d13_19) rfl ?_
  refine gs.iadd X2.here hx (hb hby d13_20) ?_
  refine gs.priv 0 X2 hx hZ hown (am16_1 l Z a0 hw [] cs_ un_ sn_ HW (ad1) (((0 : Int32) + iv1)) (ad4) (kc3) h0 n0 Ol HF_ad1_AbstractStringBuilder_value HF_ad1_AbstractStringBuilder_coder HV_ad4 as2) (wd hw 91 rfl) (wd hw 57 rfl) (wd hw 87 rfl) (wd hw 88 rfl) (sel_priv2 hZ (wd hw 90 rfl) (wd hw 89 rfl) (wd hw 88 rfl) (by decide)) (wd hw 89 rfl) (by decide) HE_ad1 (by decide) (by decide) (by rw [hml]; rfl) [(.int ((0 : Int32) + iv1))] (lenOf pd_8 rfl) rfl (Nat.le_of_eq rfl) (hb hby d13_21) rfl e2 (by decide) (by decide) fun T3 Lc3 v3 X3 hQ3 => ?_
  obtain ⟨rfl, Nq3, e3⟩ := hQ3
  have N3 := Fr.app N1 Nq3
  show Go p e below _ (T3.setTop (mkF m 24 _ []))
  refine gs.aloadN X3.here hx (hb hby d13_24) rfl rfl ?_
  refine gs.aloadN X3.here hx (hb hby d13_25) rfl rfl ?_
  refine gs.getF X3 hx hZ hown (wd hw 85 rfl) Via.refl e3 HF_ad1_AbstractStringBuilder_count (hb hby d13_26) fun T4 X4 e4 => ?_
  refine gs.aloadN X4.here hx (hb hby d13_29) rfl rfl ?_
  refine gs.priv 0 X4 hx hZ hown (am17_1 l Z a0 hw [] cs_ un_ sn_ HW (ad1) (ad2) (ad3) (kc1) (iv1) (ls1) (ad4) (kc3) h0 n0 Ol HF_ad2_String_value HV_ad3 HE_ad2 HF_ad2_String_coder HE_ad1 HF_ad1_AbstractStringBuilder_value HF_ad1_AbstractStringBuilder_coder HL_ad4 HV_ad4 nn_ad4 as0 as1 as3) (wd hw 96 rfl) (wd hw 57 rfl) (wd hw 92 rfl) (wd hw 93 rfl) (sel_priv2 hZ (wd hw 95 rfl) (wd hw 94 rfl) (wd hw 93 rfl) (by decide)) (wd hw 94 rfl) (by decide) HE_ad1 (by decide) (by decide) (by rw [hml]; rfl) [(.int (0 : Int32)), (.ref ad2)] (lenOf pd_14 rfl) rfl (Nat.le_of_eq rfl) (hb hby d13_30) rfl e4 (by decide) (by decide) fun T5 Lc5 v5 X5 hQ5 => ?_
  obtain ⟨rfl, Nq5, K5, p5_0, p5_1⟩ := hQ5
  have old5 := Ol.keep K5 (allS nn_ad4 all0)
  have kp5 := kp0.trans K5 (allS (Or.inl (List.mem_of_getElem? (i := 1) rfl)) all0)
  have N5 := Fr.app N3 Nq5
  show Go p e below _ (T5.setTop (mkF m 33 _ []))
  refine gs.aloadN X5.here hx (hb hby d13_33) rfl rfl ?_
  refine gs.dup X5.here hx (hb hby d13_34) rfl ?_
  have f6 := (HF_ad1_AbstractStringBuilder_count.keep K5 (ninS ne_ad1_ad4 nin0))
  refine gs.getF X5 hx hZ hown (wd hw 85 rfl) Via.refl rfl f6 (hb hby d13_35) fun T7 X7 e7 => ?_
  refine gs.iloadN X7.here hx (hb hby d13_38) rfl ?_
  refine gs.iadd X7.here hx (hb hby d13_39) ?_
  have f8 := (HE_ad1.keep K5)
  obtain ⟨T9, h9, X9, e9, W9, st9⟩ := putF X7 hx hZ hown (host := "") (Or.inl (wd hw 85 rfl)) Via.refl e7 f6 f8 (Or.inl (wd hw 86 rfl)) (wd hw 48 rfl) (ty := .int) (by decide) rfl rfl (g := (mkF m 40 #[.val (.ref ad1), .val (.ref ad2), .val (.int iv1)] [(.int ((0 : Int32) + iv1)), (.ref ad1)])) rfl rfl (hb hby d13_40)
  have N9 := Fr.snoc X9 N5 nn_ad1
  have old9 := old5.wr W9 nn_ad1
  have kp9 := kp5.wr W9 (Or.inl (List.mem_of_getElem? (i := 0) rfl))
  have F9 := f6.same W9
  refine Go.fin st9 ?_
  show Go p e below _ (T9.setTop (mkF m 43 _ []))
  refine gs.aloadN X9.here hx (hb hby d13_43) rfl rfl ?_
  have f10 := (f8.wr W9)
  have f11 := ((HF_ad1_AbstractStringBuilder_coder.keep K5 (ninS ne_ad1_ad4 nin0)).other W9 (Or.inr (sn6 hw)))
  have f12 := ((HF_ad1_AbstractStringBuilder_value.keep K5 (ninS ne_ad1_ad4 nin0)).other W9 (Or.inr (sn7 hw)))
  have f13 := p5_0
  have f14 := (p5_1.other W9 (Ne.symm ne_ad1_ad4))
  refine Go.retR X9 hx Bd.returns rfl rfl Bd.notSynchronized (hb hby d13_44) (by rw [e9]; exact ⟨rfl, N9, kp9, f10, f11, F9, f12, f13, f14⟩) (by decide) (by decide)
theorem pd_15 : parseMethodDescriptor "(Ljava/lang/String;)Ljava/lang/AbstractStringBuilder;" = some ⟨[(.object "java/lang/String")], some (.object "java/lang/AbstractStringBuilder")⟩ := by decide +kernel
theorem d12_5 : decode c_12 5 = .ok (.pop, 1) := by decide +kernel
theorem d12_6 : decode c_12 6 = .ok (.aload_n 0, 1) := by decide +kernel
theorem d12_7 : decode c_12 7 = .ok (.areturn, 1) := by decide +kernel
theorem ef_am12_1 (m : MethodId) (x0 : Addr) (x1 : Addr)  : entryFrame m #[(.ref x0), (.ref x1)] 2 = mkF m 0 #[.val (.ref x0), .val (.ref x1)] [] := by first | (simp [entryFrame, mkF, argsToLocals, Value.category]; done) | rfl
def Q_am12_1 (Z : State) (cs_ : Int32) (un_ : Value) (sn_ : Value) (ad1 : Addr) (ad2 : Addr) (ad3 : Addr) (kc1 : ClassId) (iv1 : Int32) (ls1 : List Value) (ad4 : Addr) (kc3 : ClassId) (h0 : Heap) (n0 : Nat) (v : Option Value) (h : Heap) (L : List Loc) : Prop := v = some (.ref ad1) ∧ Fr n0 L ∧ Keep h0 h [ad1, ad4] ∧ (Exa Z h ad1 "java/lang/StringBuilder") ∧ (Fld Z h ad1 "java/lang/AbstractStringBuilder" "coder" "B" (.int (0 : Int32))) ∧ (Fld Z h ad1 "java/lang/AbstractStringBuilder" "count" "I" (.int ((0 : Int32) + iv1))) ∧ (Fld Z h ad1 "java/lang/AbstractStringBuilder" "value" "[B" (.ref ad4)) ∧ (((cpL (List.replicate ((16 : Int32)).toNatClampNeg (.int (0 : Int32))) ls1 (0 : Int32) (0 : Int32) iv1 (.int (0 : Int32))) : List Value).length = ((16 : Int32)).toNatClampNeg) ∧ (Arv Z h ad4 kc3 .byte (16 : Int32) (cpL (List.replicate ((16 : Int32)).toNatClampNeg (.int (0 : Int32))) ls1 (0 : Int32) (0 : Int32) iv1 (.int (0 : Int32))) (.int (0 : Int32)))
set_option maxRecDepth 65536 in
set_option maxHeartbeats 40000000 in
theorem am12_1 (l : Launch) (Z : State) (a0 : Array Value) (hw : ∀ d ∈ tables_1, d.before a0 Z = true) (ws : List Jvm.Cond) (cs_ : Int32) (un_ : Value) (sn_ : Value) (HW : Wd Z cs_ un_ sn_) (ad1 : Addr) (ad2 : Addr) (ad3 : Addr) (kc1 : ClassId) (iv1 : Int32) (ls1 : List Value) (ad4 : Addr) (kc3 : ClassId) (h0 : Heap) (n0 : Nat) (Ol : Old Z n0 h0) (HF_ad2_String_value : Fld Z h0 ad2 "java/lang/String" "value" "[B" (.ref ad3)) (HV_ad3 : Arv Z h0 ad3 kc1 .byte iv1 ls1 (.int (0 : Int32))) (HE_ad2 : Exa Z h0 ad2 "java/lang/String") (HF_ad2_String_coder : Fld Z h0 ad2 "java/lang/String" "coder" "B" (.int (0 : Int32))) (HE_ad1 : Exa Z h0 ad1 "java/lang/StringBuilder") (HF_ad1_AbstractStringBuilder_value : Fld Z h0 ad1 "java/lang/AbstractStringBuilder" "value" "[B" (.ref ad4)) (HF_ad1_AbstractStringBuilder_coder : Fld Z h0 ad1 "java/lang/AbstractStringBuilder" "coder" "B" (.int (0 : Int32))) (HF_ad1_AbstractStringBuilder_count : Fld Z h0 ad1 "java/lang/AbstractStringBuilder" "count" "I" (.int (0 : Int32))) (HL_ad4 : ((List.replicate ((16 : Int32)).toNatClampNeg (.int (0 : Int32))) : List Value).length = ((16 : Int32)).toNatClampNeg) (HV_ad4 : Arv Z h0 ad4 kc3 .byte (16 : Int32) (List.replicate ((16 : Int32)).toNatClampNeg (.int (0 : Int32))) (.int (0 : Int32))) (nn_ad1 : n0 ≤ ad1) (nn_ad4 : n0 ≤ ad4) (ne_ad1_ad4 : ad1 ≠ ad4) (as0 : ((0 : Int32)).toNatClampNeg + (iv1).toNatClampNeg ≤ ((16 : Int32)).toNatClampNeg) (as1 : ((0 : Int32)).toNatClampNeg + (iv1).toNatClampNeg ≤ (iv1).toNatClampNeg) (as2 : ¬ ((0 : Int32) < (((0 : Int32) + iv1) - (16 : Int32)))) (as3 : ¬ (iv1 < (0 : Int32))) :
    MetFree l y_12 (head1 (Jvm.Cond.code y_12 jdk_67_method_7_code 2 (some (.object "java/lang/StringBuilder")) :: ws) (rm 4 0 0 61)) (fun a_ U_ => a_ = #[(.ref ad1), (.ref ad2)] ∧ Z.Warmed39 U_.vm ∧ U_.heap = h0) (fun _ _ _ _ _ => True) (fun _ U_ o_ V_ => ∃ v_ L_, o_ = .returned v_ ∧ Q_am12_1 Z cs_ un_ sn_ ad1 ad2 ad3 kc1 iv1 ls1 ad4 kc3 h0 n0 v_ V_.heap L_ ∧ FrameEnd U_ o_ V_ L_ (rm 4 0 0 61).cells (rm 4 0 0 61).slots) := by
  refine MetFree.of_bodySF (plainFor_of_name pn_4) hisR ?_
  intro p e s m args below meth c s₁ Bd hml0 hP hK
  obtain ⟨rfl, hZ, hh⟩ := hP
  have hx := Bd.exec
  have hby := Bd.bytes
  have hml : c.maxLocals = 2 := hml0
  have hown : s.vm.findClass "java/lang/StringBuilder" = some m.cls := findClass_of_methodNamed Bd.named
  have hnm := (name_of_methodNamed Bd.named Bd.method).1
  have X0 : Stand p l e (rm 4 0 0 61) s m #[(.ref ad1), (.ref ad2)] below meth c s₁ [] 0 0 := Stand.of_body Bd
  have e0 : s₁.heap = h0 := by rw [← hh, Bd.state]; rfl
  have N0 := Fr.nil n0
  have kp0 := Keep.refl h0 [ad1, ad4]
  show Go p e below (Fin1 s below (Q_am12_1 Z cs_ un_ sn_ ad1 ad2 ad3 kc1 iv1 ls1 ad4 kc3 h0 n0) (rm 4 0 0 61).cells (rm 4 0 0 61).slots) _
  refine Go.step (fun t_ k_ => castTop (ef_am12_1 m ad1 ad2) k_) ?_
  obtain ⟨S_cs, N_cs, S_un, R_un, S_sn, R_sn⟩ := id HW
  show Go p e below _ (s₁.setTop (mkF m 0 #[.val (.ref ad1), .val (.ref ad2)] []))
  refine gs.aloadN X0.here hx (hb hby d12_0) rfl rfl ?_
  refine gs.aloadN X0.here hx (hb hby d12_1) rfl rfl ?_
  obtain ⟨_, _, ⟨T1, L1, k1, n1⟩, -, X1, ⟨Lc1, hQ1, l1, y1, z1⟩, st1⟩ := superBack X0 hx hZ (y := y_13) hown (wd hw 70 rfl) (same_self (wd hw 90 rfl) rfl (wd hw 71 rfl) (by decide)) (wd hw 71 rfl) (wd hw 72 rfl) (by decide) (backOf (W := 0) (am13_1 l Z a0 hw [] cs_ un_ sn_ HW (ad1) (ad2) (ad3) (kc1) (iv1) (ls1) (ad4) (kc3) h0 n0 Ol HF_ad2_String_value HV_ad3 HE_ad2 HF_ad2_String_coder HE_ad1 HF_ad1_AbstractStringBuilder_value HF_ad1_AbstractStringBuilder_coder HF_ad1_AbstractStringBuilder_count HL_ad4 HV_ad4 nn_ad1 nn_ad4 ne_ad1_ad4 as0 as1 as2 as3) hZ (wd hw 74 rfl) (wd hw 57 rfl) (by decide) (by decide)) e0 (Ins.self HE_ad1) (g := (mkF m 2 #[.val (.ref ad1), .val (.ref ad2)] [(.ref ad2), (.ref ad1)])) rfl (by rw [hml]; rfl) (wd hw 74 rfl) (argsL := [(.ref ad2)]) (rest := []) (lenOf pd_15 rfl) rfl (by show 2 * 0 + _ ≤ _; exact Nat.le_of_eq rfl) (hb hby d12_2) (fun _ _ => ⟨rfl, e0, (by decide : 0 + 0 ≤ _), (by decide : 0 + 0 ≤ _)⟩)
  dsimp only [Pt.U, Pt.locs, Pt.cells, Pt.slots] at X1 l1 y1 z1 st1 hQ1
  subst l1 y1 z1
  obtain ⟨rfl, Nq1, K1, p1_0, p1_1, p1_2, p1_3, p1_4, p1_5⟩ := hQ1
  have old1 := Ol.keep K1 (allS nn_ad1 (allS nn_ad4 all0))
  have kp1 := kp0.trans K1 (allS (Or.inl (List.mem_of_getElem? (i := 0) rfl)) (allS (Or.inl (List.mem_of_getElem? (i := 1) rfl)) all0))
  have N1 := Fr.app N0 Nq1
  refine Go.step (fun t_ k_ => st1.trans k_) ?_
  show Go p e below _ (T1.setTop (mkF m 5 #[.val (.ref ad1), .val (.ref ad2)] [(.ref ad1)]))
  refine gs.pop X1.here hx (hb hby d12_5) rfl ?_
  refine gs.aloadN X1.here hx (hb hby d12_6) rfl rfl ?_
  refine Go.retR X1 hx Bd.returns rfl rfl Bd.notSynchronized (hb hby d12_7) (by exact ⟨rfl, N1, kp1, p1_0, p1_1, p1_2, p1_3, p1_4, p1_5⟩) (by decide) (by decide)
theorem pd_16 : parseMethodDescriptor "(Ljava/lang/String;)Ljava/lang/StringBuilder;" = some ⟨[(.object "java/lang/String")], some (.object "java/lang/StringBuilder")⟩ := by decide +kernel
theorem d9_15 : decode c_9 15 = .ok (.ldc 111, 2) := by decide +kernel
theorem d9_17 : decode c_9 17 = .ok (.invokevirtual 107, 3) := by decide +kernel
def Q_am14_2 (Z : State) (cs_ : Int32) (un_ : Value) (sn_ : Value) (ad1 : Addr) (ad2 : Addr) (kc1 : ClassId) (ls1 : List Value) (h0 : Heap) (n0 : Nat) (v : Option Value) (h : Heap) (L : List Loc) : Prop := v = some (.int (21 : Int32)) ∧ Fr n0 L ∧ h = h0
set_option maxRecDepth 65536 in
set_option maxHeartbeats 40000000 in
theorem am14_2 (l : Launch) (Z : State) (a0 : Array Value) (hw : ∀ d ∈ tables_1, d.before a0 Z = true) (ws : List Jvm.Cond) (cs_ : Int32) (un_ : Value) (sn_ : Value) (HW : Wd Z cs_ un_ sn_) (ad1 : Addr) (ad2 : Addr) (kc1 : ClassId) (ls1 : List Value) (h0 : Heap) (n0 : Nat) (Ol : Old Z n0 h0) (HE_ad1 : Exa Z h0 ad1 "java/lang/String") (HF_ad1_String_coder : Fld Z h0 ad1 "java/lang/String" "coder" "B" (.int (0 : Int32))) (HF_ad1_String_value : Fld Z h0 ad1 "java/lang/String" "value" "[B" (.ref ad2)) (HV_ad2 : Arv Z h0 ad2 kc1 .byte (21 : Int32) ls1 (.int 0)) :
    MetFree l y_14 (head1 (Jvm.Cond.code y_14 jdk_42_method_54_code 1 (some .int) :: ws) (rm 1 0 0 13)) (fun a_ U_ => a_ = #[(.ref ad1)] ∧ Z.Warmed39 U_.vm ∧ U_.heap = h0) (fun _ _ _ _ _ => True) (fun _ U_ o_ V_ => ∃ v_ L_, o_ = .returned v_ ∧ Q_am14_2 Z cs_ un_ sn_ ad1 ad2 kc1 ls1 h0 n0 v_ V_.heap L_ ∧ FrameEnd U_ o_ V_ L_ (rm 1 0 0 13).cells (rm 1 0 0 13).slots) := by
  refine MetFree.of_bodySF (plainFor_of_name pn_0) hisR ?_
  intro p e s m args below meth c s₁ Bd hml0 hP hK
  obtain ⟨rfl, hZ, hh⟩ := hP
  have hx := Bd.exec
  have hby := Bd.bytes
  have hml : c.maxLocals = 1 := hml0
  have hown : s.vm.findClass "java/lang/String" = some m.cls := findClass_of_methodNamed Bd.named
  have hnm := (name_of_methodNamed Bd.named Bd.method).1
  have X0 : Stand p l e (rm 1 0 0 13) s m #[(.ref ad1)] below meth c s₁ [] 0 0 := Stand.of_body Bd
  have e0 : s₁.heap = h0 := by rw [← hh, Bd.state]; rfl
  have N0 := Fr.nil n0
  have kp0 := Keep.refl h0 []
  show Go p e below (Fin1 s below (Q_am14_2 Z cs_ un_ sn_ ad1 ad2 kc1 ls1 h0 n0) (rm 1 0 0 13).cells (rm 1 0 0 13).slots) _
  refine Go.step (fun t_ k_ => castTop (ef_am14_1 m ad1) k_) ?_
  obtain ⟨S_cs, N_cs, S_un, R_un, S_sn, R_sn⟩ := id HW
  show Go p e below _ (s₁.setTop (mkF m 0 #[.val (.ref ad1)] []))
  refine gs.aloadN X0.here hx (hb hby d14_0) rfl rfl ?_
  refine gs.getF X0 hx hZ hown (wd hw 24 rfl) Via.refl e0 HF_ad1_String_value (hb hby d14_1) fun T1 X1 e1 => ?_
  obtain ⟨cl2, Ar2, -, Sz2, Ng2, -, -⟩ := id HV_ad2
  refine Go.fin (fun t_ k_ => X1.arraylength hx (by rw [e1]; exact Ar2.1) (State.isArrayOf_alike hZ.alike Ar2.2.1) (g := mkF m 4 _ _) rfl rfl (hb hby d14_4) _ k_) ?_
  rw [len_of Sz2 Ng2]
  show Go p e below _ (T1.setTop (mkF m 5 _ [(.int (21 : Int32))]))
  refine gs.aloadN X1.here hx (hb hby d14_5) rfl rfl ?_
  refine gs.virt 1 X1 hx hZ hown (am15_1 l Z a0 hw [] cs_ un_ sn_ HW (ad1) h0 n0 Ol HF_ad1_String_coder) (wd hw 84 rfl) (wd hw 6 rfl) (wd hw 80 rfl) (wd hw 81 rfl) (notFace_of_selects (args := #[]) (mvT hZ (wd hw 83 rfl))) (wd hw 83 rfl) (wd hw 82 rfl) (by decide) HE_ad1 (by decide) (by decide) (by rw [hml]; rfl) [] (lenOf pd_10 rfl) rfl (Nat.le_of_eq rfl) (hb hby d14_6) rfl e1 (by decide) (by decide) fun T3 Lc3 v3 X3 hQ3 => ?_
  obtain ⟨rfl, Nq3, e3⟩ := hQ3
  have N3 := Fr.app N0 Nq3
  show Go p e below _ (T3.setTop (mkF m 9 _ [(.int (0 : Int32)), (.int (21 : Int32))]))
  refine Go.fin (fun t_ k_ => XS.ishr X3.here hx rfl (hb hby d14_9) rfl k_) ?_
  show Go p e below _ (T3.setTop (mkF m 10 _ [(.int ((21 : Int32) >>> ((0 : Int32) &&& 31)))]))
  rw [show ((21 : Int32) >>> ((0 : Int32) &&& 31)) = (21 : Int32) from by decide]
  refine Go.retI X3 hx Bd.returns Bd.notSynchronized (hb hby d14_10) (by rw [e3]; exact ⟨rfl, N3, rfl⟩) (by decide) (by decide)
theorem d16_17 : decode c_16 17 = .ok (.aload_n 0, 1) := by decide +kernel
theorem d16_18 : decode c_16 18 = .ok (.aload_n 0, 1) := by decide +kernel
theorem d16_19 : decode c_16 19 = .ok (.getfield 15, 3) := by decide +kernel
theorem d16_22 : decode c_16 22 = .ok (.aload_n 0, 1) := by decide +kernel
theorem d16_23 : decode c_16 23 = .ok (.iload_n 1, 1) := by decide +kernel
theorem d16_24 : decode c_16 24 = .ok (.invokevirtual 104, 3) := by decide +kernel
theorem d20_0 : decode c_20 0 = .ok (.aload_n 0, 1) := by decide +kernel
theorem d20_1 : decode c_20 1 = .ok (.getfield 15, 3) := by decide +kernel
theorem d20_4 : decode c_20 4 = .ok (.arraylength, 1) := by decide +kernel
theorem d20_5 : decode c_20 5 = .ok (.istore_n 2, 1) := by decide +kernel
theorem d20_6 : decode c_20 6 = .ok (.iload_n 1, 1) := by decide +kernel
theorem d20_7 : decode c_20 7 = .ok (.aload_n 0, 1) := by decide +kernel
theorem d20_8 : decode c_20 8 = .ok (.getfield 22, 3) := by decide +kernel
theorem d20_11 : decode c_20 11 = .ok (.ishl, 1) := by decide +kernel
theorem d20_12 : decode c_20 12 = .ok (.istore_n 3, 1) := by decide +kernel
theorem d20_13 : decode c_20 13 = .ok (.iload_n 3, 1) := by decide +kernel
theorem d20_14 : decode c_20 14 = .ok (.iload_n 2, 1) := by decide +kernel
theorem d20_15 : decode c_20 15 = .ok (.isub, 1) := by decide +kernel
theorem d20_16 : decode c_20 16 = .ok (.istore 4, 2) := by decide +kernel
theorem d20_18 : decode c_20 18 = .ok (.iload_n 2, 1) := by decide +kernel
theorem d20_19 : decode c_20 19 = .ok (.iload 4, 2) := by decide +kernel
theorem d20_21 : decode c_20 21 = .ok (.iload_n 2, 1) := by decide +kernel
theorem d20_22 : decode c_20 22 = .ok (.iconst 2, 1) := by decide +kernel
theorem d20_23 : decode c_20 23 = .ok (.aload_n 0, 1) := by decide +kernel
theorem d20_24 : decode c_20 24 = .ok (.getfield 22, 3) := by decide +kernel
theorem d20_27 : decode c_20 27 = .ok (.ishl, 1) := by decide +kernel
theorem d20_28 : decode c_20 28 = .ok (.iadd, 1) := by decide +kernel
theorem d20_29 : decode c_20 29 = .ok (.invokestatic 114, 3) := by decide +kernel
theorem d21_0 : decode c_21 0 = .ok (.iload_n 0, 1) := by decide +kernel
theorem d21_1 : decode c_21 1 = .ok (.iload_n 1, 1) := by decide +kernel
theorem d21_2 : decode c_21 2 = .ok (.iload_n 2, 1) := by decide +kernel
theorem d21_3 : decode c_21 3 = .ok (.invokestatic 194, 3) := by decide +kernel
theorem d22_0 : decode c_22 0 = .ok (.iload_n 0, 1) := by decide +kernel
theorem d22_1 : decode c_22 1 = .ok (.iload_n 1, 1) := by decide +kernel
theorem d22_2 : decode c_22 2 = .ok (.if_icmp .lt 7, 3) := by decide +kernel
theorem d22_9 : decode c_22 9 = .ok (.iload_n 1, 1) := by decide +kernel
theorem d22_10 : decode c_22 10 = .ok (.ireturn, 1) := by decide +kernel
theorem ef_am22_1 (m : MethodId) (x0 : Int32) (x1 : Int32)  : entryFrame m #[(.int x0), (.int x1)] 2 = mkF m 0 #[.val (.int x0), .val (.int x1)] [] := by first | (simp [entryFrame, mkF, argsToLocals, Value.category]; done) | rfl
def Q_am22_1 (Z : State) (cs_ : Int32) (un_ : Value) (sn_ : Value) (iv1 : Int32) (h0 : Heap) (n0 : Nat) (v : Option Value) (h : Heap) (L : List Loc) : Prop := v = some (.int (18 : Int32)) ∧ Fr n0 L ∧ h = h0
set_option maxRecDepth 65536 in
set_option maxHeartbeats 40000000 in
theorem am22_1 (l : Launch) (Z : State) (a0 : Array Value) (hw : ∀ d ∈ tables_1, d.before a0 Z = true) (ws : List Jvm.Cond) (cs_ : Int32) (un_ : Value) (sn_ : Value) (HW : Wd Z cs_ un_ sn_) (iv1 : Int32) (h0 : Heap) (n0 : Nat) (Ol : Old Z n0 h0) (as0 : iv1 < (18 : Int32)) :
    MetFree l y_22 (head1 (Jvm.Cond.code y_22 jdk_29_method_65_code 2 (some .int) :: ws) (rm 0 0 0 0)) (fun a_ U_ => a_ = #[(.int iv1), (.int (18 : Int32))] ∧ Z.Warmed39 U_.vm ∧ U_.heap = h0) (fun _ _ _ _ _ => True) (fun _ U_ o_ V_ => ∃ v_ L_, o_ = .returned v_ ∧ Q_am22_1 Z cs_ un_ sn_ iv1 h0 n0 v_ V_.heap L_ ∧ FrameEnd U_ o_ V_ L_ (rm 0 0 0 0).cells (rm 0 0 0 0).slots) := by
  refine MetFree.of_bodySF (Jvm.Free.JP.mathPlain rfl (by decide +kernel)) hisR ?_
  intro p e s m args below meth c s₁ Bd hml0 hP hK
  obtain ⟨rfl, hZ, hh⟩ := hP
  have hx := Bd.exec
  have hby := Bd.bytes
  have hml : c.maxLocals = 2 := hml0
  have hown : s.vm.findClass "java/lang/Math" = some m.cls := findClass_of_methodNamed Bd.named
  have hnm := (name_of_methodNamed Bd.named Bd.method).1
  have X0 : Stand p l e (rm 0 0 0 0) s m #[(.int iv1), (.int (18 : Int32))] below meth c s₁ [] 0 0 := Stand.of_body Bd
  have e0 : s₁.heap = h0 := by rw [← hh, Bd.state]; rfl
  have N0 := Fr.nil n0
  have kp0 := Keep.refl h0 []
  show Go p e below (Fin1 s below (Q_am22_1 Z cs_ un_ sn_ iv1 h0 n0) (rm 0 0 0 0).cells (rm 0 0 0 0).slots) _
  refine Go.step (fun t_ k_ => castTop (ef_am22_1 m iv1 (18 : Int32)) k_) ?_
  obtain ⟨S_cs, N_cs, S_un, R_un, S_sn, R_sn⟩ := id HW
  show Go p e below _ (s₁.setTop (mkF m 0 #[.val (.int iv1), .val (.int (18 : Int32))] []))
  refine gs.iloadN X0.here hx (hb hby d22_0) rfl ?_
  refine gs.iloadN X0.here hx (hb hby d22_1) rfl ?_
  have hc2 : iv1 < (18 : Int32) := as0
  refine gs.icmpYes 9 X0.here hx (hb hby d22_2) (tlt hc2).1 rfl ?_
  refine gs.iloadN X0.here hx (hb hby d22_9) rfl ?_
  refine Go.retI X0 hx Bd.returns Bd.notSynchronized (hb hby d22_10) (by rw [e0]; exact ⟨rfl, N0, rfl⟩) (by decide) (by decide)
theorem pd_17 : parseMethodDescriptor "(II)I" = some ⟨[.int, .int], some .int⟩ := by decide +kernel
theorem d21_6 : decode c_21 6 = .ok (.iadd, 1) := by decide +kernel
theorem d21_7 : decode c_21 7 = .ok (.istore_n 3, 1) := by decide +kernel
theorem d21_8 : decode c_21 8 = .ok (.iconst 0, 1) := by decide +kernel
theorem d21_9 : decode c_21 9 = .ok (.iload_n 3, 1) := by decide +kernel
theorem d21_10 : decode c_21 10 = .ok (.if_icmp .ge 11, 3) := by decide +kernel
theorem d21_13 : decode c_21 13 = .ok (.iload_n 3, 1) := by decide +kernel
theorem d21_14 : decode c_21 14 = .ok (.ldc 200, 2) := by decide +kernel
theorem d21_16 : decode c_21 16 = .ok (.if_icmp .gt 5, 3) := by decide +kernel
theorem d21_19 : decode c_21 19 = .ok (.iload_n 3, 1) := by decide +kernel
theorem d21_20 : decode c_21 20 = .ok (.ireturn, 1) := by decide +kernel
theorem pn_5 : plainName "jdk/internal/util/ArraysSupport" = true := by first | (simp [plainName, overriddenIn]; done) | decide +kernel
theorem ef_am21_1 (m : MethodId) (x0 : Int32) (x1 : Int32) (x2 : Int32)  : entryFrame m #[(.int x0), (.int x1), (.int x2)] 4 = mkF m 0 #[.val (.int x0), .val (.int x1), .val (.int x2), .unset] [] := by first | (simp [entryFrame, mkF, argsToLocals, Value.category]; done) | rfl
def Q_am21_1 (Z : State) (cs_ : Int32) (un_ : Value) (sn_ : Value) (iv1 : Int32) (h0 : Heap) (n0 : Nat) (v : Option Value) (h : Heap) (L : List Loc) : Prop := v = some (.int (34 : Int32)) ∧ Fr n0 L ∧ h = h0
set_option maxRecDepth 65536 in
set_option maxHeartbeats 40000000 in
theorem am21_1 (l : Launch) (Z : State) (a0 : Array Value) (hw : ∀ d ∈ tables_1, d.before a0 Z = true) (ws : List Jvm.Cond) (cs_ : Int32) (un_ : Value) (sn_ : Value) (HW : Wd Z cs_ un_ sn_) (iv1 : Int32) (h0 : Heap) (n0 : Nat) (Ol : Old Z n0 h0) (as0 : iv1 < (18 : Int32)) :
    MetFree l y_21 (head1 (Jvm.Cond.code y_21 jdk_48_method_27_code 4 (some .int) :: ws) (rm 1 0 0 14)) (fun a_ U_ => a_ = #[(.int (16 : Int32)), (.int iv1), (.int (18 : Int32))] ∧ Z.Warmed39 U_.vm ∧ U_.heap = h0) (fun _ _ _ _ _ => True) (fun _ U_ o_ V_ => ∃ v_ L_, o_ = .returned v_ ∧ Q_am21_1 Z cs_ un_ sn_ iv1 h0 n0 v_ V_.heap L_ ∧ FrameEnd U_ o_ V_ L_ (rm 1 0 0 14).cells (rm 1 0 0 14).slots) := by
  refine MetFree.of_bodySF (plainFor_of_name pn_5) hisR ?_
  intro p e s m args below meth c s₁ Bd hml0 hP hK
  obtain ⟨rfl, hZ, hh⟩ := hP
  have hx := Bd.exec
  have hby := Bd.bytes
  have hml : c.maxLocals = 4 := hml0
  have hown : s.vm.findClass "jdk/internal/util/ArraysSupport" = some m.cls := findClass_of_methodNamed Bd.named
  have hnm := (name_of_methodNamed Bd.named Bd.method).1
  have X0 : Stand p l e (rm 1 0 0 14) s m #[(.int (16 : Int32)), (.int iv1), (.int (18 : Int32))] below meth c s₁ [] 0 0 := Stand.of_body Bd
  have e0 : s₁.heap = h0 := by rw [← hh, Bd.state]; rfl
  have N0 := Fr.nil n0
  have kp0 := Keep.refl h0 []
  show Go p e below (Fin1 s below (Q_am21_1 Z cs_ un_ sn_ iv1 h0 n0) (rm 1 0 0 14).cells (rm 1 0 0 14).slots) _
  refine Go.step (fun t_ k_ => castTop (ef_am21_1 m (16 : Int32) iv1 (18 : Int32)) k_) ?_
  obtain ⟨S_cs, N_cs, S_un, R_un, S_sn, R_sn⟩ := id HW
  show Go p e below _ (s₁.setTop (mkF m 0 #[.val (.int (16 : Int32)), .val (.int iv1), .val (.int (18 : Int32)), .unset] []))
  refine gs.iloadN X0.here hx (hb hby d21_0) rfl ?_
  refine gs.iloadN X0.here hx (hb hby d21_1) rfl ?_
  refine gs.iloadN X0.here hx (hb hby d21_2) rfl ?_
  refine gs.stat 1 X0 hx hZ hown (am22_1 l Z a0 hw [] cs_ un_ sn_ HW (iv1) h0 n0 Ol as0) (wd hw 125 rfl) (wd hw 124 rfl) (wd hw 122 rfl) (wd hw 123 rfl) (by decide) (by decide) (by decide) (by rw [hml]; rfl) [(.int iv1), (.int (18 : Int32))] (lenOf pd_17 rfl) rfl (Nat.le_of_eq rfl) (hb hby d21_3) rfl e0 (by decide) (by decide) fun T1 Lc1 v1 X1 hQ1 => ?_
  obtain ⟨rfl, Nq1, e1⟩ := hQ1
  have N1 := Fr.app N0 Nq1
  show Go p e below _ (T1.setTop (mkF m 6 _ [(.int (18 : Int32)), (.int (16 : Int32))]))
  refine gs.iadd X1.here hx (hb hby d21_6) ?_
  rw [show ((16 : Int32) + (18 : Int32)) = (34 : Int32) from by decide]
  refine gs.istoreN X1.here hx (hb hby d21_7) (l' := #[.val (.int (16 : Int32)), .val (.int iv1), .val (.int (18 : Int32)), .val (.int (34 : Int32))]) rfl ?_
  refine gs.iconst 0 X1.here hx (hb hby d21_8) rfl ?_
  refine gs.iloadN X1.here hx (hb hby d21_9) rfl ?_
  have hc10 : (0 : Int32) < (34 : Int32) := by decide
  refine gs.icmpNo X1.here hx (hb hby d21_10) (tlt hc10).2.1 ?_
  refine gs.iloadN X1.here hx (hb hby d21_13) rfl ?_
  refine Go.fin (fun t_ k_ => X1.ldcInt hx hown (mvT hZ (wd hw 126 rfl)) (g := mkF m 14 _ _) rfl (hb hby d21_14) _ k_) ?_
  show Go p e below _ (T1.setTop (mkF m 16 _ [(.int (2147483639 : Int32)), (.int (34 : Int32))]))
  have hc16 : ¬ ((2147483639 : Int32) < (34 : Int32)) := by decide
  refine gs.icmpNo X1.here hx (hb hby d21_16) (flt hc16).2.2.1 ?_
  refine gs.iloadN X1.here hx (hb hby d21_19) rfl ?_
  refine Go.retI X1 hx Bd.returns Bd.notSynchronized (hb hby d21_20) (by rw [e1]; exact ⟨rfl, N1, rfl⟩) (by decide) (by decide)
theorem pd_18 : parseMethodDescriptor "(III)I" = some ⟨[.int, .int, .int], some .int⟩ := by decide +kernel
theorem d20_32 : decode c_20 32 = .ok (.istore 5, 2) := by decide +kernel
theorem d20_34 : decode c_20 34 = .ok (.iload 5, 2) := by decide +kernel
theorem d20_36 : decode c_20 36 = .ok (.ldc 39, 2) := by decide +kernel
theorem d20_38 : decode c_20 38 = .ok (.if_icmp .ne 13, 3) := by decide +kernel
theorem d20_51 : decode c_20 51 = .ok (.iload 5, 2) := by decide +kernel
theorem d20_53 : decode c_20 53 = .ok (.aload_n 0, 1) := by decide +kernel
theorem d20_54 : decode c_20 54 = .ok (.getfield 22, 3) := by decide +kernel
theorem d20_57 : decode c_20 57 = .ok (.ishr, 1) := by decide +kernel
theorem d20_58 : decode c_20 58 = .ok (.ireturn, 1) := by decide +kernel
theorem ef_am20_1 (m : MethodId) (x0 : Addr) (x1 : Int32)  : entryFrame m #[(.ref x0), (.int x1)] 6 = mkF m 0 #[.val (.ref x0), .val (.int x1), .unset, .unset, .unset, .unset] [] := by first | (simp [entryFrame, mkF, argsToLocals, Value.category]; done) | rfl
def Q_am20_1 (Z : State) (cs_ : Int32) (un_ : Value) (sn_ : Value) (ad1 : Addr) (iv1 : Int32) (ad2 : Addr) (ls1 : List Value) (kc2 : ClassId) (h0 : Heap) (n0 : Nat) (v : Option Value) (h : Heap) (L : List Loc) : Prop := v = some (.int (34 : Int32)) ∧ Fr n0 L ∧ h = h0
set_option maxRecDepth 65536 in
set_option maxHeartbeats 40000000 in
theorem am20_1 (l : Launch) (Z : State) (a0 : Array Value) (hw : ∀ d ∈ tables_1, d.before a0 Z = true) (ws : List Jvm.Cond) (cs_ : Int32) (un_ : Value) (sn_ : Value) (HW : Wd Z cs_ un_ sn_) (ad1 : Addr) (iv1 : Int32) (ad2 : Addr) (ls1 : List Value) (kc2 : ClassId) (h0 : Heap) (n0 : Nat) (Ol : Old Z n0 h0) (HF_ad1_AbstractStringBuilder_value : Fld Z h0 ad1 "java/lang/AbstractStringBuilder" "value" "[B" (.ref ad2)) (HF_ad1_AbstractStringBuilder_coder : Fld Z h0 ad1 "java/lang/AbstractStringBuilder" "coder" "B" (.int (0 : Int32))) (HV_ad2 : Arv Z h0 ad2 kc2 .byte (16 : Int32) ls1 (.int (0 : Int32))) (as0 : (iv1 - (16 : Int32)) < (18 : Int32)) :
    MetFree l y_20 (head1 (Jvm.Cond.code y_20 jdk_68_method_10_code 6 (some .int) :: ws) (rm 2 0 0 29)) (fun a_ U_ => a_ = #[(.ref ad1), (.int iv1)] ∧ Z.Warmed39 U_.vm ∧ U_.heap = h0) (fun _ _ _ _ _ => True) (fun _ U_ o_ V_ => ∃ v_ L_, o_ = .returned v_ ∧ Q_am20_1 Z cs_ un_ sn_ ad1 iv1 ad2 ls1 kc2 h0 n0 v_ V_.heap L_ ∧ FrameEnd U_ o_ V_ L_ (rm 2 0 0 29).cells (rm 2 0 0 29).slots) := by
  refine MetFree.of_bodySF (plainFor_of_name pn_3) hisR ?_
  intro p e s m args below meth c s₁ Bd hml0 hP hK
  obtain ⟨rfl, hZ, hh⟩ := hP
  have hx := Bd.exec
  have hby := Bd.bytes
  have hml : c.maxLocals = 6 := hml0
  have hown : s.vm.findClass "java/lang/AbstractStringBuilder" = some m.cls := findClass_of_methodNamed Bd.named
  have hnm := (name_of_methodNamed Bd.named Bd.method).1
  have X0 : Stand p l e (rm 2 0 0 29) s m #[(.ref ad1), (.int iv1)] below meth c s₁ [] 0 0 := Stand.of_body Bd
  have e0 : s₁.heap = h0 := by rw [← hh, Bd.state]; rfl
  have N0 := Fr.nil n0
  have kp0 := Keep.refl h0 []
  show Go p e below (Fin1 s below (Q_am20_1 Z cs_ un_ sn_ ad1 iv1 ad2 ls1 kc2 h0 n0) (rm 2 0 0 29).cells (rm 2 0 0 29).slots) _
  refine Go.step (fun t_ k_ => castTop (ef_am20_1 m ad1 iv1) k_) ?_
  obtain ⟨S_cs, N_cs, S_un, R_un, S_sn, R_sn⟩ := id HW
  show Go p e below _ (s₁.setTop (mkF m 0 #[.val (.ref ad1), .val (.int iv1), .unset, .unset, .unset, .unset] []))
  refine gs.aloadN X0.here hx (hb hby d20_0) rfl rfl ?_
  refine gs.getF X0 hx hZ hown (wd hw 61 rfl) Via.refl e0 HF_ad1_AbstractStringBuilder_value (hb hby d20_1) fun T1 X1 e1 => ?_
  obtain ⟨cl2, Ar2, -, Sz2, Ng2, -, -⟩ := id HV_ad2
  refine Go.fin (fun t_ k_ => X1.arraylength hx (by rw [e1]; exact Ar2.1) (State.isArrayOf_alike hZ.alike Ar2.2.1) (g := mkF m 4 _ _) rfl rfl (hb hby d20_4) _ k_) ?_
  rw [len_of Sz2 Ng2]
  show Go p e below _ (T1.setTop (mkF m 5 _ [(.int (16 : Int32))]))
  refine gs.istoreN X1.here hx (hb hby d20_5) (l' := #[.val (.ref ad1), .val (.int iv1), .val (.int (16 : Int32)), .unset, .unset, .unset]) rfl ?_
  refine gs.iloadN X1.here hx (hb hby d20_6) rfl ?_
  refine gs.aloadN X1.here hx (hb hby d20_7) rfl rfl ?_
  refine gs.getF X1 hx hZ hown (wd hw 63 rfl) Via.refl e1 HF_ad1_AbstractStringBuilder_coder (hb hby d20_8) fun T3 X3 e3 => ?_
  refine Go.fin (fun t_ k_ => XS.ishl X3.here hx rfl (hb hby d20_11) rfl k_) ?_
  show Go p e below _ (T3.setTop (mkF m 12 _ [(.int (iv1 <<< ((0 : Int32) &&& 31)))]))
  rw [shl0 iv1]
  refine gs.istoreN X3.here hx (hb hby d20_12) (l' := #[.val (.ref ad1), .val (.int iv1), .val (.int (16 : Int32)), .val (.int iv1), .unset, .unset]) rfl ?_
  refine gs.iloadN X3.here hx (hb hby d20_13) rfl ?_
  refine gs.iloadN X3.here hx (hb hby d20_14) rfl ?_
  refine gs.isub X3.here hx (hb hby d20_15) ?_
  refine gs.istore X3.here hx (hb hby d20_16) (l' := #[.val (.ref ad1), .val (.int iv1), .val (.int (16 : Int32)), .val (.int iv1), .val (.int (iv1 - (16 : Int32))), .unset]) rfl ?_
  refine gs.iloadN X3.here hx (hb hby d20_18) rfl ?_
  refine gs.iload X3.here hx (hb hby d20_19) rfl ?_
  refine gs.iloadN X3.here hx (hb hby d20_21) rfl ?_
  refine gs.iconst 2 X3.here hx (hb hby d20_22) rfl ?_
  refine gs.aloadN X3.here hx (hb hby d20_23) rfl rfl ?_
  show Go p e below _ (T3.setTop (mkF m 24 _ _))
  refine gs.getF X3 hx hZ hown (wd hw 63 rfl) Via.refl e3 HF_ad1_AbstractStringBuilder_coder (hb hby d20_24) fun T4 X4 e4 => ?_
  refine Go.fin (fun t_ k_ => XS.ishl X4.here hx rfl (hb hby d20_27) rfl k_) ?_
  show Go p e below _ (T4.setTop (mkF m 28 _ [(.int ((2 : Int32) <<< ((0 : Int32) &&& 31))), (.int (16 : Int32)), (.int (iv1 - (16 : Int32))), (.int (16 : Int32))]))
  rw [show ((2 : Int32) <<< ((0 : Int32) &&& 31)) = (2 : Int32) from by decide]
  refine gs.iadd X4.here hx (hb hby d20_28) ?_
  rw [show ((16 : Int32) + (2 : Int32)) = (18 : Int32) from by decide]
  refine gs.stat 0 X4 hx hZ hown (am21_1 l Z a0 hw [] cs_ un_ sn_ HW ((iv1 - (16 : Int32))) h0 n0 Ol as0) (wd hw 121 rfl) (wd hw 120 rfl) (wd hw 118 rfl) (wd hw 119 rfl) (by decide) (by decide) (by decide) (by rw [hml]; rfl) [(.int (16 : Int32)), (.int (iv1 - (16 : Int32))), (.int (18 : Int32))] (lenOf pd_18 rfl) rfl (Nat.le_of_eq rfl) (hb hby d20_29) rfl e4 (by decide) (by decide) fun T5 Lc5 v5 X5 hQ5 => ?_
  obtain ⟨rfl, Nq5, e5⟩ := hQ5
  have N5 := Fr.app N0 Nq5
  show Go p e below _ (T5.setTop (mkF m 32 _ [(.int (34 : Int32))]))
  refine gs.istore X5.here hx (hb hby d20_32) (l' := #[.val (.ref ad1), .val (.int iv1), .val (.int (16 : Int32)), .val (.int iv1), .val (.int (iv1 - (16 : Int32))), .val (.int (34 : Int32))]) rfl ?_
  refine gs.iload X5.here hx (hb hby d20_34) rfl ?_
  refine Go.fin (fun t_ k_ => X5.ldcInt hx hown (mvT hZ (wd hw 127 rfl)) (g := mkF m 36 _ _) rfl (hb hby d20_36) _ k_) ?_
  show Go p e below _ (T5.setTop (mkF m 38 _ [(.int (2147483647 : Int32)), (.int (34 : Int32))]))
  have hc38 : ¬ ((34 : Int32) = (2147483647 : Int32)) := by decide
  refine gs.icmpYes 51 X5.here hx (hb hby d20_38) (feq hc38).2 rfl ?_
  refine gs.iload X5.here hx (hb hby d20_51) rfl ?_
  refine gs.aloadN X5.here hx (hb hby d20_53) rfl rfl ?_
  refine gs.getF X5 hx hZ hown (wd hw 63 rfl) Via.refl e5 HF_ad1_AbstractStringBuilder_coder (hb hby d20_54) fun T6 X6 e6 => ?_
  refine Go.fin (fun t_ k_ => XS.ishr X6.here hx rfl (hb hby d20_57) rfl k_) ?_
  show Go p e below _ (T6.setTop (mkF m 58 _ [(.int ((34 : Int32) >>> ((0 : Int32) &&& 31)))]))
  rw [show ((34 : Int32) >>> ((0 : Int32) &&& 31)) = (34 : Int32) from by decide]
  refine Go.retI X6 hx Bd.returns Bd.notSynchronized (hb hby d20_58) (by rw [e6]; exact ⟨rfl, N5, rfl⟩) (by decide) (by decide)
theorem pd_19 : parseMethodDescriptor "(I)I" = some ⟨[.int], some .int⟩ := by decide +kernel
theorem d16_27 : decode c_16 27 = .ok (.aload_n 0, 1) := by decide +kernel
theorem d16_28 : decode c_16 28 = .ok (.getfield 22, 3) := by decide +kernel
theorem d16_31 : decode c_16 31 = .ok (.ishl, 1) := by decide +kernel
theorem d16_32 : decode c_16 32 = .ok (.invokestatic 108, 3) := by decide +kernel
theorem d23_0 : decode c_23 0 = .ok (.iload_n 1, 1) := by decide +kernel
theorem d23_1 : decode c_23 1 = .ok (.aload_n 0, 1) := by decide +kernel
theorem d23_2 : decode c_23 2 = .ok (.arraylength, 1) := by decide +kernel
theorem d23_3 : decode c_23 3 = .ok (.if_icmp .ne 11, 3) := by decide +kernel
theorem d23_14 : decode c_23 14 = .ok (.iload_n 1, 1) := by decide +kernel
theorem d23_15 : decode c_23 15 = .ok (.newarray .byte, 2) := by decide +kernel
theorem d23_17 : decode c_23 17 = .ok (.astore_n 2, 1) := by decide +kernel
theorem d23_18 : decode c_23 18 = .ok (.aload_n 0, 1) := by decide +kernel
theorem d23_19 : decode c_23 19 = .ok (.iconst 0, 1) := by decide +kernel
theorem d23_20 : decode c_23 20 = .ok (.aload_n 2, 1) := by decide +kernel
theorem d23_21 : decode c_23 21 = .ok (.iconst 0, 1) := by decide +kernel
theorem d23_22 : decode c_23 22 = .ok (.aload_n 0, 1) := by decide +kernel
theorem d23_23 : decode c_23 23 = .ok (.arraylength, 1) := by decide +kernel
theorem d23_24 : decode c_23 24 = .ok (.iload_n 1, 1) := by decide +kernel
theorem d23_25 : decode c_23 25 = .ok (.invokestatic 304, 3) := by decide +kernel
theorem d24_0 : decode c_24 0 = .ok (.iload_n 0, 1) := by decide +kernel
theorem d24_1 : decode c_24 1 = .ok (.iload_n 1, 1) := by decide +kernel
theorem d24_2 : decode c_24 2 = .ok (.if_icmp .gt 7, 3) := by decide +kernel
theorem d24_5 : decode c_24 5 = .ok (.iload_n 0, 1) := by decide +kernel
theorem d24_6 : decode c_24 6 = .ok (.goto 4, 3) := by decide +kernel
theorem d24_10 : decode c_24 10 = .ok (.ireturn, 1) := by decide +kernel
theorem ef_am24_1 (m : MethodId) (x0 : Int32) (x1 : Int32)  : entryFrame m #[(.int x0), (.int x1)] 2 = mkF m 0 #[.val (.int x0), .val (.int x1)] [] := by first | (simp [entryFrame, mkF, argsToLocals, Value.category]; done) | rfl
def Q_am24_1 (Z : State) (cs_ : Int32) (un_ : Value) (sn_ : Value)  (h0 : Heap) (n0 : Nat) (v : Option Value) (h : Heap) (L : List Loc) : Prop := v = some (.int (16 : Int32)) ∧ Fr n0 L ∧ h = h0
set_option maxRecDepth 65536 in
set_option maxHeartbeats 40000000 in
theorem am24_1 (l : Launch) (Z : State) (a0 : Array Value) (hw : ∀ d ∈ tables_1, d.before a0 Z = true) (ws : List Jvm.Cond) (cs_ : Int32) (un_ : Value) (sn_ : Value) (HW : Wd Z cs_ un_ sn_)  (h0 : Heap) (n0 : Nat) (Ol : Old Z n0 h0)  :
    MetFree l y_24 (head1 (Jvm.Cond.code y_24 jdk_29_method_69_code 2 (some .int) :: ws) (rm 0 0 0 0)) (fun a_ U_ => a_ = #[(.int (16 : Int32)), (.int (34 : Int32))] ∧ Z.Warmed39 U_.vm ∧ U_.heap = h0) (fun _ _ _ _ _ => True) (fun _ U_ o_ V_ => ∃ v_ L_, o_ = .returned v_ ∧ Q_am24_1 Z cs_ un_ sn_  h0 n0 v_ V_.heap L_ ∧ FrameEnd U_ o_ V_ L_ (rm 0 0 0 0).cells (rm 0 0 0 0).slots) := by
  refine MetFree.of_bodySF (Jvm.Free.JP.mathPlain rfl (by decide +kernel)) hisR ?_
  intro p e s m args below meth c s₁ Bd hml0 hP hK
  obtain ⟨rfl, hZ, hh⟩ := hP
  have hx := Bd.exec
  have hby := Bd.bytes
  have hml : c.maxLocals = 2 := hml0
  have hown : s.vm.findClass "java/lang/Math" = some m.cls := findClass_of_methodNamed Bd.named
  have hnm := (name_of_methodNamed Bd.named Bd.method).1
  have X0 : Stand p l e (rm 0 0 0 0) s m #[(.int (16 : Int32)), (.int (34 : Int32))] below meth c s₁ [] 0 0 := Stand.of_body Bd
  have e0 : s₁.heap = h0 := by rw [← hh, Bd.state]; rfl
  have N0 := Fr.nil n0
  have kp0 := Keep.refl h0 []
  show Go p e below (Fin1 s below (Q_am24_1 Z cs_ un_ sn_  h0 n0) (rm 0 0 0 0).cells (rm 0 0 0 0).slots) _
  refine Go.step (fun t_ k_ => castTop (ef_am24_1 m (16 : Int32) (34 : Int32)) k_) ?_
  obtain ⟨S_cs, N_cs, S_un, R_un, S_sn, R_sn⟩ := id HW
  show Go p e below _ (s₁.setTop (mkF m 0 #[.val (.int (16 : Int32)), .val (.int (34 : Int32))] []))
  refine gs.iloadN X0.here hx (hb hby d24_0) rfl ?_
  refine gs.iloadN X0.here hx (hb hby d24_1) rfl ?_
  have hc2 : ¬ ((34 : Int32) < (16 : Int32)) := by decide
  refine gs.icmpNo X0.here hx (hb hby d24_2) (flt hc2).2.2.1 ?_
  refine gs.iloadN X0.here hx (hb hby d24_5) rfl ?_
  refine gs.goto 10 X0.here hx (hb hby d24_6) rfl ?_
  refine Go.retI X0 hx Bd.returns Bd.notSynchronized (hb hby d24_10) (by rw [e0]; exact ⟨rfl, N0, rfl⟩) (by decide) (by decide)
theorem d23_28 : decode c_23 28 = .ok (.invokestatic 150, 3) := by decide +kernel
theorem d23_31 : decode c_23 31 = .ok (.aload_n 2, 1) := by decide +kernel
theorem d23_32 : decode c_23 32 = .ok (.areturn, 1) := by decide +kernel
theorem pn_6 : plainName "java/util/Arrays" = true := by first | (simp [plainName, overriddenIn]; done) | decide +kernel
theorem ef_am23_1 (m : MethodId) (x0 : Addr) (x1 : Int32)  : entryFrame m #[(.ref x0), (.int x1)] 3 = mkF m 0 #[.val (.ref x0), .val (.int x1), .unset] [] := by first | (simp [entryFrame, mkF, argsToLocals, Value.category]; done) | rfl
def Q_am23_1 (Z : State) (cs_ : Int32) (un_ : Value) (sn_ : Value) (ad1 : Addr) (ls1 : List Value) (kc2 : ClassId) (h0 : Heap) (n0 : Nat) (v : Option Value) (h : Heap) (L : List Loc) : Prop := ∃ fr1 : Addr, ∃ kx1 : ClassId, v = some (.ref fr1) ∧ h0.size ≤ fr1 ∧ Fr n0 L ∧ Keep h0 h [] ∧ (((cpL (List.replicate ((34 : Int32)).toNatClampNeg (.int (0 : Int32))) ls1 (0 : Int32) (0 : Int32) (16 : Int32) (.int (0 : Int32))) : List Value).length = ((34 : Int32)).toNatClampNeg) ∧ (Arv Z h fr1 kx1 .byte (34 : Int32) (cpL (List.replicate ((34 : Int32)).toNatClampNeg (.int (0 : Int32))) ls1 (0 : Int32) (0 : Int32) (16 : Int32) (.int (0 : Int32))) (.int (0 : Int32)))
set_option maxRecDepth 65536 in
set_option maxHeartbeats 40000000 in
theorem am23_1 (l : Launch) (Z : State) (a0 : Array Value) (hw : ∀ d ∈ tables_1, d.before a0 Z = true) (ws : List Jvm.Cond) (cs_ : Int32) (un_ : Value) (sn_ : Value) (HW : Wd Z cs_ un_ sn_) (ad1 : Addr) (ls1 : List Value) (kc2 : ClassId) (h0 : Heap) (n0 : Nat) (Ol : Old Z n0 h0) (HV_ad1 : Arv Z h0 ad1 kc2 .byte (16 : Int32) ls1 (.int (0 : Int32))) :
    MetFree l y_23 (head1 (Jvm.Cond.code y_23 jdk_65_method_121_code 3 (some (.array .byte)) :: ws) (rm 1 1 34 18)) (fun a_ U_ => a_ = #[(.ref ad1), (.int (34 : Int32))] ∧ Z.Warmed39 U_.vm ∧ U_.heap = h0) (fun _ _ _ _ _ => True) (fun _ U_ o_ V_ => ∃ v_ L_, o_ = .returned v_ ∧ Q_am23_1 Z cs_ un_ sn_ ad1 ls1 kc2 h0 n0 v_ V_.heap L_ ∧ FrameEnd U_ o_ V_ L_ (rm 1 1 34 18).cells (rm 1 1 34 18).slots) := by
  refine MetFree.of_bodySF (plainFor_of_name pn_6) hisR ?_
  intro p e s m args below meth c s₁ Bd hml0 hP hK
  obtain ⟨rfl, hZ, hh⟩ := hP
  have hx := Bd.exec
  have hby := Bd.bytes
  have hml : c.maxLocals = 3 := hml0
  have hown : s.vm.findClass "java/util/Arrays" = some m.cls := findClass_of_methodNamed Bd.named
  have hnm := (name_of_methodNamed Bd.named Bd.method).1
  have X0 : Stand p l e (rm 1 1 34 18) s m #[(.ref ad1), (.int (34 : Int32))] below meth c s₁ [] 0 0 := Stand.of_body Bd
  have e0 : s₁.heap = h0 := by rw [← hh, Bd.state]; rfl
  have N0 := Fr.nil n0
  have kp0 := Keep.refl h0 []
  show Go p e below (Fin1 s below (Q_am23_1 Z cs_ un_ sn_ ad1 ls1 kc2 h0 n0) (rm 1 1 34 18).cells (rm 1 1 34 18).slots) _
  refine Go.step (fun t_ k_ => castTop (ef_am23_1 m ad1 (34 : Int32)) k_) ?_
  obtain ⟨S_cs, N_cs, S_un, R_un, S_sn, R_sn⟩ := id HW
  show Go p e below _ (s₁.setTop (mkF m 0 #[.val (.ref ad1), .val (.int (34 : Int32)), .unset] []))
  refine gs.iloadN X0.here hx (hb hby d23_0) rfl ?_
  refine gs.aloadN X0.here hx (hb hby d23_1) rfl rfl ?_
  obtain ⟨cl1, Ar1, -, Sz1, Ng1, -, -⟩ := id HV_ad1
  refine Go.fin (fun t_ k_ => X0.arraylength hx (by rw [e0]; exact Ar1.1) (State.isArrayOf_alike hZ.alike Ar1.2.1) (g := mkF m 2 _ _) rfl rfl (hb hby d23_2) _ k_) ?_
  rw [len_of Sz1 Ng1]
  show Go p e below _ (s₁.setTop (mkF m 3 _ [(.int (16 : Int32)), (.int (34 : Int32))]))
  have hc3 : ¬ ((34 : Int32) = (16 : Int32)) := by decide
  refine gs.icmpYes 14 X0.here hx (hb hby d23_3) (feq hc3).2 rfl ?_
  refine gs.iloadN X0.here hx (hb hby d23_14) rfl ?_
  obtain ⟨T2, h2, k2, X2, e2, E2, A2, st2⟩ := newP X0 hx hZ (wd hw 19 rfl) e0 (g := (mkF m 15 #[.val (.ref ad1), .val (.int (34 : Int32)), .unset] [(.int (34 : Int32))])) rfl (hb hby d23_15) rfl (by decide) (cap := 34) (by decide) (by decide) (by decide) (by decide)
  obtain ⟨b2, g2⟩ : ∃ z, z = h0.size := ⟨_, rfl⟩
  rw [← g2] at A2 st2
  have nn_b2 : n0 ≤ b2 := Nat.le_trans (old_z0 Ol) (Nat.le_of_eq g2.symm)
  have sz_b2 : h0.size ≤ b2 := Nat.le_trans kp0.1 (Nat.le_of_eq g2.symm)
  have old2 := Ol.ext E2
  have kp2 := kp0.ext E2
  have V2 : Arv Z h2 b2 k2 .byte (34 : Int32) (List.replicate ((34 : Int32)).toNatClampNeg (.int (0 : Int32))) (.int (0 : Int32)) := (Arv.new A2 (by decide)).pad (pad_rep [] (.int (0 : Int32)) ((34 : Int32)).toNatClampNeg)
  refine Go.fin st2 ?_
  show Go p e below _ (T2.setTop (mkF m 17 _ [(.ref b2)]))
  refine gs.astoreN X2.here hx (hb hby d23_17) rfl (l' := #[.val (.ref ad1), .val (.int (34 : Int32)), .val (.ref b2)]) rfl ?_
  refine gs.aloadN X2.here hx (hb hby d23_18) rfl rfl ?_
  refine gs.iconst 0 X2.here hx (hb hby d23_19) rfl ?_
  refine gs.aloadN X2.here hx (hb hby d23_20) rfl rfl ?_
  refine gs.iconst 0 X2.here hx (hb hby d23_21) rfl ?_
  refine gs.aloadN X2.here hx (hb hby d23_22) rfl rfl ?_
  have f4 := (HV_ad1.ext E2)
  obtain ⟨cl3, Ar3, -, Sz3, Ng3, -, -⟩ := id f4
  refine Go.fin (fun t_ k_ => X2.arraylength hx (by rw [e2]; exact Ar3.1) (State.isArrayOf_alike hZ.alike Ar3.2.1) (g := mkF m 23 _ _) rfl rfl (hb hby d23_23) _ k_) ?_
  rw [len_of Sz3 Ng3]
  show Go p e below _ (T2.setTop (mkF m 24 _ [(.int (16 : Int32)), (.int (0 : Int32)), (.ref b2), (.int (0 : Int32)), (.ref ad1)]))
  refine gs.iloadN X2.here hx (hb hby d23_24) rfl ?_
  refine gs.stat 4 X2 hx hZ hown (am24_1 l Z a0 hw [] cs_ un_ sn_ HW  h2 n0 old2 ) (wd hw 134 rfl) (wd hw 124 rfl) (wd hw 132 rfl) (wd hw 133 rfl) (by decide) (by decide) (by decide) (by rw [hml]; rfl) [(.int (16 : Int32)), (.int (34 : Int32))] (lenOf pd_17 rfl) rfl (Nat.le_of_eq rfl) (hb hby d23_25) rfl e2 (by decide) (by decide) fun T5 Lc5 v5 X5 hQ5 => ?_
  obtain ⟨rfl, Nq5, e5⟩ := hQ5
  have N5 := Fr.app N0 Nq5
  show Go p e below _ (T5.setTop (mkF m 28 _ [(.int (16 : Int32)), (.int (0 : Int32)), (.ref b2), (.int (0 : Int32)), (.ref ad1)]))
  obtain ⟨T6, h6, L6, X6, e6, N6, K6, B6, st6⟩ := cpA X5 hx hZ hown (wd hw 135 rfl) (wd hw 111 rfl) (wd hw 109 rfl) (wd hw 110 rfl) e5 f4 V2 (us := ((List.range ((16 : Int32)).toNatClampNeg).map fun i => (ls1).getD (((0 : Int32)).toNatClampNeg + i) (.int (0 : Int32)))) (Or.inl ⟨rfl, rfl⟩) (by decide) (by decide) (by decide) (by decide) (by decide) rfl (Nat.le_trans (by decide) (Nat.le_of_eq (Eq.symm (rep_len (34 : Int32) (.int (0 : Int32)))))) N5 nn_b2 (g := (mkF m 28 #[.val (.ref ad1), .val (.int (34 : Int32)), .val (.ref b2)] [(.int (16 : Int32)), (.int (0 : Int32)), (.ref b2), (.int (0 : Int32)), (.ref ad1)])) rfl (by rw [hml]; rfl) (rest := []) rfl (hb hby d23_28) (by decide) (W := 0) (by show 2 * 0 + _ ≤ _; exact Nat.le_of_eq rfl) (by decide)
  have old6 := old2.keep K6 (allS nn_b2 all0)
  have kp6 := kp2.trans K6 (allS (Or.inr sz_b2) all0)
  have V6 : Arv Z h6 b2 k2 .byte (34 : Int32) (cpL (List.replicate ((34 : Int32)).toNatClampNeg (.int (0 : Int32))) ls1 (0 : Int32) (0 : Int32) (16 : Int32) (.int (0 : Int32))) (.int (0 : Int32)) := B6
  refine Go.step st6 ?_
  show Go p e below _ (T6.setTop (mkF m 31 #[.val (.ref ad1), .val (.int (34 : Int32)), .val (.ref b2)] []))
  refine gs.aloadN X6.here hx (hb hby d23_31) rfl rfl ?_
  refine Go.retR X6 hx Bd.returns rfl rfl Bd.notSynchronized (hb hby d23_32) (by rw [e6]; exact ⟨b2, k2, rfl, sz_b2, N6, kp6, (cpL_len (rep_len (34 : Int32) (.int (0 : Int32))) (by decide)), V6⟩) (by decide) (by decide)
theorem pd_20 : parseMethodDescriptor "([BI)[B" = some ⟨[(.array .byte), .int], some (.array .byte)⟩ := by decide +kernel
theorem d16_35 : decode c_16 35 = .ok (.putfield 15, 3) := by decide +kernel
def Q_am16_2 (Z : State) (cs_ : Int32) (un_ : Value) (sn_ : Value) (ad1 : Addr) (iv1 : Int32) (ad2 : Addr) (iv2 : Int32) (ls1 : List Value) (kc2 : ClassId) (h0 : Heap) (n0 : Nat) (v : Option Value) (h : Heap) (L : List Loc) : Prop := ∃ fr1 : Addr, ∃ kx1 : ClassId, v = none ∧ h0.size ≤ fr1 ∧ Fr n0 L ∧ Keep h0 h [ad1] ∧ (Exa Z h ad1 "java/lang/StringBuilder") ∧ (Fld Z h ad1 "java/lang/AbstractStringBuilder" "coder" "B" (.int (0 : Int32))) ∧ (Fld Z h ad1 "java/lang/AbstractStringBuilder" "count" "I" (.int iv2)) ∧ (Fld Z h ad1 "java/lang/AbstractStringBuilder" "value" "[B" (.ref fr1)) ∧ (((cpL (List.replicate ((34 : Int32)).toNatClampNeg (.int (0 : Int32))) ls1 (0 : Int32) (0 : Int32) (16 : Int32) (.int (0 : Int32))) : List Value).length = ((34 : Int32)).toNatClampNeg) ∧ (Arv Z h fr1 kx1 .byte (34 : Int32) (cpL (List.replicate ((34 : Int32)).toNatClampNeg (.int (0 : Int32))) ls1 (0 : Int32) (0 : Int32) (16 : Int32) (.int (0 : Int32))) (.int (0 : Int32)))
set_option maxRecDepth 65536 in
set_option maxHeartbeats 40000000 in
theorem am16_2 (l : Launch) (Z : State) (a0 : Array Value) (hw : ∀ d ∈ tables_1, d.before a0 Z = true) (ws : List Jvm.Cond) (cs_ : Int32) (un_ : Value) (sn_ : Value) (HW : Wd Z cs_ un_ sn_) (ad1 : Addr) (iv1 : Int32) (ad2 : Addr) (iv2 : Int32) (ls1 : List Value) (kc2 : ClassId) (h0 : Heap) (n0 : Nat) (Ol : Old Z n0 h0) (HE_ad1 : Exa Z h0 ad1 "java/lang/StringBuilder") (HF_ad1_AbstractStringBuilder_value : Fld Z h0 ad1 "java/lang/AbstractStringBuilder" "value" "[B" (.ref ad2)) (HF_ad1_AbstractStringBuilder_coder : Fld Z h0 ad1 "java/lang/AbstractStringBuilder" "coder" "B" (.int (0 : Int32))) (HF_ad1_AbstractStringBuilder_count : Fld Z h0 ad1 "java/lang/AbstractStringBuilder" "count" "I" (.int iv2)) (HV_ad2 : Arv Z h0 ad2 kc2 .byte (16 : Int32) ls1 (.int (0 : Int32))) (nn_ad1 : n0 ≤ ad1) (as0 : (0 : Int32) < (iv1 - (16 : Int32))) (as1 : (iv1 - (16 : Int32)) < (18 : Int32)) :
    MetFree l y_16 (head1 (Jvm.Cond.code y_16 jdk_68_method_9_code 3 none :: ws) (rm 3 1 34 48)) (fun a_ U_ => a_ = #[(.ref ad1), (.int iv1)] ∧ Z.Warmed39 U_.vm ∧ U_.heap = h0) (fun _ _ _ _ _ => True) (fun _ U_ o_ V_ => ∃ v_ L_, o_ = .returned v_ ∧ Q_am16_2 Z cs_ un_ sn_ ad1 iv1 ad2 iv2 ls1 kc2 h0 n0 v_ V_.heap L_ ∧ FrameEnd U_ o_ V_ L_ (rm 3 1 34 48).cells (rm 3 1 34 48).slots) := by
  refine MetFree.of_bodySF (plainFor_of_name pn_3) hisR ?_
  intro p e s m args below meth c s₁ Bd hml0 hP hK
  obtain ⟨rfl, hZ, hh⟩ := hP
  have hx := Bd.exec
  have hby := Bd.bytes
  have hml : c.maxLocals = 3 := hml0
  have hown : s.vm.findClass "java/lang/AbstractStringBuilder" = some m.cls := findClass_of_methodNamed Bd.named
  have hnm := (name_of_methodNamed Bd.named Bd.method).1
  have X0 : Stand p l e (rm 3 1 34 48) s m #[(.ref ad1), (.int iv1)] below meth c s₁ [] 0 0 := Stand.of_body Bd
  have e0 : s₁.heap = h0 := by rw [← hh, Bd.state]; rfl
  have N0 := Fr.nil n0
  have kp0 := Keep.refl h0 [ad1]
  show Go p e below (Fin1 s below (Q_am16_2 Z cs_ un_ sn_ ad1 iv1 ad2 iv2 ls1 kc2 h0 n0) (rm 3 1 34 48).cells (rm 3 1 34 48).slots) _
  refine Go.step (fun t_ k_ => castTop (ef_am16_1 m ad1 iv1) k_) ?_
  obtain ⟨S_cs, N_cs, S_un, R_un, S_sn, R_sn⟩ := id HW
  show Go p e below _ (s₁.setTop (mkF m 0 #[.val (.ref ad1), .val (.int iv1), .unset] []))
  refine gs.aloadN X0.here hx (hb hby d16_0) rfl rfl ?_
  refine gs.getF X0 hx hZ hown (wd hw 61 rfl) Via.refl e0 HF_ad1_AbstractStringBuilder_value (hb hby d16_1) fun T1 X1 e1 => ?_
  obtain ⟨cl2, Ar2, -, Sz2, Ng2, -, -⟩ := id HV_ad2
  refine Go.fin (fun t_ k_ => X1.arraylength hx (by rw [e1]; exact Ar2.1) (State.isArrayOf_alike hZ.alike Ar2.2.1) (g := mkF m 4 _ _) rfl rfl (hb hby d16_4) _ k_) ?_
  rw [len_of Sz2 Ng2]
  show Go p e below _ (T1.setTop (mkF m 5 _ [(.int (16 : Int32))]))
  refine gs.aloadN X1.here hx (hb hby d16_5) rfl rfl ?_
  refine gs.getF X1 hx hZ hown (wd hw 63 rfl) Via.refl e1 HF_ad1_AbstractStringBuilder_coder (hb hby d16_6) fun T3 X3 e3 => ?_
  refine Go.fin (fun t_ k_ => XS.ishr X3.here hx rfl (hb hby d16_9) rfl k_) ?_
  show Go p e below _ (T3.setTop (mkF m 10 _ [(.int ((16 : Int32) >>> ((0 : Int32) &&& 31)))]))
  rw [show ((16 : Int32) >>> ((0 : Int32) &&& 31)) = (16 : Int32) from by decide]
  refine gs.istoreN X3.here hx (hb hby d16_10) (l' := #[.val (.ref ad1), .val (.int iv1), .val (.int (16 : Int32))]) rfl ?_
  refine gs.iloadN X3.here hx (hb hby d16_11) rfl ?_
  refine gs.iloadN X3.here hx (hb hby d16_12) rfl ?_
  refine gs.isub X3.here hx (hb hby d16_13) ?_
  have hc14 : (0 : Int32) < (iv1 - (16 : Int32)) := as0
  refine gs.ifNo X3.here hx (hb hby d16_14) ((if0 _ _).trans (tlt hc14).2.2.2) ?_
  refine gs.aloadN X3.here hx (hb hby d16_17) rfl rfl ?_
  refine gs.aloadN X3.here hx (hb hby d16_18) rfl rfl ?_
  refine gs.getF X3 hx hZ hown (wd hw 61 rfl) Via.refl e3 HF_ad1_AbstractStringBuilder_value (hb hby d16_19) fun T4 X4 e4 => ?_
  refine gs.aloadN X4.here hx (hb hby d16_22) rfl rfl ?_
  refine gs.iloadN X4.here hx (hb hby d16_23) rfl ?_
  show Go p e below _ (T4.setTop (mkF m 24 _ _))
  refine gs.priv 2 X4 hx hZ hown (am20_1 l Z a0 hw [] cs_ un_ sn_ HW (ad1) (iv1) (ad2) (ls1) (kc2) h0 n0 Ol HF_ad1_AbstractStringBuilder_value HF_ad1_AbstractStringBuilder_coder HV_ad2 as1) (wd hw 117 rfl) (wd hw 57 rfl) (wd hw 113 rfl) (wd hw 114 rfl) (sel_priv2 hZ (wd hw 116 rfl) (wd hw 115 rfl) (wd hw 114 rfl) (by decide)) (wd hw 115 rfl) (by decide) HE_ad1 (by decide) (by decide) (by rw [hml]; rfl) [(.int iv1)] (lenOf pd_19 rfl) rfl (Nat.le_of_eq rfl) (hb hby d16_24) rfl e4 (by decide) (by decide) fun T5 Lc5 v5 X5 hQ5 => ?_
  obtain ⟨rfl, Nq5, e5⟩ := hQ5
  have N5 := Fr.app N0 Nq5
  show Go p e below _ (T5.setTop (mkF m 27 _ [(.int (34 : Int32)), (.ref ad2), (.ref ad1)]))
  refine gs.aloadN X5.here hx (hb hby d16_27) rfl rfl ?_
  refine gs.getF X5 hx hZ hown (wd hw 63 rfl) Via.refl e5 HF_ad1_AbstractStringBuilder_coder (hb hby d16_28) fun T6 X6 e6 => ?_
  refine Go.fin (fun t_ k_ => XS.ishl X6.here hx rfl (hb hby d16_31) rfl k_) ?_
  show Go p e below _ (T6.setTop (mkF m 32 _ [(.int ((34 : Int32) <<< ((0 : Int32) &&& 31))), (.ref ad2), (.ref ad1)]))
  rw [show ((34 : Int32) <<< ((0 : Int32) &&& 31)) = (34 : Int32) from by decide]
  refine gs.stat 1 X6 hx hZ hown (am23_1 l Z a0 hw [] cs_ un_ sn_ HW (ad2) (ls1) (kc2) h0 n0 Ol HV_ad2) (wd hw 131 rfl) (wd hw 130 rfl) (wd hw 128 rfl) (wd hw 129 rfl) (by decide) (by decide) (by decide) (by rw [hml]; rfl) [(.ref ad2), (.int (34 : Int32))] (lenOf pd_20 rfl) rfl (Nat.le_of_eq rfl) (hb hby d16_32) rfl e6 (by decide) (by decide) fun T7 Lc7 v7 X7 hQ7 => ?_
  obtain ⟨b7_0, kx7_0, rfl, gb_b7_0, Nq7, K7, p7_0, p7_1⟩ := hQ7
  have nn_b7_0 : n0 ≤ b7_0 := Nat.le_trans (old_z0 Ol) gb_b7_0
  have sz_b7_0 : h0.size ≤ b7_0 := Nat.le_trans kp0.1 gb_b7_0
  have old7 := Ol.keep K7 all0
  have kp7 := kp0.trans K7 all0
  have N7 := Fr.app N5 Nq7
  show Go p e below _ (T7.setTop (mkF m 35 _ [(.ref b7_0), (.ref ad1)]))
  have f8 := (HF_ad1_AbstractStringBuilder_value.keep K7 nin0)
  have f9 := (HE_ad1.keep K7)
  obtain ⟨T10, h10, X10, e10, W10, st10⟩ := putF X7 hx hZ hown (host := "") (Or.inl (wd hw 61 rfl)) Via.refl rfl f8 f9 (Or.inl (wd hw 62 rfl)) (wd hw 48 rfl) (ty := (.array .byte)) (by decide) rfl rfl (g := (mkF m 35 #[.val (.ref ad1), .val (.int iv1), .val (.int (16 : Int32))] [(.ref b7_0), (.ref ad1)])) rfl rfl (hb hby d16_35)
  have N10 := Fr.snoc X10 N7 nn_ad1
  have old10 := old7.wr W10 nn_ad1
  have kp10 := kp7.wr W10 (Or.inl (List.mem_of_getElem? (i := 0) rfl))
  have F10 := f8.same W10
  refine Go.fin st10 ?_
  show Go p e below _ (T10.setTop (mkF m 38 _ []))
  have f11 := (f9.wr W10)
  have f12 := ((HF_ad1_AbstractStringBuilder_coder.keep K7 nin0).other W10 (Or.inr (sn2 hw)))
  have f13 := ((HF_ad1_AbstractStringBuilder_count.keep K7 nin0).other W10 (Or.inr (sn3 hw)))
  have f14 := p7_0
  have ne_ad1_b7_0 : ad1 ≠ b7_0 := Nat.ne_of_lt (Nat.lt_of_lt_of_le HE_ad1.lt gb_b7_0)
  have f15 := (p7_1.other W10 (Ne.symm ne_ad1_b7_0))
  refine Go.retV X10 hx Bd.returns Bd.notSynchronized (hb hby d16_38) (by rw [e10]; exact ⟨b7_0, kx7_0, rfl, sz_b7_0, N10, kp10, f11, f12, f13, F10, f14, f15⟩) (by decide) (by decide)
def Q_am19_2 (Z : State) (cs_ : Int32) (un_ : Value) (sn_ : Value) (ad1 : Addr) (ad2 : Addr) (iv1 : Int32) (ad3 : Addr) (kc1 : ClassId) (ls1 : List Value) (ls2 : List Value) (kc4 : ClassId) (h0 : Heap) (n0 : Nat) (v : Option Value) (h : Heap) (L : List Loc) : Prop := v = none ∧ Fr n0 L ∧ Keep h0 h [ad2] ∧ (((cpL ls2 ls1 (0 : Int32) iv1 (21 : Int32) (.int 0)) : List Value).length = ((34 : Int32)).toNatClampNeg) ∧ (Arv Z h ad2 kc4 .byte (34 : Int32) (cpL ls2 ls1 (0 : Int32) iv1 (21 : Int32) (.int 0)) (.int (0 : Int32)))
set_option maxRecDepth 65536 in
set_option maxHeartbeats 40000000 in
theorem am19_2 (l : Launch) (Z : State) (a0 : Array Value) (hw : ∀ d ∈ tables_1, d.before a0 Z = true) (ws : List Jvm.Cond) (cs_ : Int32) (un_ : Value) (sn_ : Value) (HW : Wd Z cs_ un_ sn_) (ad1 : Addr) (ad2 : Addr) (iv1 : Int32) (ad3 : Addr) (kc1 : ClassId) (ls1 : List Value) (ls2 : List Value) (kc4 : ClassId) (h0 : Heap) (n0 : Nat) (Ol : Old Z n0 h0) (HE_ad1 : Exa Z h0 ad1 "java/lang/String") (HF_ad1_String_coder : Fld Z h0 ad1 "java/lang/String" "coder" "B" (.int (0 : Int32))) (HF_ad1_String_value : Fld Z h0 ad1 "java/lang/String" "value" "[B" (.ref ad3)) (HV_ad3 : Arv Z h0 ad3 kc1 .byte (21 : Int32) ls1 (.int 0)) (HL_ad2 : (ls2 : List Value).length = ((34 : Int32)).toNatClampNeg) (HV_ad2 : Arv Z h0 ad2 kc4 .byte (34 : Int32) ls2 (.int (0 : Int32))) (nn_ad2 : n0 ≤ ad2) (as0 : (iv1).toNatClampNeg + ((21 : Int32)).toNatClampNeg ≤ ((34 : Int32)).toNatClampNeg) (as1 : ¬ (iv1 < (0 : Int32))) :
    MetFree l y_19 (head1 (Jvm.Cond.code y_19 jdk_42_method_147_code 4 none :: ws) (rm 1 0 0 18)) (fun a_ U_ => a_ = #[(.ref ad1), (.ref ad2), (.int iv1), (.int (0 : Int32))] ∧ Z.Warmed39 U_.vm ∧ U_.heap = h0) (fun _ _ _ _ _ => True) (fun _ U_ o_ V_ => ∃ v_ L_, o_ = .returned v_ ∧ Q_am19_2 Z cs_ un_ sn_ ad1 ad2 iv1 ad3 kc1 ls1 ls2 kc4 h0 n0 v_ V_.heap L_ ∧ FrameEnd U_ o_ V_ L_ (rm 1 0 0 18).cells (rm 1 0 0 18).slots) := by
  refine MetFree.of_bodySF (plainFor_of_name pn_0) hisR ?_
  intro p e s m args below meth c s₁ Bd hml0 hP hK
  obtain ⟨rfl, hZ, hh⟩ := hP
  have hx := Bd.exec
  have hby := Bd.bytes
  have hml : c.maxLocals = 4 := hml0
  have hown : s.vm.findClass "java/lang/String" = some m.cls := findClass_of_methodNamed Bd.named
  have hnm := (name_of_methodNamed Bd.named Bd.method).1
  have X0 : Stand p l e (rm 1 0 0 18) s m #[(.ref ad1), (.ref ad2), (.int iv1), (.int (0 : Int32))] below meth c s₁ [] 0 0 := Stand.of_body Bd
  have e0 : s₁.heap = h0 := by rw [← hh, Bd.state]; rfl
  have N0 := Fr.nil n0
  have kp0 := Keep.refl h0 [ad2]
  show Go p e below (Fin1 s below (Q_am19_2 Z cs_ un_ sn_ ad1 ad2 iv1 ad3 kc1 ls1 ls2 kc4 h0 n0) (rm 1 0 0 18).cells (rm 1 0 0 18).slots) _
  refine Go.step (fun t_ k_ => castTop (ef_am19_1 m ad1 ad2 iv1 (0 : Int32)) k_) ?_
  obtain ⟨S_cs, N_cs, S_un, R_un, S_sn, R_sn⟩ := id HW
  show Go p e below _ (s₁.setTop (mkF m 0 #[.val (.ref ad1), .val (.ref ad2), .val (.int iv1), .val (.int (0 : Int32))] []))
  refine gs.aloadN X0.here hx (hb hby d19_0) rfl rfl ?_
  refine gs.virt 0 X0 hx hZ hown (am15_1 l Z a0 hw [] cs_ un_ sn_ HW (ad1) h0 n0 Ol HF_ad1_String_coder) (wd hw 84 rfl) (wd hw 6 rfl) (wd hw 80 rfl) (wd hw 81 rfl) (notFace_of_selects (args := #[]) (mvT hZ (wd hw 83 rfl))) (wd hw 83 rfl) (wd hw 82 rfl) (by decide) HE_ad1 (by decide) (by decide) (by rw [hml]; rfl) [] (lenOf pd_10 rfl) rfl (Nat.le_of_eq rfl) (hb hby d19_1) rfl e0 (by decide) (by decide) fun T1 Lc1 v1 X1 hQ1 => ?_
  obtain ⟨rfl, Nq1, e1⟩ := hQ1
  have N1 := Fr.app N0 Nq1
  show Go p e below _ (T1.setTop (mkF m 4 _ [(.int (0 : Int32))]))
  refine gs.iloadN X1.here hx (hb hby d19_4) rfl ?_
  have hc5 : (0 : Int32) = (0 : Int32) := by decide
  refine gs.icmpNo X1.here hx (hb hby d19_5) (teq hc5).2 ?_
  refine gs.aloadN X1.here hx (hb hby d19_8) rfl rfl ?_
  refine gs.getF X1 hx hZ hown (wd hw 24 rfl) Via.refl e1 HF_ad1_String_value (hb hby d19_9) fun T2 X2 e2 => ?_
  refine gs.iconst 0 X2.here hx (hb hby d19_12) rfl ?_
  refine gs.aloadN X2.here hx (hb hby d19_13) rfl rfl ?_
  refine gs.iloadN X2.here hx (hb hby d19_14) rfl ?_
  refine gs.iloadN X2.here hx (hb hby d19_15) rfl ?_
  refine Go.fin (fun t_ k_ => XS.ishl X2.here hx rfl (hb hby d19_16) rfl k_) ?_
  show Go p e below _ (T2.setTop (mkF m 17 _ [(.int (iv1 <<< ((0 : Int32) &&& 31))), (.ref ad2), (.int (0 : Int32)), (.ref ad3)]))
  rw [shl0 iv1]
  refine gs.aloadN X2.here hx (hb hby d19_17) rfl rfl ?_
  refine gs.getF X2 hx hZ hown (wd hw 24 rfl) Via.refl e2 HF_ad1_String_value (hb hby d19_18) fun T3 X3 e3 => ?_
  obtain ⟨cl4, Ar4, -, Sz4, Ng4, -, -⟩ := id HV_ad3
  refine Go.fin (fun t_ k_ => X3.arraylength hx (by rw [e3]; exact Ar4.1) (State.isArrayOf_alike hZ.alike Ar4.2.1) (g := mkF m 21 _ _) rfl rfl (hb hby d19_21) _ k_) ?_
  rw [len_of Sz4 Ng4]
  show Go p e below _ (T3.setTop (mkF m 22 _ [(.int (21 : Int32)), (.int iv1), (.ref ad2), (.int (0 : Int32)), (.ref ad3)]))
  obtain ⟨T5, h5, L5, X5, e5, N5, K5, B5, st5⟩ := cpA X3 hx hZ hown (wd hw 108 rfl) (wd hw 111 rfl) (wd hw 109 rfl) (wd hw 110 rfl) e3 HV_ad3 HV_ad2 (us := ((List.range ((21 : Int32)).toNatClampNeg).map fun i => (ls1).getD (((0 : Int32)).toNatClampNeg + i) (.int 0))) (Or.inl ⟨rfl, rfl⟩) (by decide) as1 (by decide) (by decide) as0 rfl (Nat.le_trans as0 (Nat.le_of_eq (Eq.symm HL_ad2))) N1 nn_ad2 (g := (mkF m 22 #[.val (.ref ad1), .val (.ref ad2), .val (.int iv1), .val (.int (0 : Int32))] [(.int (21 : Int32)), (.int iv1), (.ref ad2), (.int (0 : Int32)), (.ref ad3)])) rfl (by rw [hml]; rfl) (rest := []) rfl (hb hby d19_22) (by decide) (W := 0) (by show 2 * 0 + _ ≤ _; exact Nat.le_of_eq rfl) (by decide)
  have old5 := Ol.keep K5 (allS nn_ad2 all0)
  have kp5 := kp0.trans K5 (allS (Or.inl (List.mem_of_getElem? (i := 0) rfl)) all0)
  have V5 : Arv Z h5 ad2 kc4 .byte (34 : Int32) (cpL ls2 ls1 (0 : Int32) iv1 (21 : Int32) (.int 0)) (.int (0 : Int32)) := B5
  refine Go.step st5 ?_
  show Go p e below _ (T5.setTop (mkF m 25 #[.val (.ref ad1), .val (.ref ad2), .val (.int iv1), .val (.int (0 : Int32))] []))
  refine gs.goto 43 X5.here hx (hb hby d19_25) rfl ?_
  refine Go.retV X5 hx Bd.returns Bd.notSynchronized (hb hby d19_43) (by rw [e5]; exact ⟨rfl, N5, kp5, (cpL_len HL_ad2 as0), V5⟩) (by decide) (by decide)
def Q_am17_2 (Z : State) (cs_ : Int32) (un_ : Value) (sn_ : Value) (ad1 : Addr) (iv1 : Int32) (ad2 : Addr) (ad3 : Addr) (ad4 : Addr) (kc1 : ClassId) (ls1 : List Value) (ls2 : List Value) (kc4 : ClassId) (h0 : Heap) (n0 : Nat) (v : Option Value) (h : Heap) (L : List Loc) : Prop := v = none ∧ Fr n0 L ∧ Keep h0 h [ad3] ∧ (((cpL ls2 ls1 (0 : Int32) iv1 (21 : Int32) (.int 0)) : List Value).length = ((34 : Int32)).toNatClampNeg) ∧ (Arv Z h ad3 kc4 .byte (34 : Int32) (cpL ls2 ls1 (0 : Int32) iv1 (21 : Int32) (.int 0)) (.int (0 : Int32)))
set_option maxRecDepth 65536 in
set_option maxHeartbeats 40000000 in
theorem am17_2 (l : Launch) (Z : State) (a0 : Array Value) (hw : ∀ d ∈ tables_1, d.before a0 Z = true) (ws : List Jvm.Cond) (cs_ : Int32) (un_ : Value) (sn_ : Value) (HW : Wd Z cs_ un_ sn_) (ad1 : Addr) (iv1 : Int32) (ad2 : Addr) (ad3 : Addr) (ad4 : Addr) (kc1 : ClassId) (ls1 : List Value) (ls2 : List Value) (kc4 : ClassId) (h0 : Heap) (n0 : Nat) (Ol : Old Z n0 h0) (HE_ad1 : Exa Z h0 ad1 "java/lang/StringBuilder") (HF_ad1_AbstractStringBuilder_value : Fld Z h0 ad1 "java/lang/AbstractStringBuilder" "value" "[B" (.ref ad3)) (HF_ad1_AbstractStringBuilder_coder : Fld Z h0 ad1 "java/lang/AbstractStringBuilder" "coder" "B" (.int (0 : Int32))) (HE_ad2 : Exa Z h0 ad2 "java/lang/String") (HF_ad2_String_coder : Fld Z h0 ad2 "java/lang/String" "coder" "B" (.int (0 : Int32))) (HF_ad2_String_value : Fld Z h0 ad2 "java/lang/String" "value" "[B" (.ref ad4)) (HV_ad4 : Arv Z h0 ad4 kc1 .byte (21 : Int32) ls1 (.int 0)) (HL_ad3 : (ls2 : List Value).length = ((34 : Int32)).toNatClampNeg) (HV_ad3 : Arv Z h0 ad3 kc4 .byte (34 : Int32) ls2 (.int (0 : Int32))) (nn_ad3 : n0 ≤ ad3) (as0 : (iv1).toNatClampNeg + ((21 : Int32)).toNatClampNeg ≤ ((34 : Int32)).toNatClampNeg) (as1 : ¬ (iv1 < (0 : Int32))) :
    MetFree l y_17 (head1 (Jvm.Cond.code y_17 jdk_68_method_73_code 3 none :: ws) (rm 2 0 0 33)) (fun a_ U_ => a_ = #[(.ref ad1), (.int iv1), (.ref ad2)] ∧ Z.Warmed39 U_.vm ∧ U_.heap = h0) (fun _ _ _ _ _ => True) (fun _ U_ o_ V_ => ∃ v_ L_, o_ = .returned v_ ∧ Q_am17_2 Z cs_ un_ sn_ ad1 iv1 ad2 ad3 ad4 kc1 ls1 ls2 kc4 h0 n0 v_ V_.heap L_ ∧ FrameEnd U_ o_ V_ L_ (rm 2 0 0 33).cells (rm 2 0 0 33).slots) := by
  refine MetFree.of_bodySF (plainFor_of_name pn_3) hisR ?_
  intro p e s m args below meth c s₁ Bd hml0 hP hK
  obtain ⟨rfl, hZ, hh⟩ := hP
  have hx := Bd.exec
  have hby := Bd.bytes
  have hml : c.maxLocals = 3 := hml0
  have hown : s.vm.findClass "java/lang/AbstractStringBuilder" = some m.cls := findClass_of_methodNamed Bd.named
  have hnm := (name_of_methodNamed Bd.named Bd.method).1
  have X0 : Stand p l e (rm 2 0 0 33) s m #[(.ref ad1), (.int iv1), (.ref ad2)] below meth c s₁ [] 0 0 := Stand.of_body Bd
  have e0 : s₁.heap = h0 := by rw [← hh, Bd.state]; rfl
  have N0 := Fr.nil n0
  have kp0 := Keep.refl h0 [ad3]
  show Go p e below (Fin1 s below (Q_am17_2 Z cs_ un_ sn_ ad1 iv1 ad2 ad3 ad4 kc1 ls1 ls2 kc4 h0 n0) (rm 2 0 0 33).cells (rm 2 0 0 33).slots) _
  refine Go.step (fun t_ k_ => castTop (ef_am17_1 m ad1 iv1 ad2) k_) ?_
  obtain ⟨S_cs, N_cs, S_un, R_un, S_sn, R_sn⟩ := id HW
  show Go p e below _ (s₁.setTop (mkF m 0 #[.val (.ref ad1), .val (.int iv1), .val (.ref ad2)] []))
  refine gs.aloadN X0.here hx (hb hby d17_0) rfl rfl ?_
  refine gs.aloadN X0.here hx (hb hby d17_1) rfl rfl ?_
  refine gs.priv 0 X0 hx hZ hown (am18_1 l Z a0 hw [] cs_ un_ sn_ HW (ad1) (ad2) h0 n0 Ol HE_ad2 HF_ad2_String_coder HF_ad1_AbstractStringBuilder_coder) (wd hw 101 rfl) (wd hw 57 rfl) (wd hw 97 rfl) (wd hw 98 rfl) (sel_priv2 hZ (wd hw 100 rfl) (wd hw 99 rfl) (wd hw 98 rfl) (by decide)) (wd hw 99 rfl) (by decide) HE_ad1 (by decide) (by decide) (by rw [hml]; rfl) [(.ref ad2)] (lenOf pd_12 rfl) rfl (Nat.le_of_eq rfl) (hb hby d17_2) rfl e0 (by decide) (by decide) fun T1 Lc1 v1 X1 hQ1 => ?_
  obtain ⟨rfl, Nq1, e1⟩ := hQ1
  have N1 := Fr.app N0 Nq1
  show Go p e below _ (T1.setTop (mkF m 5 _ []))
  refine gs.aloadN X1.here hx (hb hby d17_5) rfl rfl ?_
  refine gs.aloadN X1.here hx (hb hby d17_6) rfl rfl ?_
  refine gs.getF X1 hx hZ hown (wd hw 61 rfl) Via.refl e1 HF_ad1_AbstractStringBuilder_value (hb hby d17_7) fun T2 X2 e2 => ?_
  refine gs.iloadN X2.here hx (hb hby d17_10) rfl ?_
  refine gs.aloadN X2.here hx (hb hby d17_11) rfl rfl ?_
  refine gs.getF X2 hx hZ hown (wd hw 63 rfl) Via.refl e2 HF_ad1_AbstractStringBuilder_coder (hb hby d17_12) fun T3 X3 e3 => ?_
  refine gs.virt 0 X3 hx hZ hown (am19_2 l Z a0 hw [] cs_ un_ sn_ HW (ad2) (ad3) (iv1) (ad4) (kc1) (ls1) (ls2) (kc4) h0 n0 Ol HE_ad2 HF_ad2_String_coder HF_ad2_String_value HV_ad4 HL_ad3 HV_ad3 nn_ad3 as0 as1) (wd hw 107 rfl) (wd hw 6 rfl) (wd hw 103 rfl) (wd hw 104 rfl) (notFace_of_selects (args := #[]) (mvT hZ (wd hw 106 rfl))) (wd hw 106 rfl) (wd hw 105 rfl) (by decide) HE_ad2 (by decide) (by decide) (by rw [hml]; rfl) [(.ref ad3), (.int iv1), (.int (0 : Int32))] (lenOf pd_13 rfl) rfl (Nat.le_of_eq rfl) (hb hby d17_15) rfl e3 (by decide) (by decide) fun T4 Lc4 v4 X4 hQ4 => ?_
  obtain ⟨rfl, Nq4, K4, p4_0, p4_1⟩ := hQ4
  have old4 := Ol.keep K4 (allS nn_ad3 all0)
  have kp4 := kp0.trans K4 (allS (Or.inl (List.mem_of_getElem? (i := 0) rfl)) all0)
  have N4 := Fr.app N1 Nq4
  show Go p e below _ (T4.setTop (mkF m 18 _ []))
  refine Go.retV X4 hx Bd.returns Bd.notSynchronized (hb hby d17_18) (by exact ⟨rfl, N4, kp4, p4_0, p4_1⟩) (by decide) (by decide)
def Q_am13_2 (Z : State) (cs_ : Int32) (un_ : Value) (sn_ : Value) (ad1 : Addr) (ad2 : Addr) (ad3 : Addr) (iv1 : Int32) (ls1 : List Value) (kc2 : ClassId) (ad4 : Addr) (kc3 : ClassId) (ls2 : List Value) (h0 : Heap) (n0 : Nat) (v : Option Value) (h : Heap) (L : List Loc) : Prop := ∃ fr1 : Addr, ∃ kx1 : ClassId, v = some (.ref ad1) ∧ h0.size ≤ fr1 ∧ Fr n0 L ∧ Keep h0 h [ad1] ∧ (Exa Z h ad1 "java/lang/StringBuilder") ∧ (Fld Z h ad1 "java/lang/AbstractStringBuilder" "coder" "B" (.int (0 : Int32))) ∧ (Fld Z h ad1 "java/lang/AbstractStringBuilder" "count" "I" (.int (iv1 + (21 : Int32)))) ∧ (Fld Z h ad1 "java/lang/AbstractStringBuilder" "value" "[B" (.ref fr1)) ∧ (((cpL (cpL (List.replicate ((34 : Int32)).toNatClampNeg (.int (0 : Int32))) ls1 (0 : Int32) (0 : Int32) (16 : Int32) (.int (0 : Int32))) ls2 (0 : Int32) iv1 (21 : Int32) (.int 0)) : List Value).length = ((34 : Int32)).toNatClampNeg) ∧ (Arv Z h fr1 kx1 .byte (34 : Int32) (cpL (cpL (List.replicate ((34 : Int32)).toNatClampNeg (.int (0 : Int32))) ls1 (0 : Int32) (0 : Int32) (16 : Int32) (.int (0 : Int32))) ls2 (0 : Int32) iv1 (21 : Int32) (.int 0)) (.int (0 : Int32)))
set_option maxRecDepth 65536 in
set_option maxHeartbeats 40000000 in
theorem am13_2 (l : Launch) (Z : State) (a0 : Array Value) (hw : ∀ d ∈ tables_1, d.before a0 Z = true) (ws : List Jvm.Cond) (cs_ : Int32) (un_ : Value) (sn_ : Value) (HW : Wd Z cs_ un_ sn_) (ad1 : Addr) (ad2 : Addr) (ad3 : Addr) (iv1 : Int32) (ls1 : List Value) (kc2 : ClassId) (ad4 : Addr) (kc3 : ClassId) (ls2 : List Value) (h0 : Heap) (n0 : Nat) (Ol : Old Z n0 h0) (HE_ad1 : Exa Z h0 ad1 "java/lang/StringBuilder") (HF_ad1_AbstractStringBuilder_value : Fld Z h0 ad1 "java/lang/AbstractStringBuilder" "value" "[B" (.ref ad3)) (HF_ad1_AbstractStringBuilder_coder : Fld Z h0 ad1 "java/lang/AbstractStringBuilder" "coder" "B" (.int (0 : Int32))) (HF_ad1_AbstractStringBuilder_count : Fld Z h0 ad1 "java/lang/AbstractStringBuilder" "count" "I" (.int iv1)) (HV_ad3 : Arv Z h0 ad3 kc2 .byte (16 : Int32) ls1 (.int (0 : Int32))) (HE_ad2 : Exa Z h0 ad2 "java/lang/String") (HF_ad2_String_coder : Fld Z h0 ad2 "java/lang/String" "coder" "B" (.int (0 : Int32))) (HF_ad2_String_value : Fld Z h0 ad2 "java/lang/String" "value" "[B" (.ref ad4)) (HV_ad4 : Arv Z h0 ad4 kc3 .byte (21 : Int32) ls2 (.int 0)) (nn_ad1 : n0 ≤ ad1) (ne_ad1_ad2 : ad1 ≠ ad2) (ne_ad1_ad4 : ad1 ≠ ad4) (as0 : ((iv1 + (21 : Int32)) - (16 : Int32)) < (18 : Int32)) (as1 : (0 : Int32) < ((iv1 + (21 : Int32)) - (16 : Int32))) (as2 : (iv1).toNatClampNeg + ((21 : Int32)).toNatClampNeg ≤ ((34 : Int32)).toNatClampNeg) (as3 : ¬ (iv1 < (0 : Int32))) :
    MetFree l y_13 (head1 (Jvm.Cond.code y_13 jdk_68_method_22_code 3 (some (.object "java/lang/AbstractStringBuilder")) :: ws) (rm 4 1 34 62)) (fun a_ U_ => a_ = #[(.ref ad1), (.ref ad2)] ∧ Z.Warmed39 U_.vm ∧ U_.heap = h0) (fun _ _ _ _ _ => True) (fun _ U_ o_ V_ => ∃ v_ L_, o_ = .returned v_ ∧ Q_am13_2 Z cs_ un_ sn_ ad1 ad2 ad3 iv1 ls1 kc2 ad4 kc3 ls2 h0 n0 v_ V_.heap L_ ∧ FrameEnd U_ o_ V_ L_ (rm 4 1 34 62).cells (rm 4 1 34 62).slots) := by
  refine MetFree.of_bodySF (plainFor_of_name pn_3) hisR ?_
  intro p e s m args below meth c s₁ Bd hml0 hP hK
  obtain ⟨rfl, hZ, hh⟩ := hP
  have hx := Bd.exec
  have hby := Bd.bytes
  have hml : c.maxLocals = 3 := hml0
  have hown : s.vm.findClass "java/lang/AbstractStringBuilder" = some m.cls := findClass_of_methodNamed Bd.named
  have hnm := (name_of_methodNamed Bd.named Bd.method).1
  have X0 : Stand p l e (rm 4 1 34 62) s m #[(.ref ad1), (.ref ad2)] below meth c s₁ [] 0 0 := Stand.of_body Bd
  have e0 : s₁.heap = h0 := by rw [← hh, Bd.state]; rfl
  have N0 := Fr.nil n0
  have kp0 := Keep.refl h0 [ad1]
  show Go p e below (Fin1 s below (Q_am13_2 Z cs_ un_ sn_ ad1 ad2 ad3 iv1 ls1 kc2 ad4 kc3 ls2 h0 n0) (rm 4 1 34 62).cells (rm 4 1 34 62).slots) _
  refine Go.step (fun t_ k_ => castTop (ef_am13_1 m ad1 ad2) k_) ?_
  obtain ⟨S_cs, N_cs, S_un, R_un, S_sn, R_sn⟩ := id HW
  show Go p e below _ (s₁.setTop (mkF m 0 #[.val (.ref ad1), .val (.ref ad2), .unset] []))
  refine gs.aloadN X0.here hx (hb hby d13_0) rfl rfl ?_
  refine Go.fin (fun t_ k_ => XS.ifnonnullYes X0.here hx rfl (pc0 := 1) (pc' := 9) rfl (hb hby d13_1) rfl (by decide) (by decide) k_) ?_
  show Go p e below _ (s₁.setTop (mkF m 9 _ []))
  refine gs.aloadN X0.here hx (hb hby d13_9) rfl rfl ?_
  refine gs.virt 0 X0 hx hZ hown (am14_2 l Z a0 hw [] cs_ un_ sn_ HW (ad2) (ad4) (kc3) (ls2) h0 n0 Ol HE_ad2 HF_ad2_String_coder HF_ad2_String_value HV_ad4) (wd hw 79 rfl) (wd hw 6 rfl) (wd hw 75 rfl) (wd hw 76 rfl) (notFace_of_selects (args := #[]) (mvT hZ (wd hw 78 rfl))) (wd hw 78 rfl) (wd hw 77 rfl) (by decide) HE_ad2 (by decide) (by decide) (by rw [hml]; rfl) [] (lenOf pd_11 rfl) rfl (Nat.le_of_eq rfl) (hb hby d13_10) rfl e0 (by decide) (by decide) fun T1 Lc1 v1 X1 hQ1 => ?_
  obtain ⟨rfl, Nq1, e1⟩ := hQ1
  have N1 := Fr.app N0 Nq1
  show Go p e below _ (T1.setTop (mkF m 13 _ [(.int (21 : Int32))]))
  refine gs.istoreN X1.here hx (hb hby d13_13) (l' := #[.val (.ref ad1), .val (.ref ad2), .val (.int (21 : Int32))]) rfl ?_
  refine gs.aloadN X1.here hx (hb hby d13_14) rfl rfl ?_
  refine gs.aloadN X1.here hx (hb hby d13_15) rfl rfl ?_
  refine gs.getF X1 hx hZ hown (wd hw 85 rfl) Via.refl e1 HF_ad1_AbstractStringBuilder_count (hb hby d13_16) fun T2 X2 e2 => ?_
  refine gs.iloadN X2.here hx (hb hby d13_19) rfl ?_
  refine gs.iadd X2.here hx (hb hby d13_20) ?_
  refine gs.priv 0 X2 hx hZ hown (am16_2 l Z a0 hw [] cs_ un_ sn_ HW (ad1) ((iv1 + (21 : Int32))) (ad3) (iv1) (ls1) (kc2) h0 n0 Ol HE_ad1 HF_ad1_AbstractStringBuilder_value HF_ad1_AbstractStringBuilder_coder HF_ad1_AbstractStringBuilder_count HV_ad3 nn_ad1 as1 as0) (wd hw 91 rfl) (wd hw 57 rfl) (wd hw 87 rfl) (wd hw 88 rfl) (sel_priv2 hZ (wd hw 90 rfl) (wd hw 89 rfl) (wd hw 88 rfl) (by decide)) (wd hw 89 rfl) (by decide) HE_ad1 (by decide) (by decide) (by rw [hml]; rfl) [(.int (iv1 + (21 : Int32)))] (lenOf pd_8 rfl) rfl (Nat.le_of_eq rfl) (hb hby d13_21) rfl e2 (by decide) (by decide) fun T3 Lc3 v3 X3 hQ3 => ?_
  obtain ⟨b3_0, kx3_0, rfl, gb_b3_0, Nq3, K3, p3_0, p3_1, p3_2, p3_3, p3_4, p3_5⟩ := hQ3
  have nn_b3_0 : n0 ≤ b3_0 := Nat.le_trans (old_z0 Ol) gb_b3_0
  have sz_b3_0 : h0.size ≤ b3_0 := Nat.le_trans kp0.1 gb_b3_0
  have old3 := Ol.keep K3 (allS nn_ad1 all0)
  have kp3 := kp0.trans K3 (allS (Or.inl (List.mem_of_getElem? (i := 0) rfl)) all0)
  have N3 := Fr.app N1 Nq3
  show Go p e below _ (T3.setTop (mkF m 24 _ []))
  refine gs.aloadN X3.here hx (hb hby d13_24) rfl rfl ?_
  refine gs.aloadN X3.here hx (hb hby d13_25) rfl rfl ?_
  refine gs.getF X3 hx hZ hown (wd hw 85 rfl) Via.refl rfl p3_2 (hb hby d13_26) fun T4 X4 e4 => ?_
  refine gs.aloadN X4.here hx (hb hby d13_29) rfl rfl ?_
  have f5 := (HE_ad2.keep K3)
  have f6 := (HF_ad2_String_coder.keep K3 (ninS (Ne.symm ne_ad1_ad2) nin0))
  have f7 := (HF_ad2_String_value.keep K3 (ninS (Ne.symm ne_ad1_ad2) nin0))
  have f8 := (HV_ad4.keep K3 (ninS (Ne.symm ne_ad1_ad4) nin0))
  refine gs.priv 0 X4 hx hZ hown (am17_2 l Z a0 hw [] cs_ un_ sn_ HW (ad1) (iv1) (ad2) (b3_0) (ad4) (kc3) (ls2) ((cpL (List.replicate ((34 : Int32)).toNatClampNeg (.int (0 : Int32))) ls1 (0 : Int32) (0 : Int32) (16 : Int32) (.int (0 : Int32)))) (kx3_0) T3.heap n0 old3 p3_0 p3_3 p3_1 f5 f6 f7 f8 p3_4 p3_5 nn_b3_0 as2 as3) (wd hw 96 rfl) (wd hw 57 rfl) (wd hw 92 rfl) (wd hw 93 rfl) (sel_priv2 hZ (wd hw 95 rfl) (wd hw 94 rfl) (wd hw 93 rfl) (by decide)) (wd hw 94 rfl) (by decide) p3_0 (by decide) (by decide) (by rw [hml]; rfl) [(.int iv1), (.ref ad2)] (lenOf pd_14 rfl) rfl (Nat.le_of_eq rfl) (hb hby d13_30) rfl e4 (by decide) (by decide) fun T9 Lc9 v9 X9 hQ9 => ?_
  obtain ⟨rfl, Nq9, K9, p9_0, p9_1⟩ := hQ9
  have old9 := old3.keep K9 (allS nn_b3_0 all0)
  have kp9 := kp3.trans K9 (allS (Or.inr sz_b3_0) all0)
  have N9 := Fr.app N3 Nq9
  show Go p e below _ (T9.setTop (mkF m 33 _ []))
  refine gs.aloadN X9.here hx (hb hby d13_33) rfl rfl ?_
  refine gs.dup X9.here hx (hb hby d13_34) rfl ?_
  have ne_ad1_b3_0 : ad1 ≠ b3_0 := Nat.ne_of_lt (Nat.lt_of_lt_of_le HE_ad1.lt gb_b3_0)
  have f10 := (p3_2.keep K9 (ninS ne_ad1_b3_0 nin0))
  refine gs.getF X9 hx hZ hown (wd hw 85 rfl) Via.refl rfl f10 (hb hby d13_35) fun T11 X11 e11 => ?_
  refine gs.iloadN X11.here hx (hb hby d13_38) rfl ?_
  refine gs.iadd X11.here hx (hb hby d13_39) ?_
  have f12 := (p3_0.keep K9)
  obtain ⟨T13, h13, X13, e13, W13, st13⟩ := putF X11 hx hZ hown (host := "") (Or.inl (wd hw 85 rfl)) Via.refl e11 f10 f12 (Or.inl (wd hw 86 rfl)) (wd hw 48 rfl) (ty := .int) (by decide) rfl rfl (g := (mkF m 40 #[.val (.ref ad1), .val (.ref ad2), .val (.int (21 : Int32))] [(.int (iv1 + (21 : Int32))), (.ref ad1)])) rfl rfl (hb hby d13_40)
  have N13 := Fr.snoc X13 N9 nn_ad1
  have old13 := old9.wr W13 nn_ad1
  have kp13 := kp9.wr W13 (Or.inl (List.mem_of_getElem? (i := 0) rfl))
  have F13 := f10.same W13
  refine Go.fin st13 ?_
  show Go p e below _ (T13.setTop (mkF m 43 _ []))
  refine gs.aloadN X13.here hx (hb hby d13_43) rfl rfl ?_
  have f14 := (f12.wr W13)
  have f15 := ((p3_1.keep K9 (ninS ne_ad1_b3_0 nin0)).other W13 (Or.inr (sn6 hw)))
  have f16 := ((p3_3.keep K9 (ninS ne_ad1_b3_0 nin0)).other W13 (Or.inr (sn7 hw)))
  have f17 := p9_0
  have f18 := (p9_1.other W13 (Ne.symm ne_ad1_b3_0))
  refine Go.retR X13 hx Bd.returns rfl rfl Bd.notSynchronized (hb hby d13_44) (by rw [e13]; exact ⟨b3_0, kx3_0, rfl, sz_b3_0, N13, kp13, f14, f15, F13, f16, f17, f18⟩) (by decide) (by decide)
def Q_am12_2 (Z : State) (cs_ : Int32) (un_ : Value) (sn_ : Value) (ad1 : Addr) (ad2 : Addr) (ad3 : Addr) (iv1 : Int32) (ls1 : List Value) (kc2 : ClassId) (ad4 : Addr) (kc3 : ClassId) (ls2 : List Value) (h0 : Heap) (n0 : Nat) (v : Option Value) (h : Heap) (L : List Loc) : Prop := ∃ fr1 : Addr, ∃ kx1 : ClassId, v = some (.ref ad1) ∧ h0.size ≤ fr1 ∧ Fr n0 L ∧ Keep h0 h [ad1] ∧ (Exa Z h ad1 "java/lang/StringBuilder") ∧ (Fld Z h ad1 "java/lang/AbstractStringBuilder" "coder" "B" (.int (0 : Int32))) ∧ (Fld Z h ad1 "java/lang/AbstractStringBuilder" "count" "I" (.int (iv1 + (21 : Int32)))) ∧ (Fld Z h ad1 "java/lang/AbstractStringBuilder" "value" "[B" (.ref fr1)) ∧ (((cpL (cpL (List.replicate ((34 : Int32)).toNatClampNeg (.int (0 : Int32))) ls1 (0 : Int32) (0 : Int32) (16 : Int32) (.int (0 : Int32))) ls2 (0 : Int32) iv1 (21 : Int32) (.int 0)) : List Value).length = ((34 : Int32)).toNatClampNeg) ∧ (Arv Z h fr1 kx1 .byte (34 : Int32) (cpL (cpL (List.replicate ((34 : Int32)).toNatClampNeg (.int (0 : Int32))) ls1 (0 : Int32) (0 : Int32) (16 : Int32) (.int (0 : Int32))) ls2 (0 : Int32) iv1 (21 : Int32) (.int 0)) (.int (0 : Int32)))
set_option maxRecDepth 65536 in
set_option maxHeartbeats 40000000 in
theorem am12_2 (l : Launch) (Z : State) (a0 : Array Value) (hw : ∀ d ∈ tables_1, d.before a0 Z = true) (ws : List Jvm.Cond) (cs_ : Int32) (un_ : Value) (sn_ : Value) (HW : Wd Z cs_ un_ sn_) (ad1 : Addr) (ad2 : Addr) (ad3 : Addr) (iv1 : Int32) (ls1 : List Value) (kc2 : ClassId) (ad4 : Addr) (kc3 : ClassId) (ls2 : List Value) (h0 : Heap) (n0 : Nat) (Ol : Old Z n0 h0) (HE_ad1 : Exa Z h0 ad1 "java/lang/StringBuilder") (HF_ad1_AbstractStringBuilder_value : Fld Z h0 ad1 "java/lang/AbstractStringBuilder" "value" "[B" (.ref ad3)) (HF_ad1_AbstractStringBuilder_coder : Fld Z h0 ad1 "java/lang/AbstractStringBuilder" "coder" "B" (.int (0 : Int32))) (HF_ad1_AbstractStringBuilder_count : Fld Z h0 ad1 "java/lang/AbstractStringBuilder" "count" "I" (.int iv1)) (HV_ad3 : Arv Z h0 ad3 kc2 .byte (16 : Int32) ls1 (.int (0 : Int32))) (HE_ad2 : Exa Z h0 ad2 "java/lang/String") (HF_ad2_String_coder : Fld Z h0 ad2 "java/lang/String" "coder" "B" (.int (0 : Int32))) (HF_ad2_String_value : Fld Z h0 ad2 "java/lang/String" "value" "[B" (.ref ad4)) (HV_ad4 : Arv Z h0 ad4 kc3 .byte (21 : Int32) ls2 (.int 0)) (nn_ad1 : n0 ≤ ad1) (ne_ad1_ad2 : ad1 ≠ ad2) (ne_ad1_ad4 : ad1 ≠ ad4) (as0 : ((iv1 + (21 : Int32)) - (16 : Int32)) < (18 : Int32)) (as1 : (0 : Int32) < ((iv1 + (21 : Int32)) - (16 : Int32))) (as2 : (iv1).toNatClampNeg + ((21 : Int32)).toNatClampNeg ≤ ((34 : Int32)).toNatClampNeg) (as3 : ¬ (iv1 < (0 : Int32))) :
    MetFree l y_12 (head1 (Jvm.Cond.code y_12 jdk_67_method_7_code 2 (some (.object "java/lang/StringBuilder")) :: ws) (rm 5 1 34 76)) (fun a_ U_ => a_ = #[(.ref ad1), (.ref ad2)] ∧ Z.Warmed39 U_.vm ∧ U_.heap = h0) (fun _ _ _ _ _ => True) (fun _ U_ o_ V_ => ∃ v_ L_, o_ = .returned v_ ∧ Q_am12_2 Z cs_ un_ sn_ ad1 ad2 ad3 iv1 ls1 kc2 ad4 kc3 ls2 h0 n0 v_ V_.heap L_ ∧ FrameEnd U_ o_ V_ L_ (rm 5 1 34 76).cells (rm 5 1 34 76).slots) := by
  refine MetFree.of_bodySF (plainFor_of_name pn_4) hisR ?_
  intro p e s m args below meth c s₁ Bd hml0 hP hK
  obtain ⟨rfl, hZ, hh⟩ := hP
  have hx := Bd.exec
  have hby := Bd.bytes
  have hml : c.maxLocals = 2 := hml0
  have hown : s.vm.findClass "java/lang/StringBuilder" = some m.cls := findClass_of_methodNamed Bd.named
  have hnm := (name_of_methodNamed Bd.named Bd.method).1
  have X0 : Stand p l e (rm 5 1 34 76) s m #[(.ref ad1), (.ref ad2)] below meth c s₁ [] 0 0 := Stand.of_body Bd
  have e0 : s₁.heap = h0 := by rw [← hh, Bd.state]; rfl
  have N0 := Fr.nil n0
  have kp0 := Keep.refl h0 [ad1]
  show Go p e below (Fin1 s below (Q_am12_2 Z cs_ un_ sn_ ad1 ad2 ad3 iv1 ls1 kc2 ad4 kc3 ls2 h0 n0) (rm 5 1 34 76).cells (rm 5 1 34 76).slots) _
  refine Go.step (fun t_ k_ => castTop (ef_am12_1 m ad1 ad2) k_) ?_
  obtain ⟨S_cs, N_cs, S_un, R_un, S_sn, R_sn⟩ := id HW
  show Go p e below _ (s₁.setTop (mkF m 0 #[.val (.ref ad1), .val (.ref ad2)] []))
  refine gs.aloadN X0.here hx (hb hby d12_0) rfl rfl ?_
  refine gs.aloadN X0.here hx (hb hby d12_1) rfl rfl ?_
  obtain ⟨_, _, ⟨T1, L1, k1, n1⟩, -, X1, ⟨Lc1, hQ1, l1, y1, z1⟩, st1⟩ := superBack X0 hx hZ (y := y_13) hown (wd hw 70 rfl) (same_self (wd hw 90 rfl) rfl (wd hw 71 rfl) (by decide)) (wd hw 71 rfl) (wd hw 72 rfl) (by decide) (backOf (W := 0) (am13_2 l Z a0 hw [] cs_ un_ sn_ HW (ad1) (ad2) (ad3) (iv1) (ls1) (kc2) (ad4) (kc3) (ls2) h0 n0 Ol HE_ad1 HF_ad1_AbstractStringBuilder_value HF_ad1_AbstractStringBuilder_coder HF_ad1_AbstractStringBuilder_count HV_ad3 HE_ad2 HF_ad2_String_coder HF_ad2_String_value HV_ad4 nn_ad1 ne_ad1_ad2 ne_ad1_ad4 as0 as1 as2 as3) hZ (wd hw 74 rfl) (wd hw 57 rfl) (by decide) (by decide)) e0 (Ins.self HE_ad1) (g := (mkF m 2 #[.val (.ref ad1), .val (.ref ad2)] [(.ref ad2), (.ref ad1)])) rfl (by rw [hml]; rfl) (wd hw 74 rfl) (argsL := [(.ref ad2)]) (rest := []) (lenOf pd_15 rfl) rfl (by show 2 * 0 + _ ≤ _; exact Nat.le_of_eq rfl) (hb hby d12_2) (fun _ _ => ⟨rfl, e0, (by decide : 0 + 1 ≤ _), (by decide : 0 + 34 ≤ _)⟩)
  dsimp only [Pt.U, Pt.locs, Pt.cells, Pt.slots] at X1 l1 y1 z1 st1 hQ1
  subst l1 y1 z1
  obtain ⟨b1_0, kx1_0, rfl, gb_b1_0, Nq1, K1, p1_0, p1_1, p1_2, p1_3, p1_4, p1_5⟩ := hQ1
  have nn_b1_0 : n0 ≤ b1_0 := Nat.le_trans (old_z0 Ol) gb_b1_0
  have sz_b1_0 : h0.size ≤ b1_0 := Nat.le_trans kp0.1 gb_b1_0
  have old1 := Ol.keep K1 (allS nn_ad1 all0)
  have kp1 := kp0.trans K1 (allS (Or.inl (List.mem_of_getElem? (i := 0) rfl)) all0)
  have N1 := Fr.app N0 Nq1
  refine Go.step (fun t_ k_ => st1.trans k_) ?_
  show Go p e below _ (T1.setTop (mkF m 5 #[.val (.ref ad1), .val (.ref ad2)] [(.ref ad1)]))
  refine gs.pop X1.here hx (hb hby d12_5) rfl ?_
  refine gs.aloadN X1.here hx (hb hby d12_6) rfl rfl ?_
  refine Go.retR X1 hx Bd.returns rfl rfl Bd.notSynchronized (hb hby d12_7) (by exact ⟨b1_0, kx1_0, rfl, sz_b1_0, N1, kp1, p1_0, p1_1, p1_2, p1_3, p1_4, p1_5⟩) (by decide) (by decide)
theorem d9_20 : decode c_9 20 = .ok (.aload_n 1, 1) := by decide +kernel
theorem d9_21 : decode c_9 21 = .ok (.invokevirtual 107, 3) := by decide +kernel
def Q_am16_3 (Z : State) (cs_ : Int32) (un_ : Value) (sn_ : Value) (ad1 : Addr) (iv1 : Int32) (ad2 : Addr) (ls1 : List Value) (kc2 : ClassId) (h0 : Heap) (n0 : Nat) (v : Option Value) (h : Heap) (L : List Loc) : Prop := v = none ∧ Fr n0 L ∧ h = h0
set_option maxRecDepth 65536 in
set_option maxHeartbeats 40000000 in
theorem am16_3 (l : Launch) (Z : State) (a0 : Array Value) (hw : ∀ d ∈ tables_1, d.before a0 Z = true) (ws : List Jvm.Cond) (cs_ : Int32) (un_ : Value) (sn_ : Value) (HW : Wd Z cs_ un_ sn_) (ad1 : Addr) (iv1 : Int32) (ad2 : Addr) (ls1 : List Value) (kc2 : ClassId) (h0 : Heap) (n0 : Nat) (Ol : Old Z n0 h0) (HF_ad1_AbstractStringBuilder_value : Fld Z h0 ad1 "java/lang/AbstractStringBuilder" "value" "[B" (.ref ad2)) (HF_ad1_AbstractStringBuilder_coder : Fld Z h0 ad1 "java/lang/AbstractStringBuilder" "coder" "B" (.int (0 : Int32))) (HV_ad2 : Arv Z h0 ad2 kc2 .byte (34 : Int32) ls1 (.int (0 : Int32))) (as0 : ¬ ((0 : Int32) < (iv1 - (34 : Int32)))) :
    MetFree l y_16 (head1 (Jvm.Cond.code y_16 jdk_68_method_9_code 3 none :: ws) (rm 0 0 0 0)) (fun a_ U_ => a_ = #[(.ref ad1), (.int iv1)] ∧ Z.Warmed39 U_.vm ∧ U_.heap = h0) (fun _ _ _ _ _ => True) (fun _ U_ o_ V_ => ∃ v_ L_, o_ = .returned v_ ∧ Q_am16_3 Z cs_ un_ sn_ ad1 iv1 ad2 ls1 kc2 h0 n0 v_ V_.heap L_ ∧ FrameEnd U_ o_ V_ L_ (rm 0 0 0 0).cells (rm 0 0 0 0).slots) := by
  refine MetFree.of_bodySF (plainFor_of_name pn_3) hisR ?_
  intro p e s m args below meth c s₁ Bd hml0 hP hK
  obtain ⟨rfl, hZ, hh⟩ := hP
  have hx := Bd.exec
  have hby := Bd.bytes
  have hml : c.maxLocals = 3 := hml0
  have hown : s.vm.findClass "java/lang/AbstractStringBuilder" = some m.cls := findClass_of_methodNamed Bd.named
  have hnm := (name_of_methodNamed Bd.named Bd.method).1
  have X0 : Stand p l e (rm 0 0 0 0) s m #[(.ref ad1), (.int iv1)] below meth c s₁ [] 0 0 := Stand.of_body Bd
  have e0 : s₁.heap = h0 := by rw [← hh, Bd.state]; rfl
  have N0 := Fr.nil n0
  have kp0 := Keep.refl h0 []
  show Go p e below (Fin1 s below (Q_am16_3 Z cs_ un_ sn_ ad1 iv1 ad2 ls1 kc2 h0 n0) (rm 0 0 0 0).cells (rm 0 0 0 0).slots) _
  refine Go.step (fun t_ k_ => castTop (ef_am16_1 m ad1 iv1) k_) ?_
  obtain ⟨S_cs, N_cs, S_un, R_un, S_sn, R_sn⟩ := id HW
  show Go p e below _ (s₁.setTop (mkF m 0 #[.val (.ref ad1), .val (.int iv1), .unset] []))
  refine gs.aloadN X0.here hx (hb hby d16_0) rfl rfl ?_
  refine gs.getF X0 hx hZ hown (wd hw 61 rfl) Via.refl e0 HF_ad1_AbstractStringBuilder_value (hb hby d16_1) fun T1 X1 e1 => ?_
  obtain ⟨cl2, Ar2, -, Sz2, Ng2, -, -⟩ := id HV_ad2
  refine Go.fin (fun t_ k_ => X1.arraylength hx (by rw [e1]; exact Ar2.1) (State.isArrayOf_alike hZ.alike Ar2.2.1) (g := mkF m 4 _ _) rfl rfl (hb hby d16_4) _ k_) ?_
  rw [len_of Sz2 Ng2]
  show Go p e below _ (T1.setTop (mkF m 5 _ [(.int (34 : Int32))]))
  refine gs.aloadN X1.here hx (hb hby d16_5) rfl rfl ?_
  refine gs.getF X1 hx hZ hown (wd hw 63 rfl) Via.refl e1 HF_ad1_AbstractStringBuilder_coder (hb hby d16_6) fun T3 X3 e3 => ?_
  refine Go.fin (fun t_ k_ => XS.ishr X3.here hx rfl (hb hby d16_9) rfl k_) ?_
  show Go p e below _ (T3.setTop (mkF m 10 _ [(.int ((34 : Int32) >>> ((0 : Int32) &&& 31)))]))
  rw [show ((34 : Int32) >>> ((0 : Int32) &&& 31)) = (34 : Int32) from by decide]
  refine gs.istoreN X3.here hx (hb hby d16_10) (l' := #[.val (.ref ad1), .val (.int iv1), .val (.int (34 : Int32))]) rfl ?_
  refine gs.iloadN X3.here hx (hb hby d16_11) rfl ?_
  refine gs.iloadN X3.here hx (hb hby d16_12) rfl ?_
  refine gs.isub X3.here hx (hb hby d16_13) ?_
  have hc14 : ¬ ((0 : Int32) < (iv1 - (34 : Int32))) := as0
  refine gs.ifYes 38 X3.here hx (hb hby d16_14) ((if0 _ _).trans (flt hc14).2.2.2) rfl ?_
  refine Go.retV X3 hx Bd.returns Bd.notSynchronized (hb hby d16_38) (by rw [e3]; exact ⟨rfl, N0, rfl⟩) (by decide) (by decide)
def Q_am19_3 (Z : State) (cs_ : Int32) (un_ : Value) (sn_ : Value) (ad1 : Addr) (ad2 : Addr) (iv1 : Int32) (ad3 : Addr) (kc1 : ClassId) (iv2 : Int32) (ls1 : List Value) (ls2 : List Value) (kc4 : ClassId) (h0 : Heap) (n0 : Nat) (v : Option Value) (h : Heap) (L : List Loc) : Prop := v = none ∧ Fr n0 L ∧ Keep h0 h [ad2] ∧ (((cpL ls2 ls1 (0 : Int32) iv1 iv2 (.int (0 : Int32))) : List Value).length = ((34 : Int32)).toNatClampNeg) ∧ (Arv Z h ad2 kc4 .byte (34 : Int32) (cpL ls2 ls1 (0 : Int32) iv1 iv2 (.int (0 : Int32))) (.int (0 : Int32)))
set_option maxRecDepth 65536 in
set_option maxHeartbeats 40000000 in
theorem am19_3 (l : Launch) (Z : State) (a0 : Array Value) (hw : ∀ d ∈ tables_1, d.before a0 Z = true) (ws : List Jvm.Cond) (cs_ : Int32) (un_ : Value) (sn_ : Value) (HW : Wd Z cs_ un_ sn_) (ad1 : Addr) (ad2 : Addr) (iv1 : Int32) (ad3 : Addr) (kc1 : ClassId) (iv2 : Int32) (ls1 : List Value) (ls2 : List Value) (kc4 : ClassId) (h0 : Heap) (n0 : Nat) (Ol : Old Z n0 h0) (HF_ad1_String_value : Fld Z h0 ad1 "java/lang/String" "value" "[B" (.ref ad3)) (HV_ad3 : Arv Z h0 ad3 kc1 .byte iv2 ls1 (.int (0 : Int32))) (HE_ad1 : Exa Z h0 ad1 "java/lang/String") (HF_ad1_String_coder : Fld Z h0 ad1 "java/lang/String" "coder" "B" (.int (0 : Int32))) (HL_ad2 : (ls2 : List Value).length = ((34 : Int32)).toNatClampNeg) (HV_ad2 : Arv Z h0 ad2 kc4 .byte (34 : Int32) ls2 (.int (0 : Int32))) (nn_ad2 : n0 ≤ ad2) (as0 : ((0 : Int32)).toNatClampNeg + (iv2).toNatClampNeg ≤ (iv2).toNatClampNeg) (as1 : (iv1).toNatClampNeg + (iv2).toNatClampNeg ≤ ((34 : Int32)).toNatClampNeg) (as2 : ¬ (iv1 < (0 : Int32))) (as3 : ¬ (iv2 < (0 : Int32))) :
    MetFree l y_19 (head1 (Jvm.Cond.code y_19 jdk_42_method_147_code 4 none :: ws) (rm 1 0 0 18)) (fun a_ U_ => a_ = #[(.ref ad1), (.ref ad2), (.int iv1), (.int (0 : Int32))] ∧ Z.Warmed39 U_.vm ∧ U_.heap = h0) (fun _ _ _ _ _ => True) (fun _ U_ o_ V_ => ∃ v_ L_, o_ = .returned v_ ∧ Q_am19_3 Z cs_ un_ sn_ ad1 ad2 iv1 ad3 kc1 iv2 ls1 ls2 kc4 h0 n0 v_ V_.heap L_ ∧ FrameEnd U_ o_ V_ L_ (rm 1 0 0 18).cells (rm 1 0 0 18).slots) := by
  refine MetFree.of_bodySF (plainFor_of_name pn_0) hisR ?_
  intro p e s m args below meth c s₁ Bd hml0 hP hK
  obtain ⟨rfl, hZ, hh⟩ := hP
  have hx := Bd.exec
  have hby := Bd.bytes
  have hml : c.maxLocals = 4 := hml0
  have hown : s.vm.findClass "java/lang/String" = some m.cls := findClass_of_methodNamed Bd.named
  have hnm := (name_of_methodNamed Bd.named Bd.method).1
  have X0 : Stand p l e (rm 1 0 0 18) s m #[(.ref ad1), (.ref ad2), (.int iv1), (.int (0 : Int32))] below meth c s₁ [] 0 0 := Stand.of_body Bd
  have e0 : s₁.heap = h0 := by rw [← hh, Bd.state]; rfl
  have N0 := Fr.nil n0
  have kp0 := Keep.refl h0 [ad2]
  show Go p e below (Fin1 s below (Q_am19_3 Z cs_ un_ sn_ ad1 ad2 iv1 ad3 kc1 iv2 ls1 ls2 kc4 h0 n0) (rm 1 0 0 18).cells (rm 1 0 0 18).slots) _
  refine Go.step (fun t_ k_ => castTop (ef_am19_1 m ad1 ad2 iv1 (0 : Int32)) k_) ?_
  obtain ⟨S_cs, N_cs, S_un, R_un, S_sn, R_sn⟩ := id HW
  show Go p e below _ (s₁.setTop (mkF m 0 #[.val (.ref ad1), .val (.ref ad2), .val (.int iv1), .val (.int (0 : Int32))] []))
  refine gs.aloadN X0.here hx (hb hby d19_0) rfl rfl ?_
  refine gs.virt 0 X0 hx hZ hown (am15_1 l Z a0 hw [] cs_ un_ sn_ HW (ad1) h0 n0 Ol HF_ad1_String_coder) (wd hw 84 rfl) (wd hw 6 rfl) (wd hw 80 rfl) (wd hw 81 rfl) (notFace_of_selects (args := #[]) (mvT hZ (wd hw 83 rfl))) (wd hw 83 rfl) (wd hw 82 rfl) (by decide) HE_ad1 (by decide) (by decide) (by rw [hml]; rfl) [] (lenOf pd_10 rfl) rfl (Nat.le_of_eq rfl) (hb hby d19_1) rfl e0 (by decide) (by decide) fun T1 Lc1 v1 X1 hQ1 => ?_
  obtain ⟨rfl, Nq1, e1⟩ := hQ1
  have N1 := Fr.app N0 Nq1
  show Go p e below _ (T1.setTop (mkF m 4 _ [(.int (0 : Int32))]))
  refine gs.iloadN X1.here hx (hb hby d19_4) rfl ?_
  have hc5 : (0 : Int32) = (0 : Int32) := by decide
  refine gs.icmpNo X1.here hx (hb hby d19_5) (teq hc5).2 ?_
  refine gs.aloadN X1.here hx (hb hby d19_8) rfl rfl ?_
  refine gs.getF X1 hx hZ hown (wd hw 24 rfl) Via.refl e1 HF_ad1_String_value (hb hby d19_9) fun T2 X2 e2 => ?_
  refine gs.iconst 0 X2.here hx (hb hby d19_12) rfl ?_
  refine gs.aloadN X2.here hx (hb hby d19_13) rfl rfl ?_
  refine gs.iloadN X2.here hx (hb hby d19_14) rfl ?_
  refine gs.iloadN X2.here hx (hb hby d19_15) rfl ?_
  refine Go.fin (fun t_ k_ => XS.ishl X2.here hx rfl (hb hby d19_16) rfl k_) ?_
  show Go p e below _ (T2.setTop (mkF m 17 _ [(.int (iv1 <<< ((0 : Int32) &&& 31))), (.ref ad2), (.int (0 : Int32)), (.ref ad3)]))
  rw [shl0 iv1]
  refine gs.aloadN X2.here hx (hb hby d19_17) rfl rfl ?_
  refine gs.getF X2 hx hZ hown (wd hw 24 rfl) Via.refl e2 HF_ad1_String_value (hb hby d19_18) fun T3 X3 e3 => ?_
  obtain ⟨cl4, Ar4, -, Sz4, Ng4, -, -⟩ := id HV_ad3
  refine Go.fin (fun t_ k_ => X3.arraylength hx (by rw [e3]; exact Ar4.1) (State.isArrayOf_alike hZ.alike Ar4.2.1) (g := mkF m 21 _ _) rfl rfl (hb hby d19_21) _ k_) ?_
  rw [len_of Sz4 Ng4]
  show Go p e below _ (T3.setTop (mkF m 22 _ [(.int iv2), (.int iv1), (.ref ad2), (.int (0 : Int32)), (.ref ad3)]))
  obtain ⟨T5, h5, L5, X5, e5, N5, K5, B5, st5⟩ := cpA X3 hx hZ hown (wd hw 108 rfl) (wd hw 111 rfl) (wd hw 109 rfl) (wd hw 110 rfl) e3 HV_ad3 HV_ad2 (us := ((List.range (iv2).toNatClampNeg).map fun i => (ls1).getD (((0 : Int32)).toNatClampNeg + i) (.int (0 : Int32)))) (Or.inl ⟨rfl, rfl⟩) (by decide) as2 as3 as0 as1 rfl (Nat.le_trans as1 (Nat.le_of_eq (Eq.symm HL_ad2))) N1 nn_ad2 (g := (mkF m 22 #[.val (.ref ad1), .val (.ref ad2), .val (.int iv1), .val (.int (0 : Int32))] [(.int iv2), (.int iv1), (.ref ad2), (.int (0 : Int32)), (.ref ad3)])) rfl (by rw [hml]; rfl) (rest := []) rfl (hb hby d19_22) (by decide) (W := 0) (by show 2 * 0 + _ ≤ _; exact Nat.le_of_eq rfl) (by decide)
  have old5 := Ol.keep K5 (allS nn_ad2 all0)
  have kp5 := kp0.trans K5 (allS (Or.inl (List.mem_of_getElem? (i := 0) rfl)) all0)
  have V5 : Arv Z h5 ad2 kc4 .byte (34 : Int32) (cpL ls2 ls1 (0 : Int32) iv1 iv2 (.int (0 : Int32))) (.int (0 : Int32)) := B5
  refine Go.step st5 ?_
  show Go p e below _ (T5.setTop (mkF m 25 #[.val (.ref ad1), .val (.ref ad2), .val (.int iv1), .val (.int (0 : Int32))] []))
  refine gs.goto 43 X5.here hx (hb hby d19_25) rfl ?_
  refine Go.retV X5 hx Bd.returns Bd.notSynchronized (hb hby d19_43) (by rw [e5]; exact ⟨rfl, N5, kp5, (cpL_len HL_ad2 as1), V5⟩) (by decide) (by decide)
def Q_am17_3 (Z : State) (cs_ : Int32) (un_ : Value) (sn_ : Value) (ad1 : Addr) (iv1 : Int32) (ad2 : Addr) (ad3 : Addr) (kc1 : ClassId) (iv2 : Int32) (ls1 : List Value) (ad4 : Addr) (ls2 : List Value) (kc4 : ClassId) (h0 : Heap) (n0 : Nat) (v : Option Value) (h : Heap) (L : List Loc) : Prop := v = none ∧ Fr n0 L ∧ Keep h0 h [ad4] ∧ (((cpL ls2 ls1 (0 : Int32) iv1 iv2 (.int (0 : Int32))) : List Value).length = ((34 : Int32)).toNatClampNeg) ∧ (Arv Z h ad4 kc4 .byte (34 : Int32) (cpL ls2 ls1 (0 : Int32) iv1 iv2 (.int (0 : Int32))) (.int (0 : Int32)))
set_option maxRecDepth 65536 in
set_option maxHeartbeats 40000000 in
theorem am17_3 (l : Launch) (Z : State) (a0 : Array Value) (hw : ∀ d ∈ tables_1, d.before a0 Z = true) (ws : List Jvm.Cond) (cs_ : Int32) (un_ : Value) (sn_ : Value) (HW : Wd Z cs_ un_ sn_) (ad1 : Addr) (iv1 : Int32) (ad2 : Addr) (ad3 : Addr) (kc1 : ClassId) (iv2 : Int32) (ls1 : List Value) (ad4 : Addr) (ls2 : List Value) (kc4 : ClassId) (h0 : Heap) (n0 : Nat) (Ol : Old Z n0 h0) (HF_ad2_String_value : Fld Z h0 ad2 "java/lang/String" "value" "[B" (.ref ad3)) (HV_ad3 : Arv Z h0 ad3 kc1 .byte iv2 ls1 (.int (0 : Int32))) (HE_ad2 : Exa Z h0 ad2 "java/lang/String") (HF_ad2_String_coder : Fld Z h0 ad2 "java/lang/String" "coder" "B" (.int (0 : Int32))) (HE_ad1 : Exa Z h0 ad1 "java/lang/StringBuilder") (HF_ad1_AbstractStringBuilder_value : Fld Z h0 ad1 "java/lang/AbstractStringBuilder" "value" "[B" (.ref ad4)) (HF_ad1_AbstractStringBuilder_coder : Fld Z h0 ad1 "java/lang/AbstractStringBuilder" "coder" "B" (.int (0 : Int32))) (HL_ad4 : (ls2 : List Value).length = ((34 : Int32)).toNatClampNeg) (HV_ad4 : Arv Z h0 ad4 kc4 .byte (34 : Int32) ls2 (.int (0 : Int32))) (nn_ad4 : n0 ≤ ad4) (as0 : ((0 : Int32)).toNatClampNeg + (iv2).toNatClampNeg ≤ (iv2).toNatClampNeg) (as1 : (iv1).toNatClampNeg + (iv2).toNatClampNeg ≤ ((34 : Int32)).toNatClampNeg) (as2 : ¬ (iv1 < (0 : Int32))) (as3 : ¬ (iv2 < (0 : Int32))) :
    MetFree l y_17 (head1 (Jvm.Cond.code y_17 jdk_68_method_73_code 3 none :: ws) (rm 2 0 0 33)) (fun a_ U_ => a_ = #[(.ref ad1), (.int iv1), (.ref ad2)] ∧ Z.Warmed39 U_.vm ∧ U_.heap = h0) (fun _ _ _ _ _ => True) (fun _ U_ o_ V_ => ∃ v_ L_, o_ = .returned v_ ∧ Q_am17_3 Z cs_ un_ sn_ ad1 iv1 ad2 ad3 kc1 iv2 ls1 ad4 ls2 kc4 h0 n0 v_ V_.heap L_ ∧ FrameEnd U_ o_ V_ L_ (rm 2 0 0 33).cells (rm 2 0 0 33).slots) := by
  refine MetFree.of_bodySF (plainFor_of_name pn_3) hisR ?_
  intro p e s m args below meth c s₁ Bd hml0 hP hK
  obtain ⟨rfl, hZ, hh⟩ := hP
  have hx := Bd.exec
  have hby := Bd.bytes
  have hml : c.maxLocals = 3 := hml0
  have hown : s.vm.findClass "java/lang/AbstractStringBuilder" = some m.cls := findClass_of_methodNamed Bd.named
  have hnm := (name_of_methodNamed Bd.named Bd.method).1
  have X0 : Stand p l e (rm 2 0 0 33) s m #[(.ref ad1), (.int iv1), (.ref ad2)] below meth c s₁ [] 0 0 := Stand.of_body Bd
  have e0 : s₁.heap = h0 := by rw [← hh, Bd.state]; rfl
  have N0 := Fr.nil n0
  have kp0 := Keep.refl h0 [ad4]
  show Go p e below (Fin1 s below (Q_am17_3 Z cs_ un_ sn_ ad1 iv1 ad2 ad3 kc1 iv2 ls1 ad4 ls2 kc4 h0 n0) (rm 2 0 0 33).cells (rm 2 0 0 33).slots) _
  refine Go.step (fun t_ k_ => castTop (ef_am17_1 m ad1 iv1 ad2) k_) ?_
  obtain ⟨S_cs, N_cs, S_un, R_un, S_sn, R_sn⟩ := id HW
  show Go p e below _ (s₁.setTop (mkF m 0 #[.val (.ref ad1), .val (.int iv1), .val (.ref ad2)] []))
  refine gs.aloadN X0.here hx (hb hby d17_0) rfl rfl ?_
  refine gs.aloadN X0.here hx (hb hby d17_1) rfl rfl ?_
  refine gs.priv 0 X0 hx hZ hown (am18_1 l Z a0 hw [] cs_ un_ sn_ HW (ad1) (ad2) h0 n0 Ol HE_ad2 HF_ad2_String_coder HF_ad1_AbstractStringBuilder_coder) (wd hw 101 rfl) (wd hw 57 rfl) (wd hw 97 rfl) (wd hw 98 rfl) (sel_priv2 hZ (wd hw 100 rfl) (wd hw 99 rfl) (wd hw 98 rfl) (by decide)) (wd hw 99 rfl) (by decide) HE_ad1 (by decide) (by decide) (by rw [hml]; rfl) [(.ref ad2)] (lenOf pd_12 rfl) rfl (Nat.le_of_eq rfl) (hb hby d17_2) rfl e0 (by decide) (by decide) fun T1 Lc1 v1 X1 hQ1 => ?_
  obtain ⟨rfl, Nq1, e1⟩ := hQ1
  have N1 := Fr.app N0 Nq1
  show Go p e below _ (T1.setTop (mkF m 5 _ []))
  refine gs.aloadN X1.here hx (hb hby d17_5) rfl rfl ?_
  refine gs.aloadN X1.here hx (hb hby d17_6) rfl rfl ?_
  refine gs.getF X1 hx hZ hown (wd hw 61 rfl) Via.refl e1 HF_ad1_AbstractStringBuilder_value (hb hby d17_7) fun T2 X2 e2 => ?_
  refine gs.iloadN X2.here hx (hb hby d17_10) rfl ?_
  refine gs.aloadN X2.here hx (hb hby d17_11) rfl rfl ?_
  refine gs.getF X2 hx hZ hown (wd hw 63 rfl) Via.refl e2 HF_ad1_AbstractStringBuilder_coder (hb hby d17_12) fun T3 X3 e3 => ?_
  refine gs.virt 0 X3 hx hZ hown (am19_3 l Z a0 hw [] cs_ un_ sn_ HW (ad2) (ad4) (iv1) (ad3) (kc1) (iv2) (ls1) (ls2) (kc4) h0 n0 Ol HF_ad2_String_value HV_ad3 HE_ad2 HF_ad2_String_coder HL_ad4 HV_ad4 nn_ad4 as0 as1 as2 as3) (wd hw 107 rfl) (wd hw 6 rfl) (wd hw 103 rfl) (wd hw 104 rfl) (notFace_of_selects (args := #[]) (mvT hZ (wd hw 106 rfl))) (wd hw 106 rfl) (wd hw 105 rfl) (by decide) HE_ad2 (by decide) (by decide) (by rw [hml]; rfl) [(.ref ad4), (.int iv1), (.int (0 : Int32))] (lenOf pd_13 rfl) rfl (Nat.le_of_eq rfl) (hb hby d17_15) rfl e3 (by decide) (by decide) fun T4 Lc4 v4 X4 hQ4 => ?_
  obtain ⟨rfl, Nq4, K4, p4_0, p4_1⟩ := hQ4
  have old4 := Ol.keep K4 (allS nn_ad4 all0)
  have kp4 := kp0.trans K4 (allS (Or.inl (List.mem_of_getElem? (i := 0) rfl)) all0)
  have N4 := Fr.app N1 Nq4
  show Go p e below _ (T4.setTop (mkF m 18 _ []))
  refine Go.retV X4 hx Bd.returns Bd.notSynchronized (hb hby d17_18) (by exact ⟨rfl, N4, kp4, p4_0, p4_1⟩) (by decide) (by decide)
def Q_am13_3 (Z : State) (cs_ : Int32) (un_ : Value) (sn_ : Value) (ad1 : Addr) (ad2 : Addr) (ad3 : Addr) (kc1 : ClassId) (iv1 : Int32) (ls1 : List Value) (ad4 : Addr) (iv2 : Int32) (ls2 : List Value) (kc4 : ClassId) (h0 : Heap) (n0 : Nat) (v : Option Value) (h : Heap) (L : List Loc) : Prop := v = some (.ref ad1) ∧ Fr n0 L ∧ Keep h0 h [ad1, ad4] ∧ (Exa Z h ad1 "java/lang/StringBuilder") ∧ (Fld Z h ad1 "java/lang/AbstractStringBuilder" "coder" "B" (.int (0 : Int32))) ∧ (Fld Z h ad1 "java/lang/AbstractStringBuilder" "count" "I" (.int (iv2 + iv1))) ∧ (Fld Z h ad1 "java/lang/AbstractStringBuilder" "value" "[B" (.ref ad4)) ∧ (((cpL ls2 ls1 (0 : Int32) iv2 iv1 (.int (0 : Int32))) : List Value).length = ((34 : Int32)).toNatClampNeg) ∧ (Arv Z h ad4 kc4 .byte (34 : Int32) (cpL ls2 ls1 (0 : Int32) iv2 iv1 (.int (0 : Int32))) (.int (0 : Int32)))
set_option maxRecDepth 65536 in
set_option maxHeartbeats 40000000 in
theorem am13_3 (l : Launch) (Z : State) (a0 : Array Value) (hw : ∀ d ∈ tables_1, d.before a0 Z = true) (ws : List Jvm.Cond) (cs_ : Int32) (un_ : Value) (sn_ : Value) (HW : Wd Z cs_ un_ sn_) (ad1 : Addr) (ad2 : Addr) (ad3 : Addr) (kc1 : ClassId) (iv1 : Int32) (ls1 : List Value) (ad4 : Addr) (iv2 : Int32) (ls2 : List Value) (kc4 : ClassId) (h0 : Heap) (n0 : Nat) (Ol : Old Z n0 h0) (HF_ad2_String_value : Fld Z h0 ad2 "java/lang/String" "value" "[B" (.ref ad3)) (HV_ad3 : Arv Z h0 ad3 kc1 .byte iv1 ls1 (.int (0 : Int32))) (HE_ad2 : Exa Z h0 ad2 "java/lang/String") (HF_ad2_String_coder : Fld Z h0 ad2 "java/lang/String" "coder" "B" (.int (0 : Int32))) (HE_ad1 : Exa Z h0 ad1 "java/lang/StringBuilder") (HF_ad1_AbstractStringBuilder_value : Fld Z h0 ad1 "java/lang/AbstractStringBuilder" "value" "[B" (.ref ad4)) (HF_ad1_AbstractStringBuilder_coder : Fld Z h0 ad1 "java/lang/AbstractStringBuilder" "coder" "B" (.int (0 : Int32))) (HF_ad1_AbstractStringBuilder_count : Fld Z h0 ad1 "java/lang/AbstractStringBuilder" "count" "I" (.int iv2)) (HL_ad4 : (ls2 : List Value).length = ((34 : Int32)).toNatClampNeg) (HV_ad4 : Arv Z h0 ad4 kc4 .byte (34 : Int32) ls2 (.int (0 : Int32))) (nn_ad1 : n0 ≤ ad1) (nn_ad4 : n0 ≤ ad4) (ne_ad1_ad4 : ad1 ≠ ad4) (as0 : ((0 : Int32)).toNatClampNeg + (iv1).toNatClampNeg ≤ (iv1).toNatClampNeg) (as1 : ¬ ((0 : Int32) < ((iv2 + iv1) - (34 : Int32)))) (as2 : (iv2).toNatClampNeg + (iv1).toNatClampNeg ≤ ((34 : Int32)).toNatClampNeg) (as3 : ¬ (iv1 < (0 : Int32))) (as4 : ¬ (iv2 < (0 : Int32))) :
    MetFree l y_13 (head1 (Jvm.Cond.code y_13 jdk_68_method_22_code 3 (some (.object "java/lang/AbstractStringBuilder")) :: ws) (rm 3 0 0 47)) (fun a_ U_ => a_ = #[(.ref ad1), (.ref ad2)] ∧ Z.Warmed39 U_.vm ∧ U_.heap = h0) (fun _ _ _ _ _ => True) (fun _ U_ o_ V_ => ∃ v_ L_, o_ = .returned v_ ∧ Q_am13_3 Z cs_ un_ sn_ ad1 ad2 ad3 kc1 iv1 ls1 ad4 iv2 ls2 kc4 h0 n0 v_ V_.heap L_ ∧ FrameEnd U_ o_ V_ L_ (rm 3 0 0 47).cells (rm 3 0 0 47).slots) := by
  refine MetFree.of_bodySF (plainFor_of_name pn_3) hisR ?_
  intro p e s m args below meth c s₁ Bd hml0 hP hK
  obtain ⟨rfl, hZ, hh⟩ := hP
  have hx := Bd.exec
  have hby := Bd.bytes
  have hml : c.maxLocals = 3 := hml0
  have hown : s.vm.findClass "java/lang/AbstractStringBuilder" = some m.cls := findClass_of_methodNamed Bd.named
  have hnm := (name_of_methodNamed Bd.named Bd.method).1
  have X0 : Stand p l e (rm 3 0 0 47) s m #[(.ref ad1), (.ref ad2)] below meth c s₁ [] 0 0 := Stand.of_body Bd
  have e0 : s₁.heap = h0 := by rw [← hh, Bd.state]; rfl
  have N0 := Fr.nil n0
  have kp0 := Keep.refl h0 [ad1, ad4]
  show Go p e below (Fin1 s below (Q_am13_3 Z cs_ un_ sn_ ad1 ad2 ad3 kc1 iv1 ls1 ad4 iv2 ls2 kc4 h0 n0) (rm 3 0 0 47).cells (rm 3 0 0 47).slots) _
  refine Go.step (fun t_ k_ => castTop (ef_am13_1 m ad1 ad2) k_) ?_
  obtain ⟨S_cs, N_cs, S_un, R_un, S_sn, R_sn⟩ := id HW
  show Go p e below _ (s₁.setTop (mkF m 0 #[.val (.ref ad1), .val (.ref ad2), .unset] []))
  refine gs.aloadN X0.here hx (hb hby d13_0) rfl rfl ?_
  refine Go.fin (fun t_ k_ => XS.ifnonnullYes X0.here hx rfl (pc0 := 1) (pc' := 9) rfl (hb hby d13_1) rfl (by decide) (by decide) k_) ?_
  show Go p e below _ (s₁.setTop (mkF m 9 _ []))
  refine gs.aloadN X0.here hx (hb hby d13_9) rfl rfl ?_
  refine gs.virt 0 X0 hx hZ hown (am14_1 l Z a0 hw [] cs_ un_ sn_ HW (ad2) (ad3) (kc1) (iv1) (ls1) h0 n0 Ol HF_ad2_String_value HV_ad3 HE_ad2 HF_ad2_String_coder) (wd hw 79 rfl) (wd hw 6 rfl) (wd hw 75 rfl) (wd hw 76 rfl) (notFace_of_selects (args := #[]) (mvT hZ (wd hw 78 rfl))) (wd hw 78 rfl) (wd hw 77 rfl) (by decide) HE_ad2 (by decide) (by decide) (by rw [hml]; rfl) [] (lenOf pd_11 rfl) rfl (Nat.le_of_eq rfl) (hb hby d13_10) rfl e0 (by decide) (by decide) fun T1 Lc1 v1 X1 hQ1 => ?_
  obtain ⟨rfl, Nq1, e1⟩ := hQ1
  have N1 := Fr.app N0 Nq1
  show Go p e below _ (T1.setTop (mkF m 13 _ [(.int iv1)]))
  refine gs.istoreN X1.here hx (hb hby d13_13) (l' := #[.val (.ref ad1), .val (.ref ad2), .val (.int iv1)]) rfl ?_
  refine gs.aloadN X1.here hx (hb hby d13_14) rfl rfl ?_
  refine gs.aloadN X1.here hx (hb hby d13_15) rfl rfl ?_
  refine gs.getF X1 hx hZ hown (wd hw 85 rfl) Via.refl e1 HF_ad1_AbstractStringBuilder_count (hb hby d13_16) fun T2 X2 e2 => ?_
  refine gs.iloadN X2.here hx (hb hby d13_19) rfl ?_
  refine gs.iadd X2.here hx (hb hby d13_20) ?_
  refine gs.priv 0 X2 hx hZ hown (am16_3 l Z a0 hw [] cs_ un_ sn_ HW (ad1) ((iv2 + iv1)) (ad4) (ls2) (kc4) h0 n0 Ol HF_ad1_AbstractStringBuilder_value HF_ad1_AbstractStringBuilder_coder HV_ad4 as1) (wd hw 91 rfl) (wd hw 57 rfl) (wd hw 87 rfl) (wd hw 88 rfl) (sel_priv2 hZ (wd hw 90 rfl) (wd hw 89 rfl) (wd hw 88 rfl) (by decide)) (wd hw 89 rfl) (by decide) HE_ad1 (by decide) (by decide) (by rw [hml]; rfl) [(.int (iv2 + iv1))] (lenOf pd_8 rfl) rfl (Nat.le_of_eq rfl) (hb hby d13_21) rfl e2 (by decide) (by decide) fun T3 Lc3 v3 X3 hQ3 => ?_
  obtain ⟨rfl, Nq3, e3⟩ := hQ3
  have N3 := Fr.app N1 Nq3
  show Go p e below _ (T3.setTop (mkF m 24 _ []))
  refine gs.aloadN X3.here hx (hb hby d13_24) rfl rfl ?_
  refine gs.aloadN X3.here hx (hb hby d13_25) rfl rfl ?_
  refine gs.getF X3 hx hZ hown (wd hw 85 rfl) Via.refl e3 HF_ad1_AbstractStringBuilder_count (hb hby d13_26) fun T4 X4 e4 => ?_
  refine gs.aloadN X4.here hx (hb hby d13_29) rfl rfl ?_
  refine gs.priv 0 X4 hx hZ hown (am17_3 l Z a0 hw [] cs_ un_ sn_ HW (ad1) (iv2) (ad2) (ad3) (kc1) (iv1) (ls1) (ad4) (ls2) (kc4) h0 n0 Ol HF_ad2_String_value HV_ad3 HE_ad2 HF_ad2_String_coder HE_ad1 HF_ad1_AbstractStringBuilder_value HF_ad1_AbstractStringBuilder_coder HL_ad4 HV_ad4 nn_ad4 as0 as2 as4 as3) (wd hw 96 rfl) (wd hw 57 rfl) (wd hw 92 rfl) (wd hw 93 rfl) (sel_priv2 hZ (wd hw 95 rfl) (wd hw 94 rfl) (wd hw 93 rfl) (by decide)) (wd hw 94 rfl) (by decide) HE_ad1 (by decide) (by decide) (by rw [hml]; rfl) [(.int iv2), (.ref ad2)] (lenOf pd_14 rfl) rfl (Nat.le_of_eq rfl) (hb hby d13_30) rfl e4 (by decide) (by decide) fun T5 Lc5 v5 X5 hQ5 => ?_
  obtain ⟨rfl, Nq5, K5, p5_0, p5_1⟩ := hQ5
  have old5 := Ol.keep K5 (allS nn_ad4 all0)
  have kp5 := kp0.trans K5 (allS (Or.inl (List.mem_of_getElem? (i := 1) rfl)) all0)
  have N5 := Fr.app N3 Nq5
  show Go p e below _ (T5.setTop (mkF m 33 _ []))
  refine gs.aloadN X5.here hx (hb hby d13_33) rfl rfl ?_
  refine gs.dup X5.here hx (hb hby d13_34) rfl ?_
  have f6 := (HF_ad1_AbstractStringBuilder_count.keep K5 (ninS ne_ad1_ad4 nin0))
  refine gs.getF X5 hx hZ hown (wd hw 85 rfl) Via.refl rfl f6 (hb hby d13_35) fun T7 X7 e7 => ?_
  refine gs.iloadN X7.here hx (hb hby d13_38) rfl ?_
  refine gs.iadd X7.here hx (hb hby d13_39) ?_
  have f8 := (HE_ad1.keep K5)
  obtain ⟨T9, h9, X9, e9, W9, st9⟩ := putF X7 hx hZ hown (host := "") (Or.inl (wd hw 85 rfl)) Via.refl e7 f6 f8 (Or.inl (wd hw 86 rfl)) (wd hw 48 rfl) (ty := .int) (by decide) rfl rfl (g := (mkF m 40 #[.val (.ref ad1), .val (.ref ad2), .val (.int iv1)] [(.int (iv2 + iv1)), (.ref ad1)])) rfl rfl (hb hby d13_40)
  have N9 := Fr.snoc X9 N5 nn_ad1
  have old9 := old5.wr W9 nn_ad1
  have kp9 := kp5.wr W9 (Or.inl (List.mem_of_getElem? (i := 0) rfl))
  have F9 := f6.same W9
  refine Go.fin st9 ?_
  show Go p e below _ (T9.setTop (mkF m 43 _ []))
  refine gs.aloadN X9.here hx (hb hby d13_43) rfl rfl ?_
  have f10 := (f8.wr W9)
  have f11 := ((HF_ad1_AbstractStringBuilder_coder.keep K5 (ninS ne_ad1_ad4 nin0)).other W9 (Or.inr (sn6 hw)))
  have f12 := ((HF_ad1_AbstractStringBuilder_value.keep K5 (ninS ne_ad1_ad4 nin0)).other W9 (Or.inr (sn7 hw)))
  have f13 := p5_0
  have f14 := (p5_1.other W9 (Ne.symm ne_ad1_ad4))
  refine Go.retR X9 hx Bd.returns rfl rfl Bd.notSynchronized (hb hby d13_44) (by rw [e9]; exact ⟨rfl, N9, kp9, f10, f11, F9, f12, f13, f14⟩) (by decide) (by decide)
def Q_am12_3 (Z : State) (cs_ : Int32) (un_ : Value) (sn_ : Value) (ad1 : Addr) (ad2 : Addr) (ad3 : Addr) (kc1 : ClassId) (iv1 : Int32) (ls1 : List Value) (ad4 : Addr) (iv2 : Int32) (ls2 : List Value) (kc4 : ClassId) (h0 : Heap) (n0 : Nat) (v : Option Value) (h : Heap) (L : List Loc) : Prop := v = some (.ref ad1) ∧ Fr n0 L ∧ Keep h0 h [ad1, ad4] ∧ (Exa Z h ad1 "java/lang/StringBuilder") ∧ (Fld Z h ad1 "java/lang/AbstractStringBuilder" "coder" "B" (.int (0 : Int32))) ∧ (Fld Z h ad1 "java/lang/AbstractStringBuilder" "count" "I" (.int (iv2 + iv1))) ∧ (Fld Z h ad1 "java/lang/AbstractStringBuilder" "value" "[B" (.ref ad4)) ∧ (((cpL ls2 ls1 (0 : Int32) iv2 iv1 (.int (0 : Int32))) : List Value).length = ((34 : Int32)).toNatClampNeg) ∧ (Arv Z h ad4 kc4 .byte (34 : Int32) (cpL ls2 ls1 (0 : Int32) iv2 iv1 (.int (0 : Int32))) (.int (0 : Int32)))
set_option maxRecDepth 65536 in
set_option maxHeartbeats 40000000 in
theorem am12_3 (l : Launch) (Z : State) (a0 : Array Value) (hw : ∀ d ∈ tables_1, d.before a0 Z = true) (ws : List Jvm.Cond) (cs_ : Int32) (un_ : Value) (sn_ : Value) (HW : Wd Z cs_ un_ sn_) (ad1 : Addr) (ad2 : Addr) (ad3 : Addr) (kc1 : ClassId) (iv1 : Int32) (ls1 : List Value) (ad4 : Addr) (iv2 : Int32) (ls2 : List Value) (kc4 : ClassId) (h0 : Heap) (n0 : Nat) (Ol : Old Z n0 h0) (HF_ad2_String_value : Fld Z h0 ad2 "java/lang/String" "value" "[B" (.ref ad3)) (HV_ad3 : Arv Z h0 ad3 kc1 .byte iv1 ls1 (.int (0 : Int32))) (HE_ad2 : Exa Z h0 ad2 "java/lang/String") (HF_ad2_String_coder : Fld Z h0 ad2 "java/lang/String" "coder" "B" (.int (0 : Int32))) (HE_ad1 : Exa Z h0 ad1 "java/lang/StringBuilder") (HF_ad1_AbstractStringBuilder_value : Fld Z h0 ad1 "java/lang/AbstractStringBuilder" "value" "[B" (.ref ad4)) (HF_ad1_AbstractStringBuilder_coder : Fld Z h0 ad1 "java/lang/AbstractStringBuilder" "coder" "B" (.int (0 : Int32))) (HF_ad1_AbstractStringBuilder_count : Fld Z h0 ad1 "java/lang/AbstractStringBuilder" "count" "I" (.int iv2)) (HL_ad4 : (ls2 : List Value).length = ((34 : Int32)).toNatClampNeg) (HV_ad4 : Arv Z h0 ad4 kc4 .byte (34 : Int32) ls2 (.int (0 : Int32))) (nn_ad1 : n0 ≤ ad1) (nn_ad4 : n0 ≤ ad4) (ne_ad1_ad4 : ad1 ≠ ad4) (as0 : ((0 : Int32)).toNatClampNeg + (iv1).toNatClampNeg ≤ (iv1).toNatClampNeg) (as1 : ¬ ((0 : Int32) < ((iv2 + iv1) - (34 : Int32)))) (as2 : (iv2).toNatClampNeg + (iv1).toNatClampNeg ≤ ((34 : Int32)).toNatClampNeg) (as3 : ¬ (iv1 < (0 : Int32))) (as4 : ¬ (iv2 < (0 : Int32))) :
    MetFree l y_12 (head1 (Jvm.Cond.code y_12 jdk_67_method_7_code 2 (some (.object "java/lang/StringBuilder")) :: ws) (rm 4 0 0 61)) (fun a_ U_ => a_ = #[(.ref ad1), (.ref ad2)] ∧ Z.Warmed39 U_.vm ∧ U_.heap = h0) (fun _ _ _ _ _ => True) (fun _ U_ o_ V_ => ∃ v_ L_, o_ = .returned v_ ∧ Q_am12_3 Z cs_ un_ sn_ ad1 ad2 ad3 kc1 iv1 ls1 ad4 iv2 ls2 kc4 h0 n0 v_ V_.heap L_ ∧ FrameEnd U_ o_ V_ L_ (rm 4 0 0 61).cells (rm 4 0 0 61).slots) := by
  refine MetFree.of_bodySF (plainFor_of_name pn_4) hisR ?_
  intro p e s m args below meth c s₁ Bd hml0 hP hK
  obtain ⟨rfl, hZ, hh⟩ := hP
  have hx := Bd.exec
  have hby := Bd.bytes
  have hml : c.maxLocals = 2 := hml0
  have hown : s.vm.findClass "java/lang/StringBuilder" = some m.cls := findClass_of_methodNamed Bd.named
  have hnm := (name_of_methodNamed Bd.named Bd.method).1
  have X0 : Stand p l e (rm 4 0 0 61) s m #[(.ref ad1), (.ref ad2)] below meth c s₁ [] 0 0 := Stand.of_body Bd
  have e0 : s₁.heap = h0 := by rw [← hh, Bd.state]; rfl
  have N0 := Fr.nil n0
  have kp0 := Keep.refl h0 [ad1, ad4]
  show Go p e below (Fin1 s below (Q_am12_3 Z cs_ un_ sn_ ad1 ad2 ad3 kc1 iv1 ls1 ad4 iv2 ls2 kc4 h0 n0) (rm 4 0 0 61).cells (rm 4 0 0 61).slots) _
  refine Go.step (fun t_ k_ => castTop (ef_am12_1 m ad1 ad2) k_) ?_
  obtain ⟨S_cs, N_cs, S_un, R_un, S_sn, R_sn⟩ := id HW
  show Go p e below _ (s₁.setTop (mkF m 0 #[.val (.ref ad1), .val (.ref ad2)] []))
  refine gs.aloadN X0.here hx (hb hby d12_0) rfl rfl ?_
  refine gs.aloadN X0.here hx (hb hby d12_1) rfl rfl ?_
  obtain ⟨_, _, ⟨T1, L1, k1, n1⟩, -, X1, ⟨Lc1, hQ1, l1, y1, z1⟩, st1⟩ := superBack X0 hx hZ (y := y_13) hown (wd hw 70 rfl) (same_self (wd hw 90 rfl) rfl (wd hw 71 rfl) (by decide)) (wd hw 71 rfl) (wd hw 72 rfl) (by decide) (backOf (W := 0) (am13_3 l Z a0 hw [] cs_ un_ sn_ HW (ad1) (ad2) (ad3) (kc1) (iv1) (ls1) (ad4) (iv2) (ls2) (kc4) h0 n0 Ol HF_ad2_String_value HV_ad3 HE_ad2 HF_ad2_String_coder HE_ad1 HF_ad1_AbstractStringBuilder_value HF_ad1_AbstractStringBuilder_coder HF_ad1_AbstractStringBuilder_count HL_ad4 HV_ad4 nn_ad1 nn_ad4 ne_ad1_ad4 as0 as1 as2 as3 as4) hZ (wd hw 74 rfl) (wd hw 57 rfl) (by decide) (by decide)) e0 (Ins.self HE_ad1) (g := (mkF m 2 #[.val (.ref ad1), .val (.ref ad2)] [(.ref ad2), (.ref ad1)])) rfl (by rw [hml]; rfl) (wd hw 74 rfl) (argsL := [(.ref ad2)]) (rest := []) (lenOf pd_15 rfl) rfl (by show 2 * 0 + _ ≤ _; exact Nat.le_of_eq rfl) (hb hby d12_2) (fun _ _ => ⟨rfl, e0, (by decide : 0 + 0 ≤ _), (by decide : 0 + 0 ≤ _)⟩)
  dsimp only [Pt.U, Pt.locs, Pt.cells, Pt.slots] at X1 l1 y1 z1 st1 hQ1
  subst l1 y1 z1
  obtain ⟨rfl, Nq1, K1, p1_0, p1_1, p1_2, p1_3, p1_4, p1_5⟩ := hQ1
  have old1 := Ol.keep K1 (allS nn_ad1 (allS nn_ad4 all0))
  have kp1 := kp0.trans K1 (allS (Or.inl (List.mem_of_getElem? (i := 0) rfl)) (allS (Or.inl (List.mem_of_getElem? (i := 1) rfl)) all0))
  have N1 := Fr.app N0 Nq1
  refine Go.step (fun t_ k_ => st1.trans k_) ?_
  show Go p e below _ (T1.setTop (mkF m 5 #[.val (.ref ad1), .val (.ref ad2)] [(.ref ad1)]))
  refine gs.pop X1.here hx (hb hby d12_5) rfl ?_
  refine gs.aloadN X1.here hx (hb hby d12_6) rfl rfl ?_
  refine Go.retR X1 hx Bd.returns rfl rfl Bd.notSynchronized (hb hby d12_7) (by exact ⟨rfl, N1, kp1, p1_0, p1_1, p1_2, p1_3, p1_4, p1_5⟩) (by decide) (by decide)
theorem d9_24 : decode c_9 24 = .ok (.invokevirtual 113, 3) := by decide +kernel
theorem d25_0 : decode c_25 0 = .ok (.new 18, 3) := by decide +kernel
theorem d25_3 : decode c_25 3 = .ok (.dup, 1) := by decide +kernel
theorem d25_4 : decode c_25 4 = .ok (.aload_n 0, 1) := by decide +kernel
theorem d25_5 : decode c_25 5 = .ok (.invokespecial 137, 3) := by decide +kernel
theorem d26_0 : decode c_26 0 = .ok (.aload_n 0, 1) := by decide +kernel
theorem d26_1 : decode c_26 1 = .ok (.aload_n 1, 1) := by decide +kernel
theorem d26_2 : decode c_26 2 = .ok (.aconst_null, 1) := by decide +kernel
theorem d26_3 : decode c_26 3 = .ok (.invokespecial 489, 3) := by decide +kernel
theorem d27_0 : decode c_27 0 = .ok (.aload_n 0, 1) := by decide +kernel
theorem d27_1 : decode c_27 1 = .ok (.invokespecial 1, 3) := by decide +kernel
theorem d27_4 : decode c_27 4 = .ok (.aload_n 1, 1) := by decide +kernel
theorem d27_5 : decode c_27 5 = .ok (.invokevirtual 552, 3) := by decide +kernel
theorem d28_0 : decode c_28 0 = .ok (.aload_n 0, 1) := by decide +kernel
theorem d28_1 : decode c_28 1 = .ok (.getfield 15, 3) := by decide +kernel
theorem d28_4 : decode c_28 4 = .ok (.areturn, 1) := by decide +kernel
theorem ef_am28_1 (m : MethodId) (x0 : Addr)  : entryFrame m #[(.ref x0)] 1 = mkF m 0 #[.val (.ref x0)] [] := by first | (simp [entryFrame, mkF, argsToLocals, Value.category]; done) | rfl
def Q_am28_1 (Z : State) (cs_ : Int32) (un_ : Value) (sn_ : Value) (ad1 : Addr) (ad2 : Addr) (h0 : Heap) (n0 : Nat) (v : Option Value) (h : Heap) (L : List Loc) : Prop := v = some (.ref ad2) ∧ Fr n0 L ∧ h = h0
set_option maxRecDepth 65536 in
set_option maxHeartbeats 40000000 in
theorem am28_1 (l : Launch) (Z : State) (a0 : Array Value) (hw : ∀ d ∈ tables_1, d.before a0 Z = true) (ws : List Jvm.Cond) (cs_ : Int32) (un_ : Value) (sn_ : Value) (HW : Wd Z cs_ un_ sn_) (ad1 : Addr) (ad2 : Addr) (h0 : Heap) (n0 : Nat) (Ol : Old Z n0 h0) (HF_ad1_AbstractStringBuilder_value : Fld Z h0 ad1 "java/lang/AbstractStringBuilder" "value" "[B" (.ref ad2)) :
    MetFree l y_28 (head1 (Jvm.Cond.code y_28 jdk_68_method_64_code 1 (some (.array .byte)) :: ws) (rm 0 0 0 0)) (fun a_ U_ => a_ = #[(.ref ad1)] ∧ Z.Warmed39 U_.vm ∧ U_.heap = h0) (fun _ _ _ _ _ => True) (fun _ U_ o_ V_ => ∃ v_ L_, o_ = .returned v_ ∧ Q_am28_1 Z cs_ un_ sn_ ad1 ad2 h0 n0 v_ V_.heap L_ ∧ FrameEnd U_ o_ V_ L_ (rm 0 0 0 0).cells (rm 0 0 0 0).slots) := by
  refine MetFree.of_bodySF (plainFor_of_name pn_3) hisR ?_
  intro p e s m args below meth c s₁ Bd hml0 hP hK
  obtain ⟨rfl, hZ, hh⟩ := hP
  have hx := Bd.exec
  have hby := Bd.bytes
  have hml : c.maxLocals = 1 := hml0
  have hown : s.vm.findClass "java/lang/AbstractStringBuilder" = some m.cls := findClass_of_methodNamed Bd.named
  have hnm := (name_of_methodNamed Bd.named Bd.method).1
  have X0 : Stand p l e (rm 0 0 0 0) s m #[(.ref ad1)] below meth c s₁ [] 0 0 := Stand.of_body Bd
  have e0 : s₁.heap = h0 := by rw [← hh, Bd.state]; rfl
  have N0 := Fr.nil n0
  have kp0 := Keep.refl h0 []
  show Go p e below (Fin1 s below (Q_am28_1 Z cs_ un_ sn_ ad1 ad2 h0 n0) (rm 0 0 0 0).cells (rm 0 0 0 0).slots) _
  refine Go.step (fun t_ k_ => castTop (ef_am28_1 m ad1) k_) ?_
  obtain ⟨S_cs, N_cs, S_un, R_un, S_sn, R_sn⟩ := id HW
  show Go p e below _ (s₁.setTop (mkF m 0 #[.val (.ref ad1)] []))
  refine gs.aloadN X0.here hx (hb hby d28_0) rfl rfl ?_
  refine gs.getF X0 hx hZ hown (wd hw 61 rfl) Via.refl e0 HF_ad1_AbstractStringBuilder_value (hb hby d28_1) fun T1 X1 e1 => ?_
  refine Go.retR X1 hx Bd.returns rfl rfl Bd.notSynchronized (hb hby d28_4) (by rw [e1]; exact ⟨rfl, N0, rfl⟩) (by decide) (by decide)
theorem pd_21 : parseMethodDescriptor "()[B" = some ⟨[], some (.array .byte)⟩ := by decide +kernel
theorem d27_8 : decode c_27 8 = .ok (.astore_n 3, 1) := by decide +kernel
theorem d27_9 : decode c_27 9 = .ok (.aload_n 1, 1) := by decide +kernel
theorem d27_10 : decode c_27 10 = .ok (.invokevirtual 549, 3) := by decide +kernel
theorem d29_0 : decode c_29 0 = .ok (.aload_n 0, 1) := by decide +kernel
theorem d29_1 : decode c_29 1 = .ok (.invokespecial 343, 3) := by decide +kernel
theorem d30_0 : decode c_30 0 = .ok (.aload_n 0, 1) := by decide +kernel
theorem d30_1 : decode c_30 1 = .ok (.getfield 79, 3) := by decide +kernel
theorem d30_4 : decode c_30 4 = .ok (.ireturn, 1) := by decide +kernel
theorem ef_am30_1 (m : MethodId) (x0 : Addr)  : entryFrame m #[(.ref x0)] 1 = mkF m 0 #[.val (.ref x0)] [] := by first | (simp [entryFrame, mkF, argsToLocals, Value.category]; done) | rfl
def Q_am30_1 (Z : State) (cs_ : Int32) (un_ : Value) (sn_ : Value) (ad1 : Addr) (iv1 : Int32) (h0 : Heap) (n0 : Nat) (v : Option Value) (h : Heap) (L : List Loc) : Prop := v = some (.int iv1) ∧ Fr n0 L ∧ h = h0
set_option maxRecDepth 65536 in
set_option maxHeartbeats 40000000 in
theorem am30_1 (l : Launch) (Z : State) (a0 : Array Value) (hw : ∀ d ∈ tables_1, d.before a0 Z = true) (ws : List Jvm.Cond) (cs_ : Int32) (un_ : Value) (sn_ : Value) (HW : Wd Z cs_ un_ sn_) (ad1 : Addr) (iv1 : Int32) (h0 : Heap) (n0 : Nat) (Ol : Old Z n0 h0) (HF_ad1_AbstractStringBuilder_count : Fld Z h0 ad1 "java/lang/AbstractStringBuilder" "count" "I" (.int iv1)) :
    MetFree l y_30 (head1 (Jvm.Cond.code y_30 jdk_68_method_6_code 1 (some .int) :: ws) (rm 0 0 0 0)) (fun a_ U_ => a_ = #[(.ref ad1)] ∧ Z.Warmed39 U_.vm ∧ U_.heap = h0) (fun _ _ _ _ _ => True) (fun _ U_ o_ V_ => ∃ v_ L_, o_ = .returned v_ ∧ Q_am30_1 Z cs_ un_ sn_ ad1 iv1 h0 n0 v_ V_.heap L_ ∧ FrameEnd U_ o_ V_ L_ (rm 0 0 0 0).cells (rm 0 0 0 0).slots) := by
  refine MetFree.of_bodySF (plainFor_of_name pn_3) hisR ?_
  intro p e s m args below meth c s₁ Bd hml0 hP hK
  obtain ⟨rfl, hZ, hh⟩ := hP
  have hx := Bd.exec
  have hby := Bd.bytes
  have hml : c.maxLocals = 1 := hml0
  have hown : s.vm.findClass "java/lang/AbstractStringBuilder" = some m.cls := findClass_of_methodNamed Bd.named
  have hnm := (name_of_methodNamed Bd.named Bd.method).1
  have X0 : Stand p l e (rm 0 0 0 0) s m #[(.ref ad1)] below meth c s₁ [] 0 0 := Stand.of_body Bd
  have e0 : s₁.heap = h0 := by rw [← hh, Bd.state]; rfl
  have N0 := Fr.nil n0
  have kp0 := Keep.refl h0 []
  show Go p e below (Fin1 s below (Q_am30_1 Z cs_ un_ sn_ ad1 iv1 h0 n0) (rm 0 0 0 0).cells (rm 0 0 0 0).slots) _
  refine Go.step (fun t_ k_ => castTop (ef_am30_1 m ad1) k_) ?_
  obtain ⟨S_cs, N_cs, S_un, R_un, S_sn, R_sn⟩ := id HW
  show Go p e below _ (s₁.setTop (mkF m 0 #[.val (.ref ad1)] []))
  refine gs.aloadN X0.here hx (hb hby d30_0) rfl rfl ?_
  refine gs.getF X0 hx hZ hown (wd hw 85 rfl) Via.refl e0 HF_ad1_AbstractStringBuilder_count (hb hby d30_1) fun T1 X1 e1 => ?_
  refine Go.retI X1 hx Bd.returns Bd.notSynchronized (hb hby d30_4) (by rw [e1]; exact ⟨rfl, N0, rfl⟩) (by decide) (by decide)
theorem d29_4 : decode c_29 4 = .ok (.ireturn, 1) := by decide +kernel
theorem ef_am29_1 (m : MethodId) (x0 : Addr)  : entryFrame m #[(.ref x0)] 1 = mkF m 0 #[.val (.ref x0)] [] := by first | (simp [entryFrame, mkF, argsToLocals, Value.category]; done) | rfl
def Q_am29_1 (Z : State) (cs_ : Int32) (un_ : Value) (sn_ : Value) (ad1 : Addr) (iv1 : Int32) (h0 : Heap) (n0 : Nat) (v : Option Value) (h : Heap) (L : List Loc) : Prop := v = some (.int iv1) ∧ Fr n0 L ∧ h = h0
set_option maxRecDepth 65536 in
set_option maxHeartbeats 40000000 in
theorem am29_1 (l : Launch) (Z : State) (a0 : Array Value) (hw : ∀ d ∈ tables_1, d.before a0 Z = true) (ws : List Jvm.Cond) (cs_ : Int32) (un_ : Value) (sn_ : Value) (HW : Wd Z cs_ un_ sn_) (ad1 : Addr) (iv1 : Int32) (h0 : Heap) (n0 : Nat) (Ol : Old Z n0 h0) (HE_ad1 : Exa Z h0 ad1 "java/lang/StringBuilder") (HF_ad1_AbstractStringBuilder_count : Fld Z h0 ad1 "java/lang/AbstractStringBuilder" "count" "I" (.int iv1)) :
    MetFree l y_29 (head1 (Jvm.Cond.code y_29 jdk_67_method_93_code 1 (some .int) :: ws) (rm 1 0 0 12)) (fun a_ U_ => a_ = #[(.ref ad1)] ∧ Z.Warmed39 U_.vm ∧ U_.heap = h0) (fun _ _ _ _ _ => True) (fun _ U_ o_ V_ => ∃ v_ L_, o_ = .returned v_ ∧ Q_am29_1 Z cs_ un_ sn_ ad1 iv1 h0 n0 v_ V_.heap L_ ∧ FrameEnd U_ o_ V_ L_ (rm 1 0 0 12).cells (rm 1 0 0 12).slots) := by
  refine MetFree.of_bodySF (plainFor_of_name pn_4) hisR ?_
  intro p e s m args below meth c s₁ Bd hml0 hP hK
  obtain ⟨rfl, hZ, hh⟩ := hP
  have hx := Bd.exec
  have hby := Bd.bytes
  have hml : c.maxLocals = 1 := hml0
  have hown : s.vm.findClass "java/lang/StringBuilder" = some m.cls := findClass_of_methodNamed Bd.named
  have hnm := (name_of_methodNamed Bd.named Bd.method).1
  have X0 : Stand p l e (rm 1 0 0 12) s m #[(.ref ad1)] below meth c s₁ [] 0 0 := Stand.of_body Bd
  have e0 : s₁.heap = h0 := by rw [← hh, Bd.state]; rfl
  have N0 := Fr.nil n0
  have kp0 := Keep.refl h0 []
  show Go p e below (Fin1 s below (Q_am29_1 Z cs_ un_ sn_ ad1 iv1 h0 n0) (rm 1 0 0 12).cells (rm 1 0 0 12).slots) _
  refine Go.step (fun t_ k_ => castTop (ef_am29_1 m ad1) k_) ?_
  obtain ⟨S_cs, N_cs, S_un, R_un, S_sn, R_sn⟩ := id HW
  show Go p e below _ (s₁.setTop (mkF m 0 #[.val (.ref ad1)] []))
  refine gs.aloadN X0.here hx (hb hby d29_0) rfl rfl ?_
  obtain ⟨_, _, ⟨T1, L1, k1, n1⟩, -, X1, ⟨Lc1, hQ1, l1, y1, z1⟩, st1⟩ := superBack X0 hx hZ (y := y_30) hown (wd hw 159 rfl) (same_self (wd hw 90 rfl) rfl (wd hw 155 rfl) (by decide)) (wd hw 155 rfl) (wd hw 72 rfl) (by decide) (backOf (W := 0) (am30_1 l Z a0 hw [] cs_ un_ sn_ HW (ad1) (iv1) h0 n0 Ol HF_ad1_AbstractStringBuilder_count) hZ (wd hw 160 rfl) (wd hw 57 rfl) (by decide) (by decide)) e0 (Ins.self HE_ad1) (g := (mkF m 1 #[.val (.ref ad1)] [(.ref ad1)])) rfl (by rw [hml]; rfl) (wd hw 160 rfl) (argsL := []) (rest := []) (lenOf pd_11 rfl) rfl (by show 2 * 0 + _ ≤ _; exact Nat.le_of_eq rfl) (hb hby d29_1) (fun _ _ => ⟨rfl, e0, (by decide : 0 + 0 ≤ _), (by decide : 0 + 0 ≤ _)⟩)
  dsimp only [Pt.U, Pt.locs, Pt.cells, Pt.slots] at X1 l1 y1 z1 st1 hQ1
  subst l1 y1 z1
  obtain ⟨rfl, Nq1, e1⟩ := hQ1
  have N1 := Fr.app N0 Nq1
  refine Go.step (fun t_ k_ => st1.trans k_) ?_
  show Go p e below _ (T1.setTop (mkF m 4 #[.val (.ref ad1)] [(.int iv1)]))
  refine Go.retI X1 hx Bd.returns Bd.notSynchronized (hb hby d29_4) (by rw [e1]; exact ⟨rfl, N1, rfl⟩) (by decide) (by decide)
theorem d27_13 : decode c_27 13 = .ok (.istore 4, 2) := by decide +kernel
theorem d27_15 : decode c_27 15 = .ok (.aload_n 1, 1) := by decide +kernel
theorem d27_16 : decode c_27 16 = .ok (.invokevirtual 1047, 3) := by decide +kernel
theorem d31_0 : decode c_31 0 = .ok (.getstatic 18, 3) := by decide +kernel
theorem d31_3 : decode c_31 3 = .ok (.ifCond .eq 14, 3) := by decide +kernel
theorem d31_6 : decode c_31 6 = .ok (.aload_n 0, 1) := by decide +kernel
theorem d31_7 : decode c_31 7 = .ok (.getfield 22, 3) := by decide +kernel
theorem d31_10 : decode c_31 10 = .ok (.ifCond .ne 7, 3) := by decide +kernel
theorem d31_13 : decode c_31 13 = .ok (.iconst 1, 1) := by decide +kernel
theorem d31_14 : decode c_31 14 = .ok (.goto 4, 3) := by decide +kernel
theorem d31_18 : decode c_31 18 = .ok (.ireturn, 1) := by decide +kernel
theorem ef_am31_1 (m : MethodId) (x0 : Addr)  : entryFrame m #[(.ref x0)] 1 = mkF m 0 #[.val (.ref x0)] [] := by first | (simp [entryFrame, mkF, argsToLocals, Value.category]; done) | rfl
def Q_am31_1 (Z : State) (cs_ : Int32) (un_ : Value) (sn_ : Value) (ad1 : Addr) (h0 : Heap) (n0 : Nat) (v : Option Value) (h : Heap) (L : List Loc) : Prop := v = some (.int (1 : Int32)) ∧ Fr n0 L ∧ h = h0
set_option maxRecDepth 65536 in
set_option maxHeartbeats 40000000 in
theorem am31_1 (l : Launch) (Z : State) (a0 : Array Value) (hw : ∀ d ∈ tables_1, d.before a0 Z = true) (ws : List Jvm.Cond) (cs_ : Int32) (un_ : Value) (sn_ : Value) (HW : Wd Z cs_ un_ sn_) (ad1 : Addr) (h0 : Heap) (n0 : Nat) (Ol : Old Z n0 h0) (HF_ad1_AbstractStringBuilder_coder : Fld Z h0 ad1 "java/lang/AbstractStringBuilder" "coder" "B" (.int (0 : Int32))) :
    MetFree l y_31 (head1 (Jvm.Cond.code y_31 jdk_68_method_68_code 1 (some .boolean) :: ws) (rm 0 0 0 0)) (fun a_ U_ => a_ = #[(.ref ad1)] ∧ Z.Warmed39 U_.vm ∧ U_.heap = h0) (fun _ _ _ _ _ => True) (fun _ U_ o_ V_ => ∃ v_ L_, o_ = .returned v_ ∧ Q_am31_1 Z cs_ un_ sn_ ad1 h0 n0 v_ V_.heap L_ ∧ FrameEnd U_ o_ V_ L_ (rm 0 0 0 0).cells (rm 0 0 0 0).slots) := by
  refine MetFree.of_bodySF (plainFor_of_name pn_3) hisR ?_
  intro p e s m args below meth c s₁ Bd hml0 hP hK
  obtain ⟨rfl, hZ, hh⟩ := hP
  have hx := Bd.exec
  have hby := Bd.bytes
  have hml : c.maxLocals = 1 := hml0
  have hown : s.vm.findClass "java/lang/AbstractStringBuilder" = some m.cls := findClass_of_methodNamed Bd.named
  have hnm := (name_of_methodNamed Bd.named Bd.method).1
  have X0 : Stand p l e (rm 0 0 0 0) s m #[(.ref ad1)] below meth c s₁ [] 0 0 := Stand.of_body Bd
  have e0 : s₁.heap = h0 := by rw [← hh, Bd.state]; rfl
  have N0 := Fr.nil n0
  have kp0 := Keep.refl h0 []
  show Go p e below (Fin1 s below (Q_am31_1 Z cs_ un_ sn_ ad1 h0 n0) (rm 0 0 0 0).cells (rm 0 0 0 0).slots) _
  refine Go.step (fun t_ k_ => castTop (ef_am31_1 m ad1) k_) ?_
  obtain ⟨S_cs, N_cs, S_un, R_un, S_sn, R_sn⟩ := id HW
  show Go p e below _ (s₁.setTop (mkF m 0 #[.val (.ref ad1)] []))
  obtain ⟨T1, X1, e1, st1⟩ := getS2 X0 hx hZ hown (host := "") (Or.inl (wd hw 60 rfl)) Via.refl e0 (S_cs.ext Ol.2) (g := (mkF m 0 #[.val (.ref ad1)] [])) rfl (hb hby d31_0)
  refine Go.fin st1 ?_
  show Go p e below _ (T1.setTop (mkF m 3 _ [(.int cs_)]))
  have hc3 : ¬ (cs_ = (0 : Int32)) := N_cs
  refine gs.ifNo X1.here hx (hb hby d31_3) ((if0 _ _).trans (feq hc3).1) ?_
  refine gs.aloadN X1.here hx (hb hby d31_6) rfl rfl ?_
  refine gs.getF X1 hx hZ hown (wd hw 63 rfl) Via.refl e1 HF_ad1_AbstractStringBuilder_coder (hb hby d31_7) fun T2 X2 e2 => ?_
  have hc10 : (0 : Int32) = (0 : Int32) := by decide
  refine gs.ifNo X2.here hx (hb hby d31_10) ((if0 _ _).trans (teq hc10).2) ?_
  refine gs.iconst 1 X2.here hx (hb hby d31_13) rfl ?_
  refine gs.goto 18 X2.here hx (hb hby d31_14) rfl ?_
  refine Go.retZ X2 hx (t := .boolean) Bd.returns (by simp) Bd.notSynchronized (hb hby d31_18) (by rw [e2]; exact ⟨rfl, N0, rfl⟩) (by decide) (by decide)
theorem pd_22 : parseMethodDescriptor "()Z" = some ⟨[], some .boolean⟩ := by decide +kernel
theorem d27_19 : decode c_27 19 = .ok (.ifCond .eq 22, 3) := by decide +kernel
theorem d27_22 : decode c_27 22 = .ok (.aload_n 0, 1) := by decide +kernel
theorem d27_23 : decode c_27 23 = .ok (.iconst 0, 1) := by decide +kernel
theorem d27_24 : decode c_27 24 = .ok (.putfield 15, 3) := by decide +kernel
theorem d27_27 : decode c_27 27 = .ok (.aload_n 0, 1) := by decide +kernel
theorem d27_28 : decode c_27 28 = .ok (.aload_n 3, 1) := by decide +kernel
theorem d27_29 : decode c_27 29 = .ok (.iconst 0, 1) := by decide +kernel
theorem d27_30 : decode c_27 30 = .ok (.iload 4, 2) := by decide +kernel
theorem d27_32 : decode c_27 32 = .ok (.invokestatic 54, 3) := by decide +kernel
theorem d32_0 : decode c_32 0 = .ok (.iload_n 1, 1) := by decide +kernel
theorem d32_1 : decode c_32 1 = .ok (.ifCond .ne 9, 3) := by decide +kernel
theorem d32_4 : decode c_32 4 = .ok (.iload_n 2, 1) := by decide +kernel
theorem d32_5 : decode c_32 5 = .ok (.aload_n 0, 1) := by decide +kernel
theorem d32_6 : decode c_32 6 = .ok (.arraylength, 1) := by decide +kernel
theorem d32_7 : decode c_32 7 = .ok (.if_icmp .eq 10, 3) := by decide +kernel
theorem d32_10 : decode c_32 10 = .ok (.aload_n 0, 1) := by decide +kernel
theorem d32_11 : decode c_32 11 = .ok (.iload_n 1, 1) := by decide +kernel
theorem d32_12 : decode c_32 12 = .ok (.iload_n 2, 1) := by decide +kernel
theorem d32_13 : decode c_32 13 = .ok (.invokestatic 339, 3) := by decide +kernel
theorem d33_0 : decode c_33 0 = .ok (.iload_n 1, 1) := by decide +kernel
theorem d33_1 : decode c_33 1 = .ok (.iload_n 2, 1) := by decide +kernel
theorem d33_2 : decode c_33 2 = .ok (.invokestatic 343, 3) := by decide +kernel
theorem d34_0 : decode c_34 0 = .ok (.iload_n 1, 1) := by decide +kernel
theorem d34_1 : decode c_34 1 = .ok (.iload_n 0, 1) := by decide +kernel
theorem d34_2 : decode c_34 2 = .ok (.if_icmp .ge 35, 3) := by decide +kernel
theorem d34_37 : decode c_34 37 = .ok (.return_, 1) := by decide +kernel
theorem ef_am34_1 (m : MethodId) (x0 : Int32) (x1 : Int32)  : entryFrame m #[(.int x0), (.int x1)] 2 = mkF m 0 #[.val (.int x0), .val (.int x1)] [] := by first | (simp [entryFrame, mkF, argsToLocals, Value.category]; done) | rfl
def Q_am34_1 (Z : State) (cs_ : Int32) (un_ : Value) (sn_ : Value) (iv1 : Int32) (h0 : Heap) (n0 : Nat) (v : Option Value) (h : Heap) (L : List Loc) : Prop := v = none ∧ Fr n0 L ∧ h = h0
set_option maxRecDepth 65536 in
set_option maxHeartbeats 40000000 in
theorem am34_1 (l : Launch) (Z : State) (a0 : Array Value) (hw : ∀ d ∈ tables_1, d.before a0 Z = true) (ws : List Jvm.Cond) (cs_ : Int32) (un_ : Value) (sn_ : Value) (HW : Wd Z cs_ un_ sn_) (iv1 : Int32) (h0 : Heap) (n0 : Nat) (Ol : Old Z n0 h0) (as0 : ¬ (iv1 < (0 : Int32))) :
    MetFree l y_34 (head1 (Jvm.Cond.code y_34 jdk_65_method_131_code 2 none :: ws) (rm 0 0 0 0)) (fun a_ U_ => a_ = #[(.int (0 : Int32)), (.int iv1)] ∧ Z.Warmed39 U_.vm ∧ U_.heap = h0) (fun _ _ _ _ _ => True) (fun _ U_ o_ V_ => ∃ v_ L_, o_ = .returned v_ ∧ Q_am34_1 Z cs_ un_ sn_ iv1 h0 n0 v_ V_.heap L_ ∧ FrameEnd U_ o_ V_ L_ (rm 0 0 0 0).cells (rm 0 0 0 0).slots) := by
  refine MetFree.of_bodySF (plainFor_of_name pn_6) hisR ?_
  intro p e s m args below meth c s₁ Bd hml0 hP hK
  obtain ⟨rfl, hZ, hh⟩ := hP
  have hx := Bd.exec
  have hby := Bd.bytes
  have hml : c.maxLocals = 2 := hml0
  have hown : s.vm.findClass "java/util/Arrays" = some m.cls := findClass_of_methodNamed Bd.named
  have hnm := (name_of_methodNamed Bd.named Bd.method).1
  have X0 : Stand p l e (rm 0 0 0 0) s m #[(.int (0 : Int32)), (.int iv1)] below meth c s₁ [] 0 0 := Stand.of_body Bd
  have e0 : s₁.heap = h0 := by rw [← hh, Bd.state]; rfl
  have N0 := Fr.nil n0
  have kp0 := Keep.refl h0 []
  show Go p e below (Fin1 s below (Q_am34_1 Z cs_ un_ sn_ iv1 h0 n0) (rm 0 0 0 0).cells (rm 0 0 0 0).slots) _
  refine Go.step (fun t_ k_ => castTop (ef_am34_1 m (0 : Int32) iv1) k_) ?_
  obtain ⟨S_cs, N_cs, S_un, R_un, S_sn, R_sn⟩ := id HW
  show Go p e below _ (s₁.setTop (mkF m 0 #[.val (.int (0 : Int32)), .val (.int iv1)] []))
  refine gs.iloadN X0.here hx (hb hby d34_0) rfl ?_
  refine gs.iloadN X0.here hx (hb hby d34_1) rfl ?_
  have hc2 : ¬ (iv1 < (0 : Int32)) := as0
  refine gs.icmpYes 37 X0.here hx (hb hby d34_2) (flt hc2).2.1 rfl ?_
  refine Go.retV X0 hx Bd.returns Bd.notSynchronized (hb hby d34_37) (by rw [e0]; exact ⟨rfl, N0, rfl⟩) (by decide) (by decide)
theorem pd_23 : parseMethodDescriptor "(II)V" = some ⟨[.int, .int], none⟩ := by decide +kernel
theorem d33_5 : decode c_33 5 = .ok (.iload_n 2, 1) := by decide +kernel
theorem d33_6 : decode c_33 6 = .ok (.iload_n 1, 1) := by decide +kernel
theorem d33_7 : decode c_33 7 = .ok (.isub, 1) := by decide +kernel
theorem d33_8 : decode c_33 8 = .ok (.istore_n 3, 1) := by decide +kernel
theorem d33_9 : decode c_33 9 = .ok (.iload_n 3, 1) := by decide +kernel
theorem d33_10 : decode c_33 10 = .ok (.newarray .byte, 2) := by decide +kernel
theorem d33_12 : decode c_33 12 = .ok (.astore 4, 2) := by decide +kernel
theorem d33_14 : decode c_33 14 = .ok (.aload_n 0, 1) := by decide +kernel
theorem d33_15 : decode c_33 15 = .ok (.iload_n 1, 1) := by decide +kernel
theorem d33_16 : decode c_33 16 = .ok (.aload 4, 2) := by decide +kernel
theorem d33_18 : decode c_33 18 = .ok (.iconst 0, 1) := by decide +kernel
theorem d33_19 : decode c_33 19 = .ok (.aload_n 0, 1) := by decide +kernel
theorem d33_20 : decode c_33 20 = .ok (.arraylength, 1) := by decide +kernel
theorem d33_21 : decode c_33 21 = .ok (.iload_n 1, 1) := by decide +kernel
theorem d33_22 : decode c_33 22 = .ok (.isub, 1) := by decide +kernel
theorem d33_23 : decode c_33 23 = .ok (.iload_n 3, 1) := by decide +kernel
theorem d33_24 : decode c_33 24 = .ok (.invokestatic 304, 3) := by decide +kernel
theorem d24_9 : decode c_24 9 = .ok (.iload_n 1, 1) := by decide +kernel
def Q_am24_2 (Z : State) (cs_ : Int32) (un_ : Value) (sn_ : Value) (iv1 : Int32) (h0 : Heap) (n0 : Nat) (v : Option Value) (h : Heap) (L : List Loc) : Prop := v = some (.int iv1) ∧ Fr n0 L ∧ h = h0
set_option maxRecDepth 65536 in
set_option maxHeartbeats 40000000 in
theorem am24_2 (l : Launch) (Z : State) (a0 : Array Value) (hw : ∀ d ∈ tables_1, d.before a0 Z = true) (ws : List Jvm.Cond) (cs_ : Int32) (un_ : Value) (sn_ : Value) (HW : Wd Z cs_ un_ sn_) (iv1 : Int32) (h0 : Heap) (n0 : Nat) (Ol : Old Z n0 h0) (as0 : iv1 < (34 : Int32)) :
    MetFree l y_24 (head1 (Jvm.Cond.code y_24 jdk_29_method_69_code 2 (some .int) :: ws) (rm 0 0 0 0)) (fun a_ U_ => a_ = #[(.int (34 : Int32)), (.int iv1)] ∧ Z.Warmed39 U_.vm ∧ U_.heap = h0) (fun _ _ _ _ _ => True) (fun _ U_ o_ V_ => ∃ v_ L_, o_ = .returned v_ ∧ Q_am24_2 Z cs_ un_ sn_ iv1 h0 n0 v_ V_.heap L_ ∧ FrameEnd U_ o_ V_ L_ (rm 0 0 0 0).cells (rm 0 0 0 0).slots) := by
  refine MetFree.of_bodySF (Jvm.Free.JP.mathPlain rfl (by decide +kernel)) hisR ?_
  intro p e s m args below meth c s₁ Bd hml0 hP hK
  obtain ⟨rfl, hZ, hh⟩ := hP
  have hx := Bd.exec
  have hby := Bd.bytes
  have hml : c.maxLocals = 2 := hml0
  have hown : s.vm.findClass "java/lang/Math" = some m.cls := findClass_of_methodNamed Bd.named
  have hnm := (name_of_methodNamed Bd.named Bd.method).1
  have X0 : Stand p l e (rm 0 0 0 0) s m #[(.int (34 : Int32)), (.int iv1)] below meth c s₁ [] 0 0 := Stand.of_body Bd
  have e0 : s₁.heap = h0 := by rw [← hh, Bd.state]; rfl
  have N0 := Fr.nil n0
  have kp0 := Keep.refl h0 []
  show Go p e below (Fin1 s below (Q_am24_2 Z cs_ un_ sn_ iv1 h0 n0) (rm 0 0 0 0).cells (rm 0 0 0 0).slots) _
  refine Go.step (fun t_ k_ => castTop (ef_am24_1 m (34 : Int32) iv1) k_) ?_
  obtain ⟨S_cs, N_cs, S_un, R_un, S_sn, R_sn⟩ := id HW
  show Go p e below _ (s₁.setTop (mkF m 0 #[.val (.int (34 : Int32)), .val (.int iv1)] []))
  refine gs.iloadN X0.here hx (hb hby d24_0) rfl ?_
  refine gs.iloadN X0.here hx (hb hby d24_1) rfl ?_
  have hc2 : iv1 < (34 : Int32) := as0
  refine gs.icmpYes 9 X0.here hx (hb hby d24_2) (tlt hc2).2.2.1 rfl ?_
  refine gs.iloadN X0.here hx (hb hby d24_9) rfl ?_
  refine Go.retI X0 hx Bd.returns Bd.notSynchronized (hb hby d24_10) (by rw [e0]; exact ⟨rfl, N0, rfl⟩) (by decide) (by decide)
theorem d33_27 : decode c_33 27 = .ok (.invokestatic 150, 3) := by decide +kernel
theorem d33_30 : decode c_33 30 = .ok (.aload 4, 2) := by decide +kernel
theorem d33_32 : decode c_33 32 = .ok (.areturn, 1) := by decide +kernel
theorem ef_am33_1 (m : MethodId) (x0 : Addr) (x1 : Int32) (x2 : Int32)  : entryFrame m #[(.ref x0), (.int x1), (.int x2)] 5 = mkF m 0 #[.val (.ref x0), .val (.int x1), .val (.int x2), .unset, .unset] [] := by first | (simp [entryFrame, mkF, argsToLocals, Value.category]; done) | rfl
def Q_am33_1 (Z : State) (cs_ : Int32) (un_ : Value) (sn_ : Value) (ad1 : Addr) (iv1 : Int32) (ls1 : List Value) (kc2 : ClassId) (h0 : Heap) (n0 : Nat) (v : Option Value) (h : Heap) (L : List Loc) : Prop := ∃ fr1 : Addr, ∃ kx1 : ClassId, v = some (.ref fr1) ∧ h0.size ≤ fr1 ∧ Fr n0 L ∧ Keep h0 h [] ∧ (((cpL (List.replicate ((iv1 - (0 : Int32))).toNatClampNeg (.int (0 : Int32))) ls1 (0 : Int32) (0 : Int32) (iv1 - (0 : Int32)) (.int (0 : Int32))) : List Value).length = ((iv1 - (0 : Int32))).toNatClampNeg) ∧ (Arv Z h fr1 kx1 .byte (iv1 - (0 : Int32)) (cpL (List.replicate ((iv1 - (0 : Int32))).toNatClampNeg (.int (0 : Int32))) ls1 (0 : Int32) (0 : Int32) (iv1 - (0 : Int32)) (.int (0 : Int32))) (.int (0 : Int32)))
set_option maxRecDepth 65536 in
set_option maxHeartbeats 40000000 in
theorem am33_1 (l : Launch) (Z : State) (a0 : Array Value) (hw : ∀ d ∈ tables_1, d.before a0 Z = true) (ws : List Jvm.Cond) (cs_ : Int32) (un_ : Value) (sn_ : Value) (HW : Wd Z cs_ un_ sn_) (ad1 : Addr) (iv1 : Int32) (ls1 : List Value) (kc2 : ClassId) (h0 : Heap) (n0 : Nat) (Ol : Old Z n0 h0) (HV_ad1 : Arv Z h0 ad1 kc2 .byte (34 : Int32) ls1 (.int (0 : Int32))) (as0 : ((0 : Int32)).toNatClampNeg + ((iv1 - (0 : Int32))).toNatClampNeg ≤ ((34 : Int32)).toNatClampNeg) (as1 : ((0 : Int32)).toNatClampNeg + ((iv1 - (0 : Int32))).toNatClampNeg ≤ ((iv1 - (0 : Int32))).toNatClampNeg) (as2 : ((iv1 - (0 : Int32))).toNatClampNeg ≤ ((25 : Int32)).toNatClampNeg) (as3 : ¬ ((iv1 - (0 : Int32)) < (0 : Int32))) (as4 : (iv1 - (0 : Int32)) < (34 : Int32)) (as5 : ¬ (iv1 < (0 : Int32))) :
    MetFree l y_33 (head1 (Jvm.Cond.code y_33 jdk_65_method_133_code 5 (some (.array .byte)) :: ws) (rm 1 1 25 18)) (fun a_ U_ => a_ = #[(.ref ad1), (.int (0 : Int32)), (.int iv1)] ∧ Z.Warmed39 U_.vm ∧ U_.heap = h0) (fun _ _ _ _ _ => True) (fun _ U_ o_ V_ => ∃ v_ L_, o_ = .returned v_ ∧ Q_am33_1 Z cs_ un_ sn_ ad1 iv1 ls1 kc2 h0 n0 v_ V_.heap L_ ∧ FrameEnd U_ o_ V_ L_ (rm 1 1 25 18).cells (rm 1 1 25 18).slots) := by
  refine MetFree.of_bodySF (plainFor_of_name pn_6) hisR ?_
  intro p e s m args below meth c s₁ Bd hml0 hP hK
  obtain ⟨rfl, hZ, hh⟩ := hP
  have hx := Bd.exec
  have hby := Bd.bytes
  have hml : c.maxLocals = 5 := hml0
  have hown : s.vm.findClass "java/util/Arrays" = some m.cls := findClass_of_methodNamed Bd.named
  have hnm := (name_of_methodNamed Bd.named Bd.method).1
  have X0 : Stand p l e (rm 1 1 25 18) s m #[(.ref ad1), (.int (0 : Int32)), (.int iv1)] below meth c s₁ [] 0 0 := Stand.of_body Bd
  have e0 : s₁.heap = h0 := by rw [← hh, Bd.state]; rfl
  have N0 := Fr.nil n0
  have kp0 := Keep.refl h0 []
  show Go p e below (Fin1 s below (Q_am33_1 Z cs_ un_ sn_ ad1 iv1 ls1 kc2 h0 n0) (rm 1 1 25 18).cells (rm 1 1 25 18).slots) _
  refine Go.step (fun t_ k_ => castTop (ef_am33_1 m ad1 (0 : Int32) iv1) k_) ?_
  obtain ⟨S_cs, N_cs, S_un, R_un, S_sn, R_sn⟩ := id HW
  show Go p e below _ (s₁.setTop (mkF m 0 #[.val (.ref ad1), .val (.int (0 : Int32)), .val (.int iv1), .unset, .unset] []))
  refine gs.iloadN X0.here hx (hb hby d33_0) rfl ?_
  refine gs.iloadN X0.here hx (hb hby d33_1) rfl ?_
  refine gs.stat 0 X0 hx hZ hown (am34_1 l Z a0 hw [] cs_ un_ sn_ HW (iv1) h0 n0 Ol as5) (wd hw 174 rfl) (wd hw 130 rfl) (wd hw 172 rfl) (wd hw 173 rfl) (by decide) (by decide) (by decide) (by rw [hml]; rfl) [(.int (0 : Int32)), (.int iv1)] (lenOf pd_23 rfl) rfl (Nat.le_of_eq rfl) (hb hby d33_2) rfl e0 (by decide) (by decide) fun T1 Lc1 v1 X1 hQ1 => ?_
  obtain ⟨rfl, Nq1, e1⟩ := hQ1
  have N1 := Fr.app N0 Nq1
  show Go p e below _ (T1.setTop (mkF m 5 _ []))
  refine gs.iloadN X1.here hx (hb hby d33_5) rfl ?_
  refine gs.iloadN X1.here hx (hb hby d33_6) rfl ?_
  refine gs.isub X1.here hx (hb hby d33_7) ?_
  refine gs.istoreN X1.here hx (hb hby d33_8) (l' := #[.val (.ref ad1), .val (.int (0 : Int32)), .val (.int iv1), .val (.int (iv1 - (0 : Int32))), .unset]) rfl ?_
  refine gs.iloadN X1.here hx (hb hby d33_9) rfl ?_
  obtain ⟨T2, h2, k2, X2, e2, E2, A2, st2⟩ := newP X1 hx hZ (wd hw 19 rfl) e1 (g := (mkF m 10 #[.val (.ref ad1), .val (.int (0 : Int32)), .val (.int iv1), .val (.int (iv1 - (0 : Int32))), .unset] [(.int (iv1 - (0 : Int32)))])) rfl (hb hby d33_10) rfl as3 (cap := 25) as2 (by decide) (by decide) (by decide)
  obtain ⟨b2, g2⟩ : ∃ z, z = h0.size := ⟨_, rfl⟩
  rw [← g2] at A2 st2
  have nn_b2 : n0 ≤ b2 := Nat.le_trans (old_z0 Ol) (Nat.le_of_eq g2.symm)
  have sz_b2 : h0.size ≤ b2 := Nat.le_trans kp0.1 (Nat.le_of_eq g2.symm)
  have old2 := Ol.ext E2
  have kp2 := kp0.ext E2
  have V2 : Arv Z h2 b2 k2 .byte (iv1 - (0 : Int32)) (List.replicate ((iv1 - (0 : Int32))).toNatClampNeg (.int (0 : Int32))) (.int (0 : Int32)) := (Arv.new A2 as3).pad (pad_rep [] (.int (0 : Int32)) ((iv1 - (0 : Int32))).toNatClampNeg)
  refine Go.fin st2 ?_
  show Go p e below _ (T2.setTop (mkF m 12 _ [(.ref b2)]))
  refine gs.astore X2.here hx (hb hby d33_12) rfl (l' := #[.val (.ref ad1), .val (.int (0 : Int32)), .val (.int iv1), .val (.int (iv1 - (0 : Int32))), .val (.ref b2)]) rfl ?_
  refine gs.aloadN X2.here hx (hb hby d33_14) rfl rfl ?_
  refine gs.iloadN X2.here hx (hb hby d33_15) rfl ?_
  refine gs.aload X2.here hx (hb hby d33_16) rfl rfl ?_
  refine gs.iconst 0 X2.here hx (hb hby d33_18) rfl ?_
  refine gs.aloadN X2.here hx (hb hby d33_19) rfl rfl ?_
  have f4 := (HV_ad1.ext E2)
  obtain ⟨cl3, Ar3, -, Sz3, Ng3, -, -⟩ := id f4
  refine Go.fin (fun t_ k_ => X2.arraylength hx (by rw [e2]; exact Ar3.1) (State.isArrayOf_alike hZ.alike Ar3.2.1) (g := mkF m 20 _ _) rfl rfl (hb hby d33_20) _ k_) ?_
  rw [len_of Sz3 Ng3]
  show Go p e below _ (T2.setTop (mkF m 21 _ [(.int (34 : Int32)), (.int (0 : Int32)), (.ref b2), (.int (0 : Int32)), (.ref ad1)]))
  refine gs.iloadN X2.here hx (hb hby d33_21) rfl ?_
  refine gs.isub X2.here hx (hb hby d33_22) ?_
  rw [show ((34 : Int32) - (0 : Int32)) = (34 : Int32) from by decide]
  refine gs.iloadN X2.here hx (hb hby d33_23) rfl ?_
  refine gs.stat 4 X2 hx hZ hown (am24_2 l Z a0 hw [] cs_ un_ sn_ HW ((iv1 - (0 : Int32))) h2 n0 old2 as4) (wd hw 134 rfl) (wd hw 124 rfl) (wd hw 132 rfl) (wd hw 133 rfl) (by decide) (by decide) (by decide) (by rw [hml]; rfl) [(.int (34 : Int32)), (.int (iv1 - (0 : Int32)))] (lenOf pd_17 rfl) rfl (Nat.le_of_eq rfl) (hb hby d33_24) rfl e2 (by decide) (by decide) fun T5 Lc5 v5 X5 hQ5 => ?_
  obtain ⟨rfl, Nq5, e5⟩ := hQ5
  have N5 := Fr.app N1 Nq5
  show Go p e below _ (T5.setTop (mkF m 27 _ [(.int (iv1 - (0 : Int32))), (.int (0 : Int32)), (.ref b2), (.int (0 : Int32)), (.ref ad1)]))
  obtain ⟨T6, h6, L6, X6, e6, N6, K6, B6, st6⟩ := cpA X5 hx hZ hown (wd hw 135 rfl) (wd hw 111 rfl) (wd hw 109 rfl) (wd hw 110 rfl) e5 f4 V2 (us := ((List.range ((iv1 - (0 : Int32))).toNatClampNeg).map fun i => (ls1).getD (((0 : Int32)).toNatClampNeg + i) (.int (0 : Int32)))) (Or.inl ⟨rfl, rfl⟩) (by decide) (by decide) as3 as0 as1 rfl (Nat.le_trans as1 (Nat.le_of_eq (Eq.symm (rep_len (iv1 - (0 : Int32)) (.int (0 : Int32)))))) N5 nn_b2 (g := (mkF m 27 #[.val (.ref ad1), .val (.int (0 : Int32)), .val (.int iv1), .val (.int (iv1 - (0 : Int32))), .val (.ref b2)] [(.int (iv1 - (0 : Int32))), (.int (0 : Int32)), (.ref b2), (.int (0 : Int32)), (.ref ad1)])) rfl (by rw [hml]; rfl) (rest := []) rfl (hb hby d33_27) (by decide) (W := 0) (by show 2 * 0 + _ ≤ _; exact Nat.le_of_eq rfl) (by decide)
  have old6 := old2.keep K6 (allS nn_b2 all0)
  have kp6 := kp2.trans K6 (allS (Or.inr sz_b2) all0)
  have V6 : Arv Z h6 b2 k2 .byte (iv1 - (0 : Int32)) (cpL (List.replicate ((iv1 - (0 : Int32))).toNatClampNeg (.int (0 : Int32))) ls1 (0 : Int32) (0 : Int32) (iv1 - (0 : Int32)) (.int (0 : Int32))) (.int (0 : Int32)) := B6
  refine Go.step st6 ?_
  show Go p e below _ (T6.setTop (mkF m 30 #[.val (.ref ad1), .val (.int (0 : Int32)), .val (.int iv1), .val (.int (iv1 - (0 : Int32))), .val (.ref b2)] []))
  refine gs.aload X6.here hx (hb hby d33_30) rfl rfl ?_
  refine Go.retR X6 hx Bd.returns rfl rfl Bd.notSynchronized (hb hby d33_32) (by rw [e6]; exact ⟨b2, k2, rfl, sz_b2, N6, kp6, (cpL_len (rep_len (iv1 - (0 : Int32)) (.int (0 : Int32))) as1), V6⟩) (by decide) (by decide)
theorem pd_24 : parseMethodDescriptor "([BII)[B" = some ⟨[(.array .byte), .int, .int], some (.array .byte)⟩ := by decide +kernel
theorem d32_16 : decode c_32 16 = .ok (.areturn, 1) := by decide +kernel
theorem ef_am32_1 (m : MethodId) (x0 : Addr) (x1 : Int32) (x2 : Int32)  : entryFrame m #[(.ref x0), (.int x1), (.int x2)] 3 = mkF m 0 #[.val (.ref x0), .val (.int x1), .val (.int x2)] [] := by first | (simp [entryFrame, mkF, argsToLocals, Value.category]; done) | rfl
def Q_am32_1 (Z : State) (cs_ : Int32) (un_ : Value) (sn_ : Value) (ad1 : Addr) (iv1 : Int32) (ls1 : List Value) (kc2 : ClassId) (h0 : Heap) (n0 : Nat) (v : Option Value) (h : Heap) (L : List Loc) : Prop := ∃ fr1 : Addr, ∃ kx1 : ClassId, v = some (.ref fr1) ∧ h0.size ≤ fr1 ∧ Fr n0 L ∧ Keep h0 h [] ∧ (((cpL (List.replicate ((iv1 - (0 : Int32))).toNatClampNeg (.int (0 : Int32))) ls1 (0 : Int32) (0 : Int32) (iv1 - (0 : Int32)) (.int (0 : Int32))) : List Value).length = ((iv1 - (0 : Int32))).toNatClampNeg) ∧ (Arv Z h fr1 kx1 .byte (iv1 - (0 : Int32)) (cpL (List.replicate ((iv1 - (0 : Int32))).toNatClampNeg (.int (0 : Int32))) ls1 (0 : Int32) (0 : Int32) (iv1 - (0 : Int32)) (.int (0 : Int32))) (.int (0 : Int32)))
set_option maxRecDepth 65536 in
set_option maxHeartbeats 40000000 in
theorem am32_1 (l : Launch) (Z : State) (a0 : Array Value) (hw : ∀ d ∈ tables_1, d.before a0 Z = true) (ws : List Jvm.Cond) (cs_ : Int32) (un_ : Value) (sn_ : Value) (HW : Wd Z cs_ un_ sn_) (ad1 : Addr) (iv1 : Int32) (ls1 : List Value) (kc2 : ClassId) (h0 : Heap) (n0 : Nat) (Ol : Old Z n0 h0) (HV_ad1 : Arv Z h0 ad1 kc2 .byte (34 : Int32) ls1 (.int (0 : Int32))) (as0 : ((0 : Int32)).toNatClampNeg + ((iv1 - (0 : Int32))).toNatClampNeg ≤ ((34 : Int32)).toNatClampNeg) (as1 : ((0 : Int32)).toNatClampNeg + ((iv1 - (0 : Int32))).toNatClampNeg ≤ ((iv1 - (0 : Int32))).toNatClampNeg) (as2 : ((iv1 - (0 : Int32))).toNatClampNeg ≤ ((25 : Int32)).toNatClampNeg) (as3 : ¬ ((iv1 - (0 : Int32)) < (0 : Int32))) (as4 : (iv1 - (0 : Int32)) < (34 : Int32)) (as5 : ¬ (iv1 < (0 : Int32))) (as6 : ¬ (iv1 = (34 : Int32))) :
    MetFree l y_32 (head1 (Jvm.Cond.code y_32 jdk_65_method_132_code 3 (some (.array .byte)) :: ws) (rm 2 1 25 34)) (fun a_ U_ => a_ = #[(.ref ad1), (.int (0 : Int32)), (.int iv1)] ∧ Z.Warmed39 U_.vm ∧ U_.heap = h0) (fun _ _ _ _ _ => True) (fun _ U_ o_ V_ => ∃ v_ L_, o_ = .returned v_ ∧ Q_am32_1 Z cs_ un_ sn_ ad1 iv1 ls1 kc2 h0 n0 v_ V_.heap L_ ∧ FrameEnd U_ o_ V_ L_ (rm 2 1 25 34).cells (rm 2 1 25 34).slots) := by
  refine MetFree.of_bodySF (plainFor_of_name pn_6) hisR ?_
  intro p e s m args below meth c s₁ Bd hml0 hP hK
  obtain ⟨rfl, hZ, hh⟩ := hP
  have hx := Bd.exec
  have hby := Bd.bytes
  have hml : c.maxLocals = 3 := hml0
  have hown : s.vm.findClass "java/util/Arrays" = some m.cls := findClass_of_methodNamed Bd.named
  have hnm := (name_of_methodNamed Bd.named Bd.method).1
  have X0 : Stand p l e (rm 2 1 25 34) s m #[(.ref ad1), (.int (0 : Int32)), (.int iv1)] below meth c s₁ [] 0 0 := Stand.of_body Bd
  have e0 : s₁.heap = h0 := by rw [← hh, Bd.state]; rfl
  have N0 := Fr.nil n0
  have kp0 := Keep.refl h0 []
  show Go p e below (Fin1 s below (Q_am32_1 Z cs_ un_ sn_ ad1 iv1 ls1 kc2 h0 n0) (rm 2 1 25 34).cells (rm 2 1 25 34).slots) _
  refine Go.step (fun t_ k_ => castTop (ef_am32_1 m ad1 (0 : Int32) iv1) k_) ?_
  obtain ⟨S_cs, N_cs, S_un, R_un, S_sn, R_sn⟩ := id HW
  show Go p e below _ (s₁.setTop (mkF m 0 #[.val (.ref ad1), .val (.int (0 : Int32)), .val (.int iv1)] []))
  refine gs.iloadN X0.here hx (hb hby d32_0) rfl ?_
  have hc1 : (0 : Int32) = (0 : Int32) := by decide
  refine gs.ifNo X0.here hx (hb hby d32_1) ((if0 _ _).trans (teq hc1).2) ?_
  refine gs.iloadN X0.here hx (hb hby d32_4) rfl ?_
  refine gs.aloadN X0.here hx (hb hby d32_5) rfl rfl ?_
  obtain ⟨cl1, Ar1, -, Sz1, Ng1, -, -⟩ := id HV_ad1
  refine Go.fin (fun t_ k_ => X0.arraylength hx (by rw [e0]; exact Ar1.1) (State.isArrayOf_alike hZ.alike Ar1.2.1) (g := mkF m 6 _ _) rfl rfl (hb hby d32_6) _ k_) ?_
  rw [len_of Sz1 Ng1]
  show Go p e below _ (s₁.setTop (mkF m 7 _ [(.int (34 : Int32)), (.int iv1)]))
  have hc7 : ¬ (iv1 = (34 : Int32)) := as6
  refine gs.icmpNo X0.here hx (hb hby d32_7) (feq hc7).1 ?_
  refine gs.aloadN X0.here hx (hb hby d32_10) rfl rfl ?_
  refine gs.iloadN X0.here hx (hb hby d32_11) rfl ?_
  refine gs.iloadN X0.here hx (hb hby d32_12) rfl ?_
  refine gs.stat 0 X0 hx hZ hown (am33_1 l Z a0 hw [] cs_ un_ sn_ HW (ad1) (iv1) (ls1) (kc2) h0 n0 Ol HV_ad1 as0 as1 as2 as3 as4 as5) (wd hw 171 rfl) (wd hw 130 rfl) (wd hw 169 rfl) (wd hw 170 rfl) (by decide) (by decide) (by decide) (by rw [hml]; rfl) [(.ref ad1), (.int (0 : Int32)), (.int iv1)] (lenOf pd_24 rfl) rfl (Nat.le_of_eq rfl) (hb hby d32_13) rfl e0 (by decide) (by decide) fun T2 Lc2 v2 X2 hQ2 => ?_
  obtain ⟨b2_0, kx2_0, rfl, gb_b2_0, Nq2, K2, p2_0, p2_1⟩ := hQ2
  have nn_b2_0 : n0 ≤ b2_0 := Nat.le_trans (old_z0 Ol) gb_b2_0
  have sz_b2_0 : h0.size ≤ b2_0 := Nat.le_trans kp0.1 gb_b2_0
  have old2 := Ol.keep K2 all0
  have kp2 := kp0.trans K2 all0
  have N2 := Fr.app N0 Nq2
  show Go p e below _ (T2.setTop (mkF m 16 _ [(.ref b2_0)]))
  refine Go.retR X2 hx Bd.returns rfl rfl Bd.notSynchronized (hb hby d32_16) (by exact ⟨b2_0, kx2_0, rfl, sz_b2_0, N2, kp2, p2_0, p2_1⟩) (by decide) (by decide)
theorem d27_35 : decode c_27 35 = .ok (.putfield 9, 3) := by decide +kernel
theorem d27_38 : decode c_27 38 = .ok (.goto 59, 3) := by decide +kernel
theorem d27_97 : decode c_27 97 = .ok (.return_, 1) := by decide +kernel
theorem ef_am27_1 (m : MethodId) (x0 : Addr) (x1 : Addr)  : entryFrame m #[(.ref x0), (.ref x1), .null] 5 = mkF m 0 #[.val (.ref x0), .val (.ref x1), .val .null, .unset, .unset] [] := by first | (simp [entryFrame, mkF, argsToLocals, Value.category]; done) | rfl
def Q_am27_1 (Z : State) (cs_ : Int32) (un_ : Value) (sn_ : Value) (ad1 : Addr) (ad2 : Addr) (ad3 : Addr) (iv1 : Int32) (ls1 : List Value) (kc2 : ClassId) (h0 : Heap) (n0 : Nat) (v : Option Value) (h : Heap) (L : List Loc) : Prop := ∃ fr1 : Addr, ∃ kx1 : ClassId, v = none ∧ h0.size ≤ fr1 ∧ Fr n0 L ∧ Keep h0 h [ad1] ∧ (Exa Z h ad1 "java/lang/String") ∧ (Fld Z h ad1 "java/lang/String" "coder" "B" (.int (0 : Int32))) ∧ (Fld Z h ad1 "java/lang/String" "value" "[B" (.ref fr1)) ∧ (((cpL (List.replicate ((iv1 - (0 : Int32))).toNatClampNeg (.int (0 : Int32))) ls1 (0 : Int32) (0 : Int32) (iv1 - (0 : Int32)) (.int (0 : Int32))) : List Value).length = ((iv1 - (0 : Int32))).toNatClampNeg) ∧ (Arv Z h fr1 kx1 .byte (iv1 - (0 : Int32)) (cpL (List.replicate ((iv1 - (0 : Int32))).toNatClampNeg (.int (0 : Int32))) ls1 (0 : Int32) (0 : Int32) (iv1 - (0 : Int32)) (.int (0 : Int32))) (.int (0 : Int32)))
set_option maxRecDepth 65536 in
set_option maxHeartbeats 40000000 in
theorem am27_1 (l : Launch) (Z : State) (a0 : Array Value) (hw : ∀ d ∈ tables_1, d.before a0 Z = true) (ws : List Jvm.Cond) (cs_ : Int32) (un_ : Value) (sn_ : Value) (HW : Wd Z cs_ un_ sn_) (ad1 : Addr) (ad2 : Addr) (ad3 : Addr) (iv1 : Int32) (ls1 : List Value) (kc2 : ClassId) (h0 : Heap) (n0 : Nat) (Ol : Old Z n0 h0) (HE_ad2 : Exa Z h0 ad2 "java/lang/StringBuilder") (HF_ad2_AbstractStringBuilder_value : Fld Z h0 ad2 "java/lang/AbstractStringBuilder" "value" "[B" (.ref ad3)) (HF_ad2_AbstractStringBuilder_coder : Fld Z h0 ad2 "java/lang/AbstractStringBuilder" "coder" "B" (.int (0 : Int32))) (HF_ad2_AbstractStringBuilder_count : Fld Z h0 ad2 "java/lang/AbstractStringBuilder" "count" "I" (.int iv1)) (HV_ad3 : Arv Z h0 ad3 kc2 .byte (34 : Int32) ls1 (.int (0 : Int32))) (HE_ad1 : Exa Z h0 ad1 "java/lang/String") (HF_ad1_String_value : Fld Z h0 ad1 "java/lang/String" "value" "[B" .null) (HF_ad1_String_coder : Fld Z h0 ad1 "java/lang/String" "coder" "B" (.int (0 : Int32))) (nn_ad1 : n0 ≤ ad1) (ne_ad1_ad3 : ad1 ≠ ad3) (as0 : ((0 : Int32)).toNatClampNeg + ((iv1 - (0 : Int32))).toNatClampNeg ≤ ((34 : Int32)).toNatClampNeg) (as1 : ((0 : Int32)).toNatClampNeg + ((iv1 - (0 : Int32))).toNatClampNeg ≤ ((iv1 - (0 : Int32))).toNatClampNeg) (as2 : ((iv1 - (0 : Int32))).toNatClampNeg ≤ ((25 : Int32)).toNatClampNeg) (as3 : ¬ ((iv1 - (0 : Int32)) < (0 : Int32))) (as4 : (iv1 - (0 : Int32)) < (34 : Int32)) (as5 : ¬ (iv1 < (0 : Int32))) (as6 : ¬ (iv1 = (34 : Int32))) :
    MetFree l y_27 (head1 (Jvm.Cond.code y_27 jdk_42_method_150_code 5 none :: ws) (rm 3 1 25 49)) (fun a_ U_ => a_ = #[(.ref ad1), (.ref ad2), .null] ∧ Z.Warmed39 U_.vm ∧ U_.heap = h0) (fun _ _ _ _ _ => True) (fun _ U_ o_ V_ => ∃ v_ L_, o_ = .returned v_ ∧ Q_am27_1 Z cs_ un_ sn_ ad1 ad2 ad3 iv1 ls1 kc2 h0 n0 v_ V_.heap L_ ∧ FrameEnd U_ o_ V_ L_ (rm 3 1 25 49).cells (rm 3 1 25 49).slots) := by
  refine MetFree.of_bodySF (plainFor_of_name pn_0) hisR ?_
  intro p e s m args below meth c s₁ Bd hml0 hP hK
  obtain ⟨rfl, hZ, hh⟩ := hP
  have hx := Bd.exec
  have hby := Bd.bytes
  have hml : c.maxLocals = 5 := hml0
  have hown : s.vm.findClass "java/lang/String" = some m.cls := findClass_of_methodNamed Bd.named
  have hnm := (name_of_methodNamed Bd.named Bd.method).1
  have X0 : Stand p l e (rm 3 1 25 49) s m #[(.ref ad1), (.ref ad2), .null] below meth c s₁ [] 0 0 := Stand.of_body Bd
  have e0 : s₁.heap = h0 := by rw [← hh, Bd.state]; rfl
  have N0 := Fr.nil n0
  have kp0 := Keep.refl h0 [ad1]
  show Go p e below (Fin1 s below (Q_am27_1 Z cs_ un_ sn_ ad1 ad2 ad3 iv1 ls1 kc2 h0 n0) (rm 3 1 25 49).cells (rm 3 1 25 49).slots) _
  refine Go.step (fun t_ k_ => castTop (ef_am27_1 m ad1 ad2) k_) ?_
  obtain ⟨S_cs, N_cs, S_un, R_un, S_sn, R_sn⟩ := id HW
  show Go p e below _ (s₁.setTop (mkF m 0 #[.val (.ref ad1), .val (.ref ad2), .val .null, .unset, .unset] []))
  refine gs.aloadN X0.here hx (hb hby d27_0) rfl rfl ?_
  obtain ⟨T1, X1, e1, st1⟩ := initO X0 hx hZ hown (wd hw 15 rfl) (wd hw 16 rfl) (wd hw 17 rfl) e0 (g := (mkF m 1 #[.val (.ref ad1), .val (.ref ad2), .val .null, .unset, .unset] [(.ref ad1)])) rfl (by rw [hml]; rfl) rfl (hb hby d27_1) (by decide) (W := 0) (by show 2 * 0 + _ ≤ _; exact Nat.le_of_eq rfl) (by decide)
  refine Go.step st1 ?_
  show Go p e below _ (T1.setTop (mkF m 4 #[.val (.ref ad1), .val (.ref ad2), .val .null, .unset, .unset] []))
  refine gs.aloadN X1.here hx (hb hby d27_4) rfl rfl ?_
  refine gs.virt 0 X1 hx hZ hown (am28_1 l Z a0 hw [] cs_ un_ sn_ HW (ad2) (ad3) h0 n0 Ol HF_ad2_AbstractStringBuilder_value) (wd hw 152 rfl) (wd hw 57 rfl) (wd hw 148 rfl) (wd hw 149 rfl) (notFace_of_selects (args := #[]) (mvT hZ (wd hw 151 rfl))) (wd hw 151 rfl) (wd hw 150 rfl) (by decide) HE_ad2 (by decide) (by decide) (by rw [hml]; rfl) [] (lenOf pd_21 rfl) rfl (Nat.le_of_eq rfl) (hb hby d27_5) rfl e1 (by decide) (by decide) fun T2 Lc2 v2 X2 hQ2 => ?_
  obtain ⟨rfl, Nq2, e2⟩ := hQ2
  have N2 := Fr.app N0 Nq2
  show Go p e below _ (T2.setTop (mkF m 8 _ [(.ref ad3)]))
  refine gs.astoreN X2.here hx (hb hby d27_8) rfl (l' := #[.val (.ref ad1), .val (.ref ad2), .val .null, .val (.ref ad3), .unset]) rfl ?_
  refine gs.aloadN X2.here hx (hb hby d27_9) rfl rfl ?_
  refine gs.virt 0 X2 hx hZ hown (am29_1 l Z a0 hw [] cs_ un_ sn_ HW (ad2) (iv1) h0 n0 Ol HE_ad2 HF_ad2_AbstractStringBuilder_count) (wd hw 158 rfl) (wd hw 49 rfl) (wd hw 153 rfl) (wd hw 154 rfl) (notFace_by (args := #[]) (mvT hZ (wd hw 90 rfl)) rfl) (wd hw 156 rfl) (wd hw 157 rfl) (by decide) HE_ad2 (by decide) (by decide) (by rw [hml]; rfl) [] (lenOf pd_11 rfl) rfl (Nat.le_of_eq rfl) (hb hby d27_10) rfl e2 (by decide) (by decide) fun T3 Lc3 v3 X3 hQ3 => ?_
  obtain ⟨rfl, Nq3, e3⟩ := hQ3
  have N3 := Fr.app N2 Nq3
  show Go p e below _ (T3.setTop (mkF m 13 _ [(.int iv1)]))
  refine gs.istore X3.here hx (hb hby d27_13) (l' := #[.val (.ref ad1), .val (.ref ad2), .val .null, .val (.ref ad3), .val (.int iv1)]) rfl ?_
  refine gs.aloadN X3.here hx (hb hby d27_15) rfl rfl ?_
  refine gs.virt 0 X3 hx hZ hown (am31_1 l Z a0 hw [] cs_ un_ sn_ HW (ad2) h0 n0 Ol HF_ad2_AbstractStringBuilder_coder) (wd hw 165 rfl) (wd hw 57 rfl) (wd hw 161 rfl) (wd hw 162 rfl) (notFace_of_selects (args := #[]) (mvT hZ (wd hw 164 rfl))) (wd hw 164 rfl) (wd hw 163 rfl) (by decide) HE_ad2 (by decide) (by decide) (by rw [hml]; rfl) [] (lenOf pd_22 rfl) rfl (Nat.le_of_eq rfl) (hb hby d27_16) rfl e3 (by decide) (by decide) fun T4 Lc4 v4 X4 hQ4 => ?_
  obtain ⟨rfl, Nq4, e4⟩ := hQ4
  have N4 := Fr.app N3 Nq4
  show Go p e below _ (T4.setTop (mkF m 19 _ [(.int (1 : Int32))]))
  have hc19 : ¬ ((1 : Int32) = (0 : Int32)) := by decide
  refine gs.ifNo X4.here hx (hb hby d27_19) ((if0 _ _).trans (feq hc19).1) ?_
  refine gs.aloadN X4.here hx (hb hby d27_22) rfl rfl ?_
  refine gs.iconst 0 X4.here hx (hb hby d27_23) rfl ?_
  obtain ⟨T5, h5, X5, e5, W5, st5⟩ := putFN X4 hx hZ hown (wd hw 25 rfl) Via.refl e4 HF_ad1_String_coder HE_ad1 (Or.inr ⟨(wd hw 21 rfl), rfl, hnm⟩) (wd hw 5 rfl) (ty := .byte) (v' := (.int (0 : Int32))) (by decide) rfl (by decide) (g := (mkF m 24 #[.val (.ref ad1), .val (.ref ad2), .val .null, .val (.ref ad3), .val (.int iv1)] [(.int (0 : Int32)), (.ref ad1)])) rfl rfl (hb hby d27_24)
  have N5 := Fr.snoc X5 N4 nn_ad1
  have old5 := Ol.wr W5 nn_ad1
  have kp5 := kp0.wr W5 (Or.inl (List.mem_of_getElem? (i := 0) rfl))
  have F5 := HF_ad1_String_coder.same W5
  refine Go.fin st5 ?_
  show Go p e below _ (T5.setTop (mkF m 27 _ []))
  refine gs.aloadN X5.here hx (hb hby d27_27) rfl rfl ?_
  refine gs.aloadN X5.here hx (hb hby d27_28) rfl rfl ?_
  refine gs.iconst 0 X5.here hx (hb hby d27_29) rfl ?_
  refine gs.iload X5.here hx (hb hby d27_30) rfl ?_
  have f6 := (HV_ad3.other W5 (Ne.symm ne_ad1_ad3))
  refine gs.stat 1 X5 hx hZ hown (am32_1 l Z a0 hw [] cs_ un_ sn_ HW (ad3) (iv1) (ls1) (kc2) h5 n0 old5 f6 as0 as1 as2 as3 as4 as5 as6) (wd hw 168 rfl) (wd hw 130 rfl) (wd hw 166 rfl) (wd hw 167 rfl) (by decide) (by decide) (by decide) (by rw [hml]; rfl) [(.ref ad3), (.int (0 : Int32)), (.int iv1)] (lenOf pd_24 rfl) rfl (Nat.le_of_eq rfl) (hb hby d27_32) rfl e5 (by decide) (by decide) fun T7 Lc7 v7 X7 hQ7 => ?_
  obtain ⟨b7_0, kx7_0, rfl, gb_b7_0, Nq7, K7, p7_0, p7_1⟩ := hQ7
  have nn_b7_0 : n0 ≤ b7_0 := Nat.le_trans (old_z0 old5) gb_b7_0
  have sz_b7_0 : h0.size ≤ b7_0 := Nat.le_trans kp5.1 gb_b7_0
  have old7 := old5.keep K7 all0
  have kp7 := kp5.trans K7 all0
  have N7 := Fr.app N5 Nq7
  show Go p e below _ (T7.setTop (mkF m 35 _ [(.ref b7_0), (.ref ad1)]))
  have f8 := ((HF_ad1_String_value.other W5 (Or.inr (sn1 hw))).keep K7 nin0)
  have f9 := ((HE_ad1.wr W5).keep K7)
  obtain ⟨T10, h10, X10, e10, W10, st10⟩ := putF X7 hx hZ hown (host := "") (Or.inl (wd hw 24 rfl)) Via.refl rfl f8 f9 (Or.inr ⟨(wd hw 20 rfl), rfl, hnm⟩) (wd hw 5 rfl) (ty := (.array .byte)) (by decide) rfl rfl (g := (mkF m 35 #[.val (.ref ad1), .val (.ref ad2), .val .null, .val (.ref ad3), .val (.int iv1)] [(.ref b7_0), (.ref ad1)])) rfl rfl (hb hby d27_35)
  have N10 := Fr.snoc X10 N7 nn_ad1
  have old10 := old7.wr W10 nn_ad1
  have kp10 := kp7.wr W10 (Or.inl (List.mem_of_getElem? (i := 0) rfl))
  have F10 := f8.same W10
  refine Go.fin st10 ?_
  show Go p e below _ (T10.setTop (mkF m 38 _ []))
  refine gs.goto 97 X10.here hx (hb hby d27_38) rfl ?_
  have f11 := (f9.wr W10)
  have f12 := ((F5.keep K7 nin0).other W10 (Or.inr (sn0 hw)))
  have f13 := p7_0
  have ne_ad1_b7_0 : ad1 ≠ b7_0 := Nat.ne_of_lt (Nat.lt_of_lt_of_le (HE_ad1.wr W5).lt gb_b7_0)
  have f14 := (p7_1.other W10 (Ne.symm ne_ad1_b7_0))
  refine Go.retV X10 hx Bd.returns Bd.notSynchronized (hb hby d27_97) (by rw [e10]; exact ⟨b7_0, kx7_0, rfl, sz_b7_0, N10, kp10, f11, f12, F10, f13, f14⟩) (by decide) (by decide)
theorem pd_25 : parseMethodDescriptor "(Ljava/lang/AbstractStringBuilder;Ljava/lang/Void;)V" = some ⟨[(.object "java/lang/AbstractStringBuilder"), (.object "java/lang/Void")], none⟩ := by decide +kernel
theorem d26_6 : decode c_26 6 = .ok (.return_, 1) := by decide +kernel
theorem ef_am26_1 (m : MethodId) (x0 : Addr) (x1 : Addr)  : entryFrame m #[(.ref x0), (.ref x1)] 2 = mkF m 0 #[.val (.ref x0), .val (.ref x1)] [] := by first | (simp [entryFrame, mkF, argsToLocals, Value.category]; done) | rfl
def Q_am26_1 (Z : State) (cs_ : Int32) (un_ : Value) (sn_ : Value) (ad1 : Addr) (ad2 : Addr) (ad3 : Addr) (iv1 : Int32) (ls1 : List Value) (kc2 : ClassId) (h0 : Heap) (n0 : Nat) (v : Option Value) (h : Heap) (L : List Loc) : Prop := ∃ fr1 : Addr, ∃ kx1 : ClassId, v = none ∧ h0.size ≤ fr1 ∧ Fr n0 L ∧ Keep h0 h [ad1] ∧ (Exa Z h ad1 "java/lang/String") ∧ (Fld Z h ad1 "java/lang/String" "coder" "B" (.int (0 : Int32))) ∧ (Fld Z h ad1 "java/lang/String" "value" "[B" (.ref fr1)) ∧ (((cpL (List.replicate ((iv1 - (0 : Int32))).toNatClampNeg (.int (0 : Int32))) ls1 (0 : Int32) (0 : Int32) (iv1 - (0 : Int32)) (.int (0 : Int32))) : List Value).length = ((iv1 - (0 : Int32))).toNatClampNeg) ∧ (Arv Z h fr1 kx1 .byte (iv1 - (0 : Int32)) (cpL (List.replicate ((iv1 - (0 : Int32))).toNatClampNeg (.int (0 : Int32))) ls1 (0 : Int32) (0 : Int32) (iv1 - (0 : Int32)) (.int (0 : Int32))) (.int (0 : Int32)))
set_option maxRecDepth 65536 in
set_option maxHeartbeats 40000000 in
theorem am26_1 (l : Launch) (Z : State) (a0 : Array Value) (hw : ∀ d ∈ tables_1, d.before a0 Z = true) (ws : List Jvm.Cond) (cs_ : Int32) (un_ : Value) (sn_ : Value) (HW : Wd Z cs_ un_ sn_) (ad1 : Addr) (ad2 : Addr) (ad3 : Addr) (iv1 : Int32) (ls1 : List Value) (kc2 : ClassId) (h0 : Heap) (n0 : Nat) (Ol : Old Z n0 h0) (HE_ad2 : Exa Z h0 ad2 "java/lang/StringBuilder") (HF_ad2_AbstractStringBuilder_value : Fld Z h0 ad2 "java/lang/AbstractStringBuilder" "value" "[B" (.ref ad3)) (HF_ad2_AbstractStringBuilder_coder : Fld Z h0 ad2 "java/lang/AbstractStringBuilder" "coder" "B" (.int (0 : Int32))) (HF_ad2_AbstractStringBuilder_count : Fld Z h0 ad2 "java/lang/AbstractStringBuilder" "count" "I" (.int iv1)) (HV_ad3 : Arv Z h0 ad3 kc2 .byte (34 : Int32) ls1 (.int (0 : Int32))) (HE_ad1 : Exa Z h0 ad1 "java/lang/String") (HF_ad1_String_value : Fld Z h0 ad1 "java/lang/String" "value" "[B" .null) (HF_ad1_String_coder : Fld Z h0 ad1 "java/lang/String" "coder" "B" (.int (0 : Int32))) (nn_ad1 : n0 ≤ ad1) (ne_ad1_ad3 : ad1 ≠ ad3) (as0 : ((0 : Int32)).toNatClampNeg + ((iv1 - (0 : Int32))).toNatClampNeg ≤ ((34 : Int32)).toNatClampNeg) (as1 : ((0 : Int32)).toNatClampNeg + ((iv1 - (0 : Int32))).toNatClampNeg ≤ ((iv1 - (0 : Int32))).toNatClampNeg) (as2 : ((iv1 - (0 : Int32))).toNatClampNeg ≤ ((25 : Int32)).toNatClampNeg) (as3 : ¬ ((iv1 - (0 : Int32)) < (0 : Int32))) (as4 : (iv1 - (0 : Int32)) < (34 : Int32)) (as5 : ¬ (iv1 < (0 : Int32))) (as6 : ¬ (iv1 = (34 : Int32))) :
    MetFree l y_26 (head1 (Jvm.Cond.code y_26 jdk_42_method_53_code 2 none :: ws) (rm 4 1 25 65)) (fun a_ U_ => a_ = #[(.ref ad1), (.ref ad2)] ∧ Z.Warmed39 U_.vm ∧ U_.heap = h0) (fun _ _ _ _ _ => True) (fun _ U_ o_ V_ => ∃ v_ L_, o_ = .returned v_ ∧ Q_am26_1 Z cs_ un_ sn_ ad1 ad2 ad3 iv1 ls1 kc2 h0 n0 v_ V_.heap L_ ∧ FrameEnd U_ o_ V_ L_ (rm 4 1 25 65).cells (rm 4 1 25 65).slots) := by
  refine MetFree.of_bodySF (plainFor_of_name pn_0) hisR ?_
  intro p e s m args below meth c s₁ Bd hml0 hP hK
  obtain ⟨rfl, hZ, hh⟩ := hP
  have hx := Bd.exec
  have hby := Bd.bytes
  have hml : c.maxLocals = 2 := hml0
  have hown : s.vm.findClass "java/lang/String" = some m.cls := findClass_of_methodNamed Bd.named
  have hnm := (name_of_methodNamed Bd.named Bd.method).1
  have X0 : Stand p l e (rm 4 1 25 65) s m #[(.ref ad1), (.ref ad2)] below meth c s₁ [] 0 0 := Stand.of_body Bd
  have e0 : s₁.heap = h0 := by rw [← hh, Bd.state]; rfl
  have N0 := Fr.nil n0
  have kp0 := Keep.refl h0 [ad1]
  show Go p e below (Fin1 s below (Q_am26_1 Z cs_ un_ sn_ ad1 ad2 ad3 iv1 ls1 kc2 h0 n0) (rm 4 1 25 65).cells (rm 4 1 25 65).slots) _
  refine Go.step (fun t_ k_ => castTop (ef_am26_1 m ad1 ad2) k_) ?_
  obtain ⟨S_cs, N_cs, S_un, R_un, S_sn, R_sn⟩ := id HW
  show Go p e below _ (s₁.setTop (mkF m 0 #[.val (.ref ad1), .val (.ref ad2)] []))
  refine gs.aloadN X0.here hx (hb hby d26_0) rfl rfl ?_
  refine gs.aloadN X0.here hx (hb hby d26_1) rfl rfl ?_
  refine gs.aconstNull X0.here hx (hb hby d26_2) ?_
  refine gs.init 0 X0 hx hZ hown (am27_1 l Z a0 hw [] cs_ un_ sn_ HW (ad1) (ad2) (ad3) (iv1) (ls1) (kc2) h0 n0 Ol HE_ad2 HF_ad2_AbstractStringBuilder_value HF_ad2_AbstractStringBuilder_coder HF_ad2_AbstractStringBuilder_count HV_ad3 HE_ad1 HF_ad1_String_value HF_ad1_String_coder nn_ad1 ne_ad1_ad3 as0 as1 as2 as3 as4 as5 as6) (wd hw 147 rfl) (wd hw 6 rfl) (wd hw 145 rfl) rfl (wd hw 146 rfl) (by decide) (by decide) (by decide) (by rw [hml]; rfl) [(.ref ad2), .null] (lenOf pd_25 rfl) rfl (Nat.le_of_eq rfl) (hb hby d26_3) rfl e0 (by decide) (by decide) fun T1 Lc1 v1 X1 hQ1 => ?_
  obtain ⟨b1_0, kx1_0, rfl, gb_b1_0, Nq1, K1, p1_0, p1_1, p1_2, p1_3, p1_4⟩ := hQ1
  have nn_b1_0 : n0 ≤ b1_0 := Nat.le_trans (old_z0 Ol) gb_b1_0
  have sz_b1_0 : h0.size ≤ b1_0 := Nat.le_trans kp0.1 gb_b1_0
  have old1 := Ol.keep K1 (allS nn_ad1 all0)
  have kp1 := kp0.trans K1 (allS (Or.inl (List.mem_of_getElem? (i := 0) rfl)) all0)
  have N1 := Fr.app N0 Nq1
  show Go p e below _ (T1.setTop (mkF m 6 _ []))
  refine Go.retV X1 hx Bd.returns Bd.notSynchronized (hb hby d26_6) (by exact ⟨b1_0, kx1_0, rfl, sz_b1_0, N1, kp1, p1_0, p1_1, p1_2, p1_3, p1_4⟩) (by decide) (by decide)
theorem pd_26 : parseMethodDescriptor "(Ljava/lang/StringBuilder;)V" = some ⟨[(.object "java/lang/StringBuilder")], none⟩ := by decide +kernel
theorem d25_8 : decode c_25 8 = .ok (.areturn, 1) := by decide +kernel
theorem ef_am25_1 (m : MethodId) (x0 : Addr)  : entryFrame m #[(.ref x0)] 1 = mkF m 0 #[.val (.ref x0)] [] := by first | (simp [entryFrame, mkF, argsToLocals, Value.category]; done) | rfl
def Q_am25_1 (Z : State) (cs_ : Int32) (un_ : Value) (sn_ : Value) (ad1 : Addr) (ad2 : Addr) (iv1 : Int32) (ls1 : List Value) (kc2 : ClassId) (h0 : Heap) (n0 : Nat) (v : Option Value) (h : Heap) (L : List Loc) : Prop := ∃ fr1 : Addr, ∃ fr2 : Addr, ∃ kx1 : ClassId, v = some (.ref fr1) ∧ h0.size ≤ fr1 ∧ h0.size ≤ fr2 ∧ fr1 ≠ fr2 ∧ Fr n0 L ∧ Keep h0 h [] ∧ (Exa Z h fr1 "java/lang/String") ∧ (Fld Z h fr1 "java/lang/String" "coder" "B" (.int (0 : Int32))) ∧ (Fld Z h fr1 "java/lang/String" "value" "[B" (.ref fr2)) ∧ (((cpL (List.replicate ((iv1 - (0 : Int32))).toNatClampNeg (.int (0 : Int32))) ls1 (0 : Int32) (0 : Int32) (iv1 - (0 : Int32)) (.int (0 : Int32))) : List Value).length = ((iv1 - (0 : Int32))).toNatClampNeg) ∧ (Arv Z h fr2 kx1 .byte (iv1 - (0 : Int32)) (cpL (List.replicate ((iv1 - (0 : Int32))).toNatClampNeg (.int (0 : Int32))) ls1 (0 : Int32) (0 : Int32) (iv1 - (0 : Int32)) (.int (0 : Int32))) (.int (0 : Int32)))
set_option maxRecDepth 65536 in
set_option maxHeartbeats 40000000 in
theorem am25_1 (l : Launch) (Z : State) (a0 : Array Value) (hw : ∀ d ∈ tables_1, d.before a0 Z = true) (ws : List Jvm.Cond) (cs_ : Int32) (un_ : Value) (sn_ : Value) (HW : Wd Z cs_ un_ sn_) (ad1 : Addr) (ad2 : Addr) (iv1 : Int32) (ls1 : List Value) (kc2 : ClassId) (h0 : Heap) (n0 : Nat) (Ol : Old Z n0 h0) (HE_ad1 : Exa Z h0 ad1 "java/lang/StringBuilder") (HF_ad1_AbstractStringBuilder_value : Fld Z h0 ad1 "java/lang/AbstractStringBuilder" "value" "[B" (.ref ad2)) (HF_ad1_AbstractStringBuilder_coder : Fld Z h0 ad1 "java/lang/AbstractStringBuilder" "coder" "B" (.int (0 : Int32))) (HF_ad1_AbstractStringBuilder_count : Fld Z h0 ad1 "java/lang/AbstractStringBuilder" "count" "I" (.int iv1)) (HV_ad2 : Arv Z h0 ad2 kc2 .byte (34 : Int32) ls1 (.int (0 : Int32))) (as0 : ((0 : Int32)).toNatClampNeg + ((iv1 - (0 : Int32))).toNatClampNeg ≤ ((34 : Int32)).toNatClampNeg) (as1 : ((0 : Int32)).toNatClampNeg + ((iv1 - (0 : Int32))).toNatClampNeg ≤ ((iv1 - (0 : Int32))).toNatClampNeg) (as2 : ((iv1 - (0 : Int32))).toNatClampNeg ≤ ((25 : Int32)).toNatClampNeg) (as3 : ¬ ((iv1 - (0 : Int32)) < (0 : Int32))) (as4 : (iv1 - (0 : Int32)) < (34 : Int32)) (as5 : ¬ (iv1 < (0 : Int32))) (as6 : ¬ (iv1 = (34 : Int32))) :
    MetFree l y_25 (head1 (Jvm.Cond.code y_25 jdk_67_method_42_code 1 (some (.object "java/lang/String")) :: ws) (rm 5 2 29 79)) (fun a_ U_ => a_ = #[(.ref ad1)] ∧ Z.Warmed39 U_.vm ∧ U_.heap = h0) (fun _ _ _ _ _ => True) (fun _ U_ o_ V_ => ∃ v_ L_, o_ = .returned v_ ∧ Q_am25_1 Z cs_ un_ sn_ ad1 ad2 iv1 ls1 kc2 h0 n0 v_ V_.heap L_ ∧ FrameEnd U_ o_ V_ L_ (rm 5 2 29 79).cells (rm 5 2 29 79).slots) := by
  refine MetFree.of_bodySF (plainFor_of_name pn_4) hisR ?_
  intro p e s m args below meth c s₁ Bd hml0 hP hK
  obtain ⟨rfl, hZ, hh⟩ := hP
  have hx := Bd.exec
  have hby := Bd.bytes
  have hml : c.maxLocals = 1 := hml0
  have hown : s.vm.findClass "java/lang/StringBuilder" = some m.cls := findClass_of_methodNamed Bd.named
  have hnm := (name_of_methodNamed Bd.named Bd.method).1
  have X0 : Stand p l e (rm 5 2 29 79) s m #[(.ref ad1)] below meth c s₁ [] 0 0 := Stand.of_body Bd
  have e0 : s₁.heap = h0 := by rw [← hh, Bd.state]; rfl
  have N0 := Fr.nil n0
  have kp0 := Keep.refl h0 []
  show Go p e below (Fin1 s below (Q_am25_1 Z cs_ un_ sn_ ad1 ad2 iv1 ls1 kc2 h0 n0) (rm 5 2 29 79).cells (rm 5 2 29 79).slots) _
  refine Go.step (fun t_ k_ => castTop (ef_am25_1 m ad1) k_) ?_
  obtain ⟨S_cs, N_cs, S_un, R_un, S_sn, R_sn⟩ := id HW
  show Go p e below _ (s₁.setTop (mkF m 0 #[.val (.ref ad1)] []))
  obtain ⟨T1, h1, X1, e1, E1, A1, D1, Y1, st1⟩ := newO X0 hx hZ hown (wd hw 141 rfl) (wd hw 5 rfl) (wd hw 6 rfl) e0 (g := (mkF m 0 #[.val (.ref ad1)] [])) rfl (hb hby d25_0) (by decide) (by decide)
  obtain ⟨b1, g1⟩ : ∃ z, z = h0.size := ⟨_, rfl⟩
  rw [← g1] at A1 D1 Y1 st1
  have nn_b1 : n0 ≤ b1 := Nat.le_trans (old_z0 Ol) (Nat.le_of_eq g1.symm)
  have sz_b1 : h0.size ≤ b1 := Nat.le_trans kp0.1 (Nat.le_of_eq g1.symm)
  have old1 := Ol.ext E1
  have kp1 := kp0.ext E1
  have F1_value : Fld Z h1 b1 "java/lang/String" "value" "[B" .null := D1 (Or.inr (wd hw 20 rfl)) (ty := (.array .byte)) (by decide)
  have F1_coder : Fld Z h1 b1 "java/lang/String" "coder" "B" (.int (0 : Int32)) := D1 (Or.inr (wd hw 21 rfl)) (ty := .byte) (by decide)
  refine Go.fin st1 ?_
  show Go p e below _ (T1.setTop (mkF m 3 _ [(.ref b1)]))
  refine gs.dup X1.here hx (hb hby d25_3) rfl ?_
  refine gs.aloadN X1.here hx (hb hby d25_4) rfl rfl ?_
  have f2 := (HE_ad1.ext E1)
  have f3 := (HF_ad1_AbstractStringBuilder_value.ext E1)
  have f4 := (HF_ad1_AbstractStringBuilder_coder.ext E1)
  have f5 := (HF_ad1_AbstractStringBuilder_count.ext E1)
  have f6 := (HV_ad2.ext E1)
  have ne_ad2_b1 : ad2 ≠ b1 := Nat.ne_of_lt (Nat.lt_of_lt_of_le HV_ad2.lt (Nat.le_of_eq g1.symm))
  refine gs.init 1 X1 hx hZ hown (am26_1 l Z a0 hw [] cs_ un_ sn_ HW (b1) (ad1) (ad2) (iv1) (ls1) (kc2) h1 n0 old1 f2 f3 f4 f5 f6 A1 F1_value F1_coder nn_b1 (Ne.symm ne_ad2_b1) as0 as1 as2 as3 as4 as5 as6) (wd hw 144 rfl) (wd hw 6 rfl) (wd hw 142 rfl) rfl (wd hw 143 rfl) (by decide) (by decide) (by decide) (by rw [hml]; rfl) [(.ref ad1)] (lenOf pd_26 rfl) rfl (Nat.le_of_eq rfl) (hb hby d25_5) rfl e1 (by decide) (by decide) fun T7 Lc7 v7 X7 hQ7 => ?_
  obtain ⟨b7_0, kx7_0, rfl, gb_b7_0, Nq7, K7, p7_0, p7_1, p7_2, p7_3, p7_4⟩ := hQ7
  have nn_b7_0 : n0 ≤ b7_0 := Nat.le_trans (old_z0 old1) gb_b7_0
  have sz_b7_0 : h0.size ≤ b7_0 := Nat.le_trans kp1.1 gb_b7_0
  have old7 := old1.keep K7 (allS nn_b1 all0)
  have kp7 := kp1.trans K7 (allS (Or.inr sz_b1) all0)
  have N7 := Fr.app N0 Nq7
  show Go p e below _ (T7.setTop (mkF m 8 _ [(.ref b1)]))
  have ne_b1_b7_0 : b1 ≠ b7_0 := Nat.ne_of_lt (Nat.lt_of_lt_of_le A1.lt gb_b7_0)
  refine Go.retR X7 hx Bd.returns rfl rfl Bd.notSynchronized (hb hby d25_8) (by exact ⟨b1, b7_0, kx7_0, rfl, sz_b1, sz_b7_0, ne_b1_b7_0, N7, kp7, p7_0, p7_1, p7_2, p7_3, p7_4⟩) (by decide) (by decide)
theorem pd_27 : parseMethodDescriptor "()Ljava/lang/String;" = some ⟨[], some (.object "java/lang/String")⟩ := by decide +kernel
theorem d9_27 : decode c_9 27 = .ok (.invokespecial 116, 3) := by decide +kernel
theorem d35_0 : decode c_35 0 = .ok (.aload_n 0, 1) := by decide +kernel
theorem d35_1 : decode c_35 1 = .ok (.aload_n 1, 1) := by decide +kernel
theorem d35_2 : decode c_35 2 = .ok (.aconst_null, 1) := by decide +kernel
theorem d35_3 : decode c_35 3 = .ok (.invokespecial 1, 3) := by decide +kernel
theorem d36_0 : decode c_36 0 = .ok (.aload_n 0, 1) := by decide +kernel
theorem d36_1 : decode c_36 1 = .ok (.aload_n 1, 1) := by decide +kernel
theorem d36_2 : decode c_36 2 = .ok (.aload_n 2, 1) := by decide +kernel
theorem d36_3 : decode c_36 3 = .ok (.invokespecial 1, 3) := by decide +kernel
theorem d37_0 : decode c_37 0 = .ok (.aload_n 0, 1) := by decide +kernel
theorem d37_1 : decode c_37 1 = .ok (.aload_n 1, 1) := by decide +kernel
theorem d37_2 : decode c_37 2 = .ok (.aload_n 2, 1) := by decide +kernel
theorem d37_3 : decode c_37 3 = .ok (.invokespecial 10, 3) := by decide +kernel
theorem d38_0 : decode c_38 0 = .ok (.aload_n 0, 1) := by decide +kernel
theorem d38_1 : decode c_38 1 = .ok (.aload_n 1, 1) := by decide +kernel
theorem d38_2 : decode c_38 2 = .ok (.aload_n 2, 1) := by decide +kernel
theorem d38_3 : decode c_38 3 = .ok (.invokespecial 10, 3) := by decide +kernel
theorem d39_0 : decode c_39 0 = .ok (.aload_n 0, 1) := by decide +kernel
theorem d39_1 : decode c_39 1 = .ok (.invokespecial 1, 3) := by decide +kernel
theorem d39_4 : decode c_39 4 = .ok (.aload_n 0, 1) := by decide +kernel
theorem d39_5 : decode c_39 5 = .ok (.aload_n 0, 1) := by decide +kernel
theorem d39_6 : decode c_39 6 = .ok (.putfield 7, 3) := by decide +kernel
theorem d39_9 : decode c_39 9 = .ok (.aload_n 0, 1) := by decide +kernel
theorem d39_10 : decode c_39 10 = .ok (.getstatic 13, 3) := by decide +kernel
theorem d39_13 : decode c_39 13 = .ok (.putfield 17, 3) := by decide +kernel
theorem sn8 {a0 : Array Value} {Z : State} (hw : ∀ d ∈ tables_1, d.before a0 Z = true) : SN Z "java/lang/Throwable" "stackTrace" "[Ljava/lang/StackTraceElement;" "java/lang/Throwable" "cause" "Ljava/lang/Throwable;" := slot_ne (Or.inl (wd hw 205 rfl)) (Or.inl (wd hw 202 rfl)) (by decide) (t := (.array (.object "java/lang/StackTraceElement"))) (t' := (.object "java/lang/Throwable")) (by decide) (by decide)
theorem d39_16 : decode c_39 16 = .ok (.aload_n 0, 1) := by decide +kernel
theorem d39_17 : decode c_39 17 = .ok (.getstatic 20, 3) := by decide +kernel
theorem d39_20 : decode c_39 20 = .ok (.putfield 24, 3) := by decide +kernel
theorem sn9 {a0 : Array Value} {Z : State} (hw : ∀ d ∈ tables_1, d.before a0 Z = true) : SN Z "java/lang/Throwable" "suppressedExceptions" "Ljava/util/List;" "java/lang/Throwable" "cause" "Ljava/lang/Throwable;" := slot_ne (Or.inl (wd hw 208 rfl)) (Or.inl (wd hw 202 rfl)) (by decide) (t := (.object "java/util/List")) (t' := (.object "java/lang/Throwable")) (by decide) (by decide)
theorem sn10 {a0 : Array Value} {Z : State} (hw : ∀ d ∈ tables_1, d.before a0 Z = true) : SN Z "java/lang/Throwable" "suppressedExceptions" "Ljava/util/List;" "java/lang/Throwable" "stackTrace" "[Ljava/lang/StackTraceElement;" := slot_ne (Or.inl (wd hw 208 rfl)) (Or.inl (wd hw 205 rfl)) (by decide) (t := (.object "java/util/List")) (t' := (.array (.object "java/lang/StackTraceElement"))) (by decide) (by decide)
theorem d39_23 : decode c_39 23 = .ok (.aload_n 0, 1) := by decide +kernel
theorem d39_24 : decode c_39 24 = .ok (.invokevirtual 27, 3) := by decide +kernel
theorem sn11 {a0 : Array Value} {Z : State} (hw : ∀ d ∈ tables_1, d.before a0 Z = true) : SN Z "java/lang/Throwable" "stackTrace" "[Ljava/lang/StackTraceElement;" "java/lang/Throwable" "suppressedExceptions" "Ljava/util/List;" := slot_ne (Or.inl (wd hw 205 rfl)) (Or.inl (wd hw 208 rfl)) (by decide) (t := (.array (.object "java/lang/StackTraceElement"))) (t' := (.object "java/util/List")) (by decide) (by decide)
theorem sn12 {a0 : Array Value} {Z : State} (hw : ∀ d ∈ tables_1, d.before a0 Z = true) : SN Z "java/lang/Throwable" "backtrace" "Ljava/lang/Object;" "java/lang/Throwable" "cause" "Ljava/lang/Throwable;" := slot_ne (Or.inl (wd hw 233 rfl)) (Or.inl (wd hw 202 rfl)) (by decide) (t := (.object "java/lang/Object")) (t' := (.object "java/lang/Throwable")) (by decide) (by decide)
theorem sn13 {a0 : Array Value} {Z : State} (hw : ∀ d ∈ tables_1, d.before a0 Z = true) : SN Z "java/lang/Throwable" "backtrace" "Ljava/lang/Object;" "java/lang/Throwable" "stackTrace" "[Ljava/lang/StackTraceElement;" := slot_ne (Or.inl (wd hw 233 rfl)) (Or.inl (wd hw 205 rfl)) (by decide) (t := (.object "java/lang/Object")) (t' := (.array (.object "java/lang/StackTraceElement"))) (by decide) (by decide)
theorem sn14 {a0 : Array Value} {Z : State} (hw : ∀ d ∈ tables_1, d.before a0 Z = true) : SN Z "java/lang/Throwable" "backtrace" "Ljava/lang/Object;" "java/lang/Throwable" "suppressedExceptions" "Ljava/util/List;" := slot_ne (Or.inl (wd hw 233 rfl)) (Or.inl (wd hw 208 rfl)) (by decide) (t := (.object "java/lang/Object")) (t' := (.object "java/util/List")) (by decide) (by decide)
theorem sn15 {a0 : Array Value} {Z : State} (hw : ∀ d ∈ tables_1, d.before a0 Z = true) : SN Z "java/lang/Throwable" "cause" "Ljava/lang/Throwable;" "java/lang/Throwable" "stackTrace" "[Ljava/lang/StackTraceElement;" := slot_ne (Or.inl (wd hw 202 rfl)) (Or.inl (wd hw 205 rfl)) (by decide) (t := (.object "java/lang/Throwable")) (t' := (.array (.object "java/lang/StackTraceElement"))) (by decide) (by decide)
theorem sn16 {a0 : Array Value} {Z : State} (hw : ∀ d ∈ tables_1, d.before a0 Z = true) : SN Z "java/lang/Throwable" "cause" "Ljava/lang/Throwable;" "java/lang/Throwable" "suppressedExceptions" "Ljava/util/List;" := slot_ne (Or.inl (wd hw 202 rfl)) (Or.inl (wd hw 208 rfl)) (by decide) (t := (.object "java/lang/Throwable")) (t' := (.object "java/util/List")) (by decide) (by decide)
theorem sn17 {a0 : Array Value} {Z : State} (hw : ∀ d ∈ tables_1, d.before a0 Z = true) : SN Z "java/lang/Throwable" "detailMessage" "Ljava/lang/String;" "java/lang/Throwable" "cause" "Ljava/lang/Throwable;" := slot_ne (Or.inl (wd hw 232 rfl)) (Or.inl (wd hw 202 rfl)) (by decide) (t := (.object "java/lang/String")) (t' := (.object "java/lang/Throwable")) (by decide) (by decide)
theorem sn18 {a0 : Array Value} {Z : State} (hw : ∀ d ∈ tables_1, d.before a0 Z = true) : SN Z "java/lang/Throwable" "detailMessage" "Ljava/lang/String;" "java/lang/Throwable" "stackTrace" "[Ljava/lang/StackTraceElement;" := slot_ne (Or.inl (wd hw 232 rfl)) (Or.inl (wd hw 205 rfl)) (by decide) (t := (.object "java/lang/String")) (t' := (.array (.object "java/lang/StackTraceElement"))) (by decide) (by decide)
theorem sn19 {a0 : Array Value} {Z : State} (hw : ∀ d ∈ tables_1, d.before a0 Z = true) : SN Z "java/lang/Throwable" "detailMessage" "Ljava/lang/String;" "java/lang/Throwable" "suppressedExceptions" "Ljava/util/List;" := slot_ne (Or.inl (wd hw 232 rfl)) (Or.inl (wd hw 208 rfl)) (by decide) (t := (.object "java/lang/String")) (t' := (.object "java/util/List")) (by decide) (by decide)
theorem d39_27 : decode c_39 27 = .ok (.pop, 1) := by decide +kernel
theorem d39_28 : decode c_39 28 = .ok (.aload_n 0, 1) := by decide +kernel
theorem d39_29 : decode c_39 29 = .ok (.aload_n 1, 1) := by decide +kernel
theorem d39_30 : decode c_39 30 = .ok (.putfield 31, 3) := by decide +kernel
theorem d39_33 : decode c_39 33 = .ok (.aload_n 0, 1) := by decide +kernel
theorem d39_34 : decode c_39 34 = .ok (.aload_n 2, 1) := by decide +kernel
theorem d39_35 : decode c_39 35 = .ok (.putfield 7, 3) := by decide +kernel
theorem sn20 {a0 : Array Value} {Z : State} (hw : ∀ d ∈ tables_1, d.before a0 Z = true) : SN Z "java/lang/Throwable" "cause" "Ljava/lang/Throwable;" "java/lang/Throwable" "detailMessage" "Ljava/lang/String;" := slot_ne (Or.inl (wd hw 202 rfl)) (Or.inl (wd hw 232 rfl)) (by decide) (t := (.object "java/lang/Throwable")) (t' := (.object "java/lang/String")) (by decide) (by decide)
theorem d39_38 : decode c_39 38 = .ok (.return_, 1) := by decide +kernel
theorem pn_7 : plainName "java/lang/Throwable" = true := by first | (simp [plainName, overriddenIn]; done) | decide +kernel
theorem ef_am39_1 (m : MethodId) (x0 : Addr) (x1 : Addr)  : entryFrame m #[(.ref x0), (.ref x1), .null] 3 = mkF m 0 #[.val (.ref x0), .val (.ref x1), .val .null] [] := by first | (simp [entryFrame, mkF, argsToLocals, Value.category]; done) | rfl
def Q_am39_1 (Z : State) (cs_ : Int32) (un_ : Value) (sn_ : Value) (ad1 : Addr) (ad2 : Addr) (h0 : Heap) (n0 : Nat) (v : Option Value) (h : Heap) (L : List Loc) : Prop := v = none ∧ Fr n0 L ∧ Keep h0 h [ad1] ∧ (Exa Z h ad1 "com/example/penelope/penelope/exception/InterceptionException") ∧ (Fld Z h ad1 "java/lang/Throwable" "cause" "Ljava/lang/Throwable;" .null) ∧ (Fld Z h ad1 "java/lang/Throwable" "detailMessage" "Ljava/lang/String;" (.ref ad2)) ∧ (Unt h ad1)
set_option maxRecDepth 65536 in
set_option maxHeartbeats 40000000 in
theorem am39_1 (l : Launch) (Z : State) (a0 : Array Value) (hw : ∀ d ∈ tables_1, d.before a0 Z = true) (ws : List Jvm.Cond) (cs_ : Int32) (un_ : Value) (sn_ : Value) (HW : Wd Z cs_ un_ sn_) (ad1 : Addr) (ad2 : Addr) (h0 : Heap) (n0 : Nat) (Ol : Old Z n0 h0) (hl : l.stackTraces = true) (HE_ad1 : Exa Z h0 ad1 "com/example/penelope/penelope/exception/InterceptionException") (HY_ad1 : Unt h0 ad1) (HF_ad1_Throwable_cause : Fld Z h0 ad1 "java/lang/Throwable" "cause" "Ljava/lang/Throwable;" .null) (HF_ad1_Throwable_stackTrace : Fld Z h0 ad1 "java/lang/Throwable" "stackTrace" "[Ljava/lang/StackTraceElement;" .null) (HF_ad1_Throwable_suppressedExceptions : Fld Z h0 ad1 "java/lang/Throwable" "suppressedExceptions" "Ljava/util/List;" .null) (HF_ad1_Throwable_detailMessage : Fld Z h0 ad1 "java/lang/Throwable" "detailMessage" "Ljava/lang/String;" .null) (HF_ad1_Throwable_backtrace : Fld Z h0 ad1 "java/lang/Throwable" "backtrace" "Ljava/lang/Object;" .null) (HF_ad1_Throwable_depth : Fld Z h0 ad1 "java/lang/Throwable" "depth" "I" (.int (0 : Int32))) (nn_ad1 : n0 ≤ ad1) :
    MetFree l y_39 (head1 (Jvm.Cond.code y_39 jdk_78_method_3_code 3 none :: ws) (rm 3 1 2752 42)) (fun a_ U_ => a_ = #[(.ref ad1), (.ref ad2), .null] ∧ Z.Warmed39 U_.vm ∧ U_.heap = h0) (fun _ _ bl_ s_ _ => s_.vm.MethodsKnown ∧ s_.vm.FramesKnown bl_) (fun _ U_ o_ V_ => ∃ v_ L_, o_ = .returned v_ ∧ Q_am39_1 Z cs_ un_ sn_ ad1 ad2 h0 n0 v_ V_.heap L_ ∧ FrameEnd U_ o_ V_ L_ (rm 3 1 2752 42).cells (rm 3 1 2752 42).slots) := by
  refine MetFree.of_bodySF (plainFor_of_name pn_7) hisR ?_
  intro p e s m args below meth c s₁ Bd hml0 hP hK
  obtain ⟨rfl, hZ, hh⟩ := hP
  have hx := Bd.exec
  have hby := Bd.bytes
  have hml : c.maxLocals = 3 := hml0
  have hown : s.vm.findClass "java/lang/Throwable" = some m.cls := findClass_of_methodNamed Bd.named
  have hnm := (name_of_methodNamed Bd.named Bd.method).1
  have X0 : Stand p l e (rm 3 1 2752 42) s m #[(.ref ad1), (.ref ad2), .null] below meth c s₁ [] 0 0 := Stand.of_body Bd
  have e0 : s₁.heap = h0 := by rw [← hh, Bd.state]; rfl
  obtain ⟨hTK, hBelow⟩ := hK
  have N0 := Fr.nil n0
  have kp0 := Keep.refl h0 [ad1]
  show Go p e below (Fin1 s below (Q_am39_1 Z cs_ un_ sn_ ad1 ad2 h0 n0) (rm 3 1 2752 42).cells (rm 3 1 2752 42).slots) _
  refine Go.step (fun t_ k_ => castTop (ef_am39_1 m ad1 ad2) k_) ?_
  obtain ⟨S_cs, N_cs, S_un, R_un, S_sn, R_sn⟩ := id HW
  show Go p e below _ (s₁.setTop (mkF m 0 #[.val (.ref ad1), .val (.ref ad2), .val .null] []))
  refine gs.aloadN X0.here hx (hb hby d39_0) rfl rfl ?_
  obtain ⟨T1, X1, e1, st1⟩ := initO X0 hx hZ hown (wd hw 200 rfl) (wd hw 16 rfl) (wd hw 17 rfl) e0 (g := (mkF m 1 #[.val (.ref ad1), .val (.ref ad2), .val .null] [(.ref ad1)])) rfl (by rw [hml]; rfl) rfl (hb hby d39_1) (by decide) (W := 0) (by show 2 * 0 + _ ≤ _; exact Nat.le_of_eq rfl) (by decide)
  refine Go.step st1 ?_
  show Go p e below _ (T1.setTop (mkF m 4 #[.val (.ref ad1), .val (.ref ad2), .val .null] []))
  refine gs.aloadN X1.here hx (hb hby d39_4) rfl rfl ?_
  refine gs.aloadN X1.here hx (hb hby d39_5) rfl rfl ?_
  obtain ⟨T2, h2, X2, e2, W2, st2⟩ := putF X1 hx hZ hown (host := "") (Or.inl (wd hw 201 rfl)) Via.refl e1 HF_ad1_Throwable_cause HE_ad1 (Or.inl (wd hw 202 rfl)) (wd hw 45 rfl) (ty := (.object "java/lang/Throwable")) (by decide) rfl rfl (g := (mkF m 6 #[.val (.ref ad1), .val (.ref ad2), .val .null] [(.ref ad1), (.ref ad1)])) rfl rfl (hb hby d39_6)
  have N2 := Fr.snoc X2 N0 nn_ad1
  have old2 := Ol.wr W2 nn_ad1
  have kp2 := kp0.wr W2 (Or.inl (List.mem_of_getElem? (i := 0) rfl))
  have F2 := HF_ad1_Throwable_cause.same W2
  refine Go.fin st2 ?_
  show Go p e below _ (T2.setTop (mkF m 9 _ []))
  refine gs.aloadN X2.here hx (hb hby d39_9) rfl rfl ?_
  obtain ⟨T3, X3, e3, st3⟩ := getS2 X2 hx hZ hown (host := "") (Or.inl (wd hw 203 rfl)) Via.refl e2 (S_un.ext old2.2) (g := (mkF m 10 #[.val (.ref ad1), .val (.ref ad2), .val .null] [(.ref ad1)])) rfl (hb hby d39_10)
  refine Go.fin st3 ?_
  show Go p e below _ (T3.setTop (mkF m 13 _ [un_, (.ref ad1)]))
  have f4 := (HF_ad1_Throwable_stackTrace.other W2 (Or.inr (sn8 hw)))
  have f5 := (HE_ad1.wr W2)
  obtain ⟨T6, h6, X6, e6, W6, st6⟩ := putF X3 hx hZ hown (host := "") (Or.inl (wd hw 204 rfl)) Via.refl e3 f4 f5 (Or.inl (wd hw 205 rfl)) (wd hw 45 rfl) (ty := (.array (.object "java/lang/StackTraceElement"))) (by decide) (narrow_isRef _ R_un) (fits_refV_array _ ⟨un_, R_un⟩) (g := (mkF m 13 #[.val (.ref ad1), .val (.ref ad2), .val .null] [un_, (.ref ad1)])) rfl rfl (hb hby d39_13)
  have N6 := Fr.snoc X6 N2 nn_ad1
  have old6 := old2.wr W6 nn_ad1
  have kp6 := kp2.wr W6 (Or.inl (List.mem_of_getElem? (i := 0) rfl))
  have F6 := f4.same W6
  refine Go.fin st6 ?_
  show Go p e below _ (T6.setTop (mkF m 16 _ []))
  refine gs.aloadN X6.here hx (hb hby d39_16) rfl rfl ?_
  obtain ⟨T7, X7, e7, st7⟩ := getS2 X6 hx hZ hown (host := "") (Or.inl (wd hw 206 rfl)) Via.refl e6 (S_sn.ext old6.2) (g := (mkF m 17 #[.val (.ref ad1), .val (.ref ad2), .val .null] [(.ref ad1)])) rfl (hb hby d39_17)
  refine Go.fin st7 ?_
  show Go p e below _ (T7.setTop (mkF m 20 _ [sn_, (.ref ad1)]))
  have f8 := ((HF_ad1_Throwable_suppressedExceptions.other W2 (Or.inr (sn9 hw))).other W6 (Or.inr (sn10 hw)))
  have f9 := (f5.wr W6)
  obtain ⟨T10, h10, X10, e10, W10, st10⟩ := putF X7 hx hZ hown (host := "") (Or.inl (wd hw 207 rfl)) Via.refl e7 f8 f9 (Or.inl (wd hw 208 rfl)) (wd hw 45 rfl) (ty := (.object "java/util/List")) (by decide) (narrow_isRef _ R_sn) (fits_refV_object _ ⟨sn_, R_sn⟩) (g := (mkF m 20 #[.val (.ref ad1), .val (.ref ad2), .val .null] [sn_, (.ref ad1)])) rfl rfl (hb hby d39_20)
  have N10 := Fr.snoc X10 N6 nn_ad1
  have old10 := old6.wr W10 nn_ad1
  have kp10 := kp6.wr W10 (Or.inl (List.mem_of_getElem? (i := 0) rfl))
  have F10 := f8.same W10
  refine Go.fin st10 ?_
  show Go p e below _ (T10.setTop (mkF m 23 _ []))
  refine gs.aloadN X10.here hx (hb hby d39_23) rfl rfl ?_
  have f11 := (f9.wr W10)
  have f12 := (Unt.wr W10 (Unt.wr W6 (Unt.wr W2 HY_ad1)))
  have f13 := (F6.other W10 (Or.inr (sn11 hw)))
  have f14 := (((HF_ad1_Throwable_backtrace.other W2 (Or.inr (sn12 hw))).other W6 (Or.inr (sn13 hw))).other W10 (Or.inr (sn14 hw)))
  have f15 := ((F2.other W6 (Or.inr (sn15 hw))).other W10 (Or.inr (sn16 hw)))
  have f16 := (((HF_ad1_Throwable_detailMessage.other W2 (Or.inr (sn17 hw))).other W6 (Or.inr (sn18 hw))).other W10 (Or.inr (sn19 hw)))
  obtain ⟨T17, h17, L17, X17, e17, hL17, kp17, E17, U17, gc17, gm17, st17⟩ := fillL (a0 := a0) X10 hx hl hZ hown (own_w hw) (by decide) (wd hw 45 rfl) hh (ThS.ext Ol.2 ThS.start) hTK hBelow e10 (by simp) HE_ad1 f11 f12 R_un f13 f14 (S_un.ext old10.2) (g := (mkF m 24 #[.val (.ref ad1), .val (.ref ad2), .val .null] [(.ref ad1)])) rfl (by rw [hml]; rfl) (rest := []) rfl (hb hby d39_24) (by decide) (by show 2 * 0 + _ + 42 ≤ _; decide) (by decide) (by decide)
  have Fc17 := gc17 f15
  have Fm17 := gm17 f16
  have N17 := Fr.app N10 (show Fr n0 L17 from fun y hy => by rw [hL17 y hy]; exact nn_ad1)
  have old17 := Ol.keep kp17 (allS nn_ad1 all0)
  refine Go.step st17 ?_
  show Go p e below _ (T17.setTop (mkF m 27 #[.val (.ref ad1), .val (.ref ad2), .val .null] [(.ref ad1)]))
  refine gs.pop X17.here hx (hb hby d39_27) rfl ?_
  refine gs.aloadN X17.here hx (hb hby d39_28) rfl rfl ?_
  refine gs.aloadN X17.here hx (hb hby d39_29) rfl rfl ?_
  obtain ⟨T18, h18, X18, e18, W18, st18⟩ := putF X17 hx hZ hown (host := "") (Or.inl (wd hw 236 rfl)) Via.refl e17 Fm17 E17 (Or.inl (wd hw 232 rfl)) (wd hw 45 rfl) (ty := (.object "java/lang/String")) (by decide) rfl rfl (g := (mkF m 30 #[.val (.ref ad1), .val (.ref ad2), .val .null] [(.ref ad2), (.ref ad1)])) rfl rfl (hb hby d39_30)
  have N18 := Fr.snoc X18 N17 nn_ad1
  have old18 := old17.wr W18 nn_ad1
  have kp18 := kp17.wr W18 (Or.inl (List.mem_of_getElem? (i := 0) rfl))
  have F18 := Fm17.same W18
  refine Go.fin st18 ?_
  show Go p e below _ (T18.setTop (mkF m 33 _ []))
  refine gs.aloadN X18.here hx (hb hby d39_33) rfl rfl ?_
  refine gs.aloadN X18.here hx (hb hby d39_34) rfl rfl ?_
  have f19 := (Fc17.other W18 (Or.inr (sn20 hw)))
  have f20 := (E17.wr W18)
  obtain ⟨T21, h21, X21, e21, W21, st21⟩ := putF X18 hx hZ hown (host := "") (Or.inl (wd hw 201 rfl)) Via.refl e18 f19 f20 (Or.inl (wd hw 202 rfl)) (wd hw 45 rfl) (ty := (.object "java/lang/Throwable")) (by decide) rfl rfl (g := (mkF m 35 #[.val (.ref ad1), .val (.ref ad2), .val .null] [.null, (.ref ad1)])) rfl rfl (hb hby d39_35)
  have N21 := Fr.snoc X21 N18 nn_ad1
  have old21 := old18.wr W21 nn_ad1
  have kp21 := kp18.wr W21 (Or.inl (List.mem_of_getElem? (i := 0) rfl))
  have F21 := f19.same W21
  refine Go.fin st21 ?_
  show Go p e below _ (T21.setTop (mkF m 38 _ []))
  have f22 := (f20.wr W21)
  have f23 := (F18.other W21 (Or.inr (sn17 hw)))
  have f24 := (Unt.wr W21 (Unt.wr W18 U17))
  refine Go.retV X21 hx Bd.returns Bd.notSynchronized (hb hby d39_38) (by rw [e21]; exact ⟨rfl, N21, kp21, f22, F21, f23, f24⟩) (by decide) (by decide)
theorem pd_28 : parseMethodDescriptor "(Ljava/lang/String;Ljava/lang/Throwable;)V" = some ⟨[(.object "java/lang/String"), (.object "java/lang/Throwable")], none⟩ := by decide +kernel
theorem d38_6 : decode c_38 6 = .ok (.return_, 1) := by decide +kernel
theorem pn_8 : plainName "java/lang/Exception" = true := by first | (simp [plainName, overriddenIn]; done) | decide +kernel
theorem ef_am38_1 (m : MethodId) (x0 : Addr) (x1 : Addr)  : entryFrame m #[(.ref x0), (.ref x1), .null] 3 = mkF m 0 #[.val (.ref x0), .val (.ref x1), .val .null] [] := by first | (simp [entryFrame, mkF, argsToLocals, Value.category]; done) | rfl
def Q_am38_1 (Z : State) (cs_ : Int32) (un_ : Value) (sn_ : Value) (ad1 : Addr) (ad2 : Addr) (h0 : Heap) (n0 : Nat) (v : Option Value) (h : Heap) (L : List Loc) : Prop := v = none ∧ Fr n0 L ∧ Keep h0 h [ad1] ∧ (Exa Z h ad1 "com/example/penelope/penelope/exception/InterceptionException") ∧ (Fld Z h ad1 "java/lang/Throwable" "cause" "Ljava/lang/Throwable;" .null) ∧ (Fld Z h ad1 "java/lang/Throwable" "detailMessage" "Ljava/lang/String;" (.ref ad2)) ∧ (Unt h ad1)
set_option maxRecDepth 65536 in
set_option maxHeartbeats 40000000 in
theorem am38_1 (l : Launch) (Z : State) (a0 : Array Value) (hw : ∀ d ∈ tables_1, d.before a0 Z = true) (ws : List Jvm.Cond) (cs_ : Int32) (un_ : Value) (sn_ : Value) (HW : Wd Z cs_ un_ sn_) (ad1 : Addr) (ad2 : Addr) (h0 : Heap) (n0 : Nat) (Ol : Old Z n0 h0) (hl : l.stackTraces = true) (HE_ad1 : Exa Z h0 ad1 "com/example/penelope/penelope/exception/InterceptionException") (HY_ad1 : Unt h0 ad1) (HF_ad1_Throwable_cause : Fld Z h0 ad1 "java/lang/Throwable" "cause" "Ljava/lang/Throwable;" .null) (HF_ad1_Throwable_stackTrace : Fld Z h0 ad1 "java/lang/Throwable" "stackTrace" "[Ljava/lang/StackTraceElement;" .null) (HF_ad1_Throwable_suppressedExceptions : Fld Z h0 ad1 "java/lang/Throwable" "suppressedExceptions" "Ljava/util/List;" .null) (HF_ad1_Throwable_detailMessage : Fld Z h0 ad1 "java/lang/Throwable" "detailMessage" "Ljava/lang/String;" .null) (HF_ad1_Throwable_backtrace : Fld Z h0 ad1 "java/lang/Throwable" "backtrace" "Ljava/lang/Object;" .null) (HF_ad1_Throwable_depth : Fld Z h0 ad1 "java/lang/Throwable" "depth" "I" (.int (0 : Int32))) (nn_ad1 : n0 ≤ ad1) :
    MetFree l y_38 (head1 (Jvm.Cond.code y_38 jdk_59_method_3_code 3 none :: ws) (rm 4 1 2752 56)) (fun a_ U_ => a_ = #[(.ref ad1), (.ref ad2), .null] ∧ Z.Warmed39 U_.vm ∧ U_.heap = h0) (fun _ _ bl_ s_ _ => s_.vm.MethodsKnown ∧ s_.vm.FramesKnown bl_) (fun _ U_ o_ V_ => ∃ v_ L_, o_ = .returned v_ ∧ Q_am38_1 Z cs_ un_ sn_ ad1 ad2 h0 n0 v_ V_.heap L_ ∧ FrameEnd U_ o_ V_ L_ (rm 4 1 2752 56).cells (rm 4 1 2752 56).slots) := by
  refine MetFree.of_bodySF (plainFor_of_name pn_8) hisR ?_
  intro p e s m args below meth c s₁ Bd hml0 hP hK
  obtain ⟨rfl, hZ, hh⟩ := hP
  have hx := Bd.exec
  have hby := Bd.bytes
  have hml : c.maxLocals = 3 := hml0
  have hown : s.vm.findClass "java/lang/Exception" = some m.cls := findClass_of_methodNamed Bd.named
  have hnm := (name_of_methodNamed Bd.named Bd.method).1
  have X0 : Stand p l e (rm 4 1 2752 56) s m #[(.ref ad1), (.ref ad2), .null] below meth c s₁ [] 0 0 := Stand.of_body Bd
  have e0 : s₁.heap = h0 := by rw [← hh, Bd.state]; rfl
  obtain ⟨hTK, hBelow⟩ := hK
  have N0 := Fr.nil n0
  have kp0 := Keep.refl h0 [ad1]
  show Go p e below (Fin1 s below (Q_am38_1 Z cs_ un_ sn_ ad1 ad2 h0 n0) (rm 4 1 2752 56).cells (rm 4 1 2752 56).slots) _
  refine Go.step (fun t_ k_ => castTop (ef_am38_1 m ad1 ad2) k_) ?_
  obtain ⟨S_cs, N_cs, S_un, R_un, S_sn, R_sn⟩ := id HW
  show Go p e below _ (s₁.setTop (mkF m 0 #[.val (.ref ad1), .val (.ref ad2), .val .null] []))
  refine gs.aloadN X0.here hx (hb hby d38_0) rfl rfl ?_
  refine gs.aloadN X0.here hx (hb hby d38_1) rfl rfl ?_
  refine gs.aloadN X0.here hx (hb hby d38_2) rfl rfl ?_
  obtain ⟨_, _, ⟨T1, L1, k1, n1⟩, -, X1, ⟨Lc1, hQ1, l1, y1, z1⟩, st1⟩ := X0.specialBack hx (y := y_39) rfl hown (mvT hZ (wd hw 194 rfl)) (mvT hZ (wd hw 195 rfl)) (mvT hZ (wd hw 199 rfl)) (by decide) (backOfKL (W := 0) (am39_1 l Z a0 hw [] cs_ un_ sn_ HW (ad1) (ad2) h0 n0 Ol hl HE_ad1 HY_ad1 HF_ad1_Throwable_cause HF_ad1_Throwable_stackTrace HF_ad1_Throwable_suppressedExceptions HF_ad1_Throwable_detailMessage HF_ad1_Throwable_backtrace HF_ad1_Throwable_depth nn_ad1) hZ (wd hw 199 rfl) (wd hw 198 rfl) (by decide) (by decide) hTK hBelow) (g := (mkF m 3 #[.val (.ref ad1), .val (.ref ad2), .val .null] [.null, (.ref ad2), (.ref ad1)])) rfl (by rw [hml]; rfl) (Steps.refl _) (a := ad1) (argsL := [(.ref ad2), .null]) (rest := []) (lenOf pd_28 rfl) rfl (by show 2 * 0 + _ ≤ _; exact Nat.le_of_eq rfl) (hb hby d38_3) (fun _ _ => ⟨rfl, e0, (by decide : 0 + 1 ≤ _), (by decide : 0 + 2752 ≤ _)⟩)
  dsimp only [Pt.U, Pt.locs, Pt.cells, Pt.slots] at X1 l1 y1 z1 st1 hQ1
  subst l1 y1 z1
  obtain ⟨rfl, Nq1, K1, p1_0, p1_1, p1_2, p1_3⟩ := hQ1
  have old1 := Ol.keep K1 (allS nn_ad1 all0)
  have kp1 := kp0.trans K1 (allS (Or.inl (List.mem_of_getElem? (i := 0) rfl)) all0)
  have N1 := Fr.app N0 Nq1
  refine Go.step (fun t_ k_ => st1.trans k_) ?_
  show Go p e below _ (T1.setTop (mkF m 6 #[.val (.ref ad1), .val (.ref ad2), .val .null] []))
  refine Go.retV X1 hx Bd.returns Bd.notSynchronized (hb hby d38_6) (by exact ⟨rfl, N1, kp1, p1_0, p1_1, p1_2, p1_3⟩) (by decide) (by decide)
theorem d37_6 : decode c_37 6 = .ok (.return_, 1) := by decide +kernel
theorem pn_9 : plainName "java/lang/RuntimeException" = true := by first | (simp [plainName, overriddenIn]; done) | decide +kernel
theorem ef_am37_1 (m : MethodId) (x0 : Addr) (x1 : Addr)  : entryFrame m #[(.ref x0), (.ref x1), .null] 3 = mkF m 0 #[.val (.ref x0), .val (.ref x1), .val .null] [] := by first | (simp [entryFrame, mkF, argsToLocals, Value.category]; done) | rfl
def Q_am37_1 (Z : State) (cs_ : Int32) (un_ : Value) (sn_ : Value) (ad1 : Addr) (ad2 : Addr) (h0 : Heap) (n0 : Nat) (v : Option Value) (h : Heap) (L : List Loc) : Prop := v = none ∧ Fr n0 L ∧ Keep h0 h [ad1] ∧ (Exa Z h ad1 "com/example/penelope/penelope/exception/InterceptionException") ∧ (Fld Z h ad1 "java/lang/Throwable" "cause" "Ljava/lang/Throwable;" .null) ∧ (Fld Z h ad1 "java/lang/Throwable" "detailMessage" "Ljava/lang/String;" (.ref ad2)) ∧ (Unt h ad1)
set_option maxRecDepth 65536 in
set_option maxHeartbeats 40000000 in
theorem am37_1 (l : Launch) (Z : State) (a0 : Array Value) (hw : ∀ d ∈ tables_1, d.before a0 Z = true) (ws : List Jvm.Cond) (cs_ : Int32) (un_ : Value) (sn_ : Value) (HW : Wd Z cs_ un_ sn_) (ad1 : Addr) (ad2 : Addr) (h0 : Heap) (n0 : Nat) (Ol : Old Z n0 h0) (hl : l.stackTraces = true) (HE_ad1 : Exa Z h0 ad1 "com/example/penelope/penelope/exception/InterceptionException") (HY_ad1 : Unt h0 ad1) (HF_ad1_Throwable_cause : Fld Z h0 ad1 "java/lang/Throwable" "cause" "Ljava/lang/Throwable;" .null) (HF_ad1_Throwable_stackTrace : Fld Z h0 ad1 "java/lang/Throwable" "stackTrace" "[Ljava/lang/StackTraceElement;" .null) (HF_ad1_Throwable_suppressedExceptions : Fld Z h0 ad1 "java/lang/Throwable" "suppressedExceptions" "Ljava/util/List;" .null) (HF_ad1_Throwable_detailMessage : Fld Z h0 ad1 "java/lang/Throwable" "detailMessage" "Ljava/lang/String;" .null) (HF_ad1_Throwable_backtrace : Fld Z h0 ad1 "java/lang/Throwable" "backtrace" "Ljava/lang/Object;" .null) (HF_ad1_Throwable_depth : Fld Z h0 ad1 "java/lang/Throwable" "depth" "I" (.int (0 : Int32))) (nn_ad1 : n0 ≤ ad1) :
    MetFree l y_37 (head1 (Jvm.Cond.code y_37 jdk_58_method_3_code 3 none :: ws) (rm 5 1 2752 70)) (fun a_ U_ => a_ = #[(.ref ad1), (.ref ad2), .null] ∧ Z.Warmed39 U_.vm ∧ U_.heap = h0) (fun _ _ bl_ s_ _ => s_.vm.MethodsKnown ∧ s_.vm.FramesKnown bl_) (fun _ U_ o_ V_ => ∃ v_ L_, o_ = .returned v_ ∧ Q_am37_1 Z cs_ un_ sn_ ad1 ad2 h0 n0 v_ V_.heap L_ ∧ FrameEnd U_ o_ V_ L_ (rm 5 1 2752 70).cells (rm 5 1 2752 70).slots) := by
  refine MetFree.of_bodySF (plainFor_of_name pn_9) hisR ?_
  intro p e s m args below meth c s₁ Bd hml0 hP hK
  obtain ⟨rfl, hZ, hh⟩ := hP
  have hx := Bd.exec
  have hby := Bd.bytes
  have hml : c.maxLocals = 3 := hml0
  have hown : s.vm.findClass "java/lang/RuntimeException" = some m.cls := findClass_of_methodNamed Bd.named
  have hnm := (name_of_methodNamed Bd.named Bd.method).1
  have X0 : Stand p l e (rm 5 1 2752 70) s m #[(.ref ad1), (.ref ad2), .null] below meth c s₁ [] 0 0 := Stand.of_body Bd
  have e0 : s₁.heap = h0 := by rw [← hh, Bd.state]; rfl
  obtain ⟨hTK, hBelow⟩ := hK
  have N0 := Fr.nil n0
  have kp0 := Keep.refl h0 [ad1]
  show Go p e below (Fin1 s below (Q_am37_1 Z cs_ un_ sn_ ad1 ad2 h0 n0) (rm 5 1 2752 70).cells (rm 5 1 2752 70).slots) _
  refine Go.step (fun t_ k_ => castTop (ef_am37_1 m ad1 ad2) k_) ?_
  obtain ⟨S_cs, N_cs, S_un, R_un, S_sn, R_sn⟩ := id HW
  show Go p e below _ (s₁.setTop (mkF m 0 #[.val (.ref ad1), .val (.ref ad2), .val .null] []))
  refine gs.aloadN X0.here hx (hb hby d37_0) rfl rfl ?_
  refine gs.aloadN X0.here hx (hb hby d37_1) rfl rfl ?_
  refine gs.aloadN X0.here hx (hb hby d37_2) rfl rfl ?_
  obtain ⟨_, _, ⟨T1, L1, k1, n1⟩, -, X1, ⟨Lc1, hQ1, l1, y1, z1⟩, st1⟩ := X0.specialBack hx (y := y_38) rfl hown (mvT hZ (wd hw 188 rfl)) (mvT hZ (wd hw 189 rfl)) (mvT hZ (wd hw 193 rfl)) (by decide) (backOfKL (W := 0) (am38_1 l Z a0 hw [] cs_ un_ sn_ HW (ad1) (ad2) h0 n0 Ol hl HE_ad1 HY_ad1 HF_ad1_Throwable_cause HF_ad1_Throwable_stackTrace HF_ad1_Throwable_suppressedExceptions HF_ad1_Throwable_detailMessage HF_ad1_Throwable_backtrace HF_ad1_Throwable_depth nn_ad1) hZ (wd hw 193 rfl) (wd hw 192 rfl) (by decide) (by decide) hTK hBelow) (g := (mkF m 3 #[.val (.ref ad1), .val (.ref ad2), .val .null] [.null, (.ref ad2), (.ref ad1)])) rfl (by rw [hml]; rfl) (Steps.refl _) (a := ad1) (argsL := [(.ref ad2), .null]) (rest := []) (lenOf pd_28 rfl) rfl (by show 2 * 0 + _ ≤ _; exact Nat.le_of_eq rfl) (hb hby d37_3) (fun _ _ => ⟨rfl, e0, (by decide : 0 + 1 ≤ _), (by decide : 0 + 2752 ≤ _)⟩)
  dsimp only [Pt.U, Pt.locs, Pt.cells, Pt.slots] at X1 l1 y1 z1 st1 hQ1
  subst l1 y1 z1
  obtain ⟨rfl, Nq1, K1, p1_0, p1_1, p1_2, p1_3⟩ := hQ1
  have old1 := Ol.keep K1 (allS nn_ad1 all0)
  have kp1 := kp0.trans K1 (allS (Or.inl (List.mem_of_getElem? (i := 0) rfl)) all0)
  have N1 := Fr.app N0 Nq1
  refine Go.step (fun t_ k_ => st1.trans k_) ?_
  show Go p e below _ (T1.setTop (mkF m 6 #[.val (.ref ad1), .val (.ref ad2), .val .null] []))
  refine Go.retV X1 hx Bd.returns Bd.notSynchronized (hb hby d37_6) (by exact ⟨rfl, N1, kp1, p1_0, p1_1, p1_2, p1_3⟩) (by decide) (by decide)
theorem d36_6 : decode c_36 6 = .ok (.return_, 1) := by decide +kernel
theorem pn_10 : plainName "com/example/penelope/penelope/exception/TransactionException" = true := by first | (simp [plainName, overriddenIn]; done) | decide +kernel
theorem ef_am36_1 (m : MethodId) (x0 : Addr) (x1 : Addr)  : entryFrame m #[(.ref x0), (.ref x1), .null] 3 = mkF m 0 #[.val (.ref x0), .val (.ref x1), .val .null] [] := by first | (simp [entryFrame, mkF, argsToLocals, Value.category]; done) | rfl
def Q_am36_1 (Z : State) (cs_ : Int32) (un_ : Value) (sn_ : Value) (ad1 : Addr) (ad2 : Addr) (h0 : Heap) (n0 : Nat) (v : Option Value) (h : Heap) (L : List Loc) : Prop := v = none ∧ Fr n0 L ∧ Keep h0 h [ad1] ∧ (Exa Z h ad1 "com/example/penelope/penelope/exception/InterceptionException") ∧ (Fld Z h ad1 "java/lang/Throwable" "cause" "Ljava/lang/Throwable;" .null) ∧ (Fld Z h ad1 "java/lang/Throwable" "detailMessage" "Ljava/lang/String;" (.ref ad2)) ∧ (Unt h ad1)
set_option maxRecDepth 65536 in
set_option maxHeartbeats 40000000 in
theorem am36_1 (l : Launch) (Z : State) (a0 : Array Value) (hw : ∀ d ∈ tables_1, d.before a0 Z = true) (ws : List Jvm.Cond) (cs_ : Int32) (un_ : Value) (sn_ : Value) (HW : Wd Z cs_ un_ sn_) (ad1 : Addr) (ad2 : Addr) (h0 : Heap) (n0 : Nat) (Ol : Old Z n0 h0) (hl : l.stackTraces = true) (HE_ad1 : Exa Z h0 ad1 "com/example/penelope/penelope/exception/InterceptionException") (HY_ad1 : Unt h0 ad1) (HF_ad1_Throwable_cause : Fld Z h0 ad1 "java/lang/Throwable" "cause" "Ljava/lang/Throwable;" .null) (HF_ad1_Throwable_stackTrace : Fld Z h0 ad1 "java/lang/Throwable" "stackTrace" "[Ljava/lang/StackTraceElement;" .null) (HF_ad1_Throwable_suppressedExceptions : Fld Z h0 ad1 "java/lang/Throwable" "suppressedExceptions" "Ljava/util/List;" .null) (HF_ad1_Throwable_detailMessage : Fld Z h0 ad1 "java/lang/Throwable" "detailMessage" "Ljava/lang/String;" .null) (HF_ad1_Throwable_backtrace : Fld Z h0 ad1 "java/lang/Throwable" "backtrace" "Ljava/lang/Object;" .null) (HF_ad1_Throwable_depth : Fld Z h0 ad1 "java/lang/Throwable" "depth" "I" (.int (0 : Int32))) (nn_ad1 : n0 ≤ ad1) :
    MetFree l y_36 (head1 (Jvm.Cond.code y_36 prog_10_method_1_code 3 none :: ws) (rm 6 1 2752 84)) (fun a_ U_ => a_ = #[(.ref ad1), (.ref ad2), .null] ∧ Z.Warmed39 U_.vm ∧ U_.heap = h0) (fun _ _ bl_ s_ _ => s_.vm.MethodsKnown ∧ s_.vm.FramesKnown bl_) (fun _ U_ o_ V_ => ∃ v_ L_, o_ = .returned v_ ∧ Q_am36_1 Z cs_ un_ sn_ ad1 ad2 h0 n0 v_ V_.heap L_ ∧ FrameEnd U_ o_ V_ L_ (rm 6 1 2752 84).cells (rm 6 1 2752 84).slots) := by
  refine MetFree.of_bodySF (plainFor_of_name pn_10) hisR ?_
  intro p e s m args below meth c s₁ Bd hml0 hP hK
  obtain ⟨rfl, hZ, hh⟩ := hP
  have hx := Bd.exec
  have hby := Bd.bytes
  have hml : c.maxLocals = 3 := hml0
  have hown : s.vm.findClass "com/example/penelope/penelope/exception/TransactionException" = some m.cls := findClass_of_methodNamed Bd.named
  have hnm := (name_of_methodNamed Bd.named Bd.method).1
  have X0 : Stand p l e (rm 6 1 2752 84) s m #[(.ref ad1), (.ref ad2), .null] below meth c s₁ [] 0 0 := Stand.of_body Bd
  have e0 : s₁.heap = h0 := by rw [← hh, Bd.state]; rfl
  obtain ⟨hTK, hBelow⟩ := hK
  have N0 := Fr.nil n0
  have kp0 := Keep.refl h0 [ad1]
  show Go p e below (Fin1 s below (Q_am36_1 Z cs_ un_ sn_ ad1 ad2 h0 n0) (rm 6 1 2752 84).cells (rm 6 1 2752 84).slots) _
  refine Go.step (fun t_ k_ => castTop (ef_am36_1 m ad1 ad2) k_) ?_
  obtain ⟨S_cs, N_cs, S_un, R_un, S_sn, R_sn⟩ := id HW
  show Go p e below _ (s₁.setTop (mkF m 0 #[.val (.ref ad1), .val (.ref ad2), .val .null] []))
  refine gs.aloadN X0.here hx (hb hby d36_0) rfl rfl ?_
  refine gs.aloadN X0.here hx (hb hby d36_1) rfl rfl ?_
  refine gs.aloadN X0.here hx (hb hby d36_2) rfl rfl ?_
  obtain ⟨_, _, ⟨T1, L1, k1, n1⟩, -, X1, ⟨Lc1, hQ1, l1, y1, z1⟩, st1⟩ := X0.specialBack hx (y := y_37) rfl hown (mvT hZ (wd hw 183 rfl)) (mvT hZ (wd hw 184 rfl)) (mvT hZ (wd hw 187 rfl)) (by decide) (backOfKL (W := 0) (am37_1 l Z a0 hw [] cs_ un_ sn_ HW (ad1) (ad2) h0 n0 Ol hl HE_ad1 HY_ad1 HF_ad1_Throwable_cause HF_ad1_Throwable_stackTrace HF_ad1_Throwable_suppressedExceptions HF_ad1_Throwable_detailMessage HF_ad1_Throwable_backtrace HF_ad1_Throwable_depth nn_ad1) hZ (wd hw 187 rfl) (wd hw 186 rfl) (by decide) (by decide) hTK hBelow) (g := (mkF m 3 #[.val (.ref ad1), .val (.ref ad2), .val .null] [.null, (.ref ad2), (.ref ad1)])) rfl (by rw [hml]; rfl) (Steps.refl _) (a := ad1) (argsL := [(.ref ad2), .null]) (rest := []) (lenOf pd_28 rfl) rfl (by show 2 * 0 + _ ≤ _; exact Nat.le_of_eq rfl) (hb hby d36_3) (fun _ _ => ⟨rfl, e0, (by decide : 0 + 1 ≤ _), (by decide : 0 + 2752 ≤ _)⟩)
  dsimp only [Pt.U, Pt.locs, Pt.cells, Pt.slots] at X1 l1 y1 z1 st1 hQ1
  subst l1 y1 z1
  obtain ⟨rfl, Nq1, K1, p1_0, p1_1, p1_2, p1_3⟩ := hQ1
  have old1 := Ol.keep K1 (allS nn_ad1 all0)
  have kp1 := kp0.trans K1 (allS (Or.inl (List.mem_of_getElem? (i := 0) rfl)) all0)
  have N1 := Fr.app N0 Nq1
  refine Go.step (fun t_ k_ => st1.trans k_) ?_
  show Go p e below _ (T1.setTop (mkF m 6 #[.val (.ref ad1), .val (.ref ad2), .val .null] []))
  refine Go.retV X1 hx Bd.returns Bd.notSynchronized (hb hby d36_6) (by exact ⟨rfl, N1, kp1, p1_0, p1_1, p1_2, p1_3⟩) (by decide) (by decide)
theorem d35_6 : decode c_35 6 = .ok (.return_, 1) := by decide +kernel
theorem pn_11 : plainName "com/example/penelope/penelope/exception/InterceptionException" = true := by first | (simp [plainName, overriddenIn]; done) | decide +kernel
theorem ef_am35_1 (m : MethodId) (x0 : Addr) (x1 : Addr)  : entryFrame m #[(.ref x0), (.ref x1)] 2 = mkF m 0 #[.val (.ref x0), .val (.ref x1)] [] := by first | (simp [entryFrame, mkF, argsToLocals, Value.category]; done) | rfl
def Q_am35_1 (Z : State) (cs_ : Int32) (un_ : Value) (sn_ : Value) (ad1 : Addr) (ad2 : Addr) (h0 : Heap) (n0 : Nat) (v : Option Value) (h : Heap) (L : List Loc) : Prop := v = none ∧ Fr n0 L ∧ Keep h0 h [ad1] ∧ (Exa Z h ad1 "com/example/penelope/penelope/exception/InterceptionException") ∧ (Fld Z h ad1 "java/lang/Throwable" "cause" "Ljava/lang/Throwable;" .null) ∧ (Fld Z h ad1 "java/lang/Throwable" "detailMessage" "Ljava/lang/String;" (.ref ad2)) ∧ (Unt h ad1)
set_option maxRecDepth 65536 in
set_option maxHeartbeats 40000000 in
theorem am35_1 (l : Launch) (Z : State) (a0 : Array Value) (hw : ∀ d ∈ tables_1, d.before a0 Z = true) (ws : List Jvm.Cond) (cs_ : Int32) (un_ : Value) (sn_ : Value) (HW : Wd Z cs_ un_ sn_) (ad1 : Addr) (ad2 : Addr) (h0 : Heap) (n0 : Nat) (Ol : Old Z n0 h0) (hl : l.stackTraces = true) (HE_ad1 : Exa Z h0 ad1 "com/example/penelope/penelope/exception/InterceptionException") (HY_ad1 : Unt h0 ad1) (HF_ad1_Throwable_cause : Fld Z h0 ad1 "java/lang/Throwable" "cause" "Ljava/lang/Throwable;" .null) (HF_ad1_Throwable_stackTrace : Fld Z h0 ad1 "java/lang/Throwable" "stackTrace" "[Ljava/lang/StackTraceElement;" .null) (HF_ad1_Throwable_suppressedExceptions : Fld Z h0 ad1 "java/lang/Throwable" "suppressedExceptions" "Ljava/util/List;" .null) (HF_ad1_Throwable_detailMessage : Fld Z h0 ad1 "java/lang/Throwable" "detailMessage" "Ljava/lang/String;" .null) (HF_ad1_Throwable_backtrace : Fld Z h0 ad1 "java/lang/Throwable" "backtrace" "Ljava/lang/Object;" .null) (HF_ad1_Throwable_depth : Fld Z h0 ad1 "java/lang/Throwable" "depth" "I" (.int (0 : Int32))) (nn_ad1 : n0 ≤ ad1) :
    MetFree l y_35 (head1 (Jvm.Cond.code y_35 prog_7_method_1_code 2 none :: ws) (rm 7 1 2752 98)) (fun a_ U_ => a_ = #[(.ref ad1), (.ref ad2)] ∧ Z.Warmed39 U_.vm ∧ U_.heap = h0) (fun _ _ bl_ s_ _ => s_.vm.MethodsKnown ∧ s_.vm.FramesKnown bl_) (fun _ U_ o_ V_ => ∃ v_ L_, o_ = .returned v_ ∧ Q_am35_1 Z cs_ un_ sn_ ad1 ad2 h0 n0 v_ V_.heap L_ ∧ FrameEnd U_ o_ V_ L_ (rm 7 1 2752 98).cells (rm 7 1 2752 98).slots) := by
  refine MetFree.of_bodySF (plainFor_of_name pn_11) hisR ?_
  intro p e s m args below meth c s₁ Bd hml0 hP hK
  obtain ⟨rfl, hZ, hh⟩ := hP
  have hx := Bd.exec
  have hby := Bd.bytes
  have hml : c.maxLocals = 2 := hml0
  have hown : s.vm.findClass "com/example/penelope/penelope/exception/InterceptionException" = some m.cls := findClass_of_methodNamed Bd.named
  have hnm := (name_of_methodNamed Bd.named Bd.method).1
  have X0 : Stand p l e (rm 7 1 2752 98) s m #[(.ref ad1), (.ref ad2)] below meth c s₁ [] 0 0 := Stand.of_body Bd
  have e0 : s₁.heap = h0 := by rw [← hh, Bd.state]; rfl
  obtain ⟨hTK, hBelow⟩ := hK
  have N0 := Fr.nil n0
  have kp0 := Keep.refl h0 [ad1]
  show Go p e below (Fin1 s below (Q_am35_1 Z cs_ un_ sn_ ad1 ad2 h0 n0) (rm 7 1 2752 98).cells (rm 7 1 2752 98).slots) _
  refine Go.step (fun t_ k_ => castTop (ef_am35_1 m ad1 ad2) k_) ?_
  obtain ⟨S_cs, N_cs, S_un, R_un, S_sn, R_sn⟩ := id HW
  show Go p e below _ (s₁.setTop (mkF m 0 #[.val (.ref ad1), .val (.ref ad2)] []))
  refine gs.aloadN X0.here hx (hb hby d35_0) rfl rfl ?_
  refine gs.aloadN X0.here hx (hb hby d35_1) rfl rfl ?_
  refine gs.aconstNull X0.here hx (hb hby d35_2) ?_
  obtain ⟨_, _, ⟨T1, L1, k1, n1⟩, -, X1, ⟨Lc1, hQ1, l1, y1, z1⟩, st1⟩ := X0.specialBack hx (y := y_36) rfl hown (mvT hZ (wd hw 178 rfl)) (mvT hZ (wd hw 179 rfl)) (mvT hZ (wd hw 182 rfl)) (by decide) (backOfKL (W := 0) (am36_1 l Z a0 hw [] cs_ un_ sn_ HW (ad1) (ad2) h0 n0 Ol hl HE_ad1 HY_ad1 HF_ad1_Throwable_cause HF_ad1_Throwable_stackTrace HF_ad1_Throwable_suppressedExceptions HF_ad1_Throwable_detailMessage HF_ad1_Throwable_backtrace HF_ad1_Throwable_depth nn_ad1) hZ (wd hw 182 rfl) (wd hw 181 rfl) (by decide) (by decide) hTK hBelow) (g := (mkF m 3 #[.val (.ref ad1), .val (.ref ad2)] [.null, (.ref ad2), (.ref ad1)])) rfl (by rw [hml]; rfl) (Steps.refl _) (a := ad1) (argsL := [(.ref ad2), .null]) (rest := []) (lenOf pd_28 rfl) rfl (by show 2 * 0 + _ ≤ _; exact Nat.le_of_eq rfl) (hb hby d35_3) (fun _ _ => ⟨rfl, e0, (by decide : 0 + 1 ≤ _), (by decide : 0 + 2752 ≤ _)⟩)
  dsimp only [Pt.U, Pt.locs, Pt.cells, Pt.slots] at X1 l1 y1 z1 st1 hQ1
  subst l1 y1 z1
  obtain ⟨rfl, Nq1, K1, p1_0, p1_1, p1_2, p1_3⟩ := hQ1
  have old1 := Ol.keep K1 (allS nn_ad1 all0)
  have kp1 := kp0.trans K1 (allS (Or.inl (List.mem_of_getElem? (i := 0) rfl)) all0)
  have N1 := Fr.app N0 Nq1
  refine Go.step (fun t_ k_ => st1.trans k_) ?_
  show Go p e below _ (T1.setTop (mkF m 6 #[.val (.ref ad1), .val (.ref ad2)] []))
  refine Go.retV X1 hx Bd.returns Bd.notSynchronized (hb hby d35_6) (by exact ⟨rfl, N1, kp1, p1_0, p1_1, p1_2, p1_3⟩) (by decide) (by decide)
theorem d9_30 : decode c_9 30 = .ok (.areturn, 1) := by decide +kernel
theorem pn_12 : plainName "com/example/penelope/penelope/internal/Coverage" = true := by first | (simp [plainName, overriddenIn]; done) | decide +kernel
theorem ef_am9_1 (m : MethodId) (x0 : Addr) (x1 : Addr)  : entryFrame m #[(.ref x0), (.ref x1)] 2 = mkF m 0 #[.val (.ref x0), .val (.ref x1)] [] := by first | (simp [entryFrame, mkF, argsToLocals, Value.category]; done) | rfl
def Q_am9_1 (Z : State) (cs_ : Int32) (un_ : Value) (sn_ : Value) (ad1 : Addr) (ad2 : Addr) (ad3 : Addr) (kc1 : ClassId) (iv1 : Int32) (ls1 : List Value) (ad4 : Addr) (kc3 : ClassId) (iv2 : Int32) (ls2 : List Value) (h0 : Heap) (n0 : Nat) (v : Option Value) (h : Heap) (L : List Loc) : Prop := ∃ fr1 : Addr, ∃ fr2 : Addr, ∃ fr3 : Addr, ∃ kx1 : ClassId, v = some (.ref fr1) ∧ h0.size ≤ fr1 ∧ h0.size ≤ fr2 ∧ h0.size ≤ fr3 ∧ fr1 ≠ fr2 ∧ fr1 ≠ fr3 ∧ fr2 ≠ fr3 ∧ Fr n0 L ∧ Keep h0 h [] ∧ (Exa Z h fr1 "com/example/penelope/penelope/exception/InterceptionException") ∧ (Fld Z h fr1 "java/lang/Throwable" "cause" "Ljava/lang/Throwable;" .null) ∧ (Fld Z h fr1 "java/lang/Throwable" "detailMessage" "Ljava/lang/String;" (.ref fr2)) ∧ (Unt h fr1) ∧ (Exa Z h fr2 "java/lang/String") ∧ (Fld Z h fr2 "java/lang/String" "coder" "B" (.int (0 : Int32))) ∧ (Fld Z h fr2 "java/lang/String" "value" "[B" (.ref fr3)) ∧ (((cpL (List.replicate ((((((0 : Int32) + iv1) + (21 : Int32)) + iv2) - (0 : Int32))).toNatClampNeg (.int (0 : Int32))) (cpL (cpL (cpL (List.replicate ((34 : Int32)).toNatClampNeg (.int (0 : Int32))) (cpL (List.replicate ((16 : Int32)).toNatClampNeg (.int (0 : Int32))) ls1 (0 : Int32) (0 : Int32) iv1 (.int (0 : Int32))) (0 : Int32) (0 : Int32) (16 : Int32) (.int (0 : Int32))) [(.int (32 : Int32)), (.int (99 : Int32)), (.int (97 : Int32)), (.int (110 : Int32)), (.int (110 : Int32)), (.int (111 : Int32)), (.int (116 : Int32)), (.int (32 : Int32)), (.int (116 : Int32)), (.int (97 : Int32)), (.int (107 : Int32)), (.int (101 : Int32)), (.int (32 : Int32)), (.int (101 : Int32)), (.int (102 : Int32)), (.int (102 : Int32)), (.int (101 : Int32)), (.int (99 : Int32)), (.int (116 : Int32)), (.int (58 : Int32)), (.int (32 : Int32))] (0 : Int32) ((0 : Int32) + iv1) (21 : Int32) (.int 0)) ls2 (0 : Int32) (((0 : Int32) + iv1) + (21 : Int32)) iv2 (.int (0 : Int32))) (0 : Int32) (0 : Int32) (((((0 : Int32) + iv1) + (21 : Int32)) + iv2) - (0 : Int32)) (.int (0 : Int32))) : List Value).length = ((((((0 : Int32) + iv1) + (21 : Int32)) + iv2) - (0 : Int32))).toNatClampNeg) ∧ (Arv Z h fr3 kx1 .byte (((((0 : Int32) + iv1) + (21 : Int32)) + iv2) - (0 : Int32)) (cpL (List.replicate ((((((0 : Int32) + iv1) + (21 : Int32)) + iv2) - (0 : Int32))).toNatClampNeg (.int (0 : Int32))) (cpL (cpL (cpL (List.replicate ((34 : Int32)).toNatClampNeg (.int (0 : Int32))) (cpL (List.replicate ((16 : Int32)).toNatClampNeg (.int (0 : Int32))) ls1 (0 : Int32) (0 : Int32) iv1 (.int (0 : Int32))) (0 : Int32) (0 : Int32) (16 : Int32) (.int (0 : Int32))) [(.int (32 : Int32)), (.int (99 : Int32)), (.int (97 : Int32)), (.int (110 : Int32)), (.int (110 : Int32)), (.int (111 : Int32)), (.int (116 : Int32)), (.int (32 : Int32)), (.int (116 : Int32)), (.int (97 : Int32)), (.int (107 : Int32)), (.int (101 : Int32)), (.int (32 : Int32)), (.int (101 : Int32)), (.int (102 : Int32)), (.int (102 : Int32)), (.int (101 : Int32)), (.int (99 : Int32)), (.int (116 : Int32)), (.int (58 : Int32)), (.int (32 : Int32))] (0 : Int32) ((0 : Int32) + iv1) (21 : Int32) (.int 0)) ls2 (0 : Int32) (((0 : Int32) + iv1) + (21 : Int32)) iv2 (.int (0 : Int32))) (0 : Int32) (0 : Int32) (((((0 : Int32) + iv1) + (21 : Int32)) + iv2) - (0 : Int32)) (.int (0 : Int32))) (.int (0 : Int32)))
set_option maxRecDepth 65536 in
set_option maxHeartbeats 40000000 in
theorem am9_1 (l : Launch) (Z : State) (a0 : Array Value) (hw : ∀ d ∈ tables_1, d.before a0 Z = true) (ws : List Jvm.Cond) (cs_ : Int32) (un_ : Value) (sn_ : Value) (HW : Wd Z cs_ un_ sn_) (ad1 : Addr) (ad2 : Addr) (ad3 : Addr) (kc1 : ClassId) (iv1 : Int32) (ls1 : List Value) (ad4 : Addr) (kc3 : ClassId) (iv2 : Int32) (ls2 : List Value) (h0 : Heap) (n0 : Nat) (Ol : Old Z n0 h0) (hl : l.stackTraces = true) (HF_ad1_String_value : Fld Z h0 ad1 "java/lang/String" "value" "[B" (.ref ad3)) (HV_ad3 : Arv Z h0 ad3 kc1 .byte iv1 ls1 (.int (0 : Int32))) (HE_ad1 : Exa Z h0 ad1 "java/lang/String") (HF_ad1_String_coder : Fld Z h0 ad1 "java/lang/String" "coder" "B" (.int (0 : Int32))) (HF_ad2_String_value : Fld Z h0 ad2 "java/lang/String" "value" "[B" (.ref ad4)) (HV_ad4 : Arv Z h0 ad4 kc3 .byte iv2 ls2 (.int (0 : Int32))) (HE_ad2 : Exa Z h0 ad2 "java/lang/String") (HF_ad2_String_coder : Fld Z h0 ad2 "java/lang/String" "coder" "B" (.int (0 : Int32))) (as0 : ((((((0 : Int32) + iv1) + (21 : Int32)) + iv2) - (0 : Int32))).toNatClampNeg ≤ ((25 : Int32)).toNatClampNeg) (as1 : ¬ ((((((0 : Int32) + iv1) + (21 : Int32)) + iv2) - (0 : Int32)) < (0 : Int32))) (as2 : (((((0 : Int32) + iv1) + (21 : Int32)) + iv2) - (0 : Int32)) < (34 : Int32)) (as3 : ¬ (((((0 : Int32) + iv1) + (21 : Int32)) + iv2) < (0 : Int32))) (as4 : ¬ (((((0 : Int32) + iv1) + (21 : Int32)) + iv2) = (34 : Int32))) (as5 : ((((0 : Int32) + iv1) + (21 : Int32)) - (16 : Int32)) < (18 : Int32)) (as6 : ((((0 : Int32) + iv1) + (21 : Int32))).toNatClampNeg + (iv2).toNatClampNeg ≤ ((34 : Int32)).toNatClampNeg) (as7 : ¬ ((((0 : Int32) + iv1) + (21 : Int32)) < (0 : Int32))) (as8 : (((0 : Int32) + iv1)).toNatClampNeg + ((21 : Int32)).toNatClampNeg ≤ ((34 : Int32)).toNatClampNeg) (as9 : ¬ (((0 : Int32) + iv1) < (0 : Int32))) (as10 : ((0 : Int32)).toNatClampNeg + ((((((0 : Int32) + iv1) + (21 : Int32)) + iv2) - (0 : Int32))).toNatClampNeg ≤ ((((((0 : Int32) + iv1) + (21 : Int32)) + iv2) - (0 : Int32))).toNatClampNeg) (as11 : ((0 : Int32)).toNatClampNeg + ((((((0 : Int32) + iv1) + (21 : Int32)) + iv2) - (0 : Int32))).toNatClampNeg ≤ ((34 : Int32)).toNatClampNeg) (as12 : ((0 : Int32)).toNatClampNeg + (iv1).toNatClampNeg ≤ ((16 : Int32)).toNatClampNeg) (as13 : ((0 : Int32)).toNatClampNeg + (iv1).toNatClampNeg ≤ (iv1).toNatClampNeg) (as14 : ((0 : Int32)).toNatClampNeg + (iv2).toNatClampNeg ≤ (iv2).toNatClampNeg) (as15 : ¬ ((0 : Int32) < (((((0 : Int32) + iv1) + (21 : Int32)) + iv2) - (34 : Int32)))) (as16 : (0 : Int32) < ((((0 : Int32) + iv1) + (21 : Int32)) - (16 : Int32))) (as17 : ¬ ((0 : Int32) < (((0 : Int32) + iv1) - (16 : Int32)))) (as18 : ¬ (iv1 < (0 : Int32))) (as19 : ¬ (iv2 < (0 : Int32))) :
    MetFree l y_9 (head1 (Jvm.Cond.code y_9 prog_13_method_8_code 2 (some (.object "com/example/penelope/penelope/exception/InterceptionException")) :: ws) (rm 8 9 2929 112)) (fun a_ U_ => a_ = #[(.ref ad1), (.ref ad2)] ∧ Z.Warmed39 U_.vm ∧ U_.heap = h0 ∧ CHv Z EL_ U_.vm h0) (fun _ _ bl_ s_ _ => s_.vm.MethodsKnown ∧ s_.vm.FramesKnown bl_) (fun _ U_ o_ V_ => ∃ v_ L_, o_ = .returned v_ ∧ Q_am9_1 Z cs_ un_ sn_ ad1 ad2 ad3 kc1 iv1 ls1 ad4 kc3 iv2 ls2 h0 n0 v_ V_.heap L_ ∧ ReturnedEndW U_ o_ V_ L_ (rm 8 9 2929 112).cells (rm 8 9 2929 112).slots) := by
  refine MetFree.of_bodySF (plainFor_of_name pn_12) hisR ?_
  intro p e s m args below meth c s₁ Bd hml0 hP hK
  obtain ⟨rfl, hZ, hh, Hc0⟩ := hP
  have hx := Bd.exec
  have hby := Bd.bytes
  have hml : c.maxLocals = 2 := hml0
  have hown : s.vm.findClass "com/example/penelope/penelope/internal/Coverage" = some m.cls := findClass_of_methodNamed Bd.named
  have hnm := (name_of_methodNamed Bd.named Bd.method).1
  have X0 : Stand p l e (rm 8 9 2929 112) s m #[(.ref ad1), (.ref ad2)] below meth c s₁ [] 0 0 := Stand.of_body Bd
  have e0 : s₁.heap = h0 := by rw [← hh, Bd.state]; rfl
  obtain ⟨hTK, hBelow⟩ := hK
  have N0 := Fr.nil n0
  have kp0 := Keep.refl h0 []
  show Go p e below (Fin2 s below (Q_am9_1 Z cs_ un_ sn_ ad1 ad2 ad3 kc1 iv1 ls1 ad4 kc3 iv2 ls2 h0 n0) (rm 8 9 2929 112).cells (rm 8 9 2929 112).slots) _
  have S0 : s.Since s.vm 0 := (State.WarmedH.refl s).since 0
  have hk0 : 0 ≤ h0.size := Nat.zero_le _
  refine Go.step (fun t_ k_ => castTop (ef_am9_1 m ad1 ad2) k_) ?_
  obtain ⟨S_cs, N_cs, S_un, R_un, S_sn, R_sn⟩ := id HW
  show Go p e below _ (s₁.setTop (mkF m 0 #[.val (.ref ad1), .val (.ref ad2)] []))
  obtain ⟨T1, h1, X1, e1, E1, A1, D1, Y1, st1⟩ := newO X0 hx hZ hown (wd hw 44 rfl) (wd hw 45 rfl) (wd hw 46 rfl) e0 (g := (mkF m 0 #[.val (.ref ad1), .val (.ref ad2)] [])) rfl (hb hby d9_0) (by decide) (by decide)
  obtain ⟨b1, g1⟩ : ∃ z, z = h0.size := ⟨_, rfl⟩
  rw [← g1] at A1 D1 Y1 st1
  have nn_b1 : n0 ≤ b1 := Nat.le_trans (old_z0 Ol) (Nat.le_of_eq g1.symm)
  have sz_b1 : h0.size ≤ b1 := Nat.le_trans kp0.1 (Nat.le_of_eq g1.symm)
  have old1 := Ol.ext E1
  have kp1 := kp0.ext E1
  have hk1 := Nat.le_trans hk0 E1.1
  have F1_cause : Fld Z h1 b1 "java/lang/Throwable" "cause" "Ljava/lang/Throwable;" .null := D1 (Or.inl (wd hw 202 rfl)) (ty := (.object "java/lang/Throwable")) (by decide)
  have F1_stackTrace : Fld Z h1 b1 "java/lang/Throwable" "stackTrace" "[Ljava/lang/StackTraceElement;" .null := D1 (Or.inl (wd hw 205 rfl)) (ty := (.array (.object "java/lang/StackTraceElement"))) (by decide)
  have F1_suppressedExceptions : Fld Z h1 b1 "java/lang/Throwable" "suppressedExceptions" "Ljava/util/List;" .null := D1 (Or.inl (wd hw 208 rfl)) (ty := (.object "java/util/List")) (by decide)
  have F1_detailMessage : Fld Z h1 b1 "java/lang/Throwable" "detailMessage" "Ljava/lang/String;" .null := D1 (Or.inl (wd hw 232 rfl)) (ty := (.object "java/lang/String")) (by decide)
  have F1_backtrace : Fld Z h1 b1 "java/lang/Throwable" "backtrace" "Ljava/lang/Object;" .null := D1 (Or.inl (wd hw 233 rfl)) (ty := (.object "java/lang/Object")) (by decide)
  have F1_depth : Fld Z h1 b1 "java/lang/Throwable" "depth" "I" (.int (0 : Int32)) := D1 (Or.inl (wd hw 234 rfl)) (ty := .int) (by decide)
  refine Go.fin st1 ?_
  show Go p e below _ (T1.setTop (mkF m 3 _ [(.ref b1)]))
  refine gs.dup X1.here hx (hb hby d9_3) rfl ?_
  obtain ⟨T2, h2, X2, e2, E2, A2, D2, Y2, st2⟩ := newO X1 hx hZ hown (wd hw 47 rfl) (wd hw 48 rfl) (wd hw 49 rfl) e1 (g := (mkF m 4 #[.val (.ref ad1), .val (.ref ad2)] [(.ref b1), (.ref b1)])) rfl (hb hby d9_4) (by decide) (by decide)
  obtain ⟨b2, g2⟩ : ∃ z, z = h1.size := ⟨_, rfl⟩
  rw [← g2] at A2 D2 Y2 st2
  have nn_b2 : n0 ≤ b2 := Nat.le_trans (old_z0 old1) (Nat.le_of_eq g2.symm)
  have sz_b2 : h0.size ≤ b2 := Nat.le_trans kp1.1 (Nat.le_of_eq g2.symm)
  have old2 := old1.ext E2
  have kp2 := kp1.ext E2
  have hk2 := Nat.le_trans hk1 E2.1
  have F2_value : Fld Z h2 b2 "java/lang/AbstractStringBuilder" "value" "[B" .null := D2 (Or.inl (wd hw 62 rfl)) (ty := (.array .byte)) (by decide)
  have F2_coder : Fld Z h2 b2 "java/lang/AbstractStringBuilder" "coder" "B" (.int (0 : Int32)) := D2 (Or.inl (wd hw 64 rfl)) (ty := .byte) (by decide)
  have F2_count : Fld Z h2 b2 "java/lang/AbstractStringBuilder" "count" "I" (.int (0 : Int32)) := D2 (Or.inl (wd hw 86 rfl)) (ty := .int) (by decide)
  refine Go.fin st2 ?_
  show Go p e below _ (T2.setTop (mkF m 7 _ [(.ref b2), (.ref b1), (.ref b1)]))
  refine gs.dup X2.here hx (hb hby d9_7) rfl ?_
  refine gs.init 3 X2 hx hZ hown (am10_1 l Z a0 hw [] cs_ un_ sn_ HW (b2) h2 n0 old2 A2 F2_value F2_coder F2_count nn_b2) (wd hw 52 rfl) (wd hw 49 rfl) (wd hw 50 rfl) rfl (wd hw 51 rfl) (by decide) (by decide) (by decide) (by rw [hml]; rfl) [] (lenOf pd_9 rfl) rfl (Nat.le_of_eq rfl) (hb hby d9_8) rfl e2 (by decide) (by decide) fun T3 Lc3 v3 X3 hQ3 => ?_
  obtain ⟨b3_0, kx3_0, rfl, gb_b3_0, Nq3, K3, p3_0, p3_1, p3_2, p3_3, p3_4, p3_5⟩ := hQ3
  have nn_b3_0 : n0 ≤ b3_0 := Nat.le_trans (old_z0 old2) gb_b3_0
  have sz_b3_0 : h0.size ≤ b3_0 := Nat.le_trans kp2.1 gb_b3_0
  have old3 := old2.keep K3 (allS nn_b2 all0)
  have hk3 := Nat.le_trans hk2 K3.1
  have kp3 := kp2.trans K3 (allS (Or.inr sz_b2) all0)
  have N3 := Fr.app N0 Nq3
  show Go p e below _ (T3.setTop (mkF m 11 _ [(.ref b2), (.ref b1), (.ref b1)]))
  refine gs.aloadN X3.here hx (hb hby d9_11) rfl rfl ?_
  have ne_ad1_b2 : ad1 ≠ b2 := Nat.ne_of_lt (Nat.lt_of_lt_of_le (HE_ad1.ext E1).lt (Nat.le_of_eq g2.symm))
  have f4 := (((HF_ad1_String_value.ext E1).ext E2).keep K3 (ninS ne_ad1_b2 nin0))
  have ne_ad3_b2 : ad3 ≠ b2 := Nat.ne_of_lt (Nat.lt_of_lt_of_le (HV_ad3.ext E1).lt (Nat.le_of_eq g2.symm))
  have f5 := (((HV_ad3.ext E1).ext E2).keep K3 (ninS ne_ad3_b2 nin0))
  have f6 := (((HE_ad1.ext E1).ext E2).keep K3)
  have f7 := (((HF_ad1_String_coder.ext E1).ext E2).keep K3 (ninS ne_ad1_b2 nin0))
  have ne_b2_b3_0 : b2 ≠ b3_0 := Nat.ne_of_lt (Nat.lt_of_lt_of_le A2.lt gb_b3_0)
  refine gs.virt 2 X3 hx hZ hown (am12_1 l Z a0 hw [] cs_ un_ sn_ HW (b2) (ad1) (ad3) (kc1) (iv1) (ls1) (b3_0) (kx3_0) T3.heap n0 old3 f4 f5 f6 f7 p3_0 p3_3 p3_1 p3_2 p3_4 p3_5 nn_b2 nn_b3_0 ne_b2_b3_0 as12 as13 as17 as18) (wd hw 69 rfl) (wd hw 49 rfl) (wd hw 65 rfl) (wd hw 66 rfl) (notFace_of_selects (args := #[]) (mvT hZ (wd hw 68 rfl))) (wd hw 68 rfl) (wd hw 67 rfl) (by decide) p3_0 (by decide) (by decide) (by rw [hml]; rfl) [(.ref ad1)] (lenOf pd_16 rfl) rfl (Nat.le_of_eq rfl) (hb hby d9_12) rfl rfl (by decide) (by decide) fun T8 Lc8 v8 X8 hQ8 => ?_
  obtain ⟨rfl, Nq8, K8, p8_0, p8_1, p8_2, p8_3, p8_4, p8_5⟩ := hQ8
  have old8 := old3.keep K8 (allS nn_b2 (allS nn_b3_0 all0))
  have hk8 := Nat.le_trans hk3 K8.1
  have kp8 := kp3.trans K8 (allS (Or.inr sz_b2) (allS (Or.inr sz_b3_0) all0))
  have N8 := Fr.app N3 Nq8
  show Go p e below _ (T8.setTop (mkF m 15 _ [(.ref b2), (.ref b1), (.ref b1)]))
  obtain ⟨sa9, T9, h9, k1_9, sb9, kc9, X9, e9, E9, S9, hkk9, hZ9, hown9, A9, Fc9, Fv9, V9, -, -, C9, -, ns9, st9⟩ := ldcCH (vm0 := s.vm) X8 hx hZ hown (wd hw 112 rfl) (wS_all hw) rfl S0 hk8 (hEL_ hw) (List.mem_of_getElem? (i := 0) rfl) (CHr.keep kp8 sf0 Hc0).1 (vs := [(.int (32 : Int32)), (.int (99 : Int32)), (.int (97 : Int32)), (.int (110 : Int32)), (.int (110 : Int32)), (.int (111 : Int32)), (.int (116 : Int32)), (.int (32 : Int32)), (.int (116 : Int32)), (.int (97 : Int32)), (.int (107 : Int32)), (.int (101 : Int32)), (.int (32 : Int32)), (.int (101 : Int32)), (.int (102 : Int32)), (.int (102 : Int32)), (.int (101 : Int32)), (.int (99 : Int32)), (.int (116 : Int32)), (.int (58 : Int32)), (.int (32 : Int32))]) (z := (21 : Int32)) ⟨by first | decide | simp | decide +kernel, by first | rfl | decide +kernel⟩ (by decide) (by decide) (g := (mkF m 15 #[.val (.ref ad1), .val (.ref ad2)] [(.ref b2), (.ref b1), (.ref b1)])) rfl (hb hby d9_15) (n := 84) (by decide +kernel) (by decide) (by decide) (by decide)
  have chb9 := (CHr.keep kp8 sf0 Hc0).trans C9
  have old9 := old8.ext E9
  have kp9 := kp8.ext E9
  have hk9 := Nat.le_trans hk8 E9.1
  refine Go.fin st9 ?_
  show Go p e below _ (T9.setTop (mkF m 17 _ [(.ref sa9), (.ref b2), (.ref b1), (.ref b1)]))
  have f10 := (p8_0.ext E9)
  have f11 := (p8_3.ext E9)
  have f12 := (p8_1.ext E9)
  have f13 := (p8_2.ext E9)
  have f14 := (p8_5.ext E9)
  have ne_sa9_b2 : sa9 ≠ b2 := exa_ne A9 f10 (by decide)
  have ne_sb9_b2 : sb9 ≠ b2 := Ne.symm (exa_arv_ne (wd hw 48 rfl) f10 V9)
  refine gs.virt 2 X9 hx hZ9 hown9 (am12_2 l Z a0 hw [] cs_ un_ sn_ HW (b2) (sa9) (b3_0) (((0 : Int32) + iv1)) ((cpL (List.replicate ((16 : Int32)).toNatClampNeg (.int (0 : Int32))) ls1 (0 : Int32) (0 : Int32) iv1 (.int (0 : Int32)))) (kx3_0) (sb9) (kc9) ([(.int (32 : Int32)), (.int (99 : Int32)), (.int (97 : Int32)), (.int (110 : Int32)), (.int (110 : Int32)), (.int (111 : Int32)), (.int (116 : Int32)), (.int (32 : Int32)), (.int (116 : Int32)), (.int (97 : Int32)), (.int (107 : Int32)), (.int (101 : Int32)), (.int (32 : Int32)), (.int (101 : Int32)), (.int (102 : Int32)), (.int (102 : Int32)), (.int (101 : Int32)), (.int (99 : Int32)), (.int (116 : Int32)), (.int (58 : Int32)), (.int (32 : Int32))]) h9 n0 old9 f10 f11 f12 f13 f14 A9 Fc9 Fv9 V9 nn_b2 (Ne.symm ne_sa9_b2) (Ne.symm ne_sb9_b2) as5 as16 as8 as9) (wd hw 69 rfl) (wd hw 49 rfl) (wd hw 65 rfl) (wd hw 66 rfl) (notFace_of_selects (args := #[]) (mvT hZ9 (wd hw 68 rfl))) (wd hw 68 rfl) (wd hw 67 rfl) (by decide) f10 (by decide) (by decide) (by rw [hml]; rfl) [(.ref sa9)] (lenOf pd_16 rfl) rfl (Nat.le_of_eq rfl) (hb hby d9_17) rfl e9 (by decide) (by decide) fun T15 Lc15 v15 X15 hQ15 => ?_
  obtain ⟨b15_0, kx15_0, rfl, gb_b15_0, Nq15, K15, p15_0, p15_1, p15_2, p15_3, p15_4, p15_5⟩ := hQ15
  have nn_b15_0 : n0 ≤ b15_0 := Nat.le_trans (old_z0 old9) gb_b15_0
  have sz_b15_0 : h0.size ≤ b15_0 := Nat.le_trans kp9.1 gb_b15_0
  have old15 := old9.keep K15 (allS nn_b2 all0)
  have hk15 := Nat.le_trans hkk9 K15.1
  have kp15 := kp9.trans K15 (allS (Or.inr sz_b2) all0)
  have N15 := Fr.app N8 Nq15
  show Go p e below _ (T15.setTop (mkF m 20 _ [(.ref b2), (.ref b1), (.ref b1)]))
  refine gs.aloadN X15.here hx (hb hby d9_20) rfl rfl ?_
  have ne_ad2_b2 : ad2 ≠ b2 := Nat.ne_of_lt (Nat.lt_of_lt_of_le (HE_ad2.ext E1).lt (Nat.le_of_eq g2.symm))
  have ne_ad2_b3_0 : ad2 ≠ b3_0 := Nat.ne_of_lt (Nat.lt_of_lt_of_le ((HE_ad2.ext E1).ext E2).lt gb_b3_0)
  have f16 := ((((((HF_ad2_String_value.ext E1).ext E2).keep K3 (ninS ne_ad2_b2 nin0)).keep K8 (ninS ne_ad2_b2 (ninS ne_ad2_b3_0 nin0))).ext E9).keep K15 (ninS ne_ad2_b2 nin0))
  have ne_ad4_b2 : ad4 ≠ b2 := Nat.ne_of_lt (Nat.lt_of_lt_of_le (HV_ad4.ext E1).lt (Nat.le_of_eq g2.symm))
  have ne_ad4_b3_0 : ad4 ≠ b3_0 := Nat.ne_of_lt (Nat.lt_of_lt_of_le ((HV_ad4.ext E1).ext E2).lt gb_b3_0)
  have f17 := ((((((HV_ad4.ext E1).ext E2).keep K3 (ninS ne_ad4_b2 nin0)).keep K8 (ninS ne_ad4_b2 (ninS ne_ad4_b3_0 nin0))).ext E9).keep K15 (ninS ne_ad4_b2 nin0))
  have f18 := ((((((HE_ad2.ext E1).ext E2).keep K3).keep K8).ext E9).keep K15)
  have f19 := ((((((HF_ad2_String_coder.ext E1).ext E2).keep K3 (ninS ne_ad2_b2 nin0)).keep K8 (ninS ne_ad2_b2 (ninS ne_ad2_b3_0 nin0))).ext E9).keep K15 (ninS ne_ad2_b2 nin0))
  have ne_b2_b15_0 : b2 ≠ b15_0 := Nat.ne_of_lt (Nat.lt_of_lt_of_le f10.lt gb_b15_0)
  refine gs.virt 2 X15 hx hZ9 hown9 (am12_3 l Z a0 hw [] cs_ un_ sn_ HW (b2) (ad2) (ad4) (kc3) (iv2) (ls2) (b15_0) ((((0 : Int32) + iv1) + (21 : Int32))) ((cpL (cpL (List.replicate ((34 : Int32)).toNatClampNeg (.int (0 : Int32))) (cpL (List.replicate ((16 : Int32)).toNatClampNeg (.int (0 : Int32))) ls1 (0 : Int32) (0 : Int32) iv1 (.int (0 : Int32))) (0 : Int32) (0 : Int32) (16 : Int32) (.int (0 : Int32))) [(.int (32 : Int32)), (.int (99 : Int32)), (.int (97 : Int32)), (.int (110 : Int32)), (.int (110 : Int32)), (.int (111 : Int32)), (.int (116 : Int32)), (.int (32 : Int32)), (.int (116 : Int32)), (.int (97 : Int32)), (.int (107 : Int32)), (.int (101 : Int32)), (.int (32 : Int32)), (.int (101 : Int32)), (.int (102 : Int32)), (.int (102 : Int32)), (.int (101 : Int32)), (.int (99 : Int32)), (.int (116 : Int32)), (.int (58 : Int32)), (.int (32 : Int32))] (0 : Int32) ((0 : Int32) + iv1) (21 : Int32) (.int 0))) (kx15_0) T15.heap n0 old15 f16 f17 f18 f19 p15_0 p15_3 p15_1 p15_2 p15_4 p15_5 nn_b2 nn_b15_0 ne_b2_b15_0 as14 as15 as6 as19 as7) (wd hw 69 rfl) (wd hw 49 rfl) (wd hw 65 rfl) (wd hw 66 rfl) (notFace_of_selects (args := #[]) (mvT hZ9 (wd hw 68 rfl))) (wd hw 68 rfl) (wd hw 67 rfl) (by decide) p15_0 (by decide) (by decide) (by rw [hml]; rfl) [(.ref ad2)] (lenOf pd_16 rfl) rfl (Nat.le_of_eq rfl) (hb hby d9_21) rfl rfl (by decide) (by decide) fun T20 Lc20 v20 X20 hQ20 => ?_
  obtain ⟨rfl, Nq20, K20, p20_0, p20_1, p20_2, p20_3, p20_4, p20_5⟩ := hQ20
  have old20 := old15.keep K20 (allS nn_b2 (allS nn_b15_0 all0))
  have hk20 := Nat.le_trans hk15 K20.1
  have kp20 := kp15.trans K20 (allS (Or.inr sz_b2) (allS (Or.inr sz_b15_0) all0))
  have N20 := Fr.app N15 Nq20
  show Go p e below _ (T20.setTop (mkF m 24 _ [(.ref b2), (.ref b1), (.ref b1)]))
  refine gs.virt 2 X20 hx hZ9 hown9 (am25_1 l Z a0 hw [] cs_ un_ sn_ HW (b2) (b15_0) (((((0 : Int32) + iv1) + (21 : Int32)) + iv2)) ((cpL (cpL (cpL (List.replicate ((34 : Int32)).toNatClampNeg (.int (0 : Int32))) (cpL (List.replicate ((16 : Int32)).toNatClampNeg (.int (0 : Int32))) ls1 (0 : Int32) (0 : Int32) iv1 (.int (0 : Int32))) (0 : Int32) (0 : Int32) (16 : Int32) (.int (0 : Int32))) [(.int (32 : Int32)), (.int (99 : Int32)), (.int (97 : Int32)), (.int (110 : Int32)), (.int (110 : Int32)), (.int (111 : Int32)), (.int (116 : Int32)), (.int (32 : Int32)), (.int (116 : Int32)), (.int (97 : Int32)), (.int (107 : Int32)), (.int (101 : Int32)), (.int (32 : Int32)), (.int (101 : Int32)), (.int (102 : Int32)), (.int (102 : Int32)), (.int (101 : Int32)), (.int (99 : Int32)), (.int (116 : Int32)), (.int (58 : Int32)), (.int (32 : Int32))] (0 : Int32) ((0 : Int32) + iv1) (21 : Int32) (.int 0)) ls2 (0 : Int32) (((0 : Int32) + iv1) + (21 : Int32)) iv2 (.int (0 : Int32)))) (kx15_0) T20.heap n0 old20 p20_0 p20_3 p20_1 p20_2 p20_5 as11 as10 as0 as1 as2 as3 as4) (wd hw 140 rfl) (wd hw 49 rfl) (wd hw 136 rfl) (wd hw 137 rfl) (notFace_of_selects (args := #[]) (mvT hZ9 (wd hw 139 rfl))) (wd hw 139 rfl) (wd hw 138 rfl) (by decide) p20_0 (by decide) (by decide) (by rw [hml]; rfl) [] (lenOf pd_27 rfl) rfl (Nat.le_of_eq rfl) (hb hby d9_24) rfl rfl (by decide) (by decide) fun T21 Lc21 v21 X21 hQ21 => ?_
  obtain ⟨b21_0, b21_1, kx21_0, rfl, gb_b21_0, gb_b21_1, ne_b21_0_b21_1, Nq21, K21, p21_0, p21_1, p21_2, p21_3, p21_4⟩ := hQ21
  have nn_b21_0 : n0 ≤ b21_0 := Nat.le_trans (old_z0 old20) gb_b21_0
  have sz_b21_0 : h0.size ≤ b21_0 := Nat.le_trans kp20.1 gb_b21_0
  have nn_b21_1 : n0 ≤ b21_1 := Nat.le_trans (old_z0 old20) gb_b21_1
  have sz_b21_1 : h0.size ≤ b21_1 := Nat.le_trans kp20.1 gb_b21_1
  have old21 := old20.keep K21 all0
  have hk21 := Nat.le_trans hk20 K21.1
  have kp21 := kp20.trans K21 all0
  have N21 := Fr.app N20 Nq21
  show Go p e below _ (T21.setTop (mkF m 27 _ [(.ref b21_0), (.ref b1), (.ref b1)]))
  have f22 := (((((((A1.ext E2).keep K3).keep K8).ext E9).keep K15).keep K20).keep K21)
  have ne_b1_b2 : b1 ≠ b2 := Nat.ne_of_lt (Nat.lt_of_lt_of_le A1.lt (Nat.le_of_eq g2.symm))
  have ne_b1_b3_0 : b1 ≠ b3_0 := Nat.ne_of_lt (Nat.lt_of_lt_of_le (A1.ext E2).lt gb_b3_0)
  have ne_b1_b15_0 : b1 ≠ b15_0 := Nat.ne_of_lt (Nat.lt_of_lt_of_le ((((A1.ext E2).keep K3).keep K8).ext E9).lt gb_b15_0)
  have f23 := (Unt.keep K21 nin0 (Unt.keep K20 (ninS ne_b1_b2 (ninS ne_b1_b15_0 nin0)) (Unt.keep K15 (ninS ne_b1_b2 nin0) (Unt.ext E9 (Unt.keep K8 (ninS ne_b1_b2 (ninS ne_b1_b3_0 nin0)) (Unt.keep K3 (ninS ne_b1_b2 nin0) (Unt.ext E2 Y1)))))))
  have f24 := (((((((F1_cause.ext E2).keep K3 (ninS ne_b1_b2 nin0)).keep K8 (ninS ne_b1_b2 (ninS ne_b1_b3_0 nin0))).ext E9).keep K15 (ninS ne_b1_b2 nin0)).keep K20 (ninS ne_b1_b2 (ninS ne_b1_b15_0 nin0))).keep K21 nin0)
  have f25 := (((((((F1_stackTrace.ext E2).keep K3 (ninS ne_b1_b2 nin0)).keep K8 (ninS ne_b1_b2 (ninS ne_b1_b3_0 nin0))).ext E9).keep K15 (ninS ne_b1_b2 nin0)).keep K20 (ninS ne_b1_b2 (ninS ne_b1_b15_0 nin0))).keep K21 nin0)
  have f26 := (((((((F1_suppressedExceptions.ext E2).keep K3 (ninS ne_b1_b2 nin0)).keep K8 (ninS ne_b1_b2 (ninS ne_b1_b3_0 nin0))).ext E9).keep K15 (ninS ne_b1_b2 nin0)).keep K20 (ninS ne_b1_b2 (ninS ne_b1_b15_0 nin0))).keep K21 nin0)
  have f27 := (((((((F1_detailMessage.ext E2).keep K3 (ninS ne_b1_b2 nin0)).keep K8 (ninS ne_b1_b2 (ninS ne_b1_b3_0 nin0))).ext E9).keep K15 (ninS ne_b1_b2 nin0)).keep K20 (ninS ne_b1_b2 (ninS ne_b1_b15_0 nin0))).keep K21 nin0)
  have f28 := (((((((F1_backtrace.ext E2).keep K3 (ninS ne_b1_b2 nin0)).keep K8 (ninS ne_b1_b2 (ninS ne_b1_b3_0 nin0))).ext E9).keep K15 (ninS ne_b1_b2 nin0)).keep K20 (ninS ne_b1_b2 (ninS ne_b1_b15_0 nin0))).keep K21 nin0)
  have f29 := (((((((F1_depth.ext E2).keep K3 (ninS ne_b1_b2 nin0)).keep K8 (ninS ne_b1_b2 (ninS ne_b1_b3_0 nin0))).ext E9).keep K15 (ninS ne_b1_b2 nin0)).keep K20 (ninS ne_b1_b2 (ninS ne_b1_b15_0 nin0))).keep K21 nin0)
  obtain ⟨_, _, ⟨T30, L30, k30, n30⟩, -, X30, ⟨Lc30, hQ30, l30, y30, z30⟩, st30⟩ := X21.specialBack hx (y := y_35) rfl hown9 (mvT hZ9 (wd hw 175 rfl)) (mvT hZ9 (wd hw 176 rfl)) (mvT hZ9 (wd hw 177 rfl)) (by decide) (backOfKL (W := 1) (am35_1 l Z a0 hw [] cs_ un_ sn_ HW (b1) (b21_0) T21.heap n0 old21 hl f22 f23 f24 f25 f26 f27 f28 f29 nn_b1) hZ9 (wd hw 177 rfl) (wd hw 46 rfl) (by decide) (by decide) (hTK.alikeC S9.1.alike) (hBelow.alikeC S9.1.alike)) (g := (mkF m 27 #[.val (.ref ad1), .val (.ref ad2)] [(.ref b21_0), (.ref b1), (.ref b1)])) rfl (by rw [hml]; rfl) (Steps.refl _) (a := b1) (argsL := [(.ref b21_0)]) (rest := [(.ref b1)]) (lenOf pd_12 rfl) rfl (by show 2 * 0 + _ ≤ _; exact Nat.le_of_eq rfl) (hb hby d9_27) (fun _ _ => ⟨rfl, rfl, (by decide : 8 + 1 ≤ _), (by decide : 177 + 2752 ≤ _)⟩)
  dsimp only [Pt.U, Pt.locs, Pt.cells, Pt.slots] at X30 l30 y30 z30 st30 hQ30
  subst l30 y30 z30
  obtain ⟨rfl, Nq30, K30, p30_0, p30_1, p30_2, p30_3⟩ := hQ30
  have old30 := old21.keep K30 (allS nn_b1 all0)
  have hk30 := Nat.le_trans hk21 K30.1
  have kp30 := kp21.trans K30 (allS (Or.inr sz_b1) all0)
  have N30 := Fr.app N21 Nq30
  refine Go.step (fun t_ k_ => st30.trans k_) ?_
  show Go p e below _ (T30.setTop (mkF m 30 #[.val (.ref ad1), .val (.ref ad2)] [(.ref b1)]))
  have ne_b1_b21_0 : b1 ≠ b21_0 := Nat.ne_of_lt (Nat.lt_of_lt_of_le ((((((A1.ext E2).keep K3).keep K8).ext E9).keep K15).keep K20).lt gb_b21_0)
  have ne_b1_b21_1 : b1 ≠ b21_1 := Nat.ne_of_lt (Nat.lt_of_lt_of_le ((((((A1.ext E2).keep K3).keep K8).ext E9).keep K15).keep K20).lt gb_b21_1)
  have f31 := (p21_0.keep K30)
  have f32 := (p21_1.keep K30 (ninS (Ne.symm ne_b1_b21_0) nin0))
  have f33 := (p21_2.keep K30 (ninS (Ne.symm ne_b1_b21_0) nin0))
  have f34 := p21_3
  have f35 := (p21_4.keep K30 (ninS (Ne.symm ne_b1_b21_1) nin0))
  refine GoW.retR X30 S9 (by exact hk30) hx Bd.returns rfl rfl Bd.notSynchronized (hb hby d9_30) (by exact ⟨b1, b21_0, b21_1, kx21_0, rfl, sz_b1, sz_b21_0, sz_b21_1, ne_b1_b21_0, ne_b1_b21_1, ne_b21_0_b21_1, N30, kp30, p30_0, p30_1, p30_2, p30_3, f31, f32, f33, f34, f35⟩) (by decide) (by decide)
theorem or1 (ka : Int32) (kb : Int32) (hb_ka : 0 ≤ ka.toInt ∧ ka.toInt < 3) (hb_kb : 0 ≤ kb.toInt ∧ kb.toInt < 3) : ((((((0 : Int32) + ka) + (21 : Int32)) + kb) - (0 : Int32))).toNatClampNeg ≤ ((25 : Int32)).toNatClampNeg := by
  rcases cs3 hb_ka with rfl | rfl | rfl <;> rcases cs3 hb_kb with rfl | rfl | rfl <;> decide
theorem or2 (ka : Int32) (kb : Int32) (hb_ka : 0 ≤ ka.toInt ∧ ka.toInt < 3) (hb_kb : 0 ≤ kb.toInt ∧ kb.toInt < 3) : ¬ ((((((0 : Int32) + ka) + (21 : Int32)) + kb) - (0 : Int32)) < (0 : Int32)) := by
  rcases cs3 hb_ka with rfl | rfl | rfl <;> rcases cs3 hb_kb with rfl | rfl | rfl <;> decide
theorem or3 (ka : Int32) (kb : Int32) (hb_ka : 0 ≤ ka.toInt ∧ ka.toInt < 3) (hb_kb : 0 ≤ kb.toInt ∧ kb.toInt < 3) : (((((0 : Int32) + ka) + (21 : Int32)) + kb) - (0 : Int32)) < (34 : Int32) := by
  rcases cs3 hb_ka with rfl | rfl | rfl <;> rcases cs3 hb_kb with rfl | rfl | rfl <;> decide
theorem or4 (ka : Int32) (kb : Int32) (hb_ka : 0 ≤ ka.toInt ∧ ka.toInt < 3) (hb_kb : 0 ≤ kb.toInt ∧ kb.toInt < 3) : ¬ (((((0 : Int32) + ka) + (21 : Int32)) + kb) < (0 : Int32)) := by
  rcases cs3 hb_ka with rfl | rfl | rfl <;> rcases cs3 hb_kb with rfl | rfl | rfl <;> decide
theorem or5 (ka : Int32) (kb : Int32) (hb_ka : 0 ≤ ka.toInt ∧ ka.toInt < 3) (hb_kb : 0 ≤ kb.toInt ∧ kb.toInt < 3) : ¬ (((((0 : Int32) + ka) + (21 : Int32)) + kb) = (34 : Int32)) := by
  rcases cs3 hb_ka with rfl | rfl | rfl <;> rcases cs3 hb_kb with rfl | rfl | rfl <;> decide
theorem or6 (ka : Int32) (kb : Int32) (hb_ka : 0 ≤ ka.toInt ∧ ka.toInt < 3) (hb_kb : 0 ≤ kb.toInt ∧ kb.toInt < 3) : ((((0 : Int32) + ka) + (21 : Int32)) - (16 : Int32)) < (18 : Int32) := by
  rcases cs3 hb_ka with rfl | rfl | rfl <;> rcases cs3 hb_kb with rfl | rfl | rfl <;> decide
theorem or7 (ka : Int32) (kb : Int32) (hb_ka : 0 ≤ ka.toInt ∧ ka.toInt < 3) (hb_kb : 0 ≤ kb.toInt ∧ kb.toInt < 3) : ((((0 : Int32) + ka) + (21 : Int32))).toNatClampNeg + (kb).toNatClampNeg ≤ ((34 : Int32)).toNatClampNeg := by
  rcases cs3 hb_ka with rfl | rfl | rfl <;> rcases cs3 hb_kb with rfl | rfl | rfl <;> decide
theorem or8 (ka : Int32) (kb : Int32) (hb_ka : 0 ≤ ka.toInt ∧ ka.toInt < 3) (hb_kb : 0 ≤ kb.toInt ∧ kb.toInt < 3) : ¬ ((((0 : Int32) + ka) + (21 : Int32)) < (0 : Int32)) := by
  rcases cs3 hb_ka with rfl | rfl | rfl <;> rcases cs3 hb_kb with rfl | rfl | rfl <;> decide
theorem or9 (ka : Int32) (kb : Int32) (hb_ka : 0 ≤ ka.toInt ∧ ka.toInt < 3) (hb_kb : 0 ≤ kb.toInt ∧ kb.toInt < 3) : (((0 : Int32) + ka)).toNatClampNeg + ((21 : Int32)).toNatClampNeg ≤ ((34 : Int32)).toNatClampNeg := by
  rcases cs3 hb_ka with rfl | rfl | rfl <;> rcases cs3 hb_kb with rfl | rfl | rfl <;> decide
theorem or10 (ka : Int32) (kb : Int32) (hb_ka : 0 ≤ ka.toInt ∧ ka.toInt < 3) (hb_kb : 0 ≤ kb.toInt ∧ kb.toInt < 3) : ¬ (((0 : Int32) + ka) < (0 : Int32)) := by
  rcases cs3 hb_ka with rfl | rfl | rfl <;> rcases cs3 hb_kb with rfl | rfl | rfl <;> decide
theorem or11 (ka : Int32) (kb : Int32) (hb_ka : 0 ≤ ka.toInt ∧ ka.toInt < 3) (hb_kb : 0 ≤ kb.toInt ∧ kb.toInt < 3) : ((0 : Int32)).toNatClampNeg + ((((((0 : Int32) + ka) + (21 : Int32)) + kb) - (0 : Int32))).toNatClampNeg ≤ ((((((0 : Int32) + ka) + (21 : Int32)) + kb) - (0 : Int32))).toNatClampNeg := by
  rcases cs3 hb_ka with rfl | rfl | rfl <;> rcases cs3 hb_kb with rfl | rfl | rfl <;> decide
theorem or12 (ka : Int32) (kb : Int32) (hb_ka : 0 ≤ ka.toInt ∧ ka.toInt < 3) (hb_kb : 0 ≤ kb.toInt ∧ kb.toInt < 3) : ((0 : Int32)).toNatClampNeg + ((((((0 : Int32) + ka) + (21 : Int32)) + kb) - (0 : Int32))).toNatClampNeg ≤ ((34 : Int32)).toNatClampNeg := by
  rcases cs3 hb_ka with rfl | rfl | rfl <;> rcases cs3 hb_kb with rfl | rfl | rfl <;> decide
theorem or13 (ka : Int32) (kb : Int32) (hb_ka : 0 ≤ ka.toInt ∧ ka.toInt < 3) (hb_kb : 0 ≤ kb.toInt ∧ kb.toInt < 3) : ((0 : Int32)).toNatClampNeg + (ka).toNatClampNeg ≤ ((16 : Int32)).toNatClampNeg := by
  rcases cs3 hb_ka with rfl | rfl | rfl <;> rcases cs3 hb_kb with rfl | rfl | rfl <;> decide
theorem or14 (ka : Int32) (kb : Int32) (hb_ka : 0 ≤ ka.toInt ∧ ka.toInt < 3) (hb_kb : 0 ≤ kb.toInt ∧ kb.toInt < 3) : ((0 : Int32)).toNatClampNeg + (ka).toNatClampNeg ≤ (ka).toNatClampNeg := by
  rcases cs3 hb_ka with rfl | rfl | rfl <;> rcases cs3 hb_kb with rfl | rfl | rfl <;> decide
theorem or15 (ka : Int32) (kb : Int32) (hb_ka : 0 ≤ ka.toInt ∧ ka.toInt < 3) (hb_kb : 0 ≤ kb.toInt ∧ kb.toInt < 3) : ((0 : Int32)).toNatClampNeg + (kb).toNatClampNeg ≤ (kb).toNatClampNeg := by
  rcases cs3 hb_ka with rfl | rfl | rfl <;> rcases cs3 hb_kb with rfl | rfl | rfl <;> decide
theorem or16 (ka : Int32) (kb : Int32) (hb_ka : 0 ≤ ka.toInt ∧ ka.toInt < 3) (hb_kb : 0 ≤ kb.toInt ∧ kb.toInt < 3) : ¬ ((0 : Int32) < (((((0 : Int32) + ka) + (21 : Int32)) + kb) - (34 : Int32))) := by
  rcases cs3 hb_ka with rfl | rfl | rfl <;> rcases cs3 hb_kb with rfl | rfl | rfl <;> decide
theorem or17 (ka : Int32) (kb : Int32) (hb_ka : 0 ≤ ka.toInt ∧ ka.toInt < 3) (hb_kb : 0 ≤ kb.toInt ∧ kb.toInt < 3) : (0 : Int32) < ((((0 : Int32) + ka) + (21 : Int32)) - (16 : Int32)) := by
  rcases cs3 hb_ka with rfl | rfl | rfl <;> rcases cs3 hb_kb with rfl | rfl | rfl <;> decide
theorem or18 (ka : Int32) (kb : Int32) (hb_ka : 0 ≤ ka.toInt ∧ ka.toInt < 3) (hb_kb : 0 ≤ kb.toInt ∧ kb.toInt < 3) : ¬ ((0 : Int32) < (((0 : Int32) + ka) - (16 : Int32))) := by
  rcases cs3 hb_ka with rfl | rfl | rfl <;> rcases cs3 hb_kb with rfl | rfl | rfl <;> decide
theorem or19 (ka : Int32) (kb : Int32) (hb_ka : 0 ≤ ka.toInt ∧ ka.toInt < 3) (hb_kb : 0 ≤ kb.toInt ∧ kb.toInt < 3) : ¬ (ka < (0 : Int32)) := by
  rcases cs3 hb_ka with rfl | rfl | rfl <;> rcases cs3 hb_kb with rfl | rfl | rfl <;> decide
theorem or20 (ka : Int32) (kb : Int32) (hb_ka : 0 ≤ ka.toInt ∧ ka.toInt < 3) (hb_kb : 0 ≤ kb.toInt ∧ kb.toInt < 3) : ¬ (kb < (0 : Int32)) := by
  rcases cs3 hb_ka with rfl | rfl | rfl <;> rcases cs3 hb_kb with rfl | rfl | rfl <;> decide
theorem pd_29 : parseMethodDescriptor "(Ljava/lang/String;Ljava/lang/String;)Lcom/example/penelope/penelope/exception/InterceptionException;" = some ⟨[(.object "java/lang/String"), (.object "java/lang/String")], some (.object "com/example/penelope/penelope/exception/InterceptionException")⟩ := by decide +kernel
theorem d42_0 : decode c_42 0 = .ok (.aload_n 0, 1) := by decide +kernel
theorem d42_1 : decode c_42 1 = .ok (.getfield 31, 3) := by decide +kernel
theorem d42_4 : decode c_42 4 = .ok (.areturn, 1) := by decide +kernel
theorem ef_am42_1 (m : MethodId) (x0 : Addr)  : entryFrame m #[(.ref x0)] 1 = mkF m 0 #[.val (.ref x0)] [] := by first | (simp [entryFrame, mkF, argsToLocals, Value.category]; done) | rfl
def Q_am42_1 (Z : State) (cs_ : Int32) (un_ : Value) (sn_ : Value) (ad1 : Addr) (ad2 : Addr) (h0 : Heap) (n0 : Nat) (v : Option Value) (h : Heap) (L : List Loc) : Prop := v = some (.ref ad2) ∧ Fr n0 L ∧ h = h0
set_option maxRecDepth 65536 in
set_option maxHeartbeats 40000000 in
theorem am42_1 (l : Launch) (Z : State) (a0 : Array Value) (hw : ∀ d ∈ tables_1, d.before a0 Z = true) (ws : List Jvm.Cond) (cs_ : Int32) (un_ : Value) (sn_ : Value) (HW : Wd Z cs_ un_ sn_) (ad1 : Addr) (ad2 : Addr) (h0 : Heap) (n0 : Nat) (Ol : Old Z n0 h0) (HF_ad1_Throwable_detailMessage : Fld Z h0 ad1 "java/lang/Throwable" "detailMessage" "Ljava/lang/String;" (.ref ad2)) :
    MetFree l y_42 (head1 (Jvm.Cond.code y_42 jdk_78_method_6_code 1 (some (.object "java/lang/String")) :: ws) (rm 0 0 0 0)) (fun a_ U_ => a_ = #[(.ref ad1)] ∧ Z.Warmed39 U_.vm ∧ U_.heap = h0) (fun _ _ _ _ _ => True) (fun _ U_ o_ V_ => ∃ v_ L_, o_ = .returned v_ ∧ Q_am42_1 Z cs_ un_ sn_ ad1 ad2 h0 n0 v_ V_.heap L_ ∧ FrameEnd U_ o_ V_ L_ (rm 0 0 0 0).cells (rm 0 0 0 0).slots) := by
  refine MetFree.of_bodySF (plainFor_of_name pn_7) hisR ?_
  intro p e s m args below meth c s₁ Bd hml0 hP hK
  obtain ⟨rfl, hZ, hh⟩ := hP
  have hx := Bd.exec
  have hby := Bd.bytes
  have hml : c.maxLocals = 1 := hml0
  have hown : s.vm.findClass "java/lang/Throwable" = some m.cls := findClass_of_methodNamed Bd.named
  have hnm := (name_of_methodNamed Bd.named Bd.method).1
  have X0 : Stand p l e (rm 0 0 0 0) s m #[(.ref ad1)] below meth c s₁ [] 0 0 := Stand.of_body Bd
  have e0 : s₁.heap = h0 := by rw [← hh, Bd.state]; rfl
  have N0 := Fr.nil n0
  have kp0 := Keep.refl h0 []
  show Go p e below (Fin1 s below (Q_am42_1 Z cs_ un_ sn_ ad1 ad2 h0 n0) (rm 0 0 0 0).cells (rm 0 0 0 0).slots) _
  refine Go.step (fun t_ k_ => castTop (ef_am42_1 m ad1) k_) ?_
  obtain ⟨S_cs, N_cs, S_un, R_un, S_sn, R_sn⟩ := id HW
  show Go p e below _ (s₁.setTop (mkF m 0 #[.val (.ref ad1)] []))
  refine gs.aloadN X0.here hx (hb hby d42_0) rfl rfl ?_
  refine gs.getF X0 hx hZ hown (wd hw 236 rfl) Via.refl e0 HF_ad1_Throwable_detailMessage (hb hby d42_1) fun T1 X1 e1 => ?_
  refine Go.retR X1 hx Bd.returns rfl rfl Bd.notSynchronized (hb hby d42_4) (by rw [e1]; exact ⟨rfl, N0, rfl⟩) (by decide) (by decide)
set_option maxRecDepth 65536 in
theorem cod_a (ka ca cb kb cc cd : Int32) (hb_ka : 0 ≤ ka.toInt ∧ ka.toInt < 3) (hb_kb : 0 ≤ kb.toInt ∧ kb.toInt < 3) (h1 : CH8 ca) (h2 : CH8 cb) (h3 : CH8 cc) (h4 : CH8 cd) : StrChars.Road.CodA (csAll ka ca cb kb cc cd) 0 (((((0 : Int32) + ka) + (21 : Int32)) + kb) - (0 : Int32)) (cpL (List.replicate ((((((0 : Int32) + ka) + (21 : Int32)) + kb) - (0 : Int32))).toNatClampNeg (.int (0 : Int32))) (cpL (cpL (cpL (List.replicate ((34 : Int32)).toNatClampNeg (.int (0 : Int32))) (cpL (List.replicate ((16 : Int32)).toNatClampNeg (.int (0 : Int32))) (((pk ka ca cb).map StrChars.lo8).map Value.int) (0 : Int32) (0 : Int32) ka (.int (0 : Int32))) (0 : Int32) (0 : Int32) (16 : Int32) (.int (0 : Int32))) [(.int (32 : Int32)), (.int (99 : Int32)), (.int (97 : Int32)), (.int (110 : Int32)), (.int (110 : Int32)), (.int (111 : Int32)), (.int (116 : Int32)), (.int (32 : Int32)), (.int (116 : Int32)), (.int (97 : Int32)), (.int (107 : Int32)), (.int (101 : Int32)), (.int (32 : Int32)), (.int (101 : Int32)), (.int (102 : Int32)), (.int (102 : Int32)), (.int (101 : Int32)), (.int (99 : Int32)), (.int (116 : Int32)), (.int (58 : Int32)), (.int (32 : Int32))] (0 : Int32) ((0 : Int32) + ka) (21 : Int32) (.int 0)) (((pk kb cc cd).map StrChars.lo8).map Value.int) (0 : Int32) (((0 : Int32) + ka) + (21 : Int32)) kb (.int (0 : Int32))) (0 : Int32) (0 : Int32) (((((0 : Int32) + ka) + (21 : Int32)) + kb) - (0 : Int32)) (.int (0 : Int32))) := by
  refine Or.inl ⟨rfl, ?_, ?_, fun c hc => (cs_all h1 h2 h3 h4 c hc).2⟩
  · show _ = Int32.ofNat (pk ka ca cb ++ msgC ++ pk kb cc cd).length
    rw [List.length_append, List.length_append, pk_len _ _ hb_ka, pk_len _ _ hb_kb]
    rcases cs3 hb_ka with rfl | rfl | rfl <;> rcases cs3 hb_kb with rfl | rfl | rfl <;> decide
  · rcases cs3 hb_ka with rfl | rfl | rfl <;> rcases cs3 hb_kb with rfl | rfl | rfl <;> simp only [csAll, pk0, pk1, pk2] <;> rfl
set_option maxRecDepth 65536 in
theorem cod_b (ka ca cb kb cc cd : Int32) (hb_ka : 0 ≤ ka.toInt ∧ ka.toInt < 3) (hb_kb : 0 ≤ kb.toInt ∧ kb.toInt < 3) (h1 : CH8 ca) (h2 : CH8 cb) (h3 : CH8 cc) (h4 : CH8 cd) : StrChars.Road.CodA (csAll ka ca cb kb cc cd) 0 ((21 : Int32) + (ka + kb)) (((csAll ka ca cb kb cc cd).map StrChars.lo8).map Value.int) := by
  refine Or.inl ⟨rfl, ?_, ?_, fun c hc => (cs_all h1 h2 h3 h4 c hc).2⟩
  · show _ = Int32.ofNat (pk ka ca cb ++ msgC ++ pk kb cc cd).length
    rw [List.length_append, List.length_append, pk_len _ _ hb_ka, pk_len _ _ hb_kb]
    rcases cs3 hb_ka with rfl | rfl | rfl <;> rcases cs3 hb_kb with rfl | rfl | rfl <;> decide
  · rcases cs3 hb_ka with rfl | rfl | rfl <;> rcases cs3 hb_kb with rfl | rfl | rfl <;> simp only [csAll, pk0, pk1, pk2] <;> rfl
theorem pd_30 : parseMethodDescriptor "(Ljava/lang/Object;)Z" = some ⟨[(.object "java/lang/Object")], some .boolean⟩ := by decide +kernel
theorem pd_31 : parseMethodDescriptor "()Ljava/lang/Throwable;" = some ⟨[], some (.object "java/lang/Throwable")⟩ := by decide +kernel
theorem ef_rm0 (m : MethodId) (x0 : Int32) (x1 : Int32)  : entryFrame m #[(.int x0), (.int x1)] maxLocals = mkF m 0 #[.val (.int x0), .val (.int x1), .unset, .unset, .unset, .unset, .unset, .unset, .unset, .unset, .unset, .unset, .unset] [] := by first | (simp [entryFrame, mkF, argsToLocals, Value.category, maxLocals]; done) | rfl
def Q_rm0 (Z : State) (cs_ : Int32) (un_ : Value) (sn_ : Value) (p1 p2 : Int32) (h0 : Heap) (n0 : Nat) (v : Option Value) (h : Heap) (L : List Loc) : Prop := v = some (.int 1) ∧ Fr n0 L
set_option maxRecDepth 65536 in
set_option maxHeartbeats 40000000 in
theorem rm0 (l : Launch) (Z : State) (a0 : Array Value) (hw : ∀ d ∈ tables_1, d.before a0 Z = true) (ws : List Jvm.Cond) (cs_ : Int32) (un_ : Value) (sn_ : Value) (HW : Wd Z cs_ un_ sn_) (p1 p2 : Int32) (h0 : Heap) (n0 : Nat) (Ol : Old Z n0 h0) (hl : l.stackTraces = true)  :
    MetFree l x (head1 (Jvm.Cond.code x code maxLocals ret :: ws) room_1) (fun a_ U_ => a_ = #[(.int p1), (.int p2)] ∧ Z.Warmed39 U_.vm ∧ U_.heap = h0 ∧ CHv Z EL_ U_.vm h0) (fun _ _ _ s_ _ => Jvm.D.framesKnown s_ = true ∧ Jvm.D.tablesKnown s_ = true) (fun _ U_ o_ V_ => ∃ v_ L_, o_ = .returned v_ ∧ Q_rm0 Z cs_ un_ sn_ p1 p2 h0 n0 v_ V_.heap L_ ∧ ReturnedEndW U_ o_ V_ L_ room_1.cells room_1.slots) := by
  refine MetFree.of_bodySF (plainFor_of_name pn_2) hisR ?_
  intro p e s m args below meth c s₁ Bd hml0 hP hK
  obtain ⟨rfl, hZ, hh, Hc0⟩ := hP
  have hx := Bd.exec
  have hby := Bd.bytes
  have hml : c.maxLocals = 13 := hml0
  have hown : s.vm.findClass "com/example/penelope/penelope/internal/CoverageCannotTakeEffectPinLaw" = some m.cls := findClass_of_methodNamed Bd.named
  have hnm := (name_of_methodNamed Bd.named Bd.method).1
  have X0 : Stand p l e room_1 s m #[(.int p1), (.int p2)] below meth c s₁ [] 0 0 := Stand.of_body Bd
  have e0 : s₁.heap = h0 := by rw [← hh, Bd.state]; rfl
  obtain ⟨hTK, hBelow⟩ := X0.known hK.2 hK.1
  have N0 := Fr.nil n0
  have kp0 := Keep.refl h0 []
  show Go p e below (Fin2 s below (Q_rm0 Z cs_ un_ sn_ p1 p2 h0 n0) room_1.cells room_1.slots) _
  have S0 : s.Since s.vm 0 := (State.WarmedH.refl s).since 0
  have hk0 : 0 ≤ h0.size := Nat.zero_le _
  refine Go.step (fun t_ k_ => castTop (ef_rm0 m p1 p2) k_) ?_
  obtain ⟨S_cs, N_cs, S_un, R_un, S_sn, R_sn⟩ := id HW
  show Go p e below _ (s₁.setTop (mkF m 0 #[.val (.int p1), .val (.int p2), .unset, .unset, .unset, .unset, .unset, .unset, .unset, .unset, .unset, .unset, .unset] []))
  refine gs.iloadN X0.here hx (hb hby at_0) rfl ?_
  refine gs.bipush 16 X0.here hx (hb hby at_1) rfl ?_
  refine Go.fin (fun t_ k_ => XS.iushr X0.here hx rfl (hb hby at_3) rfl k_) ?_
  show Go p e below _ (s₁.setTop (mkF m 4 _ [(.int ((p1.toUInt32 >>> ((16 : Int32) &&& 31).toUInt32).toInt32))]))
  refine gs.sipush 32767 X0.here hx (hb hby at_4) rfl ?_
  refine gs.iand X0.here hx (hb hby at_7) ?_
  refine gs.iconst 3 X0.here hx (hb hby at_8) rfl ?_
  refine Go.fin (fun t_ k_ => iremM X0 hx rfl (hb hby at_9) rfl (by decide) k_) ?_
  show Go p e below _ (s₁.setTop (mkF m 10 _ [(.int ((((p1.toUInt32 >>> ((16 : Int32) &&& 31).toUInt32).toInt32) &&& (32767 : Int32)) % (3 : Int32)))]))
  refine gs.istoreN X0.here hx (hb hby at_10) (l' := #[.val (.int p1), .val (.int p2), .val (.int ((((p1.toUInt32 >>> ((16 : Int32) &&& 31).toUInt32).toInt32) &&& (32767 : Int32)) % (3 : Int32))), .unset, .unset, .unset, .unset, .unset, .unset, .unset, .unset, .unset, .unset]) rfl ?_
  refine gs.iloadN X0.here hx (hb hby at_11) rfl ?_
  refine gs.bipush 16 X0.here hx (hb hby at_12) rfl ?_
  refine Go.fin (fun t_ k_ => XS.iushr X0.here hx rfl (hb hby at_14) rfl k_) ?_
  show Go p e below _ (s₁.setTop (mkF m 15 _ [(.int ((p2.toUInt32 >>> ((16 : Int32) &&& 31).toUInt32).toInt32))]))
  refine gs.sipush 32767 X0.here hx (hb hby at_15) rfl ?_
  refine gs.iand X0.here hx (hb hby at_18) ?_
  refine gs.iconst 3 X0.here hx (hb hby at_19) rfl ?_
  refine Go.fin (fun t_ k_ => iremM X0 hx rfl (hb hby at_20) rfl (by decide) k_) ?_
  show Go p e below _ (s₁.setTop (mkF m 21 _ [(.int ((((p2.toUInt32 >>> ((16 : Int32) &&& 31).toUInt32).toInt32) &&& (32767 : Int32)) % (3 : Int32)))]))
  refine gs.istoreN X0.here hx (hb hby at_21) (l' := #[.val (.int p1), .val (.int p2), .val (.int ((((p1.toUInt32 >>> ((16 : Int32) &&& 31).toUInt32).toInt32) &&& (32767 : Int32)) % (3 : Int32))), .val (.int ((((p2.toUInt32 >>> ((16 : Int32) &&& 31).toUInt32).toInt32) &&& (32767 : Int32)) % (3 : Int32))), .unset, .unset, .unset, .unset, .unset, .unset, .unset, .unset, .unset]) rfl ?_
  refine gs.iloadN X0.here hx (hb hby at_22) rfl ?_
  refine gs.sipush 255 X0.here hx (hb hby at_23) rfl ?_
  refine gs.iand X0.here hx (hb hby at_26) ?_
  refine Go.fin (fun t_ k_ => XS.i2c X0.here hx rfl (hb hby at_27) rfl k_) ?_
  show Go p e below _ (s₁.setTop (mkF m 28 _ [(.int ((p1 &&& (255 : Int32)).toUInt32.toUInt16.toUInt32.toInt32))]))
  refine gs.istore X0.here hx (hb hby at_28) (l' := #[.val (.int p1), .val (.int p2), .val (.int ((((p1.toUInt32 >>> ((16 : Int32) &&& 31).toUInt32).toInt32) &&& (32767 : Int32)) % (3 : Int32))), .val (.int ((((p2.toUInt32 >>> ((16 : Int32) &&& 31).toUInt32).toInt32) &&& (32767 : Int32)) % (3 : Int32))), .val (.int ((p1 &&& (255 : Int32)).toUInt32.toUInt16.toUInt32.toInt32)), .unset, .unset, .unset, .unset, .unset, .unset, .unset, .unset]) rfl ?_
  refine gs.iloadN X0.here hx (hb hby at_30) rfl ?_
  refine gs.bipush 8 X0.here hx (hb hby at_31) rfl ?_
  refine Go.fin (fun t_ k_ => XS.iushr X0.here hx rfl (hb hby at_33) rfl k_) ?_
  show Go p e below _ (s₁.setTop (mkF m 34 _ [(.int ((p1.toUInt32 >>> ((8 : Int32) &&& 31).toUInt32).toInt32))]))
  refine gs.sipush 255 X0.here hx (hb hby at_34) rfl ?_
  refine gs.iand X0.here hx (hb hby at_37) ?_
  refine Go.fin (fun t_ k_ => XS.i2c X0.here hx rfl (hb hby at_38) rfl k_) ?_
  show Go p e below _ (s₁.setTop (mkF m 39 _ [(.int ((((p1.toUInt32 >>> ((8 : Int32) &&& 31).toUInt32).toInt32) &&& (255 : Int32)).toUInt32.toUInt16.toUInt32.toInt32))]))
  refine gs.istore X0.here hx (hb hby at_39) (l' := #[.val (.int p1), .val (.int p2), .val (.int ((((p1.toUInt32 >>> ((16 : Int32) &&& 31).toUInt32).toInt32) &&& (32767 : Int32)) % (3 : Int32))), .val (.int ((((p2.toUInt32 >>> ((16 : Int32) &&& 31).toUInt32).toInt32) &&& (32767 : Int32)) % (3 : Int32))), .val (.int ((p1 &&& (255 : Int32)).toUInt32.toUInt16.toUInt32.toInt32)), .val (.int ((((p1.toUInt32 >>> ((8 : Int32) &&& 31).toUInt32).toInt32) &&& (255 : Int32)).toUInt32.toUInt16.toUInt32.toInt32)), .unset, .unset, .unset, .unset, .unset, .unset, .unset]) rfl ?_
  refine gs.iloadN X0.here hx (hb hby at_41) rfl ?_
  refine gs.sipush 255 X0.here hx (hb hby at_42) rfl ?_
  refine gs.iand X0.here hx (hb hby at_45) ?_
  refine Go.fin (fun t_ k_ => XS.i2c X0.here hx rfl (hb hby at_46) rfl k_) ?_
  show Go p e below _ (s₁.setTop (mkF m 47 _ [(.int ((p2 &&& (255 : Int32)).toUInt32.toUInt16.toUInt32.toInt32))]))
  refine gs.istore X0.here hx (hb hby at_47) (l' := #[.val (.int p1), .val (.int p2), .val (.int ((((p1.toUInt32 >>> ((16 : Int32) &&& 31).toUInt32).toInt32) &&& (32767 : Int32)) % (3 : Int32))), .val (.int ((((p2.toUInt32 >>> ((16 : Int32) &&& 31).toUInt32).toInt32) &&& (32767 : Int32)) % (3 : Int32))), .val (.int ((p1 &&& (255 : Int32)).toUInt32.toUInt16.toUInt32.toInt32)), .val (.int ((((p1.toUInt32 >>> ((8 : Int32) &&& 31).toUInt32).toInt32) &&& (255 : Int32)).toUInt32.toUInt16.toUInt32.toInt32)), .val (.int ((p2 &&& (255 : Int32)).toUInt32.toUInt16.toUInt32.toInt32)), .unset, .unset, .unset, .unset, .unset, .unset]) rfl ?_
  refine gs.iloadN X0.here hx (hb hby at_49) rfl ?_
  refine gs.bipush 8 X0.here hx (hb hby at_50) rfl ?_
  refine Go.fin (fun t_ k_ => XS.iushr X0.here hx rfl (hb hby at_52) rfl k_) ?_
  show Go p e below _ (s₁.setTop (mkF m 53 _ [(.int ((p2.toUInt32 >>> ((8 : Int32) &&& 31).toUInt32).toInt32))]))
  refine gs.sipush 255 X0.here hx (hb hby at_53) rfl ?_
  refine gs.iand X0.here hx (hb hby at_56) ?_
  refine Go.fin (fun t_ k_ => XS.i2c X0.here hx rfl (hb hby at_57) rfl k_) ?_
  show Go p e below _ (s₁.setTop (mkF m 58 _ [(.int ((((p2.toUInt32 >>> ((8 : Int32) &&& 31).toUInt32).toInt32) &&& (255 : Int32)).toUInt32.toUInt16.toUInt32.toInt32))]))
  refine gs.istore X0.here hx (hb hby at_58) (l' := #[.val (.int p1), .val (.int p2), .val (.int ((((p1.toUInt32 >>> ((16 : Int32) &&& 31).toUInt32).toInt32) &&& (32767 : Int32)) % (3 : Int32))), .val (.int ((((p2.toUInt32 >>> ((16 : Int32) &&& 31).toUInt32).toInt32) &&& (32767 : Int32)) % (3 : Int32))), .val (.int ((p1 &&& (255 : Int32)).toUInt32.toUInt16.toUInt32.toInt32)), .val (.int ((((p1.toUInt32 >>> ((8 : Int32) &&& 31).toUInt32).toInt32) &&& (255 : Int32)).toUInt32.toUInt16.toUInt32.toInt32)), .val (.int ((p2 &&& (255 : Int32)).toUInt32.toUInt16.toUInt32.toInt32)), .val (.int ((((p2.toUInt32 >>> ((8 : Int32) &&& 31).toUInt32).toInt32) &&& (255 : Int32)).toUInt32.toUInt16.toUInt32.toInt32)), .unset, .unset, .unset, .unset, .unset]) rfl ?_
  generalize hk_ca : ((p1 &&& (255 : Int32)).toUInt32.toUInt16.toUInt32.toInt32) = ca
  show Go p e below _ (s₁.setTop (mkF m 60 #[.val (.int p1), .val (.int p2), .val (.int ((((p1.toUInt32 >>> ((16 : Int32) &&& 31).toUInt32).toInt32) &&& (32767 : Int32)) % (3 : Int32))), .val (.int ((((p2.toUInt32 >>> ((16 : Int32) &&& 31).toUInt32).toInt32) &&& (32767 : Int32)) % (3 : Int32))), .val (.int ca), .val (.int ((((p1.toUInt32 >>> ((8 : Int32) &&& 31).toUInt32).toInt32) &&& (255 : Int32)).toUInt32.toUInt16.toUInt32.toInt32)), .val (.int ((p2 &&& (255 : Int32)).toUInt32.toUInt16.toUInt32.toInt32)), .val (.int ((((p2.toUInt32 >>> ((8 : Int32) &&& 31).toUInt32).toInt32) &&& (255 : Int32)).toUInt32.toUInt16.toUInt32.toInt32)), .unset, .unset, .unset, .unset, .unset] []))
  have hb_ca : CH8 ca := by rw [← hk_ca]; exact ch8 _
  generalize hk_cb : ((((p1.toUInt32 >>> ((8 : Int32) &&& 31).toUInt32).toInt32) &&& (255 : Int32)).toUInt32.toUInt16.toUInt32.toInt32) = cb
  show Go p e below _ (s₁.setTop (mkF m 60 #[.val (.int p1), .val (.int p2), .val (.int ((((p1.toUInt32 >>> ((16 : Int32) &&& 31).toUInt32).toInt32) &&& (32767 : Int32)) % (3 : Int32))), .val (.int ((((p2.toUInt32 >>> ((16 : Int32) &&& 31).toUInt32).toInt32) &&& (32767 : Int32)) % (3 : Int32))), .val (.int ca), .val (.int cb), .val (.int ((p2 &&& (255 : Int32)).toUInt32.toUInt16.toUInt32.toInt32)), .val (.int ((((p2.toUInt32 >>> ((8 : Int32) &&& 31).toUInt32).toInt32) &&& (255 : Int32)).toUInt32.toUInt16.toUInt32.toInt32)), .unset, .unset, .unset, .unset, .unset] []))
  have hb_cb : CH8 cb := by rw [← hk_cb]; exact ch8 _
  generalize hk_cc : ((p2 &&& (255 : Int32)).toUInt32.toUInt16.toUInt32.toInt32) = cc
  show Go p e below _ (s₁.setTop (mkF m 60 #[.val (.int p1), .val (.int p2), .val (.int ((((p1.toUInt32 >>> ((16 : Int32) &&& 31).toUInt32).toInt32) &&& (32767 : Int32)) % (3 : Int32))), .val (.int ((((p2.toUInt32 >>> ((16 : Int32) &&& 31).toUInt32).toInt32) &&& (32767 : Int32)) % (3 : Int32))), .val (.int ca), .val (.int cb), .val (.int cc), .val (.int ((((p2.toUInt32 >>> ((8 : Int32) &&& 31).toUInt32).toInt32) &&& (255 : Int32)).toUInt32.toUInt16.toUInt32.toInt32)), .unset, .unset, .unset, .unset, .unset] []))
  have hb_cc : CH8 cc := by rw [← hk_cc]; exact ch8 _
  generalize hk_cd : ((((p2.toUInt32 >>> ((8 : Int32) &&& 31).toUInt32).toInt32) &&& (255 : Int32)).toUInt32.toUInt16.toUInt32.toInt32) = cd
  show Go p e below _ (s₁.setTop (mkF m 60 #[.val (.int p1), .val (.int p2), .val (.int ((((p1.toUInt32 >>> ((16 : Int32) &&& 31).toUInt32).toInt32) &&& (32767 : Int32)) % (3 : Int32))), .val (.int ((((p2.toUInt32 >>> ((16 : Int32) &&& 31).toUInt32).toInt32) &&& (32767 : Int32)) % (3 : Int32))), .val (.int ca), .val (.int cb), .val (.int cc), .val (.int cd), .unset, .unset, .unset, .unset, .unset] []))
  have hb_cd : CH8 cd := by rw [← hk_cd]; exact ch8 _
  generalize hk_ka : ((((p1.toUInt32 >>> ((16 : Int32) &&& 31).toUInt32).toInt32) &&& (32767 : Int32)) % (3 : Int32)) = ka
  show Go p e below _ (s₁.setTop (mkF m 60 #[.val (.int p1), .val (.int p2), .val (.int ka), .val (.int ((((p2.toUInt32 >>> ((16 : Int32) &&& 31).toUInt32).toInt32) &&& (32767 : Int32)) % (3 : Int32))), .val (.int ca), .val (.int cb), .val (.int cc), .val (.int cd), .unset, .unset, .unset, .unset, .unset] []))
  have hb_ka : 0 ≤ ka.toInt ∧ ka.toInt < 3 := by rw [← hk_ka]; exact rem15_bd _
  generalize hk_kb : ((((p2.toUInt32 >>> ((16 : Int32) &&& 31).toUInt32).toInt32) &&& (32767 : Int32)) % (3 : Int32)) = kb
  show Go p e below _ (s₁.setTop (mkF m 60 #[.val (.int p1), .val (.int p2), .val (.int ka), .val (.int kb), .val (.int ca), .val (.int cb), .val (.int cc), .val (.int cd), .unset, .unset, .unset, .unset, .unset] []))
  have hb_kb : 0 ≤ kb.toInt ∧ kb.toInt < 3 := by rw [← hk_kb]; exact rem15_bd _
  refine gs.iloadN X0.here hx (hb hby at_60) rfl ?_
  refine gs.iload X0.here hx (hb hby at_61) rfl ?_
  refine gs.iload X0.here hx (hb hby at_63) rfl ?_
  obtain ⟨_, _, ⟨T1, L1, k1, n1⟩, -, X1, S1, gr1, ⟨Lc1, hQ1, l1, y1, z1, C1⟩, st1⟩ := callSS X0 hx (y := y_1) hown (mvT hZ (wd hw 0 rfl)) (mvT hZ (wd hw 1 rfl)) (mvT hZ (wd hw 2 rfl)) (mvT hZ (wd hw 3 rfl)) (by decide) (backOfSH (s := s) (vm0 := s.vm) (W := 0) (rm1 l Z a0 hw [] cs_ un_ sn_ HW ka ca cb h0 n0 Ol hb_ka hb_ca hb_cb) hZ (wd hw 3 rfl) (wd hw 2 rfl) (by decide) (by decide) (hEL_ hw) (CHr.keep kp0 sf0 Hc0).1) (g := (mkF m 65 #[.val (.int p1), .val (.int p2), .val (.int ka), .val (.int kb), .val (.int ca), .val (.int cb), .val (.int cc), .val (.int cd), .unset, .unset, .unset, .unset, .unset] [(.int cb), (.int ca), (.int ka)])) rfl (by rw [hml]; rfl) (argsL := [(.int ka), (.int ca), (.int cb)]) (rest := []) (lenOf pd_6 rfl) rfl (by show 2 * 0 + _ ≤ _; exact Nat.le_of_eq rfl) (hb hby at_65) (fun _ _ => ⟨rfl, e0, (by decide : 0 + 6 ≤ _), (by decide : 0 + 12 ≤ _)⟩)
  dsimp only [Pt.U, Pt.locs, Pt.cells, Pt.slots] at X1 l1 y1 z1 st1 hQ1 S1 gr1 C1
  subst l1 y1 z1
  have chb1 := (CHr.keep kp0 sf0 Hc0).trans C1
  obtain ⟨X1, S1, hZ1, hown1⟩ := rebS (vm0 := s.vm) S0 (by rw [e0]; exact hk0) X1 S1 gr1 hZ hown
  obtain ⟨b1, rfl, gb_b1, Nq1, K1, x1_0, p1_0, p1_1⟩ := hQ1
  have nn_b1 : n0 ≤ b1 := Nat.le_trans (old_z0 Ol) gb_b1
  have sz_b1 : h0.size ≤ b1 := Nat.le_trans kp0.1 gb_b1
  obtain ⟨qz1, kz1, Fz1, Vz1⟩ := x1_0
  have old1 := Ol.keep K1 all0
  have kp1 := kp0.trans K1 all0
  have N1 := Fr.app N0 Nq1
  refine Go.step (fun t_ k_ => st1.trans k_) ?_
  show Go p e below _ (T1.setTop (mkF m 68 #[.val (.int p1), .val (.int p2), .val (.int ka), .val (.int kb), .val (.int ca), .val (.int cb), .val (.int cc), .val (.int cd), .unset, .unset, .unset, .unset, .unset] [(.ref b1)]))
  refine gs.astore X1.here hx (hb hby at_68) rfl (l' := #[.val (.int p1), .val (.int p2), .val (.int ka), .val (.int kb), .val (.int ca), .val (.int cb), .val (.int cc), .val (.int cd), .val (.ref b1), .unset, .unset, .unset, .unset]) rfl ?_
  refine gs.iloadN X1.here hx (hb hby at_70) rfl ?_
  refine gs.iload X1.here hx (hb hby at_71) rfl ?_
  refine gs.iload X1.here hx (hb hby at_73) rfl ?_
  obtain ⟨_, _, ⟨T2, L2, k2, n2⟩, -, X2, S2, gr2, ⟨Lc2, hQ2, l2, y2, z2, C2⟩, st2⟩ := callSS X1 hx (y := y_1) hown1 (mvT hZ1 (wd hw 0 rfl)) (mvT hZ1 (wd hw 1 rfl)) (mvT hZ1 (wd hw 2 rfl)) (mvT hZ1 (wd hw 3 rfl)) (by decide) (backOfSH (s := s) (vm0 := T1.vm) (W := 0) (rm1 l Z a0 hw [] cs_ un_ sn_ HW kb cc cd T1.heap n0 old1 hb_kb hb_cc hb_cd) hZ1 (wd hw 3 rfl) (wd hw 2 rfl) (by decide) (by decide) (hEL_ hw) chb1.1) (g := (mkF m 75 #[.val (.int p1), .val (.int p2), .val (.int ka), .val (.int kb), .val (.int ca), .val (.int cb), .val (.int cc), .val (.int cd), .val (.ref b1), .unset, .unset, .unset, .unset] [(.int cd), (.int cc), (.int kb)])) rfl (by rw [hml]; rfl) (argsL := [(.int kb), (.int cc), (.int cd)]) (rest := []) (lenOf pd_6 rfl) rfl (by show 2 * 0 + _ ≤ _; exact Nat.le_of_eq rfl) (hb hby at_75) (fun _ _ => ⟨rfl, rfl, (by decide : 6 + 6 ≤ _), (by decide : 12 + 12 ≤ _)⟩)
  dsimp only [Pt.U, Pt.locs, Pt.cells, Pt.slots] at X2 l2 y2 z2 st2 hQ2 S2 gr2 C2
  subst l2 y2 z2
  have chb2 := chb1.trans C2
  obtain ⟨X2, S2, hZ2, hown2⟩ := rebS (vm0 := T1.vm) S1 (by exact (Nat.le_refl _)) X2 S2 gr2 hZ1 hown1
  obtain ⟨b2, rfl, gb_b2, Nq2, K2, x2_0, p2_0, p2_1⟩ := hQ2
  have nn_b2 : n0 ≤ b2 := Nat.le_trans (old_z0 old1) gb_b2
  have sz_b2 : h0.size ≤ b2 := Nat.le_trans kp1.1 gb_b2
  obtain ⟨qz2, kz2, Fz2, Vz2⟩ := x2_0
  have old2 := old1.keep K2 all0
  have kp2 := kp1.trans K2 all0
  have N2 := Fr.app N1 Nq2
  refine Go.step (fun t_ k_ => st2.trans k_) ?_
  show Go p e below _ (T2.setTop (mkF m 78 #[.val (.int p1), .val (.int p2), .val (.int ka), .val (.int kb), .val (.int ca), .val (.int cb), .val (.int cc), .val (.int cd), .val (.ref b1), .unset, .unset, .unset, .unset] [(.ref b2)]))
  refine gs.astore X2.here hx (hb hby at_78) rfl (l' := #[.val (.int p1), .val (.int p2), .val (.int ka), .val (.int kb), .val (.int ca), .val (.int cb), .val (.int cc), .val (.int cd), .val (.ref b1), .val (.ref b2), .unset, .unset, .unset]) rfl ?_
  refine gs.iloadN X2.here hx (hb hby at_80) rfl ?_
  refine gs.iload X2.here hx (hb hby at_81) rfl ?_
  refine gs.iload X2.here hx (hb hby at_83) rfl ?_
  refine gs.iloadN X2.here hx (hb hby at_85) rfl ?_
  refine gs.iload X2.here hx (hb hby at_86) rfl ?_
  refine gs.iload X2.here hx (hb hby at_88) rfl ?_
  refine gs.stat 0 X2 hx hZ2 hown2 (rm5 l Z a0 hw [] cs_ un_ sn_ HW ka ca cb kb cc cd T2.heap n0 old2 hb_ka hb_kb hb_ca hb_cb hb_cc hb_cd) (wd hw 28 rfl) (wd hw 2 rfl) (wd hw 26 rfl) (wd hw 27 rfl) (by decide) (by decide) (by decide) (by rw [hml]; rfl) [(.int ka), (.int ca), (.int cb), (.int kb), (.int cc), (.int cd)] (lenOf pd_7 rfl) rfl (Nat.le_of_eq rfl) (hb hby at_90) rfl rfl (by decide) (by decide) fun T3 Lc3 v3 X3 hQ3 => ?_
  obtain ⟨b3, rfl, gb_b3, Nq3, K3, x3_0, p3_0, p3_1⟩ := hQ3
  have nn_b3 : n0 ≤ b3 := Nat.le_trans (old_z0 old2) gb_b3
  have sz_b3 : h0.size ≤ b3 := Nat.le_trans kp2.1 gb_b3
  obtain ⟨qz3, kz3, Fz3, Vz3⟩ := x3_0
  have old3 := old2.keep K3 all0
  have hk3 := Nat.le_trans (Nat.le_refl _) K3.1
  have kp3 := kp2.trans K3 all0
  have N3 := Fr.app N2 Nq3
  show Go p e below _ (T3.setTop (mkF m 93 _ [(.ref b3)]))
  refine gs.astore X3.here hx (hb hby at_93) rfl (l' := #[.val (.int p1), .val (.int p2), .val (.int ka), .val (.int kb), .val (.int ca), .val (.int cb), .val (.int cc), .val (.int cd), .val (.ref b1), .val (.ref b2), .val (.ref b3), .unset, .unset]) rfl ?_
  refine gs.aload X3.here hx (hb hby at_95) rfl rfl ?_
  refine gs.aload X3.here hx (hb hby at_97) rfl rfl ?_
  have f4 := ((Fz1.keep K2 nin0).keep K3 nin0)
  have f5 := ((Vz1.keep K2 nin0).keep K3 nin0)
  have f6 := ((p1_0.keep K2).keep K3)
  have f7 := ((p1_1.keep K2 nin0).keep K3 nin0)
  have f8 := (Fz2.keep K3 nin0)
  have f9 := (Vz2.keep K3 nin0)
  have f10 := (p2_0.keep K3)
  have f11 := (p2_1.keep K3 nin0)
  obtain ⟨_, _, ⟨T12, L12, k12, n12⟩, -, X12, S12, gr12, ⟨Lc12, hQ12, l12, y12, z12⟩, st12⟩ := callSS X3 hx (y := y_9) hown2 (mvT hZ2 (wd hw 40 rfl)) (mvT hZ2 (wd hw 41 rfl)) (mvT hZ2 (wd hw 42 rfl)) (mvT hZ2 (wd hw 43 rfl)) (by decide) (backOfSPK (s := s) (vm0 := T2.vm) (W := 0) (am9_1 l Z a0 hw [] cs_ un_ sn_ HW (b1) (b2) (qz1) (kz1) (ka) ((((pk ka ca cb).map StrChars.lo8).map Value.int)) (qz2) (kz2) (kb) ((((pk kb cc cd).map StrChars.lo8).map Value.int)) T3.heap n0 old3 hl f4 f5 f6 f7 f8 f9 f10 f11 (or1 ka kb hb_ka hb_kb) (or2 ka kb hb_ka hb_kb) (or3 ka kb hb_ka hb_kb) (or4 ka kb hb_ka hb_kb) (or5 ka kb hb_ka hb_kb) (or6 ka kb hb_ka hb_kb) (or7 ka kb hb_ka hb_kb) (or8 ka kb hb_ka hb_kb) (or9 ka kb hb_ka hb_kb) (or10 ka kb hb_ka hb_kb) (or11 ka kb hb_ka hb_kb) (or12 ka kb hb_ka hb_kb) (or13 ka kb hb_ka hb_kb) (or14 ka kb hb_ka hb_kb) (or15 ka kb hb_ka hb_kb) (or16 ka kb hb_ka hb_kb) (or17 ka kb hb_ka hb_kb) (or18 ka kb hb_ka hb_kb) (or19 ka kb hb_ka hb_kb) (or20 ka kb hb_ka hb_kb)) hZ2 (wd hw 43 rfl) (wd hw 42 rfl) (by decide) (by decide) (hEL_ hw) (chb2.trans (CHr.keep ((Keep.refl T2.heap []).trans K3 all0) sf0 chb2.1)).1 (hTK.alikeC S2.1.alike) (hBelow.alikeC S2.1.alike)) (g := (mkF m 99 #[.val (.int p1), .val (.int p2), .val (.int ka), .val (.int kb), .val (.int ca), .val (.int cb), .val (.int cc), .val (.int cd), .val (.ref b1), .val (.ref b2), .val (.ref b3), .unset, .unset] [(.ref b2), (.ref b1)])) rfl (by rw [hml]; rfl) (argsL := [(.ref b1), (.ref b2)]) (rest := []) (lenOf pd_29 rfl) rfl (by show 2 * 0 + _ ≤ _; exact Nat.le_of_eq rfl) (hb hby at_99) (fun _ _ => ⟨rfl, rfl, (by decide : 15 + 9 ≤ _), (by decide : 78 + 2929 ≤ _)⟩)
  dsimp only [Pt.U, Pt.locs, Pt.cells, Pt.slots] at X12 l12 y12 z12 st12 hQ12 S12 gr12
  subst l12 y12 z12
  obtain ⟨X12, S12, hZ12, hown12⟩ := rebS (vm0 := T2.vm) S2 (by exact hk3) X12 S12 gr12 hZ2 hown2
  obtain ⟨b12_0, b12_1, b12_2, kx12_0, rfl, gb_b12_0, gb_b12_1, gb_b12_2, ne_b12_0_b12_1, ne_b12_0_b12_2, ne_b12_1_b12_2, Nq12, K12, p12_0, p12_1, p12_2, p12_3, p12_4, p12_5, p12_6, p12_7, p12_8⟩ := hQ12
  have nn_b12_0 : n0 ≤ b12_0 := Nat.le_trans (old_z0 old3) gb_b12_0
  have sz_b12_0 : h0.size ≤ b12_0 := Nat.le_trans kp3.1 gb_b12_0
  have nn_b12_1 : n0 ≤ b12_1 := Nat.le_trans (old_z0 old3) gb_b12_1
  have sz_b12_1 : h0.size ≤ b12_1 := Nat.le_trans kp3.1 gb_b12_1
  have nn_b12_2 : n0 ≤ b12_2 := Nat.le_trans (old_z0 old3) gb_b12_2
  have sz_b12_2 : h0.size ≤ b12_2 := Nat.le_trans kp3.1 gb_b12_2
  have old12 := old3.keep K12 all0
  have kp12 := kp3.trans K12 all0
  have N12 := Fr.app N3 Nq12
  refine Go.step (fun t_ k_ => st12.trans k_) ?_
  show Go p e below _ (T12.setTop (mkF m 102 #[.val (.int p1), .val (.int p2), .val (.int ka), .val (.int kb), .val (.int ca), .val (.int cb), .val (.int cc), .val (.int cd), .val (.ref b1), .val (.ref b2), .val (.ref b3), .unset, .unset] [(.ref b12_0)]))
  refine gs.astore X12.here hx (hb hby at_102) rfl (l' := #[.val (.int p1), .val (.int p2), .val (.int ka), .val (.int kb), .val (.int ca), .val (.int cb), .val (.int cc), .val (.int cd), .val (.ref b1), .val (.ref b2), .val (.ref b3), .val (.ref b12_0), .unset]) rfl ?_
  refine gs.aload X12.here hx (hb hby at_104) rfl rfl ?_
  refine Go.fin (fun t_ k_ => XS.ifnonnullYes X12.here hx rfl (pc0 := 106) (pc' := 111) rfl (hb hby at_106) rfl (by decide) (by decide) k_) ?_
  show Go p e below _ (T12.setTop (mkF m 111 _ []))
  refine gs.aload X12.here hx (hb hby at_111) rfl rfl ?_
  obtain ⟨cq13, kq13, q13a, q13b, q13c⟩ := isOf hZ12 rfl p12_0
  obtain ⟨_, _, ⟨T13, L13, k13, n13⟩, -, X13, ⟨Lc13, hQ13, l13, y13, z13⟩, st13⟩ := X12.virtualBackUp hx (owner := "java/lang/Throwable") (x := (⟨"com/example/penelope/penelope/exception/InterceptionException", "getMessage", "()Ljava/lang/String;"⟩ : MethodName)) (y := y_42) hown12 (mvT hZ12 (wd hw 237 rfl)) (mvT hZ12 (wd hw 238 rfl)) (mvT hZ12 (wd hw 239 rfl)) (by decide) (mvT hZ12 (wd hw 241 rfl)) (mvT hZ12 (wd hw 240 rfl)) (backOf (W := 0) (am42_1 l Z a0 hw [] cs_ un_ sn_ HW (b12_0) (b12_1) T12.heap n0 old12 p12_2) hZ12 (wd hw 242 rfl) (wd hw 198 rfl) (by decide) (by decide)) q13a q13c (g := (mkF m 113 #[.val (.int p1), .val (.int p2), .val (.int ka), .val (.int kb), .val (.int ca), .val (.int cb), .val (.int cc), .val (.int cd), .val (.ref b1), .val (.ref b2), .val (.ref b3), .val (.ref b12_0), .unset] [(.ref b12_0)])) rfl (by rw [hml]; rfl) (Steps.refl _) (argsL := []) (rest := []) (lenOf pd_27 rfl) rfl (by show 2 * 0 + _ ≤ _; exact Nat.le_of_eq rfl) (hb hby at_113) (fun _ _ => ⟨rfl, rfl, (by decide : 24 + 0 ≤ _), (by decide : 3007 + 0 ≤ _)⟩)
  dsimp only [Pt.U, Pt.locs, Pt.cells, Pt.slots] at X13 l13 y13 z13 st13 hQ13
  subst l13 y13 z13
  obtain ⟨rfl, Nq13, e13⟩ := hQ13
  have N13 := Fr.app N12 Nq13
  refine Go.step (fun t_ k_ => st13.trans k_) ?_
  show Go p e below _ (T13.setTop (mkF m 116 #[.val (.int p1), .val (.int p2), .val (.int ka), .val (.int kb), .val (.int ca), .val (.int cb), .val (.int cc), .val (.int cd), .val (.ref b1), .val (.ref b2), .val (.ref b3), .val (.ref b12_0), .unset] [(.ref b12_1)]))
  refine gs.astore X13.here hx (hb hby at_116) rfl (l' := #[.val (.int p1), .val (.int p2), .val (.int ka), .val (.int kb), .val (.int ca), .val (.int cb), .val (.int cc), .val (.int cd), .val (.ref b1), .val (.ref b2), .val (.ref b3), .val (.ref b12_0), .val (.ref b12_1)]) rfl ?_
  refine gs.aload X13.here hx (hb hby at_118) rfl rfl ?_
  refine Go.fin (fun t_ k_ => XS.ifnullNo X13.here hx rfl (hb hby at_120) rfl k_) ?_
  show Go p e below _ (T13.setTop (mkF m 123 _ []))
  refine gs.aload X13.here hx (hb hby at_123) rfl rfl ?_
  refine gs.aload X13.here hx (hb hby at_125) rfl rfl ?_
  have f15 := (p3_0.keep K12)
  have f16 := (Fz3.keep K12 nin0)
  have f17 := (p3_1.keep K12 nin0)
  have f18 := (Vz3.keep K12 nin0)
  obtain ⟨cq14, kq14, q14a, q14b, q14c⟩ := isOf hZ12 e13 p12_4
  obtain ⟨vq14, _, ⟨T14, L14, k14, n14⟩, -, X14, ⟨Lc14, ⟨hv14, rfl, hQ14⟩, l14, y14, z14⟩, st14⟩ := X13.virtualBack hx (y := y_43) (z := y_43) hown12 (mvT hZ12 (wd hw 243 rfl)) (mvT hZ12 (wd hw 244 rfl)) (notFace_of_selects (args := #[]) (mvT hZ12 (wd hw 246 rfl))) (mvT hZ12 (wd hw 246 rfl)) (mvT hZ12 (wd hw 245 rfl)) (by decide) (StrChars.Road.eqW (W := 0) hZ12 (vwordsEq hw) (wd hw 5 rfl) p12_4 p12_6 p12_5 p12_8 (cod_a ka ca cb kb cc cd hb_ka hb_kb hb_ca hb_cb hb_cc hb_cd) (fun c hc => wide_c (cs_all hb_ca hb_cb hb_cc hb_cd c hc)) (cs_len hb_ka hb_kb) f15 f16 f17 f18 (cod_b ka ca cb kb cc cd hb_ka hb_kb hb_ca hb_cb hb_cc hb_cd) (fun c hc => wide_c (cs_all hb_ca hb_cb hb_cc hb_cd c hc)) (cs_len hb_ka hb_kb) (S_cs.ext old12.2) N_cs (by decide) (by decide)) q14a q14c (g := (mkF m 127 #[.val (.int p1), .val (.int p2), .val (.int ka), .val (.int kb), .val (.int ca), .val (.int cb), .val (.int cc), .val (.int cd), .val (.ref b1), .val (.ref b2), .val (.ref b3), .val (.ref b12_0), .val (.ref b12_1)] [(.ref b3), (.ref b12_1)])) rfl (by rw [hml]; rfl) (Steps.refl _) (argsL := [(.ref b3)]) (rest := []) (lenOf pd_30 rfl) rfl (by show 2 * 0 + _ ≤ _; exact Nat.le_of_eq rfl) (hb hby at_127) (fun _ _ => ⟨rfl, e13, (by decide : 24 + 0 ≤ _), (by decide : 3007 + 0 ≤ _)⟩)
  dsimp only [Pt.U, Pt.locs, Pt.cells, Pt.slots] at X14 hQ14 l14 y14 z14 st14
  rw [List.append_nil] at l14
  subst l14 y14 z14
  obtain rfl : vq14 = some (Value.int (1 : Int32)) := by
    rcases hv14 with hv | hv
    · exact hv.1
    · exact absurd rfl hv.2
  refine Go.step (fun t_ k_ => st14.trans k_) ?_
  show Go p e below _ (T14.setTop (mkF m 130 #[.val (.int p1), .val (.int p2), .val (.int ka), .val (.int kb), .val (.int ca), .val (.int cb), .val (.int cc), .val (.int cd), .val (.ref b1), .val (.ref b2), .val (.ref b3), .val (.ref b12_0), .val (.ref b12_1)] [(.int (1 : Int32))]))
  have hc130 : ¬ ((1 : Int32) = (0 : Int32)) := by decide
  refine gs.ifNo X14.here hx (hb hby at_130) ((if0 _ _).trans (feq hc130).1) ?_
  refine gs.aload X14.here hx (hb hby at_133) rfl rfl ?_
  obtain ⟨cq19, kq19, q19a, q19b, q19c⟩ := isOf hZ12 hQ14 p12_0
  obtain ⟨_, _, ⟨T19, L19, k19, n19⟩, -, X19, ⟨rfl, hQ19, l19, y19, z19⟩, st19⟩ := X14.virtualBackUp hx (owner := "java/lang/Throwable") (x := (⟨"com/example/penelope/penelope/exception/InterceptionException", "getCause", "()Ljava/lang/Throwable;"⟩ : MethodName)) (y := Jvm.RoadKit.gcN) hown12 (mvT hZ12 (wd hw 253 rfl)) (mvT hZ12 (wd hw 254 rfl)) (mvT hZ12 (wd hw 255 rfl)) (by decide) (mvT hZ12 (wd hw 257 rfl)) (mvT hZ12 (wd hw 256 rfl)) (gcBackPure (rm := rm 0 0 0 0) (W := 0) hZ12 (wd hw 258 rfl) (wd hw 256 rfl) (wd hw 198 rfl) (wd hw 201 rfl) p12_3 p12_1 rfl (by decide) (by decide)) q19a q19c (g := (mkF m 135 #[.val (.int p1), .val (.int p2), .val (.int ka), .val (.int kb), .val (.int ca), .val (.int cb), .val (.int cc), .val (.int cd), .val (.ref b1), .val (.ref b2), .val (.ref b3), .val (.ref b12_0), .val (.ref b12_1)] [(.ref b12_0)])) rfl (by rw [hml]; rfl) (Steps.refl _) (argsL := []) (rest := []) (lenOf pd_31 rfl) rfl (by show 2 * 0 + _ ≤ _; exact Nat.le_of_eq rfl) (hb hby at_135) (fun _ _ => ⟨rfl, hQ14, (by decide : 24 + 0 ≤ _), (by decide : 3007 + 0 ≤ _)⟩)
  dsimp only [Pt.U, Pt.locs, Pt.cells, Pt.slots] at X19 hQ19 l19 y19 z19 st19
  subst l19 y19 z19
  refine Go.step (fun t_ k_ => st19.trans k_) ?_
  rw [gcv_null]
  show Go p e below _ (T19.setTop (mkF m 138 #[.val (.int p1), .val (.int p2), .val (.int ka), .val (.int kb), .val (.int ca), .val (.int cb), .val (.int cc), .val (.int cd), .val (.ref b1), .val (.ref b2), .val (.ref b3), .val (.ref b12_0), .val (.ref b12_1)] [.null]))
  refine Go.fin (fun t_ k_ => XS.ifnonnullNo X19.here hx rfl (hb hby at_138) rfl k_) ?_
  show Go p e below _ (T19.setTop (mkF m 141 _ []))
  refine gs.iconst 1 X19.here hx (hb hby at_141) rfl ?_
  refine gs.goto 146 X19.here hx (hb hby at_142) rfl ?_
  refine GoW.retZ X19 S12 (by rw [hQ19]; exact (Nat.le_refl _)) hx (t := .boolean) Bd.returns (by simp) Bd.notSynchronized (hb hby at_146) (by rw [hQ19]; exact ⟨rfl, N13⟩) (by decide) (by decide)
set_option maxRecDepth 65536 in
set_option maxHeartbeats 40000000 in
theorem comes_1 {Post : Tables → Env → Array Value → State → Outcome → State → Prop} (hpost : ∀ tb e args s v u, (limb_1_1.after args s (.returned v) u = true ∧ limb_1_2.after args s (.returned v) u = true ∧ True) → ReturnedEndW s (.returned v) u (Jvm.fieldLocs frame_1_writes args s ++ Jvm.arrayLocs frame_1_arrays args s ++ Jvm.staticLocs frame_1_statics s) 48 8000 → Post tb e args s (.returned v) u) :
    ArmFor flags0 classFile x code maxLocals ret World_1 tables_1 room_1 Calls_1 rest_1 Pre_1 Post := by
  intro l hfl _ _ p e ha hc hk s m args below hf hA hF happ hP
  obtain ⟨hcalls, hrest, hpre⟩ := hP
  obtain ⟨-, -, -, hnamed, -, -, -, hat⟩ := (Spec.applies_iff hf).mp happ
  obtain ⟨hg, hn⟩ := and_e (Cond.before_iff.mp (show (Jvm.Cond.and given_1 narrow_1).before args s = true from hpre))
  obtain ⟨hgl, hgr⟩ := and_e hg
  obtain ⟨hgrl, hgrr⟩ := and_e hgr
  obtain ⟨w0, w1, rfl⟩ : ∃ w0 w1 : Value, args = #[w0, w1] := by
    have hs : args.size = 2 := by simpa [Cond.value, given_1] using hgl
    obtain ⟨L⟩ := args
    match L, hs with
    | [w0, w1], _ => exact ⟨w0, w1, rfl⟩
  have hw := fun d (hd : d ∈ tables_1) => atoms_spec (ws := Jvm.Cond.code x code maxLocals ret :: tables_1) hat d (List.mem_cons_of_mem _ hd)
  have hfit : Fit s := fun {y c} hc i hi => by
    obtain ⟨ha, rfl⟩ := Array.getElem?_eq_some_iff.mp hc
    have q := List.all_eq_true.mp ((Array.all_eq_true_iff_forall_mem.mp hF) _ (Array.getElem_mem ha)) i (List.mem_range.mpr hi)
    simpa [Array.getElem?_eq_getElem hi] using q
  obtain ⟨hsets, hown0⟩ := atoms_of _ (rest_1_c_eq ▸ (show rest_1_c.before _ s = true from hrest))
  have hr0 := Cond.before_iff.mp hown0
  obtain ⟨i0, ei0⟩ := is_v hgrl
  obtain rfl : w0 = (.int i0) := Option.some.inj ei0
  obtain ⟨i1, ei1⟩ := is_v hgrr
  obtain rfl : w1 = (.int i1) := Option.some.inj ei1
  obtain ⟨cs_, ev_cs⟩ := is_v (Cond.before_iff.mp (hsets _ (List.mem_of_getElem? (i := 1) rfl)))
  obtain ⟨un_, ev_un, R_un⟩ := isR_v (Cond.before_iff.mp (hsets _ (List.mem_of_getElem? (i := 16) rfl)))
  obtain ⟨sn_, ev_sn, R_sn⟩ := isR_v (Cond.before_iff.mp (hsets _ (List.mem_of_getElem? (i := 21) rfl)))
  have Hc_ : CHv s EL_ s.vm s.heap := CHv.start (hEL_ hw) hcalls.2.2.1 (hsets _ (List.mem_of_getElem? (i := 2) rfl)) (wd hw 19 rfl) (wd hw 5 rfl)
  have HW : Wd s cs_ un_ sn_ := ⟨Sta.start ev_cs (Or.inl (hsets _ (List.mem_of_getElem? (i := 0) rfl))), ne_v (Cond.before_iff.mp (hsets _ (List.mem_of_getElem? (i := 2) rfl))) ev_cs, Sta.start ev_un (Or.inr ⟨(wd hw 198 rfl), (wd hw 229 rfl)⟩), R_un, Sta.start ev_sn (Or.inr ⟨(wd hw 198 rfl), (wd hw 230 rfl)⟩), R_sn⟩
  obtain ⟨n, o, h1, h2, h3, _, L, rfl, ⟨rfl, N⟩, hq⟩ := rm0 l s _ hw tables_1 cs_ un_ sn_ HW i0 i1 s.heap s.heap.size (Old.start s) (by unfold Launch.stackTraces; rw [show l.flags = pinnedFlags from hfl]; decide +kernel) p e ha hc hk s m _ below hf ((Spec.applies_iff_loose hf).mp happ).1 ⟨rfl, State.Warmed39.refl s, rfl, Hc_⟩ ⟨hcalls.1, hcalls.2.1⟩
  refine ⟨n, _, h1, h2, h3, hpost _ _ _ _ _ _ ⟨Cond.after_iff.mpr rfl, Cond.after_iff.mpr (eq_i res_at (Term.int_eval (1)) rfl), trivial⟩ ⟨hq.1, hq.2.1, hq.2.2.1, (hq.2.2.2.sift fun y hy => Or.inr (N y hy)).mono (by decide) (by decide)⟩⟩
theorem main_1_1 : Claimed_1_1 := comes_1 fun _ _ _ _ _ _ h hF => ⟨h.1, hF⟩
theorem main_1_2 : Claimed_1_2 := comes_1 fun _ _ _ _ _ _ h hF => ⟨h.2.1, hF⟩
end Jvm.Pilot.@@N@@
namespace Jvm.Pilot.@@N@@
open Jvm Jvm.ClassFile Sem Op Lib Jvm.Free Jvm.Stand Jvm.Pilot.@@N@@.Jvm.D
/-! MADE BY PROGRAM (witnessworld.py) out of the Statement's table words and the real class files: 44 classes; the members and pool entries that the words name. The judged class is class 1, her method 1. -/
namespace start1
open Jvm.ClassFile
def u (s : String) : CpInfo := .utf8 (stringToUtf16 s)
/-- a pool by its gaps: so many unusable entries, then the entry; so many at the end -/
def gap : Nat → List CpInfo → List CpInfo
  | 0, r => r
  | n + 1, r => .unusable :: gap n r
def poolList (es : List (Nat × CpInfo)) (last : Nat) : List CpInfo := es.foldr (fun e r => gap e.1 (e.2 :: r)) (gap last [])
def pool (es : List (Nat × CpInfo)) (last : Nat) : Array CpInfo := ⟨poolList es last⟩
def fileOf (pool : Array CpInfo) (this : Nat) (attrs : Array Attribute := #[]) (ms : Array MethodInfo := #[]) (fl : Nat := 33) (sup : Nat := 0) (ifs : Array Nat := #[]) (fds : Array FieldInfo := #[]) : ClassFile where
  minorVersion := 0
  majorVersion := 65
  constantPool := pool
  accessFlags := fl
  thisClass := this
  superClass := sup
  interfaces := ifs
  fields := fds
  methods := ms
  attributes := attrs
def plain (name : String) (sup : Option ClassId) : Class where
  name := name
  kind := .ordinary
  loader := none
  accessFlags := 33
  super := sup
  interfaces := #[]
  cf := none
  fields := #[]
  methods := #[]
  instanceTypes := #[]
  staticTypes := #[]
  resolved := #[]
  callSites := []
  init := .initialized
  statics := none
  mirror := none

def pool0 : Array CpInfo := pool [(5, u "<init>"), (0, u "()V"), (1, .class_ 10), (1, u "java/lang/Object")] 113

def k0c0 : Code := { maxStack := 0, maxLocals := 1, code := object_method_1_code, exceptionTable := #[], attributes := #[] }
def k0m0 : Method := { name := "<init>", desc := "()V", sig := { parameters := [], returnType := none }, accessFlags := 1, code := some k0c0 }
/-- java/lang/Object -/
def k0 : Class := { plain "java/lang/Object" none with
  accessFlags := 33
  interfaces := #[]
  cf := some (fileOf pool0 8 #[] #[{ accessFlags := 1, nameIndex := 5, descriptorIndex := 6, attributes := #[] }] 33 0 #[] #[])
  fields := #[]
  methods := #[k0m0]
  instanceTypes := #[]
  staticTypes := #[]
  resolved := Array.replicate 124 none
  statics := none }

def pool1 : Array CpInfo := pool [(2, .class_ 4), (1, u "java/lang/Object"), (0, u "<init>"), (0, u "()V"), (0, .methodref 8 9), (0, .class_ 10), (0, .nameAndType 11 12), (0, u "com/example/penelope/penelope/internal/CoverageCannotTakeEffectPinLaw"), (0, u "make"), (0, u "(ICC)Ljava/lang/String;"), (0, .methodref 8 14), (0, .nameAndType 15 16), (0, u "expected"), (0, u "(ICCICC)Ljava/lang/String;"), (0, .methodref 18 19), (0, .class_ 20), (0, .nameAndType 21 22), (0, u "com/example/penelope/penelope/internal/Coverage"), (0, u "cannotTakeEffect"), (0, u "(Ljava/lang/String;Ljava/lang/String;)Lcom/example/penelope/penelope/exception/InterceptionException;"), (0, .methodref 24 25), (0, .class_ 26), (0, .nameAndType 27 28), (0, u "com/example/penelope/penelope/exception/InterceptionException"), (0, u "getMessage"), (0, u "()Ljava/lang/String;"), (0, .methodref 30 31), (0, .class_ 32), (0, .nameAndType 33 34), (0, u "java/lang/String"), (0, u "equals"), (0, u "(Ljava/lang/Object;)Z"), (0, .methodref 24 36), (0, .nameAndType 37 38), (0, u "getCause"), (0, u "()Ljava/lang/Throwable;"), (0, .methodref 30 40), (0, .nameAndType 5 41), (0, u "([C)V"), (0, .methodref 30 43), (0, .nameAndType 44 45), (0, u "valueOf"), (0, u "(C)Ljava/lang/String;"), (2, u "law"), (0, u "(II)Z")] 5

def k1m0 : Method := { name := "<init>", desc := "()V", sig := { parameters := [], returnType := none }, accessFlags := 2, code := none }
def k1c1 : Code := { maxStack := 6, maxLocals := 13, code := code, exceptionTable := #[], attributes := #[] }
def k1m1 : Method := { name := "law", desc := "(II)Z", sig := { parameters := [.int, .int], returnType := some .boolean }, accessFlags := 9, code := some k1c1 }
def k1c2 : Code := { maxStack := 3, maxLocals := 4, code := method_3_code, exceptionTable := #[], attributes := #[] }
def k1m2 : Method := { name := "make", desc := "(ICC)Ljava/lang/String;", sig := { parameters := [.int, .char, .char], returnType := some (.object "java/lang/String") }, accessFlags := 10, code := some k1c2 }
def k1c3 : Code := { maxStack := 3, maxLocals := 9, code := method_4_code, exceptionTable := #[], attributes := #[] }
def k1m3 : Method := { name := "expected", desc := "(ICCICC)Ljava/lang/String;", sig := { parameters := [.int, .char, .char, .int, .char, .char], returnType := some (.object "java/lang/String") }, accessFlags := 10, code := some k1c3 }
/-- com/example/penelope/penelope/internal/CoverageCannotTakeEffectPinLaw -/
def k1 : Class := { plain "com/example/penelope/penelope/internal/CoverageCannotTakeEffectPinLaw" (some 0) with
  accessFlags := 49
  interfaces := #[]
  cf := some (fileOf pool1 8 #[] #[{ accessFlags := 2, nameIndex := 5, descriptorIndex := 6, attributes := #[] }, { accessFlags := 9, nameIndex := 48, descriptorIndex := 49, attributes := #[] }, { accessFlags := 10, nameIndex := 11, descriptorIndex := 12, attributes := #[] }, { accessFlags := 10, nameIndex := 15, descriptorIndex := 16, attributes := #[] }] 49 2 #[] #[])
  fields := #[]
  methods := #[k1m0, k1m1, k1m2, k1m3]
  instanceTypes := #[]
  staticTypes := #[]
  resolved := Array.replicate 55 none
  statics := none }

def pool2 : Array CpInfo := pool [(1, .class_ 2), (0, u "java/io/Serializable"), (0, .class_ 4), (0, u "java/lang/Object")] 2

/-- java/io/Serializable -/
def k2 : Class := { plain "java/io/Serializable" (some 0) with
  accessFlags := 1537
  interfaces := #[]
  cf := some (fileOf pool2 1 #[] #[] 1537 3 #[] #[])
  fields := #[]
  methods := #[]
  instanceTypes := #[]
  staticTypes := #[]
  resolved := Array.replicate 7 none
  statics := none }

def pool3 : Array CpInfo := pool [(1, .class_ 2), (0, u "java/lang/Comparable"), (0, .class_ 4), (0, u "java/lang/Object")] 7

/-- java/lang/Comparable -/
def k3 : Class := { plain "java/lang/Comparable" (some 0) with
  accessFlags := 1537
  interfaces := #[]
  cf := some (fileOf pool3 1 #[] #[] 1537 3 #[] #[])
  fields := #[]
  methods := #[]
  instanceTypes := #[]
  staticTypes := #[]
  resolved := Array.replicate 12 none
  statics := none }

def pool4 : Array CpInfo := pool [(2, .class_ 4), (1, u "java/lang/CharSequence"), (42, .class_ 48), (0, u "java/lang/CharSequence$1CodePointIterator"), (10, .class_ 60), (0, u "java/lang/CharSequence$1CharIterator"), (5, .class_ 67), (0, u "java/lang/Object")] 63

/-- java/lang/CharSequence -/
def k4 : Class := { plain "java/lang/CharSequence" (some 0) with
  accessFlags := 1537
  interfaces := #[]
  cf := some (fileOf pool4 2 #[.nestMembers #[47, 59]] #[] 1537 66 #[] #[])
  fields := #[]
  methods := #[]
  instanceTypes := #[]
  staticTypes := #[]
  resolved := Array.replicate 131 none
  statics := none }

def pool5 : Array CpInfo := pool [(1, .class_ 2), (0, u "java/lang/constant/Constable"), (0, .class_ 4), (0, u "java/lang/Object")] 6

/-- java/lang/constant/Constable -/
def k5 : Class := { plain "java/lang/constant/Constable" (some 0) with
  accessFlags := 1537
  interfaces := #[]
  cf := some (fileOf pool5 1 #[] #[] 1537 3 #[] #[])
  fields := #[]
  methods := #[]
  instanceTypes := #[]
  staticTypes := #[]
  resolved := Array.replicate 11 none
  statics := none }

def pool6 : Array CpInfo := pool [(1, .class_ 2), (0, u "java/lang/constant/ConstantDesc"), (0, .class_ 4), (0, u "java/lang/Object")] 32

/-- java/lang/constant/ConstantDesc -/
def k6 : Class := { plain "java/lang/constant/ConstantDesc" (some 0) with
  accessFlags := 1537
  interfaces := #[]
  cf := some (fileOf pool6 1 #[] #[] 1537 3 #[] #[])
  fields := #[]
  methods := #[]
  instanceTypes := #[]
  staticTypes := #[]
  resolved := Array.replicate 37 none
  statics := none }

def pool7 : Array CpInfo := pool [(1, .methodref 2 3), (0, .class_ 4), (0, .nameAndType 5 6), (0, u "java/lang/Object"), (0, u "<init>"), (0, u "()V"), (0, .string 8), (0, u ""), (0, .fieldref 10 11), (0, .class_ 12), (0, .nameAndType 13 14), (0, u "java/lang/String"), (0, u "value"), (0, u "[B"), (0, .fieldref 10 16), (0, .nameAndType 17 18), (0, u "coder"), (0, u "B"), (2, u "hash"), (0, u "I"), (2, u "hashIsZero"), (0, u "Z"), (0, .methodref 10 28), (0, .nameAndType 5 29), (0, u "([CIILjava/lang/Void;)V"), (8, .fieldref 10 39), (0, .nameAndType 40 26), (0, u "COMPACT_STRINGS"), (1, .class_ 44), (1, u "java/lang/StringUTF16"), (0, u "compress"), (1, .methodref 42 48), (0, .nameAndType 49 50), (0, u "coderFromArrayLen"), (0, u "([BI)B"), (2, u "toBytes"), (0, .methodref 55 56), (0, .class_ 57), (0, .nameAndType 58 59), (0, u "java/util/Arrays"), (0, u "copyOfRange"), (0, u "([BII)[B"), (47, .class_ 109), (1, u "java/lang/StringLatin1"), (32, u "()Z"), (34, .methodref 42 178), (0, .nameAndType 45 179), (0, u "([CII)[B"), (13, .class_ 195), (1, u "java/lang/System"), (13, .methodref 10 210), (0, .nameAndType 5 211), (0, u "([BB)V"), (0, .methodref 193 213), (0, .nameAndType 214 215), (0, u "arraycopy"), (0, u "(Ljava/lang/Object;ILjava/lang/Object;II)V"), (118, u "()I"), (0, .methodref 10 336), (0, .nameAndType 17 337), (0, u "()B"), (2, u "()[B"), (28, u "(C)Z"), (119, .methodref 10 490), (0, .nameAndType 5 491), (0, u "(Ljava/lang/AbstractStringBuilder;Ljava/lang/Void;)V"), (1, .nameAndType 494 142), (0, u "isLatin1"), (11, .nameAndType 507 334), (0, u "length"), (24, u "getBytes"), (8, .methodref 107 542), (0, .nameAndType 543 544), (0, u "equals"), (0, u "([B[B)Z"), (4, .methodref 550 506), (0, .class_ 551), (0, u "java/lang/AbstractStringBuilder"), (0, .methodref 550 553), (0, .nameAndType 554 340), (0, u "getValue"), (18, u "(Ljava/lang/Object;)Z"), (1, .class_ 576), (0, u "java/lang/CharSequence"), (22, u "CASE_INSENSITIVE_ORDER"), (0, u "Ljava/util/Comparator;"), (181, u "valueOf"), (0, u "(C)Ljava/lang/String;"), (37, u "([BIB)V"), (188, u "([C)V"), (4, .methodref 107 1016), (0, .nameAndType 1017 369), (0, u "canEncode"), (0, .methodref 107 1019), (0, .nameAndType 53 1020), (0, u "(C)[B"), (26, .methodref 550 493), (53, u "serialPersistentFields"), (0, u "[Ljava/io/ObjectStreamField;"), (0, .class_ 1104), (0, u "java/lang/String$CaseInsensitiveComparator"), (1, .class_ 1107), (0, u "java/io/Serializable"), (0, .class_ 1109), (0, u "java/lang/Comparable"), (0, .class_ 1111), (0, u "java/lang/constant/Constable"), (0, .class_ 1113), (0, u "java/lang/constant/ConstantDesc"), (2, u "serialVersionUID"), (0, u "J"), (3, u "REPL"), (0, u "C"), (2, u "LATIN1"), (1, u "UTF16"), (105, u "(Ljava/lang/StringBuilder;)V")] 217

def k7m0 : Method := { name := "<init>", desc := "()V", sig := { parameters := [], returnType := none }, accessFlags := 1, code := none }
def k7c1 : Code := { maxStack := 5, maxLocals := 2, code := jdk_42_method_3_code, exceptionTable := #[], attributes := #[] }
def k7m1 : Method := { name := "<init>", desc := "([C)V", sig := { parameters := [(.array .char)], returnType := none }, accessFlags := 1, code := some k7c1 }
def k7c2 : Code := { maxStack := 3, maxLocals := 2, code := jdk_42_method_53_code, exceptionTable := #[], attributes := #[] }
def k7m2 : Method := { name := "<init>", desc := "(Ljava/lang/StringBuilder;)V", sig := { parameters := [(.object "java/lang/StringBuilder")], returnType := none }, accessFlags := 1, code := some k7c2 }
def k7c3 : Code := { maxStack := 2, maxLocals := 1, code := jdk_42_method_54_code, exceptionTable := #[], attributes := #[] }
def k7m3 : Method := { name := "length", desc := "()I", sig := { parameters := [], returnType := some .int }, accessFlags := 1, code := some k7c3 }
def k7c4 : Code := { maxStack := 2, maxLocals := 3, code := jdk_42_method_66_code, exceptionTable := #[], attributes := #[] }
def k7m4 : Method := { name := "equals", desc := "(Ljava/lang/Object;)Z", sig := { parameters := [(.object "java/lang/Object")], returnType := some .boolean }, accessFlags := 1, code := some k7c4 }
def k7c5 : Code := { maxStack := 4, maxLocals := 1, code := jdk_42_method_139_code, exceptionTable := #[], attributes := #[] }
def k7m5 : Method := { name := "valueOf", desc := "(C)Ljava/lang/String;", sig := { parameters := [.char], returnType := some (.object "java/lang/String") }, accessFlags := 9, code := some k7c5 }
def k7c6 : Code := { maxStack := 5, maxLocals := 4, code := jdk_42_method_147_code, exceptionTable := #[], attributes := #[] }
def k7m6 : Method := { name := "getBytes", desc := "([BIB)V", sig := { parameters := [(.array .byte), .int, .byte], returnType := none }, accessFlags := 0, code := some k7c6 }
def k7c7 : Code := { maxStack := 4, maxLocals := 6, code := jdk_42_method_149_code, exceptionTable := #[], attributes := #[] }
def k7m7 : Method := { name := "<init>", desc := "([CIILjava/lang/Void;)V", sig := { parameters := [(.array .char), .int, .int, (.object "java/lang/Void")], returnType := none }, accessFlags := 2, code := some k7c7 }
def k7c8 : Code := { maxStack := 5, maxLocals := 5, code := jdk_42_method_150_code, exceptionTable := #[], attributes := #[] }
def k7m8 : Method := { name := "<init>", desc := "(Ljava/lang/AbstractStringBuilder;Ljava/lang/Void;)V", sig := { parameters := [(.object "java/lang/AbstractStringBuilder"), (.object "java/lang/Void")], returnType := none }, accessFlags := 0, code := some k7c8 }
def k7c9 : Code := { maxStack := 2, maxLocals := 3, code := jdk_42_method_151_code, exceptionTable := #[], attributes := #[] }
def k7m9 : Method := { name := "<init>", desc := "([BB)V", sig := { parameters := [(.array .byte), .byte], returnType := none }, accessFlags := 0, code := some k7c9 }
def k7c10 : Code := { maxStack := 1, maxLocals := 1, code := jdk_42_method_152_code, exceptionTable := #[], attributes := #[] }
def k7m10 : Method := { name := "coder", desc := "()B", sig := { parameters := [], returnType := some .byte }, accessFlags := 0, code := some k7c10 }
/-- java/lang/String -/
def k7 : Class := { plain "java/lang/String" (some 0) with
  accessFlags := 49
  interfaces := #[2, 3, 4, 5, 6]
  cf := some (fileOf pool7 10 #[.nestMembers #[1103]] #[{ accessFlags := 1, nameIndex := 5, descriptorIndex := 6, attributes := #[] }, { accessFlags := 1, nameIndex := 5, descriptorIndex := 1010, attributes := #[] }, { accessFlags := 1, nameIndex := 5, descriptorIndex := 1233, attributes := #[] }, { accessFlags := 1, nameIndex := 507, descriptorIndex := 334, attributes := #[] }, { accessFlags := 1, nameIndex := 543, descriptorIndex := 573, attributes := #[] }, { accessFlags := 9, nameIndex := 782, descriptorIndex := 783, attributes := #[] }, { accessFlags := 0, nameIndex := 532, descriptorIndex := 821, attributes := #[] }, { accessFlags := 2, nameIndex := 5, descriptorIndex := 29, attributes := #[] }, { accessFlags := 0, nameIndex := 5, descriptorIndex := 491, attributes := #[] }, { accessFlags := 0, nameIndex := 5, descriptorIndex := 211, attributes := #[] }, { accessFlags := 0, nameIndex := 17, descriptorIndex := 337, attributes := #[] }] 49 2 #[1106, 1108, 575, 1110, 1112] #[{ accessFlags := 18, nameIndex := 13, descriptorIndex := 14, attributes := #[] }, { accessFlags := 18, nameIndex := 17, descriptorIndex := 18, attributes := #[] }, { accessFlags := 2, nameIndex := 21, descriptorIndex := 22, attributes := #[] }, { accessFlags := 2, nameIndex := 25, descriptorIndex := 26, attributes := #[] }, { accessFlags := 26, nameIndex := 1116, descriptorIndex := 1117, attributes := #[] }, { accessFlags := 24, nameIndex := 40, descriptorIndex := 26, attributes := #[] }, { accessFlags := 26, nameIndex := 1101, descriptorIndex := 1102, attributes := #[] }, { accessFlags := 26, nameIndex := 1121, descriptorIndex := 1122, attributes := #[] }, { accessFlags := 25, nameIndex := 599, descriptorIndex := 600, attributes := #[] }, { accessFlags := 24, nameIndex := 1125, descriptorIndex := 18, attributes := #[] }, { accessFlags := 24, nameIndex := 1127, descriptorIndex := 18, attributes := #[] }])
  fields := #[{ name := "value", type := (.array .byte), accessFlags := 18, slot := 0, constantValue := 0 }, { name := "coder", type := .byte, accessFlags := 18, slot := 1, constantValue := 0 }, { name := "hash", type := .int, accessFlags := 2, slot := 2, constantValue := 0 }, { name := "hashIsZero", type := .boolean, accessFlags := 2, slot := 3, constantValue := 0 }, { name := "serialVersionUID", type := .long, accessFlags := 26, slot := 0, constantValue := 0 }, { name := "COMPACT_STRINGS", type := .boolean, accessFlags := 24, slot := 1, constantValue := 0 }, { name := "serialPersistentFields", type := (.array (.object "java/io/ObjectStreamField")), accessFlags := 26, slot := 2, constantValue := 0 }, { name := "REPL", type := .char, accessFlags := 26, slot := 3, constantValue := 0 }, { name := "CASE_INSENSITIVE_ORDER", type := (.object "java/util/Comparator"), accessFlags := 25, slot := 4, constantValue := 0 }, { name := "LATIN1", type := .byte, accessFlags := 24, slot := 5, constantValue := 0 }, { name := "UTF16", type := .byte, accessFlags := 24, slot := 6, constantValue := 0 }]
  methods := #[k7m0, k7m1, k7m2, k7m3, k7m4, k7m5, k7m6, k7m7, k7m8, k7m9, k7m10]
  instanceTypes := #[(.array .byte), .byte, .int, .boolean]
  staticTypes := #[.long, .boolean, (.array (.object "java/io/ObjectStreamField")), .char, (.object "java/util/Comparator"), .byte, .byte]
  resolved := Array.replicate 1451 none
  statics := some 0 }

def pool8 : Array CpInfo := pool [(6, .class_ 8), (1, u "java/lang/Object"), (0, u "<init>"), (0, u "()V"), (1, .class_ 14), (1, u "java/lang/StringUTF16"), (31, u "$assertionsDisabled"), (0, u "Z"), (13, u "HI_BYTE_SHIFT"), (0, u "I"), (2, u "LO_BYTE_SHIFT"), (49, .methodref 12 116), (0, .nameAndType 117 118), (0, u "compress"), (0, u "([CI[BII)I"), (3, u "([CII)[B"), (138, u "coderFromArrayLen"), (0, u "([BI)B"), (106, .class_ 371), (1, u "java/lang/StringUTF16$LinesSpliterator"), (58, u "MAX_LENGTH"), (196, .class_ 628), (0, u "java/lang/StringUTF16$CodePointsSpliterator"), (0, .class_ 630), (0, u "java/lang/StringUTF16$CharsSpliterator")] 4

def k8m0 : Method := { name := "<init>", desc := "()V", sig := { parameters := [], returnType := none }, accessFlags := 0, code := none }
def k8c1 : Code := { maxStack := 2, maxLocals := 2, code := jdk_52_method_15_code, exceptionTable := #[], attributes := #[] }
def k8m1 : Method := { name := "coderFromArrayLen", desc := "([BI)B", sig := { parameters := [(.array .byte), .int], returnType := some .byte }, accessFlags := 8, code := some k8c1 }
def k8c2 : Code := { maxStack := 5, maxLocals := 6, code := jdk_52_method_16_code, exceptionTable := #[], attributes := #[] }
def k8m2 : Method := { name := "compress", desc := "([CII)[B", sig := { parameters := [(.array .char), .int, .int], returnType := some (.array .byte) }, accessFlags := 9, code := some k8c2 }
def k8c3 : Code := { maxStack := 3, maxLocals := 7, code := jdk_52_method_21_code, exceptionTable := #[], attributes := #[] }
def k8m3 : Method := { name := "compress", desc := "([CI[BII)I", sig := { parameters := [(.array .char), .int, (.array .byte), .int, .int], returnType := some .int }, accessFlags := 9, code := some k8c3 }
/-- java/lang/StringUTF16 -/
def k8 : Class := { plain "java/lang/StringUTF16" (some 0) with
  accessFlags := 48
  interfaces := #[]
  cf := some (fileOf pool8 12 #[.nestMembers #[627, 629, 369]] #[{ accessFlags := 0, nameIndex := 9, descriptorIndex := 10, attributes := #[] }, { accessFlags := 8, nameIndex := 261, descriptorIndex := 262, attributes := #[] }, { accessFlags := 9, nameIndex := 117, descriptorIndex := 122, attributes := #[] }, { accessFlags := 9, nameIndex := 117, descriptorIndex := 118, attributes := #[] }] 48 6 #[] #[{ accessFlags := 26, nameIndex := 61, descriptorIndex := 62, attributes := #[] }, { accessFlags := 26, nameIndex := 65, descriptorIndex := 62, attributes := #[] }, { accessFlags := 24, nameIndex := 430, descriptorIndex := 62, attributes := #[] }, { accessFlags := 4120, nameIndex := 46, descriptorIndex := 47, attributes := #[] }])
  fields := #[{ name := "HI_BYTE_SHIFT", type := .int, accessFlags := 26, slot := 0, constantValue := 0 }, { name := "LO_BYTE_SHIFT", type := .int, accessFlags := 26, slot := 1, constantValue := 0 }, { name := "MAX_LENGTH", type := .int, accessFlags := 24, slot := 2, constantValue := 0 }, { name := "$assertionsDisabled", type := .boolean, accessFlags := 4120, slot := 3, constantValue := 0 }]
  methods := #[k8m0, k8m1, k8m2, k8m3]
  instanceTypes := #[]
  staticTypes := #[.int, .int, .int, .boolean]
  resolved := Array.replicate 635 none
  statics := none }

def pool9 : Array CpInfo := pool [(2, .class_ 4), (0, .nameAndType 5 6), (0, u "java/lang/Object"), (0, u "<init>"), (0, u "()V"), (13, .class_ 22), (1, u "com/example/penelope/penelope/internal/Coverage"), (27, u "()Ljava/lang/String;"), (2, u "cannotTakeEffect"), (0, u "(Ljava/lang/String;Ljava/lang/String;)Lcom/example/penelope/penelope/exception/InterceptionException;"), (47, .class_ 103), (0, u "com/example/penelope/penelope/exception/InterceptionException"), (0, .class_ 105), (0, u "java/lang/StringBuilder"), (0, .methodref 104 3), (0, .methodref 104 108), (0, .nameAndType 109 110), (0, u "append"), (0, u "(Ljava/lang/String;)Ljava/lang/StringBuilder;"), (0, .string 112), (0, u " cannot take effect: "), (0, .methodref 104 114), (0, .nameAndType 115 50), (0, u "toString"), (0, .methodref 102 117), (0, .nameAndType 5 118), (0, u "(Ljava/lang/String;)V"), (13, u "ANNOTATION_ON"), (0, u "Ljava/lang/String;")] 21

def k9m0 : Method := { name := "<init>", desc := "()V", sig := { parameters := [], returnType := none }, accessFlags := 2, code := none }
def k9c1 : Code := { maxStack := 4, maxLocals := 2, code := prog_13_method_8_code, exceptionTable := #[], attributes := #[] }
def k9m1 : Method := { name := "cannotTakeEffect", desc := "(Ljava/lang/String;Ljava/lang/String;)Lcom/example/penelope/penelope/exception/InterceptionException;", sig := { parameters := [(.object "java/lang/String"), (.object "java/lang/String")], returnType := some (.object "com/example/penelope/penelope/exception/InterceptionException") }, accessFlags := 8, code := some k9c1 }
/-- com/example/penelope/penelope/internal/Coverage -/
def k9 : Class := { plain "com/example/penelope/penelope/internal/Coverage" (some 0) with
  accessFlags := 48
  interfaces := #[]
  cf := some (fileOf pool9 20 #[] #[{ accessFlags := 2, nameIndex := 5, descriptorIndex := 6, attributes := #[] }, { accessFlags := 8, nameIndex := 53, descriptorIndex := 54, attributes := #[] }] 48 2 #[] #[{ accessFlags := 26, nameIndex := 132, descriptorIndex := 133, attributes := #[] }])
  fields := #[{ name := "ANNOTATION_ON", type := (.object "java/lang/String"), accessFlags := 26, slot := 0, constantValue := 0 }]
  methods := #[k9m0, k9m1]
  instanceTypes := #[]
  staticTypes := #[(.object "java/lang/String")]
  resolved := Array.replicate 155 none
  statics := none }

def pool10 : Array CpInfo := pool [(1, .methodref 2 3), (0, .class_ 4), (0, .nameAndType 5 6), (0, u "java/lang/Object"), (0, u "<init>"), (0, u "()V"), (0, .fieldref 8 9), (0, .class_ 10), (0, .nameAndType 11 12), (0, u "java/lang/Throwable"), (0, u "cause"), (0, u "Ljava/lang/Throwable;"), (0, .fieldref 8 14), (0, .nameAndType 15 16), (0, u "UNASSIGNED_STACK"), (0, u "[Ljava/lang/StackTraceElement;"), (0, .fieldref 8 18), (0, .nameAndType 19 16), (0, u "stackTrace"), (0, .fieldref 8 21), (0, .nameAndType 22 23), (0, u "SUPPRESSED_SENTINEL"), (0, u "Ljava/util/List;"), (0, .fieldref 8 25), (0, .nameAndType 26 23), (0, u "suppressedExceptions"), (0, .methodref 8 28), (0, .nameAndType 29 30), (0, u "fillInStackTrace"), (0, u "()Ljava/lang/Throwable;"), (0, .fieldref 8 32), (0, .nameAndType 33 34), (0, u "detailMessage"), (0, u "Ljava/lang/String;"), (3, u "()Ljava/lang/String;"), (2, u "getMessage"), (21, u "(Ljava/lang/String;Ljava/lang/Throwable;)V"), (29, .class_ 94), (0, u "java/lang/Throwable$WrappedPrintStream"), (6, .class_ 103), (1, u "java/lang/Throwable$PrintStreamOrWriter"), (54, u "getCause"), (6, u "$assertionsDisabled"), (0, u "Z"), (26, .class_ 194), (0, u "java/lang/Throwable$WrappedPrintWriter"), (3, .fieldref 8 199), (0, .nameAndType 200 201), (0, u "backtrace"), (0, u "Ljava/lang/Object;"), (0, .methodref 8 203), (0, .nameAndType 29 204), (0, u "(I)Ljava/lang/Throwable;"), (6, u "depth"), (0, u "I"), (56, .class_ 271), (1, u "java/lang/Throwable$SentinelHolder"), (32, u "EMPTY_THROWABLE_ARRAY"), (0, u "[Ljava/lang/Throwable;"), (12, .class_ 319), (0, u "java/io/Serializable"), (0, u "serialVersionUID"), (0, u "J"), (5, u "NULL_CAUSE_MESSAGE"), (0, u "SELF_SUPPRESSION_MESSAGE"), (0, u "CAUSE_CAPTION"), (0, u "SUPPRESSED_CAPTION")] 73

def k10c0 : Code := { maxStack := 2, maxLocals := 1, code := jdk_78_method_1_code, exceptionTable := #[], attributes := #[] }
def k10m0 : Method := { name := "<init>", desc := "()V", sig := { parameters := [], returnType := none }, accessFlags := 1, code := some k10c0 }
def k10c1 : Code := { maxStack := 2, maxLocals := 3, code := jdk_78_method_3_code, exceptionTable := #[], attributes := #[] }
def k10m1 : Method := { name := "<init>", desc := "(Ljava/lang/String;Ljava/lang/Throwable;)V", sig := { parameters := [(.object "java/lang/String"), (.object "java/lang/Throwable")], returnType := none }, accessFlags := 1, code := some k10c1 }
def k10c2 : Code := { maxStack := 1, maxLocals := 1, code := jdk_78_method_6_code, exceptionTable := #[], attributes := #[] }
def k10m2 : Method := { name := "getMessage", desc := "()Ljava/lang/String;", sig := { parameters := [], returnType := some (.object "java/lang/String") }, accessFlags := 1, code := some k10c2 }
def k10c3 : Code := { maxStack := 2, maxLocals := 1, code := ⟨#[0x2a, 0xb4, 0x00, 0x07, 0x2a, 0xa6, 0x00, 0x07, 0x01, 0xa7, 0x00, 0x07, 0x2a, 0xb4, 0x00, 0x07, 0xb0]⟩, exceptionTable := #[], attributes := #[] }
def k10m3 : Method := { name := "getCause", desc := "()Ljava/lang/Throwable;", sig := { parameters := [], returnType := some (.object "java/lang/Throwable") }, accessFlags := 33, code := some k10c3 }
def k10c4 : Code := { maxStack := 2, maxLocals := 1, code := ⟨#[0x2a, 0xb4, 0x00, 0x11, 0xc7, 0x00, 0x0a, 0x2a, 0xb4, 0x00, 0xc6, 0xc6, 0x00, 0x10, 0x2a, 0x03, 0xb6, 0x00, 0xca, 0x57, 0x2a, 0xb2, 0x00, 0x0d, 0xb5, 0x00, 0x11, 0x2a, 0xb0]⟩, exceptionTable := #[], attributes := #[] }
def k10m4 : Method := { name := "fillInStackTrace", desc := "()Ljava/lang/Throwable;", sig := { parameters := [], returnType := some (.object "java/lang/Throwable") }, accessFlags := 33, code := some k10c4 }
def k10m5 : Method := { name := "fillInStackTrace", desc := "(I)Ljava/lang/Throwable;", sig := { parameters := [.int], returnType := some (.object "java/lang/Throwable") }, accessFlags := 258, code := none }
/-- java/lang/Throwable -/
def k10 : Class := { plain "java/lang/Throwable" (some 0) with
  accessFlags := 33
  interfaces := #[2]
  cf := some (fileOf pool10 8 #[.nestMembers #[193, 93, 101, 269]] #[{ accessFlags := 1, nameIndex := 5, descriptorIndex := 6, attributes := #[] }, { accessFlags := 1, nameIndex := 5, descriptorIndex := 63, attributes := #[] }, { accessFlags := 1, nameIndex := 41, descriptorIndex := 38, attributes := #[] }, { accessFlags := 33, nameIndex := 158, descriptorIndex := 30, attributes := #[] }, { accessFlags := 33, nameIndex := 29, descriptorIndex := 30, attributes := #[] }, { accessFlags := 258, nameIndex := 29, descriptorIndex := 204, attributes := #[] }] 33 2 #[318] #[{ accessFlags := 26, nameIndex := 320, descriptorIndex := 321, attributes := #[] }, { accessFlags := 130, nameIndex := 200, descriptorIndex := 201, attributes := #[] }, { accessFlags := 2, nameIndex := 33, descriptorIndex := 34, attributes := #[] }, { accessFlags := 26, nameIndex := 15, descriptorIndex := 16, attributes := #[] }, { accessFlags := 2, nameIndex := 11, descriptorIndex := 12, attributes := #[] }, { accessFlags := 2, nameIndex := 19, descriptorIndex := 16, attributes := #[] }, { accessFlags := 130, nameIndex := 211, descriptorIndex := 212, attributes := #[] }, { accessFlags := 26, nameIndex := 22, descriptorIndex := 23, attributes := #[] }, { accessFlags := 2, nameIndex := 26, descriptorIndex := 23, attributes := #[] }, { accessFlags := 26, nameIndex := 327, descriptorIndex := 34, attributes := #[] }, { accessFlags := 26, nameIndex := 328, descriptorIndex := 34, attributes := #[] }, { accessFlags := 26, nameIndex := 329, descriptorIndex := 34, attributes := #[] }, { accessFlags := 26, nameIndex := 330, descriptorIndex := 34, attributes := #[] }, { accessFlags := 26, nameIndex := 304, descriptorIndex := 305, attributes := #[] }, { accessFlags := 4120, nameIndex := 165, descriptorIndex := 166, attributes := #[] }])
  fields := #[{ name := "serialVersionUID", type := .long, accessFlags := 26, slot := 0, constantValue := 0 }, { name := "backtrace", type := (.object "java/lang/Object"), accessFlags := 130, slot := 0, constantValue := 0 }, { name := "detailMessage", type := (.object "java/lang/String"), accessFlags := 2, slot := 1, constantValue := 0 }, { name := "UNASSIGNED_STACK", type := (.array (.object "java/lang/StackTraceElement")), accessFlags := 26, slot := 1, constantValue := 0 }, { name := "cause", type := (.object "java/lang/Throwable"), accessFlags := 2, slot := 2, constantValue := 0 }, { name := "stackTrace", type := (.array (.object "java/lang/StackTraceElement")), accessFlags := 2, slot := 3, constantValue := 0 }, { name := "depth", type := .int, accessFlags := 130, slot := 4, constantValue := 0 }, { name := "SUPPRESSED_SENTINEL", type := (.object "java/util/List"), accessFlags := 26, slot := 2, constantValue := 0 }, { name := "suppressedExceptions", type := (.object "java/util/List"), accessFlags := 2, slot := 5, constantValue := 0 }, { name := "NULL_CAUSE_MESSAGE", type := (.object "java/lang/String"), accessFlags := 26, slot := 3, constantValue := 0 }, { name := "SELF_SUPPRESSION_MESSAGE", type := (.object "java/lang/String"), accessFlags := 26, slot := 4, constantValue := 0 }, { name := "CAUSE_CAPTION", type := (.object "java/lang/String"), accessFlags := 26, slot := 5, constantValue := 0 }, { name := "SUPPRESSED_CAPTION", type := (.object "java/lang/String"), accessFlags := 26, slot := 6, constantValue := 0 }, { name := "EMPTY_THROWABLE_ARRAY", type := (.array (.object "java/lang/Throwable")), accessFlags := 26, slot := 7, constantValue := 0 }, { name := "$assertionsDisabled", type := .boolean, accessFlags := 4120, slot := 8, constantValue := 0 }]
  methods := #[k10m0, k10m1, k10m2, k10m3, k10m4, k10m5]
  instanceTypes := #[(.object "java/lang/Object"), (.object "java/lang/String"), (.object "java/lang/Throwable"), (.array (.object "java/lang/StackTraceElement")), .int, (.object "java/util/List")]
  staticTypes := #[.long, (.array (.object "java/lang/StackTraceElement")), (.object "java/util/List"), (.object "java/lang/String"), (.object "java/lang/String"), (.object "java/lang/String"), (.object "java/lang/String"), (.array (.object "java/lang/Throwable")), .boolean]
  resolved := Array.replicate 404 none
  statics := some 1 }

def pool11 : Array CpInfo := pool [(2, .class_ 4), (1, u "java/lang/Throwable"), (0, u "<init>"), (0, u "()V"), (3, .methodref 2 11), (0, .nameAndType 5 12), (0, u "(Ljava/lang/String;Ljava/lang/Throwable;)V"), (6, .class_ 20), (0, u "java/lang/Exception"), (0, u "serialVersionUID"), (0, u "J")] 17

def k11m0 : Method := { name := "<init>", desc := "()V", sig := { parameters := [], returnType := none }, accessFlags := 1, code := none }
def k11c1 : Code := { maxStack := 3, maxLocals := 3, code := jdk_59_method_3_code, exceptionTable := #[], attributes := #[] }
def k11m1 : Method := { name := "<init>", desc := "(Ljava/lang/String;Ljava/lang/Throwable;)V", sig := { parameters := [(.object "java/lang/String"), (.object "java/lang/Throwable")], returnType := none }, accessFlags := 1, code := some k11c1 }
/-- java/lang/Exception -/
def k11 : Class := { plain "java/lang/Exception" (some 10) with
  accessFlags := 33
  interfaces := #[]
  cf := some (fileOf pool11 19 #[] #[{ accessFlags := 1, nameIndex := 5, descriptorIndex := 6, attributes := #[] }, { accessFlags := 1, nameIndex := 5, descriptorIndex := 12, attributes := #[] }] 33 2 #[] #[{ accessFlags := 24, nameIndex := 21, descriptorIndex := 22, attributes := #[] }])
  fields := #[{ name := "serialVersionUID", type := .long, accessFlags := 24, slot := 0, constantValue := 0 }]
  methods := #[k11m0, k11m1]
  instanceTypes := #[(.object "java/lang/Object"), (.object "java/lang/String"), (.object "java/lang/Throwable"), (.array (.object "java/lang/StackTraceElement")), .int, (.object "java/util/List")]
  staticTypes := #[.long]
  resolved := Array.replicate 40 none
  statics := none }

def pool12 : Array CpInfo := pool [(2, .class_ 4), (1, u "java/lang/Exception"), (0, u "<init>"), (0, u "()V"), (3, .methodref 2 11), (0, .nameAndType 5 12), (0, u "(Ljava/lang/String;Ljava/lang/Throwable;)V"), (6, .class_ 20), (0, u "java/lang/RuntimeException"), (0, u "serialVersionUID"), (0, u "J")] 17

def k12m0 : Method := { name := "<init>", desc := "()V", sig := { parameters := [], returnType := none }, accessFlags := 1, code := none }
def k12c1 : Code := { maxStack := 3, maxLocals := 3, code := jdk_58_method_3_code, exceptionTable := #[], attributes := #[] }
def k12m1 : Method := { name := "<init>", desc := "(Ljava/lang/String;Ljava/lang/Throwable;)V", sig := { parameters := [(.object "java/lang/String"), (.object "java/lang/Throwable")], returnType := none }, accessFlags := 1, code := some k12c1 }
/-- java/lang/RuntimeException -/
def k12 : Class := { plain "java/lang/RuntimeException" (some 11) with
  accessFlags := 33
  interfaces := #[]
  cf := some (fileOf pool12 19 #[] #[{ accessFlags := 1, nameIndex := 5, descriptorIndex := 6, attributes := #[] }, { accessFlags := 1, nameIndex := 5, descriptorIndex := 12, attributes := #[] }] 33 2 #[] #[{ accessFlags := 24, nameIndex := 21, descriptorIndex := 22, attributes := #[] }])
  fields := #[{ name := "serialVersionUID", type := .long, accessFlags := 24, slot := 0, constantValue := 0 }]
  methods := #[k12m0, k12m1]
  instanceTypes := #[(.object "java/lang/Object"), (.object "java/lang/String"), (.object "java/lang/Throwable"), (.array (.object "java/lang/StackTraceElement")), .int, (.object "java/util/List")]
  staticTypes := #[.long]
  resolved := Array.replicate 40 none
  statics := none }

def pool13 : Array CpInfo := pool [(1, .methodref 2 3), (0, .class_ 4), (0, .nameAndType 5 6), (0, u "java/lang/RuntimeException"), (0, u "<init>"), (0, u "(Ljava/lang/String;Ljava/lang/Throwable;)V"), (0, .class_ 8), (0, u "com/example/penelope/penelope/exception/TransactionException"), (0, u "serialVersionUID"), (0, u "J")] 7

def k13c0 : Code := { maxStack := 3, maxLocals := 3, code := prog_10_method_1_code, exceptionTable := #[], attributes := #[] }
def k13m0 : Method := { name := "<init>", desc := "(Ljava/lang/String;Ljava/lang/Throwable;)V", sig := { parameters := [(.object "java/lang/String"), (.object "java/lang/Throwable")], returnType := none }, accessFlags := 1, code := some k13c0 }
/-- com/example/penelope/penelope/exception/TransactionException -/
def k13 : Class := { plain "com/example/penelope/penelope/exception/TransactionException" (some 12) with
  accessFlags := 33
  interfaces := #[]
  cf := some (fileOf pool13 7 #[] #[{ accessFlags := 1, nameIndex := 5, descriptorIndex := 6, attributes := #[] }] 33 2 #[] #[{ accessFlags := 26, nameIndex := 9, descriptorIndex := 10, attributes := #[] }])
  fields := #[{ name := "serialVersionUID", type := .long, accessFlags := 26, slot := 0, constantValue := 0 }]
  methods := #[k13m0]
  instanceTypes := #[(.object "java/lang/Object"), (.object "java/lang/String"), (.object "java/lang/Throwable"), (.array (.object "java/lang/StackTraceElement")), .int, (.object "java/util/List")]
  staticTypes := #[.long]
  resolved := Array.replicate 18 none
  statics := none }

def pool14 : Array CpInfo := pool [(1, .methodref 2 3), (0, .class_ 4), (0, .nameAndType 5 6), (0, u "com/example/penelope/penelope/exception/TransactionException"), (0, u "<init>"), (0, u "(Ljava/lang/String;Ljava/lang/Throwable;)V"), (0, .class_ 8), (0, u "com/example/penelope/penelope/exception/InterceptionException"), (0, u "serialVersionUID"), (0, u "J"), (3, u "(Ljava/lang/String;)V")] 4

def k14c0 : Code := { maxStack := 3, maxLocals := 2, code := prog_7_method_1_code, exceptionTable := #[], attributes := #[] }
def k14m0 : Method := { name := "<init>", desc := "(Ljava/lang/String;)V", sig := { parameters := [(.object "java/lang/String")], returnType := none }, accessFlags := 1, code := some k14c0 }
/-- com/example/penelope/penelope/exception/InterceptionException -/
def k14 : Class := { plain "com/example/penelope/penelope/exception/InterceptionException" (some 13) with
  accessFlags := 33
  interfaces := #[]
  cf := some (fileOf pool14 7 #[] #[{ accessFlags := 1, nameIndex := 5, descriptorIndex := 14, attributes := #[] }] 33 2 #[] #[{ accessFlags := 26, nameIndex := 9, descriptorIndex := 10, attributes := #[] }])
  fields := #[{ name := "serialVersionUID", type := .long, accessFlags := 26, slot := 0, constantValue := 0 }]
  methods := #[k14m0]
  instanceTypes := #[(.object "java/lang/Object"), (.object "java/lang/String"), (.object "java/lang/Throwable"), (.array (.object "java/lang/StackTraceElement")), .int, (.object "java/util/List")]
  staticTypes := #[.long]
  resolved := Array.replicate 19 none
  statics := none }

def pool15 : Array CpInfo := pool [(1, .class_ 2), (0, u "java/lang/Appendable"), (0, .class_ 4), (0, u "java/lang/Object")] 9

/-- java/lang/Appendable -/
def k15 : Class := { plain "java/lang/Appendable" (some 0) with
  accessFlags := 1537
  interfaces := #[]
  cf := some (fileOf pool15 1 #[] #[] 1537 3 #[] #[])
  fields := #[]
  methods := #[]
  instanceTypes := #[]
  staticTypes := #[]
  resolved := Array.replicate 14 none
  statics := none }

def pool16 : Array CpInfo := pool [(1, .class_ 2), (0, u "java/lang/String"), (0, .methodref 4 5), (0, .class_ 6), (0, .nameAndType 7 8), (0, u "java/lang/Object"), (0, u "<init>"), (0, u "()V"), (1, .class_ 12), (1, u "java/lang/AbstractStringBuilder"), (0, u "EMPTYVALUE"), (0, u "[B"), (0, .fieldref 10 16), (0, .nameAndType 17 14), (0, u "value"), (0, .fieldref 1 19), (0, .nameAndType 20 21), (0, u "COMPACT_STRINGS"), (0, u "Z"), (0, .fieldref 10 23), (0, .nameAndType 24 25), (0, u "coder"), (0, u "B"), (6, .methodref 1 33), (0, .nameAndType 34 35), (0, u "length"), (0, u "()I"), (3, .integer 2147483647), (0, .methodref 1 41), (0, .nameAndType 24 42), (0, u "()B"), (2, u "append"), (0, u "(Ljava/lang/String;)Ljava/lang/AbstractStringBuilder;"), (1, .class_ 49), (0, u "java/lang/CharSequence"), (19, u "(Ljava/lang/String;)V"), (5, u "maybeLatin1"), (3, .fieldref 10 80), (0, .nameAndType 81 82), (0, u "count"), (0, u "I"), (2, u "isLatin1"), (0, u "()Z"), (13, .methodref 10 101), (0, .nameAndType 102 103), (0, u "ensureCapacityInternal"), (0, u "(I)V"), (0, .methodref 10 105), (0, .nameAndType 106 107), (0, u "newCapacity"), (0, u "(I)I"), (0, .methodref 109 110), (0, .class_ 111), (0, .nameAndType 112 113), (0, u "java/util/Arrays"), (0, u "copyOf"), (0, u "([BI)[B"), (0, .methodref 115 116), (0, .class_ 117), (0, .nameAndType 118 119), (0, u "jdk/internal/util/ArraysSupport"), (0, u "newLength"), (0, u "(III)I"), (88, .methodref 10 209), (0, .nameAndType 210 211), (0, u "putStringAt"), (0, u "(ILjava/lang/String;)V"), (5, u "inflateIfNeededFor"), (2, .nameAndType 221 222), (0, u "getBytes"), (0, u "([BIB)V"), (174, .methodref 10 398), (0, .nameAndType 217 69), (0, .methodref 1 220), (3, u "()[B"), (40, .class_ 445), (0, u "java/lang/Appendable"), (106, u "getValue")] 56

def k16m0 : Method := { name := "<init>", desc := "()V", sig := { parameters := [], returnType := none }, accessFlags := 0, code := none }
def k16c1 : Code := { maxStack := 2, maxLocals := 2, code := jdk_68_method_2_code, exceptionTable := #[], attributes := #[] }
def k16m1 : Method := { name := "<init>", desc := "(I)V", sig := { parameters := [.int], returnType := none }, accessFlags := 0, code := some k16c1 }
def k16c2 : Code := { maxStack := 1, maxLocals := 1, code := jdk_68_method_6_code, exceptionTable := #[], attributes := #[] }
def k16m2 : Method := { name := "length", desc := "()I", sig := { parameters := [], returnType := some .int }, accessFlags := 1, code := some k16c2 }
def k16c3 : Code := { maxStack := 4, maxLocals := 3, code := jdk_68_method_9_code, exceptionTable := #[], attributes := #[] }
def k16m3 : Method := { name := "ensureCapacityInternal", desc := "(I)V", sig := { parameters := [.int], returnType := none }, accessFlags := 2, code := some k16c3 }
def k16c4 : Code := { maxStack := 5, maxLocals := 6, code := jdk_68_method_10_code, exceptionTable := #[], attributes := #[] }
def k16m4 : Method := { name := "newCapacity", desc := "(I)I", sig := { parameters := [.int], returnType := some .int }, accessFlags := 2, code := some k16c4 }
def k16c5 : Code := { maxStack := 3, maxLocals := 3, code := jdk_68_method_22_code, exceptionTable := #[], attributes := #[] }
def k16m5 : Method := { name := "append", desc := "(Ljava/lang/String;)Ljava/lang/AbstractStringBuilder;", sig := { parameters := [(.object "java/lang/String")], returnType := some (.object "java/lang/AbstractStringBuilder") }, accessFlags := 1, code := some k16c5 }
def k16c6 : Code := { maxStack := 1, maxLocals := 1, code := jdk_68_method_64_code, exceptionTable := #[], attributes := #[] }
def k16m6 : Method := { name := "getValue", desc := "()[B", sig := { parameters := [], returnType := some (.array .byte) }, accessFlags := 16, code := some k16c6 }
def k16c7 : Code := { maxStack := 1, maxLocals := 1, code := jdk_68_method_68_code, exceptionTable := #[], attributes := #[] }
def k16m7 : Method := { name := "isLatin1", desc := "()Z", sig := { parameters := [], returnType := some .boolean }, accessFlags := 16, code := some k16c7 }
def k16c8 : Code := { maxStack := 2, maxLocals := 2, code := jdk_68_method_71_code, exceptionTable := #[], attributes := #[] }
def k16m8 : Method := { name := "inflateIfNeededFor", desc := "(Ljava/lang/String;)V", sig := { parameters := [(.object "java/lang/String")], returnType := none }, accessFlags := 2, code := some k16c8 }
def k16c9 : Code := { maxStack := 4, maxLocals := 3, code := jdk_68_method_73_code, exceptionTable := #[], attributes := #[] }
def k16m9 : Method := { name := "putStringAt", desc := "(ILjava/lang/String;)V", sig := { parameters := [.int, (.object "java/lang/String")], returnType := none }, accessFlags := 2, code := some k16c9 }
/-- java/lang/AbstractStringBuilder -/
def k16 : Class := { plain "java/lang/AbstractStringBuilder" (some 0) with
  accessFlags := 1056
  interfaces := #[15, 4]
  cf := some (fileOf pool16 10 #[] #[{ accessFlags := 0, nameIndex := 7, descriptorIndex := 8, attributes := #[] }, { accessFlags := 0, nameIndex := 7, descriptorIndex := 103, attributes := #[] }, { accessFlags := 1, nameIndex := 34, descriptorIndex := 35, attributes := #[] }, { accessFlags := 2, nameIndex := 102, descriptorIndex := 103, attributes := #[] }, { accessFlags := 2, nameIndex := 106, descriptorIndex := 107, attributes := #[] }, { accessFlags := 1, nameIndex := 45, descriptorIndex := 46, attributes := #[] }, { accessFlags := 16, nameIndex := 552, descriptorIndex := 403, attributes := #[] }, { accessFlags := 16, nameIndex := 85, descriptorIndex := 86, attributes := #[] }, { accessFlags := 2, nameIndex := 217, descriptorIndex := 69, attributes := #[] }, { accessFlags := 2, nameIndex := 210, descriptorIndex := 211, attributes := #[] }] 1056 4 #[444, 48] #[{ accessFlags := 0, nameIndex := 17, descriptorIndex := 14, attributes := #[] }, { accessFlags := 0, nameIndex := 24, descriptorIndex := 25, attributes := #[] }, { accessFlags := 0, nameIndex := 75, descriptorIndex := 21, attributes := #[] }, { accessFlags := 0, nameIndex := 81, descriptorIndex := 82, attributes := #[] }, { accessFlags := 26, nameIndex := 13, descriptorIndex := 14, attributes := #[] }])
  fields := #[{ name := "value", type := (.array .byte), accessFlags := 0, slot := 0, constantValue := 0 }, { name := "coder", type := .byte, accessFlags := 0, slot := 1, constantValue := 0 }, { name := "maybeLatin1", type := .boolean, accessFlags := 0, slot := 2, constantValue := 0 }, { name := "count", type := .int, accessFlags := 0, slot := 3, constantValue := 0 }, { name := "EMPTYVALUE", type := (.array .byte), accessFlags := 26, slot := 0, constantValue := 0 }]
  methods := #[k16m0, k16m1, k16m2, k16m3, k16m4, k16m5, k16m6, k16m7, k16m8, k16m9]
  instanceTypes := #[(.array .byte), .byte, .boolean, .int]
  staticTypes := #[(.array .byte)]
  resolved := Array.replicate 609 none
  statics := none }

def pool17 : Array CpInfo := pool [(1, .methodref 2 3), (0, .class_ 4), (0, .nameAndType 5 6), (0, u "java/lang/AbstractStringBuilder"), (0, u "<init>"), (0, u "(I)V"), (11, .class_ 20), (1, u "java/lang/String"), (3, .class_ 26), (1, u "java/lang/StringBuilder"), (0, u "append"), (0, u "(Ljava/lang/String;)Ljava/lang/StringBuilder;"), (0, .methodref 2 30), (0, .nameAndType 27 31), (0, u "(Ljava/lang/String;)Ljava/lang/AbstractStringBuilder;"), (105, .methodref 18 138), (0, .nameAndType 5 139), (0, u "(Ljava/lang/StringBuilder;)V"), (5, u "()V"), (10, u "()I"), (186, .methodref 2 344), (0, .nameAndType 345 156), (0, u "length"), (3, .class_ 350), (0, u "java/lang/Appendable"), (0, .class_ 352), (0, u "java/io/Serializable"), (0, .class_ 354), (0, u "java/lang/Comparable"), (0, .class_ 356), (0, u "java/lang/CharSequence"), (0, u "serialVersionUID"), (0, u "J"), (40, u "toString"), (0, u "()Ljava/lang/String;")] 21

def k17c0 : Code := { maxStack := 2, maxLocals := 1, code := jdk_67_method_1_code, exceptionTable := #[], attributes := #[] }
def k17m0 : Method := { name := "<init>", desc := "()V", sig := { parameters := [], returnType := none }, accessFlags := 1, code := some k17c0 }
def k17c1 : Code := { maxStack := 2, maxLocals := 2, code := jdk_67_method_7_code, exceptionTable := #[], attributes := #[] }
def k17m1 : Method := { name := "append", desc := "(Ljava/lang/String;)Ljava/lang/StringBuilder;", sig := { parameters := [(.object "java/lang/String")], returnType := some (.object "java/lang/StringBuilder") }, accessFlags := 1, code := some k17c1 }
def k17c2 : Code := { maxStack := 3, maxLocals := 1, code := jdk_67_method_42_code, exceptionTable := #[], attributes := #[] }
def k17m2 : Method := { name := "toString", desc := "()Ljava/lang/String;", sig := { parameters := [], returnType := some (.object "java/lang/String") }, accessFlags := 1, code := some k17c2 }
def k17c3 : Code := { maxStack := 1, maxLocals := 1, code := jdk_67_method_93_code, exceptionTable := #[], attributes := #[] }
def k17m3 : Method := { name := "length", desc := "()I", sig := { parameters := [], returnType := some .int }, accessFlags := 4161, code := some k17c3 }
/-- java/lang/StringBuilder -/
def k17 : Class := { plain "java/lang/StringBuilder" (some 16) with
  accessFlags := 49
  interfaces := #[15, 2, 3, 4]
  cf := some (fileOf pool17 24 #[] #[{ accessFlags := 1, nameIndex := 5, descriptorIndex := 145, attributes := #[] }, { accessFlags := 1, nameIndex := 27, descriptorIndex := 28, attributes := #[] }, { accessFlags := 1, nameIndex := 399, descriptorIndex := 400, attributes := #[] }, { accessFlags := 4161, nameIndex := 345, descriptorIndex := 156, attributes := #[] }] 49 2 #[349, 351, 353, 355] #[{ accessFlags := 24, nameIndex := 357, descriptorIndex := 358, attributes := #[] }])
  fields := #[{ name := "serialVersionUID", type := .long, accessFlags := 24, slot := 0, constantValue := 0 }]
  methods := #[k17m0, k17m1, k17m2, k17m3]
  instanceTypes := #[(.array .byte), .byte, .boolean, .int]
  staticTypes := #[.long]
  resolved := Array.replicate 422 none
  statics := none }

def pool18 : Array CpInfo := pool [(2, .class_ 4), (1, u "java/lang/Object"), (0, u "<init>"), (0, u "()V"), (1, .class_ 10), (1, u "java/lang/System"), (0, u "allowSecurityManager"), (0, u "I"), (16, u "cons"), (0, u "Ljava/io/Console;"), (77, .class_ 110), (1, u "java/lang/System$CallersHolder"), (43, u "initialErrStream"), (0, u "Ljava/io/PrintStream;"), (19, u "security"), (0, u "Ljava/lang/SecurityManager;"), (31, .class_ 209), (0, u "java/lang/System$1"), (7, u "props"), (0, u "Ljava/util/Properties;"), (2, u "lineSeparator"), (0, u "Ljava/lang/String;"), (96, .class_ 321), (1, u "java/lang/System$LoggerFinder"), (5, .class_ 328), (0, u "java/lang/System$Logger"), (67, u "err"), (2, u "out"), (91, u "notSupportedJnuEncoding"), (15, u "in"), (17, u "initialIn"), (0, u "Ljava/io/InputStream;"), (35, u "bootLayer"), (0, u "Ljava/lang/ModuleLayer;"), (99, .class_ 664), (0, u "java/lang/System$2"), (9, u "NEVER"), (2, u "MAYBE"), (49, u "arraycopy"), (0, u "(Ljava/lang/Object;ILjava/lang/Object;II)V"), (72, .class_ 802), (0, u "java/lang/System$Logger$Level")] 31

def k18m0 : Method := { name := "<init>", desc := "()V", sig := { parameters := [], returnType := none }, accessFlags := 2, code := none }
def k18m1 : Method := { name := "arraycopy", desc := "(Ljava/lang/Object;ILjava/lang/Object;II)V", sig := { parameters := [(.object "java/lang/Object"), .int, (.object "java/lang/Object"), .int, .int], returnType := none }, accessFlags := 265, code := none }
/-- java/lang/System -/
def k18 : Class := { plain "java/lang/System" (some 0) with
  accessFlags := 49
  interfaces := #[]
  cf := some (fileOf pool18 8 #[.nestMembers #[319, 327, 801, 108, 663, 208]] #[{ accessFlags := 2, nameIndex := 5, descriptorIndex := 6, attributes := #[] }, { accessFlags := 265, nameIndex := 727, descriptorIndex := 728, attributes := #[] }] 49 2 #[] #[{ accessFlags := 25, nameIndex := 507, descriptorIndex := 526, attributes := #[] }, { accessFlags := 25, nameIndex := 399, descriptorIndex := 155, attributes := #[] }, { accessFlags := 25, nameIndex := 396, descriptorIndex := 155, attributes := #[] }, { accessFlags := 10, nameIndex := 525, descriptorIndex := 526, attributes := #[] }, { accessFlags := 26, nameIndex := 674, descriptorIndex := 12, attributes := #[] }, { accessFlags := 26, nameIndex := 677, descriptorIndex := 12, attributes := #[] }, { accessFlags := 10, nameIndex := 11, descriptorIndex := 12, attributes := #[] }, { accessFlags := 74, nameIndex := 175, descriptorIndex := 176, attributes := #[] }, { accessFlags := 10, nameIndex := 491, descriptorIndex := 222, attributes := #[] }, { accessFlags := 74, nameIndex := 29, descriptorIndex := 30, attributes := #[] }, { accessFlags := 74, nameIndex := 154, descriptorIndex := 155, attributes := #[] }, { accessFlags := 10, nameIndex := 217, descriptorIndex := 218, attributes := #[] }, { accessFlags := 10, nameIndex := 221, descriptorIndex := 222, attributes := #[] }, { accessFlags := 8, nameIndex := 562, descriptorIndex := 563, attributes := #[] }])
  fields := #[{ name := "in", type := (.object "java/io/InputStream"), accessFlags := 25, slot := 0, constantValue := 0 }, { name := "out", type := (.object "java/io/PrintStream"), accessFlags := 25, slot := 1, constantValue := 0 }, { name := "err", type := (.object "java/io/PrintStream"), accessFlags := 25, slot := 2, constantValue := 0 }, { name := "initialIn", type := (.object "java/io/InputStream"), accessFlags := 10, slot := 3, constantValue := 0 }, { name := "NEVER", type := .int, accessFlags := 26, slot := 4, constantValue := 0 }, { name := "MAYBE", type := .int, accessFlags := 26, slot := 5, constantValue := 0 }, { name := "allowSecurityManager", type := .int, accessFlags := 10, slot := 6, constantValue := 0 }, { name := "security", type := (.object "java/lang/SecurityManager"), accessFlags := 74, slot := 7, constantValue := 0 }, { name := "notSupportedJnuEncoding", type := (.object "java/lang/String"), accessFlags := 10, slot := 8, constantValue := 0 }, { name := "cons", type := (.object "java/io/Console"), accessFlags := 74, slot := 9, constantValue := 0 }, { name := "initialErrStream", type := (.object "java/io/PrintStream"), accessFlags := 74, slot := 10, constantValue := 0 }, { name := "props", type := (.object "java/util/Properties"), accessFlags := 10, slot := 11, constantValue := 0 }, { name := "lineSeparator", type := (.object "java/lang/String"), accessFlags := 10, slot := 12, constantValue := 0 }, { name := "bootLayer", type := (.object "java/lang/ModuleLayer"), accessFlags := 8, slot := 13, constantValue := 0 }]
  methods := #[k18m0, k18m1]
  instanceTypes := #[]
  staticTypes := #[(.object "java/io/InputStream"), (.object "java/io/PrintStream"), (.object "java/io/PrintStream"), (.object "java/io/InputStream"), .int, .int, .int, (.object "java/lang/SecurityManager"), (.object "java/lang/String"), (.object "java/io/Console"), (.object "java/io/PrintStream"), (.object "java/util/Properties"), (.object "java/lang/String"), (.object "java/lang/ModuleLayer")]
  resolved := Array.replicate 834 none
  statics := none }

def pool19 : Array CpInfo := pool [(9, u "<init>"), (6, .class_ 18), (1, u "java/lang/Object"), (0, u "()V"), (1, .class_ 23), (1, u "jdk/internal/util/ArraysSupport"), (0, u "LOG2_ARRAY_LONG_INDEX_SCALE"), (0, u "I"), (2, u "U"), (0, u "Ljdk/internal/misc/Unsafe;"), (8, u "BIG_ENDIAN"), (0, u "Z"), (8, u "LOG2_BYTE_BIT_SIZE"), (4, u "LOG2_ARRAY_INT_INDEX_SCALE"), (54, u "JLA"), (0, u "Ljdk/internal/access/JavaLangAccess;"), (11, u "LOG2_ARRAY_BOOLEAN_INDEX_SCALE"), (9, u "LOG2_ARRAY_BYTE_INDEX_SCALE"), (5, u "LOG2_ARRAY_CHAR_INDEX_SCALE"), (5, u "LOG2_ARRAY_SHORT_INDEX_SCALE"), (18, u "LOG2_ARRAY_FLOAT_INDEX_SCALE"), (24, u "LOG2_ARRAY_DOUBLE_INDEX_SCALE"), (6, .methodref 195 196), (0, .class_ 197), (0, .nameAndType 198 199), (0, u "java/lang/Math"), (0, u "max"), (0, u "(II)I"), (0, .integer 2147483639), (76, u "T_BOOLEAN"), (2, u "T_CHAR"), (1, u "T_FLOAT"), (1, u "T_DOUBLE"), (1, u "T_BYTE"), (1, u "T_SHORT"), (1, u "T_INT"), (1, u "T_LONG"), (1, u "SOFT_MAX_ARRAY_LENGTH"), (56, u "newLength"), (0, u "(III)I")] 25

def k19m0 : Method := { name := "<init>", desc := "()V", sig := { parameters := [], returnType := none }, accessFlags := 2, code := none }
def k19c1 : Code := { maxStack := 3, maxLocals := 4, code := jdk_48_method_27_code, exceptionTable := #[], attributes := #[] }
def k19m1 : Method := { name := "newLength", desc := "(III)I", sig := { parameters := [.int, .int, .int], returnType := some .int }, accessFlags := 9, code := some k19c1 }
/-- jdk/internal/util/ArraysSupport -/
def k19 : Class := { plain "jdk/internal/util/ArraysSupport" (some 0) with
  accessFlags := 33
  interfaces := #[]
  cf := some (fileOf pool19 21 #[] #[{ accessFlags := 2, nameIndex := 9, descriptorIndex := 19, attributes := #[] }, { accessFlags := 9, nameIndex := 351, descriptorIndex := 352, attributes := #[] }] 33 16 #[] #[{ accessFlags := 24, nameIndex := 28, descriptorIndex := 29, attributes := #[] }, { accessFlags := 26, nameIndex := 38, descriptorIndex := 39, attributes := #[] }, { accessFlags := 25, nameIndex := 121, descriptorIndex := 25, attributes := #[] }, { accessFlags := 25, nameIndex := 131, descriptorIndex := 25, attributes := #[] }, { accessFlags := 25, nameIndex := 137, descriptorIndex := 25, attributes := #[] }, { accessFlags := 25, nameIndex := 143, descriptorIndex := 25, attributes := #[] }, { accessFlags := 25, nameIndex := 53, descriptorIndex := 25, attributes := #[] }, { accessFlags := 25, nameIndex := 24, descriptorIndex := 25, attributes := #[] }, { accessFlags := 25, nameIndex := 162, descriptorIndex := 25, attributes := #[] }, { accessFlags := 25, nameIndex := 187, descriptorIndex := 25, attributes := #[] }, { accessFlags := 26, nameIndex := 48, descriptorIndex := 25, attributes := #[] }, { accessFlags := 25, nameIndex := 277, descriptorIndex := 25, attributes := #[] }, { accessFlags := 25, nameIndex := 280, descriptorIndex := 25, attributes := #[] }, { accessFlags := 25, nameIndex := 282, descriptorIndex := 25, attributes := #[] }, { accessFlags := 25, nameIndex := 284, descriptorIndex := 25, attributes := #[] }, { accessFlags := 25, nameIndex := 286, descriptorIndex := 25, attributes := #[] }, { accessFlags := 25, nameIndex := 288, descriptorIndex := 25, attributes := #[] }, { accessFlags := 25, nameIndex := 290, descriptorIndex := 25, attributes := #[] }, { accessFlags := 25, nameIndex := 292, descriptorIndex := 25, attributes := #[] }, { accessFlags := 26, nameIndex := 108, descriptorIndex := 109, attributes := #[] }, { accessFlags := 25, nameIndex := 294, descriptorIndex := 25, attributes := #[] }])
  fields := #[{ name := "U", type := (.object "jdk/internal/misc/Unsafe"), accessFlags := 24, slot := 0, constantValue := 0 }, { name := "BIG_ENDIAN", type := .boolean, accessFlags := 26, slot := 1, constantValue := 0 }, { name := "LOG2_ARRAY_BOOLEAN_INDEX_SCALE", type := .int, accessFlags := 25, slot := 2, constantValue := 0 }, { name := "LOG2_ARRAY_BYTE_INDEX_SCALE", type := .int, accessFlags := 25, slot := 3, constantValue := 0 }, { name := "LOG2_ARRAY_CHAR_INDEX_SCALE", type := .int, accessFlags := 25, slot := 4, constantValue := 0 }, { name := "LOG2_ARRAY_SHORT_INDEX_SCALE", type := .int, accessFlags := 25, slot := 5, constantValue := 0 }, { name := "LOG2_ARRAY_INT_INDEX_SCALE", type := .int, accessFlags := 25, slot := 6, constantValue := 0 }, { name := "LOG2_ARRAY_LONG_INDEX_SCALE", type := .int, accessFlags := 25, slot := 7, constantValue := 0 }, { name := "LOG2_ARRAY_FLOAT_INDEX_SCALE", type := .int, accessFlags := 25, slot := 8, constantValue := 0 }, { name := "LOG2_ARRAY_DOUBLE_INDEX_SCALE", type := .int, accessFlags := 25, slot := 9, constantValue := 0 }, { name := "LOG2_BYTE_BIT_SIZE", type := .int, accessFlags := 26, slot := 10, constantValue := 0 }, { name := "T_BOOLEAN", type := .int, accessFlags := 25, slot := 11, constantValue := 0 }, { name := "T_CHAR", type := .int, accessFlags := 25, slot := 12, constantValue := 0 }, { name := "T_FLOAT", type := .int, accessFlags := 25, slot := 13, constantValue := 0 }, { name := "T_DOUBLE", type := .int, accessFlags := 25, slot := 14, constantValue := 0 }, { name := "T_BYTE", type := .int, accessFlags := 25, slot := 15, constantValue := 0 }, { name := "T_SHORT", type := .int, accessFlags := 25, slot := 16, constantValue := 0 }, { name := "T_INT", type := .int, accessFlags := 25, slot := 17, constantValue := 0 }, { name := "T_LONG", type := .int, accessFlags := 25, slot := 18, constantValue := 0 }, { name := "JLA", type := (.object "jdk/internal/access/JavaLangAccess"), accessFlags := 26, slot := 19, constantValue := 0 }, { name := "SOFT_MAX_ARRAY_LENGTH", type := .int, accessFlags := 25, slot := 20, constantValue := 0 }]
  methods := #[k19m0, k19m1]
  instanceTypes := #[]
  staticTypes := #[(.object "jdk/internal/misc/Unsafe"), .boolean, .int, .int, .int, .int, .int, .int, .int, .int, .int, .int, .int, .int, .int, .int, .int, .int, .int, (.object "jdk/internal/access/JavaLangAccess"), .int]
  resolved := Array.replicate 378 none
  statics := none }

def pool20 : Array CpInfo := pool [(1, .class_ 2), (0, u "java/lang/Math"), (1, .class_ 6), (1, u "java/lang/Object"), (0, u "<init>"), (0, u "()V"), (89, .class_ 100), (1, u "java/lang/Math$RandomNumberGeneratorHolder"), (71, u "negativeZeroFloatBits"), (0, u "J"), (2, u "negativeZeroDoubleBits"), (21, u "max"), (2, u "min"), (43, u "$assertionsDisabled"), (0, u "Z"), (88, u "(II)I"), (2, u "twoToTheDoubleScaleDown"), (0, u "D"), (4, u "twoToTheDoubleScaleUp"), (9, u "E"), (3, u "PI"), (2, u "TAU"), (2, u "DEGREES_TO_RADIANS"), (0, u "RADIANS_TO_DEGREES")] 94

def k20m0 : Method := { name := "<init>", desc := "()V", sig := { parameters := [], returnType := none }, accessFlags := 2, code := none }
def k20c1 : Code := { maxStack := 2, maxLocals := 2, code := jdk_29_method_65_code, exceptionTable := #[], attributes := #[] }
def k20m1 : Method := { name := "max", desc := "(II)I", sig := { parameters := [.int, .int], returnType := some .int }, accessFlags := 9, code := some k20c1 }
def k20c2 : Code := { maxStack := 2, maxLocals := 2, code := jdk_29_method_69_code, exceptionTable := #[], attributes := #[] }
def k20m2 : Method := { name := "min", desc := "(II)I", sig := { parameters := [.int, .int], returnType := some .int }, accessFlags := 9, code := some k20c2 }
/-- java/lang/Math -/
def k20 : Class := { plain "java/lang/Math" (some 0) with
  accessFlags := 49
  interfaces := #[]
  cf := some (fileOf pool20 1 #[.nestMembers #[98]] #[{ accessFlags := 2, nameIndex := 7, descriptorIndex := 8, attributes := #[] }, { accessFlags := 9, nameIndex := 198, descriptorIndex := 335, attributes := #[] }, { accessFlags := 9, nameIndex := 201, descriptorIndex := 335, attributes := #[] }] 49 4 #[] #[{ accessFlags := 25, nameIndex := 354, descriptorIndex := 339, attributes := #[] }, { accessFlags := 25, nameIndex := 358, descriptorIndex := 339, attributes := #[] }, { accessFlags := 25, nameIndex := 361, descriptorIndex := 339, attributes := #[] }, { accessFlags := 26, nameIndex := 364, descriptorIndex := 339, attributes := #[] }, { accessFlags := 26, nameIndex := 365, descriptorIndex := 339, attributes := #[] }, { accessFlags := 26, nameIndex := 172, descriptorIndex := 173, attributes := #[] }, { accessFlags := 26, nameIndex := 176, descriptorIndex := 173, attributes := #[] }, { accessFlags := 8, nameIndex := 344, descriptorIndex := 339, attributes := #[] }, { accessFlags := 8, nameIndex := 338, descriptorIndex := 339, attributes := #[] }, { accessFlags := 4120, nameIndex := 245, descriptorIndex := 246, attributes := #[] }])
  fields := #[{ name := "E", type := .double, accessFlags := 25, slot := 0, constantValue := 0 }, { name := "PI", type := .double, accessFlags := 25, slot := 1, constantValue := 0 }, { name := "TAU", type := .double, accessFlags := 25, slot := 2, constantValue := 0 }, { name := "DEGREES_TO_RADIANS", type := .double, accessFlags := 26, slot := 3, constantValue := 0 }, { name := "RADIANS_TO_DEGREES", type := .double, accessFlags := 26, slot := 4, constantValue := 0 }, { name := "negativeZeroFloatBits", type := .long, accessFlags := 26, slot := 5, constantValue := 0 }, { name := "negativeZeroDoubleBits", type := .long, accessFlags := 26, slot := 6, constantValue := 0 }, { name := "twoToTheDoubleScaleUp", type := .double, accessFlags := 8, slot := 7, constantValue := 0 }, { name := "twoToTheDoubleScaleDown", type := .double, accessFlags := 8, slot := 8, constantValue := 0 }, { name := "$assertionsDisabled", type := .boolean, accessFlags := 4120, slot := 9, constantValue := 0 }]
  methods := #[k20m0, k20m1, k20m2]
  instanceTypes := #[]
  staticTypes := #[.double, .double, .double, .double, .double, .long, .long, .double, .double, .boolean]
  resolved := Array.replicate 460 none
  statics := none }

def pool21 : Array CpInfo := pool [(2, .class_ 4), (1, u "java/lang/Object"), (0, u "<init>"), (0, u "()V"), (7, .class_ 16), (1, u "java/util/Arrays"), (57, .class_ 76), (1, u "java/util/Arrays$NaturalOrder"), (36, .class_ 115), (1, u "java/util/Arrays$LegacyMergeSort"), (1, u "Z"), (21, u "copyOfRange"), (10, .methodref 151 152), (0, .class_ 153), (0, .nameAndType 154 155), (0, u "java/lang/System"), (0, u "arraycopy"), (0, u "(Ljava/lang/Object;ILjava/lang/Object;II)V"), (146, u "copyOf"), (1, .methodref 305 306), (0, .class_ 307), (0, .nameAndType 308 309), (0, u "java/lang/Math"), (0, u "min"), (0, u "(II)I"), (29, .methodref 14 340), (0, .nameAndType 341 342), (0, u "copyOfRangeByte"), (0, u "([BII)[B"), (0, .methodref 14 344), (0, .nameAndType 345 346), (0, u "checkLength"), (0, u "(II)V"), (28, .class_ 376), (0, u "java/util/Arrays$ArrayList"), (68, u "$assertionsDisabled"), (269, u "MIN_ARRAY_SORT_GRAN"), (0, u "I"), (2, u "INSERTIONSORT_THRESHOLD"), (149, u "([BI)[B"), (105, .class_ 976), (0, u "java/util/Arrays$ArrayItr")] 52

def k21m0 : Method := { name := "<init>", desc := "()V", sig := { parameters := [], returnType := none }, accessFlags := 2, code := none }
def k21c1 : Code := { maxStack := 6, maxLocals := 3, code := jdk_65_method_121_code, exceptionTable := #[], attributes := #[] }
def k21m1 : Method := { name := "copyOf", desc := "([BI)[B", sig := { parameters := [(.array .byte), .int], returnType := some (.array .byte) }, accessFlags := 9, code := some k21c1 }
def k21c2 : Code := { maxStack := 4, maxLocals := 2, code := jdk_65_method_131_code, exceptionTable := #[], attributes := #[] }
def k21m2 : Method := { name := "checkLength", desc := "(II)V", sig := { parameters := [.int, .int], returnType := none }, accessFlags := 10, code := some k21c2 }
def k21c3 : Code := { maxStack := 3, maxLocals := 3, code := jdk_65_method_132_code, exceptionTable := #[], attributes := #[] }
def k21m3 : Method := { name := "copyOfRange", desc := "([BII)[B", sig := { parameters := [(.array .byte), .int, .int], returnType := some (.array .byte) }, accessFlags := 9, code := some k21c3 }
def k21c4 : Code := { maxStack := 6, maxLocals := 5, code := jdk_65_method_133_code, exceptionTable := #[], attributes := #[] }
def k21m4 : Method := { name := "copyOfRangeByte", desc := "([BII)[B", sig := { parameters := [(.array .byte), .int, .int], returnType := some (.array .byte) }, accessFlags := 10, code := some k21c4 }
/-- java/util/Arrays -/
def k21 : Class := { plain "java/util/Arrays" (some 0) with
  accessFlags := 49
  interfaces := #[]
  cf := some (fileOf pool21 14 #[.nestMembers #[975, 375, 113, 74]] #[{ accessFlags := 2, nameIndex := 5, descriptorIndex := 6, attributes := #[] }, { accessFlags := 9, nameIndex := 302, descriptorIndex := 869, attributes := #[] }, { accessFlags := 10, nameIndex := 345, descriptorIndex := 346, attributes := #[] }, { accessFlags := 9, nameIndex := 139, descriptorIndex := 342, attributes := #[] }, { accessFlags := 10, nameIndex := 341, descriptorIndex := 342, attributes := #[] }] 49 2 #[] #[{ accessFlags := 26, nameIndex := 715, descriptorIndex := 716, attributes := #[] }, { accessFlags := 26, nameIndex := 719, descriptorIndex := 716, attributes := #[] }, { accessFlags := 4120, nameIndex := 445, descriptorIndex := 117, attributes := #[] }])
  fields := #[{ name := "MIN_ARRAY_SORT_GRAN", type := .int, accessFlags := 26, slot := 0, constantValue := 0 }, { name := "INSERTIONSORT_THRESHOLD", type := .int, accessFlags := 26, slot := 1, constantValue := 0 }, { name := "$assertionsDisabled", type := .boolean, accessFlags := 4120, slot := 2, constantValue := 0 }]
  methods := #[k21m0, k21m1, k21m2, k21m3, k21m4]
  instanceTypes := #[]
  staticTypes := #[.int, .int, .boolean]
  resolved := Array.replicate 1029 none
  statics := none }

def pool22 : Array CpInfo := pool [(4, .class_ 6), (1, u "java/lang/Object"), (0, u "<init>"), (0, u "()V"), (5, .class_ 16), (1, u "java/lang/StringLatin1"), (73, u "canEncode"), (14, u "(C)Z"), (15, u "$assertionsDisabled"), (0, u "Z"), (98, .class_ 223), (1, u "java/lang/StringLatin1$LinesSpliterator"), (57, u "equals"), (0, u "([B[B)Z"), (97, u "toBytes"), (1, u "(C)[B"), (7, .class_ 391), (0, u "java/lang/StringLatin1$CharsSpliterator")] 3

def k22m0 : Method := { name := "<init>", desc := "()V", sig := { parameters := [], returnType := none }, accessFlags := 0, code := none }
def k22c1 : Code := { maxStack := 2, maxLocals := 1, code := jdk_43_method_3_code, exceptionTable := #[], attributes := #[] }
def k22m1 : Method := { name := "canEncode", desc := "(C)Z", sig := { parameters := [.char], returnType := some .boolean }, accessFlags := 9, code := some k22c1 }
def k22c2 : Code := { maxStack := 3, maxLocals := 3, code := jdk_43_method_13_code, exceptionTable := #[], attributes := #[] }
def k22m2 : Method := { name := "equals", desc := "([B[B)Z", sig := { parameters := [(.array .byte), (.array .byte)], returnType := some .boolean }, accessFlags := 9, code := some k22c2 }
def k22c3 : Code := { maxStack := 4, maxLocals := 1, code := jdk_43_method_46_code, exceptionTable := #[], attributes := #[] }
def k22m3 : Method := { name := "toBytes", desc := "(C)[B", sig := { parameters := [.char], returnType := some (.array .byte) }, accessFlags := 9, code := some k22c3 }
/-- java/lang/StringLatin1 -/
def k22 : Class := { plain "java/lang/StringLatin1" (some 0) with
  accessFlags := 48
  interfaces := #[]
  cf := some (fileOf pool22 14 #[.nestMembers #[390, 221]] #[{ accessFlags := 0, nameIndex := 7, descriptorIndex := 8, attributes := #[] }, { accessFlags := 9, nameIndex := 90, descriptorIndex := 105, attributes := #[] }, { accessFlags := 9, nameIndex := 281, descriptorIndex := 282, attributes := #[] }, { accessFlags := 9, nameIndex := 380, descriptorIndex := 382, attributes := #[] }] 48 4 #[] #[{ accessFlags := 4120, nameIndex := 121, descriptorIndex := 122, attributes := #[] }])
  fields := #[{ name := "$assertionsDisabled", type := .boolean, accessFlags := 4120, slot := 0, constantValue := 0 }]
  methods := #[k22m0, k22m1, k22m2, k22m3]
  instanceTypes := #[]
  staticTypes := #[.boolean]
  resolved := Array.replicate 395 none
  statics := none }

def pool23 : Array CpInfo := pool [(2, .class_ 4), (1, u "java/lang/Object"), (0, u "<init>"), (0, u "()V"), (17, .class_ 26), (1, u "jdk/internal/util/Preconditions"), (28, .class_ 56), (0, u "jdk/internal/util/Preconditions$4"), (57, .class_ 115), (0, u "jdk/internal/util/Preconditions$1"), (7, u "SIOOBE_FORMATTER"), (0, u "Ljava/util/function/BiFunction;"), (0, .class_ 126), (0, u "jdk/internal/util/Preconditions$2"), (3, u "AIOOBE_FORMATTER"), (0, .class_ 132), (0, u "jdk/internal/util/Preconditions$3"), (3, u "IOOBE_FORMATTER")] 57

def k23m0 : Method := { name := "<init>", desc := "()V", sig := { parameters := [], returnType := none }, accessFlags := 1, code := none }
/-- jdk/internal/util/Preconditions -/
def k23 : Class := { plain "jdk/internal/util/Preconditions" (some 0) with
  accessFlags := 33
  interfaces := #[]
  cf := some (fileOf pool23 24 #[.nestMembers #[55, 131, 125, 114]] #[{ accessFlags := 1, nameIndex := 5, descriptorIndex := 6, attributes := #[] }] 33 2 #[] #[{ accessFlags := 25, nameIndex := 123, descriptorIndex := 124, attributes := #[] }, { accessFlags := 25, nameIndex := 130, descriptorIndex := 124, attributes := #[] }, { accessFlags := 25, nameIndex := 136, descriptorIndex := 124, attributes := #[] }])
  fields := #[{ name := "SIOOBE_FORMATTER", type := (.object "java/util/function/BiFunction"), accessFlags := 25, slot := 0, constantValue := 0 }, { name := "AIOOBE_FORMATTER", type := (.object "java/util/function/BiFunction"), accessFlags := 25, slot := 1, constantValue := 0 }, { name := "IOOBE_FORMATTER", type := (.object "java/util/function/BiFunction"), accessFlags := 25, slot := 2, constantValue := 0 }]
  methods := #[k23m0]
  instanceTypes := #[]
  staticTypes := #[(.object "java/util/function/BiFunction"), (.object "java/util/function/BiFunction"), (.object "java/util/function/BiFunction")]
  resolved := Array.replicate 194 none
  statics := some 2 }

def pool24 : Array CpInfo := pool [(2, .class_ 4), (1, u "java/lang/Object"), (0, u "<init>"), (0, u "()V"), (12, .class_ 20), (0, u "java/util/Collections"), (63, u "r"), (0, u "Ljava/util/Random;"), (80, .class_ 167), (0, u "java/util/Collections$UnmodifiableCollection"), (6, .class_ 175), (0, u "java/util/Collections$UnmodifiableSequencedCollection"), (6, .class_ 183), (0, u "java/util/Collections$UnmodifiableSet"), (6, .class_ 191), (0, u "java/util/Collections$UnmodifiableSequencedSet"), (6, .class_ 199), (0, u "java/util/Collections$UnmodifiableSortedSet"), (6, .class_ 207), (0, u "java/util/Collections$UnmodifiableNavigableSet"), (4, .class_ 213), (0, u "java/util/Collections$UnmodifiableList"), (1, .class_ 216), (0, u "java/util/Collections$UnmodifiableRandomAccessList"), (6, .class_ 224), (0, u "java/util/Collections$UnmodifiableMap"), (6, .class_ 232), (0, u "java/util/Collections$UnmodifiableSequencedMap"), (4, .class_ 238), (0, u "java/util/Collections$UnmodifiableSortedMap"), (6, .class_ 246), (0, u "java/util/Collections$UnmodifiableNavigableMap"), (3, .class_ 251), (0, u "java/util/Collections$SynchronizedCollection"), (4, .class_ 257), (0, u "java/util/Collections$SynchronizedSet"), (4, .class_ 263), (0, u "java/util/Collections$SynchronizedSortedSet"), (1, .class_ 266), (0, u "java/util/Collections$SynchronizedNavigableSet"), (1, .class_ 269), (0, u "java/util/Collections$SynchronizedRandomAccessList"), (1, .class_ 272), (0, u "java/util/Collections$SynchronizedList"), (5, .class_ 279), (0, u "java/util/Collections$SynchronizedMap"), (1, .class_ 282), (0, u "java/util/Collections$SynchronizedSortedMap"), (1, .class_ 285), (0, u "java/util/Collections$SynchronizedNavigableMap"), (1, .class_ 288), (0, u "java/util/Collections$CheckedCollection"), (11, .class_ 301), (0, u "java/util/Collections$CheckedQueue"), (3, .class_ 306), (0, u "java/util/Collections$CheckedSet"), (3, .class_ 311), (0, u "java/util/Collections$CheckedSortedSet"), (3, .class_ 316), (0, u "java/util/Collections$CheckedNavigableSet"), (3, .class_ 321), (0, u "java/util/Collections$CheckedRandomAccessList"), (3, .class_ 326), (0, u "java/util/Collections$CheckedList"), (1, .class_ 329), (0, u "java/util/Collections$CheckedMap"), (3, .class_ 334), (0, u "java/util/Collections$CheckedSortedMap"), (3, .class_ 339), (0, u "java/util/Collections$CheckedNavigableMap"), (4, .class_ 346), (1, u "java/util/Collections$EmptyIterator"), (3, .class_ 352), (1, u "java/util/Collections$EmptyListIterator"), (2, .class_ 357), (1, u "java/util/Collections$EmptyEnumeration"), (4, u "EMPTY_SET"), (0, u "Ljava/util/Set;"), (6, u "EMPTY_LIST"), (0, u "Ljava/util/List;"), (2, u "EMPTY_MAP"), (0, u "Ljava/util/Map;"), (4, .class_ 381), (0, u "java/util/Collections$SingletonSet"), (2, .class_ 385), (0, u "java/util/Collections$1"), (1, .class_ 388), (0, u "java/util/Collections$2"), (1, .class_ 391), (0, u "java/util/Collections$SingletonList"), (1, .class_ 394), (0, u "java/util/Collections$SingletonMap"), (22, .class_ 418), (0, u "java/util/Collections$CopiesList"), (4, .class_ 425), (1, u "java/util/Collections$ReverseComparator"), (8, .class_ 435), (0, u "java/util/Collections$ReverseComparator2"), (6, .class_ 443), (0, u "java/util/Collections$3"), (25, .class_ 470), (0, u "java/util/Collections$SetFromMap"), (2, .class_ 474), (0, u "java/util/Collections$SequencedSetFromMap"), (3, .class_ 479), (0, u "java/util/Collections$AsLIFOQueue"), (11, .class_ 492), (0, u "java/util/Collections$EmptySet"), (1, .class_ 495), (0, u "java/util/Collections$EmptyList"), (1, .class_ 498), (0, u "java/util/Collections$EmptyMap"), (1, u "BINARYSEARCH_THRESHOLD"), (0, u "I"), (2, u "REVERSE_THRESHOLD"), (1, u "SHUFFLE_THRESHOLD"), (1, u "FILL_THRESHOLD"), (1, u "ROTATE_THRESHOLD"), (1, u "COPY_THRESHOLD"), (1, u "REPLACEALL_THRESHOLD"), (1, u "INDEXOFSUBLIST_THRESHOLD"), (333, .class_ 851), (0, u "java/util/Collections$CheckedMap$CheckedEntrySet"), (0, .class_ 853), (0, u "java/util/Collections$CheckedMap$CheckedEntrySet$CheckedEntry"), (0, .class_ 855), (0, u "java/util/Collections$CheckedMap$CheckedEntrySet$1"), (0, .class_ 857), (0, u "java/util/Collections$CheckedList$1"), (0, .class_ 859), (0, u "java/util/Collections$CheckedCollection$1"), (0, .class_ 861), (0, u "java/util/Collections$UnmodifiableNavigableMap$EmptyNavigableMap"), (0, .class_ 863), (0, u "java/util/Collections$UnmodifiableMap$UnmodifiableEntrySet"), (0, .class_ 865), (0, u "java/util/Collections$UnmodifiableMap$UnmodifiableEntrySet$UnmodifiableEntry"), (0, .class_ 867), (0, u "java/util/Collections$UnmodifiableMap$UnmodifiableEntrySet$UnmodifiableEntrySetSpliterator"), (0, .class_ 869), (0, u "java/util/Collections$UnmodifiableMap$UnmodifiableEntrySet$1"), (0, .class_ 871), (0, u "java/util/Collections$UnmodifiableList$1"), (0, .class_ 873), (0, u "java/util/Collections$UnmodifiableNavigableSet$EmptyNavigableSet"), (0, .class_ 875), (0, u "java/util/Collections$UnmodifiableCollection$1")] 57

def k24m0 : Method := { name := "<init>", desc := "()V", sig := { parameters := [], returnType := none }, accessFlags := 2, code := none }
/-- java/util/Collections -/
def k24 : Class := { plain "java/util/Collections" (some 0) with
  accessFlags := 33
  interfaces := #[]
  cf := some (fileOf pool24 19 #[.nestMembers #[478, 473, 469, 434, 423, 417, 393, 390, 380, 497, 494, 491, 355, 350, 344, 338, 333, 328, 850, 852, 854, 320, 325, 856, 315, 310, 305, 300, 287, 858, 284, 281, 278, 268, 271, 265, 262, 256, 250, 245, 860, 237, 231, 223, 862, 864, 866, 868, 215, 212, 870, 206, 872, 198, 190, 182, 174, 166, 874, 442, 387, 384]] #[{ accessFlags := 2, nameIndex := 5, descriptorIndex := 6, attributes := #[] }] 33 2 #[] #[{ accessFlags := 26, nameIndex := 500, descriptorIndex := 501, attributes := #[] }, { accessFlags := 26, nameIndex := 504, descriptorIndex := 501, attributes := #[] }, { accessFlags := 26, nameIndex := 506, descriptorIndex := 501, attributes := #[] }, { accessFlags := 26, nameIndex := 508, descriptorIndex := 501, attributes := #[] }, { accessFlags := 26, nameIndex := 510, descriptorIndex := 501, attributes := #[] }, { accessFlags := 26, nameIndex := 512, descriptorIndex := 501, attributes := #[] }, { accessFlags := 26, nameIndex := 514, descriptorIndex := 501, attributes := #[] }, { accessFlags := 26, nameIndex := 516, descriptorIndex := 501, attributes := #[] }, { accessFlags := 10, nameIndex := 84, descriptorIndex := 85, attributes := #[] }, { accessFlags := 25, nameIndex := 362, descriptorIndex := 363, attributes := #[] }, { accessFlags := 25, nameIndex := 370, descriptorIndex := 371, attributes := #[] }, { accessFlags := 25, nameIndex := 374, descriptorIndex := 375, attributes := #[] }])
  fields := #[{ name := "BINARYSEARCH_THRESHOLD", type := .int, accessFlags := 26, slot := 0, constantValue := 0 }, { name := "REVERSE_THRESHOLD", type := .int, accessFlags := 26, slot := 1, constantValue := 0 }, { name := "SHUFFLE_THRESHOLD", type := .int, accessFlags := 26, slot := 2, constantValue := 0 }, { name := "FILL_THRESHOLD", type := .int, accessFlags := 26, slot := 3, constantValue := 0 }, { name := "ROTATE_THRESHOLD", type := .int, accessFlags := 26, slot := 4, constantValue := 0 }, { name := "COPY_THRESHOLD", type := .int, accessFlags := 26, slot := 5, constantValue := 0 }, { name := "REPLACEALL_THRESHOLD", type := .int, accessFlags := 26, slot := 6, constantValue := 0 }, { name := "INDEXOFSUBLIST_THRESHOLD", type := .int, accessFlags := 26, slot := 7, constantValue := 0 }, { name := "r", type := (.object "java/util/Random"), accessFlags := 10, slot := 8, constantValue := 0 }, { name := "EMPTY_SET", type := (.object "java/util/Set"), accessFlags := 25, slot := 9, constantValue := 0 }, { name := "EMPTY_LIST", type := (.object "java/util/List"), accessFlags := 25, slot := 10, constantValue := 0 }, { name := "EMPTY_MAP", type := (.object "java/util/Map"), accessFlags := 25, slot := 11, constantValue := 0 }]
  methods := #[k24m0]
  instanceTypes := #[]
  staticTypes := #[.int, .int, .int, .int, .int, .int, .int, .int, (.object "java/util/Random"), (.object "java/util/Set"), (.object "java/util/List"), (.object "java/util/Map")]
  resolved := Array.replicate 933 none
  statics := some 3 }

def pool25 : Array CpInfo := pool [(8, .class_ 10), (1, u "java/lang/Iterable"), (24, .class_ 36), (0, u "java/lang/Object")] 25

/-- java/lang/Iterable -/
def k25 : Class := { plain "java/lang/Iterable" (some 0) with
  accessFlags := 1537
  interfaces := #[]
  cf := some (fileOf pool25 8 #[] #[] 1537 35 #[] #[])
  fields := #[]
  methods := #[]
  instanceTypes := #[]
  staticTypes := #[]
  resolved := Array.replicate 62 none
  statics := none }

def pool26 : Array CpInfo := pool [(10, .class_ 12), (1, u "java/util/Collection"), (47, .class_ 61), (0, u "java/lang/Object"), (0, .class_ 63), (0, u "java/lang/Iterable")] 51

/-- java/util/Collection -/
def k26 : Class := { plain "java/util/Collection" (some 0) with
  accessFlags := 1537
  interfaces := #[25]
  cf := some (fileOf pool26 10 #[] #[] 1537 60 #[62] #[])
  fields := #[]
  methods := #[]
  instanceTypes := #[]
  staticTypes := #[]
  resolved := Array.replicate 115 none
  statics := none }

def pool27 : Array CpInfo := pool [(2, .class_ 4), (1, u "java/lang/Object"), (0, u "<init>"), (0, u "()V"), (1, .class_ 10), (1, u "java/util/AbstractCollection"), (66, .class_ 78), (0, u "java/util/Collection")] 81

def k27m0 : Method := { name := "<init>", desc := "()V", sig := { parameters := [], returnType := none }, accessFlags := 4, code := none }
/-- java/util/AbstractCollection -/
def k27 : Class := { plain "java/util/AbstractCollection" (some 0) with
  accessFlags := 1057
  interfaces := #[26]
  cf := some (fileOf pool27 8 #[] #[{ accessFlags := 4, nameIndex := 5, descriptorIndex := 6, attributes := #[] }] 1057 2 #[77] #[])
  fields := #[]
  methods := #[k27m0]
  instanceTypes := #[]
  staticTypes := #[]
  resolved := Array.replicate 160 none
  statics := none }

def pool28 : Array CpInfo := pool [(8, .class_ 10), (1, u "java/util/SequencedCollection"), (15, .class_ 27), (0, u "java/lang/Object"), (0, .class_ 29), (0, u "java/util/Collection")] 27

/-- java/util/SequencedCollection -/
def k28 : Class := { plain "java/util/SequencedCollection" (some 0) with
  accessFlags := 1537
  interfaces := #[26]
  cf := some (fileOf pool28 8 #[] #[] 1537 26 #[28] #[])
  fields := #[]
  methods := #[]
  instanceTypes := #[]
  staticTypes := #[]
  resolved := Array.replicate 57 none
  statics := none }

def pool29 : Array CpInfo := pool [(8, .class_ 10), (1, u "java/util/List"), (92, .class_ 104), (0, u "java/lang/Object"), (15, .class_ 121), (0, u "java/util/SequencedCollection")] 129

/-- java/util/List -/
def k29 : Class := { plain "java/util/List" (some 0) with
  accessFlags := 1537
  interfaces := #[28]
  cf := some (fileOf pool29 8 #[] #[] 1537 103 #[120] #[])
  fields := #[]
  methods := #[]
  instanceTypes := #[]
  staticTypes := #[]
  resolved := Array.replicate 251 none
  statics := none }

def pool30 : Array CpInfo := pool [(2, .class_ 4), (1, u "java/util/AbstractCollection"), (0, u "<init>"), (0, u "()V"), (1, .class_ 10), (1, u "java/util/AbstractList"), (0, u "modCount"), (0, u "I"), (64, .class_ 78), (0, u "java/util/AbstractList$Itr"), (3, .class_ 83), (0, u "java/util/AbstractList$ListItr"), (9, .class_ 94), (0, u "java/util/AbstractList$RandomAccessSubList"), (3, .class_ 99), (0, u "java/util/AbstractList$SubList"), (33, .class_ 134), (0, u "java/util/List"), (73, .class_ 209), (0, u "java/util/AbstractList$SubList$1"), (0, .class_ 211), (0, u "java/util/AbstractList$RandomAccessSpliterator")] 6

def k30m0 : Method := { name := "<init>", desc := "()V", sig := { parameters := [], returnType := none }, accessFlags := 4, code := none }
/-- java/util/AbstractList -/
def k30 : Class := { plain "java/util/AbstractList" (some 27) with
  accessFlags := 1057
  interfaces := #[29]
  cf := some (fileOf pool30 8 #[.nestMembers #[93, 98, 208, 210, 82, 77]] #[{ accessFlags := 4, nameIndex := 5, descriptorIndex := 6, attributes := #[] }] 1057 2 #[133] #[{ accessFlags := 132, nameIndex := 11, descriptorIndex := 12, attributes := #[] }])
  fields := #[{ name := "modCount", type := .int, accessFlags := 132, slot := 0, constantValue := 0 }]
  methods := #[k30m0]
  instanceTypes := #[.int]
  staticTypes := #[]
  resolved := Array.replicate 218 none
  statics := none }

def pool31 : Array CpInfo := pool [(1, .class_ 2), (0, u "java/util/RandomAccess"), (0, .class_ 4), (0, u "java/lang/Object")] 2

/-- java/util/RandomAccess -/
def k31 : Class := { plain "java/util/RandomAccess" (some 0) with
  accessFlags := 1537
  interfaces := #[]
  cf := some (fileOf pool31 1 #[] #[] 1537 3 #[] #[])
  fields := #[]
  methods := #[]
  instanceTypes := #[]
  staticTypes := #[]
  resolved := Array.replicate 7 none
  statics := none }

def pool32 : Array CpInfo := pool [(2, .class_ 4), (1, u "java/util/AbstractList"), (0, u "<init>"), (0, u "()V"), (1, .class_ 10), (1, u "java/util/Collections"), (54, .class_ 66), (0, u "java/util/Collections$EmptyList"), (0, .class_ 68), (0, u "java/util/RandomAccess"), (0, .class_ 70), (0, u "java/io/Serializable"), (0, u "serialVersionUID"), (0, u "J")] 77

def k32m0 : Method := { name := "<init>", desc := "()V", sig := { parameters := [], returnType := none }, accessFlags := 2, code := none }
/-- java/util/Collections$EmptyList -/
def k32 : Class := { plain "java/util/Collections$EmptyList" (some 30) with
  accessFlags := 32
  interfaces := #[31, 2]
  cf := some (fileOf pool32 65 #[.nestHost 8] #[{ accessFlags := 2, nameIndex := 5, descriptorIndex := 6, attributes := #[] }] 32 2 #[67, 69] #[{ accessFlags := 26, nameIndex := 71, descriptorIndex := 72, attributes := #[] }])
  fields := #[{ name := "serialVersionUID", type := .long, accessFlags := 26, slot := 0, constantValue := 0 }]
  methods := #[k32m0]
  instanceTypes := #[.int]
  staticTypes := #[.long]
  resolved := Array.replicate 150 none
  statics := none }

def pool33 : Array CpInfo := pool [(2, .class_ 4), (1, u "java/lang/StackTraceElement"), (0, u "<init>"), (2, .class_ 10), (1, u "java/lang/Object"), (0, u "()V"), (2, u "format"), (0, u "B"), (2, u "classLoaderName"), (0, u "Ljava/lang/String;"), (2, u "moduleName"), (2, u "moduleVersion"), (12, u "declaringClass"), (4, u "methodName"), (2, u "fileName"), (2, u "lineNumber"), (0, u "I"), (65, u "declaringClassObject"), (0, u "Ljava/lang/Class;"), (33, .class_ 153), (1, u "java/lang/StackTraceElement$HashedModules"), (17, .class_ 172), (0, u "java/io/Serializable"), (0, u "NATIVE_METHOD"), (1, u "UNKNOWN_SOURCE"), (2, u "BUILTIN_CLASS_LOADER"), (1, u "JDK_NON_UPGRADEABLE_MODULE"), (1, u "serialVersionUID"), (0, u "J")] 51

def k33m0 : Method := { name := "<init>", desc := "()V", sig := { parameters := [], returnType := none }, accessFlags := 2, code := none }
/-- java/lang/StackTraceElement -/
def k33 : Class := { plain "java/lang/StackTraceElement" (some 0) with
  accessFlags := 49
  interfaces := #[2]
  cf := some (fileOf pool33 2 #[.nestMembers #[151]] #[{ accessFlags := 2, nameIndex := 5, descriptorIndex := 11, attributes := #[] }] 49 8 #[171] #[{ accessFlags := 26, nameIndex := 173, descriptorIndex := 19, attributes := #[] }, { accessFlags := 26, nameIndex := 175, descriptorIndex := 19, attributes := #[] }, { accessFlags := 130, nameIndex := 116, descriptorIndex := 117, attributes := #[] }, { accessFlags := 2, nameIndex := 18, descriptorIndex := 19, attributes := #[] }, { accessFlags := 2, nameIndex := 22, descriptorIndex := 19, attributes := #[] }, { accessFlags := 2, nameIndex := 25, descriptorIndex := 19, attributes := #[] }, { accessFlags := 2, nameIndex := 38, descriptorIndex := 19, attributes := #[] }, { accessFlags := 2, nameIndex := 43, descriptorIndex := 19, attributes := #[] }, { accessFlags := 2, nameIndex := 46, descriptorIndex := 19, attributes := #[] }, { accessFlags := 2, nameIndex := 49, descriptorIndex := 50, attributes := #[] }, { accessFlags := 2, nameIndex := 14, descriptorIndex := 15, attributes := #[] }, { accessFlags := 26, nameIndex := 178, descriptorIndex := 15, attributes := #[] }, { accessFlags := 26, nameIndex := 180, descriptorIndex := 15, attributes := #[] }, { accessFlags := 26, nameIndex := 182, descriptorIndex := 183, attributes := #[] }])
  fields := #[{ name := "NATIVE_METHOD", type := (.object "java/lang/String"), accessFlags := 26, slot := 0, constantValue := 0 }, { name := "UNKNOWN_SOURCE", type := (.object "java/lang/String"), accessFlags := 26, slot := 1, constantValue := 0 }, { name := "declaringClassObject", type := (.object "java/lang/Class"), accessFlags := 130, slot := 0, constantValue := 0 }, { name := "classLoaderName", type := (.object "java/lang/String"), accessFlags := 2, slot := 1, constantValue := 0 }, { name := "moduleName", type := (.object "java/lang/String"), accessFlags := 2, slot := 2, constantValue := 0 }, { name := "moduleVersion", type := (.object "java/lang/String"), accessFlags := 2, slot := 3, constantValue := 0 }, { name := "declaringClass", type := (.object "java/lang/String"), accessFlags := 2, slot := 4, constantValue := 0 }, { name := "methodName", type := (.object "java/lang/String"), accessFlags := 2, slot := 5, constantValue := 0 }, { name := "fileName", type := (.object "java/lang/String"), accessFlags := 2, slot := 6, constantValue := 0 }, { name := "lineNumber", type := .int, accessFlags := 2, slot := 7, constantValue := 0 }, { name := "format", type := .byte, accessFlags := 2, slot := 8, constantValue := 0 }, { name := "BUILTIN_CLASS_LOADER", type := .byte, accessFlags := 26, slot := 2, constantValue := 0 }, { name := "JDK_NON_UPGRADEABLE_MODULE", type := .byte, accessFlags := 26, slot := 3, constantValue := 0 }, { name := "serialVersionUID", type := .long, accessFlags := 26, slot := 4, constantValue := 0 }]
  methods := #[k33m0]
  instanceTypes := #[(.object "java/lang/Class"), (.object "java/lang/String"), (.object "java/lang/String"), (.object "java/lang/String"), (.object "java/lang/String"), (.object "java/lang/String"), (.object "java/lang/String"), .int, .byte]
  staticTypes := #[(.object "java/lang/String"), (.object "java/lang/String"), .byte, .byte, .long]
  resolved := Array.replicate 235 none
  statics := none }

def pool34 : Array CpInfo := pool [(1, u "java/lang/Cloneable"), (0, .class_ 1), (0, u "java/lang/Object"), (0, .class_ 3)] 3

/-- java/lang/Cloneable -/
def k34 : Class := { plain "java/lang/Cloneable" (some 0) with
  accessFlags := 1537
  interfaces := #[]
  cf := some (fileOf pool34 2 #[] #[] 1537 4 #[] #[])
  fields := #[]
  methods := #[]
  instanceTypes := #[]
  staticTypes := #[]
  resolved := Array.replicate 8 none
  statics := none }

/-- the primitive byte -/
def k35 : Class := { plain "byte" none with kind := .primitive 'B', accessFlags := 0x411 }
/-- [B -/
def k36 : Class := { plain "[B" (some 0) with kind := .array 35 .byte, interfaces := #[34, 2], accessFlags := 1041 }

/-- the primitive char -/
def k37 : Class := { plain "char" none with kind := .primitive 'C', accessFlags := 0x411 }
/-- [C -/
def k38 : Class := { plain "[C" (some 0) with kind := .array 37 .char, interfaces := #[34, 2], accessFlags := 1041 }

/-- the primitive int -/
def k39 : Class := { plain "int" none with kind := .primitive 'I', accessFlags := 0x411 }
/-- [I -/
def k40 : Class := { plain "[I" (some 0) with kind := .array 39 .int, interfaces := #[34, 2], accessFlags := 1041 }

/-- [Ljava/lang/Object; -/
def k41 : Class := { plain "[Ljava/lang/Object;" (some 0) with kind := .array 0 (.object "java/lang/Object"), interfaces := #[34, 2], accessFlags := 1041 }

/-- [Ljava/lang/StackTraceElement; -/
def k42 : Class := { plain "[Ljava/lang/StackTraceElement;" (some 0) with kind := .array 33 (.object "java/lang/StackTraceElement"), interfaces := #[34, 2], accessFlags := 1041 }

/-- [Ljava/lang/Throwable; -/
def k43 : Class := { plain "[Ljava/lang/Throwable;" (some 0) with kind := .array 10 (.object "java/lang/Throwable"), interfaces := #[34, 2], accessFlags := 1041 }

def heap : Heap := #[{ cls := 7, slots := #[.long 0, .int 1, .null, .int 0, .null, .int 0, .int 0], vm := .statics 7 },
  { cls := 10, slots := #[.long 0, .ref 4, .ref 5, .null, .null, .null, .null, .ref 6, .int 1], vm := .statics 10 },
  { cls := 23, slots := #[.null, .null, .null], vm := .statics 23 },
  { cls := 24, slots := #[.int 0, .int 0, .int 0, .int 0, .int 0, .int 0, .int 0, .int 0, .null, .null, .ref 5, .null], vm := .statics 24 },
  { cls := 42, slots := #[], vm := .none },
  { cls := 32, slots := #[.int 0], vm := .none },
  { cls := 43, slots := #[], vm := .none }]
def classes : Array Class := #[k0, k1, k2, k3, k4, k5, k6, k7, k8, k9, k10, k11, k12, k13, k14, k15, k16, k17, k18, k19, k20, k21, k22, k23, k24, k25, k26, k27, k28, k29, k30, k31, k32, k33, k34, k35, k36, k37, k38, k39, k40, k41, k42, k43]
def interned : List (Array UInt16 × Addr) := []
def slotsUsed : Nat := 32
def theMethod : MethodId := ⟨1, 1⟩
def args0 : Array Value := #[.int 4, .int 5]
def aboutOver (below : List Frame) : State where
  vm := { classes := classes, interned := interned.toArray }
  heap := heap
  slotsUsed := slotsUsed
  threads := #[{ frames := .invoking theMethod args0 :: below }]
def below0 : List Frame := [.native { method := ⟨0, 0⟩, args := #[] }]
def about1 : State := aboutOver below0
def p0 : Program := .bare "" "" ""
def e0 : Env := launch0.env 0 0 0
theorem w_frames : about1.frames = Frame.invoking theMethod args0 :: below0 := rfl
set_option maxRecDepth 65536 in
theorem w_args : argsFit about1.vm theMethod args0 = true := by decide +kernel
set_option maxRecDepth 65536 in
theorem w_heap : heapFits about1 = true := by decide +kernel
set_option maxRecDepth 65536 in
theorem w_runnable : about1.curStatus? = some .runnable := by decide +kernel
set_option maxRecDepth 65536 in
theorem w_alone : about1.alone = true := by decide +kernel
set_option maxRecDepth 65536 in
theorem w_named : about1.methodNamed? x = some theMethod := by decide +kernel
set_option maxRecDepth 65536 in
theorem w_hears : about1.hears theMethod below0 = true := by decide +kernel
set_option maxRecDepth 65536 in
theorem w_ripe : about1.ripe theMethod args0 below0 = true := by decide +kernel
theorem w_running : about1.status = .running := rfl
set_option maxRecDepth 65536 in
theorem w_room : about1.hasRoom e0.platform room_1 = true :=
  launch0.hasRoom_least _ room_1 (by decide +kernel) (by decide +kernel) (by decide +kernel) (by decide +kernel) (by decide +kernel) (by decide +kernel)
theorem allAtoms_all (ts : List Jvm.Cond) (a : Array Jvm.Value) (st : Jvm.State) : (allAtoms ts).before a st = ts.all (fun c => c.before a st) := by
  induction ts with
  | nil => rfl
  | cons c t ih =>
    show (Jvm.Cond.and c (allAtoms t)).before a st = _
    rw [Jvm.Cond.before_and, ih, List.all_cons]
def words1 : List Jvm.Cond := Jvm.Cond.code x code maxLocals ret :: tables_1
/-- a 'code' word, met by the world's own term for the bytes: nothing is compared byte by byte -/
theorem code_word {y : MethodName} {bytes : ByteArray} {mx : Nat} {rt : Option FieldType} {a : Array Value} {s : State} {m : MethodId} {meth : Method} {c : Code} (h1 : s.methodNamed? y = some m) (h2 : s.vm.method? m = some meth) (h3 : meth.code = some c) (h4 : c.code = bytes)
    (h5 : (c.maxLocals == mx && c.exceptionTable.isEmpty && decide (c.maxStack ≤ mostOperands) && decide (meth.sig.returnType = rt) && !meth.locks && decide (parseMethodDescriptor y.desc = some meth.sig)) = true) : (Jvm.Cond.code y bytes mx rt).before a s = true := by
  simp only [Bool.and_eq_true, beq_iff_eq, Bool.not_eq_true', decide_eq_true_eq] at h5
  obtain ⟨⟨⟨⟨⟨g1, g2⟩, g3⟩, g4⟩, g5⟩, g6⟩ := h5
  simp [Cond.before, Cond.holds, Cond.value, h1, h2, h3, h4, g1, g2, g3, g4, g5, g6]
def isCode : Jvm.Cond → Bool
  | .code _ _ _ _ => true
  | _ => false
theorem all_split {L : List Jvm.Cond} {P : Jvm.Cond → Bool} (h1 : L.all (fun c => isCode c || P c) = true) (h2 : ∀ c ∈ L.filter isCode, P c = true) : L.all P = true := by
  refine List.all_eq_true.mpr fun c hc => ?_
  have h := List.all_eq_true.mp h1 c hc
  rcases Bool.eq_false_or_eq_true (isCode c) with hi | hi
  · exact h2 c (List.mem_filter.mpr ⟨hc, hi⟩)
  · simpa [hi] using h
set_option maxRecDepth 65536 in
theorem w_c0 : (Jvm.Cond.code x code maxLocals ret).before args0 about1 = true := code_word (m := ⟨1, 1⟩) (meth := k1m1) (c := k1c1) (by decide +kernel) rfl rfl rfl (by decide +kernel)
set_option maxRecDepth 65536 in
theorem w_c1 : (Jvm.Cond.code ({ cls := "com/example/penelope/penelope/internal/CoverageCannotTakeEffectPinLaw", name := "make", desc := "(ICC)Ljava/lang/String;" } : Jvm.MethodName) method_3_code (4 : Nat) (Option.some (Jvm.ClassFile.FieldType.object "java/lang/String"))).before args0 about1 = true := code_word (m := ⟨1, 2⟩) (meth := k1m2) (c := k1c2) (by decide +kernel) rfl rfl rfl (by decide +kernel)
set_option maxRecDepth 65536 in
theorem w_c2 : (Jvm.Cond.code ({ cls := "java/lang/String", name := "<init>", desc := "([C)V" } : Jvm.MethodName) jdk_42_method_3_code (2 : Nat) (Option.none : Option Jvm.ClassFile.FieldType)).before args0 about1 = true := code_word (m := ⟨7, 1⟩) (meth := k7m1) (c := k7c1) (by decide +kernel) rfl rfl rfl (by decide +kernel)
set_option maxRecDepth 65536 in
theorem w_c3 : (Jvm.Cond.code ({ cls := "java/lang/String", name := "<init>", desc := "([CIILjava/lang/Void;)V" } : Jvm.MethodName) jdk_42_method_149_code (6 : Nat) (Option.none : Option Jvm.ClassFile.FieldType)).before args0 about1 = true := code_word (m := ⟨7, 7⟩) (meth := k7m7) (c := k7c7) (by decide +kernel) rfl rfl rfl (by decide +kernel)
set_option maxRecDepth 65536 in
theorem w_c4 : (Jvm.Cond.code ({ cls := "java/lang/Object", name := "<init>", desc := "()V" } : Jvm.MethodName) object_method_1_code (1 : Nat) (Option.none : Option Jvm.ClassFile.FieldType)).before args0 about1 = true := code_word (m := ⟨0, 0⟩) (meth := k0m0) (c := k0c0) (by decide +kernel) rfl rfl rfl (by decide +kernel)
set_option maxRecDepth 65536 in
theorem w_c5 : (Jvm.Cond.code ({ cls := "com/example/penelope/penelope/internal/CoverageCannotTakeEffectPinLaw", name := "expected", desc := "(ICCICC)Ljava/lang/String;" } : Jvm.MethodName) method_4_code (9 : Nat) (Option.some (Jvm.ClassFile.FieldType.object "java/lang/String"))).before args0 about1 = true := code_word (m := ⟨1, 3⟩) (meth := k1m3) (c := k1c3) (by decide +kernel) rfl rfl rfl (by decide +kernel)
set_option maxRecDepth 65536 in
theorem w_c6 : (Jvm.Cond.code ({ cls := "java/lang/StringUTF16", name := "compress", desc := "([CII)[B" } : Jvm.MethodName) jdk_52_method_16_code (6 : Nat) (Option.some (Jvm.ClassFile.FieldType.array Jvm.ClassFile.FieldType.byte))).before args0 about1 = true := code_word (m := ⟨8, 2⟩) (meth := k8m2) (c := k8c2) (by decide +kernel) rfl rfl rfl (by decide +kernel)
set_option maxRecDepth 65536 in
theorem w_c7 : (Jvm.Cond.code ({ cls := "java/lang/StringUTF16", name := "compress", desc := "([CI[BII)I" } : Jvm.MethodName) jdk_52_method_21_code (7 : Nat) (Option.some Jvm.ClassFile.FieldType.int)).before args0 about1 = true := code_word (m := ⟨8, 3⟩) (meth := k8m3) (c := k8c3) (by decide +kernel) rfl rfl rfl (by decide +kernel)
set_option maxRecDepth 65536 in
theorem w_c8 : (Jvm.Cond.code ({ cls := "java/lang/StringUTF16", name := "coderFromArrayLen", desc := "([BI)B" } : Jvm.MethodName) jdk_52_method_15_code (2 : Nat) (Option.some Jvm.ClassFile.FieldType.byte)).before args0 about1 = true := code_word (m := ⟨8, 1⟩) (meth := k8m1) (c := k8c1) (by decide +kernel) rfl rfl rfl (by decide +kernel)
set_option maxRecDepth 65536 in
theorem w_c9 : (Jvm.Cond.code ({ cls := "com/example/penelope/penelope/internal/Coverage", name := "cannotTakeEffect", desc := "(Ljava/lang/String;Ljava/lang/String;)Lcom/example/penelope/penelope/exception/InterceptionException;" } : Jvm.MethodName) prog_13_method_8_code (2 : Nat) (Option.some (Jvm.ClassFile.FieldType.object "com/example/penelope/penelope/exception/InterceptionException"))).before args0 about1 = true := code_word (m := ⟨9, 1⟩) (meth := k9m1) (c := k9c1) (by decide +kernel) rfl rfl rfl (by decide +kernel)
set_option maxRecDepth 65536 in
theorem w_c10 : (Jvm.Cond.code ({ cls := "java/lang/StringBuilder", name := "<init>", desc := "()V" } : Jvm.MethodName) jdk_67_method_1_code (1 : Nat) (Option.none : Option Jvm.ClassFile.FieldType)).before args0 about1 = true := code_word (m := ⟨17, 0⟩) (meth := k17m0) (c := k17c0) (by decide +kernel) rfl rfl rfl (by decide +kernel)
set_option maxRecDepth 65536 in
theorem w_c11 : (Jvm.Cond.code ({ cls := "java/lang/AbstractStringBuilder", name := "<init>", desc := "(I)V" } : Jvm.MethodName) jdk_68_method_2_code (2 : Nat) (Option.none : Option Jvm.ClassFile.FieldType)).before args0 about1 = true := code_word (m := ⟨16, 1⟩) (meth := k16m1) (c := k16c1) (by decide +kernel) rfl rfl rfl (by decide +kernel)
set_option maxRecDepth 65536 in
theorem w_c12 : (Jvm.Cond.code ({ cls := "java/lang/StringBuilder", name := "append", desc := "(Ljava/lang/String;)Ljava/lang/StringBuilder;" } : Jvm.MethodName) jdk_67_method_7_code (2 : Nat) (Option.some (Jvm.ClassFile.FieldType.object "java/lang/StringBuilder"))).before args0 about1 = true := code_word (m := ⟨17, 1⟩) (meth := k17m1) (c := k17c1) (by decide +kernel) rfl rfl rfl (by decide +kernel)
set_option maxRecDepth 65536 in
theorem w_c13 : (Jvm.Cond.code ({ cls := "java/lang/AbstractStringBuilder", name := "append", desc := "(Ljava/lang/String;)Ljava/lang/AbstractStringBuilder;" } : Jvm.MethodName) jdk_68_method_22_code (3 : Nat) (Option.some (Jvm.ClassFile.FieldType.object "java/lang/AbstractStringBuilder"))).before args0 about1 = true := code_word (m := ⟨16, 5⟩) (meth := k16m5) (c := k16c5) (by decide +kernel) rfl rfl rfl (by decide +kernel)
set_option maxRecDepth 65536 in
theorem w_c14 : (Jvm.Cond.code ({ cls := "java/lang/String", name := "length", desc := "()I" } : Jvm.MethodName) jdk_42_method_54_code (1 : Nat) (Option.some Jvm.ClassFile.FieldType.int)).before args0 about1 = true := code_word (m := ⟨7, 3⟩) (meth := k7m3) (c := k7c3) (by decide +kernel) rfl rfl rfl (by decide +kernel)
set_option maxRecDepth 65536 in
theorem w_c15 : (Jvm.Cond.code ({ cls := "java/lang/String", name := "coder", desc := "()B" } : Jvm.MethodName) jdk_42_method_152_code (1 : Nat) (Option.some Jvm.ClassFile.FieldType.byte)).before args0 about1 = true := code_word (m := ⟨7, 10⟩) (meth := k7m10) (c := k7c10) (by decide +kernel) rfl rfl rfl (by decide +kernel)
set_option maxRecDepth 65536 in
theorem w_c16 : (Jvm.Cond.code ({ cls := "java/lang/AbstractStringBuilder", name := "ensureCapacityInternal", desc := "(I)V" } : Jvm.MethodName) jdk_68_method_9_code (3 : Nat) (Option.none : Option Jvm.ClassFile.FieldType)).before args0 about1 = true := code_word (m := ⟨16, 3⟩) (meth := k16m3) (c := k16c3) (by decide +kernel) rfl rfl rfl (by decide +kernel)
set_option maxRecDepth 65536 in
theorem w_c17 : (Jvm.Cond.code ({ cls := "java/lang/AbstractStringBuilder", name := "putStringAt", desc := "(ILjava/lang/String;)V" } : Jvm.MethodName) jdk_68_method_73_code (3 : Nat) (Option.none : Option Jvm.ClassFile.FieldType)).before args0 about1 = true := code_word (m := ⟨16, 9⟩) (meth := k16m9) (c := k16c9) (by decide +kernel) rfl rfl rfl (by decide +kernel)
set_option maxRecDepth 65536 in
theorem w_c18 : (Jvm.Cond.code ({ cls := "java/lang/AbstractStringBuilder", name := "inflateIfNeededFor", desc := "(Ljava/lang/String;)V" } : Jvm.MethodName) jdk_68_method_71_code (2 : Nat) (Option.none : Option Jvm.ClassFile.FieldType)).before args0 about1 = true := code_word (m := ⟨16, 8⟩) (meth := k16m8) (c := k16c8) (by decide +kernel) rfl rfl rfl (by decide +kernel)
set_option maxRecDepth 65536 in
theorem w_c19 : (Jvm.Cond.code ({ cls := "java/lang/String", name := "getBytes", desc := "([BIB)V" } : Jvm.MethodName) jdk_42_method_147_code (4 : Nat) (Option.none : Option Jvm.ClassFile.FieldType)).before args0 about1 = true := code_word (m := ⟨7, 6⟩) (meth := k7m6) (c := k7c6) (by decide +kernel) rfl rfl rfl (by decide +kernel)
set_option maxRecDepth 65536 in
theorem w_c20 : (Jvm.Cond.code ({ cls := "java/lang/AbstractStringBuilder", name := "newCapacity", desc := "(I)I" } : Jvm.MethodName) jdk_68_method_10_code (6 : Nat) (Option.some Jvm.ClassFile.FieldType.int)).before args0 about1 = true := code_word (m := ⟨16, 4⟩) (meth := k16m4) (c := k16c4) (by decide +kernel) rfl rfl rfl (by decide +kernel)
set_option maxRecDepth 65536 in
theorem w_c21 : (Jvm.Cond.code ({ cls := "jdk/internal/util/ArraysSupport", name := "newLength", desc := "(III)I" } : Jvm.MethodName) jdk_48_method_27_code (4 : Nat) (Option.some Jvm.ClassFile.FieldType.int)).before args0 about1 = true := code_word (m := ⟨19, 1⟩) (meth := k19m1) (c := k19c1) (by decide +kernel) rfl rfl rfl (by decide +kernel)
set_option maxRecDepth 65536 in
theorem w_c22 : (Jvm.Cond.code ({ cls := "java/lang/Math", name := "max", desc := "(II)I" } : Jvm.MethodName) jdk_29_method_65_code (2 : Nat) (Option.some Jvm.ClassFile.FieldType.int)).before args0 about1 = true := code_word (m := ⟨20, 1⟩) (meth := k20m1) (c := k20c1) (by decide +kernel) rfl rfl rfl (by decide +kernel)
set_option maxRecDepth 65536 in
theorem w_c23 : (Jvm.Cond.code ({ cls := "java/util/Arrays", name := "copyOf", desc := "([BI)[B" } : Jvm.MethodName) jdk_65_method_121_code (3 : Nat) (Option.some (Jvm.ClassFile.FieldType.array Jvm.ClassFile.FieldType.byte))).before args0 about1 = true := code_word (m := ⟨21, 1⟩) (meth := k21m1) (c := k21c1) (by decide +kernel) rfl rfl rfl (by decide +kernel)
set_option maxRecDepth 65536 in
theorem w_c24 : (Jvm.Cond.code ({ cls := "java/lang/Math", name := "min", desc := "(II)I" } : Jvm.MethodName) jdk_29_method_69_code (2 : Nat) (Option.some Jvm.ClassFile.FieldType.int)).before args0 about1 = true := code_word (m := ⟨20, 2⟩) (meth := k20m2) (c := k20c2) (by decide +kernel) rfl rfl rfl (by decide +kernel)
set_option maxRecDepth 65536 in
theorem w_c25 : (Jvm.Cond.code ({ cls := "java/lang/StringBuilder", name := "toString", desc := "()Ljava/lang/String;" } : Jvm.MethodName) jdk_67_method_42_code (1 : Nat) (Option.some (Jvm.ClassFile.FieldType.object "java/lang/String"))).before args0 about1 = true := code_word (m := ⟨17, 2⟩) (meth := k17m2) (c := k17c2) (by decide +kernel) rfl rfl rfl (by decide +kernel)
set_option maxRecDepth 65536 in
theorem w_c26 : (Jvm.Cond.code ({ cls := "java/lang/String", name := "<init>", desc := "(Ljava/lang/StringBuilder;)V" } : Jvm.MethodName) jdk_42_method_53_code (2 : Nat) (Option.none : Option Jvm.ClassFile.FieldType)).before args0 about1 = true := code_word (m := ⟨7, 2⟩) (meth := k7m2) (c := k7c2) (by decide +kernel) rfl rfl rfl (by decide +kernel)
set_option maxRecDepth 65536 in
theorem w_c27 : (Jvm.Cond.code ({ cls := "java/lang/String", name := "<init>", desc := "(Ljava/lang/AbstractStringBuilder;Ljava/lang/Void;)V" } : Jvm.MethodName) jdk_42_method_150_code (5 : Nat) (Option.none : Option Jvm.ClassFile.FieldType)).before args0 about1 = true := code_word (m := ⟨7, 8⟩) (meth := k7m8) (c := k7c8) (by decide +kernel) rfl rfl rfl (by decide +kernel)
set_option maxRecDepth 65536 in
theorem w_c28 : (Jvm.Cond.code ({ cls := "java/lang/AbstractStringBuilder", name := "getValue", desc := "()[B" } : Jvm.MethodName) jdk_68_method_64_code (1 : Nat) (Option.some (Jvm.ClassFile.FieldType.array Jvm.ClassFile.FieldType.byte))).before args0 about1 = true := code_word (m := ⟨16, 6⟩) (meth := k16m6) (c := k16c6) (by decide +kernel) rfl rfl rfl (by decide +kernel)
set_option maxRecDepth 65536 in
theorem w_c29 : (Jvm.Cond.code ({ cls := "java/lang/StringBuilder", name := "length", desc := "()I" } : Jvm.MethodName) jdk_67_method_93_code (1 : Nat) (Option.some Jvm.ClassFile.FieldType.int)).before args0 about1 = true := code_word (m := ⟨17, 3⟩) (meth := k17m3) (c := k17c3) (by decide +kernel) rfl rfl rfl (by decide +kernel)
set_option maxRecDepth 65536 in
theorem w_c30 : (Jvm.Cond.code ({ cls := "java/lang/AbstractStringBuilder", name := "length", desc := "()I" } : Jvm.MethodName) jdk_68_method_6_code (1 : Nat) (Option.some Jvm.ClassFile.FieldType.int)).before args0 about1 = true := code_word (m := ⟨16, 2⟩) (meth := k16m2) (c := k16c2) (by decide +kernel) rfl rfl rfl (by decide +kernel)
set_option maxRecDepth 65536 in
theorem w_c31 : (Jvm.Cond.code ({ cls := "java/lang/AbstractStringBuilder", name := "isLatin1", desc := "()Z" } : Jvm.MethodName) jdk_68_method_68_code (1 : Nat) (Option.some Jvm.ClassFile.FieldType.boolean)).before args0 about1 = true := code_word (m := ⟨16, 7⟩) (meth := k16m7) (c := k16c7) (by decide +kernel) rfl rfl rfl (by decide +kernel)
set_option maxRecDepth 65536 in
theorem w_c32 : (Jvm.Cond.code ({ cls := "java/util/Arrays", name := "copyOfRange", desc := "([BII)[B" } : Jvm.MethodName) jdk_65_method_132_code (3 : Nat) (Option.some (Jvm.ClassFile.FieldType.array Jvm.ClassFile.FieldType.byte))).before args0 about1 = true := code_word (m := ⟨21, 3⟩) (meth := k21m3) (c := k21c3) (by decide +kernel) rfl rfl rfl (by decide +kernel)
set_option maxRecDepth 65536 in
theorem w_c33 : (Jvm.Cond.code ({ cls := "java/util/Arrays", name := "copyOfRangeByte", desc := "([BII)[B" } : Jvm.MethodName) jdk_65_method_133_code (5 : Nat) (Option.some (Jvm.ClassFile.FieldType.array Jvm.ClassFile.FieldType.byte))).before args0 about1 = true := code_word (m := ⟨21, 4⟩) (meth := k21m4) (c := k21c4) (by decide +kernel) rfl rfl rfl (by decide +kernel)
set_option maxRecDepth 65536 in
theorem w_c34 : (Jvm.Cond.code ({ cls := "java/util/Arrays", name := "checkLength", desc := "(II)V" } : Jvm.MethodName) jdk_65_method_131_code (2 : Nat) (Option.none : Option Jvm.ClassFile.FieldType)).before args0 about1 = true := code_word (m := ⟨21, 2⟩) (meth := k21m2) (c := k21c2) (by decide +kernel) rfl rfl rfl (by decide +kernel)
set_option maxRecDepth 65536 in
theorem w_c35 : (Jvm.Cond.code ({ cls := "com/example/penelope/penelope/exception/InterceptionException", name := "<init>", desc := "(Ljava/lang/String;)V" } : Jvm.MethodName) prog_7_method_1_code (2 : Nat) (Option.none : Option Jvm.ClassFile.FieldType)).before args0 about1 = true := code_word (m := ⟨14, 0⟩) (meth := k14m0) (c := k14c0) (by decide +kernel) rfl rfl rfl (by decide +kernel)
set_option maxRecDepth 65536 in
theorem w_c36 : (Jvm.Cond.code ({ cls := "com/example/penelope/penelope/exception/TransactionException", name := "<init>", desc := "(Ljava/lang/String;Ljava/lang/Throwable;)V" } : Jvm.MethodName) prog_10_method_1_code (3 : Nat) (Option.none : Option Jvm.ClassFile.FieldType)).before args0 about1 = true := code_word (m := ⟨13, 0⟩) (meth := k13m0) (c := k13c0) (by decide +kernel) rfl rfl rfl (by decide +kernel)
set_option maxRecDepth 65536 in
theorem w_c37 : (Jvm.Cond.code ({ cls := "java/lang/RuntimeException", name := "<init>", desc := "(Ljava/lang/String;Ljava/lang/Throwable;)V" } : Jvm.MethodName) jdk_58_method_3_code (3 : Nat) (Option.none : Option Jvm.ClassFile.FieldType)).before args0 about1 = true := code_word (m := ⟨12, 1⟩) (meth := k12m1) (c := k12c1) (by decide +kernel) rfl rfl rfl (by decide +kernel)
set_option maxRecDepth 65536 in
theorem w_c38 : (Jvm.Cond.code ({ cls := "java/lang/Exception", name := "<init>", desc := "(Ljava/lang/String;Ljava/lang/Throwable;)V" } : Jvm.MethodName) jdk_59_method_3_code (3 : Nat) (Option.none : Option Jvm.ClassFile.FieldType)).before args0 about1 = true := code_word (m := ⟨11, 1⟩) (meth := k11m1) (c := k11c1) (by decide +kernel) rfl rfl rfl (by decide +kernel)
set_option maxRecDepth 65536 in
theorem w_c39 : (Jvm.Cond.code ({ cls := "java/lang/Throwable", name := "<init>", desc := "(Ljava/lang/String;Ljava/lang/Throwable;)V" } : Jvm.MethodName) jdk_78_method_3_code (3 : Nat) (Option.none : Option Jvm.ClassFile.FieldType)).before args0 about1 = true := code_word (m := ⟨10, 1⟩) (meth := k10m1) (c := k10c1) (by decide +kernel) rfl rfl rfl (by decide +kernel)
set_option maxRecDepth 65536 in
theorem w_c40 : (Jvm.Cond.code ({ cls := "java/lang/Throwable", name := "<init>", desc := "()V" } : Jvm.MethodName) jdk_78_method_1_code (1 : Nat) (Option.none : Option Jvm.ClassFile.FieldType)).before args0 about1 = true := code_word (m := ⟨10, 0⟩) (meth := k10m0) (c := k10c0) (by decide +kernel) rfl rfl rfl (by decide +kernel)
set_option maxRecDepth 65536 in
theorem w_c41 : (Jvm.Cond.code ({ cls := "java/lang/Throwable", name := "getMessage", desc := "()Ljava/lang/String;" } : Jvm.MethodName) jdk_78_method_6_code (1 : Nat) (Option.some (Jvm.ClassFile.FieldType.object "java/lang/String"))).before args0 about1 = true := code_word (m := ⟨10, 2⟩) (meth := k10m2) (c := k10c2) (by decide +kernel) rfl rfl rfl (by decide +kernel)
set_option maxRecDepth 65536 in
theorem w_c42 : (Jvm.Cond.code ({ cls := "java/lang/String", name := "equals", desc := "(Ljava/lang/Object;)Z" } : Jvm.MethodName) jdk_42_method_66_code (3 : Nat) (Option.some Jvm.ClassFile.FieldType.boolean)).before args0 about1 = true := code_word (m := ⟨7, 4⟩) (meth := k7m4) (c := k7c4) (by decide +kernel) rfl rfl rfl (by decide +kernel)
set_option maxRecDepth 65536 in
theorem w_c43 : (Jvm.Cond.code ({ cls := "java/lang/StringLatin1", name := "equals", desc := "([B[B)Z" } : Jvm.MethodName) jdk_43_method_13_code (3 : Nat) (Option.some Jvm.ClassFile.FieldType.boolean)).before args0 about1 = true := code_word (m := ⟨22, 2⟩) (meth := k22m2) (c := k22c2) (by decide +kernel) rfl rfl rfl (by decide +kernel)
set_option maxRecDepth 65536 in
theorem w_c44 : (Jvm.Cond.code ({ cls := "java/lang/String", name := "valueOf", desc := "(C)Ljava/lang/String;" } : Jvm.MethodName) jdk_42_method_139_code (1 : Nat) (Option.some (Jvm.ClassFile.FieldType.object "java/lang/String"))).before args0 about1 = true := code_word (m := ⟨7, 5⟩) (meth := k7m5) (c := k7c5) (by decide +kernel) rfl rfl rfl (by decide +kernel)
set_option maxRecDepth 65536 in
theorem w_c45 : (Jvm.Cond.code ({ cls := "java/lang/StringLatin1", name := "canEncode", desc := "(C)Z" } : Jvm.MethodName) jdk_43_method_3_code (1 : Nat) (Option.some Jvm.ClassFile.FieldType.boolean)).before args0 about1 = true := code_word (m := ⟨22, 1⟩) (meth := k22m1) (c := k22c1) (by decide +kernel) rfl rfl rfl (by decide +kernel)
set_option maxRecDepth 65536 in
theorem w_c46 : (Jvm.Cond.code ({ cls := "java/lang/StringLatin1", name := "toBytes", desc := "(C)[B" } : Jvm.MethodName) jdk_43_method_46_code (1 : Nat) (Option.some (Jvm.ClassFile.FieldType.array Jvm.ClassFile.FieldType.byte))).before args0 about1 = true := code_word (m := ⟨22, 3⟩) (meth := k22m3) (c := k22c3) (by decide +kernel) rfl rfl rfl (by decide +kernel)
set_option maxRecDepth 65536 in
theorem w_c47 : (Jvm.Cond.code ({ cls := "java/lang/String", name := "<init>", desc := "([BB)V" } : Jvm.MethodName) jdk_42_method_151_code (3 : Nat) (Option.none : Option Jvm.ClassFile.FieldType)).before args0 about1 = true := code_word (m := ⟨7, 9⟩) (meth := k7m9) (c := k7c9) (by decide +kernel) rfl rfl rfl (by decide +kernel)
def codes1 : List Jvm.Cond := [Jvm.Cond.code x code maxLocals ret, Jvm.Cond.code ({ cls := "com/example/penelope/penelope/internal/CoverageCannotTakeEffectPinLaw", name := "make", desc := "(ICC)Ljava/lang/String;" } : Jvm.MethodName) method_3_code (4 : Nat) (Option.some (Jvm.ClassFile.FieldType.object "java/lang/String")), Jvm.Cond.code ({ cls := "java/lang/String", name := "<init>", desc := "([C)V" } : Jvm.MethodName) jdk_42_method_3_code (2 : Nat) (Option.none : Option Jvm.ClassFile.FieldType), Jvm.Cond.code ({ cls := "java/lang/String", name := "<init>", desc := "([CIILjava/lang/Void;)V" } : Jvm.MethodName) jdk_42_method_149_code (6 : Nat) (Option.none : Option Jvm.ClassFile.FieldType), Jvm.Cond.code ({ cls := "java/lang/Object", name := "<init>", desc := "()V" } : Jvm.MethodName) object_method_1_code (1 : Nat) (Option.none : Option Jvm.ClassFile.FieldType), Jvm.Cond.code ({ cls := "com/example/penelope/penelope/internal/CoverageCannotTakeEffectPinLaw", name := "expected", desc := "(ICCICC)Ljava/lang/String;" } : Jvm.MethodName) method_4_code (9 : Nat) (Option.some (Jvm.ClassFile.FieldType.object "java/lang/String")), Jvm.Cond.code ({ cls := "java/lang/StringUTF16", name := "compress", desc := "([CII)[B" } : Jvm.MethodName) jdk_52_method_16_code (6 : Nat) (Option.some (Jvm.ClassFile.FieldType.array Jvm.ClassFile.FieldType.byte)), Jvm.Cond.code ({ cls := "java/lang/StringUTF16", name := "compress", desc := "([CI[BII)I" } : Jvm.MethodName) jdk_52_method_21_code (7 : Nat) (Option.some Jvm.ClassFile.FieldType.int), Jvm.Cond.code ({ cls := "java/lang/StringUTF16", name := "coderFromArrayLen", desc := "([BI)B" } : Jvm.MethodName) jdk_52_method_15_code (2 : Nat) (Option.some Jvm.ClassFile.FieldType.byte), Jvm.Cond.code ({ cls := "com/example/penelope/penelope/internal/Coverage", name := "cannotTakeEffect", desc := "(Ljava/lang/String;Ljava/lang/String;)Lcom/example/penelope/penelope/exception/InterceptionException;" } : Jvm.MethodName) prog_13_method_8_code (2 : Nat) (Option.some (Jvm.ClassFile.FieldType.object "com/example/penelope/penelope/exception/InterceptionException")), Jvm.Cond.code ({ cls := "java/lang/StringBuilder", name := "<init>", desc := "()V" } : Jvm.MethodName) jdk_67_method_1_code (1 : Nat) (Option.none : Option Jvm.ClassFile.FieldType), Jvm.Cond.code ({ cls := "java/lang/AbstractStringBuilder", name := "<init>", desc := "(I)V" } : Jvm.MethodName) jdk_68_method_2_code (2 : Nat) (Option.none : Option Jvm.ClassFile.FieldType), Jvm.Cond.code ({ cls := "java/lang/StringBuilder", name := "append", desc := "(Ljava/lang/String;)Ljava/lang/StringBuilder;" } : Jvm.MethodName) jdk_67_method_7_code (2 : Nat) (Option.some (Jvm.ClassFile.FieldType.object "java/lang/StringBuilder")), Jvm.Cond.code ({ cls := "java/lang/AbstractStringBuilder", name := "append", desc := "(Ljava/lang/String;)Ljava/lang/AbstractStringBuilder;" } : Jvm.MethodName) jdk_68_method_22_code (3 : Nat) (Option.some (Jvm.ClassFile.FieldType.object "java/lang/AbstractStringBuilder")), Jvm.Cond.code ({ cls := "java/lang/String", name := "length", desc := "()I" } : Jvm.MethodName) jdk_42_method_54_code (1 : Nat) (Option.some Jvm.ClassFile.FieldType.int), Jvm.Cond.code ({ cls := "java/lang/String", name := "coder", desc := "()B" } : Jvm.MethodName) jdk_42_method_152_code (1 : Nat) (Option.some Jvm.ClassFile.FieldType.byte), Jvm.Cond.code ({ cls := "java/lang/AbstractStringBuilder", name := "ensureCapacityInternal", desc := "(I)V" } : Jvm.MethodName) jdk_68_method_9_code (3 : Nat) (Option.none : Option Jvm.ClassFile.FieldType), Jvm.Cond.code ({ cls := "java/lang/AbstractStringBuilder", name := "putStringAt", desc := "(ILjava/lang/String;)V" } : Jvm.MethodName) jdk_68_method_73_code (3 : Nat) (Option.none : Option Jvm.ClassFile.FieldType), Jvm.Cond.code ({ cls := "java/lang/AbstractStringBuilder", name := "inflateIfNeededFor", desc := "(Ljava/lang/String;)V" } : Jvm.MethodName) jdk_68_method_71_code (2 : Nat) (Option.none : Option Jvm.ClassFile.FieldType), Jvm.Cond.code ({ cls := "java/lang/String", name := "getBytes", desc := "([BIB)V" } : Jvm.MethodName) jdk_42_method_147_code (4 : Nat) (Option.none : Option Jvm.ClassFile.FieldType), Jvm.Cond.code ({ cls := "java/lang/AbstractStringBuilder", name := "newCapacity", desc := "(I)I" } : Jvm.MethodName) jdk_68_method_10_code (6 : Nat) (Option.some Jvm.ClassFile.FieldType.int), Jvm.Cond.code ({ cls := "jdk/internal/util/ArraysSupport", name := "newLength", desc := "(III)I" } : Jvm.MethodName) jdk_48_method_27_code (4 : Nat) (Option.some Jvm.ClassFile.FieldType.int), Jvm.Cond.code ({ cls := "java/lang/Math", name := "max", desc := "(II)I" } : Jvm.MethodName) jdk_29_method_65_code (2 : Nat) (Option.some Jvm.ClassFile.FieldType.int), Jvm.Cond.code ({ cls := "java/util/Arrays", name := "copyOf", desc := "([BI)[B" } : Jvm.MethodName) jdk_65_method_121_code (3 : Nat) (Option.some (Jvm.ClassFile.FieldType.array Jvm.ClassFile.FieldType.byte)), Jvm.Cond.code ({ cls := "java/lang/Math", name := "min", desc := "(II)I" } : Jvm.MethodName) jdk_29_method_69_code (2 : Nat) (Option.some Jvm.ClassFile.FieldType.int), Jvm.Cond.code ({ cls := "java/lang/StringBuilder", name := "toString", desc := "()Ljava/lang/String;" } : Jvm.MethodName) jdk_67_method_42_code (1 : Nat) (Option.some (Jvm.ClassFile.FieldType.object "java/lang/String")), Jvm.Cond.code ({ cls := "java/lang/String", name := "<init>", desc := "(Ljava/lang/StringBuilder;)V" } : Jvm.MethodName) jdk_42_method_53_code (2 : Nat) (Option.none : Option Jvm.ClassFile.FieldType), Jvm.Cond.code ({ cls := "java/lang/String", name := "<init>", desc := "(Ljava/lang/AbstractStringBuilder;Ljava/lang/Void;)V" } : Jvm.MethodName) jdk_42_method_150_code (5 : Nat) (Option.none : Option Jvm.ClassFile.FieldType), Jvm.Cond.code ({ cls := "java/lang/AbstractStringBuilder", name := "getValue", desc := "()[B" } : Jvm.MethodName) jdk_68_method_64_code (1 : Nat) (Option.some (Jvm.ClassFile.FieldType.array Jvm.ClassFile.FieldType.byte)), Jvm.Cond.code ({ cls := "java/lang/StringBuilder", name := "length", desc := "()I" } : Jvm.MethodName) jdk_67_method_93_code (1 : Nat) (Option.some Jvm.ClassFile.FieldType.int), Jvm.Cond.code ({ cls := "java/lang/AbstractStringBuilder", name := "length", desc := "()I" } : Jvm.MethodName) jdk_68_method_6_code (1 : Nat) (Option.some Jvm.ClassFile.FieldType.int), Jvm.Cond.code ({ cls := "java/lang/AbstractStringBuilder", name := "isLatin1", desc := "()Z" } : Jvm.MethodName) jdk_68_method_68_code (1 : Nat) (Option.some Jvm.ClassFile.FieldType.boolean), Jvm.Cond.code ({ cls := "java/util/Arrays", name := "copyOfRange", desc := "([BII)[B" } : Jvm.MethodName) jdk_65_method_132_code (3 : Nat) (Option.some (Jvm.ClassFile.FieldType.array Jvm.ClassFile.FieldType.byte)), Jvm.Cond.code ({ cls := "java/util/Arrays", name := "copyOfRangeByte", desc := "([BII)[B" } : Jvm.MethodName) jdk_65_method_133_code (5 : Nat) (Option.some (Jvm.ClassFile.FieldType.array Jvm.ClassFile.FieldType.byte)), Jvm.Cond.code ({ cls := "java/util/Arrays", name := "checkLength", desc := "(II)V" } : Jvm.MethodName) jdk_65_method_131_code (2 : Nat) (Option.none : Option Jvm.ClassFile.FieldType), Jvm.Cond.code ({ cls := "com/example/penelope/penelope/exception/InterceptionException", name := "<init>", desc := "(Ljava/lang/String;)V" } : Jvm.MethodName) prog_7_method_1_code (2 : Nat) (Option.none : Option Jvm.ClassFile.FieldType), Jvm.Cond.code ({ cls := "com/example/penelope/penelope/exception/TransactionException", name := "<init>", desc := "(Ljava/lang/String;Ljava/lang/Throwable;)V" } : Jvm.MethodName) prog_10_method_1_code (3 : Nat) (Option.none : Option Jvm.ClassFile.FieldType), Jvm.Cond.code ({ cls := "java/lang/RuntimeException", name := "<init>", desc := "(Ljava/lang/String;Ljava/lang/Throwable;)V" } : Jvm.MethodName) jdk_58_method_3_code (3 : Nat) (Option.none : Option Jvm.ClassFile.FieldType), Jvm.Cond.code ({ cls := "java/lang/Exception", name := "<init>", desc := "(Ljava/lang/String;Ljava/lang/Throwable;)V" } : Jvm.MethodName) jdk_59_method_3_code (3 : Nat) (Option.none : Option Jvm.ClassFile.FieldType), Jvm.Cond.code ({ cls := "java/lang/Throwable", name := "<init>", desc := "(Ljava/lang/String;Ljava/lang/Throwable;)V" } : Jvm.MethodName) jdk_78_method_3_code (3 : Nat) (Option.none : Option Jvm.ClassFile.FieldType), Jvm.Cond.code ({ cls := "java/lang/Throwable", name := "<init>", desc := "()V" } : Jvm.MethodName) jdk_78_method_1_code (1 : Nat) (Option.none : Option Jvm.ClassFile.FieldType), Jvm.Cond.code ({ cls := "java/lang/Throwable", name := "getMessage", desc := "()Ljava/lang/String;" } : Jvm.MethodName) jdk_78_method_6_code (1 : Nat) (Option.some (Jvm.ClassFile.FieldType.object "java/lang/String")), Jvm.Cond.code ({ cls := "java/lang/String", name := "equals", desc := "(Ljava/lang/Object;)Z" } : Jvm.MethodName) jdk_42_method_66_code (3 : Nat) (Option.some Jvm.ClassFile.FieldType.boolean), Jvm.Cond.code ({ cls := "java/lang/StringLatin1", name := "equals", desc := "([B[B)Z" } : Jvm.MethodName) jdk_43_method_13_code (3 : Nat) (Option.some Jvm.ClassFile.FieldType.boolean), Jvm.Cond.code ({ cls := "java/lang/String", name := "valueOf", desc := "(C)Ljava/lang/String;" } : Jvm.MethodName) jdk_42_method_139_code (1 : Nat) (Option.some (Jvm.ClassFile.FieldType.object "java/lang/String")), Jvm.Cond.code ({ cls := "java/lang/StringLatin1", name := "canEncode", desc := "(C)Z" } : Jvm.MethodName) jdk_43_method_3_code (1 : Nat) (Option.some Jvm.ClassFile.FieldType.boolean), Jvm.Cond.code ({ cls := "java/lang/StringLatin1", name := "toBytes", desc := "(C)[B" } : Jvm.MethodName) jdk_43_method_46_code (1 : Nat) (Option.some (Jvm.ClassFile.FieldType.array Jvm.ClassFile.FieldType.byte)), Jvm.Cond.code ({ cls := "java/lang/String", name := "<init>", desc := "([BB)V" } : Jvm.MethodName) jdk_42_method_151_code (3 : Nat) (Option.none : Option Jvm.ClassFile.FieldType)]
set_option maxRecDepth 65536 in
theorem codes_eq : words1.filter isCode = codes1 := rfl
theorem w_codes : ∀ c ∈ words1.filter isCode, c.before args0 about1 = true := by
  rw [codes_eq]
  intro c hc
  simp only [codes1, List.mem_cons, List.not_mem_nil, or_false] at hc
  rcases hc with rfl | rfl | rfl | rfl | rfl | rfl | rfl | rfl | rfl | rfl | rfl | rfl | rfl | rfl | rfl | rfl | rfl | rfl | rfl | rfl | rfl | rfl | rfl | rfl | rfl | rfl | rfl | rfl | rfl | rfl | rfl | rfl | rfl | rfl | rfl | rfl | rfl | rfl | rfl | rfl | rfl | rfl | rfl | rfl | rfl | rfl | rfl | rfl
  · exact w_c0
  · exact w_c1
  · exact w_c2
  · exact w_c3
  · exact w_c4
  · exact w_c5
  · exact w_c6
  · exact w_c7
  · exact w_c8
  · exact w_c9
  · exact w_c10
  · exact w_c11
  · exact w_c12
  · exact w_c13
  · exact w_c14
  · exact w_c15
  · exact w_c16
  · exact w_c17
  · exact w_c18
  · exact w_c19
  · exact w_c20
  · exact w_c21
  · exact w_c22
  · exact w_c23
  · exact w_c24
  · exact w_c25
  · exact w_c26
  · exact w_c27
  · exact w_c28
  · exact w_c29
  · exact w_c30
  · exact w_c31
  · exact w_c32
  · exact w_c33
  · exact w_c34
  · exact w_c35
  · exact w_c36
  · exact w_c37
  · exact w_c38
  · exact w_c39
  · exact w_c40
  · exact w_c41
  · exact w_c42
  · exact w_c43
  · exact w_c44
  · exact w_c45
  · exact w_c46
  · exact w_c47
set_option maxRecDepth 65536 in
theorem w_t1 : (words1.take 24).all (fun c => isCode c || c.before args0 about1) = true := by decide +kernel
set_option maxRecDepth 65536 in
theorem w_t2 : ((words1.drop 24).take 24).all (fun c => isCode c || c.before args0 about1) = true := by decide +kernel
set_option maxRecDepth 65536 in
theorem w_t3 : (((words1.drop 24).drop 24).take 24).all (fun c => isCode c || c.before args0 about1) = true := by decide +kernel
set_option maxRecDepth 65536 in
theorem w_t4 : ((((words1.drop 24).drop 24).drop 24).take 24).all (fun c => isCode c || c.before args0 about1) = true := by decide +kernel
set_option maxRecDepth 65536 in
theorem w_t5 : (((((words1.drop 24).drop 24).drop 24).drop 24).take 24).all (fun c => isCode c || c.before args0 about1) = true := by decide +kernel
set_option maxRecDepth 65536 in
theorem w_t6 : ((((((words1.drop 24).drop 24).drop 24).drop 24).drop 24).take 24).all (fun c => isCode c || c.before args0 about1) = true := by decide +kernel
set_option maxRecDepth 65536 in
theorem w_t7 : (((((((words1.drop 24).drop 24).drop 24).drop 24).drop 24).drop 24).take 24).all (fun c => isCode c || c.before args0 about1) = true := by decide +kernel
set_option maxRecDepth 65536 in
theorem w_t8 : ((((((((words1.drop 24).drop 24).drop 24).drop 24).drop 24).drop 24).drop 24).take 24).all (fun c => isCode c || c.before args0 about1) = true := by decide +kernel
set_option maxRecDepth 65536 in
theorem w_t9 : (((((((((words1.drop 24).drop 24).drop 24).drop 24).drop 24).drop 24).drop 24).drop 24).take 24).all (fun c => isCode c || c.before args0 about1) = true := by decide +kernel
set_option maxRecDepth 65536 in
theorem w_t10 : ((((((((((words1.drop 24).drop 24).drop 24).drop 24).drop 24).drop 24).drop 24).drop 24).drop 24).take 24).all (fun c => isCode c || c.before args0 about1) = true := by decide +kernel
set_option maxRecDepth 65536 in
theorem w_t11 : (((((((((((words1.drop 24).drop 24).drop 24).drop 24).drop 24).drop 24).drop 24).drop 24).drop 24).drop 24).take 24).all (fun c => isCode c || c.before args0 about1) = true := by decide +kernel
set_option maxRecDepth 65536 in
theorem w_t12 : (((((((((((words1.drop 24).drop 24).drop 24).drop 24).drop 24).drop 24).drop 24).drop 24).drop 24).drop 24).drop 24).all (fun c => isCode c || c.before args0 about1) = true := by decide +kernel
theorem w_tables : (allAtoms (Jvm.Cond.code x code maxLocals ret :: tables_1)).before args0 about1 = true := by
  rw [allAtoms_all]
  show words1.all (fun c => c.before args0 about1) = true
  refine all_split ?_ w_codes
  rw [← List.take_append_drop 24 words1, List.all_append, w_t1, ← List.take_append_drop 24 (words1.drop 24), List.all_append, w_t2, ← List.take_append_drop 24 ((words1.drop 24).drop 24), List.all_append, w_t3, ← List.take_append_drop 24 (((words1.drop 24).drop 24).drop 24), List.all_append, w_t4, ← List.take_append_drop 24 ((((words1.drop 24).drop 24).drop 24).drop 24), List.all_append, w_t5, ← List.take_append_drop 24 (((((words1.drop 24).drop 24).drop 24).drop 24).drop 24), List.all_append, w_t6, ← List.take_append_drop 24 ((((((words1.drop 24).drop 24).drop 24).drop 24).drop 24).drop 24), List.all_append, w_t7, ← List.take_append_drop 24 (((((((words1.drop 24).drop 24).drop 24).drop 24).drop 24).drop 24).drop 24), List.all_append, w_t8, ← List.take_append_drop 24 ((((((((words1.drop 24).drop 24).drop 24).drop 24).drop 24).drop 24).drop 24).drop 24), List.all_append, w_t9, ← List.take_append_drop 24 (((((((((words1.drop 24).drop 24).drop 24).drop 24).drop 24).drop 24).drop 24).drop 24).drop 24), List.all_append, w_t10, ← List.take_append_drop 24 ((((((((((words1.drop 24).drop 24).drop 24).drop 24).drop 24).drop 24).drop 24).drop 24).drop 24).drop 24), List.all_append, w_t11, w_t12]
  rfl
set_option maxRecDepth 65536 in
theorem w_rest : rest_1_c.before args0 about1 = true := by decide +kernel
set_option maxRecDepth 65536 in
theorem w_case : (Jvm.Cond.and given_1 narrow_1).before args0 about1 = true := by decide +kernel
set_option maxRecDepth 65536 in
theorem w_consts : constsHeld consts_1 about1 := Jvm.Lit.constsHeldB_iff.mp (by decide +kernel)
theorem w_applies : (headSpec (Jvm.Cond.code x code maxLocals ret :: tables_1) room_1).applies x e0.platform about1 = true :=
  (Spec.applies_iff w_frames).mpr ⟨w_running, w_runnable, w_alone, w_named, w_hears, w_ripe, w_room, w_tables⟩
theorem atStart : AtStart classFile x code maxLocals ret World_1 tables_1 room_1 Calls_1 rest_1 Pre_1 launch0 p0 e0 about1 theMethod args0 below0 :=
  ⟨lists_1, trivial, launch0.admits_env _ _ _, launch0.least_env, fairChoices_fair.cas, fairChoices_fair.clock, w_frames, w_args, w_heap, w_applies, ⟨(by decide +kernel : framesKnown about1 = true), ⟨(by decide +kernel : tablesKnown about1 = true), ⟨w_consts, trivial⟩⟩⟩, w_rest, w_case⟩
end start1
theorem witness_1 : WitnessClaimed_1 := ⟨start1.p0, start1.e0, start1.about1, start1.theMethod, start1.args0, start1.below0, start1.atStart⟩
end Jvm.Pilot.@@N@@
