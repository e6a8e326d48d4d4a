import JvmDerived
import JvmDerived.Pilot.@@N@@Statement
import JvmDerived.Pilot.@@N@@Code
set_option linter.unusedVariables false
set_option linter.unusedSimpArgs false
@@BLOCK:NumsL.lean.txt@@
namespace Jvm.RoadKit
open Sem ClassFile Op Lib Jvm.Stand Jvm.Free Jvm.LawKit
section New
variable {p : Program} {l : Launch} {e : Env} {R : Room} {s : State} {m : MethodId} {args : Array Value} {below : List Frame} {meth : Method} {c : Code} {T : State} {locs : List Loc} {cells slots : Nat}
theorem retI (X : Stand p l e R s m args below meth c T locs cells slots) (hx : p.tables.exec = Jvm.exec) {pc : Nat} {Ls : Array Slot} {z : Int32} {rest : List Value} (hret : meth.sig.returnType = some .int) (hd : decode c.code pc = .ok (.ireturn, 1)) {fs : List Frame}
    (hl : ∀ (f : JFrame) (acts : List Action), f.method = m → f.locked = none → f.entered = [] → (doReturn e (T.setTop f) acts (some (.int z))).1 = T.setFrames fs) : Steps p.tables e below (T.setTop (mkF m pc Ls (.int z :: rest))) (T.setFrames fs) := by
  have hm' : T.vm.method? m = some meth := X.method'
  have hn : narrow .int (.int z) = .int z := rfl
  show Steps p.tables e below (T.setTop { method := m, pc := pc, locals := Ls, stack := _ :: rest, locked := none }) _
  jvm_step X.here [X.here.top, hx, hd, hm', hret, hn]
  first | (intro acts; rw [hl _ acts rfl rfl rfl]) | rw [hl _ _ rfl rfl rfl]
  exact Steps.refl _
end New
end Jvm.RoadKit
namespace Jvm.Pilot.@@N@@
open Jvm Jvm.ClassFile Sem Op Lib Jvm.Free Jvm.Stand Jvm.LawKit Jvm.RoadKit Bundle Jvm.Pilot.@@N@@.Jvm.D
/-- what a walk comes to, said forward -/
def Go (p : Program) (e : Env) (below : List Frame) (R : State → Outcome → Prop) (A : State) : Prop := ∃ t o, Steps p.tables e below A t ∧ R t o
def Fin1 (s : State) (below : List Frame) (Q : Option Value → Heap → List Loc → Prop) (K N : Nat) (t : State) (o : Outcome) : Prop := t.status = .running ∧ Ended t below o ∧ ∃ v L, o = .returned v ∧ Q v t.heap L ∧ FrameEnd s o t L K N
theorem Go.step {p : Program} {e : Env} {below : List Frame} {R : State → Outcome → Prop} {A B : State} (k : ∀ t, Steps p.tables e below A t → Steps p.tables e below B t) (h : Go p e below R A) : Go p e below R B := by
  obtain ⟨t, o, h1, h2⟩ := h
  exact ⟨t, o, k t h1, h2⟩
section GoRet
variable {p : Program} {l : Launch} {e : Env} {R : Room} {s : State} {m : MethodId} {args : Array Value} {below : List Frame} {meth : Method} {c : Code} {T : State} {locs : List Loc} {cells slots : Nat} {Q : Option Value → Heap → List Loc → Prop} {K N pc : Nat} {Ls : Array Slot} {rest : List Value}
theorem Go.retZ (X : Stand p l e R s m args below meth c T locs cells slots) (hx : p.tables.exec = Jvm.exec) {z : Int32} {t : FieldType} (hret : meth.sig.returnType = some t) (ht : t = .boolean ∨ t = .byte ∨ t = .char ∨ t = .short) (hlk : meth.locks = false) (hd : decode c.code pc = .ok (.ireturn, 1)) (hq : Q (some (.int (nar t z))) T.heap locs) (hc : cells ≤ K) (hn : slots ≤ N) : Go p e below (Fin1 s below Q K N) (T.setTop (mkF m pc Ls (.int z :: rest))) := by
  obtain ⟨fs, hr, hrun, hended, hW, hsame⟩ := X.leave (v := some (.int (nar t z))) (fun h => by rw [hret] at h; cases h) hlk
  exact ⟨_, _, retN X hx hret ht hd hr, hrun, hended, _, _, rfl, hq, ⟨_, rfl⟩, hW, hsame.mono hc hn⟩
theorem Go.retI (X : Stand p l e R s m args below meth c T locs cells slots) (hx : p.tables.exec = Jvm.exec) {z : Int32} (hret : meth.sig.returnType = some .int) (hlk : meth.locks = false) (hd : decode c.code pc = .ok (.ireturn, 1)) (hq : Q (some (.int z)) T.heap locs) (hc : cells ≤ K) (hn : slots ≤ N) : Go p e below (Fin1 s below Q K N) (T.setTop (mkF m pc Ls (.int z :: rest))) := by
  obtain ⟨fs, hr, hrun, hended, hW, hsame⟩ := X.leave (v := some (.int z)) (fun h => by rw [hret] at h; cases h) hlk
  exact ⟨_, _, Jvm.RoadKit.retI X hx hret hd hr, hrun, hended, _, _, rfl, hq, ⟨_, rfl⟩, hW, hsame.mono hc hn⟩
theorem Go.retJ (X : Stand p l e R s m args below meth c T locs cells slots) (hx : p.tables.exec = Jvm.exec) {z : Int64} (hret : meth.sig.returnType = some .long) (hlk : meth.locks = false) (hd : decode c.code pc = .ok (.lreturn, 1)) (hq : Q (some (.long z)) T.heap locs) (hc : cells ≤ K) (hn : slots ≤ N) : Go p e below (Fin1 s below Q K N) (T.setTop (mkF m pc Ls (.long z :: rest))) := by
  obtain ⟨fs, hr, hrun, hended, hW, hsame⟩ := X.leave (v := some (.long z)) (fun h => by rw [hret] at h; cases h) hlk
  exact ⟨_, _, retOut X hx hret rfl (Or.inr (Or.inl ⟨rfl, rfl, _, rfl⟩)) hd hr, hrun, hended, _, _, rfl, hq, ⟨_, rfl⟩, hW, hsame.mono hc hn⟩
theorem Go.retR (X : Stand p l e R s m args below meth c T locs cells slots) (hx : p.tables.exec = Jvm.exec) {w : Value} {t : FieldType} (hret : meth.sig.returnType = some t) (ht : t.isReference = true) (hw : w.isRef = true) (hlk : meth.locks = false) (hd : decode c.code pc = .ok (.areturn, 1)) (hq : Q (some w) T.heap locs) (hc : cells ≤ K) (hn : slots ≤ N) : Go p e below (Fin1 s below Q K N) (T.setTop (mkF m pc Ls (w :: rest))) := by
  obtain ⟨fs, hr, hrun, hended, hW, hsame⟩ := X.leave (v := some w) (fun h => by rw [hret] at h; cases h) hlk
  have hnw : narrow t w = w := by rcases ref_cases hw with rfl | ⟨a, rfl⟩ <;> cases t <;> first | rfl | (cases ht)
  exact ⟨_, _, retOut X hx hret hnw (Or.inr (Or.inr (Or.inr (Or.inr ⟨rfl, ht, hw⟩)))) hd hr, hrun, hended, _, _, rfl, hq, ⟨_, rfl⟩, hW, hsame.mono hc hn⟩
theorem Go.retV (X : Stand p l e R s m args below meth c T locs cells slots) (hx : p.tables.exec = Jvm.exec) (hret : meth.sig.returnType = none) (hlk : meth.locks = false) (hd : decode c.code pc = .ok (.return_, 1)) (hq : Q none T.heap locs) (hc : cells ≤ K) (hn : slots ≤ N) : Go p e below (Fin1 s below Q K N) (T.setTop (mkF m pc Ls [])) := by
  obtain ⟨fs, hr, hrun, hended, hW, hsame⟩ := X.leave (v := none) (fun _ => rfl) hlk
  exact ⟨_, _, X.returnOut hx hret hd hr, hrun, hended, _, _, rfl, hq, ⟨_, rfl⟩, hW, hsame.mono hc hn⟩
end GoRet
def Fin2 (s : State) (below : List Frame) (Q : Option Value → Heap → List Loc → Prop) (K N : Nat) (t : State) (o : Outcome) : Prop := t.status = .running ∧ Ended t below o ∧ ∃ v L, o = .returned v ∧ Q v t.heap L ∧ ReturnedEndW s o t L K N
theorem wmono {s t : State} {o : Outcome} {L : List Loc} {k n k' n' : Nat} (h : ReturnedEndW s o t L k n) (h1 : k ≤ k') (h2 : n ≤ n') : ReturnedEndW s o t L k' n' := ⟨h.1, h.2.1, h.2.2.1, h.2.2.2.mono h1 h2⟩
section GoRetW
variable {p : Program} {l : Launch} {e : Env} {R : Room} {s : State} {vm0 : Vm} {m : MethodId} {args : Array Value} {below : List Frame} {meth : Method} {c : Code} {T : State} {locs : List Loc} {cells slots : Nat} {Q : Option Value → Heap → List Loc → Prop} {K N pc k0 : Nat} {Ls : Array Slot} {rest : List Value}
theorem GoW.retZ (X : Stand p l e R (s.setVm vm0) m args below meth c T locs cells slots) (hS : s.Since vm0 k0) (hk : k0 ≤ T.heap.size) (hx : p.tables.exec = Jvm.exec) {z : Int32} {t : FieldType} (hret : meth.sig.returnType = some t) (ht : t = .boolean ∨ t = .byte ∨ t = .char ∨ t = .short) (hlk : meth.locks = false) (hd : decode c.code pc = .ok (.ireturn, 1)) (hq : Q (some (.int (nar t z))) T.heap locs) (hc : cells ≤ K) (hn : slots ≤ N) : Go p e below (Fin2 s below Q K N) (T.setTop (mkF m pc Ls (.int z :: rest))) := by
  obtain ⟨fs, hr, hrun, hended, hW⟩ := X.leaveW hS hk (v := some (.int (nar t z))) (fun h => by rw [hret] at h; cases h) hlk
  exact ⟨_, _, retN X hx hret ht hd hr, hrun, hended, _, _, rfl, hq, wmono hW hc hn⟩
theorem GoW.retI (X : Stand p l e R (s.setVm vm0) m args below meth c T locs cells slots) (hS : s.Since vm0 k0) (hk : k0 ≤ T.heap.size) (hx : p.tables.exec = Jvm.exec) {z : Int32} (hret : meth.sig.returnType = some .int) (hlk : meth.locks = false) (hd : decode c.code pc = .ok (.ireturn, 1)) (hq : Q (some (.int z)) T.heap locs) (hc : cells ≤ K) (hn : slots ≤ N) : Go p e below (Fin2 s below Q K N) (T.setTop (mkF m pc Ls (.int z :: rest))) := by
  obtain ⟨fs, hr, hrun, hended, hW⟩ := X.leaveW hS hk (v := some (.int z)) (fun h => by rw [hret] at h; cases h) hlk
  exact ⟨_, _, Jvm.RoadKit.retI X hx hret hd hr, hrun, hended, _, _, rfl, hq, wmono hW hc hn⟩
theorem GoW.retR (X : Stand p l e R (s.setVm vm0) m args below meth c T locs cells slots) (hS : s.Since vm0 k0) (hk : k0 ≤ T.heap.size) (hx : p.tables.exec = Jvm.exec) {w : Value} {t : FieldType} (hret : meth.sig.returnType = some t) (ht : t.isReference = true) (hw : w.isRef = true) (hlk : meth.locks = false) (hd : decode c.code pc = .ok (.areturn, 1)) (hq : Q (some w) T.heap locs) (hc : cells ≤ K) (hn : slots ≤ N) : Go p e below (Fin2 s below Q K N) (T.setTop (mkF m pc Ls (w :: rest))) := by
  obtain ⟨fs, hr, hrun, hended, hW⟩ := X.leaveW hS hk (v := some w) (fun h => by rw [hret] at h; cases h) hlk
  have hnw : narrow t w = w := by rcases ref_cases hw with rfl | ⟨a, rfl⟩ <;> cases t <;> first | rfl | (cases ht)
  exact ⟨_, _, retOut X hx hret hnw (Or.inr (Or.inr (Or.inr (Or.inr ⟨rfl, ht, hw⟩)))) hd hr, hrun, hended, _, _, rfl, hq, wmono hW hc hn⟩
theorem GoW.retV (X : Stand p l e R (s.setVm vm0) m args below meth c T locs cells slots) (hS : s.Since vm0 k0) (hk : k0 ≤ T.heap.size) (hx : p.tables.exec = Jvm.exec) (hret : meth.sig.returnType = none) (hlk : meth.locks = false) (hd : decode c.code pc = .ok (.return_, 1)) (hq : Q none T.heap locs) (hc : cells ≤ K) (hn : slots ≤ N) : Go p e below (Fin2 s below Q K N) (T.setTop (mkF m pc Ls [])) := by
  obtain ⟨fs, hr, hrun, hended, hW⟩ := X.leaveW hS hk (v := none) (fun _ => rfl) hlk
  exact ⟨_, _, X.returnOut hx hret hd hr, hrun, hended, _, _, rfl, hq, wmono hW hc hn⟩
end GoRetW
theorem wd {a0 : Array Value} {Z : State} (hw : ∀ d ∈ tables_1, d.before a0 Z = true) (i : Nat) {d : Jvm.Cond} (h : tables_1[i]? = some d) : d.before a0 Z = true := hw d (List.mem_of_getElem? h)
theorem sel_priv {Z s : State} {a0 args : Array Value} {y : MethodName} {n : Nat} (hZ : Z.Warmed39 s.vm) (wi : (Jvm.Cond.instantiable y.cls n).before a0 Z = true) (wp : (Jvm.Cond.privateMethod y).before a0 Z = true) (wm : (Jvm.Cond.instanceMethod y).before a0 Z = true) (hy : y.cls ≠ "java/lang/invoke/MethodHandle" ∧ y.cls ≠ "java/lang/invoke/VarHandle") : (Jvm.Cond.selects y.cls y y).before args s = true := by
  obtain ⟨c, k, h1, h2, -, h4, -⟩ := Cond.instantiable_spec (mv (args := args) hZ wi)
  simp only [Bool.or_eq_false_iff] at h4
  exact Jvm.Stand.selects_self_of_private h1 h2 h4.1 (Cond.privateMethod_at (mvP hZ wp (args := args))) (mv hZ wm) hy
theorem old_z0 {Z : State} {n0 : Nat} {h : Heap} (O : Old Z n0 h) : n0 ≤ h.size := O.1 ▸ O.2.1
theorem eq_long {args : Array Value} {s : State} {t : Term} {z : Int64} (h : (Jvm.Cond.eq t (.long z)).value args s none s [] = some true) : t.eval args s none [] s = some (.long z) := by
  simp only [Cond.value, Term.eval] at h
  cases e : t.eval args s none [] s with
  | none => simp [e] at h
  | some v => cases v <;> simp_all
theorem eq_int {args : Array Value} {s : State} {t : Term} {z : Int32} (h : (Jvm.Cond.eq t (.int z)).value args s none s [] = some true) : t.eval args s none [] s = some (.int z) := by
  simp only [Cond.value, Term.eval] at h
  cases e : t.eval args s none [] s with
  | none => simp [e] at h
  | some v => cases v <;> simp_all
abbrev SN (Z : State) (C f d C' f' d' : String) : Prop := Jvm.RoadKit.slotOf Z C f d ≠ Jvm.RoadKit.slotOf Z C' f' d'
abbrev rm (f c s l : Nat) : Room := { frames := f, cells := c, slots := s, locals := l }
section GS
variable {p : Program} {e : Env} {below : List Frame} {R : State → Outcome → Prop} {T : State} {m : MethodId} {c : Code} {pc : Nat} {Ls l' : Array Slot} {rest : List Value}

theorem gs.iload {k : Nat} {v : Int32} (h : At T m c below) (hx : p.tables.exec = Jvm.exec) (hd : decode c.code pc = .ok (.iload k, 2)) (hl : Ls[k]? = some (.val (.int v))) (H : Go p e below R (T.setTop (mkF m (pc + 2) Ls (.int v :: rest)))) : Go p e below R (T.setTop (mkF m pc Ls rest)) := Go.step (fun _ q_ => XS.iload h hx rfl hd hl q_) H
theorem gs.iloadN {k : Fin 4} {v : Int32} (h : At T m c below) (hx : p.tables.exec = Jvm.exec) (hd : decode c.code pc = .ok (.iload_n k, 1)) (hl : Ls[k.val]? = some (.val (.int v))) (H : Go p e below R (T.setTop (mkF m (pc + 1) Ls (.int v :: rest)))) : Go p e below R (T.setTop (mkF m pc Ls rest)) := Go.step (fun _ q_ => XS.iloadN h hx rfl hd hl q_) H
theorem gs.lload {k : Nat} {v : Int64} (h : At T m c below) (hx : p.tables.exec = Jvm.exec) (hd : decode c.code pc = .ok (.lload k, 2)) (hl : Ls[k]? = some (.val (.long v))) (H : Go p e below R (T.setTop (mkF m (pc + 2) Ls (.long v :: rest)))) : Go p e below R (T.setTop (mkF m pc Ls rest)) := Go.step (fun _ q_ => XS.lload h hx rfl hd hl q_) H
theorem gs.lloadN {k : Fin 4} {v : Int64} (h : At T m c below) (hx : p.tables.exec = Jvm.exec) (hd : decode c.code pc = .ok (.lload_n k, 1)) (hl : Ls[k.val]? = some (.val (.long v))) (H : Go p e below R (T.setTop (mkF m (pc + 1) Ls (.long v :: rest)))) : Go p e below R (T.setTop (mkF m pc Ls rest)) := Go.step (fun _ q_ => XS.lloadN h hx rfl hd hl q_) H
theorem gs.aload {k : Nat} {v : Value} (h : At T m c below) (hx : p.tables.exec = Jvm.exec) (hd : decode c.code pc = .ok (.aload k, 2)) (hl : Ls[k]? = some (.val v)) (hv : v.isRef = true) (H : Go p e below R (T.setTop (mkF m (pc + 2) Ls (v :: rest)))) : Go p e below R (T.setTop (mkF m pc Ls rest)) := Go.step (fun _ q_ => XS.aload h hx rfl hd hl hv q_) H
theorem gs.aloadN {k : Fin 4} {v : Value} (h : At T m c below) (hx : p.tables.exec = Jvm.exec) (hd : decode c.code pc = .ok (.aload_n k, 1)) (hl : Ls[k.val]? = some (.val v)) (hv : v.isRef = true) (H : Go p e below R (T.setTop (mkF m (pc + 1) Ls (v :: rest)))) : Go p e below R (T.setTop (mkF m pc Ls rest)) := Go.step (fun _ q_ => XS.aloadN h hx rfl hd hl hv q_) H
theorem gs.istore {k : Nat} {v : Int32} (h : At T m c below) (hx : p.tables.exec = Jvm.exec) (hd : decode c.code pc = .ok (.istore k, 2)) (hl : storeLocals Ls k (.int v) = some l') (H : Go p e below R (T.setTop (mkF m (pc + 2) l' rest))) : Go p e below R (T.setTop (mkF m pc Ls (.int v :: rest))) := Go.step (fun _ q_ => XS.istore h hx rfl hd rfl hl q_) H
theorem gs.istoreN {k : Fin 4} {v : Int32} (h : At T m c below) (hx : p.tables.exec = Jvm.exec) (hd : decode c.code pc = .ok (.istore_n k, 1)) (hl : storeLocals Ls k.val (.int v) = some l') (H : Go p e below R (T.setTop (mkF m (pc + 1) l' rest))) : Go p e below R (T.setTop (mkF m pc Ls (.int v :: rest))) := Go.step (fun _ q_ => XS.istoreN h hx rfl hd rfl hl q_) H
theorem gs.lstore {k : Nat} {v : Int64} (h : At T m c below) (hx : p.tables.exec = Jvm.exec) (hd : decode c.code pc = .ok (.lstore k, 2)) (hl : storeLocals Ls k (.long v) = some l') (H : Go p e below R (T.setTop (mkF m (pc + 2) l' rest))) : Go p e below R (T.setTop (mkF m pc Ls (.long v :: rest))) := Go.step (fun _ q_ => XS.lstore h hx rfl hd rfl hl q_) H
theorem gs.lstoreN {k : Fin 4} {v : Int64} (h : At T m c below) (hx : p.tables.exec = Jvm.exec) (hd : decode c.code pc = .ok (.lstore_n k, 1)) (hl : storeLocals Ls k.val (.long v) = some l') (H : Go p e below R (T.setTop (mkF m (pc + 1) l' rest))) : Go p e below R (T.setTop (mkF m pc Ls (.long v :: rest))) := Go.step (fun _ q_ => XS.lstoreN h hx rfl hd rfl hl q_) H
theorem gs.astore {k : Nat} {v : Value} (h : At T m c below) (hx : p.tables.exec = Jvm.exec) (hd : decode c.code pc = .ok (.astore k, 2)) (hv : v.isRef = true) (hl : storeLocals Ls k (v) = some l') (H : Go p e below R (T.setTop (mkF m (pc + 2) l' rest))) : Go p e below R (T.setTop (mkF m pc Ls (v :: rest))) := Go.step (fun _ q_ => XS.astore h hx rfl hd rfl hv hl q_) H
theorem gs.astoreN {k : Fin 4} {v : Value} (h : At T m c below) (hx : p.tables.exec = Jvm.exec) (hd : decode c.code pc = .ok (.astore_n k, 1)) (hv : v.isRef = true) (hl : storeLocals Ls k.val (v) = some l') (H : Go p e below R (T.setTop (mkF m (pc + 1) l' rest))) : Go p e below R (T.setTop (mkF m pc Ls (v :: rest))) := Go.step (fun _ q_ => XS.astoreN h hx rfl hd rfl hv hl q_) H
theorem gs.iconst {i : Int} (z : Int32) (h : At T m c below) (hx : p.tables.exec = Jvm.exec) (hd : decode c.code pc = .ok (.iconst i, 1)) (hz : Int32.ofInt i = z) (H : Go p e below R (T.setTop (mkF m (pc + 1) Ls (.int z :: rest)))) : Go p e below R (T.setTop (mkF m pc Ls rest)) := Go.step (fun _ q_ => XS.iconst h hx rfl hd (by rw [hz]; exact q_)) H
theorem gs.bipush {i : Int} (z : Int32) (h : At T m c below) (hx : p.tables.exec = Jvm.exec) (hd : decode c.code pc = .ok (.bipush i, 2)) (hz : (Int8.ofInt i).toInt32 = z) (H : Go p e below R (T.setTop (mkF m (pc + 2) Ls (.int z :: rest)))) : Go p e below R (T.setTop (mkF m pc Ls rest)) := Go.step (fun _ q_ => XS.bipush h hx rfl hd (by rw [hz]; exact q_)) H
theorem gs.sipush {i : Int} (z : Int32) (h : At T m c below) (hx : p.tables.exec = Jvm.exec) (hd : decode c.code pc = .ok (.sipush i, 3)) (hz : (Int16.ofInt i).toInt32 = z) (H : Go p e below R (T.setTop (mkF m (pc + 3) Ls (.int z :: rest)))) : Go p e below R (T.setTop (mkF m pc Ls rest)) := Go.step (fun _ q_ => XS.sipush h hx rfl hd (by rw [hz]; exact q_)) H
theorem gs.aconstNull  (h : At T m c below) (hx : p.tables.exec = Jvm.exec) (hd : decode c.code pc = .ok (.aconst_null, 1)) (H : Go p e below R (T.setTop (mkF m (pc + 1) Ls (.null :: rest)))) : Go p e below R (T.setTop (mkF m pc Ls rest)) := Go.step (fun _ q_ => XS.aconstNull h hx rfl hd q_) H
theorem gs.iadd {x y : Int32} (h : At T m c below) (hx : p.tables.exec = Jvm.exec) (hd : decode c.code pc = .ok (.iadd, 1)) (H : Go p e below R (T.setTop (mkF m (pc + 1) Ls (.int (x + y) :: rest)))) : Go p e below R (T.setTop (mkF m pc Ls (.int y :: .int x :: rest))) := Go.step (fun _ q_ => XS.iadd h hx rfl hd rfl q_) H
theorem gs.ladd {x y : Int64} (h : At T m c below) (hx : p.tables.exec = Jvm.exec) (hd : decode c.code pc = .ok (.ladd, 1)) (H : Go p e below R (T.setTop (mkF m (pc + 1) Ls (.long (x + y) :: rest)))) : Go p e below R (T.setTop (mkF m pc Ls (.long y :: .long x :: rest))) := Go.step (fun _ q_ => XS.ladd h hx rfl hd rfl q_) H
theorem gs.isub {x y : Int32} (h : At T m c below) (hx : p.tables.exec = Jvm.exec) (hd : decode c.code pc = .ok (.isub, 1)) (H : Go p e below R (T.setTop (mkF m (pc + 1) Ls (.int (x - y) :: rest)))) : Go p e below R (T.setTop (mkF m pc Ls (.int y :: .int x :: rest))) := Go.step (fun _ q_ => XS.isub h hx rfl hd rfl q_) H
theorem gs.lsub {x y : Int64} (h : At T m c below) (hx : p.tables.exec = Jvm.exec) (hd : decode c.code pc = .ok (.lsub, 1)) (H : Go p e below R (T.setTop (mkF m (pc + 1) Ls (.long (x - y) :: rest)))) : Go p e below R (T.setTop (mkF m pc Ls (.long y :: .long x :: rest))) := Go.step (fun _ q_ => XS.lsub h hx rfl hd rfl q_) H
theorem gs.imul {x y : Int32} (h : At T m c below) (hx : p.tables.exec = Jvm.exec) (hd : decode c.code pc = .ok (.imul, 1)) (H : Go p e below R (T.setTop (mkF m (pc + 1) Ls (.int (x * y) :: rest)))) : Go p e below R (T.setTop (mkF m pc Ls (.int y :: .int x :: rest))) := Go.step (fun _ q_ => XS.imul h hx rfl hd rfl q_) H
theorem gs.lmul {x y : Int64} (h : At T m c below) (hx : p.tables.exec = Jvm.exec) (hd : decode c.code pc = .ok (.lmul, 1)) (H : Go p e below R (T.setTop (mkF m (pc + 1) Ls (.long (x * y) :: rest)))) : Go p e below R (T.setTop (mkF m pc Ls (.long y :: .long x :: rest))) := Go.step (fun _ q_ => XS.lmul h hx rfl hd rfl q_) H
theorem gs.iand {x y : Int32} (h : At T m c below) (hx : p.tables.exec = Jvm.exec) (hd : decode c.code pc = .ok (.iand, 1)) (H : Go p e below R (T.setTop (mkF m (pc + 1) Ls (.int (x &&& y) :: rest)))) : Go p e below R (T.setTop (mkF m pc Ls (.int y :: .int x :: rest))) := Go.step (fun _ q_ => XS.iand h hx rfl hd rfl q_) H
theorem gs.land {x y : Int64} (h : At T m c below) (hx : p.tables.exec = Jvm.exec) (hd : decode c.code pc = .ok (.land, 1)) (H : Go p e below R (T.setTop (mkF m (pc + 1) Ls (.long (x &&& y) :: rest)))) : Go p e below R (T.setTop (mkF m pc Ls (.long y :: .long x :: rest))) := Go.step (fun _ q_ => XS.land h hx rfl hd rfl q_) H
theorem gs.ior {x y : Int32} (h : At T m c below) (hx : p.tables.exec = Jvm.exec) (hd : decode c.code pc = .ok (.ior, 1)) (H : Go p e below R (T.setTop (mkF m (pc + 1) Ls (.int (x ||| y) :: rest)))) : Go p e below R (T.setTop (mkF m pc Ls (.int y :: .int x :: rest))) := Go.step (fun _ q_ => XS.ior h hx rfl hd rfl q_) H
theorem gs.lor {x y : Int64} (h : At T m c below) (hx : p.tables.exec = Jvm.exec) (hd : decode c.code pc = .ok (.lor, 1)) (H : Go p e below R (T.setTop (mkF m (pc + 1) Ls (.long (x ||| y) :: rest)))) : Go p e below R (T.setTop (mkF m pc Ls (.long y :: .long x :: rest))) := Go.step (fun _ q_ => XS.lor h hx rfl hd rfl q_) H
theorem gs.ixor {x y : Int32} (h : At T m c below) (hx : p.tables.exec = Jvm.exec) (hd : decode c.code pc = .ok (.ixor, 1)) (H : Go p e below R (T.setTop (mkF m (pc + 1) Ls (.int (x ^^^ y) :: rest)))) : Go p e below R (T.setTop (mkF m pc Ls (.int y :: .int x :: rest))) := Go.step (fun _ q_ => XS.ixor h hx rfl hd rfl q_) H
theorem gs.lxor {x y : Int64} (h : At T m c below) (hx : p.tables.exec = Jvm.exec) (hd : decode c.code pc = .ok (.lxor, 1)) (H : Go p e below R (T.setTop (mkF m (pc + 1) Ls (.long (x ^^^ y) :: rest)))) : Go p e below R (T.setTop (mkF m pc Ls (.long y :: .long x :: rest))) := Go.step (fun _ q_ => XS.lxor h hx rfl hd rfl q_) H
theorem gs.dup {x : Value} (h : At T m c below) (hx : p.tables.exec = Jvm.exec) (hd : decode c.code pc = .ok (.dup, 1)) (hc : x.category = 1) (H : Go p e below R (T.setTop (mkF m (pc + 1) Ls (x :: x :: rest)))) : Go p e below R (T.setTop (mkF m pc Ls (x :: rest))) := Go.step (fun _ q_ => XS.dup h hx rfl hd rfl hc q_) H
theorem gs.pop {x : Value} (h : At T m c below) (hx : p.tables.exec = Jvm.exec) (hd : decode c.code pc = .ok (.pop, 1)) (hc : x.category = 1) (H : Go p e below R (T.setTop (mkF m (pc + 1) Ls rest))) : Go p e below R (T.setTop (mkF m pc Ls (x :: rest))) := Go.step (fun _ q_ => XS.pop h hx rfl hd rfl hc q_) H
theorem gs.dup2 {x y : Value} (h : At T m c below) (hx : p.tables.exec = Jvm.exec) (hd : decode c.code pc = .ok (.dup2, 1)) (hc : x.category = 1) (hc' : y.category = 1) (H : Go p e below R (T.setTop (mkF m (pc + 1) Ls (x :: y :: x :: y :: rest)))) : Go p e below R (T.setTop (mkF m pc Ls (x :: y :: rest))) := Go.step (fun _ q_ => XT.dup2 h hx rfl hd rfl hc hc' q_) H
theorem gs.goto {o : Int} (q : Nat) (h : At T m c below) (hx : p.tables.exec = Jvm.exec) (hd : decode c.code pc = .ok (.goto o, 3)) (hp : (pc : Int) + o = (q : Int)) (H : Go p e below R (T.setTop (mkF m q Ls rest))) : Go p e below R (T.setTop (mkF m pc Ls rest)) := Go.step (fun _ q_ => XS.goto h hx rfl rfl hd (by rw [hp]; exact Int.natCast_nonneg _) (by rw [hp]; rfl) q_) H
theorem gs.ifYes {cd : ClassFile.Cond} {x : Int32} {o : Int} (q : Nat) (h : At T m c below) (hx : p.tables.exec = Jvm.exec) (hd : decode c.code pc = .ok (.ifCond cd o, 3)) (hc : ifCond.holds cd x = true) (hp : (pc : Int) + o = (q : Int)) (H : Go p e below R (T.setTop (mkF m q Ls rest))) : Go p e below R (T.setTop (mkF m pc Ls (.int x :: rest))) := Go.step (fun _ q_ => XS.ifYes h hx rfl rfl hd rfl hc (by rw [hp]; exact Int.natCast_nonneg _) (by rw [hp]; rfl) q_) H
theorem gs.ifNo {cd : ClassFile.Cond} {x : Int32} {o : Int} (h : At T m c below) (hx : p.tables.exec = Jvm.exec) (hd : decode c.code pc = .ok (.ifCond cd o, 3)) (hc : ifCond.holds cd x = false) (H : Go p e below R (T.setTop (mkF m (pc + 3) Ls rest))) : Go p e below R (T.setTop (mkF m pc Ls (.int x :: rest))) := Go.step (fun _ q_ => XS.ifNo h hx rfl hd rfl hc q_) H
theorem gs.icmpYes {cd : ClassFile.Cond} {x y : Int32} {o : Int} (q : Nat) (h : At T m c below) (hx : p.tables.exec = Jvm.exec) (hd : decode c.code pc = .ok (.if_icmp cd o, 3)) (hc : if_icmp.holds cd x y = true) (hp : (pc : Int) + o = (q : Int)) (H : Go p e below R (T.setTop (mkF m q Ls rest))) : Go p e below R (T.setTop (mkF m pc Ls (.int y :: .int x :: rest))) := Go.step (fun _ q_ => XS.icmpYes h hx rfl rfl hd rfl hc (by rw [hp]; exact Int.natCast_nonneg _) (by rw [hp]; rfl) q_) H
theorem gs.icmpNo {cd : ClassFile.Cond} {x y : Int32} {o : Int} (h : At T m c below) (hx : p.tables.exec = Jvm.exec) (hd : decode c.code pc = .ok (.if_icmp cd o, 3)) (hc : if_icmp.holds cd x y = false) (H : Go p e below R (T.setTop (mkF m (pc + 3) Ls rest))) : Go p e below R (T.setTop (mkF m pc Ls (.int y :: .int x :: rest))) := Go.step (fun _ q_ => XS.icmpNo h hx rfl hd rfl hc q_) H
theorem Go.fin {T' : State} {stk S' : List Value} {q : Nat} (k : ∀ t, Steps p.tables e below (T'.setTop { mkF m pc Ls stk with pc := q, stack := S' }) t → Steps p.tables e below (T.setTop (mkF m pc Ls stk)) t) (H : Go p e below R (T'.setTop (mkF m q Ls S'))) : Go p e below R (T.setTop (mkF m pc Ls stk)) := Go.step k H
end GS
section GS2
variable {p : Program} {l : Launch} {e : Env} {Rm : Room} {s : State} {m : MethodId} {args : Array Value} {below : List Frame} {meth : Method} {c : Code} {T : State} {locs : List Loc} {cells slots : Nat} {Z : State} {a0 : Array Value} {h : Heap} {R : State → Outcome → Prop} {pc : Nat} {Ls : Array Slot} {rest : List Value}
theorem gs.getF (X : Stand p l e Rm s m args below meth c T locs cells slots) (hx : p.tables.exec = Jvm.exec) (hZ : Z.Warmed39 s.vm) {own R0 O n d : String} {index : Nat} (hown : s.vm.findClass own = some m.cls) (w : (Cond.fieldLink own index R0 n d).before a0 Z = true) (via : Via Z R0 O n d) (eT : T.heap = h) {a : Addr} {v : Value} (F : Fld Z h a O n d v) (hd : decode c.code pc = .ok (.getfield index, 3)) (H : ∀ T', Stand p l e Rm s m args below meth c T' locs cells slots → T'.heap = h → Go p e below R (T'.setTop (mkF m (pc + 3) Ls (v :: rest)))) : Go p e below R (T.setTop (mkF m pc Ls (.ref a :: rest))) := by
  obtain ⟨T', X', e', k⟩ := Jvm.RoadKit.getF X hx hZ hown (host := "") (Or.inl w) via eT F (g := mkF m pc Ls (.ref a :: rest)) rfl rfl hd
  exact Go.step k (H T' X' e')
theorem gs.getN (X : Stand p l e Rm s m args below meth c T locs cells slots) (hx : p.tables.exec = Jvm.exec) (hZ : Z.Warmed39 s.vm) {own R0 O n d host : String} {index : Nat} (hown : s.vm.findClass own = some m.cls) (w : (Cond.fieldLinkNest own index R0 n d host).before a0 Z = true) (via : Via Z R0 O n d) (eT : T.heap = h) {a : Addr} {v : Value} (F : Fld Z h a O n d v) (hd : decode c.code pc = .ok (.getfield index, 3)) (H : ∀ T', Stand p l e Rm s m args below meth c T' locs cells slots → T'.heap = h → Go p e below R (T'.setTop (mkF m (pc + 3) Ls (v :: rest)))) : Go p e below R (T.setTop (mkF m pc Ls (.ref a :: rest))) := by
  obtain ⟨T', X', e', k⟩ := Jvm.RoadKit.getF X hx hZ hown (Or.inr w) via eT F (g := mkF m pc Ls (.ref a :: rest)) rfl rfl hd
  exact Go.step k (H T' X' e')
end GS2
section GS3
variable {p : Program} {l : Launch} {e : Env} {Rm : Room} {s : State} {m : MethodId} {args : Array Value} {below : List Frame} {meth : Method} {c : Code} {T : State} {locs : List Loc} {cells slots : Nat} {Z : State} {a0 : Array Value} {h : Heap} {R : State → Outcome → Prop} {pc : Nat} {Ls : Array Slot} {rest stk argsL : List Value} {own C : String} {index count : Nat} {y z : MethodName} {bytes : ByteArray} {maxL : Nat} {ret : Option FieldType} {rm : Room} {as' : Array Value} {Q : Option Value → Heap → List Loc → Prop} {b : Addr}

theorem gs.stat (W : Nat) (X : Stand p l e Rm s m args below meth c T locs cells slots) (hx : p.tables.exec = Jvm.exec) (hZ : Z.Warmed39 s.vm) (hown : s.vm.findClass own = some m.cls) (hM : MetFree l y (head1 [Cond.code y bytes maxL ret] rm) (fun a U => a = as' ∧ Z.Warmed39 U.vm ∧ U.heap = h) (fun _ _ _ _ _ => True) (fun _ U o U' => ∃ v L, o = .returned v ∧ Q v U'.heap L ∧ FrameEnd U o U' L rm.cells rm.slots)) (wc : (Cond.code y bytes maxL ret).before a0 Z = true) (wz : (Cond.initialized y.cls).before a0 Z = true) (w1 : (Cond.methodLink own index y).before a0 Z = true) (w2 : (Cond.static y).before a0 Z = true) (hy : y.cls ≠ "java/lang/invoke/MethodHandle" ∧ y.cls ≠ "java/lang/invoke/VarHandle") (hf : rm.frames + 1 ≤ Rm.frames) (hl : W + (maxL + 11) + rm.locals ≤ Rm.locals) (hml : Ls.size = c.maxLocals) (argsL : List Value) (hlen : ∀ sig, parseMethodDescriptor y.desc = some sig → argsL.length = sig.parameters.length) (hst : stk = argsL.reverse ++ rest) (hW : (rest.map fun v => v.category).sum ≤ W) (hd : decode c.code pc = .ok (.invokestatic index, 3)) (has : (argsL).toArray = as') (eT : T.heap = h) (hc : cells + rm.cells ≤ Rm.cells) (hs : slots + rm.slots ≤ Rm.slots) (H : ∀ (T' : State) (Lc : List Loc) (v : Option Value), Stand p l e Rm s m args below meth c T' (locs ++ Lc) (cells + rm.cells) (slots + rm.slots) → Q v T'.heap Lc → Go p e below R (T'.setTop (mkF m (pc + 3) Ls (v.toList ++ rest)))) : Go p e below R (T.setTop (mkF m pc Ls stk)) := by
  obtain ⟨v, _, ⟨T', L', k', n'⟩, -, X', ⟨Lc, hQ, l1, l2, l3⟩, st⟩ := Jvm.LawKit.callS X hx hown (mvT hZ w1) (mvT hZ w2) (mvT hZ wz) (mvT hZ wc) hy (backOf (W := W) hM hZ wc wz hf hl) (g := mkF m pc Ls stk) rfl hml (argsL := argsL) (rest := rest) hlen hst (by show 2 * 0 + _ ≤ _; omega) hd (fun _ _ => ⟨has, eT, hc, hs⟩)
  dsimp only [Pt.U, Pt.locs, Pt.cells, Pt.slots] at X' l1 l2 l3 st hQ
  subst l1 l2 l3
  exact Go.step st (H T' Lc v X' hQ)
theorem gs.init (W : Nat) (X : Stand p l e Rm s m args below meth c T locs cells slots) (hx : p.tables.exec = Jvm.exec) (hZ : Z.Warmed39 s.vm) (hown : s.vm.findClass own = some m.cls) (hM : MetFree l y (head1 [Cond.code y bytes maxL none] rm) (fun a U => a = as' ∧ Z.Warmed39 U.vm ∧ U.heap = h) (fun _ _ _ _ _ => True) (fun _ U o U' => ∃ v L, o = .returned v ∧ Q v U'.heap L ∧ FrameEnd U o U' L rm.cells rm.slots)) (wc : (Cond.code y bytes maxL none).before a0 Z = true) (wz : (Cond.initialized y.cls).before a0 Z = true) (w1 : (Cond.methodLink own index y).before a0 Z = true) (h1 : y.name = "<init>") (w2 : (Cond.instanceMethod y).before a0 Z = true) (hy : y.cls ≠ "java/lang/invoke/MethodHandle" ∧ y.cls ≠ "java/lang/invoke/VarHandle") (hf : rm.frames + 1 ≤ Rm.frames) (hl : W + (maxL + 11) + rm.locals ≤ Rm.locals) (hml : Ls.size = c.maxLocals) (argsL : List Value) (hlen : ∀ sig, parseMethodDescriptor y.desc = some sig → argsL.length = sig.parameters.length) (hst : stk = argsL.reverse ++ .ref b :: rest) (hW : (rest.map fun v => v.category).sum ≤ W) (hd : decode c.code pc = .ok (.invokespecial index, 3)) (has : (.ref b :: argsL).toArray = as') (eT : T.heap = h) (hc : cells + rm.cells ≤ Rm.cells) (hs : slots + rm.slots ≤ Rm.slots) (H : ∀ (T' : State) (Lc : List Loc) (v : Option Value), Stand p l e Rm s m args below meth c T' (locs ++ Lc) (cells + rm.cells) (slots + rm.slots) → Q v T'.heap Lc → Go p e below R (T'.setTop (mkF m (pc + 3) Ls (v.toList ++ rest)))) : Go p e below R (T.setTop (mkF m pc Ls stk)) := by
  obtain ⟨v, _, ⟨T', L', k', n'⟩, -, X', ⟨Lc, hQ, l1, l2, l3⟩, st⟩ := X.specialBack hx h1 hown (mvT hZ w1) (mvT hZ w2) (mvT hZ wc) hy (backOf (W := W) hM hZ wc wz hf hl) (g := mkF m pc Ls stk) rfl hml (Steps.refl _) (a := b) (argsL := argsL) (rest := rest) hlen hst (by show 2 * 0 + _ ≤ _; omega) hd (fun _ _ => ⟨has, eT, hc, hs⟩)
  dsimp only [Pt.U, Pt.locs, Pt.cells, Pt.slots] at X' l1 l2 l3 st hQ
  subst l1 l2 l3
  exact Go.step (fun _ k => st.trans k) (H T' Lc v X' hQ)
theorem gs.priv (W : Nat) (X : Stand p l e Rm s m args below meth c T locs cells slots) (hx : p.tables.exec = Jvm.exec) (hZ : Z.Warmed39 s.vm) (hown : s.vm.findClass own = some m.cls) (hM : MetFree l y (head1 [Cond.code y bytes maxL ret] rm) (fun a U => a = as' ∧ Z.Warmed39 U.vm ∧ U.heap = h) (fun _ _ _ _ _ => True) (fun _ U o U' => ∃ v L, o = .returned v ∧ Q v U'.heap L ∧ FrameEnd U o U' L rm.cells rm.slots)) (wc : (Cond.code y bytes maxL ret).before a0 Z = true) (wz : (Cond.initialized y.cls).before a0 Z = true) (w1 : (Cond.methodLink own index y).before a0 Z = true) (w2 : (Cond.instanceMethod y).before a0 Z = true) (hsel : (Cond.selects y.cls y y).before args s = true) (w3 : (Cond.privateMethod y).before a0 Z = true) (hy : y.cls ≠ "java/lang/invoke/MethodHandle" ∧ y.cls ≠ "java/lang/invoke/VarHandle") (E : Exa Z h b C) (hf : rm.frames + 1 ≤ Rm.frames) (hl : W + (maxL + 11) + rm.locals ≤ Rm.locals) (hml : Ls.size = c.maxLocals) (argsL : List Value) (hlen : ∀ sig, parseMethodDescriptor y.desc = some sig → argsL.length = sig.parameters.length) (hst : stk = argsL.reverse ++ .ref b :: rest) (hW : (rest.map fun v => v.category).sum ≤ W) (hd : decode c.code pc = .ok (.invokevirtual index, 3)) (has : (.ref b :: argsL).toArray = as') (eT : T.heap = h) (hc : cells + rm.cells ≤ Rm.cells) (hs : slots + rm.slots ≤ Rm.slots) (H : ∀ (T' : State) (Lc : List Loc) (v : Option Value), Stand p l e Rm s m args below meth c T' (locs ++ Lc) (cells + rm.cells) (slots + rm.slots) → Q v T'.heap Lc → Go p e below R (T'.setTop (mkF m (pc + 3) Ls (v.toList ++ rest)))) : Go p e below R (T.setTop (mkF m pc Ls stk)) := by
  obtain ⟨cq, q, q'⟩ := E.cell
  obtain ⟨v, _, ⟨T', L', k', n'⟩, -, X', ⟨Lc, hQ, l1, l2, l3⟩, st⟩ := X.privateBack hx hown (mvT hZ w1) (mvT hZ w2) hsel (Cond.privateMethod_at (mvP hZ w3 (args := #[]))) (mvT hZ wc) hy (backOf (W := W) hM hZ wc wz hf hl) (g := mkF m pc Ls stk) rfl hml (Steps.refl _) (a := b) (by rw [eT]; exact q) q' (argsL := argsL) (rest := rest) hlen hst (by show 2 * 0 + _ ≤ _; omega) hd (fun _ _ => ⟨has, eT, hc, hs⟩)
  dsimp only [Pt.U, Pt.locs, Pt.cells, Pt.slots] at X' l1 l2 l3 st hQ
  subst l1 l2 l3
  exact Go.step (fun _ k => st.trans k) (H T' Lc v X' hQ)
theorem gs.virt (W : Nat) (X : Stand p l e Rm s m args below meth c T locs cells slots) (hx : p.tables.exec = Jvm.exec) (hZ : Z.Warmed39 s.vm) (hown : s.vm.findClass own = some m.cls) (hM : MetFree l z (head1 [Cond.code z bytes maxL ret] rm) (fun a U => a = as' ∧ Z.Warmed39 U.vm ∧ U.heap = h) (fun _ _ _ _ _ => True) (fun _ U o U' => ∃ v L, o = .returned v ∧ Q v U'.heap L ∧ FrameEnd U o U' L rm.cells rm.slots)) (wc : (Cond.code z bytes maxL ret).before a0 Z = true) (wz : (Cond.initialized z.cls).before a0 Z = true) (w1 : (Cond.methodLink own index y).before a0 Z = true) (w2 : (Cond.declares y).before a0 Z = true) (hnf : NotFace s y) (w3 : (Cond.selects C y z).before a0 Z = true) (w4 : (Cond.instanceMethod z).before a0 Z = true) (hy : y.cls ≠ "java/lang/invoke/MethodHandle" ∧ y.cls ≠ "java/lang/invoke/VarHandle") (E : Exa Z h b C) (hf : rm.frames + 1 ≤ Rm.frames) (hl : W + (maxL + 11) + rm.locals ≤ Rm.locals) (hml : Ls.size = c.maxLocals) (argsL : List Value) (hlen : ∀ sig, parseMethodDescriptor y.desc = some sig → argsL.length = sig.parameters.length) (hst : stk = argsL.reverse ++ .ref b :: rest) (hW : (rest.map fun v => v.category).sum ≤ W) (hd : decode c.code pc = .ok (.invokevirtual index, 3)) (has : (.ref b :: argsL).toArray = as') (eT : T.heap = h) (hc : cells + rm.cells ≤ Rm.cells) (hs : slots + rm.slots ≤ Rm.slots) (H : ∀ (T' : State) (Lc : List Loc) (v : Option Value), Stand p l e Rm s m args below meth c T' (locs ++ Lc) (cells + rm.cells) (slots + rm.slots) → Q v T'.heap Lc → Go p e below R (T'.setTop (mkF m (pc + 3) Ls (v.toList ++ rest)))) : Go p e below R (T.setTop (mkF m pc Ls stk)) := by
  obtain ⟨cq, kq, qa, qb, qc⟩ := isOf hZ eT E
  obtain ⟨v, _, ⟨T', L', k', n'⟩, -, X', ⟨Lc, hQ, l1, l2, l3⟩, st⟩ := X.virtualBack hx hown (mvT hZ w1) (mvT hZ w2) hnf (mvT hZ w3) (mvT hZ w4) hy (backOf (W := W) hM hZ wc wz hf hl) qa qc (g := mkF m pc Ls stk) rfl hml (Steps.refl _) (argsL := argsL) (rest := rest) hlen hst (by show 2 * 0 + _ ≤ _; omega) hd (fun _ _ => ⟨has, eT, hc, hs⟩)
  dsimp only [Pt.U, Pt.locs, Pt.cells, Pt.slots] at X' l1 l2 l3 st hQ
  subst l1 l2 l3
  exact Go.step (fun _ k => st.trans k) (H T' Lc v X' hQ)
theorem gs.face (W : Nat) (X : Stand p l e Rm s m args below meth c T locs cells slots) (hx : p.tables.exec = Jvm.exec) (hZ : Z.Warmed39 s.vm) (hown : s.vm.findClass own = some m.cls) (hM : MetFree l z (head1 [Cond.code z bytes maxL ret] rm) (fun a U => a = as' ∧ Z.Warmed39 U.vm ∧ U.heap = h) (fun _ _ _ _ _ => True) (fun _ U o U' => ∃ v L, o = .returned v ∧ Q v U'.heap L ∧ FrameEnd U o U' L rm.cells rm.slots)) (wc : (Cond.code z bytes maxL ret).before a0 Z = true) (wz : (Cond.initialized z.cls).before a0 Z = true) (w1 : (Cond.methodLink own index y).before a0 Z = true) (w2 : (Cond.declares y).before a0 Z = true) (w3 : (Cond.interfaceMethod y.cls y.cls y.name y.desc).before args s = true) (w4 : (Cond.selects C y z).before a0 Z = true) (w5 : (Cond.instanceMethod z).before a0 Z = true) (w6 : (Cond.publicMethod z).before a0 Z = true) (w7 : (Cond.unhidden C y.name y.desc).before a0 Z = true) (w8 : (Cond.castable C y.cls).before a0 Z = true) (hy : y.cls ≠ "java/lang/invoke/MethodHandle" ∧ y.cls ≠ "java/lang/invoke/VarHandle") (E : Exa Z h b C) (hf : rm.frames + 1 ≤ Rm.frames) (hl : W + (maxL + 11) + rm.locals ≤ Rm.locals) (hml : Ls.size = c.maxLocals) (argsL : List Value) (hlen : ∀ sig, parseMethodDescriptor y.desc = some sig → argsL.length = sig.parameters.length) (hst : stk = argsL.reverse ++ .ref b :: rest) (hW : (rest.map fun v => v.category).sum ≤ W) (hd : decode c.code pc = .ok (.invokeinterface index count, 5)) (has : (.ref b :: argsL).toArray = as') (eT : T.heap = h) (hc : cells + rm.cells ≤ Rm.cells) (hs : slots + rm.slots ≤ Rm.slots) (H : ∀ (T' : State) (Lc : List Loc) (v : Option Value), Stand p l e Rm s m args below meth c T' (locs ++ Lc) (cells + rm.cells) (slots + rm.slots) → Q v T'.heap Lc → Go p e below R (T'.setTop (mkF m (pc + 5) Ls (v.toList ++ rest)))) : Go p e below R (T.setTop (mkF m pc Ls stk)) := by
  obtain ⟨cq, kq, qa, qb, qc⟩ := isOf hZ eT E
  obtain ⟨v, _, ⟨T', L', k', n'⟩, -, X', ⟨Lc, hQ, l1, l2, l3⟩, st⟩ := X.interfaceBack hx hown (mvT hZ w1) (mvT hZ w2) w3 (mvT hZ w4) (mvT hZ w5) (mvT hZ w6) (mvT hZ w7) (mvT hZ w8) hy (backOf (W := W) hM hZ wc wz hf hl) qa qb qc (g := mkF m pc Ls stk) rfl hml (Steps.refl _) (argsL := argsL) (rest := rest) hlen hst (by show 2 * 0 + _ ≤ _; omega) hd (fun _ _ => ⟨has, eT, hc, hs⟩)
  dsimp only [Pt.U, Pt.locs, Pt.cells, Pt.slots] at X' l1 l2 l3 st hQ
  subst l1 l2 l3
  exact Go.step (fun _ k => st.trans k) (H T' Lc v X' hQ)
end GS3
abbrev y_1 : MethodName := ⟨"com/example/onward_schema/onwardschema/store/EntryRemovesPinLaw", "pick", "(I)Lcom/example/onward_schema/onwardschema/store/StoreMap;"⟩
abbrev c_1 : ByteArray := method_2_code
abbrev y_2 : MethodName := ⟨"com/example/onward_schema/onwardschema/store/EntryRemovesPinLaw", "key", "(I)Ljava/lang/String;"⟩
abbrev c_2 : ByteArray := method_3_code
abbrev y_3 : MethodName := ⟨"java/lang/String", "<init>", "([C)V"⟩
abbrev c_3 : ByteArray := jdk_42_method_3_code
abbrev y_4 : MethodName := ⟨"java/lang/String", "<init>", "([CIILjava/lang/Void;)V"⟩
abbrev c_4 : ByteArray := jdk_42_method_149_code
abbrev y_5 : MethodName := ⟨"java/lang/Object", "<init>", "()V"⟩
abbrev c_5 : ByteArray := object_method_1_code
abbrev y_6 : MethodName := ⟨"com/example/onward_schema/onwardschema/store/StoreLog$Entry", "<init>", "(Lcom/example/onward_schema/onwardschema/store/StoreMap;Ljava/lang/String;[B)V"⟩
abbrev c_6 : ByteArray := prog_57_method_1_code
abbrev y_7 : MethodName := ⟨"java/lang/Record", "<init>", "()V"⟩
abbrev c_7 : ByteArray := jdk_30_method_1_code
abbrev y_8 : MethodName := ⟨"java/util/Objects", "requireNonNull", "(Ljava/lang/Object;Ljava/lang/String;)Ljava/lang/Object;"⟩
abbrev c_8 : ByteArray := jdk_31_method_11_code
abbrev y_9 : MethodName := ⟨"com/example/onward_schema/onwardschema/store/StoreLog$Entry", "removes", "()Z"⟩
abbrev c_9 : ByteArray := prog_57_method_3_code
abbrev y_10 : MethodName := ⟨"com/example/onward_schema/onwardschema/store/StoreLog$Entry", "removal", "(Lcom/example/onward_schema/onwardschema/store/StoreMap;Ljava/lang/String;)Lcom/example/onward_schema/onwardschema/store/StoreLog$Entry;"⟩
abbrev c_10 : ByteArray := prog_57_method_2_code
abbrev y_11 : MethodName := ⟨"java/lang/String", "valueOf", "(C)Ljava/lang/String;"⟩
abbrev c_11 : ByteArray := jdk_42_method_139_code
abbrev y_12 : MethodName := ⟨"java/lang/StringLatin1", "canEncode", "(C)Z"⟩
abbrev c_12 : ByteArray := jdk_43_method_3_code
abbrev y_13 : MethodName := ⟨"java/lang/StringLatin1", "toBytes", "(C)[B"⟩
abbrev c_13 : ByteArray := jdk_43_method_46_code
abbrev y_14 : MethodName := ⟨"java/lang/String", "<init>", "([BB)V"⟩
abbrev c_14 : ByteArray := jdk_42_method_151_code
abbrev y_15 : MethodName := ⟨"java/lang/StringUTF16", "compress", "([CII)[B"⟩
abbrev c_15 : ByteArray := jdk_52_method_16_code
abbrev y_16 : MethodName := ⟨"java/lang/StringUTF16", "compress", "([CI[BII)I"⟩
abbrev c_16 : ByteArray := jdk_52_method_21_code
abbrev y_17 : MethodName := ⟨"java/lang/StringUTF16", "coderFromArrayLen", "([BI)B"⟩
abbrev c_17 : ByteArray := jdk_52_method_15_code
theorem i32_is {k : Int32} (z : Int32) (h : k.toInt = z.toInt) : k = z := Int32.toInt_inj.mp h
theorem rem_bd (x m : Int32) (hm : 0 < m.toInt) : 0 ≤ ((x &&& (2147483647 : Int32)) % m).toInt ∧ ((x &&& (2147483647 : Int32)) % m).toInt < m.toInt := by
  have e1 : (x &&& (2147483647 : Int32)).toInt = x.toInt % 2 ^ 31 := Jvm.Kit.i32_mask x 2147483647 (k := 31) (by decide) (by decide)
  have h0 : 0 ≤ (x &&& (2147483647 : Int32)).toInt := by rw [e1]; exact Int.emod_nonneg _ (by decide)
  rw [Jvm.Kit.i32_rem_nonneg h0]
  exact ⟨Int.emod_nonneg _ (by omega), Int.emod_lt_of_pos _ hm⟩

theorem cs4 {k : Int32} (h : 0 ≤ k.toInt ∧ k.toInt < 4) : k = (0 : Int32) ∨ k = (1 : Int32) ∨ k = (2 : Int32) ∨ k = (3 : Int32) := by
  have q : k.toInt = 0 ∨ k.toInt = 1 ∨ k.toInt = 2 ∨ k.toInt = 3 := by omega
  rcases q with q | q | q | q
  · exact Or.inl (i32_is 0 q)
  · exact Or.inr (Or.inl (i32_is 1 q))
  · exact Or.inr (Or.inr (Or.inl (i32_is 2 q)))
  · exact Or.inr (Or.inr (Or.inr ((i32_is 3 q))))
theorem c8_of (x : Int32) : ∃ i : Fin 256, x &&& (255 : Int32) = Int32.ofNat i.val := by
  have e1 : (x &&& (255 : Int32)).toInt = x.toInt % 2 ^ 8 := Jvm.Kit.i32_mask x 255 (k := 8) (by decide) (by decide)
  have h0 := Int.emod_nonneg x.toInt (show (256 : Int) ≠ 0 by decide)
  have h1 := Int.emod_lt_of_pos x.toInt (show (0 : Int) < 256 by decide)
  refine ⟨⟨(x.toInt % 256).toNat, by omega⟩, Int32.toInt_inj.mp ?_⟩
  rw [e1, Int32.toInt_ofNat_small (by show (x.toInt % 256).toNat < 2 ^ 31; omega)]
  show x.toInt % 256 = ((x.toInt % 256).toNat : Int)
  omega
theorem c8f : ∀ i : Fin 256, (((Int32.ofNat i.val).toUInt32.toUInt16.toUInt32.toInt32).toUInt32.toUInt16.toUInt32.toInt32) = ((Int32.ofNat i.val).toUInt32.toUInt16.toUInt32.toInt32) ∧ ¬ (255 : Int32) < ((Int32.ofNat i.val).toUInt32.toUInt16.toUInt32.toInt32) := by decide +kernel
theorem c8 (x : Int32) : (((x &&& (255 : Int32)).toUInt32.toUInt16.toUInt32.toInt32).toUInt32.toUInt16.toUInt32.toInt32) = ((x &&& (255 : Int32)).toUInt32.toUInt16.toUInt32.toInt32) ∧ ¬ (255 : Int32) < ((x &&& (255 : Int32)).toUInt32.toUInt16.toUInt32.toInt32) := by
  obtain ⟨i, e⟩ := c8_of x
  rw [e]; exact c8f i
theorem eq_ref {args : Array Value} {s : State} {t u : Term} {b : Addr} (h : (Jvm.Cond.eq t u).value args s none s [] = some true) (hu : u.eval args s none [] s = some (.ref b)) : t.eval args s none [] s = some (.ref b) := by
  simp only [Cond.value, hu] at h
  cases e : t.eval args s none [] s with
  | none => simp [e] at h
  | some v => cases v <;> simp_all
theorem len_start {args : Array Value} {s : State} {t : Term} {a : Addr} {cl : Cell} {ty : FieldType} {z : Int32} (A : Arr s s.heap a cl ty) (ev : t.eval args s none [] s = some (.ref a)) (h : (Term.length t).eval args s none [] s = some (.int z)) : cl.slots.size < 2 ^ 31 ∧ cl.slots.size.toInt32 = z := by
  have ha := Arr.fin (Vm.Alike.refl s.vm) A
  have h' : (if cl.slots.size < 2147483648 then some (Value.int cl.slots.size.toInt32) else none) = some (Value.int z) := by simpa [Term.eval, ev, ha] using h
  by_cases q : cl.slots.size < 2147483648
  · rw [if_pos q] at h'; exact ⟨q, by simpa using h'⟩
  · rw [if_neg q] at h'; cases h'
theorem elem_start {args : Array Value} {s : State} {t : Term} {a b : Addr} {cl : Cell} {ty : FieldType} {j : Int32} {n : Nat} (A : Arr s s.heap a cl ty) (ev : t.eval args s none [] s = some (.ref a)) (h : (Term.elem t (.int j)).eval args s none [] s = some (.ref b)) (hj : ¬ j < 0 ∧ j.toNatClampNeg = n) : cl.slots[n]? = some (.ref b) := by
  have ha := Arr.fin (Vm.Alike.refl s.vm) A
  have q := elem_f (a := .int j) ev (Term.int_eval j) ha hj.1
  rw [hj.2] at q
  exact q.symm.trans h
theorem and3_bd (x : Int32) : 0 ≤ (x &&& (3 : Int32)).toInt ∧ (x &&& (3 : Int32)).toInt < 4 := by
  have e1 : (x &&& (3 : Int32)).toInt = x.toInt % 2 ^ 2 := Jvm.Kit.i32_mask x 3 (k := 2) (by decide) (by decide)
  rw [e1]; omega
theorem and3r_bd (x : Int32) : 0 ≤ ((x &&& (3 : Int32)) % (3 : Int32)).toInt ∧ ((x &&& (3 : Int32)) % (3 : Int32)).toInt < 3 := by
  rcases cs4 (and3_bd x) with e | e | e | e <;> rw [e] <;> decide
theorem cs3 {k : Int32} (h : 0 ≤ k.toInt ∧ k.toInt < 3) : k = (0 : Int32) ∨ k = (1 : Int32) ∨ k = (2 : Int32) := by
  have q : k.toInt = 0 ∨ k.toInt = 1 ∨ k.toInt = 2 := by omega
  rcases q with q | q | q
  · exact Or.inl (i32_is 0 q)
  · exact Or.inr (Or.inl (i32_is 1 q))
  · exact Or.inr (Or.inr ((i32_is 2 q)))
theorem cs8 {k : Int32} (h : 0 ≤ k.toInt ∧ k.toInt < 8) : k = (0 : Int32) ∨ k = (1 : Int32) ∨ k = (2 : Int32) ∨ k = (3 : Int32) ∨ k = (4 : Int32) ∨ k = (5 : Int32) ∨ k = (6 : Int32) ∨ k = (7 : Int32) := by
  have q : k.toInt = 0 ∨ k.toInt = 1 ∨ k.toInt = 2 ∨ k.toInt = 3 ∨ k.toInt = 4 ∨ k.toInt = 5 ∨ k.toInt = 6 ∨ k.toInt = 7 := by omega
  rcases q with q | q | q | q | q | q | q | q
  · exact Or.inl (i32_is 0 q)
  · exact Or.inr (Or.inl (i32_is 1 q))
  · exact Or.inr (Or.inr (Or.inl (i32_is 2 q)))
  · exact Or.inr (Or.inr (Or.inr (Or.inl (i32_is 3 q))))
  · exact Or.inr (Or.inr (Or.inr (Or.inr (Or.inl (i32_is 4 q)))))
  · exact Or.inr (Or.inr (Or.inr (Or.inr (Or.inr (Or.inl (i32_is 5 q))))))
  · exact Or.inr (Or.inr (Or.inr (Or.inr (Or.inr (Or.inr (Or.inl (i32_is 6 q)))))))
  · exact Or.inr (Or.inr (Or.inr (Or.inr (Or.inr (Or.inr (Or.inr ((i32_is 7 q))))))))
theorem and7_bd (x : Int32) : 0 ≤ (x &&& (7 : Int32)).toInt ∧ (x &&& (7 : Int32)).toInt < 8 := by
  have e1 : (x &&& (7 : Int32)).toInt = x.toInt % 2 ^ 3 := Jvm.Kit.i32_mask x 7 (k := 3) (by decide) (by decide)
  omega
theorem sel_priv2 {Z s : State} {a0 args : Array Value} {C : String} {y : MethodName} (hZ : Z.Warmed39 s.vm) (ws : (Jvm.Cond.selects C y y).before a0 Z = true) (wp : (Jvm.Cond.privateMethod y).before a0 Z = true) (wm : (Jvm.Cond.instanceMethod y).before a0 Z = true) (hy : y.cls ≠ "java/lang/invoke/MethodHandle" ∧ y.cls ≠ "java/lang/invoke/VarHandle") : (Jvm.Cond.selects y.cls y y).before args s = true := by
  obtain ⟨c2, r2, m2, q1, q2, q3, q4, kP, hkP, hkPi⟩ := Cond.selects_spec (show (Jvm.Cond.selects C y y).before args s = true from mvT hZ ws)
  exact Jvm.Stand.selects_self_of_private (findClass_of_methodNamed q3) hkP hkPi (Cond.privateMethod_at (mvP hZ wp (args := args))) (mv hZ wm) hy
theorem same_self {Z : State} {a0 : Array Value} {C : String} {y0 y : MethodName} (ws : (Jvm.Cond.selects C y0 y0).before a0 Z = true) (hc : y0.cls = y.cls) (wm : (Jvm.Cond.instanceMethod y).before a0 Z = true) (hy : y.cls ≠ "java/lang/invoke/MethodHandle" ∧ y.cls ≠ "java/lang/invoke/VarHandle") : (Jvm.Cond.sameMethod y.cls y.cls y.name y.desc).before a0 Z = true := by
  obtain ⟨c2, r2, m2, q1, q2, q3, q4, kP, hkP, hkPi⟩ := Cond.selects_spec ws
  obtain ⟨mk, methM, hnamed, hmethM, -, -⟩ := Cond.instanceMethod_spec wm
  have hfound : Z.methodFound? y.cls y.name y.desc = some mk := State.methodFound?_of_named hnamed hy
  have hn' : Z.methodNamed? ⟨y.cls, y.name, y.desc⟩ = some mk := hnamed
  have hcl := findClass_of_methodNamed q3
  rw [hc] at hcl
  simp [Cond.before, Cond.holds, Cond.value, hcl, hfound, hn', hkP, hkPi]
theorem notFace_by {args : Array Value} {s : State} {C : String} {y0 y : MethodName} (hsel : (Jvm.Cond.selects C y0 y0).before args s = true) (hc : y0.cls = y.cls) : NotFace s y := fun r0 h0 => by
  obtain ⟨c2, r2, m2, q1, q2, q3, q4, kP, hkP, hkPi⟩ := Cond.selects_spec hsel
  have e1 := findClass_of_methodNamed q3
  have e2 := findClass_of_methodNamed h0
  rw [hc] at e1
  have e3 : m2.cls = r0.cls := Option.some.inj (e1.symm.trans e2)
  rw [← e3]
  exact ⟨kP, hkP, hkPi⟩
def Fin3 (Z : State) (EL : List (String × Nat)) (s : State) (below : List Frame) (Q : Option Value → Heap → List Loc → Prop) (K N : Nat) (t : State) (o : Outcome) : Prop := t.status = .running ∧ Ended t below o ∧ ∃ v L, o = .returned v ∧ Q v t.heap L ∧ CHr Z EL s.vm s.heap t.vm t.heap ∧ ReturnedEndW s o t L K N
section GoRetH
variable {p : Program} {l : Launch} {e : Env} {R : Room} {s : State} {vm0 : Vm} {m : MethodId} {args : Array Value} {below : List Frame} {meth : Method} {c : Code} {T : State} {locs : List Loc} {cells slots : Nat} {Q : Option Value → Heap → List Loc → Prop} {K N pc k0 : Nat} {Ls : Array Slot} {rest : List Value} {Z : State} {a0 : Array Value} {EL : List (String × Nat)} {h0 h : Heap}
theorem chFin (X : Stand p l e R (s.setVm vm0) m args below meth c T locs cells slots) (hZ : Z.Warmed39 vm0) (hEL : EW Z a0 EL) (hh : s.heap = h0) (eT : T.heap = h) (hC : CHr Z EL s.vm h0 vm0 h) : CHr Z EL s.vm s.heap T.vm T.heap := by
  subst eT; rw [hh]; exact hC.trans (CHv.at X hZ hEL hC.1)
theorem GoH.retZ (X : Stand p l e R (s.setVm vm0) m args below meth c T locs cells slots) (hS : s.Since vm0 k0) (hk : k0 ≤ T.heap.size) (hZ : Z.Warmed39 vm0) (hEL : EW Z a0 EL) (hh : s.heap = h0) (eT : T.heap = h) (hC : CHr Z EL s.vm h0 vm0 h) (hx : p.tables.exec = Jvm.exec) {z : Int32} {t : FieldType} (hret : meth.sig.returnType = some t) (ht : t = .boolean ∨ t = .byte ∨ t = .char ∨ t = .short) (hlk : meth.locks = false) (hd : decode c.code pc = .ok (.ireturn, 1)) (hq : Q (some (.int (nar t z))) T.heap locs) (hc : cells ≤ K) (hn : slots ≤ N) : Go p e below (Fin3 Z EL s below Q K N) (T.setTop (mkF m pc Ls (.int z :: rest))) := by
  obtain ⟨fs, hr, hrun, hended, hW⟩ := X.leaveW hS hk (v := some (.int (nar t z))) (fun h => by rw [hret] at h; cases h) hlk
  exact ⟨_, _, retN X hx hret ht hd hr, hrun, hended, _, _, rfl, hq, (show CHr Z EL s.vm s.heap T.vm T.heap from chFin X hZ hEL hh eT hC), wmono hW hc hn⟩
theorem GoH.retI (X : Stand p l e R (s.setVm vm0) m args below meth c T locs cells slots) (hS : s.Since vm0 k0) (hk : k0 ≤ T.heap.size) (hZ : Z.Warmed39 vm0) (hEL : EW Z a0 EL) (hh : s.heap = h0) (eT : T.heap = h) (hC : CHr Z EL s.vm h0 vm0 h) (hx : p.tables.exec = Jvm.exec) {z : Int32} (hret : meth.sig.returnType = some .int) (hlk : meth.locks = false) (hd : decode c.code pc = .ok (.ireturn, 1)) (hq : Q (some (.int z)) T.heap locs) (hc : cells ≤ K) (hn : slots ≤ N) : Go p e below (Fin3 Z EL s below Q K N) (T.setTop (mkF m pc Ls (.int z :: rest))) := by
  obtain ⟨fs, hr, hrun, hended, hW⟩ := X.leaveW hS hk (v := some (.int z)) (fun h => by rw [hret] at h; cases h) hlk
  exact ⟨_, _, Jvm.RoadKit.retI X hx hret hd hr, hrun, hended, _, _, rfl, hq, (show CHr Z EL s.vm s.heap T.vm T.heap from chFin X hZ hEL hh eT hC), wmono hW hc hn⟩
theorem GoH.retR (X : Stand p l e R (s.setVm vm0) m args below meth c T locs cells slots) (hS : s.Since vm0 k0) (hk : k0 ≤ T.heap.size) (hZ : Z.Warmed39 vm0) (hEL : EW Z a0 EL) (hh : s.heap = h0) (eT : T.heap = h) (hC : CHr Z EL s.vm h0 vm0 h) (hx : p.tables.exec = Jvm.exec) {w : Value} {t : FieldType} (hret : meth.sig.returnType = some t) (ht : t.isReference = true) (hw : w.isRef = true) (hlk : meth.locks = false) (hd : decode c.code pc = .ok (.areturn, 1)) (hq : Q (some w) T.heap locs) (hc : cells ≤ K) (hn : slots ≤ N) : Go p e below (Fin3 Z EL s below Q K N) (T.setTop (mkF m pc Ls (w :: rest))) := by
  obtain ⟨fs, hr, hrun, hended, hW⟩ := X.leaveW hS hk (v := some w) (fun h => by rw [hret] at h; cases h) hlk
  have hnw : narrow t w = w := by rcases ref_cases hw with rfl | ⟨a, rfl⟩ <;> cases t <;> first | rfl | (cases ht)
  exact ⟨_, _, retOut X hx hret hnw (Or.inr (Or.inr (Or.inr (Or.inr ⟨rfl, ht, hw⟩)))) hd hr, hrun, hended, _, _, rfl, hq, (show CHr Z EL s.vm s.heap T.vm T.heap from chFin X hZ hEL hh eT hC), wmono hW hc hn⟩
theorem GoH.retV (X : Stand p l e R (s.setVm vm0) m args below meth c T locs cells slots) (hS : s.Since vm0 k0) (hk : k0 ≤ T.heap.size) (hZ : Z.Warmed39 vm0) (hEL : EW Z a0 EL) (hh : s.heap = h0) (eT : T.heap = h) (hC : CHr Z EL s.vm h0 vm0 h) (hx : p.tables.exec = Jvm.exec) (hret : meth.sig.returnType = none) (hlk : meth.locks = false) (hd : decode c.code pc = .ok (.return_, 1)) (hq : Q none T.heap locs) (hc : cells ≤ K) (hn : slots ≤ N) : Go p e below (Fin3 Z EL s below Q K N) (T.setTop (mkF m pc Ls [])) := by
  obtain ⟨fs, hr, hrun, hended, hW⟩ := X.leaveW hS hk (v := none) (fun _ => rfl) hlk
  exact ⟨_, _, X.returnOut hx hret hd hr, hrun, hended, _, _, rfl, hq, (show CHr Z EL s.vm s.heap T.vm T.heap from chFin X hZ hEL hh eT hC), wmono hW hc hn⟩
end GoRetH
/-- a String under construction (its value is null) is no booked literal -/
theorem safe_str {Z : State} {EL : List (String × Nat)} {vm : Vm} {h : Heap} {y : Addr} (hal : Z.vm.Alike vm) (E : Exa Z h y "java/lang/String") (F : Fld Z h y "java/lang/String" "value" "[B" .null) : Safe Z EL vm h y := fun B => by
  obtain ⟨cell, cv, kv, iv, f, g1, g2, g3, g4, g5, g6, g7⟩ := F
  obtain ⟨p, -, u, a, -, q, -, F', rfl | rfl⟩ := B
  · obtain ⟨cS, ⟨⟨s1, -, -, ⟨c1, k1, i1, f1, -⟩, -, -, -, v1, -⟩, -⟩, -⟩ := F'
    cases (show h[q.sa]? = some q.sC from s1).symm.trans g1
    obtain ⟨k3, e3, -⟩ := State.fieldFound?_setVm (s := Z) hal g2
    have e4 := (show (Wst Z vm h).fieldFound? _ _ _ = _ from e3).symm.trans f1
    simp only [Option.some.injEq, Prod.mk.injEq] at e4
    rw [← e4.2.2.2, g7] at v1
    simp at v1
  · obtain ⟨cell2, k, e1, e2, e3, -, -⟩ := E
    cases (show h[q.sd]? = some q.SA from F'.hd).symm.trans e1
    obtain ⟨cS, -, -, f2, -⟩ := F'
    have f3 : vm.findClass "[B" = some q.SA.cls := f2
    rw [hal.findClass] at f3
    obtain ⟨k1, q1, q2⟩ := Vm.findClass_spec f3
    obtain ⟨k2, q3, q4⟩ := Vm.findClass_spec e2
    cases q1.symm.trans q3
    exact absurd (q2.symm.trans q4) (by decide)
theorem exa_ne {Z : State} {h : Heap} {a b : Addr} {C D : String} (E : Exa Z h a C) (F : Exa Z h b D) (q : C ≠ D) : a ≠ b := fun e => by
  subst e
  obtain ⟨c1, k1, e1, e2, -⟩ := E
  obtain ⟨c2, k2, f1, f2, -⟩ := F
  cases e1.symm.trans f1
  obtain ⟨k3, q1, q2⟩ := Vm.findClass_spec e2
  obtain ⟨k4, q3, q4⟩ := Vm.findClass_spec f2
  cases q1.symm.trans q3
  exact q (q2.symm.trans q4)
theorem exa_arv_ne {Z : State} {h : Heap} {a b : Addr} {C : String} {n : Nat} {a0 : Array Value} {k : ClassId} {ty : FieldType} {z : Int32} {vs : List Value} {dv : Value} (wi : (Jvm.Cond.instantiable C n).before a0 Z = true) (E : Exa Z h a C) (A : Arv Z h b k ty z vs dv) : a ≠ b := fun e => by
  subst e
  obtain ⟨c1, k1, e1, e2, -⟩ := E
  obtain ⟨cl, ⟨A1, ⟨-, kA, hkA, compA, hkindA⟩, -⟩, -⟩ := A
  cases e1.symm.trans A1
  obtain ⟨cI, kI, hfI, hkI, hkindI, -⟩ := Cond.instantiable_spec wi
  cases e2.symm.trans hfI
  cases hkI.symm.trans hkA
  rw [hkindI] at hkindA; cases hkindA
section GsCst
variable {p : Program} {l : Launch} {e : Env} {Rm : Room} {s : State} {m : MethodId} {args : Array Value} {below : List Frame} {meth : Method} {c : Code} {T : State} {locs : List Loc} {cells slots pc n0 : Nat} {R : State → Outcome → Prop} {Ls : Array Slot} {rest : List Value} {Z : State} {h h0 : Heap} {a : Addr} {k : ClassId} {n j x : Int32} {vs : List Value} {dv : Value} {ws : List Addr}
/-- castore into an array whose components are told, in one step -/
theorem gs.cst (X : Stand p l e Rm s m args below meth c T locs cells slots) (hx : p.tables.exec = Jvm.exec) (hZ : Z.Warmed39 s.vm) (eT : T.heap = h) (F : Arv Z h a k .char n vs dv) (i : Nat) (h1 : (decide (¬ j < 0) && decide (j.toNatClampNeg = i) && decide (i < n.toNatClampNeg)) = true) (hi : i < vs.length) (N : Fr n0 locs) (nn : n0 ≤ a) (old : Old Z n0 h) (keep : Keep h0 h ws) (kw : a ∈ ws ∨ h0.size ≤ a) (hd : decode c.code pc = .ok (.castore, 1))
    (K : ∀ T' h', Stand p l e Rm s m args below meth c T' (locs ++ [⟨a, j.toNatClampNeg⟩]) cells slots → T'.heap = h' → Wr h h' a j.toNatClampNeg (.int (nar .char x)) → Fr n0 (locs ++ [⟨a, j.toNatClampNeg⟩]) → Old Z n0 h' → Keep h0 h' ws → Arv Z h' a k .char n (vs.set i (.int (nar .char x))) dv → Go p e below R (T'.setTop (mkF m (pc + 1) Ls rest))) : Go p e below R (T.setTop (mkF m pc Ls (.int x :: .int j :: .ref a :: rest))) := by
  obtain ⟨cl, A, q1, S, q3, H, G⟩ := id F
  simp only [Bool.and_eq_true, decide_eq_true_eq] at h1
  obtain ⟨⟨g1, g2⟩, g3⟩ := h1
  have hj : ¬ (j < 0 ∨ cl.slots.size ≤ j.toNatClampNeg) := by
    rintro (q | q)
    · exact g1 q
    · rw [S, g2] at q; omega
  obtain ⟨T', h', X', e', W, st⟩ := stC X hx hZ eT A hj (g := mkF m pc Ls (.int x :: .int j :: .ref a :: rest)) rfl rfl hd
  exact Go.step st (K T' h' X' e' W (Fr.snoc X' N nn) (old.wr W nn) (keep.wr W kw) (Arv.set A q1 S q3 H G (fits_nar_char _) W i g2 hi))
end GsCst

abbrev EL_ : List (String × Nat) := consts_1
theorem hEL_ {a0 : Array Value} {Z : State} (hw : ∀ d ∈ tables_1, d.before a0 Z = true) : EW Z a0 EL_ := (EW.cons (wd hw 45 rfl) (by first | decide | simp | decide +kernel) (EW.cons (wd hw 50 rfl) (by first | decide | simp | decide +kernel) (EW.cons (wd hw 51 rfl) (by first | decide | simp | decide +kernel) (EW.cons (wd hw 26 rfl) (by first | decide | simp | decide +kernel) EW.nil))))
theorem ne_v {args : Array Value} {s : State} {t : Term} {z y : Int32} (h : (Jvm.Cond.not (Jvm.Cond.eq t (.int z))).value args s none s [] = some true) (ev : t.eval args s none [] s = some (.int y)) : ¬ y = z := by intro q; subst q; simp [Cond.value, Term.eval, ev] at h
def Wd (Z : State) (cs_ : Int32) (u_4 : Addr) (u_1 : Addr) (u_0 : Addr) (a_NEXT : Addr) (u_2 : Addr) (u_3 : Addr) (aw0 : Addr) : Prop := (Sta Z Z.heap "java/lang/String" "COMPACT_STRINGS" "Z" (.int cs_)) ∧ (¬ cs_ = (0 : Int32)) ∧ (Exa Z Z.heap u_4 "com/example/onward_schema/onwardschema/store/StoreMap") ∧ (Sta Z Z.heap "com/example/onward_schema/onwardschema/store/StoreMap" "VERSIONS" "Lcom/example/onward_schema/onwardschema/store/StoreMap;" (.ref u_4)) ∧ (Exa Z Z.heap u_1 "com/example/onward_schema/onwardschema/store/StoreMap") ∧ (Sta Z Z.heap "com/example/onward_schema/onwardschema/store/StoreMap" "VALIDATION_ENFORCED" "Lcom/example/onward_schema/onwardschema/store/StoreMap;" (.ref u_1)) ∧ (Exa Z Z.heap u_0 "com/example/onward_schema/onwardschema/store/StoreMap") ∧ (Sta Z Z.heap "com/example/onward_schema/onwardschema/store/StoreMap" "NAMESPACE_STRATEGIES" "Lcom/example/onward_schema/onwardschema/store/StoreMap;" (.ref u_0)) ∧ (Exa Z Z.heap a_NEXT "com/example/onward_schema/onwardschema/store/StoreMap") ∧ (Sta Z Z.heap "com/example/onward_schema/onwardschema/store/StoreMap" "NEXT" "Lcom/example/onward_schema/onwardschema/store/StoreMap;" (.ref a_NEXT)) ∧ (Exa Z Z.heap u_2 "com/example/onward_schema/onwardschema/store/StoreMap") ∧ (Sta Z Z.heap "com/example/onward_schema/onwardschema/store/StoreMap" "TOPIC_STRATEGIES" "Lcom/example/onward_schema/onwardschema/store/StoreMap;" (.ref u_2)) ∧ (Exa Z Z.heap u_3 "com/example/onward_schema/onwardschema/store/StoreMap") ∧ (Sta Z Z.heap "com/example/onward_schema/onwardschema/store/StoreMap" "AUTO_UPDATE" "Lcom/example/onward_schema/onwardschema/store/StoreMap;" (.ref u_3)) ∧ (Exa Z Z.heap aw0 "com/example/onward_schema/onwardschema/store/StoreMap") ∧ (Sta Z Z.heap "com/example/onward_schema/onwardschema/store/StoreMap" "TOPIC_VALIDATION_ENFORCED" "Lcom/example/onward_schema/onwardschema/store/StoreMap;" (.ref aw0))
theorem wS_all {a0 : Array Value} {Z : State} (hw : ∀ d ∈ tables_1, d.before a0 Z = true) : ∀ a ∈ Bundle.stringAtoms, a.before a0 Z = true := fun a ha => hw a ((by decide +kernel : ∀ a ∈ Bundle.stringAtoms, a ∈ tables_1) a ha)
theorem d4_0 : decode c_4 0 = .ok (.aload_n 0, 1) := by decide +kernel
theorem d4_1 : decode c_4 1 = .ok (.invokespecial 1, 3) := by decide +kernel
theorem d4_4 : decode c_4 4 = .ok (.iload_n 3, 1) := by decide +kernel
theorem d4_5 : decode c_4 5 = .ok (.ifCond .ne 22, 3) := by decide +kernel
theorem d4_8 : decode c_4 8 = .ok (.aload_n 0, 1) := by decide +kernel
theorem d4_9 : decode c_4 9 = .ok (.ldc 7, 2) := by decide +kernel
theorem d4_11 : decode c_4 11 = .ok (.getfield 9, 3) := by decide +kernel
theorem d4_14 : decode c_4 14 = .ok (.putfield 9, 3) := by decide +kernel
theorem d4_17 : decode c_4 17 = .ok (.aload_n 0, 1) := by decide +kernel
theorem d4_18 : decode c_4 18 = .ok (.ldc 7, 2) := by decide +kernel
theorem d4_20 : decode c_4 20 = .ok (.getfield 15, 3) := by decide +kernel
theorem d4_23 : decode c_4 23 = .ok (.putfield 15, 3) := by decide +kernel
theorem sn0 {a0 : Array Value} {Z : State} (hw : ∀ d ∈ tables_1, d.before a0 Z = true) : SN Z "java/lang/String" "coder" "B" "java/lang/String" "value" "[B" := slot_ne (Or.inr (wd hw 28 rfl)) (Or.inr (wd hw 27 rfl)) (by decide) (t := .byte) (t' := (.array .byte)) (by decide) (by decide)
theorem d4_26 : decode c_4 26 = .ok (.return_, 1) := by decide +kernel
theorem pn_0 : plainName "java/lang/String" = true := by first | (simp [plainName, overriddenIn]; done) | decide +kernel
theorem ef_rm_si0 (m : MethodId) (x0 : Addr) (x1 : Addr) (x2 : Int32) (x3 : Int32)  : entryFrame m #[(.ref x0), (.ref x1), (.int x2), (.int x3), .null] 6 = mkF m 0 #[.val (.ref x0), .val (.ref x1), .val (.int x2), .val (.int x3), .val .null, .unset] [] := by first | (simp [entryFrame, mkF, argsToLocals, Value.category]; done) | rfl
def Q_rm_si0 (Z : State) (cs_ : Int32) (u_4 : Addr) (u_1 : Addr) (u_0 : Addr) (a_NEXT : Addr) (u_2 : Addr) (u_3 : Addr) (aw0 : Addr) (o : Addr) (q : Addr) (h0 : Heap) (n0 : Nat) (v : Option Value) (h : Heap) (L : List Loc) : Prop := v = none ∧ Fr n0 L ∧ Keep h0 h [o] ∧ (Exa Z h o "java/lang/String")
set_option maxRecDepth 65536 in
set_option maxHeartbeats 40000000 in
theorem rm_si0 (l : Launch) (Z : State) (a0 : Array Value) (hw : ∀ d ∈ tables_1, d.before a0 Z = true) (ws : List Jvm.Cond) (cs_ : Int32) (u_4 : Addr) (u_1 : Addr) (u_0 : Addr) (a_NEXT : Addr) (u_2 : Addr) (u_3 : Addr) (aw0 : Addr) (HW : Wd Z cs_ u_4 u_1 u_0 a_NEXT u_2 u_3 aw0) (o : Addr) (q : Addr) (h0 : Heap) (n0 : Nat) (Ol : Old Z n0 h0) (HE_o : Exa Z h0 o "java/lang/String") (HF_o_String_value : Fld Z h0 o "java/lang/String" "value" "[B" .null) (HF_o_String_coder : Fld Z h0 o "java/lang/String" "coder" "B" (.int (0 : Int32))) (nn_o : n0 ≤ o) :
    MetFree l y_4 (head1 (Jvm.Cond.code y_4 jdk_42_method_149_code 6 none :: ws) (rm 1 4 8 12)) (fun a_ U_ => a_ = #[(.ref o), (.ref q), (.int (0 : Int32)), (.int (0 : Int32)), .null] ∧ Z.Warmed39 U_.vm ∧ U_.heap = h0 ∧ CHv Z EL_ U_.vm h0) (fun _ _ _ _ _ => True) (fun _ U_ o_ V_ => ∃ v_ L_, o_ = .returned v_ ∧ Q_rm_si0 Z cs_ u_4 u_1 u_0 a_NEXT u_2 u_3 aw0 o q h0 n0 v_ V_.heap L_ ∧ CHr Z EL_ U_.vm U_.heap V_.vm V_.heap ∧ ReturnedEndW U_ o_ V_ L_ (rm 1 4 8 12).cells (rm 1 4 8 12).slots) := by
  refine MetFree.of_bodySF (plainFor_of_name pn_0) hisR ?_
  intro p e s m args below meth c s₁ Bd hml0 hP hK
  obtain ⟨rfl, hZ, hh, Hc0⟩ := hP
  have hx := Bd.exec
  have hby := Bd.bytes
  have hml : c.maxLocals = 6 := hml0
  have hown : s.vm.findClass "java/lang/String" = some m.cls := findClass_of_methodNamed Bd.named
  have hnm := (name_of_methodNamed Bd.named Bd.method).1
  have X0 : Stand p l e (rm 1 4 8 12) s m #[(.ref o), (.ref q), (.int (0 : Int32)), (.int (0 : Int32)), .null] below meth c s₁ [] 0 0 := Stand.of_body Bd
  have e0 : s₁.heap = h0 := by rw [← hh, Bd.state]; rfl
  have N0 := Fr.nil n0
  have kp0 := Keep.refl h0 [o]
  show Go p e below (Fin3 Z EL_ s below (Q_rm_si0 Z cs_ u_4 u_1 u_0 a_NEXT u_2 u_3 aw0 o q h0 n0) (rm 1 4 8 12).cells (rm 1 4 8 12).slots) _
  have S0 : s.Since s.vm 0 := (State.WarmedH.refl s).since 0
  have hk0 : 0 ≤ h0.size := Nat.zero_le _
  refine Go.step (fun t_ k_ => castTop (ef_rm_si0 m o q (0 : Int32) (0 : Int32)) k_) ?_
  obtain ⟨S_cs, N_cs, Eu_4, Su_4, Eu_1, Su_1, Eu_0, Su_0, Ea_NEXT, Sa_NEXT, Eu_2, Su_2, Eu_3, Su_3, Eaw0, Saw0⟩ := id HW
  have S_o : Safe Z EL_ s.vm h0 o := safe_str hZ.alike HE_o HF_o_String_value
  have lt_o := HE_o.lt
  show Go p e below _ (s₁.setTop (mkF m 0 #[.val (.ref o), .val (.ref q), .val (.int (0 : Int32)), .val (.int (0 : Int32)), .val .null, .unset] []))
  refine gs.aloadN X0.here hx (hb hby d4_0) rfl rfl ?_
  obtain ⟨T1, X1, e1, st1⟩ := initO X0 hx hZ hown (wd hw 23 rfl) (wd hw 24 rfl) (wd hw 25 rfl) e0 (g := (mkF m 1 #[.val (.ref o), .val (.ref q), .val (.int (0 : Int32)), .val (.int (0 : Int32)), .val .null, .unset] [(.ref o)])) rfl (by rw [hml]; rfl) rfl (hb hby d4_1) (by decide) (W := 0) (by show 2 * 0 + _ ≤ _; exact Nat.le_of_eq rfl) (by decide)
  refine Go.step st1 ?_
  show Go p e below _ (T1.setTop (mkF m 4 #[.val (.ref o), .val (.ref q), .val (.int (0 : Int32)), .val (.int (0 : Int32)), .val .null, .unset] []))
  refine gs.iloadN X1.here hx (hb hby d4_4) rfl ?_
  have hc5 : (0 : Int32) = (0 : Int32) := by decide
  refine gs.ifNo X1.here hx (hb hby d4_5) ((if0 _ _).trans (teq hc5).2) ?_
  refine gs.aloadN X1.here hx (hb hby d4_8) rfl rfl ?_
  obtain ⟨sa2, T2, h2, k1_2, sb2, kc2, X2, e2, E2, S2, hkk2, hZ2, hown2, A2, Fc2, Fv2, V2, -, -, C2, -, ns2, st2⟩ := ldcCH (vm0 := s.vm) X1 hx hZ hown (wd hw 26 rfl) (wS_all hw) e1 S0 hk0 (hEL_ hw) (List.mem_of_getElem? (i := 3) rfl) (CHr.keep kp0 (sfS S_o sf0) Hc0).1 (vs := []) (z := (0 : Int32)) ⟨by first | decide | simp | decide +kernel, by first | rfl | decide +kernel⟩ (by decide) (by decide) (g := (mkF m 9 #[.val (.ref o), .val (.ref q), .val (.int (0 : Int32)), .val (.int (0 : Int32)), .val .null, .unset] [(.ref o)])) rfl (hb hby d4_9) (n := 0) (by decide +kernel) (by decide) (by decide) (by decide)
  have chb2 := (CHr.keep kp0 (sfS S_o sf0) Hc0).trans C2
  have old2 := Ol.ext E2
  have kp2 := kp0.ext E2
  have hk2 := Nat.le_trans hk0 E2.1
  obtain ⟨ne_o_sa2, ne_o_sb2⟩ := ns2 _ (chb2.safe lt_o S_o)
  refine Go.fin st2 ?_
  show Go p e below _ (T2.setTop (mkF m 11 _ [(.ref sa2), (.ref o)]))
  refine gs.getF X2 hx hZ2 hown2 (wd hw 31 rfl) Via.refl e2 Fv2 (hb hby d4_11) fun T3 X3 e3 => ?_
  have f4 := (HF_o_String_value.ext E2)
  have f5 := (HE_o.ext E2)
  obtain ⟨T6, h6, X6, e6, W6, st6⟩ := putF X3 hx hZ2 hown2 (host := "") (Or.inl (wd hw 31 rfl)) Via.refl e3 f4 f5 (Or.inr ⟨(wd hw 27 rfl), rfl, hnm⟩) (wd hw 13 rfl) (ty := (.array .byte)) (by decide) rfl rfl (g := (mkF m 14 #[.val (.ref o), .val (.ref q), .val (.int (0 : Int32)), .val (.int (0 : Int32)), .val .null, .unset] [(.ref sb2), (.ref o)])) rfl rfl (hb hby d4_14)
  have N6 := Fr.snoc X6 N0 nn_o
  have old6 := old2.wr W6 nn_o
  have kp6 := kp2.wr W6 (Or.inl (List.mem_of_getElem? (i := 0) rfl))
  have hk6 := Nat.le_trans hkk2 (Keep.of_wr W6).1
  have F6 := f4.same W6
  refine Go.fin st6 ?_
  show Go p e below _ (T6.setTop (mkF m 17 _ []))
  refine gs.aloadN X6.here hx (hb hby d4_17) rfl rfl ?_
  obtain ⟨sa7, T7, h7, k1_7, sb7, kc7, X7, e7, E7, S7, hkk7, hZ7, hown7, A7, Fc7, Fv7, V7, -, -, C7, -, ns7, st7⟩ := ldcCH (vm0 := T2.vm) X6 hx hZ2 hown2 (wd hw 26 rfl) (wS_all hw) e6 S2 hk6 (hEL_ hw) (List.mem_of_getElem? (i := 3) rfl) (chb2.trans (CHr.keep ((Keep.refl h2 [o]).wr W6 (Or.inl (List.mem_of_getElem? (i := 0) rfl))) (sfS (chb2.safe lt_o S_o) sf0) chb2.1)).1 (vs := []) (z := (0 : Int32)) ⟨by first | decide | simp | decide +kernel, by first | rfl | decide +kernel⟩ (by decide) (by decide) (g := (mkF m 18 #[.val (.ref o), .val (.ref q), .val (.int (0 : Int32)), .val (.int (0 : Int32)), .val .null, .unset] [(.ref o)])) rfl (hb hby d4_18) (n := 0) (by decide +kernel) (by decide) (by decide) (by decide)
  have chb7 := (chb2.trans (CHr.keep ((Keep.refl h2 [o]).wr W6 (Or.inl (List.mem_of_getElem? (i := 0) rfl))) (sfS (chb2.safe lt_o S_o) sf0) chb2.1)).trans C7
  have old7 := old6.ext E7
  have kp7 := kp6.ext E7
  have hk7 := Nat.le_trans hk6 E7.1
  obtain ⟨ne_o_sa7, ne_o_sb7⟩ := ns7 _ (chb7.safe lt_o S_o)
  refine Go.fin st7 ?_
  show Go p e below _ (T7.setTop (mkF m 20 _ [(.ref sa7), (.ref o)]))
  refine gs.getF X7 hx hZ7 hown7 (wd hw 32 rfl) Via.refl e7 Fc7 (hb hby d4_20) fun T8 X8 e8 => ?_
  have f9 := (((HF_o_String_coder.ext E2).other W6 (Or.inr (sn0 hw))).ext E7)
  have f10 := ((f5.wr W6).ext E7)
  obtain ⟨T11, h11, X11, e11, W11, st11⟩ := putFN X8 hx hZ7 hown7 (wd hw 32 rfl) Via.refl e8 f9 f10 (Or.inr ⟨(wd hw 28 rfl), rfl, hnm⟩) (wd hw 13 rfl) (ty := .byte) (v' := (.int (0 : Int32))) (by decide) rfl (by decide) (g := (mkF m 23 #[.val (.ref o), .val (.ref q), .val (.int (0 : Int32)), .val (.int (0 : Int32)), .val .null, .unset] [(.int (0 : Int32)), (.ref o)])) rfl rfl (hb hby d4_23)
  have N11 := Fr.snoc X11 N6 nn_o
  have old11 := old7.wr W11 nn_o
  have kp11 := kp7.wr W11 (Or.inl (List.mem_of_getElem? (i := 0) rfl))
  have hk11 := Nat.le_trans hkk7 (Keep.of_wr W11).1
  have F11 := f9.same W11
  refine Go.fin st11 ?_
  show Go p e below _ (T11.setTop (mkF m 26 _ []))
  have f12 := (f10.wr W11)
  refine GoH.retV X11 S7 (by rw [e11]; exact hk11) hZ7 (hEL_ hw) hh e11 (chb7.trans (CHr.keep ((Keep.refl h7 [o]).wr W11 (Or.inl (List.mem_of_getElem? (i := 0) rfl))) (sfS (chb7.safe lt_o S_o) sf0) chb7.1)) hx Bd.returns Bd.notSynchronized (hb hby d4_26) (by rw [e11]; exact ⟨rfl, N11, kp11, f12⟩) (by decide) (by decide)
theorem d3_0 : decode c_3 0 = .ok (.aload_n 0, 1) := by decide +kernel
theorem d3_1 : decode c_3 1 = .ok (.aload_n 1, 1) := by decide +kernel
theorem d3_2 : decode c_3 2 = .ok (.iconst 0, 1) := by decide +kernel
theorem d3_3 : decode c_3 3 = .ok (.aload_n 1, 1) := by decide +kernel
theorem d3_4 : decode c_3 4 = .ok (.arraylength, 1) := by decide +kernel
theorem d3_5 : decode c_3 5 = .ok (.aconst_null, 1) := by decide +kernel
theorem d3_6 : decode c_3 6 = .ok (.invokespecial 27, 3) := by decide +kernel
theorem pd_0 : parseMethodDescriptor "([CIILjava/lang/Void;)V" = some ⟨[(.array .char), .int, .int, (.object "java/lang/Void")], none⟩ := by decide +kernel
theorem d3_9 : decode c_3 9 = .ok (.return_, 1) := by decide +kernel
theorem ef_rm_in0 (m : MethodId) (x0 : Addr) (x1 : Addr)  : entryFrame m #[(.ref x0), (.ref x1)] 2 = mkF m 0 #[.val (.ref x0), .val (.ref x1)] [] := by first | (simp [entryFrame, mkF, argsToLocals, Value.category]; done) | rfl
def Q_rm_in0 (Z : State) (cs_ : Int32) (u_4 : Addr) (u_1 : Addr) (u_0 : Addr) (a_NEXT : Addr) (u_2 : Addr) (u_3 : Addr) (aw0 : Addr) (o : Addr) (q : Addr) (kq : ClassId) (h0 : Heap) (n0 : Nat) (v : Option Value) (h : Heap) (L : List Loc) : Prop := v = none ∧ Fr n0 L ∧ Keep h0 h [o] ∧ (Exa Z h o "java/lang/String")
set_option maxRecDepth 65536 in
set_option maxHeartbeats 40000000 in
theorem rm_in0 (l : Launch) (Z : State) (a0 : Array Value) (hw : ∀ d ∈ tables_1, d.before a0 Z = true) (ws : List Jvm.Cond) (cs_ : Int32) (u_4 : Addr) (u_1 : Addr) (u_0 : Addr) (a_NEXT : Addr) (u_2 : Addr) (u_3 : Addr) (aw0 : Addr) (HW : Wd Z cs_ u_4 u_1 u_0 a_NEXT u_2 u_3 aw0) (o : Addr) (q : Addr) (kq : ClassId) (h0 : Heap) (n0 : Nat) (Ol : Old Z n0 h0) (HE_o : Exa Z h0 o "java/lang/String") (HF_o_String_value : Fld Z h0 o "java/lang/String" "value" "[B" .null) (HF_o_String_coder : Fld Z h0 o "java/lang/String" "coder" "B" (.int (0 : Int32))) (HV_q : Arv Z h0 q kq .char (0 : Int32) [] (.int (0 : Int32))) (nn_o : n0 ≤ o) :
    MetFree l y_3 (head1 (Jvm.Cond.code y_3 jdk_42_method_3_code 2 none :: ws) (rm 2 4 8 29)) (fun a_ U_ => a_ = #[(.ref o), (.ref q)] ∧ Z.Warmed39 U_.vm ∧ U_.heap = h0 ∧ CHv Z EL_ U_.vm h0) (fun _ _ _ _ _ => True) (fun _ U_ o_ V_ => ∃ v_ L_, o_ = .returned v_ ∧ Q_rm_in0 Z cs_ u_4 u_1 u_0 a_NEXT u_2 u_3 aw0 o q kq h0 n0 v_ V_.heap L_ ∧ CHr Z EL_ U_.vm U_.heap V_.vm V_.heap ∧ ReturnedEndW U_ o_ V_ L_ (rm 2 4 8 29).cells (rm 2 4 8 29).slots) := by
  refine MetFree.of_bodySF (plainFor_of_name pn_0) hisR ?_
  intro p e s m args below meth c s₁ Bd hml0 hP hK
  obtain ⟨rfl, hZ, hh, Hc0⟩ := hP
  have hx := Bd.exec
  have hby := Bd.bytes
  have hml : c.maxLocals = 2 := hml0
  have hown : s.vm.findClass "java/lang/String" = some m.cls := findClass_of_methodNamed Bd.named
  have hnm := (name_of_methodNamed Bd.named Bd.method).1
  have X0 : Stand p l e (rm 2 4 8 29) s m #[(.ref o), (.ref q)] below meth c s₁ [] 0 0 := Stand.of_body Bd
  have e0 : s₁.heap = h0 := by rw [← hh, Bd.state]; rfl
  have N0 := Fr.nil n0
  have kp0 := Keep.refl h0 [o]
  show Go p e below (Fin3 Z EL_ s below (Q_rm_in0 Z cs_ u_4 u_1 u_0 a_NEXT u_2 u_3 aw0 o q kq h0 n0) (rm 2 4 8 29).cells (rm 2 4 8 29).slots) _
  have S0 : s.Since s.vm 0 := (State.WarmedH.refl s).since 0
  have hk0 : 0 ≤ h0.size := Nat.zero_le _
  refine Go.step (fun t_ k_ => castTop (ef_rm_in0 m o q) k_) ?_
  obtain ⟨S_cs, N_cs, Eu_4, Su_4, Eu_1, Su_1, Eu_0, Su_0, Ea_NEXT, Sa_NEXT, Eu_2, Su_2, Eu_3, Su_3, Eaw0, Saw0⟩ := id HW
  have S_o : Safe Z EL_ s.vm h0 o := safe_str hZ.alike HE_o HF_o_String_value
  have lt_o := HE_o.lt
  show Go p e below _ (s₁.setTop (mkF m 0 #[.val (.ref o), .val (.ref q)] []))
  refine gs.aloadN X0.here hx (hb hby d3_0) rfl rfl ?_
  refine gs.aloadN X0.here hx (hb hby d3_1) rfl rfl ?_
  refine gs.iconst 0 X0.here hx (hb hby d3_2) rfl ?_
  refine gs.aloadN X0.here hx (hb hby d3_3) rfl rfl ?_
  obtain ⟨cl1, Ar1, -, Sz1, Ng1, -, -⟩ := id HV_q
  refine Go.fin (fun t_ k_ => X0.arraylength hx (by rw [e0]; exact Ar1.1) (State.isArrayOf_alike hZ.alike Ar1.2.1) (g := mkF m 4 _ _) rfl rfl (hb hby d3_4) _ k_) ?_
  rw [len_of Sz1 Ng1]
  show Go p e below _ (s₁.setTop (mkF m 5 _ [(.int (0 : Int32)), (.int (0 : Int32)), (.ref q), (.ref o)]))
  refine gs.aconstNull X0.here hx (hb hby d3_5) ?_
  obtain ⟨_, _, ⟨T2, L2, k2, n2⟩, -, X2, S2, gr2, ⟨Lc2, hQ2, l2, y2, z2, C2⟩, st2⟩ := X0.specialBackS hx (y := y_4) rfl hown (mvT hZ (wd hw 19 rfl)) (mvT hZ (wd hw 20 rfl)) (mvT hZ (wd hw 22 rfl)) (by decide) (backOfSH (s := s) (vm0 := s.vm) (W := 0) (rm_si0 l Z a0 hw [] cs_ u_4 u_1 u_0 a_NEXT u_2 u_3 aw0 HW o q h0 n0 Ol HE_o HF_o_String_value HF_o_String_coder nn_o) hZ (wd hw 22 rfl) (wd hw 14 rfl) (by decide) (by decide) (hEL_ hw) (CHr.keep kp0 (sfS S_o sf0) Hc0).1) (g := (mkF m 6 #[.val (.ref o), .val (.ref q)] [.null, (.int (0 : Int32)), (.int (0 : Int32)), (.ref q), (.ref o)])) rfl (by rw [hml]; rfl) (Steps.refl _) (a := o) (argsL := [(.ref q), (.int (0 : Int32)), (.int (0 : Int32)), .null]) (rest := []) (lenOf pd_0 rfl) rfl (by show 2 * 0 + _ ≤ _; exact Nat.le_of_eq rfl) (hb hby d3_6) (fun _ _ => ⟨rfl, e0, (by decide : 0 + 4 ≤ _), (by decide : 0 + 8 ≤ _)⟩)
  dsimp only [Pt.U, Pt.locs, Pt.cells, Pt.slots] at X2 l2 y2 z2 st2 hQ2 S2 gr2 C2
  subst l2 y2 z2
  have chb2 := (CHr.keep kp0 (sfS S_o sf0) Hc0).trans C2
  obtain ⟨X2, S2, hZ2, hown2⟩ := rebS (vm0 := s.vm) S0 (by rw [e0]; exact hk0) X2 S2 gr2 hZ hown
  obtain ⟨rfl, Nq2, K2, p2_0⟩ := hQ2
  have old2 := Ol.keep K2 (allS nn_o all0)
  have kp2 := kp0.trans K2 (allS (Or.inl (List.mem_of_getElem? (i := 0) rfl)) all0)
  have N2 := Fr.app N0 Nq2
  refine Go.step (fun t_ k_ => st2.trans k_) ?_
  show Go p e below _ (T2.setTop (mkF m 9 #[.val (.ref o), .val (.ref q)] []))
  refine GoH.retV X2 S2 (by exact (Nat.le_refl _)) hZ2 (hEL_ hw) hh rfl chb2 hx Bd.returns Bd.notSynchronized (hb hby d3_9) (by exact ⟨rfl, N2, kp2, p2_0⟩) (by decide) (by decide)
theorem d1_0 : decode c_1 0 = .ok (.iload_n 0, 1) := by decide +kernel
theorem d1_1 : decode c_1 1 = .ok (.ifCond .ne 7, 3) := by decide +kernel
theorem d1_4 : decode c_1 4 = .ok (.getstatic 7, 3) := by decide +kernel
theorem d1_7 : decode c_1 7 = .ok (.areturn, 1) := by decide +kernel
theorem d1_8 : decode c_1 8 = .ok (.iload_n 0, 1) := by decide +kernel
theorem d1_9 : decode c_1 9 = .ok (.iconst 1, 1) := by decide +kernel
theorem d1_10 : decode c_1 10 = .ok (.if_icmp .ne 7, 3) := by decide +kernel
theorem d1_13 : decode c_1 13 = .ok (.getstatic 13, 3) := by decide +kernel
theorem d1_16 : decode c_1 16 = .ok (.areturn, 1) := by decide +kernel
theorem d1_17 : decode c_1 17 = .ok (.iload_n 0, 1) := by decide +kernel
theorem d1_18 : decode c_1 18 = .ok (.iconst 2, 1) := by decide +kernel
theorem d1_19 : decode c_1 19 = .ok (.if_icmp .ne 7, 3) := by decide +kernel
theorem d1_22 : decode c_1 22 = .ok (.getstatic 16, 3) := by decide +kernel
theorem d1_25 : decode c_1 25 = .ok (.areturn, 1) := by decide +kernel
theorem d1_26 : decode c_1 26 = .ok (.iload_n 0, 1) := by decide +kernel
theorem d1_27 : decode c_1 27 = .ok (.iconst 3, 1) := by decide +kernel
theorem d1_28 : decode c_1 28 = .ok (.if_icmp .ne 7, 3) := by decide +kernel
theorem d1_31 : decode c_1 31 = .ok (.getstatic 19, 3) := by decide +kernel
theorem d1_34 : decode c_1 34 = .ok (.areturn, 1) := by decide +kernel
theorem d1_35 : decode c_1 35 = .ok (.iload_n 0, 1) := by decide +kernel
theorem d1_36 : decode c_1 36 = .ok (.iconst 4, 1) := by decide +kernel
theorem d1_37 : decode c_1 37 = .ok (.if_icmp .ne 7, 3) := by decide +kernel
theorem d1_40 : decode c_1 40 = .ok (.getstatic 22, 3) := by decide +kernel
theorem d1_43 : decode c_1 43 = .ok (.areturn, 1) := by decide +kernel
theorem d1_44 : decode c_1 44 = .ok (.iload_n 0, 1) := by decide +kernel
theorem d1_45 : decode c_1 45 = .ok (.iconst 5, 1) := by decide +kernel
theorem d1_46 : decode c_1 46 = .ok (.if_icmp .ne 7, 3) := by decide +kernel
theorem d1_49 : decode c_1 49 = .ok (.getstatic 25, 3) := by decide +kernel
theorem d1_52 : decode c_1 52 = .ok (.areturn, 1) := by decide +kernel
theorem d1_53 : decode c_1 53 = .ok (.getstatic 28, 3) := by decide +kernel
theorem d1_56 : decode c_1 56 = .ok (.areturn, 1) := by decide +kernel
theorem pn_1 : plainName "com/example/onward_schema/onwardschema/store/EntryRemovesPinLaw" = true := by first | (simp [plainName, overriddenIn]; done) | decide +kernel
theorem ef_rm1 (m : MethodId) (x0 : Int32)  : entryFrame m #[(.int x0)] 1 = mkF m 0 #[.val (.int x0)] [] := by first | (simp [entryFrame, mkF, argsToLocals, Value.category]; done) | rfl
def Q_rm1 (Z : State) (cs_ : Int32) (u_4 : Addr) (u_1 : Addr) (u_0 : Addr) (a_NEXT : Addr) (u_2 : Addr) (u_3 : Addr) (aw0 : Addr) (k : Int32) (res : Addr) (h0 : Heap) (n0 : Nat) (v : Option Value) (h : Heap) (L : List Loc) : Prop := v = some (.ref res) ∧ Fr n0 L ∧ h = h0
set_option maxRecDepth 65536 in
set_option maxHeartbeats 40000000 in
theorem rm1 (l : Launch) (Z : State) (a0 : Array Value) (hw : ∀ d ∈ tables_1, d.before a0 Z = true) (ws : List Jvm.Cond) (cs_ : Int32) (u_4 : Addr) (u_1 : Addr) (u_0 : Addr) (a_NEXT : Addr) (u_2 : Addr) (u_3 : Addr) (aw0 : Addr) (HW : Wd Z cs_ u_4 u_1 u_0 a_NEXT u_2 u_3 aw0) (k : Int32) (res : Addr) (h0 : Heap) (n0 : Nat) (Ol : Old Z n0 h0)  (hres : (if k = (0 : Int32) then u_4 else if k = (1 : Int32) then a_NEXT else if k = (2 : Int32) then u_0 else if k = (3 : Int32) then u_2 else if k = (4 : Int32) then u_3 else if k = (5 : Int32) then u_1 else aw0) = res) :
    MetFree l y_1 (head1 (Jvm.Cond.code y_1 method_2_code 1 (some (.object "com/example/onward_schema/onwardschema/store/StoreMap")) :: ws) (rm 0 0 0 0)) (fun a_ U_ => a_ = #[(.int k)] ∧ Z.Warmed39 U_.vm ∧ U_.heap = h0) (fun _ _ _ _ _ => True) (fun _ U_ o_ V_ => ∃ v_ L_, o_ = .returned v_ ∧ Q_rm1 Z cs_ u_4 u_1 u_0 a_NEXT u_2 u_3 aw0 k res h0 n0 v_ V_.heap L_ ∧ FrameEnd U_ o_ V_ L_ (rm 0 0 0 0).cells (rm 0 0 0 0).slots) := by
  refine MetFree.of_bodySF (plainFor_of_name pn_1) hisR ?_
  intro p e s m args below meth c s₁ Bd hml0 hP hK
  obtain ⟨rfl, hZ, hh⟩ := hP
  have hx := Bd.exec
  have hby := Bd.bytes
  have hml : c.maxLocals = 1 := hml0
  have hown : s.vm.findClass "com/example/onward_schema/onwardschema/store/EntryRemovesPinLaw" = some m.cls := findClass_of_methodNamed Bd.named
  have hnm := (name_of_methodNamed Bd.named Bd.method).1
  have X0 : Stand p l e (rm 0 0 0 0) s m #[(.int k)] below meth c s₁ [] 0 0 := Stand.of_body Bd
  have e0 : s₁.heap = h0 := by rw [← hh, Bd.state]; rfl
  have N0 := Fr.nil n0
  have kp0 := Keep.refl h0 []
  show Go p e below (Fin1 s below (Q_rm1 Z cs_ u_4 u_1 u_0 a_NEXT u_2 u_3 aw0 k res h0 n0) (rm 0 0 0 0).cells (rm 0 0 0 0).slots) _
  refine Go.step (fun t_ k_ => castTop (ef_rm1 m k) k_) ?_
  obtain ⟨S_cs, N_cs, Eu_4, Su_4, Eu_1, Su_1, Eu_0, Su_0, Ea_NEXT, Sa_NEXT, Eu_2, Su_2, Eu_3, Su_3, Eaw0, Saw0⟩ := id HW
  show Go p e below _ (s₁.setTop (mkF m 0 #[.val (.int k)] []))
  refine gs.iloadN X0.here hx (hb hby d1_0) rfl ?_
  by_cases hc1 : k = (0 : Int32)
  case pos =>
    refine gs.ifNo X0.here hx (hb hby d1_1) ((if0 _ _).trans (teq hc1).2) ?_
    obtain ⟨T1, X1, e1, st1⟩ := getS2 X0 hx hZ hown (host := "") (Or.inl (wd hw 5 rfl)) Via.refl e0 (Su_4.ext Ol.2) (g := (mkF m 4 #[.val (.int k)] [])) rfl (hb hby d1_4)
    refine Go.fin st1 ?_
    show Go p e below _ (T1.setTop (mkF m 7 _ [(.ref u_4)]))
    refine Go.retR X1 hx Bd.returns rfl rfl Bd.notSynchronized (hb hby d1_7) (by rw [e1]; exact ⟨by first | (rw [← hres]; done) | (rw [← hres]; simp [if_pos hc1]; done) | (rw [← hres]; simp [hc1]; done) | (rw [← hres]; simp_all; done), N0, rfl⟩) (by decide) (by decide)
  case neg =>
    refine gs.ifYes 8 X0.here hx (hb hby d1_1) ((if0 _ _).trans (feq hc1).2) rfl ?_
    refine gs.iloadN X0.here hx (hb hby d1_8) rfl ?_
    refine gs.iconst 1 X0.here hx (hb hby d1_9) rfl ?_
    by_cases hc10 : k = (1 : Int32)
    case pos =>
      refine gs.icmpNo X0.here hx (hb hby d1_10) (teq hc10).2 ?_
      obtain ⟨T2, X2, e2, st2⟩ := getS2 X0 hx hZ hown (host := "") (Or.inl (wd hw 72 rfl)) Via.refl e0 (Sa_NEXT.ext Ol.2) (g := (mkF m 13 #[.val (.int k)] [])) rfl (hb hby d1_13)
      refine Go.fin st2 ?_
      show Go p e below _ (T2.setTop (mkF m 16 _ [(.ref a_NEXT)]))
      refine Go.retR X2 hx Bd.returns rfl rfl Bd.notSynchronized (hb hby d1_16) (by rw [e2]; exact ⟨by first | (rw [← hres]; done) | (rw [← hres]; simp [if_neg hc1, if_pos hc10]; done) | (rw [← hres]; simp [hc1, hc10]; done) | (rw [← hres]; simp_all; done), N0, rfl⟩) (by decide) (by decide)
    case neg =>
      refine gs.icmpYes 17 X0.here hx (hb hby d1_10) (feq hc10).2 rfl ?_
      refine gs.iloadN X0.here hx (hb hby d1_17) rfl ?_
      refine gs.iconst 2 X0.here hx (hb hby d1_18) rfl ?_
      by_cases hc19 : k = (2 : Int32)
      case pos =>
        refine gs.icmpNo X0.here hx (hb hby d1_19) (teq hc19).2 ?_
        obtain ⟨T3, X3, e3, st3⟩ := getS2 X0 hx hZ hown (host := "") (Or.inl (wd hw 70 rfl)) Via.refl e0 (Su_0.ext Ol.2) (g := (mkF m 22 #[.val (.int k)] [])) rfl (hb hby d1_22)
        refine Go.fin st3 ?_
        show Go p e below _ (T3.setTop (mkF m 25 _ [(.ref u_0)]))
        refine Go.retR X3 hx Bd.returns rfl rfl Bd.notSynchronized (hb hby d1_25) (by rw [e3]; exact ⟨by first | (rw [← hres]; done) | (rw [← hres]; simp [if_neg hc1, if_neg hc10, if_pos hc19]; done) | (rw [← hres]; simp [hc1, hc10, hc19]; done) | (rw [← hres]; simp_all; done), N0, rfl⟩) (by decide) (by decide)
      case neg =>
        refine gs.icmpYes 26 X0.here hx (hb hby d1_19) (feq hc19).2 rfl ?_
        refine gs.iloadN X0.here hx (hb hby d1_26) rfl ?_
        refine gs.iconst 3 X0.here hx (hb hby d1_27) rfl ?_
        by_cases hc28 : k = (3 : Int32)
        case pos =>
          refine gs.icmpNo X0.here hx (hb hby d1_28) (teq hc28).2 ?_
          obtain ⟨T4, X4, e4, st4⟩ := getS2 X0 hx hZ hown (host := "") (Or.inl (wd hw 74 rfl)) Via.refl e0 (Su_2.ext Ol.2) (g := (mkF m 31 #[.val (.int k)] [])) rfl (hb hby d1_31)
          refine Go.fin st4 ?_
          show Go p e below _ (T4.setTop (mkF m 34 _ [(.ref u_2)]))
          refine Go.retR X4 hx Bd.returns rfl rfl Bd.notSynchronized (hb hby d1_34) (by rw [e4]; exact ⟨by first | (rw [← hres]; done) | (rw [← hres]; simp [if_neg hc1, if_neg hc10, if_neg hc19, if_pos hc28]; done) | (rw [← hres]; simp [hc1, hc10, hc19, hc28]; done) | (rw [← hres]; simp_all; done), N0, rfl⟩) (by decide) (by decide)
        case neg =>
          refine gs.icmpYes 35 X0.here hx (hb hby d1_28) (feq hc28).2 rfl ?_
          refine gs.iloadN X0.here hx (hb hby d1_35) rfl ?_
          refine gs.iconst 4 X0.here hx (hb hby d1_36) rfl ?_
          by_cases hc37 : k = (4 : Int32)
          case pos =>
            refine gs.icmpNo X0.here hx (hb hby d1_37) (teq hc37).2 ?_
            obtain ⟨T5, X5, e5, st5⟩ := getS2 X0 hx hZ hown (host := "") (Or.inl (wd hw 101 rfl)) Via.refl e0 (Su_3.ext Ol.2) (g := (mkF m 40 #[.val (.int k)] [])) rfl (hb hby d1_40)
            refine Go.fin st5 ?_
            show Go p e below _ (T5.setTop (mkF m 43 _ [(.ref u_3)]))
            refine Go.retR X5 hx Bd.returns rfl rfl Bd.notSynchronized (hb hby d1_43) (by rw [e5]; exact ⟨by first | (rw [← hres]; done) | (rw [← hres]; simp [if_neg hc1, if_neg hc10, if_neg hc19, if_neg hc28, if_pos hc37]; done) | (rw [← hres]; simp [hc1, hc10, hc19, hc28, hc37]; done) | (rw [← hres]; simp_all; done), N0, rfl⟩) (by decide) (by decide)
          case neg =>
            refine gs.icmpYes 44 X0.here hx (hb hby d1_37) (feq hc37).2 rfl ?_
            refine gs.iloadN X0.here hx (hb hby d1_44) rfl ?_
            refine gs.iconst 5 X0.here hx (hb hby d1_45) rfl ?_
            by_cases hc46 : k = (5 : Int32)
            case pos =>
              refine gs.icmpNo X0.here hx (hb hby d1_46) (teq hc46).2 ?_
              obtain ⟨T6, X6, e6, st6⟩ := getS2 X0 hx hZ hown (host := "") (Or.inl (wd hw 68 rfl)) Via.refl e0 (Su_1.ext Ol.2) (g := (mkF m 49 #[.val (.int k)] [])) rfl (hb hby d1_49)
              refine Go.fin st6 ?_
              show Go p e below _ (T6.setTop (mkF m 52 _ [(.ref u_1)]))
              refine Go.retR X6 hx Bd.returns rfl rfl Bd.notSynchronized (hb hby d1_52) (by rw [e6]; exact ⟨by first | (rw [← hres]; done) | (rw [← hres]; simp [if_neg hc1, if_neg hc10, if_neg hc19, if_neg hc28, if_neg hc37, if_pos hc46]; done) | (rw [← hres]; simp [hc1, hc10, hc19, hc28, hc37, hc46]; done) | (rw [← hres]; simp_all; done), N0, rfl⟩) (by decide) (by decide)
            case neg =>
              refine gs.icmpYes 53 X0.here hx (hb hby d1_46) (feq hc46).2 rfl ?_
              obtain ⟨T7, X7, e7, st7⟩ := getS2 X0 hx hZ hown (host := "") (Or.inl (wd hw 103 rfl)) Via.refl e0 (Saw0.ext Ol.2) (g := (mkF m 53 #[.val (.int k)] [])) rfl (hb hby d1_53)
              refine Go.fin st7 ?_
              show Go p e below _ (T7.setTop (mkF m 56 _ [(.ref aw0)]))
              refine Go.retR X7 hx Bd.returns rfl rfl Bd.notSynchronized (hb hby d1_56) (by rw [e7]; exact ⟨by first | (rw [← hres]; done) | (rw [← hres]; simp [if_neg hc1, if_neg hc10, if_neg hc19, if_neg hc28, if_neg hc37, if_neg hc46]; done) | (rw [← hres]; simp [hc1, hc10, hc19, hc28, hc37, hc46]; done) | (rw [← hres]; simp_all; done), N0, rfl⟩) (by decide) (by decide)
theorem d2_0 : decode c_2 0 = .ok (.iload_n 0, 1) := by decide +kernel
theorem d2_1 : decode c_2 1 = .ok (.bipush 16, 2) := by decide +kernel
theorem d2_3 : decode c_2 3 = .ok (.iushr, 1) := by decide +kernel
theorem d2_4 : decode c_2 4 = .ok (.iconst 3, 1) := by decide +kernel
theorem d2_5 : decode c_2 5 = .ok (.iand, 1) := by decide +kernel
theorem d2_6 : decode c_2 6 = .ok (.iconst 3, 1) := by decide +kernel
theorem d2_7 : decode c_2 7 = .ok (.irem, 1) := by decide +kernel
theorem d2_8 : decode c_2 8 = .ok (.istore_n 1, 1) := by decide +kernel
theorem d2_9 : decode c_2 9 = .ok (.iload_n 0, 1) := by decide +kernel
theorem d2_10 : decode c_2 10 = .ok (.sipush 255, 3) := by decide +kernel
theorem d2_13 : decode c_2 13 = .ok (.iand, 1) := by decide +kernel
theorem d2_14 : decode c_2 14 = .ok (.i2c, 1) := by decide +kernel
theorem d2_15 : decode c_2 15 = .ok (.istore_n 2, 1) := by decide +kernel
theorem d2_16 : decode c_2 16 = .ok (.iload_n 0, 1) := by decide +kernel
theorem d2_17 : decode c_2 17 = .ok (.bipush 8, 2) := by decide +kernel
theorem d2_19 : decode c_2 19 = .ok (.iushr, 1) := by decide +kernel
theorem d2_20 : decode c_2 20 = .ok (.sipush 255, 3) := by decide +kernel
theorem d2_23 : decode c_2 23 = .ok (.iand, 1) := by decide +kernel
theorem d2_24 : decode c_2 24 = .ok (.i2c, 1) := by decide +kernel
theorem d2_25 : decode c_2 25 = .ok (.istore_n 3, 1) := by decide +kernel
theorem d2_26 : decode c_2 26 = .ok (.iload_n 1, 1) := by decide +kernel
theorem d2_27 : decode c_2 27 = .ok (.ifCond .ne 14, 3) := by decide +kernel
theorem d2_30 : decode c_2 30 = .ok (.new 31, 3) := by decide +kernel
theorem d2_33 : decode c_2 33 = .ok (.dup, 1) := by decide +kernel
theorem d2_34 : decode c_2 34 = .ok (.iconst 0, 1) := by decide +kernel
theorem d2_35 : decode c_2 35 = .ok (.newarray .char, 2) := by decide +kernel
theorem d2_37 : decode c_2 37 = .ok (.invokespecial 33, 3) := by decide +kernel
theorem pd_1 : parseMethodDescriptor "([C)V" = some ⟨[(.array .char)], none⟩ := by decide +kernel
theorem d2_40 : decode c_2 40 = .ok (.areturn, 1) := by decide +kernel
theorem d2_41 : decode c_2 41 = .ok (.iload_n 1, 1) := by decide +kernel
theorem d2_42 : decode c_2 42 = .ok (.iconst 1, 1) := by decide +kernel
theorem d2_43 : decode c_2 43 = .ok (.if_icmp .ne 8, 3) := by decide +kernel
theorem d2_46 : decode c_2 46 = .ok (.iload_n 2, 1) := by decide +kernel
theorem d2_47 : decode c_2 47 = .ok (.invokestatic 36, 3) := by decide +kernel
theorem d11_0 : decode c_11 0 = .ok (.getstatic 38, 3) := by decide +kernel
theorem d11_3 : decode c_11 3 = .ok (.ifCond .eq 23, 3) := by decide +kernel
theorem d11_6 : decode c_11 6 = .ok (.iload_n 0, 1) := by decide +kernel
theorem d11_7 : decode c_11 7 = .ok (.invokestatic 1015, 3) := by decide +kernel
theorem d12_0 : decode c_12 0 = .ok (.iload_n 0, 1) := by decide +kernel
theorem d12_1 : decode c_12 1 = .ok (.sipush 255, 3) := by decide +kernel
theorem d12_4 : decode c_12 4 = .ok (.if_icmp .gt 7, 3) := by decide +kernel
theorem d12_7 : decode c_12 7 = .ok (.iconst 1, 1) := by decide +kernel
theorem d12_8 : decode c_12 8 = .ok (.goto 4, 3) := by decide +kernel
theorem d12_12 : decode c_12 12 = .ok (.ireturn, 1) := by decide +kernel
theorem pn_2 : plainName "java/lang/StringLatin1" = true := by first | (simp [plainName, overriddenIn]; done) | decide +kernel
theorem ef_am12_1 (m : MethodId) (x0 : Int32)  : entryFrame m #[(.int x0)] 1 = mkF m 0 #[.val (.int x0)] [] := by first | (simp [entryFrame, mkF, argsToLocals, Value.category]; done) | rfl
def Q_am12_1 (Z : State) (cs_ : Int32) (u_4 : Addr) (u_1 : Addr) (u_0 : Addr) (a_NEXT : Addr) (u_2 : Addr) (u_3 : Addr) (aw0 : Addr) (iv1 : Int32) (h0 : Heap) (n0 : Nat) (v : Option Value) (h : Heap) (L : List Loc) : Prop := v = some (.int (1 : Int32)) ∧ Fr n0 L ∧ h = h0
set_option maxRecDepth 65536 in
set_option maxHeartbeats 40000000 in
theorem am12_1 (l : Launch) (Z : State) (a0 : Array Value) (hw : ∀ d ∈ tables_1, d.before a0 Z = true) (ws : List Jvm.Cond) (cs_ : Int32) (u_4 : Addr) (u_1 : Addr) (u_0 : Addr) (a_NEXT : Addr) (u_2 : Addr) (u_3 : Addr) (aw0 : Addr) (HW : Wd Z cs_ u_4 u_1 u_0 a_NEXT u_2 u_3 aw0) (iv1 : Int32) (h0 : Heap) (n0 : Nat) (Ol : Old Z n0 h0) (as0 : ¬ ((255 : Int32) < iv1)) :
    MetFree l y_12 (head1 (Jvm.Cond.code y_12 jdk_43_method_3_code 1 (some .boolean) :: ws) (rm 0 0 0 0)) (fun a_ U_ => a_ = #[(.int iv1)] ∧ Z.Warmed39 U_.vm ∧ U_.heap = h0) (fun _ _ _ _ _ => True) (fun _ U_ o_ V_ => ∃ v_ L_, o_ = .returned v_ ∧ Q_am12_1 Z cs_ u_4 u_1 u_0 a_NEXT u_2 u_3 aw0 iv1 h0 n0 v_ V_.heap L_ ∧ FrameEnd U_ o_ V_ L_ (rm 0 0 0 0).cells (rm 0 0 0 0).slots) := by
  refine MetFree.of_bodySF (plainFor_of_name pn_2) hisR ?_
  intro p e s m args below meth c s₁ Bd hml0 hP hK
  obtain ⟨rfl, hZ, hh⟩ := hP
  have hx := Bd.exec
  have hby := Bd.bytes
  have hml : c.maxLocals = 1 := hml0
  have hown : s.vm.findClass "java/lang/StringLatin1" = some m.cls := findClass_of_methodNamed Bd.named
  have hnm := (name_of_methodNamed Bd.named Bd.method).1
  have X0 : Stand p l e (rm 0 0 0 0) s m #[(.int iv1)] below meth c s₁ [] 0 0 := Stand.of_body Bd
  have e0 : s₁.heap = h0 := by rw [← hh, Bd.state]; rfl
  have N0 := Fr.nil n0
  have kp0 := Keep.refl h0 []
  show Go p e below (Fin1 s below (Q_am12_1 Z cs_ u_4 u_1 u_0 a_NEXT u_2 u_3 aw0 iv1 h0 n0) (rm 0 0 0 0).cells (rm 0 0 0 0).slots) _
  refine Go.step (fun t_ k_ => castTop (ef_am12_1 m iv1) k_) ?_
  obtain ⟨S_cs, N_cs, Eu_4, Su_4, Eu_1, Su_1, Eu_0, Su_0, Ea_NEXT, Sa_NEXT, Eu_2, Su_2, Eu_3, Su_3, Eaw0, Saw0⟩ := id HW
  show Go p e below _ (s₁.setTop (mkF m 0 #[.val (.int iv1)] []))
  refine gs.iloadN X0.here hx (hb hby d12_0) rfl ?_
  refine gs.sipush 255 X0.here hx (hb hby d12_1) rfl ?_
  have hc4 : ¬ ((255 : Int32) < iv1) := as0
  refine gs.icmpNo X0.here hx (hb hby d12_4) (flt hc4).2.2.1 ?_
  refine gs.iconst 1 X0.here hx (hb hby d12_7) rfl ?_
  refine gs.goto 12 X0.here hx (hb hby d12_8) rfl ?_
  refine Go.retZ X0 hx (t := .boolean) Bd.returns (by simp) Bd.notSynchronized (hb hby d12_12) (by rw [e0]; exact ⟨rfl, N0, rfl⟩) (by decide) (by decide)
theorem pd_2 : parseMethodDescriptor "(C)Z" = some ⟨[.char], some .boolean⟩ := by decide +kernel
theorem d11_10 : decode c_11 10 = .ok (.ifCond .eq 16, 3) := by decide +kernel
theorem d11_13 : decode c_11 13 = .ok (.new 10, 3) := by decide +kernel
theorem d11_16 : decode c_11 16 = .ok (.dup, 1) := by decide +kernel
theorem d11_17 : decode c_11 17 = .ok (.iload_n 0, 1) := by decide +kernel
theorem d11_18 : decode c_11 18 = .ok (.invokestatic 1018, 3) := by decide +kernel
theorem d13_0 : decode c_13 0 = .ok (.iconst 1, 1) := by decide +kernel
theorem d13_1 : decode c_13 1 = .ok (.newarray .byte, 2) := by decide +kernel
theorem d13_3 : decode c_13 3 = .ok (.dup, 1) := by decide +kernel
theorem d13_4 : decode c_13 4 = .ok (.iconst 0, 1) := by decide +kernel
theorem d13_5 : decode c_13 5 = .ok (.iload_n 0, 1) := by decide +kernel
theorem d13_6 : decode c_13 6 = .ok (.i2b, 1) := by decide +kernel
theorem d13_7 : decode c_13 7 = .ok (.bastore, 1) := by decide +kernel
theorem d13_8 : decode c_13 8 = .ok (.areturn, 1) := by decide +kernel
theorem ef_am13_1 (m : MethodId) (x0 : Int32)  : entryFrame m #[(.int x0)] 1 = mkF m 0 #[.val (.int x0)] [] := by first | (simp [entryFrame, mkF, argsToLocals, Value.category]; done) | rfl
def Q_am13_1 (Z : State) (cs_ : Int32) (u_4 : Addr) (u_1 : Addr) (u_0 : Addr) (a_NEXT : Addr) (u_2 : Addr) (u_3 : Addr) (aw0 : Addr) (iv1 : Int32) (h0 : Heap) (n0 : Nat) (v : Option Value) (h : Heap) (L : List Loc) : Prop := ∃ fr1 : Addr, ∃ kx1 : ClassId, v = some (.ref fr1) ∧ h0.size ≤ fr1 ∧ Fr n0 L ∧ Keep h0 h [] ∧ (Arv Z h fr1 kx1 .byte (1 : Int32) [(.int ((iv1.toInt8.toInt32).toInt8.toInt32))] (.int (0 : Int32)))
set_option maxRecDepth 65536 in
set_option maxHeartbeats 40000000 in
theorem am13_1 (l : Launch) (Z : State) (a0 : Array Value) (hw : ∀ d ∈ tables_1, d.before a0 Z = true) (ws : List Jvm.Cond) (cs_ : Int32) (u_4 : Addr) (u_1 : Addr) (u_0 : Addr) (a_NEXT : Addr) (u_2 : Addr) (u_3 : Addr) (aw0 : Addr) (HW : Wd Z cs_ u_4 u_1 u_0 a_NEXT u_2 u_3 aw0) (iv1 : Int32) (h0 : Heap) (n0 : Nat) (Ol : Old Z n0 h0)  :
    MetFree l y_13 (head1 (Jvm.Cond.code y_13 jdk_43_method_46_code 1 (some (.array .byte)) :: ws) (rm 0 1 1 0)) (fun a_ U_ => a_ = #[(.int iv1)] ∧ Z.Warmed39 U_.vm ∧ U_.heap = h0) (fun _ _ _ _ _ => True) (fun _ U_ o_ V_ => ∃ v_ L_, o_ = .returned v_ ∧ Q_am13_1 Z cs_ u_4 u_1 u_0 a_NEXT u_2 u_3 aw0 iv1 h0 n0 v_ V_.heap L_ ∧ FrameEnd U_ o_ V_ L_ (rm 0 1 1 0).cells (rm 0 1 1 0).slots) := by
  refine MetFree.of_bodySF (plainFor_of_name pn_2) hisR ?_
  intro p e s m args below meth c s₁ Bd hml0 hP hK
  obtain ⟨rfl, hZ, hh⟩ := hP
  have hx := Bd.exec
  have hby := Bd.bytes
  have hml : c.maxLocals = 1 := hml0
  have hown : s.vm.findClass "java/lang/StringLatin1" = some m.cls := findClass_of_methodNamed Bd.named
  have hnm := (name_of_methodNamed Bd.named Bd.method).1
  have X0 : Stand p l e (rm 0 1 1 0) s m #[(.int iv1)] below meth c s₁ [] 0 0 := Stand.of_body Bd
  have e0 : s₁.heap = h0 := by rw [← hh, Bd.state]; rfl
  have N0 := Fr.nil n0
  have kp0 := Keep.refl h0 []
  show Go p e below (Fin1 s below (Q_am13_1 Z cs_ u_4 u_1 u_0 a_NEXT u_2 u_3 aw0 iv1 h0 n0) (rm 0 1 1 0).cells (rm 0 1 1 0).slots) _
  refine Go.step (fun t_ k_ => castTop (ef_am13_1 m iv1) k_) ?_
  obtain ⟨S_cs, N_cs, Eu_4, Su_4, Eu_1, Su_1, Eu_0, Su_0, Ea_NEXT, Sa_NEXT, Eu_2, Su_2, Eu_3, Su_3, Eaw0, Saw0⟩ := id HW
  show Go p e below _ (s₁.setTop (mkF m 0 #[.val (.int iv1)] []))
  refine gs.iconst 1 X0.here hx (hb hby d13_0) rfl ?_
  obtain ⟨T1, h1, k1, X1, e1, E1, A1, st1⟩ := newP X0 hx hZ (wd hw 8 rfl) e0 (g := (mkF m 1 #[.val (.int iv1)] [(.int (1 : Int32))])) rfl (hb hby d13_1) rfl (by decide) (cap := 1) (by decide) (by decide) (by decide) (by decide)
  obtain ⟨b1, g1⟩ : ∃ z, z = h0.size := ⟨_, rfl⟩
  rw [← g1] at A1 st1
  have nn_b1 : n0 ≤ b1 := Nat.le_trans (old_z0 Ol) (Nat.le_of_eq g1.symm)
  have sz_b1 : h0.size ≤ b1 := Nat.le_trans kp0.1 (Nat.le_of_eq g1.symm)
  have old1 := Ol.ext E1
  have kp1 := kp0.ext E1
  have V1 : Arv Z h1 b1 k1 .byte (1 : Int32) [(.int (0 : Int32))] (.int (0 : Int32)) := (Arv.new A1 (by decide)).pad (pad_rep [] (.int (0 : Int32)) 1)
  refine Go.fin st1 ?_
  show Go p e below _ (T1.setTop (mkF m 3 _ [(.ref b1)]))
  refine gs.dup X1.here hx (hb hby d13_3) rfl ?_
  refine gs.iconst 0 X1.here hx (hb hby d13_4) rfl ?_
  refine gs.iloadN X1.here hx (hb hby d13_5) rfl ?_
  refine Go.fin (fun t_ k_ => XS.i2b X1.here hx rfl (hb hby d13_6) rfl k_) ?_
  show Go p e below _ (T1.setTop (mkF m 7 _ [(.int (iv1.toInt8.toInt32)), (.int (0 : Int32)), (.ref b1), (.ref b1)]))
  obtain ⟨cl2, Ar2, q2, Sz2, Ng2, Hs2, G2⟩ := id V1
  have hin2 : ¬ ((0 : Int32) < 0 ∨ cl2.slots.size ≤ ((0 : Int32)).toNatClampNeg) := inb_of Sz2 ⟨by decide, by decide⟩
  obtain ⟨T3, h3, X3, e3, W3, st3⟩ := stB X1 hx hZ e1 Ar2 (j := (0 : Int32)) hin2 (g := (mkF m 7 #[.val (.int iv1)] [(.int (iv1.toInt8.toInt32)), (.int (0 : Int32)), (.ref b1), (.ref b1)])) rfl rfl (hb hby d13_7)
  have N3 := Fr.snoc X3 N0 nn_b1
  have old3 := old1.wr W3 nn_b1
  have kp3 := kp1.wr W3 (Or.inr sz_b1)
  have V3 : Arv Z h3 b1 k1 .byte (1 : Int32) [(.int ((iv1.toInt8.toInt32).toInt8.toInt32))] (.int (0 : Int32)) := Arv.set Ar2 q2 Sz2 Ng2 Hs2 G2 (fits_nar_byte _) W3 0 rfl (Nat.le_of_ble_eq_true rfl)
  refine Go.fin st3 ?_
  show Go p e below _ (T3.setTop (mkF m 8 _ [(.ref b1)]))
  refine Go.retR X3 hx Bd.returns rfl rfl Bd.notSynchronized (hb hby d13_8) (by rw [e3]; exact ⟨b1, k1, rfl, sz_b1, N3, kp3, V3⟩) (by decide) (by decide)
theorem pd_3 : parseMethodDescriptor "(C)[B" = some ⟨[.char], some (.array .byte)⟩ := by decide +kernel
theorem d11_21 : decode c_11 21 = .ok (.iconst 0, 1) := by decide +kernel
theorem d11_22 : decode c_11 22 = .ok (.invokespecial 209, 3) := by decide +kernel
theorem d14_0 : decode c_14 0 = .ok (.aload_n 0, 1) := by decide +kernel
theorem d14_1 : decode c_14 1 = .ok (.invokespecial 1, 3) := by decide +kernel
theorem d14_4 : decode c_14 4 = .ok (.aload_n 0, 1) := by decide +kernel
theorem d14_5 : decode c_14 5 = .ok (.aload_n 1, 1) := by decide +kernel
theorem d14_6 : decode c_14 6 = .ok (.putfield 9, 3) := by decide +kernel
theorem d14_9 : decode c_14 9 = .ok (.aload_n 0, 1) := by decide +kernel
theorem d14_10 : decode c_14 10 = .ok (.iload_n 2, 1) := by decide +kernel
theorem d14_11 : decode c_14 11 = .ok (.putfield 15, 3) := by decide +kernel
theorem d14_14 : decode c_14 14 = .ok (.return_, 1) := by decide +kernel
theorem sn1 {a0 : Array Value} {Z : State} (hw : ∀ d ∈ tables_1, d.before a0 Z = true) : SN Z "java/lang/String" "value" "[B" "java/lang/String" "coder" "B" := slot_ne (Or.inr (wd hw 27 rfl)) (Or.inr (wd hw 28 rfl)) (by decide) (t := (.array .byte)) (t' := .byte) (by decide) (by decide)
theorem ef_am14_1 (m : MethodId) (x0 : Addr) (x1 : Addr) (x2 : Int32)  : entryFrame m #[(.ref x0), (.ref x1), (.int x2)] 3 = mkF m 0 #[.val (.ref x0), .val (.ref x1), .val (.int x2)] [] := by first | (simp [entryFrame, mkF, argsToLocals, Value.category]; done) | rfl
def Q_am14_1 (Z : State) (cs_ : Int32) (u_4 : Addr) (u_1 : Addr) (u_0 : Addr) (a_NEXT : Addr) (u_2 : Addr) (u_3 : Addr) (aw0 : Addr) (ad1 : Addr) (ad2 : Addr) (h0 : Heap) (n0 : Nat) (v : Option Value) (h : Heap) (L : List Loc) : Prop := v = none ∧ Fr n0 L ∧ Keep h0 h [ad1] ∧ (Exa Z h ad1 "java/lang/String") ∧ (Fld Z h ad1 "java/lang/String" "coder" "B" (.int (0 : Int32))) ∧ (Fld Z h ad1 "java/lang/String" "value" "[B" (.ref ad2))
set_option maxRecDepth 65536 in
set_option maxHeartbeats 40000000 in
theorem am14_1 (l : Launch) (Z : State) (a0 : Array Value) (hw : ∀ d ∈ tables_1, d.before a0 Z = true) (ws : List Jvm.Cond) (cs_ : Int32) (u_4 : Addr) (u_1 : Addr) (u_0 : Addr) (a_NEXT : Addr) (u_2 : Addr) (u_3 : Addr) (aw0 : Addr) (HW : Wd Z cs_ u_4 u_1 u_0 a_NEXT u_2 u_3 aw0) (ad1 : Addr) (ad2 : Addr) (h0 : Heap) (n0 : Nat) (Ol : Old Z n0 h0) (HE_ad1 : Exa Z h0 ad1 "java/lang/String") (HF_ad1_String_value : Fld Z h0 ad1 "java/lang/String" "value" "[B" .null) (HF_ad1_String_coder : Fld Z h0 ad1 "java/lang/String" "coder" "B" (.int (0 : Int32))) (nn_ad1 : n0 ≤ ad1) :
    MetFree l y_14 (head1 (Jvm.Cond.code y_14 jdk_42_method_151_code 3 none :: ws) (rm 1 0 0 12)) (fun a_ U_ => a_ = #[(.ref ad1), (.ref ad2), (.int (0 : Int32))] ∧ Z.Warmed39 U_.vm ∧ U_.heap = h0) (fun _ _ _ _ _ => True) (fun _ U_ o_ V_ => ∃ v_ L_, o_ = .returned v_ ∧ Q_am14_1 Z cs_ u_4 u_1 u_0 a_NEXT u_2 u_3 aw0 ad1 ad2 h0 n0 v_ V_.heap L_ ∧ FrameEnd U_ o_ V_ L_ (rm 1 0 0 12).cells (rm 1 0 0 12).slots) := by
  refine MetFree.of_bodySF (plainFor_of_name pn_0) hisR ?_
  intro p e s m args below meth c s₁ Bd hml0 hP hK
  obtain ⟨rfl, hZ, hh⟩ := hP
  have hx := Bd.exec
  have hby := Bd.bytes
  have hml : c.maxLocals = 3 := hml0
  have hown : s.vm.findClass "java/lang/String" = some m.cls := findClass_of_methodNamed Bd.named
  have hnm := (name_of_methodNamed Bd.named Bd.method).1
  have X0 : Stand p l e (rm 1 0 0 12) s m #[(.ref ad1), (.ref ad2), (.int (0 : Int32))] below meth c s₁ [] 0 0 := Stand.of_body Bd
  have e0 : s₁.heap = h0 := by rw [← hh, Bd.state]; rfl
  have N0 := Fr.nil n0
  have kp0 := Keep.refl h0 [ad1]
  show Go p e below (Fin1 s below (Q_am14_1 Z cs_ u_4 u_1 u_0 a_NEXT u_2 u_3 aw0 ad1 ad2 h0 n0) (rm 1 0 0 12).cells (rm 1 0 0 12).slots) _
  refine Go.step (fun t_ k_ => castTop (ef_am14_1 m ad1 ad2 (0 : Int32)) k_) ?_
  obtain ⟨S_cs, N_cs, Eu_4, Su_4, Eu_1, Su_1, Eu_0, Su_0, Ea_NEXT, Sa_NEXT, Eu_2, Su_2, Eu_3, Su_3, Eaw0, Saw0⟩ := id HW
  show Go p e below _ (s₁.setTop (mkF m 0 #[.val (.ref ad1), .val (.ref ad2), .val (.int (0 : Int32))] []))
  refine gs.aloadN X0.here hx (hb hby d14_0) rfl rfl ?_
  obtain ⟨T1, X1, e1, st1⟩ := initO X0 hx hZ hown (wd hw 23 rfl) (wd hw 24 rfl) (wd hw 25 rfl) e0 (g := (mkF m 1 #[.val (.ref ad1), .val (.ref ad2), .val (.int (0 : Int32))] [(.ref ad1)])) rfl (by rw [hml]; rfl) rfl (hb hby d14_1) (by decide) (W := 0) (by show 2 * 0 + _ ≤ _; exact Nat.le_of_eq rfl) (by decide)
  refine Go.step st1 ?_
  show Go p e below _ (T1.setTop (mkF m 4 #[.val (.ref ad1), .val (.ref ad2), .val (.int (0 : Int32))] []))
  refine gs.aloadN X1.here hx (hb hby d14_4) rfl rfl ?_
  refine gs.aloadN X1.here hx (hb hby d14_5) rfl rfl ?_
  obtain ⟨T2, h2, X2, e2, W2, st2⟩ := putF X1 hx hZ hown (host := "") (Or.inl (wd hw 31 rfl)) Via.refl e1 HF_ad1_String_value HE_ad1 (Or.inr ⟨(wd hw 27 rfl), rfl, hnm⟩) (wd hw 13 rfl) (ty := (.array .byte)) (by decide) rfl rfl (g := (mkF m 6 #[.val (.ref ad1), .val (.ref ad2), .val (.int (0 : Int32))] [(.ref ad2), (.ref ad1)])) rfl rfl (hb hby d14_6)
  have N2 := Fr.snoc X2 N0 nn_ad1
  have old2 := Ol.wr W2 nn_ad1
  have kp2 := kp0.wr W2 (Or.inl (List.mem_of_getElem? (i := 0) rfl))
  have F2 := HF_ad1_String_value.same W2
  refine Go.fin st2 ?_
  show Go p e below _ (T2.setTop (mkF m 9 _ []))
  refine gs.aloadN X2.here hx (hb hby d14_9) rfl rfl ?_
  refine gs.iloadN X2.here hx (hb hby d14_10) rfl ?_
  have f3 := (HF_ad1_String_coder.other W2 (Or.inr (sn0 hw)))
  have f4 := (HE_ad1.wr W2)
  obtain ⟨T5, h5, X5, e5, W5, st5⟩ := putFN X2 hx hZ hown (wd hw 32 rfl) Via.refl e2 f3 f4 (Or.inr ⟨(wd hw 28 rfl), rfl, hnm⟩) (wd hw 13 rfl) (ty := .byte) (v' := (.int (0 : Int32))) (by decide) rfl (by decide) (g := (mkF m 11 #[.val (.ref ad1), .val (.ref ad2), .val (.int (0 : Int32))] [(.int (0 : Int32)), (.ref ad1)])) rfl rfl (hb hby d14_11)
  have N5 := Fr.snoc X5 N2 nn_ad1
  have old5 := old2.wr W5 nn_ad1
  have kp5 := kp2.wr W5 (Or.inl (List.mem_of_getElem? (i := 0) rfl))
  have F5 := f3.same W5
  refine Go.fin st5 ?_
  show Go p e below _ (T5.setTop (mkF m 14 _ []))
  have f6 := (f4.wr W5)
  have f7 := (F2.other W5 (Or.inr (sn1 hw)))
  refine Go.retV X5 hx Bd.returns Bd.notSynchronized (hb hby d14_14) (by rw [e5]; exact ⟨rfl, N5, kp5, f6, F5, f7⟩) (by decide) (by decide)
theorem pd_4 : parseMethodDescriptor "([BB)V" = some ⟨[(.array .byte), .byte], none⟩ := by decide +kernel
theorem d11_25 : decode c_11 25 = .ok (.areturn, 1) := by decide +kernel
theorem ef_am11_1 (m : MethodId) (x0 : Int32)  : entryFrame m #[(.int x0)] 1 = mkF m 0 #[.val (.int x0)] [] := by first | (simp [entryFrame, mkF, argsToLocals, Value.category]; done) | rfl
def Q_am11_1 (Z : State) (cs_ : Int32) (u_4 : Addr) (u_1 : Addr) (u_0 : Addr) (a_NEXT : Addr) (u_2 : Addr) (u_3 : Addr) (aw0 : Addr) (iv1 : Int32) (h0 : Heap) (n0 : Nat) (v : Option Value) (h : Heap) (L : List Loc) : Prop := ∃ fr1 : Addr, ∃ fr2 : Addr, ∃ kx1 : ClassId, v = some (.ref fr1) ∧ h0.size ≤ fr1 ∧ h0.size ≤ fr2 ∧ fr1 ≠ fr2 ∧ Fr n0 L ∧ Keep h0 h [] ∧ (Exa Z h fr1 "java/lang/String") ∧ (Fld Z h fr1 "java/lang/String" "coder" "B" (.int (0 : Int32))) ∧ (Fld Z h fr1 "java/lang/String" "value" "[B" (.ref fr2)) ∧ (Arv Z h fr2 kx1 .byte (1 : Int32) [(.int ((iv1.toInt8.toInt32).toInt8.toInt32))] (.int (0 : Int32)))
set_option maxRecDepth 65536 in
set_option maxHeartbeats 40000000 in
theorem am11_1 (l : Launch) (Z : State) (a0 : Array Value) (hw : ∀ d ∈ tables_1, d.before a0 Z = true) (ws : List Jvm.Cond) (cs_ : Int32) (u_4 : Addr) (u_1 : Addr) (u_0 : Addr) (a_NEXT : Addr) (u_2 : Addr) (u_3 : Addr) (aw0 : Addr) (HW : Wd Z cs_ u_4 u_1 u_0 a_NEXT u_2 u_3 aw0) (iv1 : Int32) (h0 : Heap) (n0 : Nat) (Ol : Old Z n0 h0) (as0 : ¬ ((255 : Int32) < iv1)) :
    MetFree l y_11 (head1 (Jvm.Cond.code y_11 jdk_42_method_139_code 1 (some (.object "java/lang/String")) :: ws) (rm 2 2 5 27)) (fun a_ U_ => a_ = #[(.int iv1)] ∧ Z.Warmed39 U_.vm ∧ U_.heap = h0) (fun _ _ _ _ _ => True) (fun _ U_ o_ V_ => ∃ v_ L_, o_ = .returned v_ ∧ Q_am11_1 Z cs_ u_4 u_1 u_0 a_NEXT u_2 u_3 aw0 iv1 h0 n0 v_ V_.heap L_ ∧ FrameEnd U_ o_ V_ L_ (rm 2 2 5 27).cells (rm 2 2 5 27).slots) := by
  refine MetFree.of_bodySF (plainFor_of_name pn_0) hisR ?_
  intro p e s m args below meth c s₁ Bd hml0 hP hK
  obtain ⟨rfl, hZ, hh⟩ := hP
  have hx := Bd.exec
  have hby := Bd.bytes
  have hml : c.maxLocals = 1 := hml0
  have hown : s.vm.findClass "java/lang/String" = some m.cls := findClass_of_methodNamed Bd.named
  have hnm := (name_of_methodNamed Bd.named Bd.method).1
  have X0 : Stand p l e (rm 2 2 5 27) s m #[(.int iv1)] below meth c s₁ [] 0 0 := Stand.of_body Bd
  have e0 : s₁.heap = h0 := by rw [← hh, Bd.state]; rfl
  have N0 := Fr.nil n0
  have kp0 := Keep.refl h0 []
  show Go p e below (Fin1 s below (Q_am11_1 Z cs_ u_4 u_1 u_0 a_NEXT u_2 u_3 aw0 iv1 h0 n0) (rm 2 2 5 27).cells (rm 2 2 5 27).slots) _
  refine Go.step (fun t_ k_ => castTop (ef_am11_1 m iv1) k_) ?_
  obtain ⟨S_cs, N_cs, Eu_4, Su_4, Eu_1, Su_1, Eu_0, Su_0, Ea_NEXT, Sa_NEXT, Eu_2, Su_2, Eu_3, Su_3, Eaw0, Saw0⟩ := id HW
  show Go p e below _ (s₁.setTop (mkF m 0 #[.val (.int iv1)] []))
  obtain ⟨T1, X1, e1, st1⟩ := getS2 X0 hx hZ hown (host := "") (Or.inl (wd hw 79 rfl)) Via.refl e0 (S_cs.ext Ol.2) (g := (mkF m 0 #[.val (.int iv1)] [])) rfl (hb hby d11_0)
  refine Go.fin st1 ?_
  show Go p e below _ (T1.setTop (mkF m 3 _ [(.int cs_)]))
  have hc3 : ¬ (cs_ = (0 : Int32)) := N_cs
  refine gs.ifNo X1.here hx (hb hby d11_3) ((if0 _ _).trans (feq hc3).1) ?_
  refine gs.iloadN X1.here hx (hb hby d11_6) rfl ?_
  refine gs.stat 0 X1 hx hZ hown (am12_1 l Z a0 hw [] cs_ u_4 u_1 u_0 a_NEXT u_2 u_3 aw0 HW (iv1) h0 n0 Ol as0) (wd hw 83 rfl) (wd hw 82 rfl) (wd hw 80 rfl) (wd hw 81 rfl) (by decide) (by decide) (by decide) (by rw [hml]; rfl) [(.int iv1)] (lenOf pd_2 rfl) rfl (Nat.le_of_eq rfl) (hb hby d11_7) rfl e1 (by decide) (by decide) fun T2 Lc2 v2 X2 hQ2 => ?_
  obtain ⟨rfl, Nq2, e2⟩ := hQ2
  have N2 := Fr.app N0 Nq2
  show Go p e below _ (T2.setTop (mkF m 10 _ [(.int (1 : Int32))]))
  have hc10 : ¬ ((1 : Int32) = (0 : Int32)) := by decide
  refine gs.ifNo X2.here hx (hb hby d11_10) ((if0 _ _).trans (feq hc10).1) ?_
  obtain ⟨T3, h3, X3, e3, E3, A3, D3, Y3, st3⟩ := newO X2 hx hZ hown (wd hw 84 rfl) (wd hw 13 rfl) (wd hw 14 rfl) e2 (g := (mkF m 13 #[.val (.int iv1)] [])) rfl (hb hby d11_13) (by decide) (by decide)
  obtain ⟨b3, g3⟩ : ∃ z, z = h0.size := ⟨_, rfl⟩
  rw [← g3] at A3 D3 Y3 st3
  have nn_b3 : n0 ≤ b3 := Nat.le_trans (old_z0 Ol) (Nat.le_of_eq g3.symm)
  have sz_b3 : h0.size ≤ b3 := Nat.le_trans kp0.1 (Nat.le_of_eq g3.symm)
  have old3 := Ol.ext E3
  have kp3 := kp0.ext E3
  have F3_value : Fld Z h3 b3 "java/lang/String" "value" "[B" .null := D3 (Or.inr (wd hw 27 rfl)) (ty := (.array .byte)) (by decide)
  have F3_coder : Fld Z h3 b3 "java/lang/String" "coder" "B" (.int (0 : Int32)) := D3 (Or.inr (wd hw 28 rfl)) (ty := .byte) (by decide)
  refine Go.fin st3 ?_
  show Go p e below _ (T3.setTop (mkF m 16 _ [(.ref b3)]))
  refine gs.dup X3.here hx (hb hby d11_16) rfl ?_
  refine gs.iloadN X3.here hx (hb hby d11_17) rfl ?_
  refine gs.stat 2 X3 hx hZ hown (am13_1 l Z a0 hw [] cs_ u_4 u_1 u_0 a_NEXT u_2 u_3 aw0 HW (iv1) h3 n0 old3 ) (wd hw 87 rfl) (wd hw 82 rfl) (wd hw 85 rfl) (wd hw 86 rfl) (by decide) (by decide) (by decide) (by rw [hml]; rfl) [(.int iv1)] (lenOf pd_3 rfl) rfl (Nat.le_of_eq rfl) (hb hby d11_18) rfl e3 (by decide) (by decide) fun T4 Lc4 v4 X4 hQ4 => ?_
  obtain ⟨b4_0, kx4_0, rfl, gb_b4_0, Nq4, K4, p4_0⟩ := hQ4
  have nn_b4_0 : n0 ≤ b4_0 := Nat.le_trans (old_z0 old3) gb_b4_0
  have sz_b4_0 : h0.size ≤ b4_0 := Nat.le_trans kp3.1 gb_b4_0
  have old4 := old3.keep K4 all0
  have kp4 := kp3.trans K4 all0
  have N4 := Fr.app N2 Nq4
  show Go p e below _ (T4.setTop (mkF m 21 _ [(.ref b4_0), (.ref b3), (.ref b3)]))
  refine gs.iconst 0 X4.here hx (hb hby d11_21) rfl ?_
  have f5 := (A3.keep K4)
  have f6 := (F3_value.keep K4 nin0)
  have f7 := (F3_coder.keep K4 nin0)
  refine gs.init 1 X4 hx hZ hown (am14_1 l Z a0 hw [] cs_ u_4 u_1 u_0 a_NEXT u_2 u_3 aw0 HW (b3) (b4_0) T4.heap n0 old4 f5 f6 f7 nn_b3) (wd hw 90 rfl) (wd hw 14 rfl) (wd hw 88 rfl) rfl (wd hw 89 rfl) (by decide) (by decide) (by decide) (by rw [hml]; rfl) [(.ref b4_0), (.int (0 : Int32))] (lenOf pd_4 rfl) rfl (Nat.le_of_eq rfl) (hb hby d11_22) rfl rfl (by decide) (by decide) fun T8 Lc8 v8 X8 hQ8 => ?_
  obtain ⟨rfl, Nq8, K8, p8_0, p8_1, p8_2⟩ := hQ8
  have old8 := old4.keep K8 (allS nn_b3 all0)
  have kp8 := kp4.trans K8 (allS (Or.inr sz_b3) all0)
  have N8 := Fr.app N4 Nq8
  show Go p e below _ (T8.setTop (mkF m 25 _ [(.ref b3)]))
  have ne_b3_b4_0 : b3 ≠ b4_0 := Nat.ne_of_lt (Nat.lt_of_lt_of_le A3.lt gb_b4_0)
  have f9 := (p4_0.keep K8 (ninS (Ne.symm ne_b3_b4_0) nin0))
  refine Go.retR X8 hx Bd.returns rfl rfl Bd.notSynchronized (hb hby d11_25) (by exact ⟨b3, b4_0, kx4_0, rfl, sz_b3, sz_b4_0, ne_b3_b4_0, N8, kp8, p8_0, p8_1, p8_2, f9⟩) (by decide) (by decide)
theorem pd_5 : parseMethodDescriptor "(C)Ljava/lang/String;" = some ⟨[.char], some (.object "java/lang/String")⟩ := by decide +kernel
theorem d2_50 : decode c_2 50 = .ok (.areturn, 1) := by decide +kernel
theorem d2_51 : decode c_2 51 = .ok (.new 31, 3) := by decide +kernel
theorem d2_54 : decode c_2 54 = .ok (.dup, 1) := by decide +kernel
theorem d2_55 : decode c_2 55 = .ok (.iconst 2, 1) := by decide +kernel
theorem d2_56 : decode c_2 56 = .ok (.newarray .char, 2) := by decide +kernel
theorem d2_58 : decode c_2 58 = .ok (.dup, 1) := by decide +kernel
theorem d2_59 : decode c_2 59 = .ok (.iconst 0, 1) := by decide +kernel
theorem d2_60 : decode c_2 60 = .ok (.iload_n 2, 1) := by decide +kernel
theorem d2_61 : decode c_2 61 = .ok (.castore, 1) := by decide +kernel
theorem d2_62 : decode c_2 62 = .ok (.dup, 1) := by decide +kernel
theorem d2_63 : decode c_2 63 = .ok (.iconst 1, 1) := by decide +kernel
theorem d2_64 : decode c_2 64 = .ok (.iload_n 3, 1) := by decide +kernel
theorem d2_65 : decode c_2 65 = .ok (.castore, 1) := by decide +kernel
theorem d2_66 : decode c_2 66 = .ok (.invokespecial 33, 3) := by decide +kernel
theorem d4_27 : decode c_4 27 = .ok (.getstatic 38, 3) := by decide +kernel
theorem d4_30 : decode c_4 30 = .ok (.ifCond .eq 28, 3) := by decide +kernel
theorem d4_33 : decode c_4 33 = .ok (.aload_n 1, 1) := by decide +kernel
theorem d4_34 : decode c_4 34 = .ok (.iload_n 2, 1) := by decide +kernel
theorem d4_35 : decode c_4 35 = .ok (.iload_n 3, 1) := by decide +kernel
theorem d4_36 : decode c_4 36 = .ok (.invokestatic 177, 3) := by decide +kernel
theorem d15_0 : decode c_15 0 = .ok (.iload_n 2, 1) := by decide +kernel
theorem d15_1 : decode c_15 1 = .ok (.newarray .byte, 2) := by decide +kernel
theorem d15_3 : decode c_15 3 = .ok (.astore_n 3, 1) := by decide +kernel
theorem d15_4 : decode c_15 4 = .ok (.aload_n 0, 1) := by decide +kernel
theorem d15_5 : decode c_15 5 = .ok (.iload_n 1, 1) := by decide +kernel
theorem d15_6 : decode c_15 6 = .ok (.aload_n 3, 1) := by decide +kernel
theorem d15_7 : decode c_15 7 = .ok (.iconst 0, 1) := by decide +kernel
theorem d15_8 : decode c_15 8 = .ok (.iload_n 2, 1) := by decide +kernel
theorem d15_9 : decode c_15 9 = .ok (.invokestatic 115, 3) := by decide +kernel
theorem d16_0 : decode c_16 0 = .ok (.iconst 0, 1) := by decide +kernel
theorem d16_1 : decode c_16 1 = .ok (.istore 5, 2) := by decide +kernel
theorem d16_3 : decode c_16 3 = .ok (.iload 5, 2) := by decide +kernel
theorem d16_5 : decode c_16 5 = .ok (.iload 4, 2) := by decide +kernel
theorem d16_7 : decode c_16 7 = .ok (.if_icmp .ge 37, 3) := by decide +kernel
theorem d16_10 : decode c_16 10 = .ok (.aload_n 0, 1) := by decide +kernel
theorem d16_11 : decode c_16 11 = .ok (.iload_n 1, 1) := by decide +kernel
theorem d16_12 : decode c_16 12 = .ok (.caload, 1) := by decide +kernel
theorem d16_13 : decode c_16 13 = .ok (.istore 6, 2) := by decide +kernel
theorem d16_15 : decode c_16 15 = .ok (.iload 6, 2) := by decide +kernel
theorem d16_17 : decode c_16 17 = .ok (.sipush 255, 3) := by decide +kernel
theorem d16_20 : decode c_16 20 = .ok (.if_icmp .le 6, 3) := by decide +kernel
theorem d16_26 : decode c_16 26 = .ok (.aload_n 2, 1) := by decide +kernel
theorem d16_27 : decode c_16 27 = .ok (.iload_n 3, 1) := by decide +kernel
theorem d16_28 : decode c_16 28 = .ok (.iload 6, 2) := by decide +kernel
theorem d16_30 : decode c_16 30 = .ok (.i2b, 1) := by decide +kernel
theorem d16_31 : decode c_16 31 = .ok (.bastore, 1) := by decide +kernel
theorem d16_32 : decode c_16 32 = .ok (.iinc 1 1, 3) := by decide +kernel
theorem d16_35 : decode c_16 35 = .ok (.iinc 3 1, 3) := by decide +kernel
theorem d16_38 : decode c_16 38 = .ok (.iinc 5 1, 3) := by decide +kernel
theorem d16_41 : decode c_16 41 = .ok (.goto (-38), 3) := by decide +kernel
theorem d16_44 : decode c_16 44 = .ok (.iload 4, 2) := by decide +kernel
theorem d16_46 : decode c_16 46 = .ok (.ireturn, 1) := by decide +kernel
theorem pn_3 : plainName "java/lang/StringUTF16" = true := by first | (simp [plainName, overriddenIn]; done) | decide +kernel
theorem ef_am16_1 (m : MethodId) (x0 : Addr) (x1 : Int32) (x2 : Addr) (x3 : Int32) (x4 : Int32)  : entryFrame m #[(.ref x0), (.int x1), (.ref x2), (.int x3), (.int x4)] 7 = mkF m 0 #[.val (.ref x0), .val (.int x1), .val (.ref x2), .val (.int x3), .val (.int x4), .unset, .unset] [] := by first | (simp [entryFrame, mkF, argsToLocals, Value.category]; done) | rfl
def Q_am16_1 (Z : State) (cs_ : Int32) (u_4 : Addr) (u_1 : Addr) (u_0 : Addr) (a_NEXT : Addr) (u_2 : Addr) (u_3 : Addr) (aw0 : Addr) (ad1 : Addr) (ad2 : Addr) (kc1 : ClassId) (iv1 : Int32) (iv2 : Int32) (kc2 : ClassId) (h0 : Heap) (n0 : Nat) (v : Option Value) (h : Heap) (L : List Loc) : Prop := v = some (.int (2 : Int32)) ∧ Fr n0 L ∧ Keep h0 h [ad2] ∧ (Arv Z h ad2 kc2 .byte (2 : Int32) [(.int ((iv1.toInt8.toInt32).toInt8.toInt32)), (.int ((iv2.toInt8.toInt32).toInt8.toInt32))] (.int (0 : Int32)))
set_option maxRecDepth 65536 in
set_option maxHeartbeats 40000000 in
theorem am16_1 (l : Launch) (Z : State) (a0 : Array Value) (hw : ∀ d ∈ tables_1, d.before a0 Z = true) (ws : List Jvm.Cond) (cs_ : Int32) (u_4 : Addr) (u_1 : Addr) (u_0 : Addr) (a_NEXT : Addr) (u_2 : Addr) (u_3 : Addr) (aw0 : Addr) (HW : Wd Z cs_ u_4 u_1 u_0 a_NEXT u_2 u_3 aw0) (ad1 : Addr) (ad2 : Addr) (kc1 : ClassId) (iv1 : Int32) (iv2 : Int32) (kc2 : ClassId) (h0 : Heap) (n0 : Nat) (Ol : Old Z n0 h0) (HV_ad1 : Arv Z h0 ad1 kc1 .char (2 : Int32) [(.int iv1), (.int iv2)] (.int (0 : Int32))) (HV_ad2 : Arv Z h0 ad2 kc2 .byte (2 : Int32) [(.int (0 : Int32)), (.int (0 : Int32))] (.int (0 : Int32))) (nn_ad2 : n0 ≤ ad2) (ne_ad1_ad2 : ad1 ≠ ad2) (as0 : ¬ ((255 : Int32) < iv1)) (as1 : ¬ ((255 : Int32) < iv2)) :
    MetFree l y_16 (head1 (Jvm.Cond.code y_16 jdk_52_method_21_code 7 (some .int) :: ws) (rm 0 0 0 0)) (fun a_ U_ => a_ = #[(.ref ad1), (.int (0 : Int32)), (.ref ad2), (.int (0 : Int32)), (.int (2 : Int32))] ∧ Z.Warmed39 U_.vm ∧ U_.heap = h0) (fun _ _ _ _ _ => True) (fun _ U_ o_ V_ => ∃ v_ L_, o_ = .returned v_ ∧ Q_am16_1 Z cs_ u_4 u_1 u_0 a_NEXT u_2 u_3 aw0 ad1 ad2 kc1 iv1 iv2 kc2 h0 n0 v_ V_.heap L_ ∧ FrameEnd U_ o_ V_ L_ (rm 0 0 0 0).cells (rm 0 0 0 0).slots) := by
  refine MetFree.of_bodySF (plainFor_of_name pn_3) hisR ?_
  intro p e s m args below meth c s₁ Bd hml0 hP hK
  obtain ⟨rfl, hZ, hh⟩ := hP
  have hx := Bd.exec
  have hby := Bd.bytes
  have hml : c.maxLocals = 7 := hml0
  have hown : s.vm.findClass "java/lang/StringUTF16" = some m.cls := findClass_of_methodNamed Bd.named
  have hnm := (name_of_methodNamed Bd.named Bd.method).1
  have X0 : Stand p l e (rm 0 0 0 0) s m #[(.ref ad1), (.int (0 : Int32)), (.ref ad2), (.int (0 : Int32)), (.int (2 : Int32))] below meth c s₁ [] 0 0 := Stand.of_body Bd
  have e0 : s₁.heap = h0 := by rw [← hh, Bd.state]; rfl
  have N0 := Fr.nil n0
  have kp0 := Keep.refl h0 [ad2]
  show Go p e below (Fin1 s below (Q_am16_1 Z cs_ u_4 u_1 u_0 a_NEXT u_2 u_3 aw0 ad1 ad2 kc1 iv1 iv2 kc2 h0 n0) (rm 0 0 0 0).cells (rm 0 0 0 0).slots) _
  refine Go.step (fun t_ k_ => castTop (ef_am16_1 m ad1 (0 : Int32) ad2 (0 : Int32) (2 : Int32)) k_) ?_
  obtain ⟨S_cs, N_cs, Eu_4, Su_4, Eu_1, Su_1, Eu_0, Su_0, Ea_NEXT, Sa_NEXT, Eu_2, Su_2, Eu_3, Su_3, Eaw0, Saw0⟩ := id HW
  show Go p e below _ (s₁.setTop (mkF m 0 #[.val (.ref ad1), .val (.int (0 : Int32)), .val (.ref ad2), .val (.int (0 : Int32)), .val (.int (2 : Int32)), .unset, .unset] []))
  refine gs.iconst 0 X0.here hx (hb hby d16_0) rfl ?_
  refine gs.istore X0.here hx (hb hby d16_1) (l' := #[.val (.ref ad1), .val (.int (0 : Int32)), .val (.ref ad2), .val (.int (0 : Int32)), .val (.int (2 : Int32)), .val (.int (0 : Int32)), .unset]) rfl ?_
  refine gs.iload X0.here hx (hb hby d16_3) rfl ?_
  refine gs.iload X0.here hx (hb hby d16_5) rfl ?_
  have hc7 : (0 : Int32) < (2 : Int32) := by decide
  refine gs.icmpNo X0.here hx (hb hby d16_7) (tlt hc7).2.1 ?_
  refine gs.aloadN X0.here hx (hb hby d16_10) rfl rfl ?_
  refine gs.iloadN X0.here hx (hb hby d16_11) rfl ?_
  obtain ⟨cl1, Ar1, q1, Sz1, Ng1, Hs1, G1⟩ := id HV_ad1
  have hin1 : ¬ ((0 : Int32) < 0 ∨ cl1.slots.size ≤ ((0 : Int32)).toNatClampNeg) := inb_of Sz1 ⟨by decide, by decide⟩
  have hat1 : cl1.slots[((0 : Int32)).toNatClampNeg]? = some (.int iv1) := Has.at Hs1 hin1 rfl
  refine Go.fin (fun t_ k_ => X0.caload hx (j := (0 : Int32)) (v := (.int iv1)) (by rw [e0]; exact Ar1.1) (State.isArrayOf_alike hZ.alike Ar1.2.1) Ar1.2.2 hin1 hat1 (g := mkF m 12 _ _) rfl rfl (hb hby d16_12) _ k_) ?_
  show Go p e below _ (s₁.setTop (mkF m 13 _ [(.int iv1)]))
  refine gs.istore X0.here hx (hb hby d16_13) (l' := #[.val (.ref ad1), .val (.int (0 : Int32)), .val (.ref ad2), .val (.int (0 : Int32)), .val (.int (2 : Int32)), .val (.int (0 : Int32)), .val (.int iv1)]) rfl ?_
  refine gs.iload X0.here hx (hb hby d16_15) rfl ?_
  refine gs.sipush 255 X0.here hx (hb hby d16_17) rfl ?_
  have hc20 : ¬ ((255 : Int32) < iv1) := as0
  refine gs.icmpYes 26 X0.here hx (hb hby d16_20) (flt hc20).2.2.2 rfl ?_
  refine gs.aloadN X0.here hx (hb hby d16_26) rfl rfl ?_
  refine gs.iloadN X0.here hx (hb hby d16_27) rfl ?_
  refine gs.iload X0.here hx (hb hby d16_28) rfl ?_
  refine Go.fin (fun t_ k_ => XS.i2b X0.here hx rfl (hb hby d16_30) rfl k_) ?_
  show Go p e below _ (s₁.setTop (mkF m 31 _ [(.int (iv1.toInt8.toInt32)), (.int (0 : Int32)), (.ref ad2)]))
  obtain ⟨cl2, Ar2, q2, Sz2, Ng2, Hs2, G2⟩ := id HV_ad2
  have hin2 : ¬ ((0 : Int32) < 0 ∨ cl2.slots.size ≤ ((0 : Int32)).toNatClampNeg) := inb_of Sz2 ⟨by decide, by decide⟩
  obtain ⟨T3, h3, X3, e3, W3, st3⟩ := stB X0 hx hZ e0 Ar2 (j := (0 : Int32)) hin2 (g := (mkF m 31 #[.val (.ref ad1), .val (.int (0 : Int32)), .val (.ref ad2), .val (.int (0 : Int32)), .val (.int (2 : Int32)), .val (.int (0 : Int32)), .val (.int iv1)] [(.int (iv1.toInt8.toInt32)), (.int (0 : Int32)), (.ref ad2)])) rfl rfl (hb hby d16_31)
  have N3 := Fr.snoc X3 N0 nn_ad2
  have old3 := Ol.wr W3 nn_ad2
  have kp3 := kp0.wr W3 (Or.inl (List.mem_of_getElem? (i := 0) rfl))
  have V3 : Arv Z h3 ad2 kc2 .byte (2 : Int32) [(.int ((iv1.toInt8.toInt32).toInt8.toInt32)), (.int (0 : Int32))] (.int (0 : Int32)) := Arv.set Ar2 q2 Sz2 Ng2 Hs2 G2 (fits_nar_byte _) W3 0 rfl (Nat.le_of_ble_eq_true rfl)
  refine Go.fin st3 ?_
  show Go p e below _ (T3.setTop (mkF m 32 _ []))
  refine Go.step (fun t_ k_ => XS.iinc X3.here hx rfl (hb hby d16_32) rfl (l' := #[.val (.ref ad1), .val (.int ((0 : Int32) + (1 : Int32))), .val (.ref ad2), .val (.int (0 : Int32)), .val (.int (2 : Int32)), .val (.int (0 : Int32)), .val (.int iv1)]) rfl k_) ?_
  show Go p e below _ (T3.setTop (mkF m 35 #[.val (.ref ad1), .val (.int ((0 : Int32) + (1 : Int32))), .val (.ref ad2), .val (.int (0 : Int32)), .val (.int (2 : Int32)), .val (.int (0 : Int32)), .val (.int iv1)] []))
  rw [show ((0 : Int32) + (1 : Int32)) = (1 : Int32) from by decide]
  refine Go.step (fun t_ k_ => XS.iinc X3.here hx rfl (hb hby d16_35) rfl (l' := #[.val (.ref ad1), .val (.int (1 : Int32)), .val (.ref ad2), .val (.int ((0 : Int32) + (1 : Int32))), .val (.int (2 : Int32)), .val (.int (0 : Int32)), .val (.int iv1)]) rfl k_) ?_
  show Go p e below _ (T3.setTop (mkF m 38 #[.val (.ref ad1), .val (.int (1 : Int32)), .val (.ref ad2), .val (.int ((0 : Int32) + (1 : Int32))), .val (.int (2 : Int32)), .val (.int (0 : Int32)), .val (.int iv1)] []))
  rw [show ((0 : Int32) + (1 : Int32)) = (1 : Int32) from by decide]
  refine Go.step (fun t_ k_ => XS.iinc X3.here hx rfl (hb hby d16_38) rfl (l' := #[.val (.ref ad1), .val (.int (1 : Int32)), .val (.ref ad2), .val (.int (1 : Int32)), .val (.int (2 : Int32)), .val (.int ((0 : Int32) + (1 : Int32))), .val (.int iv1)]) rfl k_) ?_
  show Go p e below _ (T3.setTop (mkF m 41 #[.val (.ref ad1), .val (.int (1 : Int32)), .val (.ref ad2), .val (.int (1 : Int32)), .val (.int (2 : Int32)), .val (.int ((0 : Int32) + (1 : Int32))), .val (.int iv1)] []))
  rw [show ((0 : Int32) + (1 : Int32)) = (1 : Int32) from by decide]
  refine gs.goto 3 X3.here hx (hb hby d16_41) rfl ?_
  refine gs.iload X3.here hx (hb hby d16_3) rfl ?_
  refine gs.iload X3.here hx (hb hby d16_5) rfl ?_
  have hc7_2 : (1 : Int32) < (2 : Int32) := by decide
  refine gs.icmpNo X3.here hx (hb hby d16_7) (tlt hc7_2).2.1 ?_
  refine gs.aloadN X3.here hx (hb hby d16_10) rfl rfl ?_
  refine gs.iloadN X3.here hx (hb hby d16_11) rfl ?_
  have f4 := (HV_ad1.other W3 ne_ad1_ad2)
  obtain ⟨cl5, Ar5, q5, Sz5, Ng5, Hs5, G5⟩ := id f4
  have hin5 : ¬ ((1 : Int32) < 0 ∨ cl5.slots.size ≤ ((1 : Int32)).toNatClampNeg) := inb_of Sz5 ⟨by decide, by decide⟩
  have hat5 : cl5.slots[((1 : Int32)).toNatClampNeg]? = some (.int iv2) := Has.at Hs5 hin5 rfl
  refine Go.fin (fun t_ k_ => X3.caload hx (j := (1 : Int32)) (v := (.int iv2)) (by rw [e3]; exact Ar5.1) (State.isArrayOf_alike hZ.alike Ar5.2.1) Ar5.2.2 hin5 hat5 (g := mkF m 12 _ _) rfl rfl (hb hby d16_12) _ k_) ?_
  show Go p e below _ (T3.setTop (mkF m 13 _ [(.int iv2)]))
  refine gs.istore X3.here hx (hb hby d16_13) (l' := #[.val (.ref ad1), .val (.int (1 : Int32)), .val (.ref ad2), .val (.int (1 : Int32)), .val (.int (2 : Int32)), .val (.int (1 : Int32)), .val (.int iv2)]) rfl ?_
  refine gs.iload X3.here hx (hb hby d16_15) rfl ?_
  refine gs.sipush 255 X3.here hx (hb hby d16_17) rfl ?_
  have hc20_2 : ¬ ((255 : Int32) < iv2) := as1
  refine gs.icmpYes 26 X3.here hx (hb hby d16_20) (flt hc20_2).2.2.2 rfl ?_
  refine gs.aloadN X3.here hx (hb hby d16_26) rfl rfl ?_
  refine gs.iloadN X3.here hx (hb hby d16_27) rfl ?_
  refine gs.iload X3.here hx (hb hby d16_28) rfl ?_
  refine Go.fin (fun t_ k_ => XS.i2b X3.here hx rfl (hb hby d16_30) rfl k_) ?_
  show Go p e below _ (T3.setTop (mkF m 31 _ [(.int (iv2.toInt8.toInt32)), (.int (1 : Int32)), (.ref ad2)]))
  obtain ⟨cl6, Ar6, q6, Sz6, Ng6, Hs6, G6⟩ := id V3
  have hin6 : ¬ ((1 : Int32) < 0 ∨ cl6.slots.size ≤ ((1 : Int32)).toNatClampNeg) := inb_of Sz6 ⟨by decide, by decide⟩
  obtain ⟨T7, h7, X7, e7, W7, st7⟩ := stB X3 hx hZ e3 Ar6 (j := (1 : Int32)) hin6 (g := (mkF m 31 #[.val (.ref ad1), .val (.int (1 : Int32)), .val (.ref ad2), .val (.int (1 : Int32)), .val (.int (2 : Int32)), .val (.int (1 : Int32)), .val (.int iv2)] [(.int (iv2.toInt8.toInt32)), (.int (1 : Int32)), (.ref ad2)])) rfl rfl (hb hby d16_31)
  have N7 := Fr.snoc X7 N3 nn_ad2
  have old7 := old3.wr W7 nn_ad2
  have kp7 := kp3.wr W7 (Or.inl (List.mem_of_getElem? (i := 0) rfl))
  have V7 : Arv Z h7 ad2 kc2 .byte (2 : Int32) [(.int ((iv1.toInt8.toInt32).toInt8.toInt32)), (.int ((iv2.toInt8.toInt32).toInt8.toInt32))] (.int (0 : Int32)) := Arv.set Ar6 q6 Sz6 Ng6 Hs6 G6 (fits_nar_byte _) W7 1 rfl (Nat.le_of_ble_eq_true rfl)
  refine Go.fin st7 ?_
  show Go p e below _ (T7.setTop (mkF m 32 _ []))
  refine Go.step (fun t_ k_ => XS.iinc X7.here hx rfl (hb hby d16_32) rfl (l' := #[.val (.ref ad1), .val (.int ((1 : Int32) + (1 : Int32))), .val (.ref ad2), .val (.int (1 : Int32)), .val (.int (2 : Int32)), .val (.int (1 : Int32)), .val (.int iv2)]) rfl k_) ?_
  show Go p e below _ (T7.setTop (mkF m 35 #[.val (.ref ad1), .val (.int ((1 : Int32) + (1 : Int32))), .val (.ref ad2), .val (.int (1 : Int32)), .val (.int (2 : Int32)), .val (.int (1 : Int32)), .val (.int iv2)] []))
  rw [show ((1 : Int32) + (1 : Int32)) = (2 : Int32) from by decide]
  refine Go.step (fun t_ k_ => XS.iinc X7.here hx rfl (hb hby d16_35) rfl (l' := #[.val (.ref ad1), .val (.int (2 : Int32)), .val (.ref ad2), .val (.int ((1 : Int32) + (1 : Int32))), .val (.int (2 : Int32)), .val (.int (1 : Int32)), .val (.int iv2)]) rfl k_) ?_
  show Go p e below _ (T7.setTop (mkF m 38 #[.val (.ref ad1), .val (.int (2 : Int32)), .val (.ref ad2), .val (.int ((1 : Int32) + (1 : Int32))), .val (.int (2 : Int32)), .val (.int (1 : Int32)), .val (.int iv2)] []))
  rw [show ((1 : Int32) + (1 : Int32)) = (2 : Int32) from by decide]
  refine Go.step (fun t_ k_ => XS.iinc X7.here hx rfl (hb hby d16_38) rfl (l' := #[.val (.ref ad1), .val (.int (2 : Int32)), .val (.ref ad2), .val (.int (2 : Int32)), .val (.int (2 : Int32)), .val (.int ((1 : Int32) + (1 : Int32))), .val (.int iv2)]) rfl k_) ?_
  show Go p e below _ (T7.setTop (mkF m 41 #[.val (.ref ad1), .val (.int (2 : Int32)), .val (.ref ad2), .val (.int (2 : Int32)), .val (.int (2 : Int32)), .val (.int ((1 : Int32) + (1 : Int32))), .val (.int iv2)] []))
  rw [show ((1 : Int32) + (1 : Int32)) = (2 : Int32) from by decide]
  refine gs.goto 3 X7.here hx (hb hby d16_41) rfl ?_
  refine gs.iload X7.here hx (hb hby d16_3) rfl ?_
  refine gs.iload X7.here hx (hb hby d16_5) rfl ?_
  have hc7_3 : ¬ ((2 : Int32) < (2 : Int32)) := by decide
  refine gs.icmpYes 44 X7.here hx (hb hby d16_7) (flt hc7_3).2.1 rfl ?_
  refine gs.iload X7.here hx (hb hby d16_44) rfl ?_
  refine Go.retI X7 hx Bd.returns Bd.notSynchronized (hb hby d16_46) (by rw [e7]; exact ⟨rfl, N7, kp7, V7⟩) (by decide) (by decide)
theorem pd_6 : parseMethodDescriptor "([CI[BII)I" = some ⟨[(.array .char), .int, (.array .byte), .int, .int], some .int⟩ := by decide +kernel
theorem d15_12 : decode c_15 12 = .ok (.istore 4, 2) := by decide +kernel
theorem d15_14 : decode c_15 14 = .ok (.iload 4, 2) := by decide +kernel
theorem d15_16 : decode c_15 16 = .ok (.iload_n 2, 1) := by decide +kernel
theorem d15_17 : decode c_15 17 = .ok (.if_icmp .eq 40, 3) := by decide +kernel
theorem d15_57 : decode c_15 57 = .ok (.aload_n 3, 1) := by decide +kernel
theorem d15_58 : decode c_15 58 = .ok (.areturn, 1) := by decide +kernel
theorem ef_am15_1 (m : MethodId) (x0 : Addr) (x1 : Int32) (x2 : Int32)  : entryFrame m #[(.ref x0), (.int x1), (.int x2)] 6 = mkF m 0 #[.val (.ref x0), .val (.int x1), .val (.int x2), .unset, .unset, .unset] [] := by first | (simp [entryFrame, mkF, argsToLocals, Value.category]; done) | rfl
def Q_am15_1 (Z : State) (cs_ : Int32) (u_4 : Addr) (u_1 : Addr) (u_0 : Addr) (a_NEXT : Addr) (u_2 : Addr) (u_3 : Addr) (aw0 : Addr) (ad1 : Addr) (kc1 : ClassId) (iv1 : Int32) (iv2 : Int32) (h0 : Heap) (n0 : Nat) (v : Option Value) (h : Heap) (L : List Loc) : Prop := ∃ fr1 : Addr, ∃ kx1 : ClassId, v = some (.ref fr1) ∧ h0.size ≤ fr1 ∧ Fr n0 L ∧ Keep h0 h [] ∧ (Arv Z h fr1 kx1 .byte (2 : Int32) [(.int ((iv1.toInt8.toInt32).toInt8.toInt32)), (.int ((iv2.toInt8.toInt32).toInt8.toInt32))] (.int (0 : Int32)))
set_option maxRecDepth 65536 in
set_option maxHeartbeats 40000000 in
theorem am15_1 (l : Launch) (Z : State) (a0 : Array Value) (hw : ∀ d ∈ tables_1, d.before a0 Z = true) (ws : List Jvm.Cond) (cs_ : Int32) (u_4 : Addr) (u_1 : Addr) (u_0 : Addr) (a_NEXT : Addr) (u_2 : Addr) (u_3 : Addr) (aw0 : Addr) (HW : Wd Z cs_ u_4 u_1 u_0 a_NEXT u_2 u_3 aw0) (ad1 : Addr) (kc1 : ClassId) (iv1 : Int32) (iv2 : Int32) (h0 : Heap) (n0 : Nat) (Ol : Old Z n0 h0) (HV_ad1 : Arv Z h0 ad1 kc1 .char (2 : Int32) [(.int iv1), (.int iv2)] (.int (0 : Int32))) (as0 : ¬ ((255 : Int32) < iv1)) (as1 : ¬ ((255 : Int32) < iv2)) :
    MetFree l y_15 (head1 (Jvm.Cond.code y_15 jdk_52_method_16_code 6 (some (.array .byte)) :: ws) (rm 1 1 2 18)) (fun a_ U_ => a_ = #[(.ref ad1), (.int (0 : Int32)), (.int (2 : Int32))] ∧ Z.Warmed39 U_.vm ∧ U_.heap = h0) (fun _ _ _ _ _ => True) (fun _ U_ o_ V_ => ∃ v_ L_, o_ = .returned v_ ∧ Q_am15_1 Z cs_ u_4 u_1 u_0 a_NEXT u_2 u_3 aw0 ad1 kc1 iv1 iv2 h0 n0 v_ V_.heap L_ ∧ FrameEnd U_ o_ V_ L_ (rm 1 1 2 18).cells (rm 1 1 2 18).slots) := by
  refine MetFree.of_bodySF (plainFor_of_name pn_3) hisR ?_
  intro p e s m args below meth c s₁ Bd hml0 hP hK
  obtain ⟨rfl, hZ, hh⟩ := hP
  have hx := Bd.exec
  have hby := Bd.bytes
  have hml : c.maxLocals = 6 := hml0
  have hown : s.vm.findClass "java/lang/StringUTF16" = some m.cls := findClass_of_methodNamed Bd.named
  have hnm := (name_of_methodNamed Bd.named Bd.method).1
  have X0 : Stand p l e (rm 1 1 2 18) s m #[(.ref ad1), (.int (0 : Int32)), (.int (2 : Int32))] below meth c s₁ [] 0 0 := Stand.of_body Bd
  have e0 : s₁.heap = h0 := by rw [← hh, Bd.state]; rfl
  have N0 := Fr.nil n0
  have kp0 := Keep.refl h0 []
  show Go p e below (Fin1 s below (Q_am15_1 Z cs_ u_4 u_1 u_0 a_NEXT u_2 u_3 aw0 ad1 kc1 iv1 iv2 h0 n0) (rm 1 1 2 18).cells (rm 1 1 2 18).slots) _
  refine Go.step (fun t_ k_ => castTop (ef_am15_1 m ad1 (0 : Int32) (2 : Int32)) k_) ?_
  obtain ⟨S_cs, N_cs, Eu_4, Su_4, Eu_1, Su_1, Eu_0, Su_0, Ea_NEXT, Sa_NEXT, Eu_2, Su_2, Eu_3, Su_3, Eaw0, Saw0⟩ := id HW
  show Go p e below _ (s₁.setTop (mkF m 0 #[.val (.ref ad1), .val (.int (0 : Int32)), .val (.int (2 : Int32)), .unset, .unset, .unset] []))
  refine gs.iloadN X0.here hx (hb hby d15_0) rfl ?_
  obtain ⟨T1, h1, k1, X1, e1, E1, A1, st1⟩ := newP X0 hx hZ (wd hw 8 rfl) e0 (g := (mkF m 1 #[.val (.ref ad1), .val (.int (0 : Int32)), .val (.int (2 : Int32)), .unset, .unset, .unset] [(.int (2 : Int32))])) rfl (hb hby d15_1) rfl (by decide) (cap := 2) (by decide) (by decide) (by decide) (by decide)
  obtain ⟨b1, g1⟩ : ∃ z, z = h0.size := ⟨_, rfl⟩
  rw [← g1] at A1 st1
  have nn_b1 : n0 ≤ b1 := Nat.le_trans (old_z0 Ol) (Nat.le_of_eq g1.symm)
  have sz_b1 : h0.size ≤ b1 := Nat.le_trans kp0.1 (Nat.le_of_eq g1.symm)
  have old1 := Ol.ext E1
  have kp1 := kp0.ext E1
  have V1 : Arv Z h1 b1 k1 .byte (2 : Int32) [(.int (0 : Int32)), (.int (0 : Int32))] (.int (0 : Int32)) := (Arv.new A1 (by decide)).pad (pad_rep [] (.int (0 : Int32)) 2)
  refine Go.fin st1 ?_
  show Go p e below _ (T1.setTop (mkF m 3 _ [(.ref b1)]))
  refine gs.astoreN X1.here hx (hb hby d15_3) rfl (l' := #[.val (.ref ad1), .val (.int (0 : Int32)), .val (.int (2 : Int32)), .val (.ref b1), .unset, .unset]) rfl ?_
  refine gs.aloadN X1.here hx (hb hby d15_4) rfl rfl ?_
  refine gs.iloadN X1.here hx (hb hby d15_5) rfl ?_
  refine gs.aloadN X1.here hx (hb hby d15_6) rfl rfl ?_
  refine gs.iconst 0 X1.here hx (hb hby d15_7) rfl ?_
  refine gs.iloadN X1.here hx (hb hby d15_8) rfl ?_
  have f2 := (HV_ad1.ext E1)
  have ne_ad1_b1 : ad1 ≠ b1 := Nat.ne_of_lt (Nat.lt_of_lt_of_le HV_ad1.lt (Nat.le_of_eq g1.symm))
  refine gs.stat 0 X1 hx hZ hown (am16_1 l Z a0 hw [] cs_ u_4 u_1 u_0 a_NEXT u_2 u_3 aw0 HW (ad1) (b1) (kc1) (iv1) (iv2) (k1) h1 n0 old1 f2 V1 nn_b1 ne_ad1_b1 as0 as1) (wd hw 97 rfl) (wd hw 93 rfl) (wd hw 95 rfl) (wd hw 96 rfl) (by decide) (by decide) (by decide) (by rw [hml]; rfl) [(.ref ad1), (.int (0 : Int32)), (.ref b1), (.int (0 : Int32)), (.int (2 : Int32))] (lenOf pd_6 rfl) rfl (Nat.le_of_eq rfl) (hb hby d15_9) rfl e1 (by decide) (by decide) fun T3 Lc3 v3 X3 hQ3 => ?_
  obtain ⟨rfl, Nq3, K3, p3_0⟩ := hQ3
  have old3 := old1.keep K3 (allS nn_b1 all0)
  have kp3 := kp1.trans K3 (allS (Or.inr sz_b1) all0)
  have N3 := Fr.app N0 Nq3
  show Go p e below _ (T3.setTop (mkF m 12 _ [(.int (2 : Int32))]))
  refine gs.istore X3.here hx (hb hby d15_12) (l' := #[.val (.ref ad1), .val (.int (0 : Int32)), .val (.int (2 : Int32)), .val (.ref b1), .val (.int (2 : Int32)), .unset]) rfl ?_
  refine gs.iload X3.here hx (hb hby d15_14) rfl ?_
  refine gs.iloadN X3.here hx (hb hby d15_16) rfl ?_
  have hc17 : (2 : Int32) = (2 : Int32) := by decide
  refine gs.icmpYes 57 X3.here hx (hb hby d15_17) (teq hc17).1 rfl ?_
  refine gs.aloadN X3.here hx (hb hby d15_57) rfl rfl ?_
  refine Go.retR X3 hx Bd.returns rfl rfl Bd.notSynchronized (hb hby d15_58) (by exact ⟨b1, k1, rfl, sz_b1, N3, kp3, p3_0⟩) (by decide) (by decide)
theorem pd_7 : parseMethodDescriptor "([CII)[B" = some ⟨[(.array .char), .int, .int], some (.array .byte)⟩ := by decide +kernel
theorem d4_39 : decode c_4 39 = .ok (.astore 5, 2) := by decide +kernel
theorem d4_41 : decode c_4 41 = .ok (.aload_n 0, 1) := by decide +kernel
theorem d4_42 : decode c_4 42 = .ok (.aload 5, 2) := by decide +kernel
theorem d4_44 : decode c_4 44 = .ok (.iload_n 3, 1) := by decide +kernel
theorem d4_45 : decode c_4 45 = .ok (.invokestatic 47, 3) := by decide +kernel
theorem d17_0 : decode c_17 0 = .ok (.iload_n 1, 1) := by decide +kernel
theorem d17_1 : decode c_17 1 = .ok (.aload_n 0, 1) := by decide +kernel
theorem d17_2 : decode c_17 2 = .ok (.arraylength, 1) := by decide +kernel
theorem d17_3 : decode c_17 3 = .ok (.isub, 1) := by decide +kernel
theorem d17_4 : decode c_17 4 = .ok (.bipush 31, 2) := by decide +kernel
theorem d17_6 : decode c_17 6 = .ok (.iushr, 1) := by decide +kernel
theorem d17_7 : decode c_17 7 = .ok (.i2b, 1) := by decide +kernel
theorem d17_8 : decode c_17 8 = .ok (.ireturn, 1) := by decide +kernel
theorem ef_am17_1 (m : MethodId) (x0 : Addr) (x1 : Int32)  : entryFrame m #[(.ref x0), (.int x1)] 2 = mkF m 0 #[.val (.ref x0), .val (.int x1)] [] := by first | (simp [entryFrame, mkF, argsToLocals, Value.category]; done) | rfl
def Q_am17_1 (Z : State) (cs_ : Int32) (u_4 : Addr) (u_1 : Addr) (u_0 : Addr) (a_NEXT : Addr) (u_2 : Addr) (u_3 : Addr) (aw0 : Addr) (ad1 : Addr) (kc1 : ClassId) (iv1 : Int32) (iv2 : Int32) (h0 : Heap) (n0 : Nat) (v : Option Value) (h : Heap) (L : List Loc) : Prop := v = some (.int (0 : Int32)) ∧ Fr n0 L ∧ h = h0
set_option maxRecDepth 65536 in
set_option maxHeartbeats 40000000 in
theorem am17_1 (l : Launch) (Z : State) (a0 : Array Value) (hw : ∀ d ∈ tables_1, d.before a0 Z = true) (ws : List Jvm.Cond) (cs_ : Int32) (u_4 : Addr) (u_1 : Addr) (u_0 : Addr) (a_NEXT : Addr) (u_2 : Addr) (u_3 : Addr) (aw0 : Addr) (HW : Wd Z cs_ u_4 u_1 u_0 a_NEXT u_2 u_3 aw0) (ad1 : Addr) (kc1 : ClassId) (iv1 : Int32) (iv2 : Int32) (h0 : Heap) (n0 : Nat) (Ol : Old Z n0 h0) (HV_ad1 : Arv Z h0 ad1 kc1 .byte (2 : Int32) [(.int iv1), (.int iv2)] (.int (0 : Int32))) :
    MetFree l y_17 (head1 (Jvm.Cond.code y_17 jdk_52_method_15_code 2 (some .byte) :: ws) (rm 0 0 0 0)) (fun a_ U_ => a_ = #[(.ref ad1), (.int (2 : Int32))] ∧ Z.Warmed39 U_.vm ∧ U_.heap = h0) (fun _ _ _ _ _ => True) (fun _ U_ o_ V_ => ∃ v_ L_, o_ = .returned v_ ∧ Q_am17_1 Z cs_ u_4 u_1 u_0 a_NEXT u_2 u_3 aw0 ad1 kc1 iv1 iv2 h0 n0 v_ V_.heap L_ ∧ FrameEnd U_ o_ V_ L_ (rm 0 0 0 0).cells (rm 0 0 0 0).slots) := by
  refine MetFree.of_bodySF (plainFor_of_name pn_3) hisR ?_
  intro p e s m args below meth c s₁ Bd hml0 hP hK
  obtain ⟨rfl, hZ, hh⟩ := hP
  have hx := Bd.exec
  have hby := Bd.bytes
  have hml : c.maxLocals = 2 := hml0
  have hown : s.vm.findClass "java/lang/StringUTF16" = some m.cls := findClass_of_methodNamed Bd.named
  have hnm := (name_of_methodNamed Bd.named Bd.method).1
  have X0 : Stand p l e (rm 0 0 0 0) s m #[(.ref ad1), (.int (2 : Int32))] below meth c s₁ [] 0 0 := Stand.of_body Bd
  have e0 : s₁.heap = h0 := by rw [← hh, Bd.state]; rfl
  have N0 := Fr.nil n0
  have kp0 := Keep.refl h0 []
  show Go p e below (Fin1 s below (Q_am17_1 Z cs_ u_4 u_1 u_0 a_NEXT u_2 u_3 aw0 ad1 kc1 iv1 iv2 h0 n0) (rm 0 0 0 0).cells (rm 0 0 0 0).slots) _
  refine Go.step (fun t_ k_ => castTop (ef_am17_1 m ad1 (2 : Int32)) k_) ?_
  obtain ⟨S_cs, N_cs, Eu_4, Su_4, Eu_1, Su_1, Eu_0, Su_0, Ea_NEXT, Sa_NEXT, Eu_2, Su_2, Eu_3, Su_3, Eaw0, Saw0⟩ := id HW
  show Go p e below _ (s₁.setTop (mkF m 0 #[.val (.ref ad1), .val (.int (2 : Int32))] []))
  refine gs.iloadN X0.here hx (hb hby d17_0) rfl ?_
  refine gs.aloadN X0.here hx (hb hby d17_1) rfl rfl ?_
  obtain ⟨cl1, Ar1, -, Sz1, Ng1, -, -⟩ := id HV_ad1
  refine Go.fin (fun t_ k_ => X0.arraylength hx (by rw [e0]; exact Ar1.1) (State.isArrayOf_alike hZ.alike Ar1.2.1) (g := mkF m 2 _ _) rfl rfl (hb hby d17_2) _ k_) ?_
  rw [len_of Sz1 Ng1]
  show Go p e below _ (s₁.setTop (mkF m 3 _ [(.int (2 : Int32)), (.int (2 : Int32))]))
  refine gs.isub X0.here hx (hb hby d17_3) ?_
  rw [show ((2 : Int32) - (2 : Int32)) = (0 : Int32) from by decide]
  refine gs.bipush 31 X0.here hx (hb hby d17_4) rfl ?_
  refine Go.fin (fun t_ k_ => XS.iushr X0.here hx rfl (hb hby d17_6) rfl k_) ?_
  show Go p e below _ (s₁.setTop (mkF m 7 _ [(.int (((0 : Int32).toUInt32 >>> ((31 : Int32) &&& 31).toUInt32).toInt32))]))
  rw [show (((0 : Int32).toUInt32 >>> ((31 : Int32) &&& 31).toUInt32).toInt32) = (0 : Int32) from by decide]
  refine Go.fin (fun t_ k_ => XS.i2b X0.here hx rfl (hb hby d17_7) rfl k_) ?_
  show Go p e below _ (s₁.setTop (mkF m 8 _ [(.int ((0 : Int32).toInt8.toInt32))]))
  rw [show ((0 : Int32).toInt8.toInt32) = (0 : Int32) from by decide]
  refine Go.retZ X0 hx (t := .byte) Bd.returns (by simp) Bd.notSynchronized (hb hby d17_8) (by rw [e0]; exact ⟨rfl, N0, rfl⟩) (by decide) (by decide)
theorem pd_8 : parseMethodDescriptor "([BI)B" = some ⟨[(.array .byte), .int], some .byte⟩ := by decide +kernel
theorem d4_48 : decode c_4 48 = .ok (.putfield 15, 3) := by decide +kernel
theorem d4_51 : decode c_4 51 = .ok (.aload_n 0, 1) := by decide +kernel
theorem d4_52 : decode c_4 52 = .ok (.aload 5, 2) := by decide +kernel
theorem d4_54 : decode c_4 54 = .ok (.putfield 9, 3) := by decide +kernel
theorem d4_57 : decode c_4 57 = .ok (.return_, 1) := by decide +kernel
def Q_am4_1 (Z : State) (cs_ : Int32) (u_4 : Addr) (u_1 : Addr) (u_0 : Addr) (a_NEXT : Addr) (u_2 : Addr) (u_3 : Addr) (aw0 : Addr) (ad1 : Addr) (ad2 : Addr) (kc1 : ClassId) (iv1 : Int32) (iv2 : Int32) (h0 : Heap) (n0 : Nat) (v : Option Value) (h : Heap) (L : List Loc) : Prop := ∃ fr1 : Addr, ∃ kx1 : ClassId, v = none ∧ h0.size ≤ fr1 ∧ Fr n0 L ∧ Keep h0 h [ad1] ∧ (Exa Z h ad1 "java/lang/String") ∧ (Fld Z h ad1 "java/lang/String" "coder" "B" (.int (0 : Int32))) ∧ (Fld Z h ad1 "java/lang/String" "value" "[B" (.ref fr1)) ∧ (Arv Z h fr1 kx1 .byte (2 : Int32) [(.int ((iv1.toInt8.toInt32).toInt8.toInt32)), (.int ((iv2.toInt8.toInt32).toInt8.toInt32))] (.int (0 : Int32)))
set_option maxRecDepth 65536 in
set_option maxHeartbeats 40000000 in
theorem am4_1 (l : Launch) (Z : State) (a0 : Array Value) (hw : ∀ d ∈ tables_1, d.before a0 Z = true) (ws : List Jvm.Cond) (cs_ : Int32) (u_4 : Addr) (u_1 : Addr) (u_0 : Addr) (a_NEXT : Addr) (u_2 : Addr) (u_3 : Addr) (aw0 : Addr) (HW : Wd Z cs_ u_4 u_1 u_0 a_NEXT u_2 u_3 aw0) (ad1 : Addr) (ad2 : Addr) (kc1 : ClassId) (iv1 : Int32) (iv2 : Int32) (h0 : Heap) (n0 : Nat) (Ol : Old Z n0 h0) (HE_ad1 : Exa Z h0 ad1 "java/lang/String") (HF_ad1_String_value : Fld Z h0 ad1 "java/lang/String" "value" "[B" .null) (HF_ad1_String_coder : Fld Z h0 ad1 "java/lang/String" "coder" "B" (.int (0 : Int32))) (HV_ad2 : Arv Z h0 ad2 kc1 .char (2 : Int32) [(.int iv1), (.int iv2)] (.int (0 : Int32))) (nn_ad1 : n0 ≤ ad1) (as0 : ¬ ((255 : Int32) < iv1)) (as1 : ¬ ((255 : Int32) < iv2)) :
    MetFree l y_4 (head1 (Jvm.Cond.code y_4 jdk_42_method_149_code 6 none :: ws) (rm 2 1 2 35)) (fun a_ U_ => a_ = #[(.ref ad1), (.ref ad2), (.int (0 : Int32)), (.int (2 : Int32)), .null] ∧ Z.Warmed39 U_.vm ∧ U_.heap = h0) (fun _ _ _ _ _ => True) (fun _ U_ o_ V_ => ∃ v_ L_, o_ = .returned v_ ∧ Q_am4_1 Z cs_ u_4 u_1 u_0 a_NEXT u_2 u_3 aw0 ad1 ad2 kc1 iv1 iv2 h0 n0 v_ V_.heap L_ ∧ FrameEnd U_ o_ V_ L_ (rm 2 1 2 35).cells (rm 2 1 2 35).slots) := by
  refine MetFree.of_bodySF (plainFor_of_name pn_0) hisR ?_
  intro p e s m args below meth c s₁ Bd hml0 hP hK
  obtain ⟨rfl, hZ, hh⟩ := hP
  have hx := Bd.exec
  have hby := Bd.bytes
  have hml : c.maxLocals = 6 := hml0
  have hown : s.vm.findClass "java/lang/String" = some m.cls := findClass_of_methodNamed Bd.named
  have hnm := (name_of_methodNamed Bd.named Bd.method).1
  have X0 : Stand p l e (rm 2 1 2 35) s m #[(.ref ad1), (.ref ad2), (.int (0 : Int32)), (.int (2 : Int32)), .null] below meth c s₁ [] 0 0 := Stand.of_body Bd
  have e0 : s₁.heap = h0 := by rw [← hh, Bd.state]; rfl
  have N0 := Fr.nil n0
  have kp0 := Keep.refl h0 [ad1]
  show Go p e below (Fin1 s below (Q_am4_1 Z cs_ u_4 u_1 u_0 a_NEXT u_2 u_3 aw0 ad1 ad2 kc1 iv1 iv2 h0 n0) (rm 2 1 2 35).cells (rm 2 1 2 35).slots) _
  refine Go.step (fun t_ k_ => castTop (ef_rm_si0 m ad1 ad2 (0 : Int32) (2 : Int32)) k_) ?_
  obtain ⟨S_cs, N_cs, Eu_4, Su_4, Eu_1, Su_1, Eu_0, Su_0, Ea_NEXT, Sa_NEXT, Eu_2, Su_2, Eu_3, Su_3, Eaw0, Saw0⟩ := id HW
  show Go p e below _ (s₁.setTop (mkF m 0 #[.val (.ref ad1), .val (.ref ad2), .val (.int (0 : Int32)), .val (.int (2 : Int32)), .val .null, .unset] []))
  refine gs.aloadN X0.here hx (hb hby d4_0) rfl rfl ?_
  obtain ⟨T1, X1, e1, st1⟩ := initO X0 hx hZ hown (wd hw 23 rfl) (wd hw 24 rfl) (wd hw 25 rfl) e0 (g := (mkF m 1 #[.val (.ref ad1), .val (.ref ad2), .val (.int (0 : Int32)), .val (.int (2 : Int32)), .val .null, .unset] [(.ref ad1)])) rfl (by rw [hml]; rfl) rfl (hb hby d4_1) (by decide) (W := 0) (by show 2 * 0 + _ ≤ _; exact Nat.le_of_eq rfl) (by decide)
  refine Go.step st1 ?_
  show Go p e below _ (T1.setTop (mkF m 4 #[.val (.ref ad1), .val (.ref ad2), .val (.int (0 : Int32)), .val (.int (2 : Int32)), .val .null, .unset] []))
  refine gs.iloadN X1.here hx (hb hby d4_4) rfl ?_
  have hc5 : ¬ ((2 : Int32) = (0 : Int32)) := by decide
  refine gs.ifYes 27 X1.here hx (hb hby d4_5) ((if0 _ _).trans (feq hc5).2) rfl ?_
  obtain ⟨T2, X2, e2, st2⟩ := getS2 X1 hx hZ hown (host := "") (Or.inl (wd hw 79 rfl)) Via.refl e1 (S_cs.ext Ol.2) (g := (mkF m 27 #[.val (.ref ad1), .val (.ref ad2), .val (.int (0 : Int32)), .val (.int (2 : Int32)), .val .null, .unset] [])) rfl (hb hby d4_27)
  refine Go.fin st2 ?_
  show Go p e below _ (T2.setTop (mkF m 30 _ [(.int cs_)]))
  have hc30 : ¬ (cs_ = (0 : Int32)) := N_cs
  refine gs.ifNo X2.here hx (hb hby d4_30) ((if0 _ _).trans (feq hc30).1) ?_
  refine gs.aloadN X2.here hx (hb hby d4_33) rfl rfl ?_
  refine gs.iloadN X2.here hx (hb hby d4_34) rfl ?_
  refine gs.iloadN X2.here hx (hb hby d4_35) rfl ?_
  refine gs.stat 0 X2 hx hZ hown (am15_1 l Z a0 hw [] cs_ u_4 u_1 u_0 a_NEXT u_2 u_3 aw0 HW (ad2) (kc1) (iv1) (iv2) h0 n0 Ol HV_ad2 as0 as1) (wd hw 94 rfl) (wd hw 93 rfl) (wd hw 91 rfl) (wd hw 92 rfl) (by decide) (by decide) (by decide) (by rw [hml]; rfl) [(.ref ad2), (.int (0 : Int32)), (.int (2 : Int32))] (lenOf pd_7 rfl) rfl (Nat.le_of_eq rfl) (hb hby d4_36) rfl e2 (by decide) (by decide) fun T3 Lc3 v3 X3 hQ3 => ?_
  obtain ⟨b3_0, kx3_0, rfl, gb_b3_0, Nq3, K3, p3_0⟩ := hQ3
  have nn_b3_0 : n0 ≤ b3_0 := Nat.le_trans (old_z0 Ol) gb_b3_0
  have sz_b3_0 : h0.size ≤ b3_0 := Nat.le_trans kp0.1 gb_b3_0
  have old3 := Ol.keep K3 all0
  have kp3 := kp0.trans K3 all0
  have N3 := Fr.app N0 Nq3
  show Go p e below _ (T3.setTop (mkF m 39 _ [(.ref b3_0)]))
  refine gs.astore X3.here hx (hb hby d4_39) rfl (l' := #[.val (.ref ad1), .val (.ref ad2), .val (.int (0 : Int32)), .val (.int (2 : Int32)), .val .null, .val (.ref b3_0)]) rfl ?_
  refine gs.aloadN X3.here hx (hb hby d4_41) rfl rfl ?_
  refine gs.aload X3.here hx (hb hby d4_42) rfl rfl ?_
  refine gs.iloadN X3.here hx (hb hby d4_44) rfl ?_
  refine gs.stat 1 X3 hx hZ hown (am17_1 l Z a0 hw [] cs_ u_4 u_1 u_0 a_NEXT u_2 u_3 aw0 HW (b3_0) (kx3_0) (((iv1.toInt8.toInt32).toInt8.toInt32)) (((iv2.toInt8.toInt32).toInt8.toInt32)) T3.heap n0 old3 p3_0) (wd hw 100 rfl) (wd hw 93 rfl) (wd hw 98 rfl) (wd hw 99 rfl) (by decide) (by decide) (by decide) (by rw [hml]; rfl) [(.ref b3_0), (.int (2 : Int32))] (lenOf pd_8 rfl) rfl (Nat.le_of_eq rfl) (hb hby d4_45) rfl rfl (by decide) (by decide) fun T4 Lc4 v4 X4 hQ4 => ?_
  obtain ⟨rfl, Nq4, e4⟩ := hQ4
  have N4 := Fr.app N3 Nq4
  show Go p e below _ (T4.setTop (mkF m 48 _ [(.int (0 : Int32)), (.ref ad1)]))
  have f5 := (HF_ad1_String_coder.keep K3 nin0)
  have f6 := (HE_ad1.keep K3)
  obtain ⟨T7, h7, X7, e7, W7, st7⟩ := putFN X4 hx hZ hown (wd hw 32 rfl) Via.refl e4 f5 f6 (Or.inr ⟨(wd hw 28 rfl), rfl, hnm⟩) (wd hw 13 rfl) (ty := .byte) (v' := (.int (0 : Int32))) (by decide) rfl (by decide) (g := (mkF m 48 #[.val (.ref ad1), .val (.ref ad2), .val (.int (0 : Int32)), .val (.int (2 : Int32)), .val .null, .val (.ref b3_0)] [(.int (0 : Int32)), (.ref ad1)])) rfl rfl (hb hby d4_48)
  have N7 := Fr.snoc X7 N4 nn_ad1
  have old7 := old3.wr W7 nn_ad1
  have kp7 := kp3.wr W7 (Or.inl (List.mem_of_getElem? (i := 0) rfl))
  have F7 := f5.same W7
  refine Go.fin st7 ?_
  show Go p e below _ (T7.setTop (mkF m 51 _ []))
  refine gs.aloadN X7.here hx (hb hby d4_51) rfl rfl ?_
  refine gs.aload X7.here hx (hb hby d4_52) rfl rfl ?_
  have f8 := ((HF_ad1_String_value.keep K3 nin0).other W7 (Or.inr (sn1 hw)))
  have f9 := (f6.wr W7)
  obtain ⟨T10, h10, X10, e10, W10, st10⟩ := putF X7 hx hZ hown (host := "") (Or.inl (wd hw 31 rfl)) Via.refl e7 f8 f9 (Or.inr ⟨(wd hw 27 rfl), rfl, hnm⟩) (wd hw 13 rfl) (ty := (.array .byte)) (by decide) rfl rfl (g := (mkF m 54 #[.val (.ref ad1), .val (.ref ad2), .val (.int (0 : Int32)), .val (.int (2 : Int32)), .val .null, .val (.ref b3_0)] [(.ref b3_0), (.ref ad1)])) rfl rfl (hb hby d4_54)
  have N10 := Fr.snoc X10 N7 nn_ad1
  have old10 := old7.wr W10 nn_ad1
  have kp10 := kp7.wr W10 (Or.inl (List.mem_of_getElem? (i := 0) rfl))
  have F10 := f8.same W10
  refine Go.fin st10 ?_
  show Go p e below _ (T10.setTop (mkF m 57 _ []))
  have f11 := (f9.wr W10)
  have f12 := (F7.other W10 (Or.inr (sn0 hw)))
  have ne_ad1_b3_0 : ad1 ≠ b3_0 := Nat.ne_of_lt (Nat.lt_of_lt_of_le HE_ad1.lt gb_b3_0)
  have f13 := ((p3_0.other W7 (Ne.symm ne_ad1_b3_0)).other W10 (Ne.symm ne_ad1_b3_0))
  refine Go.retV X10 hx Bd.returns Bd.notSynchronized (hb hby d4_57) (by rw [e10]; exact ⟨b3_0, kx3_0, rfl, sz_b3_0, N10, kp10, f11, f12, F10, f13⟩) (by decide) (by decide)
def Q_am3_1 (Z : State) (cs_ : Int32) (u_4 : Addr) (u_1 : Addr) (u_0 : Addr) (a_NEXT : Addr) (u_2 : Addr) (u_3 : Addr) (aw0 : Addr) (ad1 : Addr) (ad2 : Addr) (kc1 : ClassId) (iv1 : Int32) (iv2 : Int32) (h0 : Heap) (n0 : Nat) (v : Option Value) (h : Heap) (L : List Loc) : Prop := ∃ fr1 : Addr, ∃ kx1 : ClassId, v = none ∧ h0.size ≤ fr1 ∧ Fr n0 L ∧ Keep h0 h [ad1] ∧ (Exa Z h ad1 "java/lang/String") ∧ (Fld Z h ad1 "java/lang/String" "coder" "B" (.int (0 : Int32))) ∧ (Fld Z h ad1 "java/lang/String" "value" "[B" (.ref fr1)) ∧ (Arv Z h fr1 kx1 .byte (2 : Int32) [(.int ((iv1.toInt8.toInt32).toInt8.toInt32)), (.int ((iv2.toInt8.toInt32).toInt8.toInt32))] (.int (0 : Int32)))
set_option maxRecDepth 65536 in
set_option maxHeartbeats 40000000 in
theorem am3_1 (l : Launch) (Z : State) (a0 : Array Value) (hw : ∀ d ∈ tables_1, d.before a0 Z = true) (ws : List Jvm.Cond) (cs_ : Int32) (u_4 : Addr) (u_1 : Addr) (u_0 : Addr) (a_NEXT : Addr) (u_2 : Addr) (u_3 : Addr) (aw0 : Addr) (HW : Wd Z cs_ u_4 u_1 u_0 a_NEXT u_2 u_3 aw0) (ad1 : Addr) (ad2 : Addr) (kc1 : ClassId) (iv1 : Int32) (iv2 : Int32) (h0 : Heap) (n0 : Nat) (Ol : Old Z n0 h0) (HE_ad1 : Exa Z h0 ad1 "java/lang/String") (HF_ad1_String_value : Fld Z h0 ad1 "java/lang/String" "value" "[B" .null) (HF_ad1_String_coder : Fld Z h0 ad1 "java/lang/String" "coder" "B" (.int (0 : Int32))) (HV_ad2 : Arv Z h0 ad2 kc1 .char (2 : Int32) [(.int iv1), (.int iv2)] (.int (0 : Int32))) (nn_ad1 : n0 ≤ ad1) (as0 : ¬ ((255 : Int32) < iv1)) (as1 : ¬ ((255 : Int32) < iv2)) :
    MetFree l y_3 (head1 (Jvm.Cond.code y_3 jdk_42_method_3_code 2 none :: ws) (rm 3 1 2 52)) (fun a_ U_ => a_ = #[(.ref ad1), (.ref ad2)] ∧ Z.Warmed39 U_.vm ∧ U_.heap = h0) (fun _ _ _ _ _ => True) (fun _ U_ o_ V_ => ∃ v_ L_, o_ = .returned v_ ∧ Q_am3_1 Z cs_ u_4 u_1 u_0 a_NEXT u_2 u_3 aw0 ad1 ad2 kc1 iv1 iv2 h0 n0 v_ V_.heap L_ ∧ FrameEnd U_ o_ V_ L_ (rm 3 1 2 52).cells (rm 3 1 2 52).slots) := by
  refine MetFree.of_bodySF (plainFor_of_name pn_0) hisR ?_
  intro p e s m args below meth c s₁ Bd hml0 hP hK
  obtain ⟨rfl, hZ, hh⟩ := hP
  have hx := Bd.exec
  have hby := Bd.bytes
  have hml : c.maxLocals = 2 := hml0
  have hown : s.vm.findClass "java/lang/String" = some m.cls := findClass_of_methodNamed Bd.named
  have hnm := (name_of_methodNamed Bd.named Bd.method).1
  have X0 : Stand p l e (rm 3 1 2 52) s m #[(.ref ad1), (.ref ad2)] below meth c s₁ [] 0 0 := Stand.of_body Bd
  have e0 : s₁.heap = h0 := by rw [← hh, Bd.state]; rfl
  have N0 := Fr.nil n0
  have kp0 := Keep.refl h0 [ad1]
  show Go p e below (Fin1 s below (Q_am3_1 Z cs_ u_4 u_1 u_0 a_NEXT u_2 u_3 aw0 ad1 ad2 kc1 iv1 iv2 h0 n0) (rm 3 1 2 52).cells (rm 3 1 2 52).slots) _
  refine Go.step (fun t_ k_ => castTop (ef_rm_in0 m ad1 ad2) k_) ?_
  obtain ⟨S_cs, N_cs, Eu_4, Su_4, Eu_1, Su_1, Eu_0, Su_0, Ea_NEXT, Sa_NEXT, Eu_2, Su_2, Eu_3, Su_3, Eaw0, Saw0⟩ := id HW
  show Go p e below _ (s₁.setTop (mkF m 0 #[.val (.ref ad1), .val (.ref ad2)] []))
  refine gs.aloadN X0.here hx (hb hby d3_0) rfl rfl ?_
  refine gs.aloadN X0.here hx (hb hby d3_1) rfl rfl ?_
  refine gs.iconst 0 X0.here hx (hb hby d3_2) rfl ?_
  refine gs.aloadN X0.here hx (hb hby d3_3) rfl rfl ?_
  obtain ⟨cl1, Ar1, -, Sz1, Ng1, -, -⟩ := id HV_ad2
  refine Go.fin (fun t_ k_ => X0.arraylength hx (by rw [e0]; exact Ar1.1) (State.isArrayOf_alike hZ.alike Ar1.2.1) (g := mkF m 4 _ _) rfl rfl (hb hby d3_4) _ k_) ?_
  rw [len_of Sz1 Ng1]
  show Go p e below _ (s₁.setTop (mkF m 5 _ [(.int (2 : Int32)), (.int (0 : Int32)), (.ref ad2), (.ref ad1)]))
  refine gs.aconstNull X0.here hx (hb hby d3_5) ?_
  refine gs.init 0 X0 hx hZ hown (am4_1 l Z a0 hw [] cs_ u_4 u_1 u_0 a_NEXT u_2 u_3 aw0 HW (ad1) (ad2) (kc1) (iv1) (iv2) h0 n0 Ol HE_ad1 HF_ad1_String_value HF_ad1_String_coder HV_ad2 nn_ad1 as0 as1) (wd hw 22 rfl) (wd hw 14 rfl) (wd hw 19 rfl) rfl (wd hw 20 rfl) (by decide) (by decide) (by decide) (by rw [hml]; rfl) [(.ref ad2), (.int (0 : Int32)), (.int (2 : Int32)), .null] (lenOf pd_0 rfl) rfl (Nat.le_of_eq rfl) (hb hby d3_6) rfl e0 (by decide) (by decide) fun T2 Lc2 v2 X2 hQ2 => ?_
  obtain ⟨b2_0, kx2_0, rfl, gb_b2_0, Nq2, K2, p2_0, p2_1, p2_2, p2_3⟩ := hQ2
  have nn_b2_0 : n0 ≤ b2_0 := Nat.le_trans (old_z0 Ol) gb_b2_0
  have sz_b2_0 : h0.size ≤ b2_0 := Nat.le_trans kp0.1 gb_b2_0
  have old2 := Ol.keep K2 (allS nn_ad1 all0)
  have kp2 := kp0.trans K2 (allS (Or.inl (List.mem_of_getElem? (i := 0) rfl)) all0)
  have N2 := Fr.app N0 Nq2
  show Go p e below _ (T2.setTop (mkF m 9 _ []))
  refine Go.retV X2 hx Bd.returns Bd.notSynchronized (hb hby d3_9) (by exact ⟨b2_0, kx2_0, rfl, sz_b2_0, N2, kp2, p2_0, p2_1, p2_2, p2_3⟩) (by decide) (by decide)
theorem d2_69 : decode c_2 69 = .ok (.areturn, 1) := by decide +kernel
theorem ef_rm2 (m : MethodId) (x0 : Int32)  : entryFrame m #[(.int x0)] 4 = mkF m 0 #[.val (.int x0), .unset, .unset, .unset] [] := by first | (simp [entryFrame, mkF, argsToLocals, Value.category]; done) | rfl
def Q_rm2 (Z : State) (cs_ : Int32) (u_4 : Addr) (u_1 : Addr) (u_0 : Addr) (a_NEXT : Addr) (u_2 : Addr) (u_3 : Addr) (aw0 : Addr) (u : Int32) (h0 : Heap) (n0 : Nat) (v : Option Value) (h : Heap) (L : List Loc) : Prop := ∃ b : Addr, v = some (.ref b) ∧ h0.size ≤ b ∧ Fr n0 L ∧ Keep h0 h [] ∧ (Exa Z h b "java/lang/String")
set_option maxRecDepth 65536 in
set_option maxHeartbeats 40000000 in
theorem rm2 (l : Launch) (Z : State) (a0 : Array Value) (hw : ∀ d ∈ tables_1, d.before a0 Z = true) (ws : List Jvm.Cond) (cs_ : Int32) (u_4 : Addr) (u_1 : Addr) (u_0 : Addr) (a_NEXT : Addr) (u_2 : Addr) (u_3 : Addr) (aw0 : Addr) (HW : Wd Z cs_ u_4 u_1 u_0 a_NEXT u_2 u_3 aw0) (u : Int32) (h0 : Heap) (n0 : Nat) (Ol : Old Z n0 h0)  :
    MetFree l y_2 (head1 (Jvm.Cond.code y_2 method_3_code 4 (some (.object "java/lang/String")) :: ws) (rm 4 6 12 66)) (fun a_ U_ => a_ = #[(.int u)] ∧ Z.Warmed39 U_.vm ∧ U_.heap = h0 ∧ CHv Z EL_ U_.vm h0) (fun _ _ _ _ _ => True) (fun _ U_ o_ V_ => ∃ v_ L_, o_ = .returned v_ ∧ Q_rm2 Z cs_ u_4 u_1 u_0 a_NEXT u_2 u_3 aw0 u h0 n0 v_ V_.heap L_ ∧ CHr Z EL_ U_.vm U_.heap V_.vm V_.heap ∧ ReturnedEndW U_ o_ V_ L_ (rm 4 6 12 66).cells (rm 4 6 12 66).slots) := by
  refine MetFree.of_bodySF (plainFor_of_name pn_1) hisR ?_
  intro p e s m args below meth c s₁ Bd hml0 hP hK
  obtain ⟨rfl, hZ, hh, Hc0⟩ := hP
  have hx := Bd.exec
  have hby := Bd.bytes
  have hml : c.maxLocals = 4 := hml0
  have hown : s.vm.findClass "com/example/onward_schema/onwardschema/store/EntryRemovesPinLaw" = some m.cls := findClass_of_methodNamed Bd.named
  have hnm := (name_of_methodNamed Bd.named Bd.method).1
  have X0 : Stand p l e (rm 4 6 12 66) s m #[(.int u)] below meth c s₁ [] 0 0 := Stand.of_body Bd
  have e0 : s₁.heap = h0 := by rw [← hh, Bd.state]; rfl
  have N0 := Fr.nil n0
  have kp0 := Keep.refl h0 []
  show Go p e below (Fin3 Z EL_ s below (Q_rm2 Z cs_ u_4 u_1 u_0 a_NEXT u_2 u_3 aw0 u h0 n0) (rm 4 6 12 66).cells (rm 4 6 12 66).slots) _
  have S0 : s.Since s.vm 0 := (State.WarmedH.refl s).since 0
  have hk0 : 0 ≤ h0.size := Nat.zero_le _
  refine Go.step (fun t_ k_ => castTop (ef_rm2 m u) k_) ?_
  obtain ⟨S_cs, N_cs, Eu_4, Su_4, Eu_1, Su_1, Eu_0, Su_0, Ea_NEXT, Sa_NEXT, Eu_2, Su_2, Eu_3, Su_3, Eaw0, Saw0⟩ := id HW
  show Go p e below _ (s₁.setTop (mkF m 0 #[.val (.int u), .unset, .unset, .unset] []))
  refine gs.iloadN X0.here hx (hb hby d2_0) rfl ?_
  refine gs.bipush 16 X0.here hx (hb hby d2_1) rfl ?_
  refine Go.fin (fun t_ k_ => XS.iushr X0.here hx rfl (hb hby d2_3) rfl k_) ?_
  show Go p e below _ (s₁.setTop (mkF m 4 _ [(.int ((u.toUInt32 >>> ((16 : Int32) &&& 31).toUInt32).toInt32))]))
  refine gs.iconst 3 X0.here hx (hb hby d2_4) rfl ?_
  refine gs.iand X0.here hx (hb hby d2_5) ?_
  refine gs.iconst 3 X0.here hx (hb hby d2_6) rfl ?_
  refine Go.fin (fun t_ k_ => iremM X0 hx rfl (hb hby d2_7) rfl (by decide) k_) ?_
  show Go p e below _ (s₁.setTop (mkF m 8 _ [(.int ((((u.toUInt32 >>> ((16 : Int32) &&& 31).toUInt32).toInt32) &&& (3 : Int32)) % (3 : Int32)))]))
  refine gs.istoreN X0.here hx (hb hby d2_8) (l' := #[.val (.int u), .val (.int ((((u.toUInt32 >>> ((16 : Int32) &&& 31).toUInt32).toInt32) &&& (3 : Int32)) % (3 : Int32))), .unset, .unset]) rfl ?_
  refine gs.iloadN X0.here hx (hb hby d2_9) rfl ?_
  refine gs.sipush 255 X0.here hx (hb hby d2_10) rfl ?_
  refine gs.iand X0.here hx (hb hby d2_13) ?_
  refine Go.fin (fun t_ k_ => XS.i2c X0.here hx rfl (hb hby d2_14) rfl k_) ?_
  show Go p e below _ (s₁.setTop (mkF m 15 _ [(.int ((u &&& (255 : Int32)).toUInt32.toUInt16.toUInt32.toInt32))]))
  refine gs.istoreN X0.here hx (hb hby d2_15) (l' := #[.val (.int u), .val (.int ((((u.toUInt32 >>> ((16 : Int32) &&& 31).toUInt32).toInt32) &&& (3 : Int32)) % (3 : Int32))), .val (.int ((u &&& (255 : Int32)).toUInt32.toUInt16.toUInt32.toInt32)), .unset]) rfl ?_
  refine gs.iloadN X0.here hx (hb hby d2_16) rfl ?_
  refine gs.bipush 8 X0.here hx (hb hby d2_17) rfl ?_
  refine Go.fin (fun t_ k_ => XS.iushr X0.here hx rfl (hb hby d2_19) rfl k_) ?_
  show Go p e below _ (s₁.setTop (mkF m 20 _ [(.int ((u.toUInt32 >>> ((8 : Int32) &&& 31).toUInt32).toInt32))]))
  refine gs.sipush 255 X0.here hx (hb hby d2_20) rfl ?_
  refine gs.iand X0.here hx (hb hby d2_23) ?_
  refine Go.fin (fun t_ k_ => XS.i2c X0.here hx rfl (hb hby d2_24) rfl k_) ?_
  show Go p e below _ (s₁.setTop (mkF m 25 _ [(.int ((((u.toUInt32 >>> ((8 : Int32) &&& 31).toUInt32).toInt32) &&& (255 : Int32)).toUInt32.toUInt16.toUInt32.toInt32))]))
  refine gs.istoreN X0.here hx (hb hby d2_25) (l' := #[.val (.int u), .val (.int ((((u.toUInt32 >>> ((16 : Int32) &&& 31).toUInt32).toInt32) &&& (3 : Int32)) % (3 : Int32))), .val (.int ((u &&& (255 : Int32)).toUInt32.toUInt16.toUInt32.toInt32)), .val (.int ((((u.toUInt32 >>> ((8 : Int32) &&& 31).toUInt32).toInt32) &&& (255 : Int32)).toUInt32.toUInt16.toUInt32.toInt32))]) rfl ?_
  generalize hk_ca : ((u &&& (255 : Int32)).toUInt32.toUInt16.toUInt32.toInt32) = ca
  show Go p e below _ (s₁.setTop (mkF m 26 #[.val (.int u), .val (.int ((((u.toUInt32 >>> ((16 : Int32) &&& 31).toUInt32).toInt32) &&& (3 : Int32)) % (3 : Int32))), .val (.int ca), .val (.int ((((u.toUInt32 >>> ((8 : Int32) &&& 31).toUInt32).toInt32) &&& (255 : Int32)).toUInt32.toUInt16.toUInt32.toInt32))] []))
  have hb_ca : (ca.toUInt32.toUInt16.toUInt32.toInt32) = ca ∧ ¬ (255 : Int32) < ca := by rw [← hk_ca]; exact c8 _
  generalize hk_cb : ((((u.toUInt32 >>> ((8 : Int32) &&& 31).toUInt32).toInt32) &&& (255 : Int32)).toUInt32.toUInt16.toUInt32.toInt32) = cb
  show Go p e below _ (s₁.setTop (mkF m 26 #[.val (.int u), .val (.int ((((u.toUInt32 >>> ((16 : Int32) &&& 31).toUInt32).toInt32) &&& (3 : Int32)) % (3 : Int32))), .val (.int ca), .val (.int cb)] []))
  have hb_cb : (cb.toUInt32.toUInt16.toUInt32.toInt32) = cb ∧ ¬ (255 : Int32) < cb := by rw [← hk_cb]; exact c8 _
  generalize hk_kk : ((((u.toUInt32 >>> ((16 : Int32) &&& 31).toUInt32).toInt32) &&& (3 : Int32)) % (3 : Int32)) = kk
  show Go p e below _ (s₁.setTop (mkF m 26 #[.val (.int u), .val (.int kk), .val (.int ca), .val (.int cb)] []))
  have hb_kk : 0 ≤ kk.toInt ∧ kk.toInt < 3 := by rw [← hk_kk]; exact and3r_bd _
  rcases cs3 hb_kk with rfl | rfl | rfl
  next =>
    show Go p e below _ (s₁.setTop (mkF m 26 #[.val (.int u), .val (.int (0 : Int32)), .val (.int ca), .val (.int cb)] []))
    refine gs.iloadN X0.here hx (hb hby d2_26) rfl ?_
    have hc27 : (0 : Int32) = (0 : Int32) := by decide
    refine gs.ifNo X0.here hx (hb hby d2_27) ((if0 _ _).trans (teq hc27).2) ?_
    obtain ⟨T1, h1, X1, e1, E1, A1, D1, Y1, st1⟩ := newO X0 hx hZ hown (wd hw 12 rfl) (wd hw 13 rfl) (wd hw 14 rfl) e0 (g := (mkF m 30 #[.val (.int u), .val (.int (0 : Int32)), .val (.int ca), .val (.int cb)] [])) rfl (hb hby d2_30) (by decide) (by decide)
    obtain ⟨b1, g1⟩ : ∃ z, z = h0.size := ⟨_, rfl⟩
    rw [← g1] at A1 D1 Y1 st1
    have nn_b1 : n0 ≤ b1 := Nat.le_trans (old_z0 Ol) (Nat.le_of_eq g1.symm)
    have sz_b1 : h0.size ≤ b1 := Nat.le_trans kp0.1 (Nat.le_of_eq g1.symm)
    have old1 := Ol.ext E1
    have kp1 := kp0.ext E1
    have hk1 := Nat.le_trans hk0 E1.1
    have F1_value : Fld Z h1 b1 "java/lang/String" "value" "[B" .null := D1 (Or.inr (wd hw 27 rfl)) (ty := (.array .byte)) (by decide)
    have F1_coder : Fld Z h1 b1 "java/lang/String" "coder" "B" (.int (0 : Int32)) := D1 (Or.inr (wd hw 28 rfl)) (ty := .byte) (by decide)
    refine Go.fin st1 ?_
    show Go p e below _ (T1.setTop (mkF m 33 _ [(.ref b1)]))
    refine gs.dup X1.here hx (hb hby d2_33) rfl ?_
    refine gs.iconst 0 X1.here hx (hb hby d2_34) rfl ?_
    obtain ⟨T2, h2, k2, X2, e2, E2, A2, st2⟩ := newP X1 hx hZ (wd hw 15 rfl) e1 (g := (mkF m 35 #[.val (.int u), .val (.int (0 : Int32)), .val (.int ca), .val (.int cb)] [(.int (0 : Int32)), (.ref b1), (.ref b1)])) rfl (hb hby d2_35) rfl (by decide) (cap := 0) (by decide) (by decide) (by decide) (by decide)
    obtain ⟨b2, g2⟩ : ∃ z, z = h1.size := ⟨_, rfl⟩
    rw [← g2] at A2 st2
    have nn_b2 : n0 ≤ b2 := Nat.le_trans (old_z0 old1) (Nat.le_of_eq g2.symm)
    have sz_b2 : h0.size ≤ b2 := Nat.le_trans kp1.1 (Nat.le_of_eq g2.symm)
    have old2 := old1.ext E2
    have kp2 := kp1.ext E2
    have hk2 := Nat.le_trans hk1 E2.1
    have V2 : Arv Z h2 b2 k2 .char (0 : Int32) [] (.int (0 : Int32)) := (Arv.new A2 (by decide)).pad (pad_rep [] (.int (0 : Int32)) 0)
    refine Go.fin st2 ?_
    show Go p e below _ (T2.setTop (mkF m 37 _ [(.ref b2), (.ref b1), (.ref b1)]))
    have f3 := (A1.ext E2)
    have f4 := (F1_value.ext E2)
    have f5 := (F1_coder.ext E2)
    obtain ⟨_, _, ⟨T6, L6, k6, n6⟩, -, X6, S6, gr6, ⟨Lc6, hQ6, l6, y6, z6, C6⟩, st6⟩ := X2.specialBackS hx (y := y_3) rfl hown (mvT hZ (wd hw 16 rfl)) (mvT hZ (wd hw 17 rfl)) (mvT hZ (wd hw 18 rfl)) (by decide) (backOfSH (s := s) (vm0 := s.vm) (W := 1) (rm_in0 l Z a0 hw [] cs_ u_4 u_1 u_0 a_NEXT u_2 u_3 aw0 HW b1 b2 k2 h2 n0 old2 f3 f4 f5 V2 nn_b1) hZ (wd hw 18 rfl) (wd hw 14 rfl) (by decide) (by decide) (hEL_ hw) (CHr.keep kp2 sf0 Hc0).1) (g := (mkF m 37 #[.val (.int u), .val (.int (0 : Int32)), .val (.int ca), .val (.int cb)] [(.ref b2), (.ref b1), (.ref b1)])) rfl (by rw [hml]; rfl) (Steps.refl _) (a := b1) (argsL := [(.ref b2)]) (rest := [(.ref b1)]) (lenOf pd_1 rfl) rfl (by show 2 * 0 + _ ≤ _; exact Nat.le_of_eq rfl) (hb hby d2_37) (fun _ _ => ⟨rfl, e2, (by decide : 2 + 4 ≤ _), (by decide : 4 + 8 ≤ _)⟩)
    dsimp only [Pt.U, Pt.locs, Pt.cells, Pt.slots] at X6 l6 y6 z6 st6 hQ6 S6 gr6 C6
    subst l6 y6 z6
    have chb6 := (CHr.keep kp2 sf0 Hc0).trans C6
    obtain ⟨X6, S6, hZ6, hown6⟩ := rebS (vm0 := s.vm) S0 (by rw [e2]; exact hk2) X6 S6 gr6 hZ hown
    obtain ⟨rfl, Nq6, K6, p6_0⟩ := hQ6
    have old6 := old2.keep K6 (allS nn_b1 all0)
    have kp6 := kp2.trans K6 (allS (Or.inr sz_b1) all0)
    have N6 := Fr.app N0 Nq6
    refine Go.step (fun t_ k_ => st6.trans k_) ?_
    show Go p e below _ (T6.setTop (mkF m 40 #[.val (.int u), .val (.int (0 : Int32)), .val (.int ca), .val (.int cb)] [(.ref b1)]))
    refine GoH.retR X6 S6 (by exact (Nat.le_refl _)) hZ6 (hEL_ hw) hh rfl chb6 hx Bd.returns rfl rfl Bd.notSynchronized (hb hby d2_40) (by exact ⟨b1, rfl, sz_b1, N6, kp6, p6_0⟩) (by decide) (by decide)
  next =>
    show Go p e below _ (s₁.setTop (mkF m 26 #[.val (.int u), .val (.int (1 : Int32)), .val (.int ca), .val (.int cb)] []))
    refine gs.iloadN X0.here hx (hb hby d2_26) rfl ?_
    have hc27 : ¬ ((1 : Int32) = (0 : Int32)) := by decide
    refine gs.ifYes 41 X0.here hx (hb hby d2_27) ((if0 _ _).trans (feq hc27).2) rfl ?_
    refine gs.iloadN X0.here hx (hb hby d2_41) rfl ?_
    refine gs.iconst 1 X0.here hx (hb hby d2_42) rfl ?_
    have hc43 : (1 : Int32) = (1 : Int32) := by decide
    refine gs.icmpNo X0.here hx (hb hby d2_43) (teq hc43).2 ?_
    refine gs.iloadN X0.here hx (hb hby d2_46) rfl ?_
    refine gs.stat 0 X0 hx hZ hown (am11_1 l Z a0 hw [] cs_ u_4 u_1 u_0 a_NEXT u_2 u_3 aw0 HW (ca) h0 n0 Ol hb_ca.2) (wd hw 78 rfl) (wd hw 14 rfl) (wd hw 76 rfl) (wd hw 77 rfl) (by decide) (by decide) (by decide) (by rw [hml]; rfl) [(.int ca)] (lenOf pd_5 rfl) rfl (Nat.le_of_eq rfl) (hb hby d2_47) rfl e0 (by decide) (by decide) fun T7 Lc7 v7 X7 hQ7 => ?_
    obtain ⟨b7_0, b7_1, kx7_0, rfl, gb_b7_0, gb_b7_1, ne_b7_0_b7_1, Nq7, K7, p7_0, p7_1, p7_2, p7_3⟩ := hQ7
    have nn_b7_0 : n0 ≤ b7_0 := Nat.le_trans (old_z0 Ol) gb_b7_0
    have sz_b7_0 : h0.size ≤ b7_0 := Nat.le_trans kp0.1 gb_b7_0
    have nn_b7_1 : n0 ≤ b7_1 := Nat.le_trans (old_z0 Ol) gb_b7_1
    have sz_b7_1 : h0.size ≤ b7_1 := Nat.le_trans kp0.1 gb_b7_1
    have old7 := Ol.keep K7 all0
    have hk7 := Nat.le_trans hk0 K7.1
    have kp7 := kp0.trans K7 all0
    have N7 := Fr.app N0 Nq7
    show Go p e below _ (T7.setTop (mkF m 50 _ [(.ref b7_0)]))
    refine GoH.retR X7 S0 (by exact hk7) hZ (hEL_ hw) hh rfl (CHr.keep kp7 sf0 Hc0) hx Bd.returns rfl rfl Bd.notSynchronized (hb hby d2_50) (by exact ⟨b7_0, rfl, sz_b7_0, N7, kp7, p7_0⟩) (by decide) (by decide)
  next =>
    show Go p e below _ (s₁.setTop (mkF m 26 #[.val (.int u), .val (.int (2 : Int32)), .val (.int ca), .val (.int cb)] []))
    refine gs.iloadN X0.here hx (hb hby d2_26) rfl ?_
    have hc27 : ¬ ((2 : Int32) = (0 : Int32)) := by decide
    refine gs.ifYes 41 X0.here hx (hb hby d2_27) ((if0 _ _).trans (feq hc27).2) rfl ?_
    refine gs.iloadN X0.here hx (hb hby d2_41) rfl ?_
    refine gs.iconst 1 X0.here hx (hb hby d2_42) rfl ?_
    have hc43 : ¬ ((2 : Int32) = (1 : Int32)) := by decide
    refine gs.icmpYes 51 X0.here hx (hb hby d2_43) (feq hc43).2 rfl ?_
    obtain ⟨T8, h8, X8, e8, E8, A8, D8, Y8, st8⟩ := newO X0 hx hZ hown (wd hw 12 rfl) (wd hw 13 rfl) (wd hw 14 rfl) e0 (g := (mkF m 51 #[.val (.int u), .val (.int (2 : Int32)), .val (.int ca), .val (.int cb)] [])) rfl (hb hby d2_51) (by decide) (by decide)
    obtain ⟨b8, g8⟩ : ∃ z, z = h0.size := ⟨_, rfl⟩
    rw [← g8] at A8 D8 Y8 st8
    have nn_b8 : n0 ≤ b8 := Nat.le_trans (old_z0 Ol) (Nat.le_of_eq g8.symm)
    have sz_b8 : h0.size ≤ b8 := Nat.le_trans kp0.1 (Nat.le_of_eq g8.symm)
    have old8 := Ol.ext E8
    have kp8 := kp0.ext E8
    have hk8 := Nat.le_trans hk0 E8.1
    have F8_value : Fld Z h8 b8 "java/lang/String" "value" "[B" .null := D8 (Or.inr (wd hw 27 rfl)) (ty := (.array .byte)) (by decide)
    have F8_coder : Fld Z h8 b8 "java/lang/String" "coder" "B" (.int (0 : Int32)) := D8 (Or.inr (wd hw 28 rfl)) (ty := .byte) (by decide)
    refine Go.fin st8 ?_
    show Go p e below _ (T8.setTop (mkF m 54 _ [(.ref b8)]))
    refine gs.dup X8.here hx (hb hby d2_54) rfl ?_
    refine gs.iconst 2 X8.here hx (hb hby d2_55) rfl ?_
    obtain ⟨T9, h9, k9, X9, e9, E9, A9, st9⟩ := newP X8 hx hZ (wd hw 15 rfl) e8 (g := (mkF m 56 #[.val (.int u), .val (.int (2 : Int32)), .val (.int ca), .val (.int cb)] [(.int (2 : Int32)), (.ref b8), (.ref b8)])) rfl (hb hby d2_56) rfl (by decide) (cap := 2) (by decide) (by decide) (by decide) (by decide)
    obtain ⟨b9, g9⟩ : ∃ z, z = h8.size := ⟨_, rfl⟩
    rw [← g9] at A9 st9
    have nn_b9 : n0 ≤ b9 := Nat.le_trans (old_z0 old8) (Nat.le_of_eq g9.symm)
    have sz_b9 : h0.size ≤ b9 := Nat.le_trans kp8.1 (Nat.le_of_eq g9.symm)
    have old9 := old8.ext E9
    have kp9 := kp8.ext E9
    have hk9 := Nat.le_trans hk8 E9.1
    have V9 : Arv Z h9 b9 k9 .char (2 : Int32) [(.int (0 : Int32)), (.int (0 : Int32))] (.int (0 : Int32)) := (Arv.new A9 (by decide)).pad (pad_rep [] (.int (0 : Int32)) 2)
    refine Go.fin st9 ?_
    show Go p e below _ (T9.setTop (mkF m 58 _ [(.ref b9), (.ref b8), (.ref b8)]))
    refine gs.dup X9.here hx (hb hby d2_58) rfl ?_
    refine gs.iconst 0 X9.here hx (hb hby d2_59) rfl ?_
    refine gs.iloadN X9.here hx (hb hby d2_60) rfl ?_
    obtain ⟨cl10, Ar10, q10, Sz10, Ng10, Hs10, G10⟩ := id V9
    have hin10 : ¬ ((0 : Int32) < 0 ∨ cl10.slots.size ≤ ((0 : Int32)).toNatClampNeg) := inb_of Sz10 ⟨by decide, by decide⟩
    obtain ⟨T11, h11, X11, e11, W11, st11⟩ := stC X9 hx hZ e9 Ar10 (j := (0 : Int32)) hin10 (g := (mkF m 61 #[.val (.int u), .val (.int (2 : Int32)), .val (.int ca), .val (.int cb)] [(.int ca), (.int (0 : Int32)), (.ref b9), (.ref b9), (.ref b8), (.ref b8)])) rfl rfl (hb hby d2_61)
    have N11 := Fr.snoc X11 N0 nn_b9
    have old11 := old9.wr W11 nn_b9
    have kp11 := kp9.wr W11 (Or.inr sz_b9)
    have hk11 := Nat.le_trans hk9 (Keep.of_wr W11).1
    have V11 : Arv Z h11 b9 k9 .char (2 : Int32) [(.int (ca.toUInt32.toUInt16.toUInt32.toInt32)), (.int (0 : Int32))] (.int (0 : Int32)) := Arv.set Ar10 q10 Sz10 Ng10 Hs10 G10 (fits_nar_char _) W11 0 rfl (Nat.le_of_ble_eq_true rfl)
    refine Go.fin st11 ?_
    show Go p e below _ (T11.setTop (mkF m 62 _ [(.ref b9), (.ref b8), (.ref b8)]))
    refine gs.dup X11.here hx (hb hby d2_62) rfl ?_
    refine gs.iconst 1 X11.here hx (hb hby d2_63) rfl ?_
    refine gs.iloadN X11.here hx (hb hby d2_64) rfl ?_
    obtain ⟨cl12, Ar12, q12, Sz12, Ng12, Hs12, G12⟩ := id V11
    have hin12 : ¬ ((1 : Int32) < 0 ∨ cl12.slots.size ≤ ((1 : Int32)).toNatClampNeg) := inb_of Sz12 ⟨by decide, by decide⟩
    obtain ⟨T13, h13, X13, e13, W13, st13⟩ := stC X11 hx hZ e11 Ar12 (j := (1 : Int32)) hin12 (g := (mkF m 65 #[.val (.int u), .val (.int (2 : Int32)), .val (.int ca), .val (.int cb)] [(.int cb), (.int (1 : Int32)), (.ref b9), (.ref b9), (.ref b8), (.ref b8)])) rfl rfl (hb hby d2_65)
    have N13 := Fr.snoc X13 N11 nn_b9
    have old13 := old11.wr W13 nn_b9
    have kp13 := kp11.wr W13 (Or.inr sz_b9)
    have hk13 := Nat.le_trans hk11 (Keep.of_wr W13).1
    have V13 : Arv Z h13 b9 k9 .char (2 : Int32) [(.int (ca.toUInt32.toUInt16.toUInt32.toInt32)), (.int (cb.toUInt32.toUInt16.toUInt32.toInt32))] (.int (0 : Int32)) := Arv.set Ar12 q12 Sz12 Ng12 Hs12 G12 (fits_nar_char _) W13 1 rfl (Nat.le_of_ble_eq_true rfl)
    refine Go.fin st13 ?_
    show Go p e below _ (T13.setTop (mkF m 66 _ [(.ref b9), (.ref b8), (.ref b8)]))
    have f14 := (((A8.ext E9).wr W11).wr W13)
    have ne_b8_b9 : b8 ≠ b9 := Nat.ne_of_lt (Nat.lt_of_lt_of_le A8.lt (Nat.le_of_eq g9.symm))
    have f15 := (((F8_value.ext E9).other W11 (Or.inl ne_b8_b9)).other W13 (Or.inl ne_b8_b9))
    have f16 := (((F8_coder.ext E9).other W11 (Or.inl ne_b8_b9)).other W13 (Or.inl ne_b8_b9))
    refine gs.init 1 X13 hx hZ hown (am3_1 l Z a0 hw [] cs_ u_4 u_1 u_0 a_NEXT u_2 u_3 aw0 HW (b8) (b9) (k9) ((ca.toUInt32.toUInt16.toUInt32.toInt32)) ((cb.toUInt32.toUInt16.toUInt32.toInt32)) h13 n0 old13 f14 f15 f16 V13 nn_b8 (by rw [hb_ca.1]; exact hb_ca.2) (by rw [hb_cb.1]; exact hb_cb.2)) (wd hw 18 rfl) (wd hw 14 rfl) (wd hw 16 rfl) rfl (wd hw 17 rfl) (by decide) (by decide) (by decide) (by rw [hml]; rfl) [(.ref b9)] (lenOf pd_1 rfl) rfl (Nat.le_of_eq rfl) (hb hby d2_66) rfl e13 (by decide) (by decide) fun T17 Lc17 v17 X17 hQ17 => ?_
    obtain ⟨b17_0, kx17_0, rfl, gb_b17_0, Nq17, K17, p17_0, p17_1, p17_2, p17_3⟩ := hQ17
    have nn_b17_0 : n0 ≤ b17_0 := Nat.le_trans (old_z0 old13) gb_b17_0
    have sz_b17_0 : h0.size ≤ b17_0 := Nat.le_trans kp13.1 gb_b17_0
    have old17 := old13.keep K17 (allS nn_b8 all0)
    have hk17 := Nat.le_trans hk13 K17.1
    have kp17 := kp13.trans K17 (allS (Or.inr sz_b8) all0)
    have N17 := Fr.app N13 Nq17
    show Go p e below _ (T17.setTop (mkF m 69 _ [(.ref b8)]))
    refine GoH.retR X17 S0 (by exact hk17) hZ (hEL_ hw) hh rfl (CHr.keep kp17 sf0 Hc0) hx Bd.returns rfl rfl Bd.notSynchronized (hb hby d2_69) (by exact ⟨b8, rfl, sz_b8, N17, kp17, p17_0⟩) (by decide) (by decide)
theorem pd_9 : parseMethodDescriptor "(I)Lcom/example/onward_schema/onwardschema/store/StoreMap;" = some ⟨[.int], some (.object "com/example/onward_schema/onwardschema/store/StoreMap")⟩ := by decide +kernel
theorem pd_10 : parseMethodDescriptor "(I)Ljava/lang/String;" = some ⟨[.int], some (.object "java/lang/String")⟩ := by decide +kernel
theorem d6_0 : decode c_6 0 = .ok (.aload_n 0, 1) := by decide +kernel
theorem d6_1 : decode c_6 1 = .ok (.invokespecial 1, 3) := by decide +kernel
theorem d7_0 : decode c_7 0 = .ok (.aload_n 0, 1) := by decide +kernel
theorem d7_1 : decode c_7 1 = .ok (.invokespecial 1, 3) := by decide +kernel
theorem d7_4 : decode c_7 4 = .ok (.return_, 1) := by decide +kernel
theorem pn_4 : plainName "java/lang/Record" = true := by first | (simp [plainName, overriddenIn]; done) | decide +kernel
theorem ef_am7_1 (m : MethodId) (x0 : Addr)  : entryFrame m #[(.ref x0)] 1 = mkF m 0 #[.val (.ref x0)] [] := by first | (simp [entryFrame, mkF, argsToLocals, Value.category]; done) | rfl
def Q_am7_1 (Z : State) (cs_ : Int32) (u_4 : Addr) (u_1 : Addr) (u_0 : Addr) (a_NEXT : Addr) (u_2 : Addr) (u_3 : Addr) (aw0 : Addr) (ad1 : Addr) (h0 : Heap) (n0 : Nat) (v : Option Value) (h : Heap) (L : List Loc) : Prop := v = none ∧ Fr n0 L ∧ h = h0
set_option maxRecDepth 65536 in
set_option maxHeartbeats 40000000 in
theorem am7_1 (l : Launch) (Z : State) (a0 : Array Value) (hw : ∀ d ∈ tables_1, d.before a0 Z = true) (ws : List Jvm.Cond) (cs_ : Int32) (u_4 : Addr) (u_1 : Addr) (u_0 : Addr) (a_NEXT : Addr) (u_2 : Addr) (u_3 : Addr) (aw0 : Addr) (HW : Wd Z cs_ u_4 u_1 u_0 a_NEXT u_2 u_3 aw0) (ad1 : Addr) (h0 : Heap) (n0 : Nat) (Ol : Old Z n0 h0)  :
    MetFree l y_7 (head1 (Jvm.Cond.code y_7 jdk_30_method_1_code 1 none :: ws) (rm 1 0 0 12)) (fun a_ U_ => a_ = #[(.ref ad1)] ∧ Z.Warmed39 U_.vm ∧ U_.heap = h0) (fun _ _ _ _ _ => True) (fun _ U_ o_ V_ => ∃ v_ L_, o_ = .returned v_ ∧ Q_am7_1 Z cs_ u_4 u_1 u_0 a_NEXT u_2 u_3 aw0 ad1 h0 n0 v_ V_.heap L_ ∧ FrameEnd U_ o_ V_ L_ (rm 1 0 0 12).cells (rm 1 0 0 12).slots) := by
  refine MetFree.of_bodySF (plainFor_of_name pn_4) hisR ?_
  intro p e s m args below meth c s₁ Bd hml0 hP hK
  obtain ⟨rfl, hZ, hh⟩ := hP
  have hx := Bd.exec
  have hby := Bd.bytes
  have hml : c.maxLocals = 1 := hml0
  have hown : s.vm.findClass "java/lang/Record" = some m.cls := findClass_of_methodNamed Bd.named
  have hnm := (name_of_methodNamed Bd.named Bd.method).1
  have X0 : Stand p l e (rm 1 0 0 12) s m #[(.ref ad1)] below meth c s₁ [] 0 0 := Stand.of_body Bd
  have e0 : s₁.heap = h0 := by rw [← hh, Bd.state]; rfl
  have N0 := Fr.nil n0
  have kp0 := Keep.refl h0 []
  show Go p e below (Fin1 s below (Q_am7_1 Z cs_ u_4 u_1 u_0 a_NEXT u_2 u_3 aw0 ad1 h0 n0) (rm 1 0 0 12).cells (rm 1 0 0 12).slots) _
  refine Go.step (fun t_ k_ => castTop (ef_am7_1 m ad1) k_) ?_
  obtain ⟨S_cs, N_cs, Eu_4, Su_4, Eu_1, Su_1, Eu_0, Su_0, Ea_NEXT, Sa_NEXT, Eu_2, Su_2, Eu_3, Su_3, Eaw0, Saw0⟩ := id HW
  show Go p e below _ (s₁.setTop (mkF m 0 #[.val (.ref ad1)] []))
  refine gs.aloadN X0.here hx (hb hby d7_0) rfl rfl ?_
  obtain ⟨T1, X1, e1, st1⟩ := initO X0 hx hZ hown (wd hw 44 rfl) (wd hw 24 rfl) (wd hw 25 rfl) e0 (g := (mkF m 1 #[.val (.ref ad1)] [(.ref ad1)])) rfl (by rw [hml]; rfl) rfl (hb hby d7_1) (by decide) (W := 0) (by show 2 * 0 + _ ≤ _; exact Nat.le_of_eq rfl) (by decide)
  refine Go.step st1 ?_
  show Go p e below _ (T1.setTop (mkF m 4 #[.val (.ref ad1)] []))
  refine Go.retV X1 hx Bd.returns Bd.notSynchronized (hb hby d7_4) (by rw [e1]; exact ⟨rfl, N0, rfl⟩) (by decide) (by decide)
theorem pd_11 : parseMethodDescriptor "()V" = some ⟨[], none⟩ := by decide +kernel
theorem d6_4 : decode c_6 4 = .ok (.aload_n 1, 1) := by decide +kernel
theorem d6_5 : decode c_6 5 = .ok (.ldc 7, 2) := by decide +kernel
theorem d6_7 : decode c_6 7 = .ok (.invokestatic 9, 3) := by decide +kernel
theorem d8_0 : decode c_8 0 = .ok (.aload_n 0, 1) := by decide +kernel
theorem d8_1 : decode c_8 1 = .ok (.ifnonnull 12, 3) := by decide +kernel
theorem d8_13 : decode c_8 13 = .ok (.aload_n 0, 1) := by decide +kernel
theorem d8_14 : decode c_8 14 = .ok (.areturn, 1) := by decide +kernel
theorem pn_5 : plainName "java/util/Objects" = true := by first | (simp [plainName, overriddenIn]; done) | decide +kernel
theorem ef_am8_1 (m : MethodId) (x0 : Addr) (x1 : Addr)  : entryFrame m #[(.ref x0), (.ref x1)] 2 = mkF m 0 #[.val (.ref x0), .val (.ref x1)] [] := by first | (simp [entryFrame, mkF, argsToLocals, Value.category]; done) | rfl
def Q_am8_1 (Z : State) (cs_ : Int32) (u_4 : Addr) (u_1 : Addr) (u_0 : Addr) (a_NEXT : Addr) (u_2 : Addr) (u_3 : Addr) (aw0 : Addr) (ad1 : Addr) (ad2 : Addr) (h0 : Heap) (n0 : Nat) (v : Option Value) (h : Heap) (L : List Loc) : Prop := v = some (.ref ad1) ∧ Fr n0 L ∧ h = h0
set_option maxRecDepth 65536 in
set_option maxHeartbeats 40000000 in
theorem am8_1 (l : Launch) (Z : State) (a0 : Array Value) (hw : ∀ d ∈ tables_1, d.before a0 Z = true) (ws : List Jvm.Cond) (cs_ : Int32) (u_4 : Addr) (u_1 : Addr) (u_0 : Addr) (a_NEXT : Addr) (u_2 : Addr) (u_3 : Addr) (aw0 : Addr) (HW : Wd Z cs_ u_4 u_1 u_0 a_NEXT u_2 u_3 aw0) (ad1 : Addr) (ad2 : Addr) (h0 : Heap) (n0 : Nat) (Ol : Old Z n0 h0)  :
    MetFree l y_8 (head1 (Jvm.Cond.code y_8 jdk_31_method_11_code 2 (some (.object "java/lang/Object")) :: ws) (rm 0 0 0 0)) (fun a_ U_ => a_ = #[(.ref ad1), (.ref ad2)] ∧ Z.Warmed39 U_.vm ∧ U_.heap = h0) (fun _ _ _ _ _ => True) (fun _ U_ o_ V_ => ∃ v_ L_, o_ = .returned v_ ∧ Q_am8_1 Z cs_ u_4 u_1 u_0 a_NEXT u_2 u_3 aw0 ad1 ad2 h0 n0 v_ V_.heap L_ ∧ FrameEnd U_ o_ V_ L_ (rm 0 0 0 0).cells (rm 0 0 0 0).slots) := by
  refine MetFree.of_bodySF (plainFor_of_name pn_5) hisR ?_
  intro p e s m args below meth c s₁ Bd hml0 hP hK
  obtain ⟨rfl, hZ, hh⟩ := hP
  have hx := Bd.exec
  have hby := Bd.bytes
  have hml : c.maxLocals = 2 := hml0
  have hown : s.vm.findClass "java/util/Objects" = some m.cls := findClass_of_methodNamed Bd.named
  have hnm := (name_of_methodNamed Bd.named Bd.method).1
  have X0 : Stand p l e (rm 0 0 0 0) s m #[(.ref ad1), (.ref ad2)] below meth c s₁ [] 0 0 := Stand.of_body Bd
  have e0 : s₁.heap = h0 := by rw [← hh, Bd.state]; rfl
  have N0 := Fr.nil n0
  have kp0 := Keep.refl h0 []
  show Go p e below (Fin1 s below (Q_am8_1 Z cs_ u_4 u_1 u_0 a_NEXT u_2 u_3 aw0 ad1 ad2 h0 n0) (rm 0 0 0 0).cells (rm 0 0 0 0).slots) _
  refine Go.step (fun t_ k_ => castTop (ef_am8_1 m ad1 ad2) k_) ?_
  obtain ⟨S_cs, N_cs, Eu_4, Su_4, Eu_1, Su_1, Eu_0, Su_0, Ea_NEXT, Sa_NEXT, Eu_2, Su_2, Eu_3, Su_3, Eaw0, Saw0⟩ := id HW
  show Go p e below _ (s₁.setTop (mkF m 0 #[.val (.ref ad1), .val (.ref ad2)] []))
  refine gs.aloadN X0.here hx (hb hby d8_0) rfl rfl ?_
  refine Go.fin (fun t_ k_ => XS.ifnonnullYes X0.here hx rfl (pc0 := 1) (pc' := 13) rfl (hb hby d8_1) rfl (by decide) (by decide) k_) ?_
  show Go p e below _ (s₁.setTop (mkF m 13 _ []))
  refine gs.aloadN X0.here hx (hb hby d8_13) rfl rfl ?_
  refine Go.retR X0 hx Bd.returns rfl rfl Bd.notSynchronized (hb hby d8_14) (by rw [e0]; exact ⟨rfl, N0, rfl⟩) (by decide) (by decide)
theorem pd_12 : parseMethodDescriptor "(Ljava/lang/Object;Ljava/lang/String;)Ljava/lang/Object;" = some ⟨[(.object "java/lang/Object"), (.object "java/lang/String")], some (.object "java/lang/Object")⟩ := by decide +kernel
theorem d6_10 : decode c_6 10 = .ok (.pop, 1) := by decide +kernel
theorem d6_11 : decode c_6 11 = .ok (.aload_n 2, 1) := by decide +kernel
theorem d6_12 : decode c_6 12 = .ok (.ldc 15, 2) := by decide +kernel
theorem d6_14 : decode c_6 14 = .ok (.invokestatic 9, 3) := by decide +kernel
theorem d6_17 : decode c_6 17 = .ok (.pop, 1) := by decide +kernel
theorem d6_18 : decode c_6 18 = .ok (.aload_n 3, 1) := by decide +kernel
theorem d6_19 : decode c_6 19 = .ok (.ldc 17, 2) := by decide +kernel
theorem d6_21 : decode c_6 21 = .ok (.invokestatic 9, 3) := by decide +kernel
theorem d6_24 : decode c_6 24 = .ok (.pop, 1) := by decide +kernel
theorem d6_25 : decode c_6 25 = .ok (.aload_n 0, 1) := by decide +kernel
theorem d6_26 : decode c_6 26 = .ok (.aload_n 1, 1) := by decide +kernel
theorem d6_27 : decode c_6 27 = .ok (.putfield 19, 3) := by decide +kernel
theorem d6_30 : decode c_6 30 = .ok (.aload_n 0, 1) := by decide +kernel
theorem d6_31 : decode c_6 31 = .ok (.aload_n 2, 1) := by decide +kernel
theorem d6_32 : decode c_6 32 = .ok (.putfield 24, 3) := by decide +kernel
theorem sn2 {a0 : Array Value} {Z : State} (hw : ∀ d ∈ tables_1, d.before a0 Z = true) : SN Z "com/example/onward_schema/onwardschema/store/StoreLog$Entry" "key" "Ljava/lang/String;" "com/example/onward_schema/onwardschema/store/StoreLog$Entry" "map" "Lcom/example/onward_schema/onwardschema/store/StoreMap;" := slot_ne (Or.inr (wd hw 55 rfl)) (Or.inr (wd hw 53 rfl)) (by decide) (t := (.object "java/lang/String")) (t' := (.object "com/example/onward_schema/onwardschema/store/StoreMap")) (by decide) (by decide)
theorem d6_35 : decode c_6 35 = .ok (.aload_n 0, 1) := by decide +kernel
theorem d6_36 : decode c_6 36 = .ok (.aload_n 3, 1) := by decide +kernel
theorem d6_37 : decode c_6 37 = .ok (.putfield 27, 3) := by decide +kernel
theorem sn3 {a0 : Array Value} {Z : State} (hw : ∀ d ∈ tables_1, d.before a0 Z = true) : SN Z "com/example/onward_schema/onwardschema/store/StoreLog$Entry" "payload" "[B" "com/example/onward_schema/onwardschema/store/StoreLog$Entry" "map" "Lcom/example/onward_schema/onwardschema/store/StoreMap;" := slot_ne (Or.inr (wd hw 57 rfl)) (Or.inr (wd hw 53 rfl)) (by decide) (t := (.array .byte)) (t' := (.object "com/example/onward_schema/onwardschema/store/StoreMap")) (by decide) (by decide)
theorem sn4 {a0 : Array Value} {Z : State} (hw : ∀ d ∈ tables_1, d.before a0 Z = true) : SN Z "com/example/onward_schema/onwardschema/store/StoreLog$Entry" "payload" "[B" "com/example/onward_schema/onwardschema/store/StoreLog$Entry" "key" "Ljava/lang/String;" := slot_ne (Or.inr (wd hw 57 rfl)) (Or.inr (wd hw 55 rfl)) (by decide) (t := (.array .byte)) (t' := (.object "java/lang/String")) (by decide) (by decide)
theorem d6_40 : decode c_6 40 = .ok (.return_, 1) := by decide +kernel
theorem sn5 {a0 : Array Value} {Z : State} (hw : ∀ d ∈ tables_1, d.before a0 Z = true) : SN Z "com/example/onward_schema/onwardschema/store/StoreLog$Entry" "key" "Ljava/lang/String;" "com/example/onward_schema/onwardschema/store/StoreLog$Entry" "payload" "[B" := slot_ne (Or.inr (wd hw 55 rfl)) (Or.inr (wd hw 57 rfl)) (by decide) (t := (.object "java/lang/String")) (t' := (.array .byte)) (by decide) (by decide)
theorem sn6 {a0 : Array Value} {Z : State} (hw : ∀ d ∈ tables_1, d.before a0 Z = true) : SN Z "com/example/onward_schema/onwardschema/store/StoreLog$Entry" "map" "Lcom/example/onward_schema/onwardschema/store/StoreMap;" "com/example/onward_schema/onwardschema/store/StoreLog$Entry" "key" "Ljava/lang/String;" := slot_ne (Or.inr (wd hw 53 rfl)) (Or.inr (wd hw 55 rfl)) (by decide) (t := (.object "com/example/onward_schema/onwardschema/store/StoreMap")) (t' := (.object "java/lang/String")) (by decide) (by decide)
theorem sn7 {a0 : Array Value} {Z : State} (hw : ∀ d ∈ tables_1, d.before a0 Z = true) : SN Z "com/example/onward_schema/onwardschema/store/StoreLog$Entry" "map" "Lcom/example/onward_schema/onwardschema/store/StoreMap;" "com/example/onward_schema/onwardschema/store/StoreLog$Entry" "payload" "[B" := slot_ne (Or.inr (wd hw 53 rfl)) (Or.inr (wd hw 57 rfl)) (by decide) (t := (.object "com/example/onward_schema/onwardschema/store/StoreMap")) (t' := (.array .byte)) (by decide) (by decide)
theorem pn_6 : plainName "com/example/onward_schema/onwardschema/store/StoreLog$Entry" = true := by first | (simp [plainName, overriddenIn]; done) | decide +kernel
theorem ef_am6_1 (m : MethodId) (x0 : Addr) (x1 : Addr) (x2 : Addr) (x3 : Addr)  : entryFrame m #[(.ref x0), (.ref x1), (.ref x2), (.ref x3)] 4 = mkF m 0 #[.val (.ref x0), .val (.ref x1), .val (.ref x2), .val (.ref x3)] [] := by first | (simp [entryFrame, mkF, argsToLocals, Value.category]; done) | rfl
def Q_am6_1 (Z : State) (cs_ : Int32) (u_4 : Addr) (u_1 : Addr) (u_0 : Addr) (a_NEXT : Addr) (u_2 : Addr) (u_3 : Addr) (aw0 : Addr) (ad1 : Addr) (ad2 : Addr) (ad3 : Addr) (ad4 : Addr) (h0 : Heap) (n0 : Nat) (v : Option Value) (h : Heap) (L : List Loc) : Prop := v = none ∧ Fr n0 L ∧ Keep h0 h [ad1] ∧ (Exa Z h ad1 "com/example/onward_schema/onwardschema/store/StoreLog$Entry") ∧ (Fld Z h ad1 "com/example/onward_schema/onwardschema/store/StoreLog$Entry" "key" "Ljava/lang/String;" (.ref ad3)) ∧ (Fld Z h ad1 "com/example/onward_schema/onwardschema/store/StoreLog$Entry" "map" "Lcom/example/onward_schema/onwardschema/store/StoreMap;" (.ref ad2)) ∧ (Fld Z h ad1 "com/example/onward_schema/onwardschema/store/StoreLog$Entry" "payload" "[B" (.ref ad4))
set_option maxRecDepth 65536 in
set_option maxHeartbeats 40000000 in
theorem am6_1 (l : Launch) (Z : State) (a0 : Array Value) (hw : ∀ d ∈ tables_1, d.before a0 Z = true) (ws : List Jvm.Cond) (cs_ : Int32) (u_4 : Addr) (u_1 : Addr) (u_0 : Addr) (a_NEXT : Addr) (u_2 : Addr) (u_3 : Addr) (aw0 : Addr) (HW : Wd Z cs_ u_4 u_1 u_0 a_NEXT u_2 u_3 aw0) (ad1 : Addr) (ad2 : Addr) (ad3 : Addr) (ad4 : Addr) (h0 : Heap) (n0 : Nat) (Ol : Old Z n0 h0) (HE_ad1 : Exa Z h0 ad1 "com/example/onward_schema/onwardschema/store/StoreLog$Entry") (HF_ad1_StoreLog_Entry_map : Fld Z h0 ad1 "com/example/onward_schema/onwardschema/store/StoreLog$Entry" "map" "Lcom/example/onward_schema/onwardschema/store/StoreMap;" .null) (HF_ad1_StoreLog_Entry_key : Fld Z h0 ad1 "com/example/onward_schema/onwardschema/store/StoreLog$Entry" "key" "Ljava/lang/String;" .null) (HF_ad1_StoreLog_Entry_payload : Fld Z h0 ad1 "com/example/onward_schema/onwardschema/store/StoreLog$Entry" "payload" "[B" .null) (nn_ad1 : n0 ≤ ad1) :
    MetFree l y_6 (head1 (Jvm.Cond.code y_6 prog_57_method_1_code 4 none :: ws) (rm 2 6 64 24)) (fun a_ U_ => a_ = #[(.ref ad1), (.ref ad2), (.ref ad3), (.ref ad4)] ∧ Z.Warmed39 U_.vm ∧ U_.heap = h0) (fun _ _ _ _ _ => True) (fun _ U_ o_ V_ => ∃ v_ L_, o_ = .returned v_ ∧ Q_am6_1 Z cs_ u_4 u_1 u_0 a_NEXT u_2 u_3 aw0 ad1 ad2 ad3 ad4 h0 n0 v_ V_.heap L_ ∧ ReturnedEndW U_ o_ V_ L_ (rm 2 6 64 24).cells (rm 2 6 64 24).slots) := by
  refine MetFree.of_bodySF (plainFor_of_name pn_6) hisR ?_
  intro p e s m args below meth c s₁ Bd hml0 hP hK
  obtain ⟨rfl, hZ, hh⟩ := hP
  have hx := Bd.exec
  have hby := Bd.bytes
  have hml : c.maxLocals = 4 := hml0
  have hown : s.vm.findClass "com/example/onward_schema/onwardschema/store/StoreLog$Entry" = some m.cls := findClass_of_methodNamed Bd.named
  have hnm := (name_of_methodNamed Bd.named Bd.method).1
  have X0 : Stand p l e (rm 2 6 64 24) s m #[(.ref ad1), (.ref ad2), (.ref ad3), (.ref ad4)] below meth c s₁ [] 0 0 := Stand.of_body Bd
  have e0 : s₁.heap = h0 := by rw [← hh, Bd.state]; rfl
  have N0 := Fr.nil n0
  have kp0 := Keep.refl h0 [ad1]
  show Go p e below (Fin2 s below (Q_am6_1 Z cs_ u_4 u_1 u_0 a_NEXT u_2 u_3 aw0 ad1 ad2 ad3 ad4 h0 n0) (rm 2 6 64 24).cells (rm 2 6 64 24).slots) _
  have S0 : s.Since s.vm 0 := (State.WarmedH.refl s).since 0
  have hk0 : 0 ≤ h0.size := Nat.zero_le _
  refine Go.step (fun t_ k_ => castTop (ef_am6_1 m ad1 ad2 ad3 ad4) k_) ?_
  obtain ⟨S_cs, N_cs, Eu_4, Su_4, Eu_1, Su_1, Eu_0, Su_0, Ea_NEXT, Sa_NEXT, Eu_2, Su_2, Eu_3, Su_3, Eaw0, Saw0⟩ := id HW
  show Go p e below _ (s₁.setTop (mkF m 0 #[.val (.ref ad1), .val (.ref ad2), .val (.ref ad3), .val (.ref ad4)] []))
  refine gs.aloadN X0.here hx (hb hby d6_0) rfl rfl ?_
  refine gs.init 0 X0 hx hZ hown (am7_1 l Z a0 hw [] cs_ u_4 u_1 u_0 a_NEXT u_2 u_3 aw0 HW (ad1) h0 n0 Ol ) (wd hw 43 rfl) (wd hw 42 rfl) (wd hw 39 rfl) rfl (wd hw 40 rfl) (by decide) (by decide) (by decide) (by rw [hml]; rfl) [] (lenOf pd_11 rfl) rfl (Nat.le_of_eq rfl) (hb hby d6_1) rfl e0 (by decide) (by decide) fun T1 Lc1 v1 X1 hQ1 => ?_
  obtain ⟨rfl, Nq1, e1⟩ := hQ1
  have N1 := Fr.app N0 Nq1
  show Go p e below _ (T1.setTop (mkF m 4 _ []))
  refine gs.aloadN X1.here hx (hb hby d6_4) rfl rfl ?_
  obtain ⟨sa2, T2, h2, k1_2, X2, e2, E2, S2, hkk2, hZ2, hown2, st2⟩ := ldcS (vm0 := s.vm) X1 hx hZ hown (wd hw 45 rfl) (wS_all hw) e1 S0 hk0 (g := (mkF m 5 #[.val (.ref ad1), .val (.ref ad2), .val (.ref ad3), .val (.ref ad4)] [(.ref ad2)])) rfl (hb hby d6_5) (n := 12) (by decide +kernel) (by decide) (by decide) (by decide)
  have old2 := Ol.ext E2
  have kp2 := kp0.ext E2
  have hk2 := Nat.le_trans hk0 E2.1
  refine Go.fin st2 ?_
  show Go p e below _ (T2.setTop (mkF m 7 _ [(.ref sa2), (.ref ad2)]))
  refine gs.stat 0 X2 hx hZ2 hown2 (am8_1 l Z a0 hw [] cs_ u_4 u_1 u_0 a_NEXT u_2 u_3 aw0 HW (ad2) (sa2) h2 n0 old2 ) (wd hw 49 rfl) (wd hw 48 rfl) (wd hw 46 rfl) (wd hw 47 rfl) (by decide) (by decide) (by decide) (by rw [hml]; rfl) [(.ref ad2), (.ref sa2)] (lenOf pd_12 rfl) rfl (Nat.le_of_eq rfl) (hb hby d6_7) rfl e2 (by decide) (by decide) fun T3 Lc3 v3 X3 hQ3 => ?_
  obtain ⟨rfl, Nq3, e3⟩ := hQ3
  have N3 := Fr.app N1 Nq3
  show Go p e below _ (T3.setTop (mkF m 10 _ [(.ref ad2)]))
  refine gs.pop X3.here hx (hb hby d6_10) rfl ?_
  refine gs.aloadN X3.here hx (hb hby d6_11) rfl rfl ?_
  obtain ⟨sa4, T4, h4, k1_4, X4, e4, E4, S4, hkk4, hZ4, hown4, st4⟩ := ldcS (vm0 := T2.vm) X3 hx hZ2 hown2 (wd hw 50 rfl) (wS_all hw) e3 S2 hkk2 (g := (mkF m 12 #[.val (.ref ad1), .val (.ref ad2), .val (.ref ad3), .val (.ref ad4)] [(.ref ad3)])) rfl (hb hby d6_12) (n := 12) (by decide +kernel) (by decide) (by decide) (by decide)
  have old4 := old2.ext E4
  have kp4 := kp2.ext E4
  have hk4 := Nat.le_trans hkk2 E4.1
  refine Go.fin st4 ?_
  show Go p e below _ (T4.setTop (mkF m 14 _ [(.ref sa4), (.ref ad3)]))
  refine gs.stat 0 X4 hx hZ4 hown4 (am8_1 l Z a0 hw [] cs_ u_4 u_1 u_0 a_NEXT u_2 u_3 aw0 HW (ad3) (sa4) h4 n0 old4 ) (wd hw 49 rfl) (wd hw 48 rfl) (wd hw 46 rfl) (wd hw 47 rfl) (by decide) (by decide) (by decide) (by rw [hml]; rfl) [(.ref ad3), (.ref sa4)] (lenOf pd_12 rfl) rfl (Nat.le_of_eq rfl) (hb hby d6_14) rfl e4 (by decide) (by decide) fun T5 Lc5 v5 X5 hQ5 => ?_
  obtain ⟨rfl, Nq5, e5⟩ := hQ5
  have N5 := Fr.app N3 Nq5
  show Go p e below _ (T5.setTop (mkF m 17 _ [(.ref ad3)]))
  refine gs.pop X5.here hx (hb hby d6_17) rfl ?_
  refine gs.aloadN X5.here hx (hb hby d6_18) rfl rfl ?_
  obtain ⟨sa6, T6, h6, k1_6, X6, e6, E6, S6, hkk6, hZ6, hown6, st6⟩ := ldcS (vm0 := T4.vm) X5 hx hZ4 hown4 (wd hw 51 rfl) (wS_all hw) e5 S4 hkk4 (g := (mkF m 19 #[.val (.ref ad1), .val (.ref ad2), .val (.ref ad3), .val (.ref ad4)] [(.ref ad4)])) rfl (hb hby d6_19) (n := 28) (by decide +kernel) (by decide) (by decide) (by decide)
  have old6 := old4.ext E6
  have kp6 := kp4.ext E6
  have hk6 := Nat.le_trans hkk4 E6.1
  refine Go.fin st6 ?_
  show Go p e below _ (T6.setTop (mkF m 21 _ [(.ref sa6), (.ref ad4)]))
  refine gs.stat 0 X6 hx hZ6 hown6 (am8_1 l Z a0 hw [] cs_ u_4 u_1 u_0 a_NEXT u_2 u_3 aw0 HW (ad4) (sa6) h6 n0 old6 ) (wd hw 49 rfl) (wd hw 48 rfl) (wd hw 46 rfl) (wd hw 47 rfl) (by decide) (by decide) (by decide) (by rw [hml]; rfl) [(.ref ad4), (.ref sa6)] (lenOf pd_12 rfl) rfl (Nat.le_of_eq rfl) (hb hby d6_21) rfl e6 (by decide) (by decide) fun T7 Lc7 v7 X7 hQ7 => ?_
  obtain ⟨rfl, Nq7, e7⟩ := hQ7
  have N7 := Fr.app N5 Nq7
  show Go p e below _ (T7.setTop (mkF m 24 _ [(.ref ad4)]))
  refine gs.pop X7.here hx (hb hby d6_24) rfl ?_
  refine gs.aloadN X7.here hx (hb hby d6_25) rfl rfl ?_
  refine gs.aloadN X7.here hx (hb hby d6_26) rfl rfl ?_
  have f8 := (((HF_ad1_StoreLog_Entry_map.ext E2).ext E4).ext E6)
  have f9 := (((HE_ad1.ext E2).ext E4).ext E6)
  obtain ⟨T10, h10, X10, e10, W10, st10⟩ := putF X7 hx hZ6 hown6 (host := "") (Or.inl (wd hw 52 rfl)) Via.refl e7 f8 f9 (Or.inr ⟨(wd hw 53 rfl), rfl, hnm⟩) (wd hw 34 rfl) (ty := (.object "com/example/onward_schema/onwardschema/store/StoreMap")) (by decide) rfl rfl (g := (mkF m 27 #[.val (.ref ad1), .val (.ref ad2), .val (.ref ad3), .val (.ref ad4)] [(.ref ad2), (.ref ad1)])) rfl rfl (hb hby d6_27)
  have N10 := Fr.snoc X10 N7 nn_ad1
  have old10 := old6.wr W10 nn_ad1
  have kp10 := kp6.wr W10 (Or.inl (List.mem_of_getElem? (i := 0) rfl))
  have hk10 := Nat.le_trans hkk6 (Keep.of_wr W10).1
  have F10 := f8.same W10
  refine Go.fin st10 ?_
  show Go p e below _ (T10.setTop (mkF m 30 _ []))
  refine gs.aloadN X10.here hx (hb hby d6_30) rfl rfl ?_
  refine gs.aloadN X10.here hx (hb hby d6_31) rfl rfl ?_
  have f11 := ((((HF_ad1_StoreLog_Entry_key.ext E2).ext E4).ext E6).other W10 (Or.inr (sn2 hw)))
  have f12 := (f9.wr W10)
  obtain ⟨T13, h13, X13, e13, W13, st13⟩ := putF X10 hx hZ6 hown6 (host := "") (Or.inl (wd hw 54 rfl)) Via.refl e10 f11 f12 (Or.inr ⟨(wd hw 55 rfl), rfl, hnm⟩) (wd hw 34 rfl) (ty := (.object "java/lang/String")) (by decide) rfl rfl (g := (mkF m 32 #[.val (.ref ad1), .val (.ref ad2), .val (.ref ad3), .val (.ref ad4)] [(.ref ad3), (.ref ad1)])) rfl rfl (hb hby d6_32)
  have N13 := Fr.snoc X13 N10 nn_ad1
  have old13 := old10.wr W13 nn_ad1
  have kp13 := kp10.wr W13 (Or.inl (List.mem_of_getElem? (i := 0) rfl))
  have hk13 := Nat.le_trans hk10 (Keep.of_wr W13).1
  have F13 := f11.same W13
  refine Go.fin st13 ?_
  show Go p e below _ (T13.setTop (mkF m 35 _ []))
  refine gs.aloadN X13.here hx (hb hby d6_35) rfl rfl ?_
  refine gs.aloadN X13.here hx (hb hby d6_36) rfl rfl ?_
  have f14 := (((((HF_ad1_StoreLog_Entry_payload.ext E2).ext E4).ext E6).other W10 (Or.inr (sn3 hw))).other W13 (Or.inr (sn4 hw)))
  have f15 := (f12.wr W13)
  obtain ⟨T16, h16, X16, e16, W16, st16⟩ := putF X13 hx hZ6 hown6 (host := "") (Or.inl (wd hw 56 rfl)) Via.refl e13 f14 f15 (Or.inr ⟨(wd hw 57 rfl), rfl, hnm⟩) (wd hw 34 rfl) (ty := (.array .byte)) (by decide) rfl rfl (g := (mkF m 37 #[.val (.ref ad1), .val (.ref ad2), .val (.ref ad3), .val (.ref ad4)] [(.ref ad4), (.ref ad1)])) rfl rfl (hb hby d6_37)
  have N16 := Fr.snoc X16 N13 nn_ad1
  have old16 := old13.wr W16 nn_ad1
  have kp16 := kp13.wr W16 (Or.inl (List.mem_of_getElem? (i := 0) rfl))
  have hk16 := Nat.le_trans hk13 (Keep.of_wr W16).1
  have F16 := f14.same W16
  refine Go.fin st16 ?_
  show Go p e below _ (T16.setTop (mkF m 40 _ []))
  have f17 := (f15.wr W16)
  have f18 := (F13.other W16 (Or.inr (sn5 hw)))
  have f19 := ((F10.other W13 (Or.inr (sn6 hw))).other W16 (Or.inr (sn7 hw)))
  refine GoW.retV X16 S6 (by rw [e16]; exact hk16) hx Bd.returns Bd.notSynchronized (hb hby d6_40) (by rw [e16]; exact ⟨rfl, N16, kp16, f17, f18, f19, F16⟩) (by decide) (by decide)
theorem pd_13 : parseMethodDescriptor "(Lcom/example/onward_schema/onwardschema/store/StoreMap;Ljava/lang/String;[B)V" = some ⟨[(.object "com/example/onward_schema/onwardschema/store/StoreMap"), (.object "java/lang/String"), (.array .byte)], none⟩ := by decide +kernel
theorem d9_0 : decode c_9 0 = .ok (.aload_n 0, 1) := by decide +kernel
theorem d9_1 : decode c_9 1 = .ok (.getfield 27, 3) := by decide +kernel
theorem d9_4 : decode c_9 4 = .ok (.arraylength, 1) := by decide +kernel
theorem d9_5 : decode c_9 5 = .ok (.ifCond .ne 7, 3) := by decide +kernel
theorem d9_8 : decode c_9 8 = .ok (.iconst 1, 1) := by decide +kernel
theorem d9_9 : decode c_9 9 = .ok (.goto 4, 3) := by decide +kernel
theorem d9_13 : decode c_9 13 = .ok (.ireturn, 1) := by decide +kernel
theorem ef_am9_1 (m : MethodId) (x0 : Addr)  : entryFrame m #[(.ref x0)] 1 = mkF m 0 #[.val (.ref x0)] [] := by first | (simp [entryFrame, mkF, argsToLocals, Value.category]; done) | rfl
def Q_am9_1 (Z : State) (cs_ : Int32) (u_4 : Addr) (u_1 : Addr) (u_0 : Addr) (a_NEXT : Addr) (u_2 : Addr) (u_3 : Addr) (aw0 : Addr) (ad1 : Addr) (ad2 : Addr) (kc1 : ClassId) (h0 : Heap) (n0 : Nat) (v : Option Value) (h : Heap) (L : List Loc) : Prop := v = some (.int (1 : Int32)) ∧ Fr n0 L ∧ h = h0
set_option maxRecDepth 65536 in
set_option maxHeartbeats 40000000 in
theorem am9_1 (l : Launch) (Z : State) (a0 : Array Value) (hw : ∀ d ∈ tables_1, d.before a0 Z = true) (ws : List Jvm.Cond) (cs_ : Int32) (u_4 : Addr) (u_1 : Addr) (u_0 : Addr) (a_NEXT : Addr) (u_2 : Addr) (u_3 : Addr) (aw0 : Addr) (HW : Wd Z cs_ u_4 u_1 u_0 a_NEXT u_2 u_3 aw0) (ad1 : Addr) (ad2 : Addr) (kc1 : ClassId) (h0 : Heap) (n0 : Nat) (Ol : Old Z n0 h0) (HV_ad2 : Arv Z h0 ad2 kc1 .byte (0 : Int32) [] (.int (0 : Int32))) (HF_ad1_StoreLog_Entry_payload : Fld Z h0 ad1 "com/example/onward_schema/onwardschema/store/StoreLog$Entry" "payload" "[B" (.ref ad2)) :
    MetFree l y_9 (head1 (Jvm.Cond.code y_9 prog_57_method_3_code 1 (some .boolean) :: ws) (rm 0 0 0 0)) (fun a_ U_ => a_ = #[(.ref ad1)] ∧ Z.Warmed39 U_.vm ∧ U_.heap = h0) (fun _ _ _ _ _ => True) (fun _ U_ o_ V_ => ∃ v_ L_, o_ = .returned v_ ∧ Q_am9_1 Z cs_ u_4 u_1 u_0 a_NEXT u_2 u_3 aw0 ad1 ad2 kc1 h0 n0 v_ V_.heap L_ ∧ FrameEnd U_ o_ V_ L_ (rm 0 0 0 0).cells (rm 0 0 0 0).slots) := by
  refine MetFree.of_bodySF (plainFor_of_name pn_6) hisR ?_
  intro p e s m args below meth c s₁ Bd hml0 hP hK
  obtain ⟨rfl, hZ, hh⟩ := hP
  have hx := Bd.exec
  have hby := Bd.bytes
  have hml : c.maxLocals = 1 := hml0
  have hown : s.vm.findClass "com/example/onward_schema/onwardschema/store/StoreLog$Entry" = some m.cls := findClass_of_methodNamed Bd.named
  have hnm := (name_of_methodNamed Bd.named Bd.method).1
  have X0 : Stand p l e (rm 0 0 0 0) s m #[(.ref ad1)] below meth c s₁ [] 0 0 := Stand.of_body Bd
  have e0 : s₁.heap = h0 := by rw [← hh, Bd.state]; rfl
  have N0 := Fr.nil n0
  have kp0 := Keep.refl h0 []
  show Go p e below (Fin1 s below (Q_am9_1 Z cs_ u_4 u_1 u_0 a_NEXT u_2 u_3 aw0 ad1 ad2 kc1 h0 n0) (rm 0 0 0 0).cells (rm 0 0 0 0).slots) _
  refine Go.step (fun t_ k_ => castTop (ef_am9_1 m ad1) k_) ?_
  obtain ⟨S_cs, N_cs, Eu_4, Su_4, Eu_1, Su_1, Eu_0, Su_0, Ea_NEXT, Sa_NEXT, Eu_2, Su_2, Eu_3, Su_3, Eaw0, Saw0⟩ := id HW
  show Go p e below _ (s₁.setTop (mkF m 0 #[.val (.ref ad1)] []))
  refine gs.aloadN X0.here hx (hb hby d9_0) rfl rfl ?_
  refine gs.getF X0 hx hZ hown (wd hw 56 rfl) Via.refl e0 HF_ad1_StoreLog_Entry_payload (hb hby d9_1) fun T1 X1 e1 => ?_
  obtain ⟨cl2, Ar2, -, Sz2, Ng2, -, -⟩ := id HV_ad2
  refine Go.fin (fun t_ k_ => X1.arraylength hx (by rw [e1]; exact Ar2.1) (State.isArrayOf_alike hZ.alike Ar2.2.1) (g := mkF m 4 _ _) rfl rfl (hb hby d9_4) _ k_) ?_
  rw [len_of Sz2 Ng2]
  show Go p e below _ (T1.setTop (mkF m 5 _ [(.int (0 : Int32))]))
  have hc5 : (0 : Int32) = (0 : Int32) := by decide
  refine gs.ifNo X1.here hx (hb hby d9_5) ((if0 _ _).trans (teq hc5).2) ?_
  refine gs.iconst 1 X1.here hx (hb hby d9_8) rfl ?_
  refine gs.goto 13 X1.here hx (hb hby d9_9) rfl ?_
  refine Go.retZ X1 hx (t := .boolean) Bd.returns (by simp) Bd.notSynchronized (hb hby d9_13) (by rw [e1]; exact ⟨rfl, N0, rfl⟩) (by decide) (by decide)
theorem pd_14 : parseMethodDescriptor "()Z" = some ⟨[], some .boolean⟩ := by decide +kernel
theorem d10_0 : decode c_10 0 = .ok (.new 20, 3) := by decide +kernel
theorem d10_3 : decode c_10 3 = .ok (.dup, 1) := by decide +kernel
theorem d10_4 : decode c_10 4 = .ok (.aload_n 0, 1) := by decide +kernel
theorem d10_5 : decode c_10 5 = .ok (.aload_n 1, 1) := by decide +kernel
theorem d10_6 : decode c_10 6 = .ok (.iconst 0, 1) := by decide +kernel
theorem d10_7 : decode c_10 7 = .ok (.newarray .byte, 2) := by decide +kernel
theorem d10_9 : decode c_10 9 = .ok (.invokespecial 30, 3) := by decide +kernel
theorem d10_12 : decode c_10 12 = .ok (.areturn, 1) := by decide +kernel
theorem ef_am10_1 (m : MethodId) (x0 : Addr) (x1 : Addr)  : entryFrame m #[(.ref x0), (.ref x1)] 2 = mkF m 0 #[.val (.ref x0), .val (.ref x1)] [] := by first | (simp [entryFrame, mkF, argsToLocals, Value.category]; done) | rfl
def Q_am10_1 (Z : State) (cs_ : Int32) (u_4 : Addr) (u_1 : Addr) (u_0 : Addr) (a_NEXT : Addr) (u_2 : Addr) (u_3 : Addr) (aw0 : Addr) (ad1 : Addr) (ad2 : Addr) (h0 : Heap) (n0 : Nat) (v : Option Value) (h : Heap) (L : List Loc) : Prop := ∃ fr1 : Addr, ∃ fr2 : Addr, ∃ kx1 : ClassId, v = some (.ref fr1) ∧ h0.size ≤ fr1 ∧ h0.size ≤ fr2 ∧ fr1 ≠ fr2 ∧ Fr n0 L ∧ Keep h0 h [] ∧ (Exa Z h fr1 "com/example/onward_schema/onwardschema/store/StoreLog$Entry") ∧ (Fld Z h fr1 "com/example/onward_schema/onwardschema/store/StoreLog$Entry" "key" "Ljava/lang/String;" (.ref ad2)) ∧ (Fld Z h fr1 "com/example/onward_schema/onwardschema/store/StoreLog$Entry" "map" "Lcom/example/onward_schema/onwardschema/store/StoreMap;" (.ref ad1)) ∧ (Fld Z h fr1 "com/example/onward_schema/onwardschema/store/StoreLog$Entry" "payload" "[B" (.ref fr2)) ∧ (Arv Z h fr2 kx1 .byte (0 : Int32) [] (.int (0 : Int32)))
set_option maxRecDepth 65536 in
set_option maxHeartbeats 40000000 in
theorem am10_1 (l : Launch) (Z : State) (a0 : Array Value) (hw : ∀ d ∈ tables_1, d.before a0 Z = true) (ws : List Jvm.Cond) (cs_ : Int32) (u_4 : Addr) (u_1 : Addr) (u_0 : Addr) (a_NEXT : Addr) (u_2 : Addr) (u_3 : Addr) (aw0 : Addr) (HW : Wd Z cs_ u_4 u_1 u_0 a_NEXT u_2 u_3 aw0) (ad1 : Addr) (ad2 : Addr) (h0 : Heap) (n0 : Nat) (Ol : Old Z n0 h0)  :
    MetFree l y_10 (head1 (Jvm.Cond.code y_10 prog_57_method_2_code 2 (some (.object "com/example/onward_schema/onwardschema/store/StoreLog$Entry")) :: ws) (rm 3 8 67 40)) (fun a_ U_ => a_ = #[(.ref ad1), (.ref ad2)] ∧ Z.Warmed39 U_.vm ∧ U_.heap = h0) (fun _ _ _ _ _ => True) (fun _ U_ o_ V_ => ∃ v_ L_, o_ = .returned v_ ∧ Q_am10_1 Z cs_ u_4 u_1 u_0 a_NEXT u_2 u_3 aw0 ad1 ad2 h0 n0 v_ V_.heap L_ ∧ ReturnedEndW U_ o_ V_ L_ (rm 3 8 67 40).cells (rm 3 8 67 40).slots) := by
  refine MetFree.of_bodySF (plainFor_of_name pn_6) hisR ?_
  intro p e s m args below meth c s₁ Bd hml0 hP hK
  obtain ⟨rfl, hZ, hh⟩ := hP
  have hx := Bd.exec
  have hby := Bd.bytes
  have hml : c.maxLocals = 2 := hml0
  have hown : s.vm.findClass "com/example/onward_schema/onwardschema/store/StoreLog$Entry" = some m.cls := findClass_of_methodNamed Bd.named
  have hnm := (name_of_methodNamed Bd.named Bd.method).1
  have X0 : Stand p l e (rm 3 8 67 40) s m #[(.ref ad1), (.ref ad2)] below meth c s₁ [] 0 0 := Stand.of_body Bd
  have e0 : s₁.heap = h0 := by rw [← hh, Bd.state]; rfl
  have N0 := Fr.nil n0
  have kp0 := Keep.refl h0 []
  show Go p e below (Fin2 s below (Q_am10_1 Z cs_ u_4 u_1 u_0 a_NEXT u_2 u_3 aw0 ad1 ad2 h0 n0) (rm 3 8 67 40).cells (rm 3 8 67 40).slots) _
  have S0 : s.Since s.vm 0 := (State.WarmedH.refl s).since 0
  have hk0 : 0 ≤ h0.size := Nat.zero_le _
  refine Go.step (fun t_ k_ => castTop (ef_am10_1 m ad1 ad2) k_) ?_
  obtain ⟨S_cs, N_cs, Eu_4, Su_4, Eu_1, Su_1, Eu_0, Su_0, Ea_NEXT, Sa_NEXT, Eu_2, Su_2, Eu_3, Su_3, Eaw0, Saw0⟩ := id HW
  show Go p e below _ (s₁.setTop (mkF m 0 #[.val (.ref ad1), .val (.ref ad2)] []))
  obtain ⟨T1, h1, X1, e1, E1, A1, D1, Y1, st1⟩ := newO X0 hx hZ hown (wd hw 66 rfl) (wd hw 34 rfl) (wd hw 35 rfl) e0 (g := (mkF m 0 #[.val (.ref ad1), .val (.ref ad2)] [])) rfl (hb hby d10_0) (by decide) (by decide)
  obtain ⟨b1, g1⟩ : ∃ z, z = h0.size := ⟨_, rfl⟩
  rw [← g1] at A1 D1 Y1 st1
  have nn_b1 : n0 ≤ b1 := Nat.le_trans (old_z0 Ol) (Nat.le_of_eq g1.symm)
  have sz_b1 : h0.size ≤ b1 := Nat.le_trans kp0.1 (Nat.le_of_eq g1.symm)
  have old1 := Ol.ext E1
  have kp1 := kp0.ext E1
  have hk1 := Nat.le_trans hk0 E1.1
  have F1_map : Fld Z h1 b1 "com/example/onward_schema/onwardschema/store/StoreLog$Entry" "map" "Lcom/example/onward_schema/onwardschema/store/StoreMap;" .null := D1 (Or.inr (wd hw 53 rfl)) (ty := (.object "com/example/onward_schema/onwardschema/store/StoreMap")) (by decide)
  have F1_key : Fld Z h1 b1 "com/example/onward_schema/onwardschema/store/StoreLog$Entry" "key" "Ljava/lang/String;" .null := D1 (Or.inr (wd hw 55 rfl)) (ty := (.object "java/lang/String")) (by decide)
  have F1_payload : Fld Z h1 b1 "com/example/onward_schema/onwardschema/store/StoreLog$Entry" "payload" "[B" .null := D1 (Or.inr (wd hw 57 rfl)) (ty := (.array .byte)) (by decide)
  refine Go.fin st1 ?_
  show Go p e below _ (T1.setTop (mkF m 3 _ [(.ref b1)]))
  refine gs.dup X1.here hx (hb hby d10_3) rfl ?_
  refine gs.aloadN X1.here hx (hb hby d10_4) rfl rfl ?_
  refine gs.aloadN X1.here hx (hb hby d10_5) rfl rfl ?_
  refine gs.iconst 0 X1.here hx (hb hby d10_6) rfl ?_
  obtain ⟨T2, h2, k2, X2, e2, E2, A2, st2⟩ := newP X1 hx hZ (wd hw 8 rfl) e1 (g := (mkF m 7 #[.val (.ref ad1), .val (.ref ad2)] [(.int (0 : Int32)), (.ref ad2), (.ref ad1), (.ref b1), (.ref b1)])) rfl (hb hby d10_7) rfl (by decide) (cap := 0) (by decide) (by decide) (by decide) (by decide)
  obtain ⟨b2, g2⟩ : ∃ z, z = h1.size := ⟨_, rfl⟩
  rw [← g2] at A2 st2
  have nn_b2 : n0 ≤ b2 := Nat.le_trans (old_z0 old1) (Nat.le_of_eq g2.symm)
  have sz_b2 : h0.size ≤ b2 := Nat.le_trans kp1.1 (Nat.le_of_eq g2.symm)
  have old2 := old1.ext E2
  have kp2 := kp1.ext E2
  have hk2 := Nat.le_trans hk1 E2.1
  have V2 : Arv Z h2 b2 k2 .byte (0 : Int32) [] (.int (0 : Int32)) := (Arv.new A2 (by decide)).pad (pad_rep [] (.int (0 : Int32)) 0)
  refine Go.fin st2 ?_
  show Go p e below _ (T2.setTop (mkF m 9 _ [(.ref b2), (.ref ad2), (.ref ad1), (.ref b1), (.ref b1)]))
  have f3 := (A1.ext E2)
  have f4 := (F1_map.ext E2)
  have f5 := (F1_key.ext E2)
  have f6 := (F1_payload.ext E2)
  obtain ⟨_, _, ⟨T7, L7, k7, n7⟩, -, X7, S7, gr7, ⟨Lc7, hQ7, l7, y7, z7⟩, st7⟩ := X2.specialBackS hx (y := y_6) rfl hown (mvT hZ (wd hw 67 rfl)) (mvT hZ (wd hw 37 rfl)) (mvT hZ (wd hw 38 rfl)) (by decide) (backOfS (W := 1) (am6_1 l Z a0 hw [] cs_ u_4 u_1 u_0 a_NEXT u_2 u_3 aw0 HW (b1) (ad1) (ad2) (b2) h2 n0 old2 f3 f4 f5 f6 nn_b1) hZ (wd hw 38 rfl) (wd hw 35 rfl) (by decide) (by decide)) (g := (mkF m 9 #[.val (.ref ad1), .val (.ref ad2)] [(.ref b2), (.ref ad2), (.ref ad1), (.ref b1), (.ref b1)])) rfl (by rw [hml]; rfl) (Steps.refl _) (a := b1) (argsL := [(.ref ad1), (.ref ad2), (.ref b2)]) (rest := [(.ref b1)]) (lenOf pd_13 rfl) rfl (by show 2 * 0 + _ ≤ _; exact Nat.le_of_eq rfl) (hb hby d10_9) (fun _ _ => ⟨rfl, e2, (by decide : 2 + 6 ≤ _), (by decide : 3 + 64 ≤ _)⟩)
  dsimp only [Pt.U, Pt.locs, Pt.cells, Pt.slots] at X7 l7 y7 z7 st7 hQ7 S7 gr7
  subst l7 y7 z7
  obtain ⟨X7, S7, hZ7, hown7⟩ := rebS (vm0 := s.vm) S0 (by rw [e2]; exact hk2) X7 S7 gr7 hZ hown
  obtain ⟨rfl, Nq7, K7, p7_0, p7_1, p7_2, p7_3⟩ := hQ7
  have old7 := old2.keep K7 (allS nn_b1 all0)
  have kp7 := kp2.trans K7 (allS (Or.inr sz_b1) all0)
  have N7 := Fr.app N0 Nq7
  refine Go.step (fun t_ k_ => st7.trans k_) ?_
  show Go p e below _ (T7.setTop (mkF m 12 #[.val (.ref ad1), .val (.ref ad2)] [(.ref b1)]))
  have ne_b1_b2 : b1 ≠ b2 := Nat.ne_of_lt (Nat.lt_of_lt_of_le A1.lt (Nat.le_of_eq g2.symm))
  have f8 := (V2.keep K7 (ninS (Ne.symm ne_b1_b2) nin0))
  refine GoW.retR X7 S7 (by exact (Nat.le_refl _)) hx Bd.returns rfl rfl Bd.notSynchronized (hb hby d10_12) (by exact ⟨b1, b2, k2, rfl, sz_b1, sz_b2, ne_b1_b2, N7, kp7, p7_0, p7_1, p7_2, p7_3, f8⟩) (by decide) (by decide)
theorem pd_15 : parseMethodDescriptor "(Lcom/example/onward_schema/onwardschema/store/StoreMap;Ljava/lang/String;)Lcom/example/onward_schema/onwardschema/store/StoreLog$Entry;" = some ⟨[(.object "com/example/onward_schema/onwardschema/store/StoreMap"), (.object "java/lang/String")], some (.object "com/example/onward_schema/onwardschema/store/StoreLog$Entry")⟩ := by decide +kernel
theorem d9_12 : decode c_9 12 = .ok (.iconst 0, 1) := by decide +kernel
def Q_am9_2 (Z : State) (cs_ : Int32) (u_4 : Addr) (u_1 : Addr) (u_0 : Addr) (a_NEXT : Addr) (u_2 : Addr) (u_3 : Addr) (aw0 : Addr) (ad1 : Addr) (ad2 : Addr) (kc1 : ClassId) (iv1 : Int32) (h0 : Heap) (n0 : Nat) (v : Option Value) (h : Heap) (L : List Loc) : Prop := v = some (.int (0 : Int32)) ∧ Fr n0 L ∧ h = h0
set_option maxRecDepth 65536 in
set_option maxHeartbeats 40000000 in
theorem am9_2 (l : Launch) (Z : State) (a0 : Array Value) (hw : ∀ d ∈ tables_1, d.before a0 Z = true) (ws : List Jvm.Cond) (cs_ : Int32) (u_4 : Addr) (u_1 : Addr) (u_0 : Addr) (a_NEXT : Addr) (u_2 : Addr) (u_3 : Addr) (aw0 : Addr) (HW : Wd Z cs_ u_4 u_1 u_0 a_NEXT u_2 u_3 aw0) (ad1 : Addr) (ad2 : Addr) (kc1 : ClassId) (iv1 : Int32) (h0 : Heap) (n0 : Nat) (Ol : Old Z n0 h0) (HV_ad2 : Arv Z h0 ad2 kc1 .byte (1 : Int32) [(.int iv1)] (.int (0 : Int32))) (HF_ad1_StoreLog_Entry_payload : Fld Z h0 ad1 "com/example/onward_schema/onwardschema/store/StoreLog$Entry" "payload" "[B" (.ref ad2)) :
    MetFree l y_9 (head1 (Jvm.Cond.code y_9 prog_57_method_3_code 1 (some .boolean) :: ws) (rm 0 0 0 0)) (fun a_ U_ => a_ = #[(.ref ad1)] ∧ Z.Warmed39 U_.vm ∧ U_.heap = h0) (fun _ _ _ _ _ => True) (fun _ U_ o_ V_ => ∃ v_ L_, o_ = .returned v_ ∧ Q_am9_2 Z cs_ u_4 u_1 u_0 a_NEXT u_2 u_3 aw0 ad1 ad2 kc1 iv1 h0 n0 v_ V_.heap L_ ∧ FrameEnd U_ o_ V_ L_ (rm 0 0 0 0).cells (rm 0 0 0 0).slots) := by
  refine MetFree.of_bodySF (plainFor_of_name pn_6) hisR ?_
  intro p e s m args below meth c s₁ Bd hml0 hP hK
  obtain ⟨rfl, hZ, hh⟩ := hP
  have hx := Bd.exec
  have hby := Bd.bytes
  have hml : c.maxLocals = 1 := hml0
  have hown : s.vm.findClass "com/example/onward_schema/onwardschema/store/StoreLog$Entry" = some m.cls := findClass_of_methodNamed Bd.named
  have hnm := (name_of_methodNamed Bd.named Bd.method).1
  have X0 : Stand p l e (rm 0 0 0 0) s m #[(.ref ad1)] below meth c s₁ [] 0 0 := Stand.of_body Bd
  have e0 : s₁.heap = h0 := by rw [← hh, Bd.state]; rfl
  have N0 := Fr.nil n0
  have kp0 := Keep.refl h0 []
  show Go p e below (Fin1 s below (Q_am9_2 Z cs_ u_4 u_1 u_0 a_NEXT u_2 u_3 aw0 ad1 ad2 kc1 iv1 h0 n0) (rm 0 0 0 0).cells (rm 0 0 0 0).slots) _
  refine Go.step (fun t_ k_ => castTop (ef_am9_1 m ad1) k_) ?_
  obtain ⟨S_cs, N_cs, Eu_4, Su_4, Eu_1, Su_1, Eu_0, Su_0, Ea_NEXT, Sa_NEXT, Eu_2, Su_2, Eu_3, Su_3, Eaw0, Saw0⟩ := id HW
  show Go p e below _ (s₁.setTop (mkF m 0 #[.val (.ref ad1)] []))
  refine gs.aloadN X0.here hx (hb hby d9_0) rfl rfl ?_
  refine gs.getF X0 hx hZ hown (wd hw 56 rfl) Via.refl e0 HF_ad1_StoreLog_Entry_payload (hb hby d9_1) fun T1 X1 e1 => ?_
  obtain ⟨cl2, Ar2, -, Sz2, Ng2, -, -⟩ := id HV_ad2
  refine Go.fin (fun t_ k_ => X1.arraylength hx (by rw [e1]; exact Ar2.1) (State.isArrayOf_alike hZ.alike Ar2.2.1) (g := mkF m 4 _ _) rfl rfl (hb hby d9_4) _ k_) ?_
  rw [len_of Sz2 Ng2]
  show Go p e below _ (T1.setTop (mkF m 5 _ [(.int (1 : Int32))]))
  have hc5 : ¬ ((1 : Int32) = (0 : Int32)) := by decide
  refine gs.ifYes 12 X1.here hx (hb hby d9_5) ((if0 _ _).trans (feq hc5).2) rfl ?_
  refine gs.iconst 0 X1.here hx (hb hby d9_12) rfl ?_
  refine Go.retZ X1 hx (t := .boolean) Bd.returns (by simp) Bd.notSynchronized (hb hby d9_13) (by rw [e1]; exact ⟨rfl, N0, rfl⟩) (by decide) (by decide)
def Q_am9_3 (Z : State) (cs_ : Int32) (u_4 : Addr) (u_1 : Addr) (u_0 : Addr) (a_NEXT : Addr) (u_2 : Addr) (u_3 : Addr) (aw0 : Addr) (ad1 : Addr) (ad2 : Addr) (kc1 : ClassId) (iv1 : Int32) (iv2 : Int32) (h0 : Heap) (n0 : Nat) (v : Option Value) (h : Heap) (L : List Loc) : Prop := v = some (.int (0 : Int32)) ∧ Fr n0 L ∧ h = h0
set_option maxRecDepth 65536 in
set_option maxHeartbeats 40000000 in
theorem am9_3 (l : Launch) (Z : State) (a0 : Array Value) (hw : ∀ d ∈ tables_1, d.before a0 Z = true) (ws : List Jvm.Cond) (cs_ : Int32) (u_4 : Addr) (u_1 : Addr) (u_0 : Addr) (a_NEXT : Addr) (u_2 : Addr) (u_3 : Addr) (aw0 : Addr) (HW : Wd Z cs_ u_4 u_1 u_0 a_NEXT u_2 u_3 aw0) (ad1 : Addr) (ad2 : Addr) (kc1 : ClassId) (iv1 : Int32) (iv2 : Int32) (h0 : Heap) (n0 : Nat) (Ol : Old Z n0 h0) (HV_ad2 : Arv Z h0 ad2 kc1 .byte (2 : Int32) [(.int iv1), (.int iv2)] (.int (0 : Int32))) (HF_ad1_StoreLog_Entry_payload : Fld Z h0 ad1 "com/example/onward_schema/onwardschema/store/StoreLog$Entry" "payload" "[B" (.ref ad2)) :
    MetFree l y_9 (head1 (Jvm.Cond.code y_9 prog_57_method_3_code 1 (some .boolean) :: ws) (rm 0 0 0 0)) (fun a_ U_ => a_ = #[(.ref ad1)] ∧ Z.Warmed39 U_.vm ∧ U_.heap = h0) (fun _ _ _ _ _ => True) (fun _ U_ o_ V_ => ∃ v_ L_, o_ = .returned v_ ∧ Q_am9_3 Z cs_ u_4 u_1 u_0 a_NEXT u_2 u_3 aw0 ad1 ad2 kc1 iv1 iv2 h0 n0 v_ V_.heap L_ ∧ FrameEnd U_ o_ V_ L_ (rm 0 0 0 0).cells (rm 0 0 0 0).slots) := by
  refine MetFree.of_bodySF (plainFor_of_name pn_6) hisR ?_
  intro p e s m args below meth c s₁ Bd hml0 hP hK
  obtain ⟨rfl, hZ, hh⟩ := hP
  have hx := Bd.exec
  have hby := Bd.bytes
  have hml : c.maxLocals = 1 := hml0
  have hown : s.vm.findClass "com/example/onward_schema/onwardschema/store/StoreLog$Entry" = some m.cls := findClass_of_methodNamed Bd.named
  have hnm := (name_of_methodNamed Bd.named Bd.method).1
  have X0 : Stand p l e (rm 0 0 0 0) s m #[(.ref ad1)] below meth c s₁ [] 0 0 := Stand.of_body Bd
  have e0 : s₁.heap = h0 := by rw [← hh, Bd.state]; rfl
  have N0 := Fr.nil n0
  have kp0 := Keep.refl h0 []
  show Go p e below (Fin1 s below (Q_am9_3 Z cs_ u_4 u_1 u_0 a_NEXT u_2 u_3 aw0 ad1 ad2 kc1 iv1 iv2 h0 n0) (rm 0 0 0 0).cells (rm 0 0 0 0).slots) _
  refine Go.step (fun t_ k_ => castTop (ef_am9_1 m ad1) k_) ?_
  obtain ⟨S_cs, N_cs, Eu_4, Su_4, Eu_1, Su_1, Eu_0, Su_0, Ea_NEXT, Sa_NEXT, Eu_2, Su_2, Eu_3, Su_3, Eaw0, Saw0⟩ := id HW
  show Go p e below _ (s₁.setTop (mkF m 0 #[.val (.ref ad1)] []))
  refine gs.aloadN X0.here hx (hb hby d9_0) rfl rfl ?_
  refine gs.getF X0 hx hZ hown (wd hw 56 rfl) Via.refl e0 HF_ad1_StoreLog_Entry_payload (hb hby d9_1) fun T1 X1 e1 => ?_
  obtain ⟨cl2, Ar2, -, Sz2, Ng2, -, -⟩ := id HV_ad2
  refine Go.fin (fun t_ k_ => X1.arraylength hx (by rw [e1]; exact Ar2.1) (State.isArrayOf_alike hZ.alike Ar2.2.1) (g := mkF m 4 _ _) rfl rfl (hb hby d9_4) _ k_) ?_
  rw [len_of Sz2 Ng2]
  show Go p e below _ (T1.setTop (mkF m 5 _ [(.int (2 : Int32))]))
  have hc5 : ¬ ((2 : Int32) = (0 : Int32)) := by decide
  refine gs.ifYes 12 X1.here hx (hb hby d9_5) ((if0 _ _).trans (feq hc5).2) rfl ?_
  refine gs.iconst 0 X1.here hx (hb hby d9_12) rfl ?_
  refine Go.retZ X1 hx (t := .boolean) Bd.returns (by simp) Bd.notSynchronized (hb hby d9_13) (by rw [e1]; exact ⟨rfl, N0, rfl⟩) (by decide) (by decide)
def Q_am9_4 (Z : State) (cs_ : Int32) (u_4 : Addr) (u_1 : Addr) (u_0 : Addr) (a_NEXT : Addr) (u_2 : Addr) (u_3 : Addr) (aw0 : Addr) (ad1 : Addr) (ad2 : Addr) (kc1 : ClassId) (iv1 : Int32) (iv2 : Int32) (iv3 : Int32) (h0 : Heap) (n0 : Nat) (v : Option Value) (h : Heap) (L : List Loc) : Prop := v = some (.int (0 : Int32)) ∧ Fr n0 L ∧ h = h0
set_option maxRecDepth 65536 in
set_option maxHeartbeats 40000000 in
theorem am9_4 (l : Launch) (Z : State) (a0 : Array Value) (hw : ∀ d ∈ tables_1, d.before a0 Z = true) (ws : List Jvm.Cond) (cs_ : Int32) (u_4 : Addr) (u_1 : Addr) (u_0 : Addr) (a_NEXT : Addr) (u_2 : Addr) (u_3 : Addr) (aw0 : Addr) (HW : Wd Z cs_ u_4 u_1 u_0 a_NEXT u_2 u_3 aw0) (ad1 : Addr) (ad2 : Addr) (kc1 : ClassId) (iv1 : Int32) (iv2 : Int32) (iv3 : Int32) (h0 : Heap) (n0 : Nat) (Ol : Old Z n0 h0) (HV_ad2 : Arv Z h0 ad2 kc1 .byte (3 : Int32) [(.int iv1), (.int iv2), (.int iv3)] (.int (0 : Int32))) (HF_ad1_StoreLog_Entry_payload : Fld Z h0 ad1 "com/example/onward_schema/onwardschema/store/StoreLog$Entry" "payload" "[B" (.ref ad2)) :
    MetFree l y_9 (head1 (Jvm.Cond.code y_9 prog_57_method_3_code 1 (some .boolean) :: ws) (rm 0 0 0 0)) (fun a_ U_ => a_ = #[(.ref ad1)] ∧ Z.Warmed39 U_.vm ∧ U_.heap = h0) (fun _ _ _ _ _ => True) (fun _ U_ o_ V_ => ∃ v_ L_, o_ = .returned v_ ∧ Q_am9_4 Z cs_ u_4 u_1 u_0 a_NEXT u_2 u_3 aw0 ad1 ad2 kc1 iv1 iv2 iv3 h0 n0 v_ V_.heap L_ ∧ FrameEnd U_ o_ V_ L_ (rm 0 0 0 0).cells (rm 0 0 0 0).slots) := by
  refine MetFree.of_bodySF (plainFor_of_name pn_6) hisR ?_
  intro p e s m args below meth c s₁ Bd hml0 hP hK
  obtain ⟨rfl, hZ, hh⟩ := hP
  have hx := Bd.exec
  have hby := Bd.bytes
  have hml : c.maxLocals = 1 := hml0
  have hown : s.vm.findClass "com/example/onward_schema/onwardschema/store/StoreLog$Entry" = some m.cls := findClass_of_methodNamed Bd.named
  have hnm := (name_of_methodNamed Bd.named Bd.method).1
  have X0 : Stand p l e (rm 0 0 0 0) s m #[(.ref ad1)] below meth c s₁ [] 0 0 := Stand.of_body Bd
  have e0 : s₁.heap = h0 := by rw [← hh, Bd.state]; rfl
  have N0 := Fr.nil n0
  have kp0 := Keep.refl h0 []
  show Go p e below (Fin1 s below (Q_am9_4 Z cs_ u_4 u_1 u_0 a_NEXT u_2 u_3 aw0 ad1 ad2 kc1 iv1 iv2 iv3 h0 n0) (rm 0 0 0 0).cells (rm 0 0 0 0).slots) _
  refine Go.step (fun t_ k_ => castTop (ef_am9_1 m ad1) k_) ?_
  obtain ⟨S_cs, N_cs, Eu_4, Su_4, Eu_1, Su_1, Eu_0, Su_0, Ea_NEXT, Sa_NEXT, Eu_2, Su_2, Eu_3, Su_3, Eaw0, Saw0⟩ := id HW
  show Go p e below _ (s₁.setTop (mkF m 0 #[.val (.ref ad1)] []))
  refine gs.aloadN X0.here hx (hb hby d9_0) rfl rfl ?_
  refine gs.getF X0 hx hZ hown (wd hw 56 rfl) Via.refl e0 HF_ad1_StoreLog_Entry_payload (hb hby d9_1) fun T1 X1 e1 => ?_
  obtain ⟨cl2, Ar2, -, Sz2, Ng2, -, -⟩ := id HV_ad2
  refine Go.fin (fun t_ k_ => X1.arraylength hx (by rw [e1]; exact Ar2.1) (State.isArrayOf_alike hZ.alike Ar2.2.1) (g := mkF m 4 _ _) rfl rfl (hb hby d9_4) _ k_) ?_
  rw [len_of Sz2 Ng2]
  show Go p e below _ (T1.setTop (mkF m 5 _ [(.int (3 : Int32))]))
  have hc5 : ¬ ((3 : Int32) = (0 : Int32)) := by decide
  refine gs.ifYes 12 X1.here hx (hb hby d9_5) ((if0 _ _).trans (feq hc5).2) rfl ?_
  refine gs.iconst 0 X1.here hx (hb hby d9_12) rfl ?_
  refine Go.retZ X1 hx (t := .boolean) Bd.returns (by simp) Bd.notSynchronized (hb hby d9_13) (by rw [e1]; exact ⟨rfl, N0, rfl⟩) (by decide) (by decide)
def Q_am9_5 (Z : State) (cs_ : Int32) (u_4 : Addr) (u_1 : Addr) (u_0 : Addr) (a_NEXT : Addr) (u_2 : Addr) (u_3 : Addr) (aw0 : Addr) (ad1 : Addr) (ad2 : Addr) (kc1 : ClassId) (iv1 : Int32) (iv2 : Int32) (iv3 : Int32) (iv4 : Int32) (h0 : Heap) (n0 : Nat) (v : Option Value) (h : Heap) (L : List Loc) : Prop := v = some (.int (0 : Int32)) ∧ Fr n0 L ∧ h = h0
set_option maxRecDepth 65536 in
set_option maxHeartbeats 40000000 in
theorem am9_5 (l : Launch) (Z : State) (a0 : Array Value) (hw : ∀ d ∈ tables_1, d.before a0 Z = true) (ws : List Jvm.Cond) (cs_ : Int32) (u_4 : Addr) (u_1 : Addr) (u_0 : Addr) (a_NEXT : Addr) (u_2 : Addr) (u_3 : Addr) (aw0 : Addr) (HW : Wd Z cs_ u_4 u_1 u_0 a_NEXT u_2 u_3 aw0) (ad1 : Addr) (ad2 : Addr) (kc1 : ClassId) (iv1 : Int32) (iv2 : Int32) (iv3 : Int32) (iv4 : Int32) (h0 : Heap) (n0 : Nat) (Ol : Old Z n0 h0) (HV_ad2 : Arv Z h0 ad2 kc1 .byte (4 : Int32) [(.int iv1), (.int iv2), (.int iv3), (.int iv4)] (.int (0 : Int32))) (HF_ad1_StoreLog_Entry_payload : Fld Z h0 ad1 "com/example/onward_schema/onwardschema/store/StoreLog$Entry" "payload" "[B" (.ref ad2)) :
    MetFree l y_9 (head1 (Jvm.Cond.code y_9 prog_57_method_3_code 1 (some .boolean) :: ws) (rm 0 0 0 0)) (fun a_ U_ => a_ = #[(.ref ad1)] ∧ Z.Warmed39 U_.vm ∧ U_.heap = h0) (fun _ _ _ _ _ => True) (fun _ U_ o_ V_ => ∃ v_ L_, o_ = .returned v_ ∧ Q_am9_5 Z cs_ u_4 u_1 u_0 a_NEXT u_2 u_3 aw0 ad1 ad2 kc1 iv1 iv2 iv3 iv4 h0 n0 v_ V_.heap L_ ∧ FrameEnd U_ o_ V_ L_ (rm 0 0 0 0).cells (rm 0 0 0 0).slots) := by
  refine MetFree.of_bodySF (plainFor_of_name pn_6) hisR ?_
  intro p e s m args below meth c s₁ Bd hml0 hP hK
  obtain ⟨rfl, hZ, hh⟩ := hP
  have hx := Bd.exec
  have hby := Bd.bytes
  have hml : c.maxLocals = 1 := hml0
  have hown : s.vm.findClass "com/example/onward_schema/onwardschema/store/StoreLog$Entry" = some m.cls := findClass_of_methodNamed Bd.named
  have hnm := (name_of_methodNamed Bd.named Bd.method).1
  have X0 : Stand p l e (rm 0 0 0 0) s m #[(.ref ad1)] below meth c s₁ [] 0 0 := Stand.of_body Bd
  have e0 : s₁.heap = h0 := by rw [← hh, Bd.state]; rfl
  have N0 := Fr.nil n0
  have kp0 := Keep.refl h0 []
  show Go p e below (Fin1 s below (Q_am9_5 Z cs_ u_4 u_1 u_0 a_NEXT u_2 u_3 aw0 ad1 ad2 kc1 iv1 iv2 iv3 iv4 h0 n0) (rm 0 0 0 0).cells (rm 0 0 0 0).slots) _
  refine Go.step (fun t_ k_ => castTop (ef_am9_1 m ad1) k_) ?_
  obtain ⟨S_cs, N_cs, Eu_4, Su_4, Eu_1, Su_1, Eu_0, Su_0, Ea_NEXT, Sa_NEXT, Eu_2, Su_2, Eu_3, Su_3, Eaw0, Saw0⟩ := id HW
  show Go p e below _ (s₁.setTop (mkF m 0 #[.val (.ref ad1)] []))
  refine gs.aloadN X0.here hx (hb hby d9_0) rfl rfl ?_
  refine gs.getF X0 hx hZ hown (wd hw 56 rfl) Via.refl e0 HF_ad1_StoreLog_Entry_payload (hb hby d9_1) fun T1 X1 e1 => ?_
  obtain ⟨cl2, Ar2, -, Sz2, Ng2, -, -⟩ := id HV_ad2
  refine Go.fin (fun t_ k_ => X1.arraylength hx (by rw [e1]; exact Ar2.1) (State.isArrayOf_alike hZ.alike Ar2.2.1) (g := mkF m 4 _ _) rfl rfl (hb hby d9_4) _ k_) ?_
  rw [len_of Sz2 Ng2]
  show Go p e below _ (T1.setTop (mkF m 5 _ [(.int (4 : Int32))]))
  have hc5 : ¬ ((4 : Int32) = (0 : Int32)) := by decide
  refine gs.ifYes 12 X1.here hx (hb hby d9_5) ((if0 _ _).trans (feq hc5).2) rfl ?_
  refine gs.iconst 0 X1.here hx (hb hby d9_12) rfl ?_
  refine Go.retZ X1 hx (t := .boolean) Bd.returns (by simp) Bd.notSynchronized (hb hby d9_13) (by rw [e1]; exact ⟨rfl, N0, rfl⟩) (by decide) (by decide)
def Q_am9_6 (Z : State) (cs_ : Int32) (u_4 : Addr) (u_1 : Addr) (u_0 : Addr) (a_NEXT : Addr) (u_2 : Addr) (u_3 : Addr) (aw0 : Addr) (ad1 : Addr) (ad2 : Addr) (kc1 : ClassId) (iv1 : Int32) (iv2 : Int32) (iv3 : Int32) (iv4 : Int32) (h0 : Heap) (n0 : Nat) (v : Option Value) (h : Heap) (L : List Loc) : Prop := v = some (.int (0 : Int32)) ∧ Fr n0 L ∧ h = h0
set_option maxRecDepth 65536 in
set_option maxHeartbeats 40000000 in
theorem am9_6 (l : Launch) (Z : State) (a0 : Array Value) (hw : ∀ d ∈ tables_1, d.before a0 Z = true) (ws : List Jvm.Cond) (cs_ : Int32) (u_4 : Addr) (u_1 : Addr) (u_0 : Addr) (a_NEXT : Addr) (u_2 : Addr) (u_3 : Addr) (aw0 : Addr) (HW : Wd Z cs_ u_4 u_1 u_0 a_NEXT u_2 u_3 aw0) (ad1 : Addr) (ad2 : Addr) (kc1 : ClassId) (iv1 : Int32) (iv2 : Int32) (iv3 : Int32) (iv4 : Int32) (h0 : Heap) (n0 : Nat) (Ol : Old Z n0 h0) (HV_ad2 : Arv Z h0 ad2 kc1 .byte (5 : Int32) [(.int iv1), (.int iv2), (.int iv3), (.int iv4), (.int (0 : Int32))] (.int (0 : Int32))) (HF_ad1_StoreLog_Entry_payload : Fld Z h0 ad1 "com/example/onward_schema/onwardschema/store/StoreLog$Entry" "payload" "[B" (.ref ad2)) :
    MetFree l y_9 (head1 (Jvm.Cond.code y_9 prog_57_method_3_code 1 (some .boolean) :: ws) (rm 0 0 0 0)) (fun a_ U_ => a_ = #[(.ref ad1)] ∧ Z.Warmed39 U_.vm ∧ U_.heap = h0) (fun _ _ _ _ _ => True) (fun _ U_ o_ V_ => ∃ v_ L_, o_ = .returned v_ ∧ Q_am9_6 Z cs_ u_4 u_1 u_0 a_NEXT u_2 u_3 aw0 ad1 ad2 kc1 iv1 iv2 iv3 iv4 h0 n0 v_ V_.heap L_ ∧ FrameEnd U_ o_ V_ L_ (rm 0 0 0 0).cells (rm 0 0 0 0).slots) := by
  refine MetFree.of_bodySF (plainFor_of_name pn_6) hisR ?_
  intro p e s m args below meth c s₁ Bd hml0 hP hK
  obtain ⟨rfl, hZ, hh⟩ := hP
  have hx := Bd.exec
  have hby := Bd.bytes
  have hml : c.maxLocals = 1 := hml0
  have hown : s.vm.findClass "com/example/onward_schema/onwardschema/store/StoreLog$Entry" = some m.cls := findClass_of_methodNamed Bd.named
  have hnm := (name_of_methodNamed Bd.named Bd.method).1
  have X0 : Stand p l e (rm 0 0 0 0) s m #[(.ref ad1)] below meth c s₁ [] 0 0 := Stand.of_body Bd
  have e0 : s₁.heap = h0 := by rw [← hh, Bd.state]; rfl
  have N0 := Fr.nil n0
  have kp0 := Keep.refl h0 []
  show Go p e below (Fin1 s below (Q_am9_6 Z cs_ u_4 u_1 u_0 a_NEXT u_2 u_3 aw0 ad1 ad2 kc1 iv1 iv2 iv3 iv4 h0 n0) (rm 0 0 0 0).cells (rm 0 0 0 0).slots) _
  refine Go.step (fun t_ k_ => castTop (ef_am9_1 m ad1) k_) ?_
  obtain ⟨S_cs, N_cs, Eu_4, Su_4, Eu_1, Su_1, Eu_0, Su_0, Ea_NEXT, Sa_NEXT, Eu_2, Su_2, Eu_3, Su_3, Eaw0, Saw0⟩ := id HW
  show Go p e below _ (s₁.setTop (mkF m 0 #[.val (.ref ad1)] []))
  refine gs.aloadN X0.here hx (hb hby d9_0) rfl rfl ?_
  refine gs.getF X0 hx hZ hown (wd hw 56 rfl) Via.refl e0 HF_ad1_StoreLog_Entry_payload (hb hby d9_1) fun T1 X1 e1 => ?_
  obtain ⟨cl2, Ar2, -, Sz2, Ng2, -, -⟩ := id HV_ad2
  refine Go.fin (fun t_ k_ => X1.arraylength hx (by rw [e1]; exact Ar2.1) (State.isArrayOf_alike hZ.alike Ar2.2.1) (g := mkF m 4 _ _) rfl rfl (hb hby d9_4) _ k_) ?_
  rw [len_of Sz2 Ng2]
  show Go p e below _ (T1.setTop (mkF m 5 _ [(.int (5 : Int32))]))
  have hc5 : ¬ ((5 : Int32) = (0 : Int32)) := by decide
  refine gs.ifYes 12 X1.here hx (hb hby d9_5) ((if0 _ _).trans (feq hc5).2) rfl ?_
  refine gs.iconst 0 X1.here hx (hb hby d9_12) rfl ?_
  refine Go.retZ X1 hx (t := .boolean) Bd.returns (by simp) Bd.notSynchronized (hb hby d9_13) (by rw [e1]; exact ⟨rfl, N0, rfl⟩) (by decide) (by decide)
def Q_am9_7 (Z : State) (cs_ : Int32) (u_4 : Addr) (u_1 : Addr) (u_0 : Addr) (a_NEXT : Addr) (u_2 : Addr) (u_3 : Addr) (aw0 : Addr) (ad1 : Addr) (ad2 : Addr) (kc1 : ClassId) (iv1 : Int32) (iv2 : Int32) (iv3 : Int32) (iv4 : Int32) (h0 : Heap) (n0 : Nat) (v : Option Value) (h : Heap) (L : List Loc) : Prop := v = some (.int (0 : Int32)) ∧ Fr n0 L ∧ h = h0
set_option maxRecDepth 65536 in
set_option maxHeartbeats 40000000 in
theorem am9_7 (l : Launch) (Z : State) (a0 : Array Value) (hw : ∀ d ∈ tables_1, d.before a0 Z = true) (ws : List Jvm.Cond) (cs_ : Int32) (u_4 : Addr) (u_1 : Addr) (u_0 : Addr) (a_NEXT : Addr) (u_2 : Addr) (u_3 : Addr) (aw0 : Addr) (HW : Wd Z cs_ u_4 u_1 u_0 a_NEXT u_2 u_3 aw0) (ad1 : Addr) (ad2 : Addr) (kc1 : ClassId) (iv1 : Int32) (iv2 : Int32) (iv3 : Int32) (iv4 : Int32) (h0 : Heap) (n0 : Nat) (Ol : Old Z n0 h0) (HV_ad2 : Arv Z h0 ad2 kc1 .byte (6 : Int32) [(.int iv1), (.int iv2), (.int iv3), (.int iv4), (.int (0 : Int32)), (.int (0 : Int32))] (.int (0 : Int32))) (HF_ad1_StoreLog_Entry_payload : Fld Z h0 ad1 "com/example/onward_schema/onwardschema/store/StoreLog$Entry" "payload" "[B" (.ref ad2)) :
    MetFree l y_9 (head1 (Jvm.Cond.code y_9 prog_57_method_3_code 1 (some .boolean) :: ws) (rm 0 0 0 0)) (fun a_ U_ => a_ = #[(.ref ad1)] ∧ Z.Warmed39 U_.vm ∧ U_.heap = h0) (fun _ _ _ _ _ => True) (fun _ U_ o_ V_ => ∃ v_ L_, o_ = .returned v_ ∧ Q_am9_7 Z cs_ u_4 u_1 u_0 a_NEXT u_2 u_3 aw0 ad1 ad2 kc1 iv1 iv2 iv3 iv4 h0 n0 v_ V_.heap L_ ∧ FrameEnd U_ o_ V_ L_ (rm 0 0 0 0).cells (rm 0 0 0 0).slots) := by
  refine MetFree.of_bodySF (plainFor_of_name pn_6) hisR ?_
  intro p e s m args below meth c s₁ Bd hml0 hP hK
  obtain ⟨rfl, hZ, hh⟩ := hP
  have hx := Bd.exec
  have hby := Bd.bytes
  have hml : c.maxLocals = 1 := hml0
  have hown : s.vm.findClass "com/example/onward_schema/onwardschema/store/StoreLog$Entry" = some m.cls := findClass_of_methodNamed Bd.named
  have hnm := (name_of_methodNamed Bd.named Bd.method).1
  have X0 : Stand p l e (rm 0 0 0 0) s m #[(.ref ad1)] below meth c s₁ [] 0 0 := Stand.of_body Bd
  have e0 : s₁.heap = h0 := by rw [← hh, Bd.state]; rfl
  have N0 := Fr.nil n0
  have kp0 := Keep.refl h0 []
  show Go p e below (Fin1 s below (Q_am9_7 Z cs_ u_4 u_1 u_0 a_NEXT u_2 u_3 aw0 ad1 ad2 kc1 iv1 iv2 iv3 iv4 h0 n0) (rm 0 0 0 0).cells (rm 0 0 0 0).slots) _
  refine Go.step (fun t_ k_ => castTop (ef_am9_1 m ad1) k_) ?_
  obtain ⟨S_cs, N_cs, Eu_4, Su_4, Eu_1, Su_1, Eu_0, Su_0, Ea_NEXT, Sa_NEXT, Eu_2, Su_2, Eu_3, Su_3, Eaw0, Saw0⟩ := id HW
  show Go p e below _ (s₁.setTop (mkF m 0 #[.val (.ref ad1)] []))
  refine gs.aloadN X0.here hx (hb hby d9_0) rfl rfl ?_
  refine gs.getF X0 hx hZ hown (wd hw 56 rfl) Via.refl e0 HF_ad1_StoreLog_Entry_payload (hb hby d9_1) fun T1 X1 e1 => ?_
  obtain ⟨cl2, Ar2, -, Sz2, Ng2, -, -⟩ := id HV_ad2
  refine Go.fin (fun t_ k_ => X1.arraylength hx (by rw [e1]; exact Ar2.1) (State.isArrayOf_alike hZ.alike Ar2.2.1) (g := mkF m 4 _ _) rfl rfl (hb hby d9_4) _ k_) ?_
  rw [len_of Sz2 Ng2]
  show Go p e below _ (T1.setTop (mkF m 5 _ [(.int (6 : Int32))]))
  have hc5 : ¬ ((6 : Int32) = (0 : Int32)) := by decide
  refine gs.ifYes 12 X1.here hx (hb hby d9_5) ((if0 _ _).trans (feq hc5).2) rfl ?_
  refine gs.iconst 0 X1.here hx (hb hby d9_12) rfl ?_
  refine Go.retZ X1 hx (t := .boolean) Bd.returns (by simp) Bd.notSynchronized (hb hby d9_13) (by rw [e1]; exact ⟨rfl, N0, rfl⟩) (by decide) (by decide)
def Q_am9_8 (Z : State) (cs_ : Int32) (u_4 : Addr) (u_1 : Addr) (u_0 : Addr) (a_NEXT : Addr) (u_2 : Addr) (u_3 : Addr) (aw0 : Addr) (ad1 : Addr) (ad2 : Addr) (kc1 : ClassId) (iv1 : Int32) (iv2 : Int32) (iv3 : Int32) (iv4 : Int32) (h0 : Heap) (n0 : Nat) (v : Option Value) (h : Heap) (L : List Loc) : Prop := v = some (.int (0 : Int32)) ∧ Fr n0 L ∧ h = h0
set_option maxRecDepth 65536 in
set_option maxHeartbeats 40000000 in
theorem am9_8 (l : Launch) (Z : State) (a0 : Array Value) (hw : ∀ d ∈ tables_1, d.before a0 Z = true) (ws : List Jvm.Cond) (cs_ : Int32) (u_4 : Addr) (u_1 : Addr) (u_0 : Addr) (a_NEXT : Addr) (u_2 : Addr) (u_3 : Addr) (aw0 : Addr) (HW : Wd Z cs_ u_4 u_1 u_0 a_NEXT u_2 u_3 aw0) (ad1 : Addr) (ad2 : Addr) (kc1 : ClassId) (iv1 : Int32) (iv2 : Int32) (iv3 : Int32) (iv4 : Int32) (h0 : Heap) (n0 : Nat) (Ol : Old Z n0 h0) (HV_ad2 : Arv Z h0 ad2 kc1 .byte (7 : Int32) [(.int iv1), (.int iv2), (.int iv3), (.int iv4), (.int (0 : Int32)), (.int (0 : Int32)), (.int (0 : Int32))] (.int (0 : Int32))) (HF_ad1_StoreLog_Entry_payload : Fld Z h0 ad1 "com/example/onward_schema/onwardschema/store/StoreLog$Entry" "payload" "[B" (.ref ad2)) :
    MetFree l y_9 (head1 (Jvm.Cond.code y_9 prog_57_method_3_code 1 (some .boolean) :: ws) (rm 0 0 0 0)) (fun a_ U_ => a_ = #[(.ref ad1)] ∧ Z.Warmed39 U_.vm ∧ U_.heap = h0) (fun _ _ _ _ _ => True) (fun _ U_ o_ V_ => ∃ v_ L_, o_ = .returned v_ ∧ Q_am9_8 Z cs_ u_4 u_1 u_0 a_NEXT u_2 u_3 aw0 ad1 ad2 kc1 iv1 iv2 iv3 iv4 h0 n0 v_ V_.heap L_ ∧ FrameEnd U_ o_ V_ L_ (rm 0 0 0 0).cells (rm 0 0 0 0).slots) := by
  refine MetFree.of_bodySF (plainFor_of_name pn_6) hisR ?_
  intro p e s m args below meth c s₁ Bd hml0 hP hK
  obtain ⟨rfl, hZ, hh⟩ := hP
  have hx := Bd.exec
  have hby := Bd.bytes
  have hml : c.maxLocals = 1 := hml0
  have hown : s.vm.findClass "com/example/onward_schema/onwardschema/store/StoreLog$Entry" = some m.cls := findClass_of_methodNamed Bd.named
  have hnm := (name_of_methodNamed Bd.named Bd.method).1
  have X0 : Stand p l e (rm 0 0 0 0) s m #[(.ref ad1)] below meth c s₁ [] 0 0 := Stand.of_body Bd
  have e0 : s₁.heap = h0 := by rw [← hh, Bd.state]; rfl
  have N0 := Fr.nil n0
  have kp0 := Keep.refl h0 []
  show Go p e below (Fin1 s below (Q_am9_8 Z cs_ u_4 u_1 u_0 a_NEXT u_2 u_3 aw0 ad1 ad2 kc1 iv1 iv2 iv3 iv4 h0 n0) (rm 0 0 0 0).cells (rm 0 0 0 0).slots) _
  refine Go.step (fun t_ k_ => castTop (ef_am9_1 m ad1) k_) ?_
  obtain ⟨S_cs, N_cs, Eu_4, Su_4, Eu_1, Su_1, Eu_0, Su_0, Ea_NEXT, Sa_NEXT, Eu_2, Su_2, Eu_3, Su_3, Eaw0, Saw0⟩ := id HW
  show Go p e below _ (s₁.setTop (mkF m 0 #[.val (.ref ad1)] []))
  refine gs.aloadN X0.here hx (hb hby d9_0) rfl rfl ?_
  refine gs.getF X0 hx hZ hown (wd hw 56 rfl) Via.refl e0 HF_ad1_StoreLog_Entry_payload (hb hby d9_1) fun T1 X1 e1 => ?_
  obtain ⟨cl2, Ar2, -, Sz2, Ng2, -, -⟩ := id HV_ad2
  refine Go.fin (fun t_ k_ => X1.arraylength hx (by rw [e1]; exact Ar2.1) (State.isArrayOf_alike hZ.alike Ar2.2.1) (g := mkF m 4 _ _) rfl rfl (hb hby d9_4) _ k_) ?_
  rw [len_of Sz2 Ng2]
  show Go p e below _ (T1.setTop (mkF m 5 _ [(.int (7 : Int32))]))
  have hc5 : ¬ ((7 : Int32) = (0 : Int32)) := by decide
  refine gs.ifYes 12 X1.here hx (hb hby d9_5) ((if0 _ _).trans (feq hc5).2) rfl ?_
  refine gs.iconst 0 X1.here hx (hb hby d9_12) rfl ?_
  refine Go.retZ X1 hx (t := .boolean) Bd.returns (by simp) Bd.notSynchronized (hb hby d9_13) (by rw [e1]; exact ⟨rfl, N0, rfl⟩) (by decide) (by decide)
theorem ef_rm0 (m : MethodId) (x0 : Int32) (x1 : Int32) (x2 : Int32) (x3 : Int32)  : entryFrame m #[(.int x0), (.int x1), (.int x2), (.int x3)] maxLocals = mkF m 0 #[.val (.int x0), .val (.int x1), .val (.int x2), .val (.int x3), .unset, .unset, .unset, .unset, .unset, .unset, .unset] [] := by first | (simp [entryFrame, mkF, argsToLocals, Value.category, maxLocals]; done) | rfl
def Q_rm0 (Z : State) (cs_ : Int32) (u_4 : Addr) (u_1 : Addr) (u_0 : Addr) (a_NEXT : Addr) (u_2 : Addr) (u_3 : Addr) (aw0 : Addr) (p1 p2 p3 p4 : Int32) (h0 : Heap) (n0 : Nat) (v : Option Value) (h : Heap) (L : List Loc) : Prop := v = some (.int 1) ∧ Fr n0 L
set_option maxRecDepth 65536 in
set_option maxHeartbeats 40000000 in
theorem rm0 (l : Launch) (Z : State) (a0 : Array Value) (hw : ∀ d ∈ tables_1, d.before a0 Z = true) (ws : List Jvm.Cond) (cs_ : Int32) (u_4 : Addr) (u_1 : Addr) (u_0 : Addr) (a_NEXT : Addr) (u_2 : Addr) (u_3 : Addr) (aw0 : Addr) (HW : Wd Z cs_ u_4 u_1 u_0 a_NEXT u_2 u_3 aw0) (p1 p2 p3 p4 : Int32) (h0 : Heap) (n0 : Nat) (Ol : Old Z n0 h0)  :
    MetFree l x (head1 (Jvm.Cond.code x code maxLocals ret :: ws) room_1) (fun a_ U_ => a_ = #[(.int p1), (.int p2), (.int p3), (.int p4)] ∧ Z.Warmed39 U_.vm ∧ U_.heap = h0 ∧ CHv Z EL_ U_.vm h0) (fun _ _ _ _ _ => True) (fun _ U_ o_ V_ => ∃ v_ L_, o_ = .returned v_ ∧ Q_rm0 Z cs_ u_4 u_1 u_0 a_NEXT u_2 u_3 aw0 p1 p2 p3 p4 h0 n0 v_ V_.heap L_ ∧ ReturnedEndW U_ o_ V_ L_ room_1.cells room_1.slots) := by
  refine MetFree.of_bodySF (plainFor_of_name pn_1) hisR ?_
  intro p e s m args below meth c s₁ Bd hml0 hP hK
  obtain ⟨rfl, hZ, hh, Hc0⟩ := hP
  have hx := Bd.exec
  have hby := Bd.bytes
  have hml : c.maxLocals = 11 := hml0
  have hown : s.vm.findClass "com/example/onward_schema/onwardschema/store/EntryRemovesPinLaw" = some m.cls := findClass_of_methodNamed Bd.named
  have hnm := (name_of_methodNamed Bd.named Bd.method).1
  have X0 : Stand p l e room_1 s m #[(.int p1), (.int p2), (.int p3), (.int p4)] below meth c s₁ [] 0 0 := Stand.of_body Bd
  have e0 : s₁.heap = h0 := by rw [← hh, Bd.state]; rfl
  have N0 := Fr.nil n0
  have kp0 := Keep.refl h0 []
  show Go p e below (Fin2 s below (Q_rm0 Z cs_ u_4 u_1 u_0 a_NEXT u_2 u_3 aw0 p1 p2 p3 p4 h0 n0) room_1.cells room_1.slots) _
  have S0 : s.Since s.vm 0 := (State.WarmedH.refl s).since 0
  have hk0 : 0 ≤ h0.size := Nat.zero_le _
  refine Go.step (fun t_ k_ => castTop (ef_rm0 m p1 p2 p3 p4) k_) ?_
  obtain ⟨S_cs, N_cs, Eu_4, Su_4, Eu_1, Su_1, Eu_0, Su_0, Ea_NEXT, Sa_NEXT, Eu_2, Su_2, Eu_3, Su_3, Eaw0, Saw0⟩ := id HW
  show Go p e below _ (s₁.setTop (mkF m 0 #[.val (.int p1), .val (.int p2), .val (.int p3), .val (.int p4), .unset, .unset, .unset, .unset, .unset, .unset, .unset] []))
  refine gs.iloadN X0.here hx (hb hby at_0) rfl ?_
  refine Go.fin (fun t_ k_ => X0.ldcInt hx hown (mvT hZ (wd hw 0 rfl)) (g := mkF m 1 _ _) rfl (hb hby at_1) _ k_) ?_
  show Go p e below _ (s₁.setTop (mkF m 3 _ [(.int (2147483647 : Int32)), (.int p1)]))
  refine gs.iand X0.here hx (hb hby at_3) ?_
  refine gs.bipush 7 X0.here hx (hb hby at_4) rfl ?_
  refine Go.fin (fun t_ k_ => iremM X0 hx rfl (hb hby at_6) rfl (by decide) k_) ?_
  show Go p e below _ (s₁.setTop (mkF m 7 _ [(.int ((p1 &&& (2147483647 : Int32)) % (7 : Int32)))]))
  obtain ⟨mp, hmp⟩ : ∃ z, (if ((p1 &&& (2147483647 : Int32)) % (7 : Int32)) = (0 : Int32) then u_4 else if ((p1 &&& (2147483647 : Int32)) % (7 : Int32)) = (1 : Int32) then a_NEXT else if ((p1 &&& (2147483647 : Int32)) % (7 : Int32)) = (2 : Int32) then u_0 else if ((p1 &&& (2147483647 : Int32)) % (7 : Int32)) = (3 : Int32) then u_2 else if ((p1 &&& (2147483647 : Int32)) % (7 : Int32)) = (4 : Int32) then u_3 else if ((p1 &&& (2147483647 : Int32)) % (7 : Int32)) = (5 : Int32) then u_1 else aw0) = z := ⟨_, rfl⟩
  refine gs.stat 0 X0 hx hZ hown (rm1 l Z a0 hw [] cs_ u_4 u_1 u_0 a_NEXT u_2 u_3 aw0 HW ((p1 &&& (2147483647 : Int32)) % (7 : Int32)) mp h0 n0 Ol hmp) (wd hw 4 rfl) (wd hw 3 rfl) (wd hw 1 rfl) (wd hw 2 rfl) (by decide) (by decide) (by decide) (by rw [hml]; rfl) [(.int ((p1 &&& (2147483647 : Int32)) % (7 : Int32)))] (lenOf pd_9 rfl) rfl (Nat.le_of_eq rfl) (hb hby at_7) rfl e0 (by decide) (by decide) fun T1 Lc1 v1 X1 hQ1 => ?_
  obtain ⟨rfl, Nq1, e1⟩ := hQ1
  have N1 := Fr.app N0 Nq1
  show Go p e below _ (T1.setTop (mkF m 10 _ [(.ref mp)]))
  refine gs.astore X1.here hx (hb hby at_10) rfl (l' := #[.val (.int p1), .val (.int p2), .val (.int p3), .val (.int p4), .val (.ref mp), .unset, .unset, .unset, .unset, .unset, .unset]) rfl ?_
  refine gs.iloadN X1.here hx (hb hby at_12) rfl ?_
  refine gs.bipush 7 X1.here hx (hb hby at_13) rfl ?_
  refine gs.iand X1.here hx (hb hby at_15) ?_
  refine gs.istore X1.here hx (hb hby at_16) (l' := #[.val (.int p1), .val (.int p2), .val (.int p3), .val (.int p4), .val (.ref mp), .val (.int (p2 &&& (7 : Int32))), .unset, .unset, .unset, .unset, .unset]) rfl ?_
  generalize hk_nn : (p2 &&& (7 : Int32)) = nn
  show Go p e below _ (T1.setTop (mkF m 18 #[.val (.int p1), .val (.int p2), .val (.int p3), .val (.int p4), .val (.ref mp), .val (.int nn), .unset, .unset, .unset, .unset, .unset] []))
  have hb_nn : 0 ≤ nn.toInt ∧ nn.toInt < 8 := by rw [← hk_nn]; exact and7_bd p2
  rcases cs8 hb_nn with rfl | rfl | rfl | rfl | rfl | rfl | rfl | rfl
  next =>
    show Go p e below _ (T1.setTop (mkF m 18 #[.val (.int p1), .val (.int p2), .val (.int p3), .val (.int p4), .val (.ref mp), .val (.int (0 : Int32)), .unset, .unset, .unset, .unset, .unset] []))
    refine gs.iload X1.here hx (hb hby at_18) rfl ?_
    obtain ⟨T2, h2, k2, X2, e2, E2, A2, st2⟩ := newP X1 hx hZ (wd hw 8 rfl) e1 (g := (mkF m 20 #[.val (.int p1), .val (.int p2), .val (.int p3), .val (.int p4), .val (.ref mp), .val (.int (0 : Int32)), .unset, .unset, .unset, .unset, .unset] [(.int (0 : Int32))])) rfl (hb hby at_20) rfl (by decide) (cap := 0) (by decide) (by decide) (by decide) (by decide)
    obtain ⟨b2, g2⟩ : ∃ z, z = h0.size := ⟨_, rfl⟩
    rw [← g2] at A2 st2
    have nn_b2 : n0 ≤ b2 := Nat.le_trans (old_z0 Ol) (Nat.le_of_eq g2.symm)
    have sz_b2 : h0.size ≤ b2 := Nat.le_trans kp0.1 (Nat.le_of_eq g2.symm)
    have old2 := Ol.ext E2
    have kp2 := kp0.ext E2
    have hk2 := Nat.le_trans hk0 E2.1
    have V2 : Arv Z h2 b2 k2 .byte (0 : Int32) [] (.int (0 : Int32)) := (Arv.new A2 (by decide)).pad (pad_rep [] (.int (0 : Int32)) 0)
    refine Go.fin st2 ?_
    show Go p e below _ (T2.setTop (mkF m 22 _ [(.ref b2)]))
    refine gs.astore X2.here hx (hb hby at_22) rfl (l' := #[.val (.int p1), .val (.int p2), .val (.int p3), .val (.int p4), .val (.ref mp), .val (.int (0 : Int32)), .val (.ref b2), .unset, .unset, .unset, .unset]) rfl ?_
    refine gs.iload X2.here hx (hb hby at_24) rfl ?_
    have hc26 : ¬ ((0 : Int32) < (0 : Int32)) := by decide
    refine gs.ifYes 35 X2.here hx (hb hby at_26) ((if0 _ _).trans (flt hc26).2.2.2) rfl ?_
    refine gs.iload X2.here hx (hb hby at_35) rfl ?_
    refine gs.iconst 1 X2.here hx (hb hby at_37) rfl ?_
    have hc38 : ¬ ((1 : Int32) < (0 : Int32)) := by decide
    refine gs.icmpYes 50 X2.here hx (hb hby at_38) (flt hc38).2.2.2 rfl ?_
    refine gs.iload X2.here hx (hb hby at_50) rfl ?_
    refine gs.iconst 2 X2.here hx (hb hby at_52) rfl ?_
    have hc53 : ¬ ((2 : Int32) < (0 : Int32)) := by decide
    refine gs.icmpYes 65 X2.here hx (hb hby at_53) (flt hc53).2.2.2 rfl ?_
    refine gs.iload X2.here hx (hb hby at_65) rfl ?_
    refine gs.iconst 3 X2.here hx (hb hby at_67) rfl ?_
    have hc68 : ¬ ((3 : Int32) < (0 : Int32)) := by decide
    refine gs.icmpYes 80 X2.here hx (hb hby at_68) (flt hc68).2.2.2 rfl ?_
    refine gs.iloadN X2.here hx (hb hby at_80) rfl ?_
    obtain ⟨_, _, ⟨T3, L3, k3, n3⟩, -, X3, S3, gr3, ⟨Lc3, hQ3, l3, y3, z3, C3⟩, st3⟩ := callSS X2 hx (y := y_2) hown (mvT hZ (wd hw 9 rfl)) (mvT hZ (wd hw 10 rfl)) (mvT hZ (wd hw 3 rfl)) (mvT hZ (wd hw 11 rfl)) (by decide) (backOfSH (s := s) (vm0 := s.vm) (W := 0) (rm2 l Z a0 hw [] cs_ u_4 u_1 u_0 a_NEXT u_2 u_3 aw0 HW p4 h2 n0 old2 ) hZ (wd hw 11 rfl) (wd hw 3 rfl) (by decide) (by decide) (hEL_ hw) (CHr.keep kp2 sf0 Hc0).1) (g := (mkF m 81 #[.val (.int p1), .val (.int p2), .val (.int p3), .val (.int p4), .val (.ref mp), .val (.int (0 : Int32)), .val (.ref b2), .unset, .unset, .unset, .unset] [(.int p4)])) rfl (by rw [hml]; rfl) (argsL := [(.int p4)]) (rest := []) (lenOf pd_10 rfl) rfl (by show 2 * 0 + _ ≤ _; exact Nat.le_of_eq rfl) (hb hby at_81) (fun _ _ => ⟨rfl, e2, (by decide : 1 + 6 ≤ _), (by decide : 0 + 12 ≤ _)⟩)
    dsimp only [Pt.U, Pt.locs, Pt.cells, Pt.slots] at X3 l3 y3 z3 st3 hQ3 S3 gr3 C3
    subst l3 y3 z3
    have chb3 := (CHr.keep kp2 sf0 Hc0).trans C3
    obtain ⟨X3, S3, hZ3, hown3⟩ := rebS (vm0 := s.vm) S0 (by rw [e2]; exact hk2) X3 S3 gr3 hZ hown
    obtain ⟨b3, rfl, gb_b3, Nq3, K3, p3_0⟩ := hQ3
    have nn_b3 : n0 ≤ b3 := Nat.le_trans (old_z0 old2) gb_b3
    have sz_b3 : h0.size ≤ b3 := Nat.le_trans kp2.1 gb_b3
    have old3 := old2.keep K3 all0
    have kp3 := kp2.trans K3 all0
    have N3 := Fr.app N1 Nq3
    refine Go.step (fun t_ k_ => st3.trans k_) ?_
    show Go p e below _ (T3.setTop (mkF m 84 #[.val (.int p1), .val (.int p2), .val (.int p3), .val (.int p4), .val (.ref mp), .val (.int (0 : Int32)), .val (.ref b2), .unset, .unset, .unset, .unset] [(.ref b3)]))
    refine gs.astore X3.here hx (hb hby at_84) rfl (l' := #[.val (.int p1), .val (.int p2), .val (.int p3), .val (.int p4), .val (.ref mp), .val (.int (0 : Int32)), .val (.ref b2), .val (.ref b3), .unset, .unset, .unset]) rfl ?_
    obtain ⟨T4, h4, X4, e4, E4, A4, D4, Y4, st4⟩ := newO X3 hx hZ3 hown3 (wd hw 33 rfl) (wd hw 34 rfl) (wd hw 35 rfl) rfl (g := (mkF m 86 #[.val (.int p1), .val (.int p2), .val (.int p3), .val (.int p4), .val (.ref mp), .val (.int (0 : Int32)), .val (.ref b2), .val (.ref b3), .unset, .unset, .unset] [])) rfl (hb hby at_86) (by decide) (by decide)
    obtain ⟨b4, g4⟩ : ∃ z, z = T3.heap.size := ⟨_, rfl⟩
    rw [← g4] at A4 D4 Y4 st4
    have nn_b4 : n0 ≤ b4 := Nat.le_trans (old_z0 old3) (Nat.le_of_eq g4.symm)
    have sz_b4 : h0.size ≤ b4 := Nat.le_trans kp3.1 (Nat.le_of_eq g4.symm)
    have old4 := old3.ext E4
    have kp4 := kp3.ext E4
    have hk4 := Nat.le_trans (Nat.le_refl _) E4.1
    have F4_map : Fld Z h4 b4 "com/example/onward_schema/onwardschema/store/StoreLog$Entry" "map" "Lcom/example/onward_schema/onwardschema/store/StoreMap;" .null := D4 (Or.inr (wd hw 53 rfl)) (ty := (.object "com/example/onward_schema/onwardschema/store/StoreMap")) (by decide)
    have F4_key : Fld Z h4 b4 "com/example/onward_schema/onwardschema/store/StoreLog$Entry" "key" "Ljava/lang/String;" .null := D4 (Or.inr (wd hw 55 rfl)) (ty := (.object "java/lang/String")) (by decide)
    have F4_payload : Fld Z h4 b4 "com/example/onward_schema/onwardschema/store/StoreLog$Entry" "payload" "[B" .null := D4 (Or.inr (wd hw 57 rfl)) (ty := (.array .byte)) (by decide)
    refine Go.fin st4 ?_
    show Go p e below _ (T4.setTop (mkF m 89 _ [(.ref b4)]))
    refine gs.dup X4.here hx (hb hby at_89) rfl ?_
    refine gs.aload X4.here hx (hb hby at_90) rfl rfl ?_
    refine gs.aload X4.here hx (hb hby at_92) rfl rfl ?_
    refine gs.aload X4.here hx (hb hby at_94) rfl rfl ?_
    obtain ⟨_, _, ⟨T5, L5, k5, n5⟩, -, X5, S5, gr5, ⟨Lc5, hQ5, l5, y5, z5⟩, st5⟩ := X4.specialBackS hx (y := y_6) rfl hown3 (mvT hZ3 (wd hw 36 rfl)) (mvT hZ3 (wd hw 37 rfl)) (mvT hZ3 (wd hw 38 rfl)) (by decide) (backOfS (W := 1) (am6_1 l Z a0 hw [] cs_ u_4 u_1 u_0 a_NEXT u_2 u_3 aw0 HW (b4) (mp) (b3) (b2) h4 n0 old4 A4 F4_map F4_key F4_payload nn_b4) hZ3 (wd hw 38 rfl) (wd hw 35 rfl) (by decide) (by decide)) (g := (mkF m 96 #[.val (.int p1), .val (.int p2), .val (.int p3), .val (.int p4), .val (.ref mp), .val (.int (0 : Int32)), .val (.ref b2), .val (.ref b3), .unset, .unset, .unset] [(.ref b2), (.ref b3), (.ref mp), (.ref b4), (.ref b4)])) rfl (by rw [hml]; rfl) (Steps.refl _) (a := b4) (argsL := [(.ref mp), (.ref b3), (.ref b2)]) (rest := [(.ref b4)]) (lenOf pd_13 rfl) rfl (by show 2 * 0 + _ ≤ _; exact Nat.le_of_eq rfl) (hb hby at_96) (fun _ _ => ⟨rfl, e4, (by decide : 8 + 6 ≤ _), (by decide : 15 + 64 ≤ _)⟩)
    dsimp only [Pt.U, Pt.locs, Pt.cells, Pt.slots] at X5 l5 y5 z5 st5 hQ5 S5 gr5
    subst l5 y5 z5
    obtain ⟨X5, S5, hZ5, hown5⟩ := rebS (vm0 := T3.vm) S3 (by rw [e4]; exact hk4) X5 S5 gr5 hZ3 hown3
    obtain ⟨rfl, Nq5, K5, p5_0, p5_1, p5_2, p5_3⟩ := hQ5
    have old5 := old4.keep K5 (allS nn_b4 all0)
    have kp5 := kp4.trans K5 (allS (Or.inr sz_b4) all0)
    have N5 := Fr.app N3 Nq5
    refine Go.step (fun t_ k_ => st5.trans k_) ?_
    show Go p e below _ (T5.setTop (mkF m 99 #[.val (.int p1), .val (.int p2), .val (.int p3), .val (.int p4), .val (.ref mp), .val (.int (0 : Int32)), .val (.ref b2), .val (.ref b3), .unset, .unset, .unset] [(.ref b4)]))
    refine gs.astore X5.here hx (hb hby at_99) rfl (l' := #[.val (.int p1), .val (.int p2), .val (.int p3), .val (.int p4), .val (.ref mp), .val (.int (0 : Int32)), .val (.ref b2), .val (.ref b3), .val (.ref b4), .unset, .unset]) rfl ?_
    refine gs.aload X5.here hx (hb hby at_101) rfl rfl ?_
    have ne_b2_b4 : b2 ≠ b4 := Nat.ne_of_lt (Nat.lt_of_lt_of_le (V2.keep K3 nin0).lt (Nat.le_of_eq g4.symm))
    have f6 := (((V2.keep K3 nin0).ext E4).keep K5 (ninS ne_b2_b4 nin0))
    refine gs.virt 0 X5 hx hZ5 hown5 (am9_1 l Z a0 hw [] cs_ u_4 u_1 u_0 a_NEXT u_2 u_3 aw0 HW (b4) (b2) (k2) T5.heap n0 old5 f6 p5_3) (wd hw 62 rfl) (wd hw 35 rfl) (wd hw 58 rfl) (wd hw 59 rfl) (notFace_of_selects (args := #[]) (mvT hZ5 (wd hw 61 rfl))) (wd hw 61 rfl) (wd hw 60 rfl) (by decide) p5_0 (by decide) (by decide) (by rw [hml]; rfl) [] (lenOf pd_14 rfl) rfl (Nat.le_of_eq rfl) (hb hby at_103) rfl rfl (by decide) (by decide) fun T7 Lc7 v7 X7 hQ7 => ?_
    obtain ⟨rfl, Nq7, e7⟩ := hQ7
    have N7 := Fr.app N5 Nq7
    show Go p e below _ (T7.setTop (mkF m 106 _ [(.int (1 : Int32))]))
    refine gs.iload X7.here hx (hb hby at_106) rfl ?_
    have hc108 : (0 : Int32) = (0 : Int32) := by decide
    refine gs.ifNo X7.here hx (hb hby at_108) ((if0 _ _).trans (teq hc108).2) ?_
    refine gs.iconst 1 X7.here hx (hb hby at_111) rfl ?_
    refine gs.goto 116 X7.here hx (hb hby at_112) rfl ?_
    have hc116 : (1 : Int32) = (1 : Int32) := by decide
    refine gs.icmpNo X7.here hx (hb hby at_116) (teq hc116).2 ?_
    refine gs.iconst 1 X7.here hx (hb hby at_119) rfl ?_
    refine gs.goto 124 X7.here hx (hb hby at_120) rfl ?_
    refine gs.istore X7.here hx (hb hby at_124) (l' := #[.val (.int p1), .val (.int p2), .val (.int p3), .val (.int p4), .val (.ref mp), .val (.int (0 : Int32)), .val (.ref b2), .val (.ref b3), .val (.ref b4), .val (.int (1 : Int32)), .unset]) rfl ?_
    refine gs.aload X7.here hx (hb hby at_126) rfl rfl ?_
    refine gs.aload X7.here hx (hb hby at_128) rfl rfl ?_
    obtain ⟨_, _, ⟨T8, L8, k8, n8⟩, -, X8, S8, gr8, ⟨Lc8, hQ8, l8, y8, z8⟩, st8⟩ := callSS X7 hx (y := y_10) hown5 (mvT hZ5 (wd hw 63 rfl)) (mvT hZ5 (wd hw 64 rfl)) (mvT hZ5 (wd hw 35 rfl)) (mvT hZ5 (wd hw 65 rfl)) (by decide) (backOfS (W := 0) (am10_1 l Z a0 hw [] cs_ u_4 u_1 u_0 a_NEXT u_2 u_3 aw0 HW (mp) (b3) T5.heap n0 old5 ) hZ5 (wd hw 65 rfl) (wd hw 35 rfl) (by decide) (by decide)) (g := (mkF m 130 #[.val (.int p1), .val (.int p2), .val (.int p3), .val (.int p4), .val (.ref mp), .val (.int (0 : Int32)), .val (.ref b2), .val (.ref b3), .val (.ref b4), .val (.int (1 : Int32)), .unset] [(.ref b3), (.ref mp)])) rfl (by rw [hml]; rfl) (argsL := [(.ref mp), (.ref b3)]) (rest := []) (lenOf pd_15 rfl) rfl (by show 2 * 0 + _ ≤ _; exact Nat.le_of_eq rfl) (hb hby at_130) (fun _ _ => ⟨rfl, e7, (by decide : 14 + 8 ≤ _), (by decide : 79 + 67 ≤ _)⟩)
    dsimp only [Pt.U, Pt.locs, Pt.cells, Pt.slots] at X8 l8 y8 z8 st8 hQ8 S8 gr8
    subst l8 y8 z8
    obtain ⟨X8, S8, hZ8, hown8⟩ := rebS (vm0 := T5.vm) S5 (by rw [e7]; exact (Nat.le_refl _)) X8 S8 gr8 hZ5 hown5
    obtain ⟨b8_0, b8_1, kx8_0, rfl, gb_b8_0, gb_b8_1, ne_b8_0_b8_1, Nq8, K8, p8_0, p8_1, p8_2, p8_3, p8_4⟩ := hQ8
    have nn_b8_0 : n0 ≤ b8_0 := Nat.le_trans (old_z0 old5) gb_b8_0
    have sz_b8_0 : h0.size ≤ b8_0 := Nat.le_trans kp5.1 gb_b8_0
    have nn_b8_1 : n0 ≤ b8_1 := Nat.le_trans (old_z0 old5) gb_b8_1
    have sz_b8_1 : h0.size ≤ b8_1 := Nat.le_trans kp5.1 gb_b8_1
    have old8 := old5.keep K8 all0
    have kp8 := kp5.trans K8 all0
    have N8 := Fr.app N7 Nq8
    refine Go.step (fun t_ k_ => st8.trans k_) ?_
    show Go p e below _ (T8.setTop (mkF m 133 #[.val (.int p1), .val (.int p2), .val (.int p3), .val (.int p4), .val (.ref mp), .val (.int (0 : Int32)), .val (.ref b2), .val (.ref b3), .val (.ref b4), .val (.int (1 : Int32)), .unset] [(.ref b8_0)]))
    refine gs.virt 0 X8 hx hZ8 hown8 (am9_1 l Z a0 hw [] cs_ u_4 u_1 u_0 a_NEXT u_2 u_3 aw0 HW (b8_0) (b8_1) (kx8_0) T8.heap n0 old8 p8_4 p8_3) (wd hw 62 rfl) (wd hw 35 rfl) (wd hw 58 rfl) (wd hw 59 rfl) (notFace_of_selects (args := #[]) (mvT hZ8 (wd hw 61 rfl))) (wd hw 61 rfl) (wd hw 60 rfl) (by decide) p8_0 (by decide) (by decide) (by rw [hml]; rfl) [] (lenOf pd_14 rfl) rfl (Nat.le_of_eq rfl) (hb hby at_133) rfl rfl (by decide) (by decide) fun T9 Lc9 v9 X9 hQ9 => ?_
    obtain ⟨rfl, Nq9, e9⟩ := hQ9
    have N9 := Fr.app N8 Nq9
    show Go p e below _ (T9.setTop (mkF m 136 _ [(.int (1 : Int32))]))
    refine gs.istore X9.here hx (hb hby at_136) (l' := #[.val (.int p1), .val (.int p2), .val (.int p3), .val (.int p4), .val (.ref mp), .val (.int (0 : Int32)), .val (.ref b2), .val (.ref b3), .val (.ref b4), .val (.int (1 : Int32)), .val (.int (1 : Int32))]) rfl ?_
    refine gs.iload X9.here hx (hb hby at_138) rfl ?_
    have hc140 : ¬ ((1 : Int32) = (0 : Int32)) := by decide
    refine gs.ifNo X9.here hx (hb hby at_140) ((if0 _ _).trans (feq hc140).1) ?_
    refine gs.iload X9.here hx (hb hby at_143) rfl ?_
    have hc145 : ¬ ((1 : Int32) = (0 : Int32)) := by decide
    refine gs.ifNo X9.here hx (hb hby at_145) ((if0 _ _).trans (feq hc145).1) ?_
    refine gs.iconst 1 X9.here hx (hb hby at_148) rfl ?_
    refine gs.goto 153 X9.here hx (hb hby at_149) rfl ?_
    refine GoW.retZ X9 S8 (by rw [e9]; exact (Nat.le_refl _)) hx (t := .boolean) Bd.returns (by simp) Bd.notSynchronized (hb hby at_153) (by rw [e9]; exact ⟨rfl, N9⟩) (by decide) (by decide)
  next =>
    show Go p e below _ (T1.setTop (mkF m 18 #[.val (.int p1), .val (.int p2), .val (.int p3), .val (.int p4), .val (.ref mp), .val (.int (1 : Int32)), .unset, .unset, .unset, .unset, .unset] []))
    refine gs.iload X1.here hx (hb hby at_18) rfl ?_
    obtain ⟨T10, h10, k10, X10, e10, E10, A10, st10⟩ := newP X1 hx hZ (wd hw 8 rfl) e1 (g := (mkF m 20 #[.val (.int p1), .val (.int p2), .val (.int p3), .val (.int p4), .val (.ref mp), .val (.int (1 : Int32)), .unset, .unset, .unset, .unset, .unset] [(.int (1 : Int32))])) rfl (hb hby at_20) rfl (by decide) (cap := 1) (by decide) (by decide) (by decide) (by decide)
    obtain ⟨b10, g10⟩ : ∃ z, z = h0.size := ⟨_, rfl⟩
    rw [← g10] at A10 st10
    have nn_b10 : n0 ≤ b10 := Nat.le_trans (old_z0 Ol) (Nat.le_of_eq g10.symm)
    have sz_b10 : h0.size ≤ b10 := Nat.le_trans kp0.1 (Nat.le_of_eq g10.symm)
    have old10 := Ol.ext E10
    have kp10 := kp0.ext E10
    have hk10 := Nat.le_trans hk0 E10.1
    have V10 : Arv Z h10 b10 k10 .byte (1 : Int32) [(.int (0 : Int32))] (.int (0 : Int32)) := (Arv.new A10 (by decide)).pad (pad_rep [] (.int (0 : Int32)) 1)
    refine Go.fin st10 ?_
    show Go p e below _ (T10.setTop (mkF m 22 _ [(.ref b10)]))
    refine gs.astore X10.here hx (hb hby at_22) rfl (l' := #[.val (.int p1), .val (.int p2), .val (.int p3), .val (.int p4), .val (.ref mp), .val (.int (1 : Int32)), .val (.ref b10), .unset, .unset, .unset, .unset]) rfl ?_
    refine gs.iload X10.here hx (hb hby at_24) rfl ?_
    have hc26 : (0 : Int32) < (1 : Int32) := by decide
    refine gs.ifNo X10.here hx (hb hby at_26) ((if0 _ _).trans (tlt hc26).2.2.2) ?_
    refine gs.aload X10.here hx (hb hby at_29) rfl rfl ?_
    refine gs.iconst 0 X10.here hx (hb hby at_31) rfl ?_
    refine gs.iloadN X10.here hx (hb hby at_32) rfl ?_
    refine Go.fin (fun t_ k_ => XS.i2b X10.here hx rfl (hb hby at_33) rfl k_) ?_
    show Go p e below _ (T10.setTop (mkF m 34 _ [(.int (p3.toInt8.toInt32)), (.int (0 : Int32)), (.ref b10)]))
    obtain ⟨cl11, Ar11, q11, Sz11, Ng11, Hs11, G11⟩ := id V10
    have hin11 : ¬ ((0 : Int32) < 0 ∨ cl11.slots.size ≤ ((0 : Int32)).toNatClampNeg) := inb_of Sz11 ⟨by decide, by decide⟩
    obtain ⟨T12, h12, X12, e12, W12, st12⟩ := stB X10 hx hZ e10 Ar11 (j := (0 : Int32)) hin11 (g := (mkF m 34 #[.val (.int p1), .val (.int p2), .val (.int p3), .val (.int p4), .val (.ref mp), .val (.int (1 : Int32)), .val (.ref b10), .unset, .unset, .unset, .unset] [(.int (p3.toInt8.toInt32)), (.int (0 : Int32)), (.ref b10)])) rfl rfl (hb hby at_34)
    have N12 := Fr.snoc X12 N1 nn_b10
    have old12 := old10.wr W12 nn_b10
    have kp12 := kp10.wr W12 (Or.inr sz_b10)
    have hk12 := Nat.le_trans hk10 (Keep.of_wr W12).1
    have V12 : Arv Z h12 b10 k10 .byte (1 : Int32) [(.int ((p3.toInt8.toInt32).toInt8.toInt32))] (.int (0 : Int32)) := Arv.set Ar11 q11 Sz11 Ng11 Hs11 G11 (fits_nar_byte _) W12 0 rfl (Nat.le_of_ble_eq_true rfl)
    refine Go.fin st12 ?_
    show Go p e below _ (T12.setTop (mkF m 35 _ []))
    refine gs.iload X12.here hx (hb hby at_35) rfl ?_
    refine gs.iconst 1 X12.here hx (hb hby at_37) rfl ?_
    have hc38 : ¬ ((1 : Int32) < (1 : Int32)) := by decide
    refine gs.icmpYes 50 X12.here hx (hb hby at_38) (flt hc38).2.2.2 rfl ?_
    refine gs.iload X12.here hx (hb hby at_50) rfl ?_
    refine gs.iconst 2 X12.here hx (hb hby at_52) rfl ?_
    have hc53 : ¬ ((2 : Int32) < (1 : Int32)) := by decide
    refine gs.icmpYes 65 X12.here hx (hb hby at_53) (flt hc53).2.2.2 rfl ?_
    refine gs.iload X12.here hx (hb hby at_65) rfl ?_
    refine gs.iconst 3 X12.here hx (hb hby at_67) rfl ?_
    have hc68 : ¬ ((3 : Int32) < (1 : Int32)) := by decide
    refine gs.icmpYes 80 X12.here hx (hb hby at_68) (flt hc68).2.2.2 rfl ?_
    refine gs.iloadN X12.here hx (hb hby at_80) rfl ?_
    obtain ⟨_, _, ⟨T13, L13, k13, n13⟩, -, X13, S13, gr13, ⟨Lc13, hQ13, l13, y13, z13, C13⟩, st13⟩ := callSS X12 hx (y := y_2) hown (mvT hZ (wd hw 9 rfl)) (mvT hZ (wd hw 10 rfl)) (mvT hZ (wd hw 3 rfl)) (mvT hZ (wd hw 11 rfl)) (by decide) (backOfSH (s := s) (vm0 := s.vm) (W := 0) (rm2 l Z a0 hw [] cs_ u_4 u_1 u_0 a_NEXT u_2 u_3 aw0 HW p4 h12 n0 old12 ) hZ (wd hw 11 rfl) (wd hw 3 rfl) (by decide) (by decide) (hEL_ hw) (CHr.keep kp12 sf0 Hc0).1) (g := (mkF m 81 #[.val (.int p1), .val (.int p2), .val (.int p3), .val (.int p4), .val (.ref mp), .val (.int (1 : Int32)), .val (.ref b10), .unset, .unset, .unset, .unset] [(.int p4)])) rfl (by rw [hml]; rfl) (argsL := [(.int p4)]) (rest := []) (lenOf pd_10 rfl) rfl (by show 2 * 0 + _ ≤ _; exact Nat.le_of_eq rfl) (hb hby at_81) (fun _ _ => ⟨rfl, e12, (by decide : 1 + 6 ≤ _), (by decide : 1 + 12 ≤ _)⟩)
    dsimp only [Pt.U, Pt.locs, Pt.cells, Pt.slots] at X13 l13 y13 z13 st13 hQ13 S13 gr13 C13
    subst l13 y13 z13
    have chb13 := (CHr.keep kp12 sf0 Hc0).trans C13
    obtain ⟨X13, S13, hZ13, hown13⟩ := rebS (vm0 := s.vm) S0 (by rw [e12]; exact hk12) X13 S13 gr13 hZ hown
    obtain ⟨b13, rfl, gb_b13, Nq13, K13, p13_0⟩ := hQ13
    have nn_b13 : n0 ≤ b13 := Nat.le_trans (old_z0 old12) gb_b13
    have sz_b13 : h0.size ≤ b13 := Nat.le_trans kp12.1 gb_b13
    have old13 := old12.keep K13 all0
    have kp13 := kp12.trans K13 all0
    have N13 := Fr.app N12 Nq13
    refine Go.step (fun t_ k_ => st13.trans k_) ?_
    show Go p e below _ (T13.setTop (mkF m 84 #[.val (.int p1), .val (.int p2), .val (.int p3), .val (.int p4), .val (.ref mp), .val (.int (1 : Int32)), .val (.ref b10), .unset, .unset, .unset, .unset] [(.ref b13)]))
    refine gs.astore X13.here hx (hb hby at_84) rfl (l' := #[.val (.int p1), .val (.int p2), .val (.int p3), .val (.int p4), .val (.ref mp), .val (.int (1 : Int32)), .val (.ref b10), .val (.ref b13), .unset, .unset, .unset]) rfl ?_
    obtain ⟨T14, h14, X14, e14, E14, A14, D14, Y14, st14⟩ := newO X13 hx hZ13 hown13 (wd hw 33 rfl) (wd hw 34 rfl) (wd hw 35 rfl) rfl (g := (mkF m 86 #[.val (.int p1), .val (.int p2), .val (.int p3), .val (.int p4), .val (.ref mp), .val (.int (1 : Int32)), .val (.ref b10), .val (.ref b13), .unset, .unset, .unset] [])) rfl (hb hby at_86) (by decide) (by decide)
    obtain ⟨b14, g14⟩ : ∃ z, z = T13.heap.size := ⟨_, rfl⟩
    rw [← g14] at A14 D14 Y14 st14
    have nn_b14 : n0 ≤ b14 := Nat.le_trans (old_z0 old13) (Nat.le_of_eq g14.symm)
    have sz_b14 : h0.size ≤ b14 := Nat.le_trans kp13.1 (Nat.le_of_eq g14.symm)
    have old14 := old13.ext E14
    have kp14 := kp13.ext E14
    have hk14 := Nat.le_trans (Nat.le_refl _) E14.1
    have F14_map : Fld Z h14 b14 "com/example/onward_schema/onwardschema/store/StoreLog$Entry" "map" "Lcom/example/onward_schema/onwardschema/store/StoreMap;" .null := D14 (Or.inr (wd hw 53 rfl)) (ty := (.object "com/example/onward_schema/onwardschema/store/StoreMap")) (by decide)
    have F14_key : Fld Z h14 b14 "com/example/onward_schema/onwardschema/store/StoreLog$Entry" "key" "Ljava/lang/String;" .null := D14 (Or.inr (wd hw 55 rfl)) (ty := (.object "java/lang/String")) (by decide)
    have F14_payload : Fld Z h14 b14 "com/example/onward_schema/onwardschema/store/StoreLog$Entry" "payload" "[B" .null := D14 (Or.inr (wd hw 57 rfl)) (ty := (.array .byte)) (by decide)
    refine Go.fin st14 ?_
    show Go p e below _ (T14.setTop (mkF m 89 _ [(.ref b14)]))
    refine gs.dup X14.here hx (hb hby at_89) rfl ?_
    refine gs.aload X14.here hx (hb hby at_90) rfl rfl ?_
    refine gs.aload X14.here hx (hb hby at_92) rfl rfl ?_
    refine gs.aload X14.here hx (hb hby at_94) rfl rfl ?_
    obtain ⟨_, _, ⟨T15, L15, k15, n15⟩, -, X15, S15, gr15, ⟨Lc15, hQ15, l15, y15, z15⟩, st15⟩ := X14.specialBackS hx (y := y_6) rfl hown13 (mvT hZ13 (wd hw 36 rfl)) (mvT hZ13 (wd hw 37 rfl)) (mvT hZ13 (wd hw 38 rfl)) (by decide) (backOfS (W := 1) (am6_1 l Z a0 hw [] cs_ u_4 u_1 u_0 a_NEXT u_2 u_3 aw0 HW (b14) (mp) (b13) (b10) h14 n0 old14 A14 F14_map F14_key F14_payload nn_b14) hZ13 (wd hw 38 rfl) (wd hw 35 rfl) (by decide) (by decide)) (g := (mkF m 96 #[.val (.int p1), .val (.int p2), .val (.int p3), .val (.int p4), .val (.ref mp), .val (.int (1 : Int32)), .val (.ref b10), .val (.ref b13), .unset, .unset, .unset] [(.ref b10), (.ref b13), (.ref mp), (.ref b14), (.ref b14)])) rfl (by rw [hml]; rfl) (Steps.refl _) (a := b14) (argsL := [(.ref mp), (.ref b13), (.ref b10)]) (rest := [(.ref b14)]) (lenOf pd_13 rfl) rfl (by show 2 * 0 + _ ≤ _; exact Nat.le_of_eq rfl) (hb hby at_96) (fun _ _ => ⟨rfl, e14, (by decide : 8 + 6 ≤ _), (by decide : 16 + 64 ≤ _)⟩)
    dsimp only [Pt.U, Pt.locs, Pt.cells, Pt.slots] at X15 l15 y15 z15 st15 hQ15 S15 gr15
    subst l15 y15 z15
    obtain ⟨X15, S15, hZ15, hown15⟩ := rebS (vm0 := T13.vm) S13 (by rw [e14]; exact hk14) X15 S15 gr15 hZ13 hown13
    obtain ⟨rfl, Nq15, K15, p15_0, p15_1, p15_2, p15_3⟩ := hQ15
    have old15 := old14.keep K15 (allS nn_b14 all0)
    have kp15 := kp14.trans K15 (allS (Or.inr sz_b14) all0)
    have N15 := Fr.app N13 Nq15
    refine Go.step (fun t_ k_ => st15.trans k_) ?_
    show Go p e below _ (T15.setTop (mkF m 99 #[.val (.int p1), .val (.int p2), .val (.int p3), .val (.int p4), .val (.ref mp), .val (.int (1 : Int32)), .val (.ref b10), .val (.ref b13), .unset, .unset, .unset] [(.ref b14)]))
    refine gs.astore X15.here hx (hb hby at_99) rfl (l' := #[.val (.int p1), .val (.int p2), .val (.int p3), .val (.int p4), .val (.ref mp), .val (.int (1 : Int32)), .val (.ref b10), .val (.ref b13), .val (.ref b14), .unset, .unset]) rfl ?_
    refine gs.aload X15.here hx (hb hby at_101) rfl rfl ?_
    have ne_b10_b14 : b10 ≠ b14 := Nat.ne_of_lt (Nat.lt_of_lt_of_le (V12.keep K13 nin0).lt (Nat.le_of_eq g14.symm))
    have f16 := (((V12.keep K13 nin0).ext E14).keep K15 (ninS ne_b10_b14 nin0))
    refine gs.virt 0 X15 hx hZ15 hown15 (am9_2 l Z a0 hw [] cs_ u_4 u_1 u_0 a_NEXT u_2 u_3 aw0 HW (b14) (b10) (k10) (((p3.toInt8.toInt32).toInt8.toInt32)) T15.heap n0 old15 f16 p15_3) (wd hw 62 rfl) (wd hw 35 rfl) (wd hw 58 rfl) (wd hw 59 rfl) (notFace_of_selects (args := #[]) (mvT hZ15 (wd hw 61 rfl))) (wd hw 61 rfl) (wd hw 60 rfl) (by decide) p15_0 (by decide) (by decide) (by rw [hml]; rfl) [] (lenOf pd_14 rfl) rfl (Nat.le_of_eq rfl) (hb hby at_103) rfl rfl (by decide) (by decide) fun T17 Lc17 v17 X17 hQ17 => ?_
    obtain ⟨rfl, Nq17, e17⟩ := hQ17
    have N17 := Fr.app N15 Nq17
    show Go p e below _ (T17.setTop (mkF m 106 _ [(.int (0 : Int32))]))
    refine gs.iload X17.here hx (hb hby at_106) rfl ?_
    have hc108 : ¬ ((1 : Int32) = (0 : Int32)) := by decide
    refine gs.ifYes 115 X17.here hx (hb hby at_108) ((if0 _ _).trans (feq hc108).2) rfl ?_
    refine gs.iconst 0 X17.here hx (hb hby at_115) rfl ?_
    have hc116 : (0 : Int32) = (0 : Int32) := by decide
    refine gs.icmpNo X17.here hx (hb hby at_116) (teq hc116).2 ?_
    refine gs.iconst 1 X17.here hx (hb hby at_119) rfl ?_
    refine gs.goto 124 X17.here hx (hb hby at_120) rfl ?_
    refine gs.istore X17.here hx (hb hby at_124) (l' := #[.val (.int p1), .val (.int p2), .val (.int p3), .val (.int p4), .val (.ref mp), .val (.int (1 : Int32)), .val (.ref b10), .val (.ref b13), .val (.ref b14), .val (.int (1 : Int32)), .unset]) rfl ?_
    refine gs.aload X17.here hx (hb hby at_126) rfl rfl ?_
    refine gs.aload X17.here hx (hb hby at_128) rfl rfl ?_
    obtain ⟨_, _, ⟨T18, L18, k18, n18⟩, -, X18, S18, gr18, ⟨Lc18, hQ18, l18, y18, z18⟩, st18⟩ := callSS X17 hx (y := y_10) hown15 (mvT hZ15 (wd hw 63 rfl)) (mvT hZ15 (wd hw 64 rfl)) (mvT hZ15 (wd hw 35 rfl)) (mvT hZ15 (wd hw 65 rfl)) (by decide) (backOfS (W := 0) (am10_1 l Z a0 hw [] cs_ u_4 u_1 u_0 a_NEXT u_2 u_3 aw0 HW (mp) (b13) T15.heap n0 old15 ) hZ15 (wd hw 65 rfl) (wd hw 35 rfl) (by decide) (by decide)) (g := (mkF m 130 #[.val (.int p1), .val (.int p2), .val (.int p3), .val (.int p4), .val (.ref mp), .val (.int (1 : Int32)), .val (.ref b10), .val (.ref b13), .val (.ref b14), .val (.int (1 : Int32)), .unset] [(.ref b13), (.ref mp)])) rfl (by rw [hml]; rfl) (argsL := [(.ref mp), (.ref b13)]) (rest := []) (lenOf pd_15 rfl) rfl (by show 2 * 0 + _ ≤ _; exact Nat.le_of_eq rfl) (hb hby at_130) (fun _ _ => ⟨rfl, e17, (by decide : 14 + 8 ≤ _), (by decide : 80 + 67 ≤ _)⟩)
    dsimp only [Pt.U, Pt.locs, Pt.cells, Pt.slots] at X18 l18 y18 z18 st18 hQ18 S18 gr18
    subst l18 y18 z18
    obtain ⟨X18, S18, hZ18, hown18⟩ := rebS (vm0 := T15.vm) S15 (by rw [e17]; exact (Nat.le_refl _)) X18 S18 gr18 hZ15 hown15
    obtain ⟨b18_0, b18_1, kx18_0, rfl, gb_b18_0, gb_b18_1, ne_b18_0_b18_1, Nq18, K18, p18_0, p18_1, p18_2, p18_3, p18_4⟩ := hQ18
    have nn_b18_0 : n0 ≤ b18_0 := Nat.le_trans (old_z0 old15) gb_b18_0
    have sz_b18_0 : h0.size ≤ b18_0 := Nat.le_trans kp15.1 gb_b18_0
    have nn_b18_1 : n0 ≤ b18_1 := Nat.le_trans (old_z0 old15) gb_b18_1
    have sz_b18_1 : h0.size ≤ b18_1 := Nat.le_trans kp15.1 gb_b18_1
    have old18 := old15.keep K18 all0
    have kp18 := kp15.trans K18 all0
    have N18 := Fr.app N17 Nq18
    refine Go.step (fun t_ k_ => st18.trans k_) ?_
    show Go p e below _ (T18.setTop (mkF m 133 #[.val (.int p1), .val (.int p2), .val (.int p3), .val (.int p4), .val (.ref mp), .val (.int (1 : Int32)), .val (.ref b10), .val (.ref b13), .val (.ref b14), .val (.int (1 : Int32)), .unset] [(.ref b18_0)]))
    refine gs.virt 0 X18 hx hZ18 hown18 (am9_1 l Z a0 hw [] cs_ u_4 u_1 u_0 a_NEXT u_2 u_3 aw0 HW (b18_0) (b18_1) (kx18_0) T18.heap n0 old18 p18_4 p18_3) (wd hw 62 rfl) (wd hw 35 rfl) (wd hw 58 rfl) (wd hw 59 rfl) (notFace_of_selects (args := #[]) (mvT hZ18 (wd hw 61 rfl))) (wd hw 61 rfl) (wd hw 60 rfl) (by decide) p18_0 (by decide) (by decide) (by rw [hml]; rfl) [] (lenOf pd_14 rfl) rfl (Nat.le_of_eq rfl) (hb hby at_133) rfl rfl (by decide) (by decide) fun T19 Lc19 v19 X19 hQ19 => ?_
    obtain ⟨rfl, Nq19, e19⟩ := hQ19
    have N19 := Fr.app N18 Nq19
    show Go p e below _ (T19.setTop (mkF m 136 _ [(.int (1 : Int32))]))
    refine gs.istore X19.here hx (hb hby at_136) (l' := #[.val (.int p1), .val (.int p2), .val (.int p3), .val (.int p4), .val (.ref mp), .val (.int (1 : Int32)), .val (.ref b10), .val (.ref b13), .val (.ref b14), .val (.int (1 : Int32)), .val (.int (1 : Int32))]) rfl ?_
    refine gs.iload X19.here hx (hb hby at_138) rfl ?_
    have hc140 : ¬ ((1 : Int32) = (0 : Int32)) := by decide
    refine gs.ifNo X19.here hx (hb hby at_140) ((if0 _ _).trans (feq hc140).1) ?_
    refine gs.iload X19.here hx (hb hby at_143) rfl ?_
    have hc145 : ¬ ((1 : Int32) = (0 : Int32)) := by decide
    refine gs.ifNo X19.here hx (hb hby at_145) ((if0 _ _).trans (feq hc145).1) ?_
    refine gs.iconst 1 X19.here hx (hb hby at_148) rfl ?_
    refine gs.goto 153 X19.here hx (hb hby at_149) rfl ?_
    refine GoW.retZ X19 S18 (by rw [e19]; exact (Nat.le_refl _)) hx (t := .boolean) Bd.returns (by simp) Bd.notSynchronized (hb hby at_153) (by rw [e19]; exact ⟨rfl, N19⟩) (by decide) (by decide)
  next =>
    show Go p e below _ (T1.setTop (mkF m 18 #[.val (.int p1), .val (.int p2), .val (.int p3), .val (.int p4), .val (.ref mp), .val (.int (2 : Int32)), .unset, .unset, .unset, .unset, .unset] []))
    refine gs.iload X1.here hx (hb hby at_18) rfl ?_
    obtain ⟨T20, h20, k20, X20, e20, E20, A20, st20⟩ := newP X1 hx hZ (wd hw 8 rfl) e1 (g := (mkF m 20 #[.val (.int p1), .val (.int p2), .val (.int p3), .val (.int p4), .val (.ref mp), .val (.int (2 : Int32)), .unset, .unset, .unset, .unset, .unset] [(.int (2 : Int32))])) rfl (hb hby at_20) rfl (by decide) (cap := 2) (by decide) (by decide) (by decide) (by decide)
    obtain ⟨b20, g20⟩ : ∃ z, z = h0.size := ⟨_, rfl⟩
    rw [← g20] at A20 st20
    have nn_b20 : n0 ≤ b20 := Nat.le_trans (old_z0 Ol) (Nat.le_of_eq g20.symm)
    have sz_b20 : h0.size ≤ b20 := Nat.le_trans kp0.1 (Nat.le_of_eq g20.symm)
    have old20 := Ol.ext E20
    have kp20 := kp0.ext E20
    have hk20 := Nat.le_trans hk0 E20.1
    have V20 : Arv Z h20 b20 k20 .byte (2 : Int32) [(.int (0 : Int32)), (.int (0 : Int32))] (.int (0 : Int32)) := (Arv.new A20 (by decide)).pad (pad_rep [] (.int (0 : Int32)) 2)
    refine Go.fin st20 ?_
    show Go p e below _ (T20.setTop (mkF m 22 _ [(.ref b20)]))
    refine gs.astore X20.here hx (hb hby at_22) rfl (l' := #[.val (.int p1), .val (.int p2), .val (.int p3), .val (.int p4), .val (.ref mp), .val (.int (2 : Int32)), .val (.ref b20), .unset, .unset, .unset, .unset]) rfl ?_
    refine gs.iload X20.here hx (hb hby at_24) rfl ?_
    have hc26 : (0 : Int32) < (2 : Int32) := by decide
    refine gs.ifNo X20.here hx (hb hby at_26) ((if0 _ _).trans (tlt hc26).2.2.2) ?_
    refine gs.aload X20.here hx (hb hby at_29) rfl rfl ?_
    refine gs.iconst 0 X20.here hx (hb hby at_31) rfl ?_
    refine gs.iloadN X20.here hx (hb hby at_32) rfl ?_
    refine Go.fin (fun t_ k_ => XS.i2b X20.here hx rfl (hb hby at_33) rfl k_) ?_
    show Go p e below _ (T20.setTop (mkF m 34 _ [(.int (p3.toInt8.toInt32)), (.int (0 : Int32)), (.ref b20)]))
    obtain ⟨cl21, Ar21, q21, Sz21, Ng21, Hs21, G21⟩ := id V20
    have hin21 : ¬ ((0 : Int32) < 0 ∨ cl21.slots.size ≤ ((0 : Int32)).toNatClampNeg) := inb_of Sz21 ⟨by decide, by decide⟩
    obtain ⟨T22, h22, X22, e22, W22, st22⟩ := stB X20 hx hZ e20 Ar21 (j := (0 : Int32)) hin21 (g := (mkF m 34 #[.val (.int p1), .val (.int p2), .val (.int p3), .val (.int p4), .val (.ref mp), .val (.int (2 : Int32)), .val (.ref b20), .unset, .unset, .unset, .unset] [(.int (p3.toInt8.toInt32)), (.int (0 : Int32)), (.ref b20)])) rfl rfl (hb hby at_34)
    have N22 := Fr.snoc X22 N1 nn_b20
    have old22 := old20.wr W22 nn_b20
    have kp22 := kp20.wr W22 (Or.inr sz_b20)
    have hk22 := Nat.le_trans hk20 (Keep.of_wr W22).1
    have V22 : Arv Z h22 b20 k20 .byte (2 : Int32) [(.int ((p3.toInt8.toInt32).toInt8.toInt32)), (.int (0 : Int32))] (.int (0 : Int32)) := Arv.set Ar21 q21 Sz21 Ng21 Hs21 G21 (fits_nar_byte _) W22 0 rfl (Nat.le_of_ble_eq_true rfl)
    refine Go.fin st22 ?_
    show Go p e below _ (T22.setTop (mkF m 35 _ []))
    refine gs.iload X22.here hx (hb hby at_35) rfl ?_
    refine gs.iconst 1 X22.here hx (hb hby at_37) rfl ?_
    have hc38 : (1 : Int32) < (2 : Int32) := by decide
    refine gs.icmpNo X22.here hx (hb hby at_38) (tlt hc38).2.2.2 ?_
    refine gs.aload X22.here hx (hb hby at_41) rfl rfl ?_
    refine gs.iconst 1 X22.here hx (hb hby at_43) rfl ?_
    refine gs.iloadN X22.here hx (hb hby at_44) rfl ?_
    refine gs.bipush 8 X22.here hx (hb hby at_45) rfl ?_
    refine Go.fin (fun t_ k_ => XS.iushr X22.here hx rfl (hb hby at_47) rfl k_) ?_
    show Go p e below _ (T22.setTop (mkF m 48 _ [(.int ((p3.toUInt32 >>> ((8 : Int32) &&& 31).toUInt32).toInt32)), (.int (1 : Int32)), (.ref b20)]))
    refine Go.fin (fun t_ k_ => XS.i2b X22.here hx rfl (hb hby at_48) rfl k_) ?_
    show Go p e below _ (T22.setTop (mkF m 49 _ [(.int (((p3.toUInt32 >>> ((8 : Int32) &&& 31).toUInt32).toInt32).toInt8.toInt32)), (.int (1 : Int32)), (.ref b20)]))
    obtain ⟨cl23, Ar23, q23, Sz23, Ng23, Hs23, G23⟩ := id V22
    have hin23 : ¬ ((1 : Int32) < 0 ∨ cl23.slots.size ≤ ((1 : Int32)).toNatClampNeg) := inb_of Sz23 ⟨by decide, by decide⟩
    obtain ⟨T24, h24, X24, e24, W24, st24⟩ := stB X22 hx hZ e22 Ar23 (j := (1 : Int32)) hin23 (g := (mkF m 49 #[.val (.int p1), .val (.int p2), .val (.int p3), .val (.int p4), .val (.ref mp), .val (.int (2 : Int32)), .val (.ref b20), .unset, .unset, .unset, .unset] [(.int (((p3.toUInt32 >>> ((8 : Int32) &&& 31).toUInt32).toInt32).toInt8.toInt32)), (.int (1 : Int32)), (.ref b20)])) rfl rfl (hb hby at_49)
    have N24 := Fr.snoc X24 N22 nn_b20
    have old24 := old22.wr W24 nn_b20
    have kp24 := kp22.wr W24 (Or.inr sz_b20)
    have hk24 := Nat.le_trans hk22 (Keep.of_wr W24).1
    have V24 : Arv Z h24 b20 k20 .byte (2 : Int32) [(.int ((p3.toInt8.toInt32).toInt8.toInt32)), (.int ((((p3.toUInt32 >>> ((8 : Int32) &&& 31).toUInt32).toInt32).toInt8.toInt32).toInt8.toInt32))] (.int (0 : Int32)) := Arv.set Ar23 q23 Sz23 Ng23 Hs23 G23 (fits_nar_byte _) W24 1 rfl (Nat.le_of_ble_eq_true rfl)
    refine Go.fin st24 ?_
    show Go p e below _ (T24.setTop (mkF m 50 _ []))
    refine gs.iload X24.here hx (hb hby at_50) rfl ?_
    refine gs.iconst 2 X24.here hx (hb hby at_52) rfl ?_
    have hc53 : ¬ ((2 : Int32) < (2 : Int32)) := by decide
    refine gs.icmpYes 65 X24.here hx (hb hby at_53) (flt hc53).2.2.2 rfl ?_
    refine gs.iload X24.here hx (hb hby at_65) rfl ?_
    refine gs.iconst 3 X24.here hx (hb hby at_67) rfl ?_
    have hc68 : ¬ ((3 : Int32) < (2 : Int32)) := by decide
    refine gs.icmpYes 80 X24.here hx (hb hby at_68) (flt hc68).2.2.2 rfl ?_
    refine gs.iloadN X24.here hx (hb hby at_80) rfl ?_
    obtain ⟨_, _, ⟨T25, L25, k25, n25⟩, -, X25, S25, gr25, ⟨Lc25, hQ25, l25, y25, z25, C25⟩, st25⟩ := callSS X24 hx (y := y_2) hown (mvT hZ (wd hw 9 rfl)) (mvT hZ (wd hw 10 rfl)) (mvT hZ (wd hw 3 rfl)) (mvT hZ (wd hw 11 rfl)) (by decide) (backOfSH (s := s) (vm0 := s.vm) (W := 0) (rm2 l Z a0 hw [] cs_ u_4 u_1 u_0 a_NEXT u_2 u_3 aw0 HW p4 h24 n0 old24 ) hZ (wd hw 11 rfl) (wd hw 3 rfl) (by decide) (by decide) (hEL_ hw) (CHr.keep kp24 sf0 Hc0).1) (g := (mkF m 81 #[.val (.int p1), .val (.int p2), .val (.int p3), .val (.int p4), .val (.ref mp), .val (.int (2 : Int32)), .val (.ref b20), .unset, .unset, .unset, .unset] [(.int p4)])) rfl (by rw [hml]; rfl) (argsL := [(.int p4)]) (rest := []) (lenOf pd_10 rfl) rfl (by show 2 * 0 + _ ≤ _; exact Nat.le_of_eq rfl) (hb hby at_81) (fun _ _ => ⟨rfl, e24, (by decide : 1 + 6 ≤ _), (by decide : 2 + 12 ≤ _)⟩)
    dsimp only [Pt.U, Pt.locs, Pt.cells, Pt.slots] at X25 l25 y25 z25 st25 hQ25 S25 gr25 C25
    subst l25 y25 z25
    have chb25 := (CHr.keep kp24 sf0 Hc0).trans C25
    obtain ⟨X25, S25, hZ25, hown25⟩ := rebS (vm0 := s.vm) S0 (by rw [e24]; exact hk24) X25 S25 gr25 hZ hown
    obtain ⟨b25, rfl, gb_b25, Nq25, K25, p25_0⟩ := hQ25
    have nn_b25 : n0 ≤ b25 := Nat.le_trans (old_z0 old24) gb_b25
    have sz_b25 : h0.size ≤ b25 := Nat.le_trans kp24.1 gb_b25
    have old25 := old24.keep K25 all0
    have kp25 := kp24.trans K25 all0
    have N25 := Fr.app N24 Nq25
    refine Go.step (fun t_ k_ => st25.trans k_) ?_
    show Go p e below _ (T25.setTop (mkF m 84 #[.val (.int p1), .val (.int p2), .val (.int p3), .val (.int p4), .val (.ref mp), .val (.int (2 : Int32)), .val (.ref b20), .unset, .unset, .unset, .unset] [(.ref b25)]))
    refine gs.astore X25.here hx (hb hby at_84) rfl (l' := #[.val (.int p1), .val (.int p2), .val (.int p3), .val (.int p4), .val (.ref mp), .val (.int (2 : Int32)), .val (.ref b20), .val (.ref b25), .unset, .unset, .unset]) rfl ?_
    obtain ⟨T26, h26, X26, e26, E26, A26, D26, Y26, st26⟩ := newO X25 hx hZ25 hown25 (wd hw 33 rfl) (wd hw 34 rfl) (wd hw 35 rfl) rfl (g := (mkF m 86 #[.val (.int p1), .val (.int p2), .val (.int p3), .val (.int p4), .val (.ref mp), .val (.int (2 : Int32)), .val (.ref b20), .val (.ref b25), .unset, .unset, .unset] [])) rfl (hb hby at_86) (by decide) (by decide)
    obtain ⟨b26, g26⟩ : ∃ z, z = T25.heap.size := ⟨_, rfl⟩
    rw [← g26] at A26 D26 Y26 st26
    have nn_b26 : n0 ≤ b26 := Nat.le_trans (old_z0 old25) (Nat.le_of_eq g26.symm)
    have sz_b26 : h0.size ≤ b26 := Nat.le_trans kp25.1 (Nat.le_of_eq g26.symm)
    have old26 := old25.ext E26
    have kp26 := kp25.ext E26
    have hk26 := Nat.le_trans (Nat.le_refl _) E26.1
    have F26_map : Fld Z h26 b26 "com/example/onward_schema/onwardschema/store/StoreLog$Entry" "map" "Lcom/example/onward_schema/onwardschema/store/StoreMap;" .null := D26 (Or.inr (wd hw 53 rfl)) (ty := (.object "com/example/onward_schema/onwardschema/store/StoreMap")) (by decide)
    have F26_key : Fld Z h26 b26 "com/example/onward_schema/onwardschema/store/StoreLog$Entry" "key" "Ljava/lang/String;" .null := D26 (Or.inr (wd hw 55 rfl)) (ty := (.object "java/lang/String")) (by decide)
    have F26_payload : Fld Z h26 b26 "com/example/onward_schema/onwardschema/store/StoreLog$Entry" "payload" "[B" .null := D26 (Or.inr (wd hw 57 rfl)) (ty := (.array .byte)) (by decide)
    refine Go.fin st26 ?_
    show Go p e below _ (T26.setTop (mkF m 89 _ [(.ref b26)]))
    refine gs.dup X26.here hx (hb hby at_89) rfl ?_
    refine gs.aload X26.here hx (hb hby at_90) rfl rfl ?_
    refine gs.aload X26.here hx (hb hby at_92) rfl rfl ?_
    refine gs.aload X26.here hx (hb hby at_94) rfl rfl ?_
    obtain ⟨_, _, ⟨T27, L27, k27, n27⟩, -, X27, S27, gr27, ⟨Lc27, hQ27, l27, y27, z27⟩, st27⟩ := X26.specialBackS hx (y := y_6) rfl hown25 (mvT hZ25 (wd hw 36 rfl)) (mvT hZ25 (wd hw 37 rfl)) (mvT hZ25 (wd hw 38 rfl)) (by decide) (backOfS (W := 1) (am6_1 l Z a0 hw [] cs_ u_4 u_1 u_0 a_NEXT u_2 u_3 aw0 HW (b26) (mp) (b25) (b20) h26 n0 old26 A26 F26_map F26_key F26_payload nn_b26) hZ25 (wd hw 38 rfl) (wd hw 35 rfl) (by decide) (by decide)) (g := (mkF m 96 #[.val (.int p1), .val (.int p2), .val (.int p3), .val (.int p4), .val (.ref mp), .val (.int (2 : Int32)), .val (.ref b20), .val (.ref b25), .unset, .unset, .unset] [(.ref b20), (.ref b25), (.ref mp), (.ref b26), (.ref b26)])) rfl (by rw [hml]; rfl) (Steps.refl _) (a := b26) (argsL := [(.ref mp), (.ref b25), (.ref b20)]) (rest := [(.ref b26)]) (lenOf pd_13 rfl) rfl (by show 2 * 0 + _ ≤ _; exact Nat.le_of_eq rfl) (hb hby at_96) (fun _ _ => ⟨rfl, e26, (by decide : 8 + 6 ≤ _), (by decide : 17 + 64 ≤ _)⟩)
    dsimp only [Pt.U, Pt.locs, Pt.cells, Pt.slots] at X27 l27 y27 z27 st27 hQ27 S27 gr27
    subst l27 y27 z27
    obtain ⟨X27, S27, hZ27, hown27⟩ := rebS (vm0 := T25.vm) S25 (by rw [e26]; exact hk26) X27 S27 gr27 hZ25 hown25
    obtain ⟨rfl, Nq27, K27, p27_0, p27_1, p27_2, p27_3⟩ := hQ27
    have old27 := old26.keep K27 (allS nn_b26 all0)
    have kp27 := kp26.trans K27 (allS (Or.inr sz_b26) all0)
    have N27 := Fr.app N25 Nq27
    refine Go.step (fun t_ k_ => st27.trans k_) ?_
    show Go p e below _ (T27.setTop (mkF m 99 #[.val (.int p1), .val (.int p2), .val (.int p3), .val (.int p4), .val (.ref mp), .val (.int (2 : Int32)), .val (.ref b20), .val (.ref b25), .unset, .unset, .unset] [(.ref b26)]))
    refine gs.astore X27.here hx (hb hby at_99) rfl (l' := #[.val (.int p1), .val (.int p2), .val (.int p3), .val (.int p4), .val (.ref mp), .val (.int (2 : Int32)), .val (.ref b20), .val (.ref b25), .val (.ref b26), .unset, .unset]) rfl ?_
    refine gs.aload X27.here hx (hb hby at_101) rfl rfl ?_
    have ne_b20_b26 : b20 ≠ b26 := Nat.ne_of_lt (Nat.lt_of_lt_of_le (V24.keep K25 nin0).lt (Nat.le_of_eq g26.symm))
    have f28 := (((V24.keep K25 nin0).ext E26).keep K27 (ninS ne_b20_b26 nin0))
    refine gs.virt 0 X27 hx hZ27 hown27 (am9_3 l Z a0 hw [] cs_ u_4 u_1 u_0 a_NEXT u_2 u_3 aw0 HW (b26) (b20) (k20) (((p3.toInt8.toInt32).toInt8.toInt32)) (((((p3.toUInt32 >>> ((8 : Int32) &&& 31).toUInt32).toInt32).toInt8.toInt32).toInt8.toInt32)) T27.heap n0 old27 f28 p27_3) (wd hw 62 rfl) (wd hw 35 rfl) (wd hw 58 rfl) (wd hw 59 rfl) (notFace_of_selects (args := #[]) (mvT hZ27 (wd hw 61 rfl))) (wd hw 61 rfl) (wd hw 60 rfl) (by decide) p27_0 (by decide) (by decide) (by rw [hml]; rfl) [] (lenOf pd_14 rfl) rfl (Nat.le_of_eq rfl) (hb hby at_103) rfl rfl (by decide) (by decide) fun T29 Lc29 v29 X29 hQ29 => ?_
    obtain ⟨rfl, Nq29, e29⟩ := hQ29
    have N29 := Fr.app N27 Nq29
    show Go p e below _ (T29.setTop (mkF m 106 _ [(.int (0 : Int32))]))
    refine gs.iload X29.here hx (hb hby at_106) rfl ?_
    have hc108 : ¬ ((2 : Int32) = (0 : Int32)) := by decide
    refine gs.ifYes 115 X29.here hx (hb hby at_108) ((if0 _ _).trans (feq hc108).2) rfl ?_
    refine gs.iconst 0 X29.here hx (hb hby at_115) rfl ?_
    have hc116 : (0 : Int32) = (0 : Int32) := by decide
    refine gs.icmpNo X29.here hx (hb hby at_116) (teq hc116).2 ?_
    refine gs.iconst 1 X29.here hx (hb hby at_119) rfl ?_
    refine gs.goto 124 X29.here hx (hb hby at_120) rfl ?_
    refine gs.istore X29.here hx (hb hby at_124) (l' := #[.val (.int p1), .val (.int p2), .val (.int p3), .val (.int p4), .val (.ref mp), .val (.int (2 : Int32)), .val (.ref b20), .val (.ref b25), .val (.ref b26), .val (.int (1 : Int32)), .unset]) rfl ?_
    refine gs.aload X29.here hx (hb hby at_126) rfl rfl ?_
    refine gs.aload X29.here hx (hb hby at_128) rfl rfl ?_
    obtain ⟨_, _, ⟨T30, L30, k30, n30⟩, -, X30, S30, gr30, ⟨Lc30, hQ30, l30, y30, z30⟩, st30⟩ := callSS X29 hx (y := y_10) hown27 (mvT hZ27 (wd hw 63 rfl)) (mvT hZ27 (wd hw 64 rfl)) (mvT hZ27 (wd hw 35 rfl)) (mvT hZ27 (wd hw 65 rfl)) (by decide) (backOfS (W := 0) (am10_1 l Z a0 hw [] cs_ u_4 u_1 u_0 a_NEXT u_2 u_3 aw0 HW (mp) (b25) T27.heap n0 old27 ) hZ27 (wd hw 65 rfl) (wd hw 35 rfl) (by decide) (by decide)) (g := (mkF m 130 #[.val (.int p1), .val (.int p2), .val (.int p3), .val (.int p4), .val (.ref mp), .val (.int (2 : Int32)), .val (.ref b20), .val (.ref b25), .val (.ref b26), .val (.int (1 : Int32)), .unset] [(.ref b25), (.ref mp)])) rfl (by rw [hml]; rfl) (argsL := [(.ref mp), (.ref b25)]) (rest := []) (lenOf pd_15 rfl) rfl (by show 2 * 0 + _ ≤ _; exact Nat.le_of_eq rfl) (hb hby at_130) (fun _ _ => ⟨rfl, e29, (by decide : 14 + 8 ≤ _), (by decide : 81 + 67 ≤ _)⟩)
    dsimp only [Pt.U, Pt.locs, Pt.cells, Pt.slots] at X30 l30 y30 z30 st30 hQ30 S30 gr30
    subst l30 y30 z30
    obtain ⟨X30, S30, hZ30, hown30⟩ := rebS (vm0 := T27.vm) S27 (by rw [e29]; exact (Nat.le_refl _)) X30 S30 gr30 hZ27 hown27
    obtain ⟨b30_0, b30_1, kx30_0, rfl, gb_b30_0, gb_b30_1, ne_b30_0_b30_1, Nq30, K30, p30_0, p30_1, p30_2, p30_3, p30_4⟩ := hQ30
    have nn_b30_0 : n0 ≤ b30_0 := Nat.le_trans (old_z0 old27) gb_b30_0
    have sz_b30_0 : h0.size ≤ b30_0 := Nat.le_trans kp27.1 gb_b30_0
    have nn_b30_1 : n0 ≤ b30_1 := Nat.le_trans (old_z0 old27) gb_b30_1
    have sz_b30_1 : h0.size ≤ b30_1 := Nat.le_trans kp27.1 gb_b30_1
    have old30 := old27.keep K30 all0
    have kp30 := kp27.trans K30 all0
    have N30 := Fr.app N29 Nq30
    refine Go.step (fun t_ k_ => st30.trans k_) ?_
    show Go p e below _ (T30.setTop (mkF m 133 #[.val (.int p1), .val (.int p2), .val (.int p3), .val (.int p4), .val (.ref mp), .val (.int (2 : Int32)), .val (.ref b20), .val (.ref b25), .val (.ref b26), .val (.int (1 : Int32)), .unset] [(.ref b30_0)]))
    refine gs.virt 0 X30 hx hZ30 hown30 (am9_1 l Z a0 hw [] cs_ u_4 u_1 u_0 a_NEXT u_2 u_3 aw0 HW (b30_0) (b30_1) (kx30_0) T30.heap n0 old30 p30_4 p30_3) (wd hw 62 rfl) (wd hw 35 rfl) (wd hw 58 rfl) (wd hw 59 rfl) (notFace_of_selects (args := #[]) (mvT hZ30 (wd hw 61 rfl))) (wd hw 61 rfl) (wd hw 60 rfl) (by decide) p30_0 (by decide) (by decide) (by rw [hml]; rfl) [] (lenOf pd_14 rfl) rfl (Nat.le_of_eq rfl) (hb hby at_133) rfl rfl (by decide) (by decide) fun T31 Lc31 v31 X31 hQ31 => ?_
    obtain ⟨rfl, Nq31, e31⟩ := hQ31
    have N31 := Fr.app N30 Nq31
    show Go p e below _ (T31.setTop (mkF m 136 _ [(.int (1 : Int32))]))
    refine gs.istore X31.here hx (hb hby at_136) (l' := #[.val (.int p1), .val (.int p2), .val (.int p3), .val (.int p4), .val (.ref mp), .val (.int (2 : Int32)), .val (.ref b20), .val (.ref b25), .val (.ref b26), .val (.int (1 : Int32)), .val (.int (1 : Int32))]) rfl ?_
    refine gs.iload X31.here hx (hb hby at_138) rfl ?_
    have hc140 : ¬ ((1 : Int32) = (0 : Int32)) := by decide
    refine gs.ifNo X31.here hx (hb hby at_140) ((if0 _ _).trans (feq hc140).1) ?_
    refine gs.iload X31.here hx (hb hby at_143) rfl ?_
    have hc145 : ¬ ((1 : Int32) = (0 : Int32)) := by decide
    refine gs.ifNo X31.here hx (hb hby at_145) ((if0 _ _).trans (feq hc145).1) ?_
    refine gs.iconst 1 X31.here hx (hb hby at_148) rfl ?_
    refine gs.goto 153 X31.here hx (hb hby at_149) rfl ?_
    refine GoW.retZ X31 S30 (by rw [e31]; exact (Nat.le_refl _)) hx (t := .boolean) Bd.returns (by simp) Bd.notSynchronized (hb hby at_153) (by rw [e31]; exact ⟨rfl, N31⟩) (by decide) (by decide)
  next =>
    show Go p e below _ (T1.setTop (mkF m 18 #[.val (.int p1), .val (.int p2), .val (.int p3), .val (.int p4), .val (.ref mp), .val (.int (3 : Int32)), .unset, .unset, .unset, .unset, .unset] []))
    refine gs.iload X1.here hx (hb hby at_18) rfl ?_
    obtain ⟨T32, h32, k32, X32, e32, E32, A32, st32⟩ := newP X1 hx hZ (wd hw 8 rfl) e1 (g := (mkF m 20 #[.val (.int p1), .val (.int p2), .val (.int p3), .val (.int p4), .val (.ref mp), .val (.int (3 : Int32)), .unset, .unset, .unset, .unset, .unset] [(.int (3 : Int32))])) rfl (hb hby at_20) rfl (by decide) (cap := 3) (by decide) (by decide) (by decide) (by decide)
    obtain ⟨b32, g32⟩ : ∃ z, z = h0.size := ⟨_, rfl⟩
    rw [← g32] at A32 st32
    have nn_b32 : n0 ≤ b32 := Nat.le_trans (old_z0 Ol) (Nat.le_of_eq g32.symm)
    have sz_b32 : h0.size ≤ b32 := Nat.le_trans kp0.1 (Nat.le_of_eq g32.symm)
    have old32 := Ol.ext E32
    have kp32 := kp0.ext E32
    have hk32 := Nat.le_trans hk0 E32.1
    have V32 : Arv Z h32 b32 k32 .byte (3 : Int32) [(.int (0 : Int32)), (.int (0 : Int32)), (.int (0 : Int32))] (.int (0 : Int32)) := (Arv.new A32 (by decide)).pad (pad_rep [] (.int (0 : Int32)) 3)
    refine Go.fin st32 ?_
    show Go p e below _ (T32.setTop (mkF m 22 _ [(.ref b32)]))
    refine gs.astore X32.here hx (hb hby at_22) rfl (l' := #[.val (.int p1), .val (.int p2), .val (.int p3), .val (.int p4), .val (.ref mp), .val (.int (3 : Int32)), .val (.ref b32), .unset, .unset, .unset, .unset]) rfl ?_
    refine gs.iload X32.here hx (hb hby at_24) rfl ?_
    have hc26 : (0 : Int32) < (3 : Int32) := by decide
    refine gs.ifNo X32.here hx (hb hby at_26) ((if0 _ _).trans (tlt hc26).2.2.2) ?_
    refine gs.aload X32.here hx (hb hby at_29) rfl rfl ?_
    refine gs.iconst 0 X32.here hx (hb hby at_31) rfl ?_
    refine gs.iloadN X32.here hx (hb hby at_32) rfl ?_
    refine Go.fin (fun t_ k_ => XS.i2b X32.here hx rfl (hb hby at_33) rfl k_) ?_
    show Go p e below _ (T32.setTop (mkF m 34 _ [(.int (p3.toInt8.toInt32)), (.int (0 : Int32)), (.ref b32)]))
    obtain ⟨cl33, Ar33, q33, Sz33, Ng33, Hs33, G33⟩ := id V32
    have hin33 : ¬ ((0 : Int32) < 0 ∨ cl33.slots.size ≤ ((0 : Int32)).toNatClampNeg) := inb_of Sz33 ⟨by decide, by decide⟩
    obtain ⟨T34, h34, X34, e34, W34, st34⟩ := stB X32 hx hZ e32 Ar33 (j := (0 : Int32)) hin33 (g := (mkF m 34 #[.val (.int p1), .val (.int p2), .val (.int p3), .val (.int p4), .val (.ref mp), .val (.int (3 : Int32)), .val (.ref b32), .unset, .unset, .unset, .unset] [(.int (p3.toInt8.toInt32)), (.int (0 : Int32)), (.ref b32)])) rfl rfl (hb hby at_34)
    have N34 := Fr.snoc X34 N1 nn_b32
    have old34 := old32.wr W34 nn_b32
    have kp34 := kp32.wr W34 (Or.inr sz_b32)
    have hk34 := Nat.le_trans hk32 (Keep.of_wr W34).1
    have V34 : Arv Z h34 b32 k32 .byte (3 : Int32) [(.int ((p3.toInt8.toInt32).toInt8.toInt32)), (.int (0 : Int32)), (.int (0 : Int32))] (.int (0 : Int32)) := Arv.set Ar33 q33 Sz33 Ng33 Hs33 G33 (fits_nar_byte _) W34 0 rfl (Nat.le_of_ble_eq_true rfl)
    refine Go.fin st34 ?_
    show Go p e below _ (T34.setTop (mkF m 35 _ []))
    refine gs.iload X34.here hx (hb hby at_35) rfl ?_
    refine gs.iconst 1 X34.here hx (hb hby at_37) rfl ?_
    have hc38 : (1 : Int32) < (3 : Int32) := by decide
    refine gs.icmpNo X34.here hx (hb hby at_38) (tlt hc38).2.2.2 ?_
    refine gs.aload X34.here hx (hb hby at_41) rfl rfl ?_
    refine gs.iconst 1 X34.here hx (hb hby at_43) rfl ?_
    refine gs.iloadN X34.here hx (hb hby at_44) rfl ?_
    refine gs.bipush 8 X34.here hx (hb hby at_45) rfl ?_
    refine Go.fin (fun t_ k_ => XS.iushr X34.here hx rfl (hb hby at_47) rfl k_) ?_
    show Go p e below _ (T34.setTop (mkF m 48 _ [(.int ((p3.toUInt32 >>> ((8 : Int32) &&& 31).toUInt32).toInt32)), (.int (1 : Int32)), (.ref b32)]))
    refine Go.fin (fun t_ k_ => XS.i2b X34.here hx rfl (hb hby at_48) rfl k_) ?_
    show Go p e below _ (T34.setTop (mkF m 49 _ [(.int (((p3.toUInt32 >>> ((8 : Int32) &&& 31).toUInt32).toInt32).toInt8.toInt32)), (.int (1 : Int32)), (.ref b32)]))
    obtain ⟨cl35, Ar35, q35, Sz35, Ng35, Hs35, G35⟩ := id V34
    have hin35 : ¬ ((1 : Int32) < 0 ∨ cl35.slots.size ≤ ((1 : Int32)).toNatClampNeg) := inb_of Sz35 ⟨by decide, by decide⟩
    obtain ⟨T36, h36, X36, e36, W36, st36⟩ := stB X34 hx hZ e34 Ar35 (j := (1 : Int32)) hin35 (g := (mkF m 49 #[.val (.int p1), .val (.int p2), .val (.int p3), .val (.int p4), .val (.ref mp), .val (.int (3 : Int32)), .val (.ref b32), .unset, .unset, .unset, .unset] [(.int (((p3.toUInt32 >>> ((8 : Int32) &&& 31).toUInt32).toInt32).toInt8.toInt32)), (.int (1 : Int32)), (.ref b32)])) rfl rfl (hb hby at_49)
    have N36 := Fr.snoc X36 N34 nn_b32
    have old36 := old34.wr W36 nn_b32
    have kp36 := kp34.wr W36 (Or.inr sz_b32)
    have hk36 := Nat.le_trans hk34 (Keep.of_wr W36).1
    have V36 : Arv Z h36 b32 k32 .byte (3 : Int32) [(.int ((p3.toInt8.toInt32).toInt8.toInt32)), (.int ((((p3.toUInt32 >>> ((8 : Int32) &&& 31).toUInt32).toInt32).toInt8.toInt32).toInt8.toInt32)), (.int (0 : Int32))] (.int (0 : Int32)) := Arv.set Ar35 q35 Sz35 Ng35 Hs35 G35 (fits_nar_byte _) W36 1 rfl (Nat.le_of_ble_eq_true rfl)
    refine Go.fin st36 ?_
    show Go p e below _ (T36.setTop (mkF m 50 _ []))
    refine gs.iload X36.here hx (hb hby at_50) rfl ?_
    refine gs.iconst 2 X36.here hx (hb hby at_52) rfl ?_
    have hc53 : (2 : Int32) < (3 : Int32) := by decide
    refine gs.icmpNo X36.here hx (hb hby at_53) (tlt hc53).2.2.2 ?_
    refine gs.aload X36.here hx (hb hby at_56) rfl rfl ?_
    refine gs.iconst 2 X36.here hx (hb hby at_58) rfl ?_
    refine gs.iloadN X36.here hx (hb hby at_59) rfl ?_
    refine gs.bipush 16 X36.here hx (hb hby at_60) rfl ?_
    refine Go.fin (fun t_ k_ => XS.iushr X36.here hx rfl (hb hby at_62) rfl k_) ?_
    show Go p e below _ (T36.setTop (mkF m 63 _ [(.int ((p3.toUInt32 >>> ((16 : Int32) &&& 31).toUInt32).toInt32)), (.int (2 : Int32)), (.ref b32)]))
    refine Go.fin (fun t_ k_ => XS.i2b X36.here hx rfl (hb hby at_63) rfl k_) ?_
    show Go p e below _ (T36.setTop (mkF m 64 _ [(.int (((p3.toUInt32 >>> ((16 : Int32) &&& 31).toUInt32).toInt32).toInt8.toInt32)), (.int (2 : Int32)), (.ref b32)]))
    obtain ⟨cl37, Ar37, q37, Sz37, Ng37, Hs37, G37⟩ := id V36
    have hin37 : ¬ ((2 : Int32) < 0 ∨ cl37.slots.size ≤ ((2 : Int32)).toNatClampNeg) := inb_of Sz37 ⟨by decide, by decide⟩
    obtain ⟨T38, h38, X38, e38, W38, st38⟩ := stB X36 hx hZ e36 Ar37 (j := (2 : Int32)) hin37 (g := (mkF m 64 #[.val (.int p1), .val (.int p2), .val (.int p3), .val (.int p4), .val (.ref mp), .val (.int (3 : Int32)), .val (.ref b32), .unset, .unset, .unset, .unset] [(.int (((p3.toUInt32 >>> ((16 : Int32) &&& 31).toUInt32).toInt32).toInt8.toInt32)), (.int (2 : Int32)), (.ref b32)])) rfl rfl (hb hby at_64)
    have N38 := Fr.snoc X38 N36 nn_b32
    have old38 := old36.wr W38 nn_b32
    have kp38 := kp36.wr W38 (Or.inr sz_b32)
    have hk38 := Nat.le_trans hk36 (Keep.of_wr W38).1
    have V38 : Arv Z h38 b32 k32 .byte (3 : Int32) [(.int ((p3.toInt8.toInt32).toInt8.toInt32)), (.int ((((p3.toUInt32 >>> ((8 : Int32) &&& 31).toUInt32).toInt32).toInt8.toInt32).toInt8.toInt32)), (.int ((((p3.toUInt32 >>> ((16 : Int32) &&& 31).toUInt32).toInt32).toInt8.toInt32).toInt8.toInt32))] (.int (0 : Int32)) := Arv.set Ar37 q37 Sz37 Ng37 Hs37 G37 (fits_nar_byte _) W38 2 rfl (Nat.le_of_ble_eq_true rfl)
    refine Go.fin st38 ?_
    show Go p e below _ (T38.setTop (mkF m 65 _ []))
    refine gs.iload X38.here hx (hb hby at_65) rfl ?_
    refine gs.iconst 3 X38.here hx (hb hby at_67) rfl ?_
    have hc68 : ¬ ((3 : Int32) < (3 : Int32)) := by decide
    refine gs.icmpYes 80 X38.here hx (hb hby at_68) (flt hc68).2.2.2 rfl ?_
    refine gs.iloadN X38.here hx (hb hby at_80) rfl ?_
    obtain ⟨_, _, ⟨T39, L39, k39, n39⟩, -, X39, S39, gr39, ⟨Lc39, hQ39, l39, y39, z39, C39⟩, st39⟩ := callSS X38 hx (y := y_2) hown (mvT hZ (wd hw 9 rfl)) (mvT hZ (wd hw 10 rfl)) (mvT hZ (wd hw 3 rfl)) (mvT hZ (wd hw 11 rfl)) (by decide) (backOfSH (s := s) (vm0 := s.vm) (W := 0) (rm2 l Z a0 hw [] cs_ u_4 u_1 u_0 a_NEXT u_2 u_3 aw0 HW p4 h38 n0 old38 ) hZ (wd hw 11 rfl) (wd hw 3 rfl) (by decide) (by decide) (hEL_ hw) (CHr.keep kp38 sf0 Hc0).1) (g := (mkF m 81 #[.val (.int p1), .val (.int p2), .val (.int p3), .val (.int p4), .val (.ref mp), .val (.int (3 : Int32)), .val (.ref b32), .unset, .unset, .unset, .unset] [(.int p4)])) rfl (by rw [hml]; rfl) (argsL := [(.int p4)]) (rest := []) (lenOf pd_10 rfl) rfl (by show 2 * 0 + _ ≤ _; exact Nat.le_of_eq rfl) (hb hby at_81) (fun _ _ => ⟨rfl, e38, (by decide : 1 + 6 ≤ _), (by decide : 3 + 12 ≤ _)⟩)
    dsimp only [Pt.U, Pt.locs, Pt.cells, Pt.slots] at X39 l39 y39 z39 st39 hQ39 S39 gr39 C39
    subst l39 y39 z39
    have chb39 := (CHr.keep kp38 sf0 Hc0).trans C39
    obtain ⟨X39, S39, hZ39, hown39⟩ := rebS (vm0 := s.vm) S0 (by rw [e38]; exact hk38) X39 S39 gr39 hZ hown
    obtain ⟨b39, rfl, gb_b39, Nq39, K39, p39_0⟩ := hQ39
    have nn_b39 : n0 ≤ b39 := Nat.le_trans (old_z0 old38) gb_b39
    have sz_b39 : h0.size ≤ b39 := Nat.le_trans kp38.1 gb_b39
    have old39 := old38.keep K39 all0
    have kp39 := kp38.trans K39 all0
    have N39 := Fr.app N38 Nq39
    refine Go.step (fun t_ k_ => st39.trans k_) ?_
    show Go p e below _ (T39.setTop (mkF m 84 #[.val (.int p1), .val (.int p2), .val (.int p3), .val (.int p4), .val (.ref mp), .val (.int (3 : Int32)), .val (.ref b32), .unset, .unset, .unset, .unset] [(.ref b39)]))
    refine gs.astore X39.here hx (hb hby at_84) rfl (l' := #[.val (.int p1), .val (.int p2), .val (.int p3), .val (.int p4), .val (.ref mp), .val (.int (3 : Int32)), .val (.ref b32), .val (.ref b39), .unset, .unset, .unset]) rfl ?_
    obtain ⟨T40, h40, X40, e40, E40, A40, D40, Y40, st40⟩ := newO X39 hx hZ39 hown39 (wd hw 33 rfl) (wd hw 34 rfl) (wd hw 35 rfl) rfl (g := (mkF m 86 #[.val (.int p1), .val (.int p2), .val (.int p3), .val (.int p4), .val (.ref mp), .val (.int (3 : Int32)), .val (.ref b32), .val (.ref b39), .unset, .unset, .unset] [])) rfl (hb hby at_86) (by decide) (by decide)
    obtain ⟨b40, g40⟩ : ∃ z, z = T39.heap.size := ⟨_, rfl⟩
    rw [← g40] at A40 D40 Y40 st40
    have nn_b40 : n0 ≤ b40 := Nat.le_trans (old_z0 old39) (Nat.le_of_eq g40.symm)
    have sz_b40 : h0.size ≤ b40 := Nat.le_trans kp39.1 (Nat.le_of_eq g40.symm)
    have old40 := old39.ext E40
    have kp40 := kp39.ext E40
    have hk40 := Nat.le_trans (Nat.le_refl _) E40.1
    have F40_map : Fld Z h40 b40 "com/example/onward_schema/onwardschema/store/StoreLog$Entry" "map" "Lcom/example/onward_schema/onwardschema/store/StoreMap;" .null := D40 (Or.inr (wd hw 53 rfl)) (ty := (.object "com/example/onward_schema/onwardschema/store/StoreMap")) (by decide)
    have F40_key : Fld Z h40 b40 "com/example/onward_schema/onwardschema/store/StoreLog$Entry" "key" "Ljava/lang/String;" .null := D40 (Or.inr (wd hw 55 rfl)) (ty := (.object "java/lang/String")) (by decide)
    have F40_payload : Fld Z h40 b40 "com/example/onward_schema/onwardschema/store/StoreLog$Entry" "payload" "[B" .null := D40 (Or.inr (wd hw 57 rfl)) (ty := (.array .byte)) (by decide)
    refine Go.fin st40 ?_
    show Go p e below _ (T40.setTop (mkF m 89 _ [(.ref b40)]))
    refine gs.dup X40.here hx (hb hby at_89) rfl ?_
    refine gs.aload X40.here hx (hb hby at_90) rfl rfl ?_
    refine gs.aload X40.here hx (hb hby at_92) rfl rfl ?_
    refine gs.aload X40.here hx (hb hby at_94) rfl rfl ?_
    obtain ⟨_, _, ⟨T41, L41, k41, n41⟩, -, X41, S41, gr41, ⟨Lc41, hQ41, l41, y41, z41⟩, st41⟩ := X40.specialBackS hx (y := y_6) rfl hown39 (mvT hZ39 (wd hw 36 rfl)) (mvT hZ39 (wd hw 37 rfl)) (mvT hZ39 (wd hw 38 rfl)) (by decide) (backOfS (W := 1) (am6_1 l Z a0 hw [] cs_ u_4 u_1 u_0 a_NEXT u_2 u_3 aw0 HW (b40) (mp) (b39) (b32) h40 n0 old40 A40 F40_map F40_key F40_payload nn_b40) hZ39 (wd hw 38 rfl) (wd hw 35 rfl) (by decide) (by decide)) (g := (mkF m 96 #[.val (.int p1), .val (.int p2), .val (.int p3), .val (.int p4), .val (.ref mp), .val (.int (3 : Int32)), .val (.ref b32), .val (.ref b39), .unset, .unset, .unset] [(.ref b32), (.ref b39), (.ref mp), (.ref b40), (.ref b40)])) rfl (by rw [hml]; rfl) (Steps.refl _) (a := b40) (argsL := [(.ref mp), (.ref b39), (.ref b32)]) (rest := [(.ref b40)]) (lenOf pd_13 rfl) rfl (by show 2 * 0 + _ ≤ _; exact Nat.le_of_eq rfl) (hb hby at_96) (fun _ _ => ⟨rfl, e40, (by decide : 8 + 6 ≤ _), (by decide : 18 + 64 ≤ _)⟩)
    dsimp only [Pt.U, Pt.locs, Pt.cells, Pt.slots] at X41 l41 y41 z41 st41 hQ41 S41 gr41
    subst l41 y41 z41
    obtain ⟨X41, S41, hZ41, hown41⟩ := rebS (vm0 := T39.vm) S39 (by rw [e40]; exact hk40) X41 S41 gr41 hZ39 hown39
    obtain ⟨rfl, Nq41, K41, p41_0, p41_1, p41_2, p41_3⟩ := hQ41
    have old41 := old40.keep K41 (allS nn_b40 all0)
    have kp41 := kp40.trans K41 (allS (Or.inr sz_b40) all0)
    have N41 := Fr.app N39 Nq41
    refine Go.step (fun t_ k_ => st41.trans k_) ?_
    show Go p e below _ (T41.setTop (mkF m 99 #[.val (.int p1), .val (.int p2), .val (.int p3), .val (.int p4), .val (.ref mp), .val (.int (3 : Int32)), .val (.ref b32), .val (.ref b39), .unset, .unset, .unset] [(.ref b40)]))
    refine gs.astore X41.here hx (hb hby at_99) rfl (l' := #[.val (.int p1), .val (.int p2), .val (.int p3), .val (.int p4), .val (.ref mp), .val (.int (3 : Int32)), .val (.ref b32), .val (.ref b39), .val (.ref b40), .unset, .unset]) rfl ?_
    refine gs.aload X41.here hx (hb hby at_101) rfl rfl ?_
    have ne_b32_b40 : b32 ≠ b40 := Nat.ne_of_lt (Nat.lt_of_lt_of_le (V38.keep K39 nin0).lt (Nat.le_of_eq g40.symm))
    have f42 := (((V38.keep K39 nin0).ext E40).keep K41 (ninS ne_b32_b40 nin0))
    refine gs.virt 0 X41 hx hZ41 hown41 (am9_4 l Z a0 hw [] cs_ u_4 u_1 u_0 a_NEXT u_2 u_3 aw0 HW (b40) (b32) (k32) (((p3.toInt8.toInt32).toInt8.toInt32)) (((((p3.toUInt32 >>> ((8 : Int32) &&& 31).toUInt32).toInt32).toInt8.toInt32).toInt8.toInt32)) (((((p3.toUInt32 >>> ((16 : Int32) &&& 31).toUInt32).toInt32).toInt8.toInt32).toInt8.toInt32)) T41.heap n0 old41 f42 p41_3) (wd hw 62 rfl) (wd hw 35 rfl) (wd hw 58 rfl) (wd hw 59 rfl) (notFace_of_selects (args := #[]) (mvT hZ41 (wd hw 61 rfl))) (wd hw 61 rfl) (wd hw 60 rfl) (by decide) p41_0 (by decide) (by decide) (by rw [hml]; rfl) [] (lenOf pd_14 rfl) rfl (Nat.le_of_eq rfl) (hb hby at_103) rfl rfl (by decide) (by decide) fun T43 Lc43 v43 X43 hQ43 => ?_
    obtain ⟨rfl, Nq43, e43⟩ := hQ43
    have N43 := Fr.app N41 Nq43
    show Go p e below _ (T43.setTop (mkF m 106 _ [(.int (0 : Int32))]))
    refine gs.iload X43.here hx (hb hby at_106) rfl ?_
    have hc108 : ¬ ((3 : Int32) = (0 : Int32)) := by decide
    refine gs.ifYes 115 X43.here hx (hb hby at_108) ((if0 _ _).trans (feq hc108).2) rfl ?_
    refine gs.iconst 0 X43.here hx (hb hby at_115) rfl ?_
    have hc116 : (0 : Int32) = (0 : Int32) := by decide
    refine gs.icmpNo X43.here hx (hb hby at_116) (teq hc116).2 ?_
    refine gs.iconst 1 X43.here hx (hb hby at_119) rfl ?_
    refine gs.goto 124 X43.here hx (hb hby at_120) rfl ?_
    refine gs.istore X43.here hx (hb hby at_124) (l' := #[.val (.int p1), .val (.int p2), .val (.int p3), .val (.int p4), .val (.ref mp), .val (.int (3 : Int32)), .val (.ref b32), .val (.ref b39), .val (.ref b40), .val (.int (1 : Int32)), .unset]) rfl ?_
    refine gs.aload X43.here hx (hb hby at_126) rfl rfl ?_
    refine gs.aload X43.here hx (hb hby at_128) rfl rfl ?_
    obtain ⟨_, _, ⟨T44, L44, k44, n44⟩, -, X44, S44, gr44, ⟨Lc44, hQ44, l44, y44, z44⟩, st44⟩ := callSS X43 hx (y := y_10) hown41 (mvT hZ41 (wd hw 63 rfl)) (mvT hZ41 (wd hw 64 rfl)) (mvT hZ41 (wd hw 35 rfl)) (mvT hZ41 (wd hw 65 rfl)) (by decide) (backOfS (W := 0) (am10_1 l Z a0 hw [] cs_ u_4 u_1 u_0 a_NEXT u_2 u_3 aw0 HW (mp) (b39) T41.heap n0 old41 ) hZ41 (wd hw 65 rfl) (wd hw 35 rfl) (by decide) (by decide)) (g := (mkF m 130 #[.val (.int p1), .val (.int p2), .val (.int p3), .val (.int p4), .val (.ref mp), .val (.int (3 : Int32)), .val (.ref b32), .val (.ref b39), .val (.ref b40), .val (.int (1 : Int32)), .unset] [(.ref b39), (.ref mp)])) rfl (by rw [hml]; rfl) (argsL := [(.ref mp), (.ref b39)]) (rest := []) (lenOf pd_15 rfl) rfl (by show 2 * 0 + _ ≤ _; exact Nat.le_of_eq rfl) (hb hby at_130) (fun _ _ => ⟨rfl, e43, (by decide : 14 + 8 ≤ _), (by decide : 82 + 67 ≤ _)⟩)
    dsimp only [Pt.U, Pt.locs, Pt.cells, Pt.slots] at X44 l44 y44 z44 st44 hQ44 S44 gr44
    subst l44 y44 z44
    obtain ⟨X44, S44, hZ44, hown44⟩ := rebS (vm0 := T41.vm) S41 (by rw [e43]; exact (Nat.le_refl _)) X44 S44 gr44 hZ41 hown41
    obtain ⟨b44_0, b44_1, kx44_0, rfl, gb_b44_0, gb_b44_1, ne_b44_0_b44_1, Nq44, K44, p44_0, p44_1, p44_2, p44_3, p44_4⟩ := hQ44
    have nn_b44_0 : n0 ≤ b44_0 := Nat.le_trans (old_z0 old41) gb_b44_0
    have sz_b44_0 : h0.size ≤ b44_0 := Nat.le_trans kp41.1 gb_b44_0
    have nn_b44_1 : n0 ≤ b44_1 := Nat.le_trans (old_z0 old41) gb_b44_1
    have sz_b44_1 : h0.size ≤ b44_1 := Nat.le_trans kp41.1 gb_b44_1
    have old44 := old41.keep K44 all0
    have kp44 := kp41.trans K44 all0
    have N44 := Fr.app N43 Nq44
    refine Go.step (fun t_ k_ => st44.trans k_) ?_
    show Go p e below _ (T44.setTop (mkF m 133 #[.val (.int p1), .val (.int p2), .val (.int p3), .val (.int p4), .val (.ref mp), .val (.int (3 : Int32)), .val (.ref b32), .val (.ref b39), .val (.ref b40), .val (.int (1 : Int32)), .unset] [(.ref b44_0)]))
    refine gs.virt 0 X44 hx hZ44 hown44 (am9_1 l Z a0 hw [] cs_ u_4 u_1 u_0 a_NEXT u_2 u_3 aw0 HW (b44_0) (b44_1) (kx44_0) T44.heap n0 old44 p44_4 p44_3) (wd hw 62 rfl) (wd hw 35 rfl) (wd hw 58 rfl) (wd hw 59 rfl) (notFace_of_selects (args := #[]) (mvT hZ44 (wd hw 61 rfl))) (wd hw 61 rfl) (wd hw 60 rfl) (by decide) p44_0 (by decide) (by decide) (by rw [hml]; rfl) [] (lenOf pd_14 rfl) rfl (Nat.le_of_eq rfl) (hb hby at_133) rfl rfl (by decide) (by decide) fun T45 Lc45 v45 X45 hQ45 => ?_
    obtain ⟨rfl, Nq45, e45⟩ := hQ45
    have N45 := Fr.app N44 Nq45
    show Go p e below _ (T45.setTop (mkF m 136 _ [(.int (1 : Int32))]))
    refine gs.istore X45.here hx (hb hby at_136) (l' := #[.val (.int p1), .val (.int p2), .val (.int p3), .val (.int p4), .val (.ref mp), .val (.int (3 : Int32)), .val (.ref b32), .val (.ref b39), .val (.ref b40), .val (.int (1 : Int32)), .val (.int (1 : Int32))]) rfl ?_
    refine gs.iload X45.here hx (hb hby at_138) rfl ?_
    have hc140 : ¬ ((1 : Int32) = (0 : Int32)) := by decide
    refine gs.ifNo X45.here hx (hb hby at_140) ((if0 _ _).trans (feq hc140).1) ?_
    refine gs.iload X45.here hx (hb hby at_143) rfl ?_
    have hc145 : ¬ ((1 : Int32) = (0 : Int32)) := by decide
    refine gs.ifNo X45.here hx (hb hby at_145) ((if0 _ _).trans (feq hc145).1) ?_
    refine gs.iconst 1 X45.here hx (hb hby at_148) rfl ?_
    refine gs.goto 153 X45.here hx (hb hby at_149) rfl ?_
    refine GoW.retZ X45 S44 (by rw [e45]; exact (Nat.le_refl _)) hx (t := .boolean) Bd.returns (by simp) Bd.notSynchronized (hb hby at_153) (by rw [e45]; exact ⟨rfl, N45⟩) (by decide) (by decide)
  next =>
    show Go p e below _ (T1.setTop (mkF m 18 #[.val (.int p1), .val (.int p2), .val (.int p3), .val (.int p4), .val (.ref mp), .val (.int (4 : Int32)), .unset, .unset, .unset, .unset, .unset] []))
    refine gs.iload X1.here hx (hb hby at_18) rfl ?_
    obtain ⟨T46, h46, k46, X46, e46, E46, A46, st46⟩ := newP X1 hx hZ (wd hw 8 rfl) e1 (g := (mkF m 20 #[.val (.int p1), .val (.int p2), .val (.int p3), .val (.int p4), .val (.ref mp), .val (.int (4 : Int32)), .unset, .unset, .unset, .unset, .unset] [(.int (4 : Int32))])) rfl (hb hby at_20) rfl (by decide) (cap := 4) (by decide) (by decide) (by decide) (by decide)
    obtain ⟨b46, g46⟩ : ∃ z, z = h0.size := ⟨_, rfl⟩
    rw [← g46] at A46 st46
    have nn_b46 : n0 ≤ b46 := Nat.le_trans (old_z0 Ol) (Nat.le_of_eq g46.symm)
    have sz_b46 : h0.size ≤ b46 := Nat.le_trans kp0.1 (Nat.le_of_eq g46.symm)
    have old46 := Ol.ext E46
    have kp46 := kp0.ext E46
    have hk46 := Nat.le_trans hk0 E46.1
    have V46 : Arv Z h46 b46 k46 .byte (4 : Int32) [(.int (0 : Int32)), (.int (0 : Int32)), (.int (0 : Int32)), (.int (0 : Int32))] (.int (0 : Int32)) := (Arv.new A46 (by decide)).pad (pad_rep [] (.int (0 : Int32)) 4)
    refine Go.fin st46 ?_
    show Go p e below _ (T46.setTop (mkF m 22 _ [(.ref b46)]))
    refine gs.astore X46.here hx (hb hby at_22) rfl (l' := #[.val (.int p1), .val (.int p2), .val (.int p3), .val (.int p4), .val (.ref mp), .val (.int (4 : Int32)), .val (.ref b46), .unset, .unset, .unset, .unset]) rfl ?_
    refine gs.iload X46.here hx (hb hby at_24) rfl ?_
    have hc26 : (0 : Int32) < (4 : Int32) := by decide
    refine gs.ifNo X46.here hx (hb hby at_26) ((if0 _ _).trans (tlt hc26).2.2.2) ?_
    refine gs.aload X46.here hx (hb hby at_29) rfl rfl ?_
    refine gs.iconst 0 X46.here hx (hb hby at_31) rfl ?_
    refine gs.iloadN X46.here hx (hb hby at_32) rfl ?_
    refine Go.fin (fun t_ k_ => XS.i2b X46.here hx rfl (hb hby at_33) rfl k_) ?_
    show Go p e below _ (T46.setTop (mkF m 34 _ [(.int (p3.toInt8.toInt32)), (.int (0 : Int32)), (.ref b46)]))
    obtain ⟨cl47, Ar47, q47, Sz47, Ng47, Hs47, G47⟩ := id V46
    have hin47 : ¬ ((0 : Int32) < 0 ∨ cl47.slots.size ≤ ((0 : Int32)).toNatClampNeg) := inb_of Sz47 ⟨by decide, by decide⟩
    obtain ⟨T48, h48, X48, e48, W48, st48⟩ := stB X46 hx hZ e46 Ar47 (j := (0 : Int32)) hin47 (g := (mkF m 34 #[.val (.int p1), .val (.int p2), .val (.int p3), .val (.int p4), .val (.ref mp), .val (.int (4 : Int32)), .val (.ref b46), .unset, .unset, .unset, .unset] [(.int (p3.toInt8.toInt32)), (.int (0 : Int32)), (.ref b46)])) rfl rfl (hb hby at_34)
    have N48 := Fr.snoc X48 N1 nn_b46
    have old48 := old46.wr W48 nn_b46
    have kp48 := kp46.wr W48 (Or.inr sz_b46)
    have hk48 := Nat.le_trans hk46 (Keep.of_wr W48).1
    have V48 : Arv Z h48 b46 k46 .byte (4 : Int32) [(.int ((p3.toInt8.toInt32).toInt8.toInt32)), (.int (0 : Int32)), (.int (0 : Int32)), (.int (0 : Int32))] (.int (0 : Int32)) := Arv.set Ar47 q47 Sz47 Ng47 Hs47 G47 (fits_nar_byte _) W48 0 rfl (Nat.le_of_ble_eq_true rfl)
    refine Go.fin st48 ?_
    show Go p e below _ (T48.setTop (mkF m 35 _ []))
    refine gs.iload X48.here hx (hb hby at_35) rfl ?_
    refine gs.iconst 1 X48.here hx (hb hby at_37) rfl ?_
    have hc38 : (1 : Int32) < (4 : Int32) := by decide
    refine gs.icmpNo X48.here hx (hb hby at_38) (tlt hc38).2.2.2 ?_
    refine gs.aload X48.here hx (hb hby at_41) rfl rfl ?_
    refine gs.iconst 1 X48.here hx (hb hby at_43) rfl ?_
    refine gs.iloadN X48.here hx (hb hby at_44) rfl ?_
    refine gs.bipush 8 X48.here hx (hb hby at_45) rfl ?_
    refine Go.fin (fun t_ k_ => XS.iushr X48.here hx rfl (hb hby at_47) rfl k_) ?_
    show Go p e below _ (T48.setTop (mkF m 48 _ [(.int ((p3.toUInt32 >>> ((8 : Int32) &&& 31).toUInt32).toInt32)), (.int (1 : Int32)), (.ref b46)]))
    refine Go.fin (fun t_ k_ => XS.i2b X48.here hx rfl (hb hby at_48) rfl k_) ?_
    show Go p e below _ (T48.setTop (mkF m 49 _ [(.int (((p3.toUInt32 >>> ((8 : Int32) &&& 31).toUInt32).toInt32).toInt8.toInt32)), (.int (1 : Int32)), (.ref b46)]))
    obtain ⟨cl49, Ar49, q49, Sz49, Ng49, Hs49, G49⟩ := id V48
    have hin49 : ¬ ((1 : Int32) < 0 ∨ cl49.slots.size ≤ ((1 : Int32)).toNatClampNeg) := inb_of Sz49 ⟨by decide, by decide⟩
    obtain ⟨T50, h50, X50, e50, W50, st50⟩ := stB X48 hx hZ e48 Ar49 (j := (1 : Int32)) hin49 (g := (mkF m 49 #[.val (.int p1), .val (.int p2), .val (.int p3), .val (.int p4), .val (.ref mp), .val (.int (4 : Int32)), .val (.ref b46), .unset, .unset, .unset, .unset] [(.int (((p3.toUInt32 >>> ((8 : Int32) &&& 31).toUInt32).toInt32).toInt8.toInt32)), (.int (1 : Int32)), (.ref b46)])) rfl rfl (hb hby at_49)
    have N50 := Fr.snoc X50 N48 nn_b46
    have old50 := old48.wr W50 nn_b46
    have kp50 := kp48.wr W50 (Or.inr sz_b46)
    have hk50 := Nat.le_trans hk48 (Keep.of_wr W50).1
    have V50 : Arv Z h50 b46 k46 .byte (4 : Int32) [(.int ((p3.toInt8.toInt32).toInt8.toInt32)), (.int ((((p3.toUInt32 >>> ((8 : Int32) &&& 31).toUInt32).toInt32).toInt8.toInt32).toInt8.toInt32)), (.int (0 : Int32)), (.int (0 : Int32))] (.int (0 : Int32)) := Arv.set Ar49 q49 Sz49 Ng49 Hs49 G49 (fits_nar_byte _) W50 1 rfl (Nat.le_of_ble_eq_true rfl)
    refine Go.fin st50 ?_
    show Go p e below _ (T50.setTop (mkF m 50 _ []))
    refine gs.iload X50.here hx (hb hby at_50) rfl ?_
    refine gs.iconst 2 X50.here hx (hb hby at_52) rfl ?_
    have hc53 : (2 : Int32) < (4 : Int32) := by decide
    refine gs.icmpNo X50.here hx (hb hby at_53) (tlt hc53).2.2.2 ?_
    refine gs.aload X50.here hx (hb hby at_56) rfl rfl ?_
    refine gs.iconst 2 X50.here hx (hb hby at_58) rfl ?_
    refine gs.iloadN X50.here hx (hb hby at_59) rfl ?_
    refine gs.bipush 16 X50.here hx (hb hby at_60) rfl ?_
    refine Go.fin (fun t_ k_ => XS.iushr X50.here hx rfl (hb hby at_62) rfl k_) ?_
    show Go p e below _ (T50.setTop (mkF m 63 _ [(.int ((p3.toUInt32 >>> ((16 : Int32) &&& 31).toUInt32).toInt32)), (.int (2 : Int32)), (.ref b46)]))
    refine Go.fin (fun t_ k_ => XS.i2b X50.here hx rfl (hb hby at_63) rfl k_) ?_
    show Go p e below _ (T50.setTop (mkF m 64 _ [(.int (((p3.toUInt32 >>> ((16 : Int32) &&& 31).toUInt32).toInt32).toInt8.toInt32)), (.int (2 : Int32)), (.ref b46)]))
    obtain ⟨cl51, Ar51, q51, Sz51, Ng51, Hs51, G51⟩ := id V50
    have hin51 : ¬ ((2 : Int32) < 0 ∨ cl51.slots.size ≤ ((2 : Int32)).toNatClampNeg) := inb_of Sz51 ⟨by decide, by decide⟩
    obtain ⟨T52, h52, X52, e52, W52, st52⟩ := stB X50 hx hZ e50 Ar51 (j := (2 : Int32)) hin51 (g := (mkF m 64 #[.val (.int p1), .val (.int p2), .val (.int p3), .val (.int p4), .val (.ref mp), .val (.int (4 : Int32)), .val (.ref b46), .unset, .unset, .unset, .unset] [(.int (((p3.toUInt32 >>> ((16 : Int32) &&& 31).toUInt32).toInt32).toInt8.toInt32)), (.int (2 : Int32)), (.ref b46)])) rfl rfl (hb hby at_64)
    have N52 := Fr.snoc X52 N50 nn_b46
    have old52 := old50.wr W52 nn_b46
    have kp52 := kp50.wr W52 (Or.inr sz_b46)
    have hk52 := Nat.le_trans hk50 (Keep.of_wr W52).1
    have V52 : Arv Z h52 b46 k46 .byte (4 : Int32) [(.int ((p3.toInt8.toInt32).toInt8.toInt32)), (.int ((((p3.toUInt32 >>> ((8 : Int32) &&& 31).toUInt32).toInt32).toInt8.toInt32).toInt8.toInt32)), (.int ((((p3.toUInt32 >>> ((16 : Int32) &&& 31).toUInt32).toInt32).toInt8.toInt32).toInt8.toInt32)), (.int (0 : Int32))] (.int (0 : Int32)) := Arv.set Ar51 q51 Sz51 Ng51 Hs51 G51 (fits_nar_byte _) W52 2 rfl (Nat.le_of_ble_eq_true rfl)
    refine Go.fin st52 ?_
    show Go p e below _ (T52.setTop (mkF m 65 _ []))
    refine gs.iload X52.here hx (hb hby at_65) rfl ?_
    refine gs.iconst 3 X52.here hx (hb hby at_67) rfl ?_
    have hc68 : (3 : Int32) < (4 : Int32) := by decide
    refine gs.icmpNo X52.here hx (hb hby at_68) (tlt hc68).2.2.2 ?_
    refine gs.aload X52.here hx (hb hby at_71) rfl rfl ?_
    refine gs.iconst 3 X52.here hx (hb hby at_73) rfl ?_
    refine gs.iloadN X52.here hx (hb hby at_74) rfl ?_
    refine gs.bipush 24 X52.here hx (hb hby at_75) rfl ?_
    refine Go.fin (fun t_ k_ => XS.iushr X52.here hx rfl (hb hby at_77) rfl k_) ?_
    show Go p e below _ (T52.setTop (mkF m 78 _ [(.int ((p3.toUInt32 >>> ((24 : Int32) &&& 31).toUInt32).toInt32)), (.int (3 : Int32)), (.ref b46)]))
    refine Go.fin (fun t_ k_ => XS.i2b X52.here hx rfl (hb hby at_78) rfl k_) ?_
    show Go p e below _ (T52.setTop (mkF m 79 _ [(.int (((p3.toUInt32 >>> ((24 : Int32) &&& 31).toUInt32).toInt32).toInt8.toInt32)), (.int (3 : Int32)), (.ref b46)]))
    obtain ⟨cl53, Ar53, q53, Sz53, Ng53, Hs53, G53⟩ := id V52
    have hin53 : ¬ ((3 : Int32) < 0 ∨ cl53.slots.size ≤ ((3 : Int32)).toNatClampNeg) := inb_of Sz53 ⟨by decide, by decide⟩
    obtain ⟨T54, h54, X54, e54, W54, st54⟩ := stB X52 hx hZ e52 Ar53 (j := (3 : Int32)) hin53 (g := (mkF m 79 #[.val (.int p1), .val (.int p2), .val (.int p3), .val (.int p4), .val (.ref mp), .val (.int (4 : Int32)), .val (.ref b46), .unset, .unset, .unset, .unset] [(.int (((p3.toUInt32 >>> ((24 : Int32) &&& 31).toUInt32).toInt32).toInt8.toInt32)), (.int (3 : Int32)), (.ref b46)])) rfl rfl (hb hby at_79)
    have N54 := Fr.snoc X54 N52 nn_b46
    have old54 := old52.wr W54 nn_b46
    have kp54 := kp52.wr W54 (Or.inr sz_b46)
    have hk54 := Nat.le_trans hk52 (Keep.of_wr W54).1
    have V54 : Arv Z h54 b46 k46 .byte (4 : Int32) [(.int ((p3.toInt8.toInt32).toInt8.toInt32)), (.int ((((p3.toUInt32 >>> ((8 : Int32) &&& 31).toUInt32).toInt32).toInt8.toInt32).toInt8.toInt32)), (.int ((((p3.toUInt32 >>> ((16 : Int32) &&& 31).toUInt32).toInt32).toInt8.toInt32).toInt8.toInt32)), (.int ((((p3.toUInt32 >>> ((24 : Int32) &&& 31).toUInt32).toInt32).toInt8.toInt32).toInt8.toInt32))] (.int (0 : Int32)) := Arv.set Ar53 q53 Sz53 Ng53 Hs53 G53 (fits_nar_byte _) W54 3 rfl (Nat.le_of_ble_eq_true rfl)
    refine Go.fin st54 ?_
    show Go p e below _ (T54.setTop (mkF m 80 _ []))
    refine gs.iloadN X54.here hx (hb hby at_80) rfl ?_
    obtain ⟨_, _, ⟨T55, L55, k55, n55⟩, -, X55, S55, gr55, ⟨Lc55, hQ55, l55, y55, z55, C55⟩, st55⟩ := callSS X54 hx (y := y_2) hown (mvT hZ (wd hw 9 rfl)) (mvT hZ (wd hw 10 rfl)) (mvT hZ (wd hw 3 rfl)) (mvT hZ (wd hw 11 rfl)) (by decide) (backOfSH (s := s) (vm0 := s.vm) (W := 0) (rm2 l Z a0 hw [] cs_ u_4 u_1 u_0 a_NEXT u_2 u_3 aw0 HW p4 h54 n0 old54 ) hZ (wd hw 11 rfl) (wd hw 3 rfl) (by decide) (by decide) (hEL_ hw) (CHr.keep kp54 sf0 Hc0).1) (g := (mkF m 81 #[.val (.int p1), .val (.int p2), .val (.int p3), .val (.int p4), .val (.ref mp), .val (.int (4 : Int32)), .val (.ref b46), .unset, .unset, .unset, .unset] [(.int p4)])) rfl (by rw [hml]; rfl) (argsL := [(.int p4)]) (rest := []) (lenOf pd_10 rfl) rfl (by show 2 * 0 + _ ≤ _; exact Nat.le_of_eq rfl) (hb hby at_81) (fun _ _ => ⟨rfl, e54, (by decide : 1 + 6 ≤ _), (by decide : 4 + 12 ≤ _)⟩)
    dsimp only [Pt.U, Pt.locs, Pt.cells, Pt.slots] at X55 l55 y55 z55 st55 hQ55 S55 gr55 C55
    subst l55 y55 z55
    have chb55 := (CHr.keep kp54 sf0 Hc0).trans C55
    obtain ⟨X55, S55, hZ55, hown55⟩ := rebS (vm0 := s.vm) S0 (by rw [e54]; exact hk54) X55 S55 gr55 hZ hown
    obtain ⟨b55, rfl, gb_b55, Nq55, K55, p55_0⟩ := hQ55
    have nn_b55 : n0 ≤ b55 := Nat.le_trans (old_z0 old54) gb_b55
    have sz_b55 : h0.size ≤ b55 := Nat.le_trans kp54.1 gb_b55
    have old55 := old54.keep K55 all0
    have kp55 := kp54.trans K55 all0
    have N55 := Fr.app N54 Nq55
    refine Go.step (fun t_ k_ => st55.trans k_) ?_
    show Go p e below _ (T55.setTop (mkF m 84 #[.val (.int p1), .val (.int p2), .val (.int p3), .val (.int p4), .val (.ref mp), .val (.int (4 : Int32)), .val (.ref b46), .unset, .unset, .unset, .unset] [(.ref b55)]))
    refine gs.astore X55.here hx (hb hby at_84) rfl (l' := #[.val (.int p1), .val (.int p2), .val (.int p3), .val (.int p4), .val (.ref mp), .val (.int (4 : Int32)), .val (.ref b46), .val (.ref b55), .unset, .unset, .unset]) rfl ?_
    obtain ⟨T56, h56, X56, e56, E56, A56, D56, Y56, st56⟩ := newO X55 hx hZ55 hown55 (wd hw 33 rfl) (wd hw 34 rfl) (wd hw 35 rfl) rfl (g := (mkF m 86 #[.val (.int p1), .val (.int p2), .val (.int p3), .val (.int p4), .val (.ref mp), .val (.int (4 : Int32)), .val (.ref b46), .val (.ref b55), .unset, .unset, .unset] [])) rfl (hb hby at_86) (by decide) (by decide)
    obtain ⟨b56, g56⟩ : ∃ z, z = T55.heap.size := ⟨_, rfl⟩
    rw [← g56] at A56 D56 Y56 st56
    have nn_b56 : n0 ≤ b56 := Nat.le_trans (old_z0 old55) (Nat.le_of_eq g56.symm)
    have sz_b56 : h0.size ≤ b56 := Nat.le_trans kp55.1 (Nat.le_of_eq g56.symm)
    have old56 := old55.ext E56
    have kp56 := kp55.ext E56
    have hk56 := Nat.le_trans (Nat.le_refl _) E56.1
    have F56_map : Fld Z h56 b56 "com/example/onward_schema/onwardschema/store/StoreLog$Entry" "map" "Lcom/example/onward_schema/onwardschema/store/StoreMap;" .null := D56 (Or.inr (wd hw 53 rfl)) (ty := (.object "com/example/onward_schema/onwardschema/store/StoreMap")) (by decide)
    have F56_key : Fld Z h56 b56 "com/example/onward_schema/onwardschema/store/StoreLog$Entry" "key" "Ljava/lang/String;" .null := D56 (Or.inr (wd hw 55 rfl)) (ty := (.object "java/lang/String")) (by decide)
    have F56_payload : Fld Z h56 b56 "com/example/onward_schema/onwardschema/store/StoreLog$Entry" "payload" "[B" .null := D56 (Or.inr (wd hw 57 rfl)) (ty := (.array .byte)) (by decide)
    refine Go.fin st56 ?_
    show Go p e below _ (T56.setTop (mkF m 89 _ [(.ref b56)]))
    refine gs.dup X56.here hx (hb hby at_89) rfl ?_
    refine gs.aload X56.here hx (hb hby at_90) rfl rfl ?_
    refine gs.aload X56.here hx (hb hby at_92) rfl rfl ?_
    refine gs.aload X56.here hx (hb hby at_94) rfl rfl ?_
    obtain ⟨_, _, ⟨T57, L57, k57, n57⟩, -, X57, S57, gr57, ⟨Lc57, hQ57, l57, y57, z57⟩, st57⟩ := X56.specialBackS hx (y := y_6) rfl hown55 (mvT hZ55 (wd hw 36 rfl)) (mvT hZ55 (wd hw 37 rfl)) (mvT hZ55 (wd hw 38 rfl)) (by decide) (backOfS (W := 1) (am6_1 l Z a0 hw [] cs_ u_4 u_1 u_0 a_NEXT u_2 u_3 aw0 HW (b56) (mp) (b55) (b46) h56 n0 old56 A56 F56_map F56_key F56_payload nn_b56) hZ55 (wd hw 38 rfl) (wd hw 35 rfl) (by decide) (by decide)) (g := (mkF m 96 #[.val (.int p1), .val (.int p2), .val (.int p3), .val (.int p4), .val (.ref mp), .val (.int (4 : Int32)), .val (.ref b46), .val (.ref b55), .unset, .unset, .unset] [(.ref b46), (.ref b55), (.ref mp), (.ref b56), (.ref b56)])) rfl (by rw [hml]; rfl) (Steps.refl _) (a := b56) (argsL := [(.ref mp), (.ref b55), (.ref b46)]) (rest := [(.ref b56)]) (lenOf pd_13 rfl) rfl (by show 2 * 0 + _ ≤ _; exact Nat.le_of_eq rfl) (hb hby at_96) (fun _ _ => ⟨rfl, e56, (by decide : 8 + 6 ≤ _), (by decide : 19 + 64 ≤ _)⟩)
    dsimp only [Pt.U, Pt.locs, Pt.cells, Pt.slots] at X57 l57 y57 z57 st57 hQ57 S57 gr57
    subst l57 y57 z57
    obtain ⟨X57, S57, hZ57, hown57⟩ := rebS (vm0 := T55.vm) S55 (by rw [e56]; exact hk56) X57 S57 gr57 hZ55 hown55
    obtain ⟨rfl, Nq57, K57, p57_0, p57_1, p57_2, p57_3⟩ := hQ57
    have old57 := old56.keep K57 (allS nn_b56 all0)
    have kp57 := kp56.trans K57 (allS (Or.inr sz_b56) all0)
    have N57 := Fr.app N55 Nq57
    refine Go.step (fun t_ k_ => st57.trans k_) ?_
    show Go p e below _ (T57.setTop (mkF m 99 #[.val (.int p1), .val (.int p2), .val (.int p3), .val (.int p4), .val (.ref mp), .val (.int (4 : Int32)), .val (.ref b46), .val (.ref b55), .unset, .unset, .unset] [(.ref b56)]))
    refine gs.astore X57.here hx (hb hby at_99) rfl (l' := #[.val (.int p1), .val (.int p2), .val (.int p3), .val (.int p4), .val (.ref mp), .val (.int (4 : Int32)), .val (.ref b46), .val (.ref b55), .val (.ref b56), .unset, .unset]) rfl ?_
    refine gs.aload X57.here hx (hb hby at_101) rfl rfl ?_
    have ne_b46_b56 : b46 ≠ b56 := Nat.ne_of_lt (Nat.lt_of_lt_of_le (V54.keep K55 nin0).lt (Nat.le_of_eq g56.symm))
    have f58 := (((V54.keep K55 nin0).ext E56).keep K57 (ninS ne_b46_b56 nin0))
    refine gs.virt 0 X57 hx hZ57 hown57 (am9_5 l Z a0 hw [] cs_ u_4 u_1 u_0 a_NEXT u_2 u_3 aw0 HW (b56) (b46) (k46) (((p3.toInt8.toInt32).toInt8.toInt32)) (((((p3.toUInt32 >>> ((8 : Int32) &&& 31).toUInt32).toInt32).toInt8.toInt32).toInt8.toInt32)) (((((p3.toUInt32 >>> ((16 : Int32) &&& 31).toUInt32).toInt32).toInt8.toInt32).toInt8.toInt32)) (((((p3.toUInt32 >>> ((24 : Int32) &&& 31).toUInt32).toInt32).toInt8.toInt32).toInt8.toInt32)) T57.heap n0 old57 f58 p57_3) (wd hw 62 rfl) (wd hw 35 rfl) (wd hw 58 rfl) (wd hw 59 rfl) (notFace_of_selects (args := #[]) (mvT hZ57 (wd hw 61 rfl))) (wd hw 61 rfl) (wd hw 60 rfl) (by decide) p57_0 (by decide) (by decide) (by rw [hml]; rfl) [] (lenOf pd_14 rfl) rfl (Nat.le_of_eq rfl) (hb hby at_103) rfl rfl (by decide) (by decide) fun T59 Lc59 v59 X59 hQ59 => ?_
    obtain ⟨rfl, Nq59, e59⟩ := hQ59
    have N59 := Fr.app N57 Nq59
    show Go p e below _ (T59.setTop (mkF m 106 _ [(.int (0 : Int32))]))
    refine gs.iload X59.here hx (hb hby at_106) rfl ?_
    have hc108 : ¬ ((4 : Int32) = (0 : Int32)) := by decide
    refine gs.ifYes 115 X59.here hx (hb hby at_108) ((if0 _ _).trans (feq hc108).2) rfl ?_
    refine gs.iconst 0 X59.here hx (hb hby at_115) rfl ?_
    have hc116 : (0 : Int32) = (0 : Int32) := by decide
    refine gs.icmpNo X59.here hx (hb hby at_116) (teq hc116).2 ?_
    refine gs.iconst 1 X59.here hx (hb hby at_119) rfl ?_
    refine gs.goto 124 X59.here hx (hb hby at_120) rfl ?_
    refine gs.istore X59.here hx (hb hby at_124) (l' := #[.val (.int p1), .val (.int p2), .val (.int p3), .val (.int p4), .val (.ref mp), .val (.int (4 : Int32)), .val (.ref b46), .val (.ref b55), .val (.ref b56), .val (.int (1 : Int32)), .unset]) rfl ?_
    refine gs.aload X59.here hx (hb hby at_126) rfl rfl ?_
    refine gs.aload X59.here hx (hb hby at_128) rfl rfl ?_
    obtain ⟨_, _, ⟨T60, L60, k60, n60⟩, -, X60, S60, gr60, ⟨Lc60, hQ60, l60, y60, z60⟩, st60⟩ := callSS X59 hx (y := y_10) hown57 (mvT hZ57 (wd hw 63 rfl)) (mvT hZ57 (wd hw 64 rfl)) (mvT hZ57 (wd hw 35 rfl)) (mvT hZ57 (wd hw 65 rfl)) (by decide) (backOfS (W := 0) (am10_1 l Z a0 hw [] cs_ u_4 u_1 u_0 a_NEXT u_2 u_3 aw0 HW (mp) (b55) T57.heap n0 old57 ) hZ57 (wd hw 65 rfl) (wd hw 35 rfl) (by decide) (by decide)) (g := (mkF m 130 #[.val (.int p1), .val (.int p2), .val (.int p3), .val (.int p4), .val (.ref mp), .val (.int (4 : Int32)), .val (.ref b46), .val (.ref b55), .val (.ref b56), .val (.int (1 : Int32)), .unset] [(.ref b55), (.ref mp)])) rfl (by rw [hml]; rfl) (argsL := [(.ref mp), (.ref b55)]) (rest := []) (lenOf pd_15 rfl) rfl (by show 2 * 0 + _ ≤ _; exact Nat.le_of_eq rfl) (hb hby at_130) (fun _ _ => ⟨rfl, e59, (by decide : 14 + 8 ≤ _), (by decide : 83 + 67 ≤ _)⟩)
    dsimp only [Pt.U, Pt.locs, Pt.cells, Pt.slots] at X60 l60 y60 z60 st60 hQ60 S60 gr60
    subst l60 y60 z60
    obtain ⟨X60, S60, hZ60, hown60⟩ := rebS (vm0 := T57.vm) S57 (by rw [e59]; exact (Nat.le_refl _)) X60 S60 gr60 hZ57 hown57
    obtain ⟨b60_0, b60_1, kx60_0, rfl, gb_b60_0, gb_b60_1, ne_b60_0_b60_1, Nq60, K60, p60_0, p60_1, p60_2, p60_3, p60_4⟩ := hQ60
    have nn_b60_0 : n0 ≤ b60_0 := Nat.le_trans (old_z0 old57) gb_b60_0
    have sz_b60_0 : h0.size ≤ b60_0 := Nat.le_trans kp57.1 gb_b60_0
    have nn_b60_1 : n0 ≤ b60_1 := Nat.le_trans (old_z0 old57) gb_b60_1
    have sz_b60_1 : h0.size ≤ b60_1 := Nat.le_trans kp57.1 gb_b60_1
    have old60 := old57.keep K60 all0
    have kp60 := kp57.trans K60 all0
    have N60 := Fr.app N59 Nq60
    refine Go.step (fun t_ k_ => st60.trans k_) ?_
    show Go p e below _ (T60.setTop (mkF m 133 #[.val (.int p1), .val (.int p2), .val (.int p3), .val (.int p4), .val (.ref mp), .val (.int (4 : Int32)), .val (.ref b46), .val (.ref b55), .val (.ref b56), .val (.int (1 : Int32)), .unset] [(.ref b60_0)]))
    refine gs.virt 0 X60 hx hZ60 hown60 (am9_1 l Z a0 hw [] cs_ u_4 u_1 u_0 a_NEXT u_2 u_3 aw0 HW (b60_0) (b60_1) (kx60_0) T60.heap n0 old60 p60_4 p60_3) (wd hw 62 rfl) (wd hw 35 rfl) (wd hw 58 rfl) (wd hw 59 rfl) (notFace_of_selects (args := #[]) (mvT hZ60 (wd hw 61 rfl))) (wd hw 61 rfl) (wd hw 60 rfl) (by decide) p60_0 (by decide) (by decide) (by rw [hml]; rfl) [] (lenOf pd_14 rfl) rfl (Nat.le_of_eq rfl) (hb hby at_133) rfl rfl (by decide) (by decide) fun T61 Lc61 v61 X61 hQ61 => ?_
    obtain ⟨rfl, Nq61, e61⟩ := hQ61
    have N61 := Fr.app N60 Nq61
    show Go p e below _ (T61.setTop (mkF m 136 _ [(.int (1 : Int32))]))
    refine gs.istore X61.here hx (hb hby at_136) (l' := #[.val (.int p1), .val (.int p2), .val (.int p3), .val (.int p4), .val (.ref mp), .val (.int (4 : Int32)), .val (.ref b46), .val (.ref b55), .val (.ref b56), .val (.int (1 : Int32)), .val (.int (1 : Int32))]) rfl ?_
    refine gs.iload X61.here hx (hb hby at_138) rfl ?_
    have hc140 : ¬ ((1 : Int32) = (0 : Int32)) := by decide
    refine gs.ifNo X61.here hx (hb hby at_140) ((if0 _ _).trans (feq hc140).1) ?_
    refine gs.iload X61.here hx (hb hby at_143) rfl ?_
    have hc145 : ¬ ((1 : Int32) = (0 : Int32)) := by decide
    refine gs.ifNo X61.here hx (hb hby at_145) ((if0 _ _).trans (feq hc145).1) ?_
    refine gs.iconst 1 X61.here hx (hb hby at_148) rfl ?_
    refine gs.goto 153 X61.here hx (hb hby at_149) rfl ?_
    refine GoW.retZ X61 S60 (by rw [e61]; exact (Nat.le_refl _)) hx (t := .boolean) Bd.returns (by simp) Bd.notSynchronized (hb hby at_153) (by rw [e61]; exact ⟨rfl, N61⟩) (by decide) (by decide)
  next =>
    show Go p e below _ (T1.setTop (mkF m 18 #[.val (.int p1), .val (.int p2), .val (.int p3), .val (.int p4), .val (.ref mp), .val (.int (5 : Int32)), .unset, .unset, .unset, .unset, .unset] []))
    refine gs.iload X1.here hx (hb hby at_18) rfl ?_
    obtain ⟨T62, h62, k62, X62, e62, E62, A62, st62⟩ := newP X1 hx hZ (wd hw 8 rfl) e1 (g := (mkF m 20 #[.val (.int p1), .val (.int p2), .val (.int p3), .val (.int p4), .val (.ref mp), .val (.int (5 : Int32)), .unset, .unset, .unset, .unset, .unset] [(.int (5 : Int32))])) rfl (hb hby at_20) rfl (by decide) (cap := 5) (by decide) (by decide) (by decide) (by decide)
    obtain ⟨b62, g62⟩ : ∃ z, z = h0.size := ⟨_, rfl⟩
    rw [← g62] at A62 st62
    have nn_b62 : n0 ≤ b62 := Nat.le_trans (old_z0 Ol) (Nat.le_of_eq g62.symm)
    have sz_b62 : h0.size ≤ b62 := Nat.le_trans kp0.1 (Nat.le_of_eq g62.symm)
    have old62 := Ol.ext E62
    have kp62 := kp0.ext E62
    have hk62 := Nat.le_trans hk0 E62.1
    have V62 : Arv Z h62 b62 k62 .byte (5 : Int32) [(.int (0 : Int32)), (.int (0 : Int32)), (.int (0 : Int32)), (.int (0 : Int32)), (.int (0 : Int32))] (.int (0 : Int32)) := (Arv.new A62 (by decide)).pad (pad_rep [] (.int (0 : Int32)) 5)
    refine Go.fin st62 ?_
    show Go p e below _ (T62.setTop (mkF m 22 _ [(.ref b62)]))
    refine gs.astore X62.here hx (hb hby at_22) rfl (l' := #[.val (.int p1), .val (.int p2), .val (.int p3), .val (.int p4), .val (.ref mp), .val (.int (5 : Int32)), .val (.ref b62), .unset, .unset, .unset, .unset]) rfl ?_
    refine gs.iload X62.here hx (hb hby at_24) rfl ?_
    have hc26 : (0 : Int32) < (5 : Int32) := by decide
    refine gs.ifNo X62.here hx (hb hby at_26) ((if0 _ _).trans (tlt hc26).2.2.2) ?_
    refine gs.aload X62.here hx (hb hby at_29) rfl rfl ?_
    refine gs.iconst 0 X62.here hx (hb hby at_31) rfl ?_
    refine gs.iloadN X62.here hx (hb hby at_32) rfl ?_
    refine Go.fin (fun t_ k_ => XS.i2b X62.here hx rfl (hb hby at_33) rfl k_) ?_
    show Go p e below _ (T62.setTop (mkF m 34 _ [(.int (p3.toInt8.toInt32)), (.int (0 : Int32)), (.ref b62)]))
    obtain ⟨cl63, Ar63, q63, Sz63, Ng63, Hs63, G63⟩ := id V62
    have hin63 : ¬ ((0 : Int32) < 0 ∨ cl63.slots.size ≤ ((0 : Int32)).toNatClampNeg) := inb_of Sz63 ⟨by decide, by decide⟩
    obtain ⟨T64, h64, X64, e64, W64, st64⟩ := stB X62 hx hZ e62 Ar63 (j := (0 : Int32)) hin63 (g := (mkF m 34 #[.val (.int p1), .val (.int p2), .val (.int p3), .val (.int p4), .val (.ref mp), .val (.int (5 : Int32)), .val (.ref b62), .unset, .unset, .unset, .unset] [(.int (p3.toInt8.toInt32)), (.int (0 : Int32)), (.ref b62)])) rfl rfl (hb hby at_34)
    have N64 := Fr.snoc X64 N1 nn_b62
    have old64 := old62.wr W64 nn_b62
    have kp64 := kp62.wr W64 (Or.inr sz_b62)
    have hk64 := Nat.le_trans hk62 (Keep.of_wr W64).1
    have V64 : Arv Z h64 b62 k62 .byte (5 : Int32) [(.int ((p3.toInt8.toInt32).toInt8.toInt32)), (.int (0 : Int32)), (.int (0 : Int32)), (.int (0 : Int32)), (.int (0 : Int32))] (.int (0 : Int32)) := Arv.set Ar63 q63 Sz63 Ng63 Hs63 G63 (fits_nar_byte _) W64 0 rfl (Nat.le_of_ble_eq_true rfl)
    refine Go.fin st64 ?_
    show Go p e below _ (T64.setTop (mkF m 35 _ []))
    refine gs.iload X64.here hx (hb hby at_35) rfl ?_
    refine gs.iconst 1 X64.here hx (hb hby at_37) rfl ?_
    have hc38 : (1 : Int32) < (5 : Int32) := by decide
    refine gs.icmpNo X64.here hx (hb hby at_38) (tlt hc38).2.2.2 ?_
    refine gs.aload X64.here hx (hb hby at_41) rfl rfl ?_
    refine gs.iconst 1 X64.here hx (hb hby at_43) rfl ?_
    refine gs.iloadN X64.here hx (hb hby at_44) rfl ?_
    refine gs.bipush 8 X64.here hx (hb hby at_45) rfl ?_
    refine Go.fin (fun t_ k_ => XS.iushr X64.here hx rfl (hb hby at_47) rfl k_) ?_
    show Go p e below _ (T64.setTop (mkF m 48 _ [(.int ((p3.toUInt32 >>> ((8 : Int32) &&& 31).toUInt32).toInt32)), (.int (1 : Int32)), (.ref b62)]))
    refine Go.fin (fun t_ k_ => XS.i2b X64.here hx rfl (hb hby at_48) rfl k_) ?_
    show Go p e below _ (T64.setTop (mkF m 49 _ [(.int (((p3.toUInt32 >>> ((8 : Int32) &&& 31).toUInt32).toInt32).toInt8.toInt32)), (.int (1 : Int32)), (.ref b62)]))
    obtain ⟨cl65, Ar65, q65, Sz65, Ng65, Hs65, G65⟩ := id V64
    have hin65 : ¬ ((1 : Int32) < 0 ∨ cl65.slots.size ≤ ((1 : Int32)).toNatClampNeg) := inb_of Sz65 ⟨by decide, by decide⟩
    obtain ⟨T66, h66, X66, e66, W66, st66⟩ := stB X64 hx hZ e64 Ar65 (j := (1 : Int32)) hin65 (g := (mkF m 49 #[.val (.int p1), .val (.int p2), .val (.int p3), .val (.int p4), .val (.ref mp), .val (.int (5 : Int32)), .val (.ref b62), .unset, .unset, .unset, .unset] [(.int (((p3.toUInt32 >>> ((8 : Int32) &&& 31).toUInt32).toInt32).toInt8.toInt32)), (.int (1 : Int32)), (.ref b62)])) rfl rfl (hb hby at_49)
    have N66 := Fr.snoc X66 N64 nn_b62
    have old66 := old64.wr W66 nn_b62
    have kp66 := kp64.wr W66 (Or.inr sz_b62)
    have hk66 := Nat.le_trans hk64 (Keep.of_wr W66).1
    have V66 : Arv Z h66 b62 k62 .byte (5 : Int32) [(.int ((p3.toInt8.toInt32).toInt8.toInt32)), (.int ((((p3.toUInt32 >>> ((8 : Int32) &&& 31).toUInt32).toInt32).toInt8.toInt32).toInt8.toInt32)), (.int (0 : Int32)), (.int (0 : Int32)), (.int (0 : Int32))] (.int (0 : Int32)) := Arv.set Ar65 q65 Sz65 Ng65 Hs65 G65 (fits_nar_byte _) W66 1 rfl (Nat.le_of_ble_eq_true rfl)
    refine Go.fin st66 ?_
    show Go p e below _ (T66.setTop (mkF m 50 _ []))
    refine gs.iload X66.here hx (hb hby at_50) rfl ?_
    refine gs.iconst 2 X66.here hx (hb hby at_52) rfl ?_
    have hc53 : (2 : Int32) < (5 : Int32) := by decide
    refine gs.icmpNo X66.here hx (hb hby at_53) (tlt hc53).2.2.2 ?_
    refine gs.aload X66.here hx (hb hby at_56) rfl rfl ?_
    refine gs.iconst 2 X66.here hx (hb hby at_58) rfl ?_
    refine gs.iloadN X66.here hx (hb hby at_59) rfl ?_
    refine gs.bipush 16 X66.here hx (hb hby at_60) rfl ?_
    refine Go.fin (fun t_ k_ => XS.iushr X66.here hx rfl (hb hby at_62) rfl k_) ?_
    show Go p e below _ (T66.setTop (mkF m 63 _ [(.int ((p3.toUInt32 >>> ((16 : Int32) &&& 31).toUInt32).toInt32)), (.int (2 : Int32)), (.ref b62)]))
    refine Go.fin (fun t_ k_ => XS.i2b X66.here hx rfl (hb hby at_63) rfl k_) ?_
    show Go p e below _ (T66.setTop (mkF m 64 _ [(.int (((p3.toUInt32 >>> ((16 : Int32) &&& 31).toUInt32).toInt32).toInt8.toInt32)), (.int (2 : Int32)), (.ref b62)]))
    obtain ⟨cl67, Ar67, q67, Sz67, Ng67, Hs67, G67⟩ := id V66
    have hin67 : ¬ ((2 : Int32) < 0 ∨ cl67.slots.size ≤ ((2 : Int32)).toNatClampNeg) := inb_of Sz67 ⟨by decide, by decide⟩
    obtain ⟨T68, h68, X68, e68, W68, st68⟩ := stB X66 hx hZ e66 Ar67 (j := (2 : Int32)) hin67 (g := (mkF m 64 #[.val (.int p1), .val (.int p2), .val (.int p3), .val (.int p4), .val (.ref mp), .val (.int (5 : Int32)), .val (.ref b62), .unset, .unset, .unset, .unset] [(.int (((p3.toUInt32 >>> ((16 : Int32) &&& 31).toUInt32).toInt32).toInt8.toInt32)), (.int (2 : Int32)), (.ref b62)])) rfl rfl (hb hby at_64)
    have N68 := Fr.snoc X68 N66 nn_b62
    have old68 := old66.wr W68 nn_b62
    have kp68 := kp66.wr W68 (Or.inr sz_b62)
    have hk68 := Nat.le_trans hk66 (Keep.of_wr W68).1
    have V68 : Arv Z h68 b62 k62 .byte (5 : Int32) [(.int ((p3.toInt8.toInt32).toInt8.toInt32)), (.int ((((p3.toUInt32 >>> ((8 : Int32) &&& 31).toUInt32).toInt32).toInt8.toInt32).toInt8.toInt32)), (.int ((((p3.toUInt32 >>> ((16 : Int32) &&& 31).toUInt32).toInt32).toInt8.toInt32).toInt8.toInt32)), (.int (0 : Int32)), (.int (0 : Int32))] (.int (0 : Int32)) := Arv.set Ar67 q67 Sz67 Ng67 Hs67 G67 (fits_nar_byte _) W68 2 rfl (Nat.le_of_ble_eq_true rfl)
    refine Go.fin st68 ?_
    show Go p e below _ (T68.setTop (mkF m 65 _ []))
    refine gs.iload X68.here hx (hb hby at_65) rfl ?_
    refine gs.iconst 3 X68.here hx (hb hby at_67) rfl ?_
    have hc68 : (3 : Int32) < (5 : Int32) := by decide
    refine gs.icmpNo X68.here hx (hb hby at_68) (tlt hc68).2.2.2 ?_
    refine gs.aload X68.here hx (hb hby at_71) rfl rfl ?_
    refine gs.iconst 3 X68.here hx (hb hby at_73) rfl ?_
    refine gs.iloadN X68.here hx (hb hby at_74) rfl ?_
    refine gs.bipush 24 X68.here hx (hb hby at_75) rfl ?_
    refine Go.fin (fun t_ k_ => XS.iushr X68.here hx rfl (hb hby at_77) rfl k_) ?_
    show Go p e below _ (T68.setTop (mkF m 78 _ [(.int ((p3.toUInt32 >>> ((24 : Int32) &&& 31).toUInt32).toInt32)), (.int (3 : Int32)), (.ref b62)]))
    refine Go.fin (fun t_ k_ => XS.i2b X68.here hx rfl (hb hby at_78) rfl k_) ?_
    show Go p e below _ (T68.setTop (mkF m 79 _ [(.int (((p3.toUInt32 >>> ((24 : Int32) &&& 31).toUInt32).toInt32).toInt8.toInt32)), (.int (3 : Int32)), (.ref b62)]))
    obtain ⟨cl69, Ar69, q69, Sz69, Ng69, Hs69, G69⟩ := id V68
    have hin69 : ¬ ((3 : Int32) < 0 ∨ cl69.slots.size ≤ ((3 : Int32)).toNatClampNeg) := inb_of Sz69 ⟨by decide, by decide⟩
    obtain ⟨T70, h70, X70, e70, W70, st70⟩ := stB X68 hx hZ e68 Ar69 (j := (3 : Int32)) hin69 (g := (mkF m 79 #[.val (.int p1), .val (.int p2), .val (.int p3), .val (.int p4), .val (.ref mp), .val (.int (5 : Int32)), .val (.ref b62), .unset, .unset, .unset, .unset] [(.int (((p3.toUInt32 >>> ((24 : Int32) &&& 31).toUInt32).toInt32).toInt8.toInt32)), (.int (3 : Int32)), (.ref b62)])) rfl rfl (hb hby at_79)
    have N70 := Fr.snoc X70 N68 nn_b62
    have old70 := old68.wr W70 nn_b62
    have kp70 := kp68.wr W70 (Or.inr sz_b62)
    have hk70 := Nat.le_trans hk68 (Keep.of_wr W70).1
    have V70 : Arv Z h70 b62 k62 .byte (5 : Int32) [(.int ((p3.toInt8.toInt32).toInt8.toInt32)), (.int ((((p3.toUInt32 >>> ((8 : Int32) &&& 31).toUInt32).toInt32).toInt8.toInt32).toInt8.toInt32)), (.int ((((p3.toUInt32 >>> ((16 : Int32) &&& 31).toUInt32).toInt32).toInt8.toInt32).toInt8.toInt32)), (.int ((((p3.toUInt32 >>> ((24 : Int32) &&& 31).toUInt32).toInt32).toInt8.toInt32).toInt8.toInt32)), (.int (0 : Int32))] (.int (0 : Int32)) := Arv.set Ar69 q69 Sz69 Ng69 Hs69 G69 (fits_nar_byte _) W70 3 rfl (Nat.le_of_ble_eq_true rfl)
    refine Go.fin st70 ?_
    show Go p e below _ (T70.setTop (mkF m 80 _ []))
    refine gs.iloadN X70.here hx (hb hby at_80) rfl ?_
    obtain ⟨_, _, ⟨T71, L71, k71, n71⟩, -, X71, S71, gr71, ⟨Lc71, hQ71, l71, y71, z71, C71⟩, st71⟩ := callSS X70 hx (y := y_2) hown (mvT hZ (wd hw 9 rfl)) (mvT hZ (wd hw 10 rfl)) (mvT hZ (wd hw 3 rfl)) (mvT hZ (wd hw 11 rfl)) (by decide) (backOfSH (s := s) (vm0 := s.vm) (W := 0) (rm2 l Z a0 hw [] cs_ u_4 u_1 u_0 a_NEXT u_2 u_3 aw0 HW p4 h70 n0 old70 ) hZ (wd hw 11 rfl) (wd hw 3 rfl) (by decide) (by decide) (hEL_ hw) (CHr.keep kp70 sf0 Hc0).1) (g := (mkF m 81 #[.val (.int p1), .val (.int p2), .val (.int p3), .val (.int p4), .val (.ref mp), .val (.int (5 : Int32)), .val (.ref b62), .unset, .unset, .unset, .unset] [(.int p4)])) rfl (by rw [hml]; rfl) (argsL := [(.int p4)]) (rest := []) (lenOf pd_10 rfl) rfl (by show 2 * 0 + _ ≤ _; exact Nat.le_of_eq rfl) (hb hby at_81) (fun _ _ => ⟨rfl, e70, (by decide : 1 + 6 ≤ _), (by decide : 5 + 12 ≤ _)⟩)
    dsimp only [Pt.U, Pt.locs, Pt.cells, Pt.slots] at X71 l71 y71 z71 st71 hQ71 S71 gr71 C71
    subst l71 y71 z71
    have chb71 := (CHr.keep kp70 sf0 Hc0).trans C71
    obtain ⟨X71, S71, hZ71, hown71⟩ := rebS (vm0 := s.vm) S0 (by rw [e70]; exact hk70) X71 S71 gr71 hZ hown
    obtain ⟨b71, rfl, gb_b71, Nq71, K71, p71_0⟩ := hQ71
    have nn_b71 : n0 ≤ b71 := Nat.le_trans (old_z0 old70) gb_b71
    have sz_b71 : h0.size ≤ b71 := Nat.le_trans kp70.1 gb_b71
    have old71 := old70.keep K71 all0
    have kp71 := kp70.trans K71 all0
    have N71 := Fr.app N70 Nq71
    refine Go.step (fun t_ k_ => st71.trans k_) ?_
    show Go p e below _ (T71.setTop (mkF m 84 #[.val (.int p1), .val (.int p2), .val (.int p3), .val (.int p4), .val (.ref mp), .val (.int (5 : Int32)), .val (.ref b62), .unset, .unset, .unset, .unset] [(.ref b71)]))
    refine gs.astore X71.here hx (hb hby at_84) rfl (l' := #[.val (.int p1), .val (.int p2), .val (.int p3), .val (.int p4), .val (.ref mp), .val (.int (5 : Int32)), .val (.ref b62), .val (.ref b71), .unset, .unset, .unset]) rfl ?_
    obtain ⟨T72, h72, X72, e72, E72, A72, D72, Y72, st72⟩ := newO X71 hx hZ71 hown71 (wd hw 33 rfl) (wd hw 34 rfl) (wd hw 35 rfl) rfl (g := (mkF m 86 #[.val (.int p1), .val (.int p2), .val (.int p3), .val (.int p4), .val (.ref mp), .val (.int (5 : Int32)), .val (.ref b62), .val (.ref b71), .unset, .unset, .unset] [])) rfl (hb hby at_86) (by decide) (by decide)
    obtain ⟨b72, g72⟩ : ∃ z, z = T71.heap.size := ⟨_, rfl⟩
    rw [← g72] at A72 D72 Y72 st72
    have nn_b72 : n0 ≤ b72 := Nat.le_trans (old_z0 old71) (Nat.le_of_eq g72.symm)
    have sz_b72 : h0.size ≤ b72 := Nat.le_trans kp71.1 (Nat.le_of_eq g72.symm)
    have old72 := old71.ext E72
    have kp72 := kp71.ext E72
    have hk72 := Nat.le_trans (Nat.le_refl _) E72.1
    have F72_map : Fld Z h72 b72 "com/example/onward_schema/onwardschema/store/StoreLog$Entry" "map" "Lcom/example/onward_schema/onwardschema/store/StoreMap;" .null := D72 (Or.inr (wd hw 53 rfl)) (ty := (.object "com/example/onward_schema/onwardschema/store/StoreMap")) (by decide)
    have F72_key : Fld Z h72 b72 "com/example/onward_schema/onwardschema/store/StoreLog$Entry" "key" "Ljava/lang/String;" .null := D72 (Or.inr (wd hw 55 rfl)) (ty := (.object "java/lang/String")) (by decide)
    have F72_payload : Fld Z h72 b72 "com/example/onward_schema/onwardschema/store/StoreLog$Entry" "payload" "[B" .null := D72 (Or.inr (wd hw 57 rfl)) (ty := (.array .byte)) (by decide)
    refine Go.fin st72 ?_
    show Go p e below _ (T72.setTop (mkF m 89 _ [(.ref b72)]))
    refine gs.dup X72.here hx (hb hby at_89) rfl ?_
    refine gs.aload X72.here hx (hb hby at_90) rfl rfl ?_
    refine gs.aload X72.here hx (hb hby at_92) rfl rfl ?_
    refine gs.aload X72.here hx (hb hby at_94) rfl rfl ?_
    obtain ⟨_, _, ⟨T73, L73, k73, n73⟩, -, X73, S73, gr73, ⟨Lc73, hQ73, l73, y73, z73⟩, st73⟩ := X72.specialBackS hx (y := y_6) rfl hown71 (mvT hZ71 (wd hw 36 rfl)) (mvT hZ71 (wd hw 37 rfl)) (mvT hZ71 (wd hw 38 rfl)) (by decide) (backOfS (W := 1) (am6_1 l Z a0 hw [] cs_ u_4 u_1 u_0 a_NEXT u_2 u_3 aw0 HW (b72) (mp) (b71) (b62) h72 n0 old72 A72 F72_map F72_key F72_payload nn_b72) hZ71 (wd hw 38 rfl) (wd hw 35 rfl) (by decide) (by decide)) (g := (mkF m 96 #[.val (.int p1), .val (.int p2), .val (.int p3), .val (.int p4), .val (.ref mp), .val (.int (5 : Int32)), .val (.ref b62), .val (.ref b71), .unset, .unset, .unset] [(.ref b62), (.ref b71), (.ref mp), (.ref b72), (.ref b72)])) rfl (by rw [hml]; rfl) (Steps.refl _) (a := b72) (argsL := [(.ref mp), (.ref b71), (.ref b62)]) (rest := [(.ref b72)]) (lenOf pd_13 rfl) rfl (by show 2 * 0 + _ ≤ _; exact Nat.le_of_eq rfl) (hb hby at_96) (fun _ _ => ⟨rfl, e72, (by decide : 8 + 6 ≤ _), (by decide : 20 + 64 ≤ _)⟩)
    dsimp only [Pt.U, Pt.locs, Pt.cells, Pt.slots] at X73 l73 y73 z73 st73 hQ73 S73 gr73
    subst l73 y73 z73
    obtain ⟨X73, S73, hZ73, hown73⟩ := rebS (vm0 := T71.vm) S71 (by rw [e72]; exact hk72) X73 S73 gr73 hZ71 hown71
    obtain ⟨rfl, Nq73, K73, p73_0, p73_1, p73_2, p73_3⟩ := hQ73
    have old73 := old72.keep K73 (allS nn_b72 all0)
    have kp73 := kp72.trans K73 (allS (Or.inr sz_b72) all0)
    have N73 := Fr.app N71 Nq73
    refine Go.step (fun t_ k_ => st73.trans k_) ?_
    show Go p e below _ (T73.setTop (mkF m 99 #[.val (.int p1), .val (.int p2), .val (.int p3), .val (.int p4), .val (.ref mp), .val (.int (5 : Int32)), .val (.ref b62), .val (.ref b71), .unset, .unset, .unset] [(.ref b72)]))
    refine gs.astore X73.here hx (hb hby at_99) rfl (l' := #[.val (.int p1), .val (.int p2), .val (.int p3), .val (.int p4), .val (.ref mp), .val (.int (5 : Int32)), .val (.ref b62), .val (.ref b71), .val (.ref b72), .unset, .unset]) rfl ?_
    refine gs.aload X73.here hx (hb hby at_101) rfl rfl ?_
    have ne_b62_b72 : b62 ≠ b72 := Nat.ne_of_lt (Nat.lt_of_lt_of_le (V70.keep K71 nin0).lt (Nat.le_of_eq g72.symm))
    have f74 := (((V70.keep K71 nin0).ext E72).keep K73 (ninS ne_b62_b72 nin0))
    refine gs.virt 0 X73 hx hZ73 hown73 (am9_6 l Z a0 hw [] cs_ u_4 u_1 u_0 a_NEXT u_2 u_3 aw0 HW (b72) (b62) (k62) (((p3.toInt8.toInt32).toInt8.toInt32)) (((((p3.toUInt32 >>> ((8 : Int32) &&& 31).toUInt32).toInt32).toInt8.toInt32).toInt8.toInt32)) (((((p3.toUInt32 >>> ((16 : Int32) &&& 31).toUInt32).toInt32).toInt8.toInt32).toInt8.toInt32)) (((((p3.toUInt32 >>> ((24 : Int32) &&& 31).toUInt32).toInt32).toInt8.toInt32).toInt8.toInt32)) T73.heap n0 old73 f74 p73_3) (wd hw 62 rfl) (wd hw 35 rfl) (wd hw 58 rfl) (wd hw 59 rfl) (notFace_of_selects (args := #[]) (mvT hZ73 (wd hw 61 rfl))) (wd hw 61 rfl) (wd hw 60 rfl) (by decide) p73_0 (by decide) (by decide) (by rw [hml]; rfl) [] (lenOf pd_14 rfl) rfl (Nat.le_of_eq rfl) (hb hby at_103) rfl rfl (by decide) (by decide) fun T75 Lc75 v75 X75 hQ75 => ?_
    obtain ⟨rfl, Nq75, e75⟩ := hQ75
    have N75 := Fr.app N73 Nq75
    show Go p e below _ (T75.setTop (mkF m 106 _ [(.int (0 : Int32))]))
    refine gs.iload X75.here hx (hb hby at_106) rfl ?_
    have hc108 : ¬ ((5 : Int32) = (0 : Int32)) := by decide
    refine gs.ifYes 115 X75.here hx (hb hby at_108) ((if0 _ _).trans (feq hc108).2) rfl ?_
    refine gs.iconst 0 X75.here hx (hb hby at_115) rfl ?_
    have hc116 : (0 : Int32) = (0 : Int32) := by decide
    refine gs.icmpNo X75.here hx (hb hby at_116) (teq hc116).2 ?_
    refine gs.iconst 1 X75.here hx (hb hby at_119) rfl ?_
    refine gs.goto 124 X75.here hx (hb hby at_120) rfl ?_
    refine gs.istore X75.here hx (hb hby at_124) (l' := #[.val (.int p1), .val (.int p2), .val (.int p3), .val (.int p4), .val (.ref mp), .val (.int (5 : Int32)), .val (.ref b62), .val (.ref b71), .val (.ref b72), .val (.int (1 : Int32)), .unset]) rfl ?_
    refine gs.aload X75.here hx (hb hby at_126) rfl rfl ?_
    refine gs.aload X75.here hx (hb hby at_128) rfl rfl ?_
    obtain ⟨_, _, ⟨T76, L76, k76, n76⟩, -, X76, S76, gr76, ⟨Lc76, hQ76, l76, y76, z76⟩, st76⟩ := callSS X75 hx (y := y_10) hown73 (mvT hZ73 (wd hw 63 rfl)) (mvT hZ73 (wd hw 64 rfl)) (mvT hZ73 (wd hw 35 rfl)) (mvT hZ73 (wd hw 65 rfl)) (by decide) (backOfS (W := 0) (am10_1 l Z a0 hw [] cs_ u_4 u_1 u_0 a_NEXT u_2 u_3 aw0 HW (mp) (b71) T73.heap n0 old73 ) hZ73 (wd hw 65 rfl) (wd hw 35 rfl) (by decide) (by decide)) (g := (mkF m 130 #[.val (.int p1), .val (.int p2), .val (.int p3), .val (.int p4), .val (.ref mp), .val (.int (5 : Int32)), .val (.ref b62), .val (.ref b71), .val (.ref b72), .val (.int (1 : Int32)), .unset] [(.ref b71), (.ref mp)])) rfl (by rw [hml]; rfl) (argsL := [(.ref mp), (.ref b71)]) (rest := []) (lenOf pd_15 rfl) rfl (by show 2 * 0 + _ ≤ _; exact Nat.le_of_eq rfl) (hb hby at_130) (fun _ _ => ⟨rfl, e75, (by decide : 14 + 8 ≤ _), (by decide : 84 + 67 ≤ _)⟩)
    dsimp only [Pt.U, Pt.locs, Pt.cells, Pt.slots] at X76 l76 y76 z76 st76 hQ76 S76 gr76
    subst l76 y76 z76
    obtain ⟨X76, S76, hZ76, hown76⟩ := rebS (vm0 := T73.vm) S73 (by rw [e75]; exact (Nat.le_refl _)) X76 S76 gr76 hZ73 hown73
    obtain ⟨b76_0, b76_1, kx76_0, rfl, gb_b76_0, gb_b76_1, ne_b76_0_b76_1, Nq76, K76, p76_0, p76_1, p76_2, p76_3, p76_4⟩ := hQ76
    have nn_b76_0 : n0 ≤ b76_0 := Nat.le_trans (old_z0 old73) gb_b76_0
    have sz_b76_0 : h0.size ≤ b76_0 := Nat.le_trans kp73.1 gb_b76_0
    have nn_b76_1 : n0 ≤ b76_1 := Nat.le_trans (old_z0 old73) gb_b76_1
    have sz_b76_1 : h0.size ≤ b76_1 := Nat.le_trans kp73.1 gb_b76_1
    have old76 := old73.keep K76 all0
    have kp76 := kp73.trans K76 all0
    have N76 := Fr.app N75 Nq76
    refine Go.step (fun t_ k_ => st76.trans k_) ?_
    show Go p e below _ (T76.setTop (mkF m 133 #[.val (.int p1), .val (.int p2), .val (.int p3), .val (.int p4), .val (.ref mp), .val (.int (5 : Int32)), .val (.ref b62), .val (.ref b71), .val (.ref b72), .val (.int (1 : Int32)), .unset] [(.ref b76_0)]))
    refine gs.virt 0 X76 hx hZ76 hown76 (am9_1 l Z a0 hw [] cs_ u_4 u_1 u_0 a_NEXT u_2 u_3 aw0 HW (b76_0) (b76_1) (kx76_0) T76.heap n0 old76 p76_4 p76_3) (wd hw 62 rfl) (wd hw 35 rfl) (wd hw 58 rfl) (wd hw 59 rfl) (notFace_of_selects (args := #[]) (mvT hZ76 (wd hw 61 rfl))) (wd hw 61 rfl) (wd hw 60 rfl) (by decide) p76_0 (by decide) (by decide) (by rw [hml]; rfl) [] (lenOf pd_14 rfl) rfl (Nat.le_of_eq rfl) (hb hby at_133) rfl rfl (by decide) (by decide) fun T77 Lc77 v77 X77 hQ77 => ?_
    obtain ⟨rfl, Nq77, e77⟩ := hQ77
    have N77 := Fr.app N76 Nq77
    show Go p e below _ (T77.setTop (mkF m 136 _ [(.int (1 : Int32))]))
    refine gs.istore X77.here hx (hb hby at_136) (l' := #[.val (.int p1), .val (.int p2), .val (.int p3), .val (.int p4), .val (.ref mp), .val (.int (5 : Int32)), .val (.ref b62), .val (.ref b71), .val (.ref b72), .val (.int (1 : Int32)), .val (.int (1 : Int32))]) rfl ?_
    refine gs.iload X77.here hx (hb hby at_138) rfl ?_
    have hc140 : ¬ ((1 : Int32) = (0 : Int32)) := by decide
    refine gs.ifNo X77.here hx (hb hby at_140) ((if0 _ _).trans (feq hc140).1) ?_
    refine gs.iload X77.here hx (hb hby at_143) rfl ?_
    have hc145 : ¬ ((1 : Int32) = (0 : Int32)) := by decide
    refine gs.ifNo X77.here hx (hb hby at_145) ((if0 _ _).trans (feq hc145).1) ?_
    refine gs.iconst 1 X77.here hx (hb hby at_148) rfl ?_
    refine gs.goto 153 X77.here hx (hb hby at_149) rfl ?_
    refine GoW.retZ X77 S76 (by rw [e77]; exact (Nat.le_refl _)) hx (t := .boolean) Bd.returns (by simp) Bd.notSynchronized (hb hby at_153) (by rw [e77]; exact ⟨rfl, N77⟩) (by decide) (by decide)
  next =>
    show Go p e below _ (T1.setTop (mkF m 18 #[.val (.int p1), .val (.int p2), .val (.int p3), .val (.int p4), .val (.ref mp), .val (.int (6 : Int32)), .unset, .unset, .unset, .unset, .unset] []))
    refine gs.iload X1.here hx (hb hby at_18) rfl ?_
    obtain ⟨T78, h78, k78, X78, e78, E78, A78, st78⟩ := newP X1 hx hZ (wd hw 8 rfl) e1 (g := (mkF m 20 #[.val (.int p1), .val (.int p2), .val (.int p3), .val (.int p4), .val (.ref mp), .val (.int (6 : Int32)), .unset, .unset, .unset, .unset, .unset] [(.int (6 : Int32))])) rfl (hb hby at_20) rfl (by decide) (cap := 6) (by decide) (by decide) (by decide) (by decide)
    obtain ⟨b78, g78⟩ : ∃ z, z = h0.size := ⟨_, rfl⟩
    rw [← g78] at A78 st78
    have nn_b78 : n0 ≤ b78 := Nat.le_trans (old_z0 Ol) (Nat.le_of_eq g78.symm)
    have sz_b78 : h0.size ≤ b78 := Nat.le_trans kp0.1 (Nat.le_of_eq g78.symm)
    have old78 := Ol.ext E78
    have kp78 := kp0.ext E78
    have hk78 := Nat.le_trans hk0 E78.1
    have V78 : Arv Z h78 b78 k78 .byte (6 : Int32) [(.int (0 : Int32)), (.int (0 : Int32)), (.int (0 : Int32)), (.int (0 : Int32)), (.int (0 : Int32)), (.int (0 : Int32))] (.int (0 : Int32)) := (Arv.new A78 (by decide)).pad (pad_rep [] (.int (0 : Int32)) 6)
    refine Go.fin st78 ?_
    show Go p e below _ (T78.setTop (mkF m 22 _ [(.ref b78)]))
    refine gs.astore X78.here hx (hb hby at_22) rfl (l' := #[.val (.int p1), .val (.int p2), .val (.int p3), .val (.int p4), .val (.ref mp), .val (.int (6 : Int32)), .val (.ref b78), .unset, .unset, .unset, .unset]) rfl ?_
    refine gs.iload X78.here hx (hb hby at_24) rfl ?_
    have hc26 : (0 : Int32) < (6 : Int32) := by decide
    refine gs.ifNo X78.here hx (hb hby at_26) ((if0 _ _).trans (tlt hc26).2.2.2) ?_
    refine gs.aload X78.here hx (hb hby at_29) rfl rfl ?_
    refine gs.iconst 0 X78.here hx (hb hby at_31) rfl ?_
    refine gs.iloadN X78.here hx (hb hby at_32) rfl ?_
    refine Go.fin (fun t_ k_ => XS.i2b X78.here hx rfl (hb hby at_33) rfl k_) ?_
    show Go p e below _ (T78.setTop (mkF m 34 _ [(.int (p3.toInt8.toInt32)), (.int (0 : Int32)), (.ref b78)]))
    obtain ⟨cl79, Ar79, q79, Sz79, Ng79, Hs79, G79⟩ := id V78
    have hin79 : ¬ ((0 : Int32) < 0 ∨ cl79.slots.size ≤ ((0 : Int32)).toNatClampNeg) := inb_of Sz79 ⟨by decide, by decide⟩
    obtain ⟨T80, h80, X80, e80, W80, st80⟩ := stB X78 hx hZ e78 Ar79 (j := (0 : Int32)) hin79 (g := (mkF m 34 #[.val (.int p1), .val (.int p2), .val (.int p3), .val (.int p4), .val (.ref mp), .val (.int (6 : Int32)), .val (.ref b78), .unset, .unset, .unset, .unset] [(.int (p3.toInt8.toInt32)), (.int (0 : Int32)), (.ref b78)])) rfl rfl (hb hby at_34)
    have N80 := Fr.snoc X80 N1 nn_b78
    have old80 := old78.wr W80 nn_b78
    have kp80 := kp78.wr W80 (Or.inr sz_b78)
    have hk80 := Nat.le_trans hk78 (Keep.of_wr W80).1
    have V80 : Arv Z h80 b78 k78 .byte (6 : Int32) [(.int ((p3.toInt8.toInt32).toInt8.toInt32)), (.int (0 : Int32)), (.int (0 : Int32)), (.int (0 : Int32)), (.int (0 : Int32)), (.int (0 : Int32))] (.int (0 : Int32)) := Arv.set Ar79 q79 Sz79 Ng79 Hs79 G79 (fits_nar_byte _) W80 0 rfl (Nat.le_of_ble_eq_true rfl)
    refine Go.fin st80 ?_
    show Go p e below _ (T80.setTop (mkF m 35 _ []))
    refine gs.iload X80.here hx (hb hby at_35) rfl ?_
    refine gs.iconst 1 X80.here hx (hb hby at_37) rfl ?_
    have hc38 : (1 : Int32) < (6 : Int32) := by decide
    refine gs.icmpNo X80.here hx (hb hby at_38) (tlt hc38).2.2.2 ?_
    refine gs.aload X80.here hx (hb hby at_41) rfl rfl ?_
    refine gs.iconst 1 X80.here hx (hb hby at_43) rfl ?_
    refine gs.iloadN X80.here hx (hb hby at_44) rfl ?_
    refine gs.bipush 8 X80.here hx (hb hby at_45) rfl ?_
    refine Go.fin (fun t_ k_ => XS.iushr X80.here hx rfl (hb hby at_47) rfl k_) ?_
    show Go p e below _ (T80.setTop (mkF m 48 _ [(.int ((p3.toUInt32 >>> ((8 : Int32) &&& 31).toUInt32).toInt32)), (.int (1 : Int32)), (.ref b78)]))
    refine Go.fin (fun t_ k_ => XS.i2b X80.here hx rfl (hb hby at_48) rfl k_) ?_
    show Go p e below _ (T80.setTop (mkF m 49 _ [(.int (((p3.toUInt32 >>> ((8 : Int32) &&& 31).toUInt32).toInt32).toInt8.toInt32)), (.int (1 : Int32)), (.ref b78)]))
    obtain ⟨cl81, Ar81, q81, Sz81, Ng81, Hs81, G81⟩ := id V80
    have hin81 : ¬ ((1 : Int32) < 0 ∨ cl81.slots.size ≤ ((1 : Int32)).toNatClampNeg) := inb_of Sz81 ⟨by decide, by decide⟩
    obtain ⟨T82, h82, X82, e82, W82, st82⟩ := stB X80 hx hZ e80 Ar81 (j := (1 : Int32)) hin81 (g := (mkF m 49 #[.val (.int p1), .val (.int p2), .val (.int p3), .val (.int p4), .val (.ref mp), .val (.int (6 : Int32)), .val (.ref b78), .unset, .unset, .unset, .unset] [(.int (((p3.toUInt32 >>> ((8 : Int32) &&& 31).toUInt32).toInt32).toInt8.toInt32)), (.int (1 : Int32)), (.ref b78)])) rfl rfl (hb hby at_49)
    have N82 := Fr.snoc X82 N80 nn_b78
    have old82 := old80.wr W82 nn_b78
    have kp82 := kp80.wr W82 (Or.inr sz_b78)
    have hk82 := Nat.le_trans hk80 (Keep.of_wr W82).1
    have V82 : Arv Z h82 b78 k78 .byte (6 : Int32) [(.int ((p3.toInt8.toInt32).toInt8.toInt32)), (.int ((((p3.toUInt32 >>> ((8 : Int32) &&& 31).toUInt32).toInt32).toInt8.toInt32).toInt8.toInt32)), (.int (0 : Int32)), (.int (0 : Int32)), (.int (0 : Int32)), (.int (0 : Int32))] (.int (0 : Int32)) := Arv.set Ar81 q81 Sz81 Ng81 Hs81 G81 (fits_nar_byte _) W82 1 rfl (Nat.le_of_ble_eq_true rfl)
    refine Go.fin st82 ?_
    show Go p e below _ (T82.setTop (mkF m 50 _ []))
    refine gs.iload X82.here hx (hb hby at_50) rfl ?_
    refine gs.iconst 2 X82.here hx (hb hby at_52) rfl ?_
    have hc53 : (2 : Int32) < (6 : Int32) := by decide
    refine gs.icmpNo X82.here hx (hb hby at_53) (tlt hc53).2.2.2 ?_
    refine gs.aload X82.here hx (hb hby at_56) rfl rfl ?_
    refine gs.iconst 2 X82.here hx (hb hby at_58) rfl ?_
    refine gs.iloadN X82.here hx (hb hby at_59) rfl ?_
    refine gs.bipush 16 X82.here hx (hb hby at_60) rfl ?_
    refine Go.fin (fun t_ k_ => XS.iushr X82.here hx rfl (hb hby at_62) rfl k_) ?_
    show Go p e below _ (T82.setTop (mkF m 63 _ [(.int ((p3.toUInt32 >>> ((16 : Int32) &&& 31).toUInt32).toInt32)), (.int (2 : Int32)), (.ref b78)]))
    refine Go.fin (fun t_ k_ => XS.i2b X82.here hx rfl (hb hby at_63) rfl k_) ?_
    show Go p e below _ (T82.setTop (mkF m 64 _ [(.int (((p3.toUInt32 >>> ((16 : Int32) &&& 31).toUInt32).toInt32).toInt8.toInt32)), (.int (2 : Int32)), (.ref b78)]))
    obtain ⟨cl83, Ar83, q83, Sz83, Ng83, Hs83, G83⟩ := id V82
    have hin83 : ¬ ((2 : Int32) < 0 ∨ cl83.slots.size ≤ ((2 : Int32)).toNatClampNeg) := inb_of Sz83 ⟨by decide, by decide⟩
    obtain ⟨T84, h84, X84, e84, W84, st84⟩ := stB X82 hx hZ e82 Ar83 (j := (2 : Int32)) hin83 (g := (mkF m 64 #[.val (.int p1), .val (.int p2), .val (.int p3), .val (.int p4), .val (.ref mp), .val (.int (6 : Int32)), .val (.ref b78), .unset, .unset, .unset, .unset] [(.int (((p3.toUInt32 >>> ((16 : Int32) &&& 31).toUInt32).toInt32).toInt8.toInt32)), (.int (2 : Int32)), (.ref b78)])) rfl rfl (hb hby at_64)
    have N84 := Fr.snoc X84 N82 nn_b78
    have old84 := old82.wr W84 nn_b78
    have kp84 := kp82.wr W84 (Or.inr sz_b78)
    have hk84 := Nat.le_trans hk82 (Keep.of_wr W84).1
    have V84 : Arv Z h84 b78 k78 .byte (6 : Int32) [(.int ((p3.toInt8.toInt32).toInt8.toInt32)), (.int ((((p3.toUInt32 >>> ((8 : Int32) &&& 31).toUInt32).toInt32).toInt8.toInt32).toInt8.toInt32)), (.int ((((p3.toUInt32 >>> ((16 : Int32) &&& 31).toUInt32).toInt32).toInt8.toInt32).toInt8.toInt32)), (.int (0 : Int32)), (.int (0 : Int32)), (.int (0 : Int32))] (.int (0 : Int32)) := Arv.set Ar83 q83 Sz83 Ng83 Hs83 G83 (fits_nar_byte _) W84 2 rfl (Nat.le_of_ble_eq_true rfl)
    refine Go.fin st84 ?_
    show Go p e below _ (T84.setTop (mkF m 65 _ []))
    refine gs.iload X84.here hx (hb hby at_65) rfl ?_
    refine gs.iconst 3 X84.here hx (hb hby at_67) rfl ?_
    have hc68 : (3 : Int32) < (6 : Int32) := by decide
    refine gs.icmpNo X84.here hx (hb hby at_68) (tlt hc68).2.2.2 ?_
    refine gs.aload X84.here hx (hb hby at_71) rfl rfl ?_
    refine gs.iconst 3 X84.here hx (hb hby at_73) rfl ?_
    refine gs.iloadN X84.here hx (hb hby at_74) rfl ?_
    refine gs.bipush 24 X84.here hx (hb hby at_75) rfl ?_
    refine Go.fin (fun t_ k_ => XS.iushr X84.here hx rfl (hb hby at_77) rfl k_) ?_
    show Go p e below _ (T84.setTop (mkF m 78 _ [(.int ((p3.toUInt32 >>> ((24 : Int32) &&& 31).toUInt32).toInt32)), (.int (3 : Int32)), (.ref b78)]))
    refine Go.fin (fun t_ k_ => XS.i2b X84.here hx rfl (hb hby at_78) rfl k_) ?_
    show Go p e below _ (T84.setTop (mkF m 79 _ [(.int (((p3.toUInt32 >>> ((24 : Int32) &&& 31).toUInt32).toInt32).toInt8.toInt32)), (.int (3 : Int32)), (.ref b78)]))
    obtain ⟨cl85, Ar85, q85, Sz85, Ng85, Hs85, G85⟩ := id V84
    have hin85 : ¬ ((3 : Int32) < 0 ∨ cl85.slots.size ≤ ((3 : Int32)).toNatClampNeg) := inb_of Sz85 ⟨by decide, by decide⟩
    obtain ⟨T86, h86, X86, e86, W86, st86⟩ := stB X84 hx hZ e84 Ar85 (j := (3 : Int32)) hin85 (g := (mkF m 79 #[.val (.int p1), .val (.int p2), .val (.int p3), .val (.int p4), .val (.ref mp), .val (.int (6 : Int32)), .val (.ref b78), .unset, .unset, .unset, .unset] [(.int (((p3.toUInt32 >>> ((24 : Int32) &&& 31).toUInt32).toInt32).toInt8.toInt32)), (.int (3 : Int32)), (.ref b78)])) rfl rfl (hb hby at_79)
    have N86 := Fr.snoc X86 N84 nn_b78
    have old86 := old84.wr W86 nn_b78
    have kp86 := kp84.wr W86 (Or.inr sz_b78)
    have hk86 := Nat.le_trans hk84 (Keep.of_wr W86).1
    have V86 : Arv Z h86 b78 k78 .byte (6 : Int32) [(.int ((p3.toInt8.toInt32).toInt8.toInt32)), (.int ((((p3.toUInt32 >>> ((8 : Int32) &&& 31).toUInt32).toInt32).toInt8.toInt32).toInt8.toInt32)), (.int ((((p3.toUInt32 >>> ((16 : Int32) &&& 31).toUInt32).toInt32).toInt8.toInt32).toInt8.toInt32)), (.int ((((p3.toUInt32 >>> ((24 : Int32) &&& 31).toUInt32).toInt32).toInt8.toInt32).toInt8.toInt32)), (.int (0 : Int32)), (.int (0 : Int32))] (.int (0 : Int32)) := Arv.set Ar85 q85 Sz85 Ng85 Hs85 G85 (fits_nar_byte _) W86 3 rfl (Nat.le_of_ble_eq_true rfl)
    refine Go.fin st86 ?_
    show Go p e below _ (T86.setTop (mkF m 80 _ []))
    refine gs.iloadN X86.here hx (hb hby at_80) rfl ?_
    obtain ⟨_, _, ⟨T87, L87, k87, n87⟩, -, X87, S87, gr87, ⟨Lc87, hQ87, l87, y87, z87, C87⟩, st87⟩ := callSS X86 hx (y := y_2) hown (mvT hZ (wd hw 9 rfl)) (mvT hZ (wd hw 10 rfl)) (mvT hZ (wd hw 3 rfl)) (mvT hZ (wd hw 11 rfl)) (by decide) (backOfSH (s := s) (vm0 := s.vm) (W := 0) (rm2 l Z a0 hw [] cs_ u_4 u_1 u_0 a_NEXT u_2 u_3 aw0 HW p4 h86 n0 old86 ) hZ (wd hw 11 rfl) (wd hw 3 rfl) (by decide) (by decide) (hEL_ hw) (CHr.keep kp86 sf0 Hc0).1) (g := (mkF m 81 #[.val (.int p1), .val (.int p2), .val (.int p3), .val (.int p4), .val (.ref mp), .val (.int (6 : Int32)), .val (.ref b78), .unset, .unset, .unset, .unset] [(.int p4)])) rfl (by rw [hml]; rfl) (argsL := [(.int p4)]) (rest := []) (lenOf pd_10 rfl) rfl (by show 2 * 0 + _ ≤ _; exact Nat.le_of_eq rfl) (hb hby at_81) (fun _ _ => ⟨rfl, e86, (by decide : 1 + 6 ≤ _), (by decide : 6 + 12 ≤ _)⟩)
    dsimp only [Pt.U, Pt.locs, Pt.cells, Pt.slots] at X87 l87 y87 z87 st87 hQ87 S87 gr87 C87
    subst l87 y87 z87
    have chb87 := (CHr.keep kp86 sf0 Hc0).trans C87
    obtain ⟨X87, S87, hZ87, hown87⟩ := rebS (vm0 := s.vm) S0 (by rw [e86]; exact hk86) X87 S87 gr87 hZ hown
    obtain ⟨b87, rfl, gb_b87, Nq87, K87, p87_0⟩ := hQ87
    have nn_b87 : n0 ≤ b87 := Nat.le_trans (old_z0 old86) gb_b87
    have sz_b87 : h0.size ≤ b87 := Nat.le_trans kp86.1 gb_b87
    have old87 := old86.keep K87 all0
    have kp87 := kp86.trans K87 all0
    have N87 := Fr.app N86 Nq87
    refine Go.step (fun t_ k_ => st87.trans k_) ?_
    show Go p e below _ (T87.setTop (mkF m 84 #[.val (.int p1), .val (.int p2), .val (.int p3), .val (.int p4), .val (.ref mp), .val (.int (6 : Int32)), .val (.ref b78), .unset, .unset, .unset, .unset] [(.ref b87)]))
    refine gs.astore X87.here hx (hb hby at_84) rfl (l' := #[.val (.int p1), .val (.int p2), .val (.int p3), .val (.int p4), .val (.ref mp), .val (.int (6 : Int32)), .val (.ref b78), .val (.ref b87), .unset, .unset, .unset]) rfl ?_
    obtain ⟨T88, h88, X88, e88, E88, A88, D88, Y88, st88⟩ := newO X87 hx hZ87 hown87 (wd hw 33 rfl) (wd hw 34 rfl) (wd hw 35 rfl) rfl (g := (mkF m 86 #[.val (.int p1), .val (.int p2), .val (.int p3), .val (.int p4), .val (.ref mp), .val (.int (6 : Int32)), .val (.ref b78), .val (.ref b87), .unset, .unset, .unset] [])) rfl (hb hby at_86) (by decide) (by decide)
    obtain ⟨b88, g88⟩ : ∃ z, z = T87.heap.size := ⟨_, rfl⟩
    rw [← g88] at A88 D88 Y88 st88
    have nn_b88 : n0 ≤ b88 := Nat.le_trans (old_z0 old87) (Nat.le_of_eq g88.symm)
    have sz_b88 : h0.size ≤ b88 := Nat.le_trans kp87.1 (Nat.le_of_eq g88.symm)
    have old88 := old87.ext E88
    have kp88 := kp87.ext E88
    have hk88 := Nat.le_trans (Nat.le_refl _) E88.1
    have F88_map : Fld Z h88 b88 "com/example/onward_schema/onwardschema/store/StoreLog$Entry" "map" "Lcom/example/onward_schema/onwardschema/store/StoreMap;" .null := D88 (Or.inr (wd hw 53 rfl)) (ty := (.object "com/example/onward_schema/onwardschema/store/StoreMap")) (by decide)
    have F88_key : Fld Z h88 b88 "com/example/onward_schema/onwardschema/store/StoreLog$Entry" "key" "Ljava/lang/String;" .null := D88 (Or.inr (wd hw 55 rfl)) (ty := (.object "java/lang/String")) (by decide)
    have F88_payload : Fld Z h88 b88 "com/example/onward_schema/onwardschema/store/StoreLog$Entry" "payload" "[B" .null := D88 (Or.inr (wd hw 57 rfl)) (ty := (.array .byte)) (by decide)
    refine Go.fin st88 ?_
    show Go p e below _ (T88.setTop (mkF m 89 _ [(.ref b88)]))
    refine gs.dup X88.here hx (hb hby at_89) rfl ?_
    refine gs.aload X88.here hx (hb hby at_90) rfl rfl ?_
    refine gs.aload X88.here hx (hb hby at_92) rfl rfl ?_
    refine gs.aload X88.here hx (hb hby at_94) rfl rfl ?_
    obtain ⟨_, _, ⟨T89, L89, k89, n89⟩, -, X89, S89, gr89, ⟨Lc89, hQ89, l89, y89, z89⟩, st89⟩ := X88.specialBackS hx (y := y_6) rfl hown87 (mvT hZ87 (wd hw 36 rfl)) (mvT hZ87 (wd hw 37 rfl)) (mvT hZ87 (wd hw 38 rfl)) (by decide) (backOfS (W := 1) (am6_1 l Z a0 hw [] cs_ u_4 u_1 u_0 a_NEXT u_2 u_3 aw0 HW (b88) (mp) (b87) (b78) h88 n0 old88 A88 F88_map F88_key F88_payload nn_b88) hZ87 (wd hw 38 rfl) (wd hw 35 rfl) (by decide) (by decide)) (g := (mkF m 96 #[.val (.int p1), .val (.int p2), .val (.int p3), .val (.int p4), .val (.ref mp), .val (.int (6 : Int32)), .val (.ref b78), .val (.ref b87), .unset, .unset, .unset] [(.ref b78), (.ref b87), (.ref mp), (.ref b88), (.ref b88)])) rfl (by rw [hml]; rfl) (Steps.refl _) (a := b88) (argsL := [(.ref mp), (.ref b87), (.ref b78)]) (rest := [(.ref b88)]) (lenOf pd_13 rfl) rfl (by show 2 * 0 + _ ≤ _; exact Nat.le_of_eq rfl) (hb hby at_96) (fun _ _ => ⟨rfl, e88, (by decide : 8 + 6 ≤ _), (by decide : 21 + 64 ≤ _)⟩)
    dsimp only [Pt.U, Pt.locs, Pt.cells, Pt.slots] at X89 l89 y89 z89 st89 hQ89 S89 gr89
    subst l89 y89 z89
    obtain ⟨X89, S89, hZ89, hown89⟩ := rebS (vm0 := T87.vm) S87 (by rw [e88]; exact hk88) X89 S89 gr89 hZ87 hown87
    obtain ⟨rfl, Nq89, K89, p89_0, p89_1, p89_2, p89_3⟩ := hQ89
    have old89 := old88.keep K89 (allS nn_b88 all0)
    have kp89 := kp88.trans K89 (allS (Or.inr sz_b88) all0)
    have N89 := Fr.app N87 Nq89
    refine Go.step (fun t_ k_ => st89.trans k_) ?_
    show Go p e below _ (T89.setTop (mkF m 99 #[.val (.int p1), .val (.int p2), .val (.int p3), .val (.int p4), .val (.ref mp), .val (.int (6 : Int32)), .val (.ref b78), .val (.ref b87), .unset, .unset, .unset] [(.ref b88)]))
    refine gs.astore X89.here hx (hb hby at_99) rfl (l' := #[.val (.int p1), .val (.int p2), .val (.int p3), .val (.int p4), .val (.ref mp), .val (.int (6 : Int32)), .val (.ref b78), .val (.ref b87), .val (.ref b88), .unset, .unset]) rfl ?_
    refine gs.aload X89.here hx (hb hby at_101) rfl rfl ?_
    have ne_b78_b88 : b78 ≠ b88 := Nat.ne_of_lt (Nat.lt_of_lt_of_le (V86.keep K87 nin0).lt (Nat.le_of_eq g88.symm))
    have f90 := (((V86.keep K87 nin0).ext E88).keep K89 (ninS ne_b78_b88 nin0))
    refine gs.virt 0 X89 hx hZ89 hown89 (am9_7 l Z a0 hw [] cs_ u_4 u_1 u_0 a_NEXT u_2 u_3 aw0 HW (b88) (b78) (k78) (((p3.toInt8.toInt32).toInt8.toInt32)) (((((p3.toUInt32 >>> ((8 : Int32) &&& 31).toUInt32).toInt32).toInt8.toInt32).toInt8.toInt32)) (((((p3.toUInt32 >>> ((16 : Int32) &&& 31).toUInt32).toInt32).toInt8.toInt32).toInt8.toInt32)) (((((p3.toUInt32 >>> ((24 : Int32) &&& 31).toUInt32).toInt32).toInt8.toInt32).toInt8.toInt32)) T89.heap n0 old89 f90 p89_3) (wd hw 62 rfl) (wd hw 35 rfl) (wd hw 58 rfl) (wd hw 59 rfl) (notFace_of_selects (args := #[]) (mvT hZ89 (wd hw 61 rfl))) (wd hw 61 rfl) (wd hw 60 rfl) (by decide) p89_0 (by decide) (by decide) (by rw [hml]; rfl) [] (lenOf pd_14 rfl) rfl (Nat.le_of_eq rfl) (hb hby at_103) rfl rfl (by decide) (by decide) fun T91 Lc91 v91 X91 hQ91 => ?_
    obtain ⟨rfl, Nq91, e91⟩ := hQ91
    have N91 := Fr.app N89 Nq91
    show Go p e below _ (T91.setTop (mkF m 106 _ [(.int (0 : Int32))]))
    refine gs.iload X91.here hx (hb hby at_106) rfl ?_
    have hc108 : ¬ ((6 : Int32) = (0 : Int32)) := by decide
    refine gs.ifYes 115 X91.here hx (hb hby at_108) ((if0 _ _).trans (feq hc108).2) rfl ?_
    refine gs.iconst 0 X91.here hx (hb hby at_115) rfl ?_
    have hc116 : (0 : Int32) = (0 : Int32) := by decide
    refine gs.icmpNo X91.here hx (hb hby at_116) (teq hc116).2 ?_
    refine gs.iconst 1 X91.here hx (hb hby at_119) rfl ?_
    refine gs.goto 124 X91.here hx (hb hby at_120) rfl ?_
    refine gs.istore X91.here hx (hb hby at_124) (l' := #[.val (.int p1), .val (.int p2), .val (.int p3), .val (.int p4), .val (.ref mp), .val (.int (6 : Int32)), .val (.ref b78), .val (.ref b87), .val (.ref b88), .val (.int (1 : Int32)), .unset]) rfl ?_
    refine gs.aload X91.here hx (hb hby at_126) rfl rfl ?_
    refine gs.aload X91.here hx (hb hby at_128) rfl rfl ?_
    obtain ⟨_, _, ⟨T92, L92, k92, n92⟩, -, X92, S92, gr92, ⟨Lc92, hQ92, l92, y92, z92⟩, st92⟩ := callSS X91 hx (y := y_10) hown89 (mvT hZ89 (wd hw 63 rfl)) (mvT hZ89 (wd hw 64 rfl)) (mvT hZ89 (wd hw 35 rfl)) (mvT hZ89 (wd hw 65 rfl)) (by decide) (backOfS (W := 0) (am10_1 l Z a0 hw [] cs_ u_4 u_1 u_0 a_NEXT u_2 u_3 aw0 HW (mp) (b87) T89.heap n0 old89 ) hZ89 (wd hw 65 rfl) (wd hw 35 rfl) (by decide) (by decide)) (g := (mkF m 130 #[.val (.int p1), .val (.int p2), .val (.int p3), .val (.int p4), .val (.ref mp), .val (.int (6 : Int32)), .val (.ref b78), .val (.ref b87), .val (.ref b88), .val (.int (1 : Int32)), .unset] [(.ref b87), (.ref mp)])) rfl (by rw [hml]; rfl) (argsL := [(.ref mp), (.ref b87)]) (rest := []) (lenOf pd_15 rfl) rfl (by show 2 * 0 + _ ≤ _; exact Nat.le_of_eq rfl) (hb hby at_130) (fun _ _ => ⟨rfl, e91, (by decide : 14 + 8 ≤ _), (by decide : 85 + 67 ≤ _)⟩)
    dsimp only [Pt.U, Pt.locs, Pt.cells, Pt.slots] at X92 l92 y92 z92 st92 hQ92 S92 gr92
    subst l92 y92 z92
    obtain ⟨X92, S92, hZ92, hown92⟩ := rebS (vm0 := T89.vm) S89 (by rw [e91]; exact (Nat.le_refl _)) X92 S92 gr92 hZ89 hown89
    obtain ⟨b92_0, b92_1, kx92_0, rfl, gb_b92_0, gb_b92_1, ne_b92_0_b92_1, Nq92, K92, p92_0, p92_1, p92_2, p92_3, p92_4⟩ := hQ92
    have nn_b92_0 : n0 ≤ b92_0 := Nat.le_trans (old_z0 old89) gb_b92_0
    have sz_b92_0 : h0.size ≤ b92_0 := Nat.le_trans kp89.1 gb_b92_0
    have nn_b92_1 : n0 ≤ b92_1 := Nat.le_trans (old_z0 old89) gb_b92_1
    have sz_b92_1 : h0.size ≤ b92_1 := Nat.le_trans kp89.1 gb_b92_1
    have old92 := old89.keep K92 all0
    have kp92 := kp89.trans K92 all0
    have N92 := Fr.app N91 Nq92
    refine Go.step (fun t_ k_ => st92.trans k_) ?_
    show Go p e below _ (T92.setTop (mkF m 133 #[.val (.int p1), .val (.int p2), .val (.int p3), .val (.int p4), .val (.ref mp), .val (.int (6 : Int32)), .val (.ref b78), .val (.ref b87), .val (.ref b88), .val (.int (1 : Int32)), .unset] [(.ref b92_0)]))
    refine gs.virt 0 X92 hx hZ92 hown92 (am9_1 l Z a0 hw [] cs_ u_4 u_1 u_0 a_NEXT u_2 u_3 aw0 HW (b92_0) (b92_1) (kx92_0) T92.heap n0 old92 p92_4 p92_3) (wd hw 62 rfl) (wd hw 35 rfl) (wd hw 58 rfl) (wd hw 59 rfl) (notFace_of_selects (args := #[]) (mvT hZ92 (wd hw 61 rfl))) (wd hw 61 rfl) (wd hw 60 rfl) (by decide) p92_0 (by decide) (by decide) (by rw [hml]; rfl) [] (lenOf pd_14 rfl) rfl (Nat.le_of_eq rfl) (hb hby at_133) rfl rfl (by decide) (by decide) fun T93 Lc93 v93 X93 hQ93 => ?_
    obtain ⟨rfl, Nq93, e93⟩ := hQ93
    have N93 := Fr.app N92 Nq93
    show Go p e below _ (T93.setTop (mkF m 136 _ [(.int (1 : Int32))]))
    refine gs.istore X93.here hx (hb hby at_136) (l' := #[.val (.int p1), .val (.int p2), .val (.int p3), .val (.int p4), .val (.ref mp), .val (.int (6 : Int32)), .val (.ref b78), .val (.ref b87), .val (.ref b88), .val (.int (1 : Int32)), .val (.int (1 : Int32))]) rfl ?_
    refine gs.iload X93.here hx (hb hby at_138) rfl ?_
    have hc140 : ¬ ((1 : Int32) = (0 : Int32)) := by decide
    refine gs.ifNo X93.here hx (hb hby at_140) ((if0 _ _).trans (feq hc140).1) ?_
    refine gs.iload X93.here hx (hb hby at_143) rfl ?_
    have hc145 : ¬ ((1 : Int32) = (0 : Int32)) := by decide
    refine gs.ifNo X93.here hx (hb hby at_145) ((if0 _ _).trans (feq hc145).1) ?_
    refine gs.iconst 1 X93.here hx (hb hby at_148) rfl ?_
    refine gs.goto 153 X93.here hx (hb hby at_149) rfl ?_
    refine GoW.retZ X93 S92 (by rw [e93]; exact (Nat.le_refl _)) hx (t := .boolean) Bd.returns (by simp) Bd.notSynchronized (hb hby at_153) (by rw [e93]; exact ⟨rfl, N93⟩) (by decide) (by decide)
  next =>
    show Go p e below _ (T1.setTop (mkF m 18 #[.val (.int p1), .val (.int p2), .val (.int p3), .val (.int p4), .val (.ref mp), .val (.int (7 : Int32)), .unset, .unset, .unset, .unset, .unset] []))
    refine gs.iload X1.here hx (hb hby at_18) rfl ?_
    obtain ⟨T94, h94, k94, X94, e94, E94, A94, st94⟩ := newP X1 hx hZ (wd hw 8 rfl) e1 (g := (mkF m 20 #[.val (.int p1), .val (.int p2), .val (.int p3), .val (.int p4), .val (.ref mp), .val (.int (7 : Int32)), .unset, .unset, .unset, .unset, .unset] [(.int (7 : Int32))])) rfl (hb hby at_20) rfl (by decide) (cap := 7) (by decide) (by decide) (by decide) (by decide)
    obtain ⟨b94, g94⟩ : ∃ z, z = h0.size := ⟨_, rfl⟩
    rw [← g94] at A94 st94
    have nn_b94 : n0 ≤ b94 := Nat.le_trans (old_z0 Ol) (Nat.le_of_eq g94.symm)
    have sz_b94 : h0.size ≤ b94 := Nat.le_trans kp0.1 (Nat.le_of_eq g94.symm)
    have old94 := Ol.ext E94
    have kp94 := kp0.ext E94
    have hk94 := Nat.le_trans hk0 E94.1
    have V94 : Arv Z h94 b94 k94 .byte (7 : Int32) [(.int (0 : Int32)), (.int (0 : Int32)), (.int (0 : Int32)), (.int (0 : Int32)), (.int (0 : Int32)), (.int (0 : Int32)), (.int (0 : Int32))] (.int (0 : Int32)) := (Arv.new A94 (by decide)).pad (pad_rep [] (.int (0 : Int32)) 7)
    refine Go.fin st94 ?_
    show Go p e below _ (T94.setTop (mkF m 22 _ [(.ref b94)]))
    refine gs.astore X94.here hx (hb hby at_22) rfl (l' := #[.val (.int p1), .val (.int p2), .val (.int p3), .val (.int p4), .val (.ref mp), .val (.int (7 : Int32)), .val (.ref b94), .unset, .unset, .unset, .unset]) rfl ?_
    refine gs.iload X94.here hx (hb hby at_24) rfl ?_
    have hc26 : (0 : Int32) < (7 : Int32) := by decide
    refine gs.ifNo X94.here hx (hb hby at_26) ((if0 _ _).trans (tlt hc26).2.2.2) ?_
    refine gs.aload X94.here hx (hb hby at_29) rfl rfl ?_
    refine gs.iconst 0 X94.here hx (hb hby at_31) rfl ?_
    refine gs.iloadN X94.here hx (hb hby at_32) rfl ?_
    refine Go.fin (fun t_ k_ => XS.i2b X94.here hx rfl (hb hby at_33) rfl k_) ?_
    show Go p e below _ (T94.setTop (mkF m 34 _ [(.int (p3.toInt8.toInt32)), (.int (0 : Int32)), (.ref b94)]))
    obtain ⟨cl95, Ar95, q95, Sz95, Ng95, Hs95, G95⟩ := id V94
    have hin95 : ¬ ((0 : Int32) < 0 ∨ cl95.slots.size ≤ ((0 : Int32)).toNatClampNeg) := inb_of Sz95 ⟨by decide, by decide⟩
    obtain ⟨T96, h96, X96, e96, W96, st96⟩ := stB X94 hx hZ e94 Ar95 (j := (0 : Int32)) hin95 (g := (mkF m 34 #[.val (.int p1), .val (.int p2), .val (.int p3), .val (.int p4), .val (.ref mp), .val (.int (7 : Int32)), .val (.ref b94), .unset, .unset, .unset, .unset] [(.int (p3.toInt8.toInt32)), (.int (0 : Int32)), (.ref b94)])) rfl rfl (hb hby at_34)
    have N96 := Fr.snoc X96 N1 nn_b94
    have old96 := old94.wr W96 nn_b94
    have kp96 := kp94.wr W96 (Or.inr sz_b94)
    have hk96 := Nat.le_trans hk94 (Keep.of_wr W96).1
    have V96 : Arv Z h96 b94 k94 .byte (7 : Int32) [(.int ((p3.toInt8.toInt32).toInt8.toInt32)), (.int (0 : Int32)), (.int (0 : Int32)), (.int (0 : Int32)), (.int (0 : Int32)), (.int (0 : Int32)), (.int (0 : Int32))] (.int (0 : Int32)) := Arv.set Ar95 q95 Sz95 Ng95 Hs95 G95 (fits_nar_byte _) W96 0 rfl (Nat.le_of_ble_eq_true rfl)
    refine Go.fin st96 ?_
    show Go p e below _ (T96.setTop (mkF m 35 _ []))
    refine gs.iload X96.here hx (hb hby at_35) rfl ?_
    refine gs.iconst 1 X96.here hx (hb hby at_37) rfl ?_
    have hc38 : (1 : Int32) < (7 : Int32) := by decide
    refine gs.icmpNo X96.here hx (hb hby at_38) (tlt hc38).2.2.2 ?_
    refine gs.aload X96.here hx (hb hby at_41) rfl rfl ?_
    refine gs.iconst 1 X96.here hx (hb hby at_43) rfl ?_
    refine gs.iloadN X96.here hx (hb hby at_44) rfl ?_
    refine gs.bipush 8 X96.here hx (hb hby at_45) rfl ?_
    refine Go.fin (fun t_ k_ => XS.iushr X96.here hx rfl (hb hby at_47) rfl k_) ?_
    show Go p e below _ (T96.setTop (mkF m 48 _ [(.int ((p3.toUInt32 >>> ((8 : Int32) &&& 31).toUInt32).toInt32)), (.int (1 : Int32)), (.ref b94)]))
    refine Go.fin (fun t_ k_ => XS.i2b X96.here hx rfl (hb hby at_48) rfl k_) ?_
    show Go p e below _ (T96.setTop (mkF m 49 _ [(.int (((p3.toUInt32 >>> ((8 : Int32) &&& 31).toUInt32).toInt32).toInt8.toInt32)), (.int (1 : Int32)), (.ref b94)]))
    obtain ⟨cl97, Ar97, q97, Sz97, Ng97, Hs97, G97⟩ := id V96
    have hin97 : ¬ ((1 : Int32) < 0 ∨ cl97.slots.size ≤ ((1 : Int32)).toNatClampNeg) := inb_of Sz97 ⟨by decide, by decide⟩
    obtain ⟨T98, h98, X98, e98, W98, st98⟩ := stB X96 hx hZ e96 Ar97 (j := (1 : Int32)) hin97 (g := (mkF m 49 #[.val (.int p1), .val (.int p2), .val (.int p3), .val (.int p4), .val (.ref mp), .val (.int (7 : Int32)), .val (.ref b94), .unset, .unset, .unset, .unset] [(.int (((p3.toUInt32 >>> ((8 : Int32) &&& 31).toUInt32).toInt32).toInt8.toInt32)), (.int (1 : Int32)), (.ref b94)])) rfl rfl (hb hby at_49)
    have N98 := Fr.snoc X98 N96 nn_b94
    have old98 := old96.wr W98 nn_b94
    have kp98 := kp96.wr W98 (Or.inr sz_b94)
    have hk98 := Nat.le_trans hk96 (Keep.of_wr W98).1
    have V98 : Arv Z h98 b94 k94 .byte (7 : Int32) [(.int ((p3.toInt8.toInt32).toInt8.toInt32)), (.int ((((p3.toUInt32 >>> ((8 : Int32) &&& 31).toUInt32).toInt32).toInt8.toInt32).toInt8.toInt32)), (.int (0 : Int32)), (.int (0 : Int32)), (.int (0 : Int32)), (.int (0 : Int32)), (.int (0 : Int32))] (.int (0 : Int32)) := Arv.set Ar97 q97 Sz97 Ng97 Hs97 G97 (fits_nar_byte _) W98 1 rfl (Nat.le_of_ble_eq_true rfl)
    refine Go.fin st98 ?_
    show Go p e below _ (T98.setTop (mkF m 50 _ []))
    refine gs.iload X98.here hx (hb hby at_50) rfl ?_
    refine gs.iconst 2 X98.here hx (hb hby at_52) rfl ?_
    have hc53 : (2 : Int32) < (7 : Int32) := by decide
    refine gs.icmpNo X98.here hx (hb hby at_53) (tlt hc53).2.2.2 ?_
    refine gs.aload X98.here hx (hb hby at_56) rfl rfl ?_
    refine gs.iconst 2 X98.here hx (hb hby at_58) rfl ?_
    refine gs.iloadN X98.here hx (hb hby at_59) rfl ?_
    refine gs.bipush 16 X98.here hx (hb hby at_60) rfl ?_
    refine Go.fin (fun t_ k_ => XS.iushr X98.here hx rfl (hb hby at_62) rfl k_) ?_
    show Go p e below _ (T98.setTop (mkF m 63 _ [(.int ((p3.toUInt32 >>> ((16 : Int32) &&& 31).toUInt32).toInt32)), (.int (2 : Int32)), (.ref b94)]))
    refine Go.fin (fun t_ k_ => XS.i2b X98.here hx rfl (hb hby at_63) rfl k_) ?_
    show Go p e below _ (T98.setTop (mkF m 64 _ [(.int (((p3.toUInt32 >>> ((16 : Int32) &&& 31).toUInt32).toInt32).toInt8.toInt32)), (.int (2 : Int32)), (.ref b94)]))
    obtain ⟨cl99, Ar99, q99, Sz99, Ng99, Hs99, G99⟩ := id V98
    have hin99 : ¬ ((2 : Int32) < 0 ∨ cl99.slots.size ≤ ((2 : Int32)).toNatClampNeg) := inb_of Sz99 ⟨by decide, by decide⟩
    obtain ⟨T100, h100, X100, e100, W100, st100⟩ := stB X98 hx hZ e98 Ar99 (j := (2 : Int32)) hin99 (g := (mkF m 64 #[.val (.int p1), .val (.int p2), .val (.int p3), .val (.int p4), .val (.ref mp), .val (.int (7 : Int32)), .val (.ref b94), .unset, .unset, .unset, .unset] [(.int (((p3.toUInt32 >>> ((16 : Int32) &&& 31).toUInt32).toInt32).toInt8.toInt32)), (.int (2 : Int32)), (.ref b94)])) rfl rfl (hb hby at_64)
    have N100 := Fr.snoc X100 N98 nn_b94
    have old100 := old98.wr W100 nn_b94
    have kp100 := kp98.wr W100 (Or.inr sz_b94)
    have hk100 := Nat.le_trans hk98 (Keep.of_wr W100).1
    have V100 : Arv Z h100 b94 k94 .byte (7 : Int32) [(.int ((p3.toInt8.toInt32).toInt8.toInt32)), (.int ((((p3.toUInt32 >>> ((8 : Int32) &&& 31).toUInt32).toInt32).toInt8.toInt32).toInt8.toInt32)), (.int ((((p3.toUInt32 >>> ((16 : Int32) &&& 31).toUInt32).toInt32).toInt8.toInt32).toInt8.toInt32)), (.int (0 : Int32)), (.int (0 : Int32)), (.int (0 : Int32)), (.int (0 : Int32))] (.int (0 : Int32)) := Arv.set Ar99 q99 Sz99 Ng99 Hs99 G99 (fits_nar_byte _) W100 2 rfl (Nat.le_of_ble_eq_true rfl)
    refine Go.fin st100 ?_
    show Go p e below _ (T100.setTop (mkF m 65 _ []))
    refine gs.iload X100.here hx (hb hby at_65) rfl ?_
    refine gs.iconst 3 X100.here hx (hb hby at_67) rfl ?_
    have hc68 : (3 : Int32) < (7 : Int32) := by decide
    refine gs.icmpNo X100.here hx (hb hby at_68) (tlt hc68).2.2.2 ?_
    refine gs.aload X100.here hx (hb hby at_71) rfl rfl ?_
    refine gs.iconst 3 X100.here hx (hb hby at_73) rfl ?_
    refine gs.iloadN X100.here hx (hb hby at_74) rfl ?_
    refine gs.bipush 24 X100.here hx (hb hby at_75) rfl ?_
    refine Go.fin (fun t_ k_ => XS.iushr X100.here hx rfl (hb hby at_77) rfl k_) ?_
    show Go p e below _ (T100.setTop (mkF m 78 _ [(.int ((p3.toUInt32 >>> ((24 : Int32) &&& 31).toUInt32).toInt32)), (.int (3 : Int32)), (.ref b94)]))
    refine Go.fin (fun t_ k_ => XS.i2b X100.here hx rfl (hb hby at_78) rfl k_) ?_
    show Go p e below _ (T100.setTop (mkF m 79 _ [(.int (((p3.toUInt32 >>> ((24 : Int32) &&& 31).toUInt32).toInt32).toInt8.toInt32)), (.int (3 : Int32)), (.ref b94)]))
    obtain ⟨cl101, Ar101, q101, Sz101, Ng101, Hs101, G101⟩ := id V100
    have hin101 : ¬ ((3 : Int32) < 0 ∨ cl101.slots.size ≤ ((3 : Int32)).toNatClampNeg) := inb_of Sz101 ⟨by decide, by decide⟩
    obtain ⟨T102, h102, X102, e102, W102, st102⟩ := stB X100 hx hZ e100 Ar101 (j := (3 : Int32)) hin101 (g := (mkF m 79 #[.val (.int p1), .val (.int p2), .val (.int p3), .val (.int p4), .val (.ref mp), .val (.int (7 : Int32)), .val (.ref b94), .unset, .unset, .unset, .unset] [(.int (((p3.toUInt32 >>> ((24 : Int32) &&& 31).toUInt32).toInt32).toInt8.toInt32)), (.int (3 : Int32)), (.ref b94)])) rfl rfl (hb hby at_79)
    have N102 := Fr.snoc X102 N100 nn_b94
    have old102 := old100.wr W102 nn_b94
    have kp102 := kp100.wr W102 (Or.inr sz_b94)
    have hk102 := Nat.le_trans hk100 (Keep.of_wr W102).1
    have V102 : Arv Z h102 b94 k94 .byte (7 : Int32) [(.int ((p3.toInt8.toInt32).toInt8.toInt32)), (.int ((((p3.toUInt32 >>> ((8 : Int32) &&& 31).toUInt32).toInt32).toInt8.toInt32).toInt8.toInt32)), (.int ((((p3.toUInt32 >>> ((16 : Int32) &&& 31).toUInt32).toInt32).toInt8.toInt32).toInt8.toInt32)), (.int ((((p3.toUInt32 >>> ((24 : Int32) &&& 31).toUInt32).toInt32).toInt8.toInt32).toInt8.toInt32)), (.int (0 : Int32)), (.int (0 : Int32)), (.int (0 : Int32))] (.int (0 : Int32)) := Arv.set Ar101 q101 Sz101 Ng101 Hs101 G101 (fits_nar_byte _) W102 3 rfl (Nat.le_of_ble_eq_true rfl)
    refine Go.fin st102 ?_
    show Go p e below _ (T102.setTop (mkF m 80 _ []))
    refine gs.iloadN X102.here hx (hb hby at_80) rfl ?_
    obtain ⟨_, _, ⟨T103, L103, k103, n103⟩, -, X103, S103, gr103, ⟨Lc103, hQ103, l103, y103, z103, C103⟩, st103⟩ := callSS X102 hx (y := y_2) hown (mvT hZ (wd hw 9 rfl)) (mvT hZ (wd hw 10 rfl)) (mvT hZ (wd hw 3 rfl)) (mvT hZ (wd hw 11 rfl)) (by decide) (backOfSH (s := s) (vm0 := s.vm) (W := 0) (rm2 l Z a0 hw [] cs_ u_4 u_1 u_0 a_NEXT u_2 u_3 aw0 HW p4 h102 n0 old102 ) hZ (wd hw 11 rfl) (wd hw 3 rfl) (by decide) (by decide) (hEL_ hw) (CHr.keep kp102 sf0 Hc0).1) (g := (mkF m 81 #[.val (.int p1), .val (.int p2), .val (.int p3), .val (.int p4), .val (.ref mp), .val (.int (7 : Int32)), .val (.ref b94), .unset, .unset, .unset, .unset] [(.int p4)])) rfl (by rw [hml]; rfl) (argsL := [(.int p4)]) (rest := []) (lenOf pd_10 rfl) rfl (by show 2 * 0 + _ ≤ _; exact Nat.le_of_eq rfl) (hb hby at_81) (fun _ _ => ⟨rfl, e102, (by decide : 1 + 6 ≤ _), (by decide : 7 + 12 ≤ _)⟩)
    dsimp only [Pt.U, Pt.locs, Pt.cells, Pt.slots] at X103 l103 y103 z103 st103 hQ103 S103 gr103 C103
    subst l103 y103 z103
    have chb103 := (CHr.keep kp102 sf0 Hc0).trans C103
    obtain ⟨X103, S103, hZ103, hown103⟩ := rebS (vm0 := s.vm) S0 (by rw [e102]; exact hk102) X103 S103 gr103 hZ hown
    obtain ⟨b103, rfl, gb_b103, Nq103, K103, p103_0⟩ := hQ103
    have nn_b103 : n0 ≤ b103 := Nat.le_trans (old_z0 old102) gb_b103
    have sz_b103 : h0.size ≤ b103 := Nat.le_trans kp102.1 gb_b103
    have old103 := old102.keep K103 all0
    have kp103 := kp102.trans K103 all0
    have N103 := Fr.app N102 Nq103
    refine Go.step (fun t_ k_ => st103.trans k_) ?_
    show Go p e below _ (T103.setTop (mkF m 84 #[.val (.int p1), .val (.int p2), .val (.int p3), .val (.int p4), .val (.ref mp), .val (.int (7 : Int32)), .val (.ref b94), .unset, .unset, .unset, .unset] [(.ref b103)]))
    refine gs.astore X103.here hx (hb hby at_84) rfl (l' := #[.val (.int p1), .val (.int p2), .val (.int p3), .val (.int p4), .val (.ref mp), .val (.int (7 : Int32)), .val (.ref b94), .val (.ref b103), .unset, .unset, .unset]) rfl ?_
    obtain ⟨T104, h104, X104, e104, E104, A104, D104, Y104, st104⟩ := newO X103 hx hZ103 hown103 (wd hw 33 rfl) (wd hw 34 rfl) (wd hw 35 rfl) rfl (g := (mkF m 86 #[.val (.int p1), .val (.int p2), .val (.int p3), .val (.int p4), .val (.ref mp), .val (.int (7 : Int32)), .val (.ref b94), .val (.ref b103), .unset, .unset, .unset] [])) rfl (hb hby at_86) (by decide) (by decide)
    obtain ⟨b104, g104⟩ : ∃ z, z = T103.heap.size := ⟨_, rfl⟩
    rw [← g104] at A104 D104 Y104 st104
    have nn_b104 : n0 ≤ b104 := Nat.le_trans (old_z0 old103) (Nat.le_of_eq g104.symm)
    have sz_b104 : h0.size ≤ b104 := Nat.le_trans kp103.1 (Nat.le_of_eq g104.symm)
    have old104 := old103.ext E104
    have kp104 := kp103.ext E104
    have hk104 := Nat.le_trans (Nat.le_refl _) E104.1
    have F104_map : Fld Z h104 b104 "com/example/onward_schema/onwardschema/store/StoreLog$Entry" "map" "Lcom/example/onward_schema/onwardschema/store/StoreMap;" .null := D104 (Or.inr (wd hw 53 rfl)) (ty := (.object "com/example/onward_schema/onwardschema/store/StoreMap")) (by decide)
    have F104_key : Fld Z h104 b104 "com/example/onward_schema/onwardschema/store/StoreLog$Entry" "key" "Ljava/lang/String;" .null := D104 (Or.inr (wd hw 55 rfl)) (ty := (.object "java/lang/String")) (by decide)
    have F104_payload : Fld Z h104 b104 "com/example/onward_schema/onwardschema/store/StoreLog$Entry" "payload" "[B" .null := D104 (Or.inr (wd hw 57 rfl)) (ty := (.array .byte)) (by decide)
    refine Go.fin st104 ?_
    show Go p e below _ (T104.setTop (mkF m 89 _ [(.ref b104)]))
    refine gs.dup X104.here hx (hb hby at_89) rfl ?_
    refine gs.aload X104.here hx (hb hby at_90) rfl rfl ?_
    refine gs.aload X104.here hx (hb hby at_92) rfl rfl ?_
    refine gs.aload X104.here hx (hb hby at_94) rfl rfl ?_
    obtain ⟨_, _, ⟨T105, L105, k105, n105⟩, -, X105, S105, gr105, ⟨Lc105, hQ105, l105, y105, z105⟩, st105⟩ := X104.specialBackS hx (y := y_6) rfl hown103 (mvT hZ103 (wd hw 36 rfl)) (mvT hZ103 (wd hw 37 rfl)) (mvT hZ103 (wd hw 38 rfl)) (by decide) (backOfS (W := 1) (am6_1 l Z a0 hw [] cs_ u_4 u_1 u_0 a_NEXT u_2 u_3 aw0 HW (b104) (mp) (b103) (b94) h104 n0 old104 A104 F104_map F104_key F104_payload nn_b104) hZ103 (wd hw 38 rfl) (wd hw 35 rfl) (by decide) (by decide)) (g := (mkF m 96 #[.val (.int p1), .val (.int p2), .val (.int p3), .val (.int p4), .val (.ref mp), .val (.int (7 : Int32)), .val (.ref b94), .val (.ref b103), .unset, .unset, .unset] [(.ref b94), (.ref b103), (.ref mp), (.ref b104), (.ref b104)])) rfl (by rw [hml]; rfl) (Steps.refl _) (a := b104) (argsL := [(.ref mp), (.ref b103), (.ref b94)]) (rest := [(.ref b104)]) (lenOf pd_13 rfl) rfl (by show 2 * 0 + _ ≤ _; exact Nat.le_of_eq rfl) (hb hby at_96) (fun _ _ => ⟨rfl, e104, (by decide : 8 + 6 ≤ _), (by decide : 22 + 64 ≤ _)⟩)
    dsimp only [Pt.U, Pt.locs, Pt.cells, Pt.slots] at X105 l105 y105 z105 st105 hQ105 S105 gr105
    subst l105 y105 z105
    obtain ⟨X105, S105, hZ105, hown105⟩ := rebS (vm0 := T103.vm) S103 (by rw [e104]; exact hk104) X105 S105 gr105 hZ103 hown103
    obtain ⟨rfl, Nq105, K105, p105_0, p105_1, p105_2, p105_3⟩ := hQ105
    have old105 := old104.keep K105 (allS nn_b104 all0)
    have kp105 := kp104.trans K105 (allS (Or.inr sz_b104) all0)
    have N105 := Fr.app N103 Nq105
    refine Go.step (fun t_ k_ => st105.trans k_) ?_
    show Go p e below _ (T105.setTop (mkF m 99 #[.val (.int p1), .val (.int p2), .val (.int p3), .val (.int p4), .val (.ref mp), .val (.int (7 : Int32)), .val (.ref b94), .val (.ref b103), .unset, .unset, .unset] [(.ref b104)]))
    refine gs.astore X105.here hx (hb hby at_99) rfl (l' := #[.val (.int p1), .val (.int p2), .val (.int p3), .val (.int p4), .val (.ref mp), .val (.int (7 : Int32)), .val (.ref b94), .val (.ref b103), .val (.ref b104), .unset, .unset]) rfl ?_
    refine gs.aload X105.here hx (hb hby at_101) rfl rfl ?_
    have ne_b94_b104 : b94 ≠ b104 := Nat.ne_of_lt (Nat.lt_of_lt_of_le (V102.keep K103 nin0).lt (Nat.le_of_eq g104.symm))
    have f106 := (((V102.keep K103 nin0).ext E104).keep K105 (ninS ne_b94_b104 nin0))
    refine gs.virt 0 X105 hx hZ105 hown105 (am9_8 l Z a0 hw [] cs_ u_4 u_1 u_0 a_NEXT u_2 u_3 aw0 HW (b104) (b94) (k94) (((p3.toInt8.toInt32).toInt8.toInt32)) (((((p3.toUInt32 >>> ((8 : Int32) &&& 31).toUInt32).toInt32).toInt8.toInt32).toInt8.toInt32)) (((((p3.toUInt32 >>> ((16 : Int32) &&& 31).toUInt32).toInt32).toInt8.toInt32).toInt8.toInt32)) (((((p3.toUInt32 >>> ((24 : Int32) &&& 31).toUInt32).toInt32).toInt8.toInt32).toInt8.toInt32)) T105.heap n0 old105 f106 p105_3) (wd hw 62 rfl) (wd hw 35 rfl) (wd hw 58 rfl) (wd hw 59 rfl) (notFace_of_selects (args := #[]) (mvT hZ105 (wd hw 61 rfl))) (wd hw 61 rfl) (wd hw 60 rfl) (by decide) p105_0 (by decide) (by decide) (by rw [hml]; rfl) [] (lenOf pd_14 rfl) rfl (Nat.le_of_eq rfl) (hb hby at_103) rfl rfl (by decide) (by decide) fun T107 Lc107 v107 X107 hQ107 => ?_
    obtain ⟨rfl, Nq107, e107⟩ := hQ107
    have N107 := Fr.app N105 Nq107
    show Go p e below _ (T107.setTop (mkF m 106 _ [(.int (0 : Int32))]))
    refine gs.iload X107.here hx (hb hby at_106) rfl ?_
    have hc108 : ¬ ((7 : Int32) = (0 : Int32)) := by decide
    refine gs.ifYes 115 X107.here hx (hb hby at_108) ((if0 _ _).trans (feq hc108).2) rfl ?_
    refine gs.iconst 0 X107.here hx (hb hby at_115) rfl ?_
    have hc116 : (0 : Int32) = (0 : Int32) := by decide
    refine gs.icmpNo X107.here hx (hb hby at_116) (teq hc116).2 ?_
    refine gs.iconst 1 X107.here hx (hb hby at_119) rfl ?_
    refine gs.goto 124 X107.here hx (hb hby at_120) rfl ?_
    refine gs.istore X107.here hx (hb hby at_124) (l' := #[.val (.int p1), .val (.int p2), .val (.int p3), .val (.int p4), .val (.ref mp), .val (.int (7 : Int32)), .val (.ref b94), .val (.ref b103), .val (.ref b104), .val (.int (1 : Int32)), .unset]) rfl ?_
    refine gs.aload X107.here hx (hb hby at_126) rfl rfl ?_
    refine gs.aload X107.here hx (hb hby at_128) rfl rfl ?_
    obtain ⟨_, _, ⟨T108, L108, k108, n108⟩, -, X108, S108, gr108, ⟨Lc108, hQ108, l108, y108, z108⟩, st108⟩ := callSS X107 hx (y := y_10) hown105 (mvT hZ105 (wd hw 63 rfl)) (mvT hZ105 (wd hw 64 rfl)) (mvT hZ105 (wd hw 35 rfl)) (mvT hZ105 (wd hw 65 rfl)) (by decide) (backOfS (W := 0) (am10_1 l Z a0 hw [] cs_ u_4 u_1 u_0 a_NEXT u_2 u_3 aw0 HW (mp) (b103) T105.heap n0 old105 ) hZ105 (wd hw 65 rfl) (wd hw 35 rfl) (by decide) (by decide)) (g := (mkF m 130 #[.val (.int p1), .val (.int p2), .val (.int p3), .val (.int p4), .val (.ref mp), .val (.int (7 : Int32)), .val (.ref b94), .val (.ref b103), .val (.ref b104), .val (.int (1 : Int32)), .unset] [(.ref b103), (.ref mp)])) rfl (by rw [hml]; rfl) (argsL := [(.ref mp), (.ref b103)]) (rest := []) (lenOf pd_15 rfl) rfl (by show 2 * 0 + _ ≤ _; exact Nat.le_of_eq rfl) (hb hby at_130) (fun _ _ => ⟨rfl, e107, (by decide : 14 + 8 ≤ _), (by decide : 86 + 67 ≤ _)⟩)
    dsimp only [Pt.U, Pt.locs, Pt.cells, Pt.slots] at X108 l108 y108 z108 st108 hQ108 S108 gr108
    subst l108 y108 z108
    obtain ⟨X108, S108, hZ108, hown108⟩ := rebS (vm0 := T105.vm) S105 (by rw [e107]; exact (Nat.le_refl _)) X108 S108 gr108 hZ105 hown105
    obtain ⟨b108_0, b108_1, kx108_0, rfl, gb_b108_0, gb_b108_1, ne_b108_0_b108_1, Nq108, K108, p108_0, p108_1, p108_2, p108_3, p108_4⟩ := hQ108
    have nn_b108_0 : n0 ≤ b108_0 := Nat.le_trans (old_z0 old105) gb_b108_0
    have sz_b108_0 : h0.size ≤ b108_0 := Nat.le_trans kp105.1 gb_b108_0
    have nn_b108_1 : n0 ≤ b108_1 := Nat.le_trans (old_z0 old105) gb_b108_1
    have sz_b108_1 : h0.size ≤ b108_1 := Nat.le_trans kp105.1 gb_b108_1
    have old108 := old105.keep K108 all0
    have kp108 := kp105.trans K108 all0
    have N108 := Fr.app N107 Nq108
    refine Go.step (fun t_ k_ => st108.trans k_) ?_
    show Go p e below _ (T108.setTop (mkF m 133 #[.val (.int p1), .val (.int p2), .val (.int p3), .val (.int p4), .val (.ref mp), .val (.int (7 : Int32)), .val (.ref b94), .val (.ref b103), .val (.ref b104), .val (.int (1 : Int32)), .unset] [(.ref b108_0)]))
    refine gs.virt 0 X108 hx hZ108 hown108 (am9_1 l Z a0 hw [] cs_ u_4 u_1 u_0 a_NEXT u_2 u_3 aw0 HW (b108_0) (b108_1) (kx108_0) T108.heap n0 old108 p108_4 p108_3) (wd hw 62 rfl) (wd hw 35 rfl) (wd hw 58 rfl) (wd hw 59 rfl) (notFace_of_selects (args := #[]) (mvT hZ108 (wd hw 61 rfl))) (wd hw 61 rfl) (wd hw 60 rfl) (by decide) p108_0 (by decide) (by decide) (by rw [hml]; rfl) [] (lenOf pd_14 rfl) rfl (Nat.le_of_eq rfl) (hb hby at_133) rfl rfl (by decide) (by decide) fun T109 Lc109 v109 X109 hQ109 => ?_
    obtain ⟨rfl, Nq109, e109⟩ := hQ109
    have N109 := Fr.app N108 Nq109
    show Go p e below _ (T109.setTop (mkF m 136 _ [(.int (1 : Int32))]))
    refine gs.istore X109.here hx (hb hby at_136) (l' := #[.val (.int p1), .val (.int p2), .val (.int p3), .val (.int p4), .val (.ref mp), .val (.int (7 : Int32)), .val (.ref b94), .val (.ref b103), .val (.ref b104), .val (.int (1 : Int32)), .val (.int (1 : Int32))]) rfl ?_
    refine gs.iload X109.here hx (hb hby at_138) rfl ?_
    have hc140 : ¬ ((1 : Int32) = (0 : Int32)) := by decide
    refine gs.ifNo X109.here hx (hb hby at_140) ((if0 _ _).trans (feq hc140).1) ?_
    refine gs.iload X109.here hx (hb hby at_143) rfl ?_
    have hc145 : ¬ ((1 : Int32) = (0 : Int32)) := by decide
    refine gs.ifNo X109.here hx (hb hby at_145) ((if0 _ _).trans (feq hc145).1) ?_
    refine gs.iconst 1 X109.here hx (hb hby at_148) rfl ?_
    refine gs.goto 153 X109.here hx (hb hby at_149) rfl ?_
    refine GoW.retZ X109 S108 (by rw [e109]; exact (Nat.le_refl _)) hx (t := .boolean) Bd.returns (by simp) Bd.notSynchronized (hb hby at_153) (by rw [e109]; exact ⟨rfl, N109⟩) (by decide) (by decide)
set_option maxRecDepth 65536 in
set_option maxHeartbeats 40000000 in
theorem comes_1 {Post : Tables → Env → Array Value → State → Outcome → State → Prop} (hpost : ∀ tb e args s v u, (limb_1_1.after args s (.returned v) u = true ∧ limb_1_2.after args s (.returned v) u = true ∧ True) → ReturnedEndW s (.returned v) u (Jvm.fieldLocs frame_1_writes args s ++ Jvm.arrayLocs frame_1_arrays args s ++ Jvm.staticLocs frame_1_statics s) 32 4224 → Post tb e args s (.returned v) u) :
    ArmFor flags0 classFile x code maxLocals ret World_1 tables_1 room_1 Calls_1 rest_1 Pre_1 Post := by
  intro l hfl _ _ p e ha hc hk s m args below hf hA hF happ hP
  obtain ⟨hcalls, hrest, hpre⟩ := hP
  obtain ⟨-, -, -, hnamed, -, -, -, hat⟩ := (Spec.applies_iff hf).mp happ
  obtain ⟨hg, hn⟩ := and_e (Cond.before_iff.mp (show (Jvm.Cond.and given_1 narrow_1).before args s = true from hpre))
  obtain ⟨hgl, hgr⟩ := and_e hg
  obtain ⟨hgrl, hgrr⟩ := and_e hgr
  obtain ⟨hgrrl, hgrrr⟩ := and_e hgrr
  obtain ⟨hgrrrl, hgrrrr⟩ := and_e hgrrr
  obtain ⟨w0, w1, w2, w3, rfl⟩ : ∃ w0 w1 w2 w3 : Value, args = #[w0, w1, w2, w3] := by
    have hs : args.size = 4 := by simpa [Cond.value, given_1] using hgl
    obtain ⟨L⟩ := args
    match L, hs with
    | [w0, w1, w2, w3], _ => exact ⟨w0, w1, w2, w3, rfl⟩
  have hw := fun d (hd : d ∈ tables_1) => atoms_spec (ws := Jvm.Cond.code x code maxLocals ret :: tables_1) hat d (List.mem_cons_of_mem _ hd)
  have hfit : Fit s := fun {y c} hc i hi => by
    obtain ⟨ha, rfl⟩ := Array.getElem?_eq_some_iff.mp hc
    have q := List.all_eq_true.mp ((Array.all_eq_true_iff_forall_mem.mp hF) _ (Array.getElem_mem ha)) i (List.mem_range.mpr hi)
    simpa [Array.getElem?_eq_getElem hi] using q
  obtain ⟨hsets, hown0⟩ := atoms_of _ (rest_1_c_eq ▸ (show rest_1_c.before _ s = true from hrest))
  have hr0 := Cond.before_iff.mp hown0
  obtain ⟨i0, ei0⟩ := is_v hgrl
  obtain rfl : w0 = (.int i0) := Option.some.inj ei0
  obtain ⟨i1, ei1⟩ := is_v hgrrl
  obtain rfl : w1 = (.int i1) := Option.some.inj ei1
  obtain ⟨i2, ei2⟩ := is_v hgrrrl
  obtain rfl : w2 = (.int i2) := Option.some.inj ei2
  obtain ⟨i3, ei3⟩ := is_v hgrrrr
  obtain rfl : w3 = (.int i3) := Option.some.inj ei3
  obtain ⟨hnl, hnr⟩ := and_e hn
  obtain ⟨hnrl, hnrr⟩ := and_e hnr
  obtain ⟨hnrrl, hnrrr⟩ := and_e hnrr
  obtain ⟨hnrrrl, hnrrrr⟩ := and_e hnrrr
  obtain ⟨hnrrrrl, hnrrrrr⟩ := and_e hnrrrr
  obtain ⟨hnrrrrrl, hnrrrrrr⟩ := and_e hnrrrrr
  obtain ⟨cs_, ev_cs⟩ := is_v (Cond.before_iff.mp (hsets _ (List.mem_of_getElem? (i := 1) rfl)))
  obtain ⟨u_4, eva_VERSIONS⟩ := exa_v hnl
  obtain ⟨u_1, eva_VALIDATION_ENFORCED⟩ := exa_v hnrl
  obtain ⟨u_0, eva_NAMESPACE_STRATEGIES⟩ := exa_v hnrrl
  obtain ⟨a_NEXT, eva_NEXT⟩ := exa_v hnrrrl
  obtain ⟨u_2, eva_TOPIC_STRATEGIES⟩ := exa_v hnrrrrl
  obtain ⟨u_3, eva_AUTO_UPDATE⟩ := exa_v hnrrrrrl
  obtain ⟨aw0, evaw0⟩ := exa_v hnrrrrrr
  have Hc_ : CHv s EL_ s.vm s.heap := CHv.start (hEL_ hw) hcalls.1 (hsets _ (List.mem_of_getElem? (i := 2) rfl)) (wd hw 8 rfl) (wd hw 13 rfl)
  have HW : Wd s cs_ u_4 u_1 u_0 a_NEXT u_2 u_3 aw0 := ⟨Sta.start ev_cs (Or.inl (hsets _ (List.mem_of_getElem? (i := 0) rfl))), ne_v (Cond.before_iff.mp (hsets _ (List.mem_of_getElem? (i := 2) rfl))) ev_cs, Exa.start eva_VERSIONS hnl, Sta.start eva_VERSIONS (Or.inr ⟨(wd hw 6 rfl), (wd hw 7 rfl)⟩), Exa.start eva_VALIDATION_ENFORCED hnrl, Sta.start eva_VALIDATION_ENFORCED (Or.inr ⟨(wd hw 6 rfl), (wd hw 69 rfl)⟩), Exa.start eva_NAMESPACE_STRATEGIES hnrrl, Sta.start eva_NAMESPACE_STRATEGIES (Or.inr ⟨(wd hw 6 rfl), (wd hw 71 rfl)⟩), Exa.start eva_NEXT hnrrrl, Sta.start eva_NEXT (Or.inr ⟨(wd hw 6 rfl), (wd hw 73 rfl)⟩), Exa.start eva_TOPIC_STRATEGIES hnrrrrl, Sta.start eva_TOPIC_STRATEGIES (Or.inr ⟨(wd hw 6 rfl), (wd hw 75 rfl)⟩), Exa.start eva_AUTO_UPDATE hnrrrrrl, Sta.start eva_AUTO_UPDATE (Or.inr ⟨(wd hw 6 rfl), (wd hw 102 rfl)⟩), Exa.start evaw0 hnrrrrrr, Sta.start evaw0 (Or.inr ⟨(wd hw 6 rfl), (wd hw 104 rfl)⟩)⟩
  obtain ⟨n, o, h1, h2, h3, _, L, rfl, ⟨rfl, N⟩, hq⟩ := rm0 l s _ hw tables_1 cs_ u_4 u_1 u_0 a_NEXT u_2 u_3 aw0 HW i0 i1 i2 i3 s.heap s.heap.size (Old.start s)  p e ha hc hk s m _ below hf ((Spec.applies_iff_loose hf).mp happ).1 ⟨rfl, State.Warmed39.refl s, rfl, Hc_⟩ trivial
  refine ⟨n, _, h1, h2, h3, hpost _ _ _ _ _ _ ⟨Cond.after_iff.mpr rfl, Cond.after_iff.mpr (eq_i res_at (Term.int_eval (1)) rfl), trivial⟩ ⟨hq.1, hq.2.1, hq.2.2.1, (hq.2.2.2.sift fun y hy => Or.inr (N y hy)).mono (by decide) (by decide)⟩⟩
theorem main_1_1 : Claimed_1_1 := comes_1 fun _ _ _ _ _ _ h hF => ⟨h.1, hF⟩
theorem main_1_2 : Claimed_1_2 := comes_1 fun _ _ _ _ _ _ h hF => ⟨h.2.1, hF⟩
end Jvm.Pilot.@@N@@
namespace Jvm.Pilot.@@N@@
open Jvm Jvm.ClassFile Sem Op Lib Jvm.Free Jvm.Stand Jvm.Pilot.@@N@@.Jvm.D
/-! MADE BY PROGRAM (witnessworld.py) out of the Statement's table words and the real class files: 22 classes; the members and pool entries that the words name. The judged class is class 1, her method 3. -/
namespace start1
open Jvm.ClassFile
def u (s : String) : CpInfo := .utf8 (stringToUtf16 s)
/-- a pool by its gaps: so many unusable entries, then the entry; so many at the end -/
def gap : Nat → List CpInfo → List CpInfo
  | 0, r => r
  | n + 1, r => .unusable :: gap n r
def poolList (es : List (Nat × CpInfo)) (last : Nat) : List CpInfo := es.foldr (fun e r => gap e.1 (e.2 :: r)) (gap last [])
def pool (es : List (Nat × CpInfo)) (last : Nat) : Array CpInfo := ⟨poolList es last⟩
def fileOf (pool : Array CpInfo) (this : Nat) (attrs : Array Attribute := #[]) (ms : Array MethodInfo := #[]) (fl : Nat := 33) (sup : Nat := 0) (ifs : Array Nat := #[]) (fds : Array FieldInfo := #[]) : ClassFile where
  minorVersion := 0
  majorVersion := 65
  constantPool := pool
  accessFlags := fl
  thisClass := this
  superClass := sup
  interfaces := ifs
  fields := fds
  methods := ms
  attributes := attrs
def plain (name : String) (sup : Option ClassId) : Class where
  name := name
  kind := .ordinary
  loader := none
  accessFlags := 33
  super := sup
  interfaces := #[]
  cf := none
  fields := #[]
  methods := #[]
  instanceTypes := #[]
  staticTypes := #[]
  resolved := #[]
  callSites := []
  init := .initialized
  statics := none
  mirror := none

def pool0 : Array CpInfo := pool [(5, u "<init>"), (0, u "()V"), (1, .class_ 10), (1, u "java/lang/Object")] 113

def k0c0 : Code := { maxStack := 0, maxLocals := 1, code := object_method_1_code, exceptionTable := #[], attributes := #[] }
def k0m0 : Method := { name := "<init>", desc := "()V", sig := { parameters := [], returnType := none }, accessFlags := 1, code := some k0c0 }
/-- java/lang/Object -/
def k0 : Class := { plain "java/lang/Object" none with
  accessFlags := 33
  interfaces := #[]
  cf := some (fileOf pool0 8 #[] #[{ accessFlags := 1, nameIndex := 5, descriptorIndex := 6, attributes := #[] }] 33 0 #[] #[])
  fields := #[]
  methods := #[k0m0]
  instanceTypes := #[]
  staticTypes := #[]
  resolved := Array.replicate 124 none
  statics := none }

def pool1 : Array CpInfo := pool [(2, .class_ 4), (1, u "java/lang/Object"), (0, u "<init>"), (0, u "()V"), (0, .fieldref 8 9), (0, .class_ 10), (0, .nameAndType 11 12), (0, u "com/example/onward_schema/onwardschema/store/StoreMap"), (0, u "VERSIONS"), (0, u "Lcom/example/onward_schema/onwardschema/store/StoreMap;"), (0, .fieldref 8 14), (0, .nameAndType 15 12), (0, u "NEXT"), (0, .fieldref 8 17), (0, .nameAndType 18 12), (0, u "NAMESPACE_STRATEGIES"), (0, .fieldref 8 20), (0, .nameAndType 21 12), (0, u "TOPIC_STRATEGIES"), (0, .fieldref 8 23), (0, .nameAndType 24 12), (0, u "AUTO_UPDATE"), (0, .fieldref 8 26), (0, .nameAndType 27 12), (0, u "VALIDATION_ENFORCED"), (0, .fieldref 8 29), (0, .nameAndType 30 12), (0, u "TOPIC_VALIDATION_ENFORCED"), (0, .class_ 32), (0, u "java/lang/String"), (0, .methodref 31 34), (0, .nameAndType 5 35), (0, u "([C)V"), (0, .methodref 31 37), (0, .nameAndType 38 39), (0, u "valueOf"), (0, u "(C)Ljava/lang/String;"), (0, .integer 2147483647), (0, .methodref 42 43), (0, .class_ 44), (0, .nameAndType 45 46), (0, u "com/example/onward_schema/onwardschema/store/EntryRemovesPinLaw"), (0, u "pick"), (0, u "(I)Lcom/example/onward_schema/onwardschema/store/StoreMap;"), (0, .methodref 42 48), (0, .nameAndType 49 50), (0, u "key"), (0, u "(I)Ljava/lang/String;"), (0, .class_ 52), (0, u "com/example/onward_schema/onwardschema/store/StoreLog$Entry"), (0, .methodref 51 54), (0, .nameAndType 5 55), (0, u "(Lcom/example/onward_schema/onwardschema/store/StoreMap;Ljava/lang/String;[B)V"), (0, .methodref 51 57), (0, .nameAndType 58 59), (0, u "removes"), (0, u "()Z"), (0, .methodref 51 61), (0, .nameAndType 62 63), (0, u "removal"), (0, u "(Lcom/example/onward_schema/onwardschema/store/StoreMap;Ljava/lang/String;)Lcom/example/onward_schema/onwardschema/store/StoreLog$Entry;"), (3, u "law"), (0, u "(IIII)Z")] 8

def k1m0 : Method := { name := "<init>", desc := "()V", sig := { parameters := [], returnType := none }, accessFlags := 1, code := none }
def k1c1 : Code := { maxStack := 2, maxLocals := 1, code := method_2_code, exceptionTable := #[], attributes := #[] }
def k1m1 : Method := { name := "pick", desc := "(I)Lcom/example/onward_schema/onwardschema/store/StoreMap;", sig := { parameters := [.int], returnType := some (.object "com/example/onward_schema/onwardschema/store/StoreMap") }, accessFlags := 10, code := some k1c1 }
def k1c2 : Code := { maxStack := 6, maxLocals := 4, code := method_3_code, exceptionTable := #[], attributes := #[] }
def k1m2 : Method := { name := "key", desc := "(I)Ljava/lang/String;", sig := { parameters := [.int], returnType := some (.object "java/lang/String") }, accessFlags := 10, code := some k1c2 }
def k1c3 : Code := { maxStack := 5, maxLocals := 11, code := code, exceptionTable := #[], attributes := #[] }
def k1m3 : Method := { name := "law", desc := "(IIII)Z", sig := { parameters := [.int, .int, .int, .int], returnType := some .boolean }, accessFlags := 9, code := some k1c3 }
/-- com/example/onward_schema/onwardschema/store/EntryRemovesPinLaw -/
def k1 : Class := { plain "com/example/onward_schema/onwardschema/store/EntryRemovesPinLaw" (some 0) with
  accessFlags := 49
  interfaces := #[]
  cf := some (fileOf pool1 42 #[] #[{ accessFlags := 1, nameIndex := 5, descriptorIndex := 6, attributes := #[] }, { accessFlags := 10, nameIndex := 45, descriptorIndex := 46, attributes := #[] }, { accessFlags := 10, nameIndex := 49, descriptorIndex := 50, attributes := #[] }, { accessFlags := 9, nameIndex := 67, descriptorIndex := 68, attributes := #[] }] 49 2 #[] #[])
  fields := #[]
  methods := #[k1m0, k1m1, k1m2, k1m3]
  instanceTypes := #[]
  staticTypes := #[]
  resolved := Array.replicate 77 none
  statics := none }

def pool2 : Array CpInfo := pool [(1, .class_ 2), (0, u "java/lang/constant/Constable"), (0, .class_ 4), (0, u "java/lang/Object")] 6

/-- java/lang/constant/Constable -/
def k2 : Class := { plain "java/lang/constant/Constable" (some 0) with
  accessFlags := 1537
  interfaces := #[]
  cf := some (fileOf pool2 1 #[] #[] 1537 3 #[] #[])
  fields := #[]
  methods := #[]
  instanceTypes := #[]
  staticTypes := #[]
  resolved := Array.replicate 11 none
  statics := none }

def pool3 : Array CpInfo := pool [(1, .class_ 2), (0, u "java/lang/Comparable"), (0, .class_ 4), (0, u "java/lang/Object")] 7

/-- java/lang/Comparable -/
def k3 : Class := { plain "java/lang/Comparable" (some 0) with
  accessFlags := 1537
  interfaces := #[]
  cf := some (fileOf pool3 1 #[] #[] 1537 3 #[] #[])
  fields := #[]
  methods := #[]
  instanceTypes := #[]
  staticTypes := #[]
  resolved := Array.replicate 12 none
  statics := none }

def pool4 : Array CpInfo := pool [(1, .class_ 2), (0, u "java/io/Serializable"), (0, .class_ 4), (0, u "java/lang/Object")] 2

/-- java/io/Serializable -/
def k4 : Class := { plain "java/io/Serializable" (some 0) with
  accessFlags := 1537
  interfaces := #[]
  cf := some (fileOf pool4 1 #[] #[] 1537 3 #[] #[])
  fields := #[]
  methods := #[]
  instanceTypes := #[]
  staticTypes := #[]
  resolved := Array.replicate 7 none
  statics := none }

def pool5 : Array CpInfo := pool [(2, .class_ 4), (1, u "java/lang/Enum"), (0, u "name"), (0, u "Ljava/lang/String;"), (2, u "ordinal"), (0, u "I"), (1, .class_ 14), (1, u "java/lang/Object"), (4, u "hash"), (86, .class_ 108), (1, u "java/lang/Enum$EnumDesc"), (2, .class_ 112), (0, u "java/lang/constant/Constable"), (0, .class_ 114), (0, u "java/lang/Comparable"), (0, .class_ 116), (0, u "java/io/Serializable")] 87

/-- java/lang/Enum -/
def k5 : Class := { plain "java/lang/Enum" (some 0) with
  accessFlags := 1057
  interfaces := #[2, 3, 4]
  cf := some (fileOf pool5 2 #[.nestMembers #[106]] #[] 1057 12 #[111, 113, 115] #[{ accessFlags := 18, nameIndex := 5, descriptorIndex := 6, attributes := #[] }, { accessFlags := 18, nameIndex := 9, descriptorIndex := 10, attributes := #[] }, { accessFlags := 2, nameIndex := 19, descriptorIndex := 10, attributes := #[] }])
  fields := #[{ name := "name", type := (.object "java/lang/String"), accessFlags := 18, slot := 0, constantValue := 0 }, { name := "ordinal", type := .int, accessFlags := 18, slot := 1, constantValue := 0 }, { name := "hash", type := .int, accessFlags := 2, slot := 2, constantValue := 0 }]
  methods := #[]
  instanceTypes := #[(.object "java/lang/String"), .int, .int]
  staticTypes := #[]
  resolved := Array.replicate 204 none
  statics := none }

def pool6 : Array CpInfo := pool [(1, .class_ 2), (0, u "com/example/onward_schema/onwardschema/store/StoreMap"), (2, u "VERSIONS"), (0, u "Lcom/example/onward_schema/onwardschema/store/StoreMap;"), (2, u "NEXT"), (2, u "NAMESPACE_STRATEGIES"), (2, u "TOPIC_STRATEGIES"), (2, u "AUTO_UPDATE"), (2, u "VALIDATION_ENFORCED"), (2, u "TOPIC_VALIDATION_ENFORCED"), (2, u "$VALUES"), (0, u "[Lcom/example/onward_schema/onwardschema/store/StoreMap;"), (6, .class_ 37), (1, u "java/lang/Enum"), (8, u "id"), (0, u "B"), (2, u "fileName"), (0, u "Ljava/lang/String;"), (2, u "entryName"), (0, u "Ljava/util/function/UnaryOperator;")] 178

/-- com/example/onward_schema/onwardschema/store/StoreMap -/
def k6 : Class := { plain "com/example/onward_schema/onwardschema/store/StoreMap" (some 5) with
  accessFlags := 16432
  interfaces := #[]
  cf := some (fileOf pool6 1 #[] #[] 16432 35 #[] #[{ accessFlags := 16409, nameIndex := 5, descriptorIndex := 6, attributes := #[] }, { accessFlags := 16409, nameIndex := 9, descriptorIndex := 6, attributes := #[] }, { accessFlags := 16409, nameIndex := 12, descriptorIndex := 6, attributes := #[] }, { accessFlags := 16409, nameIndex := 15, descriptorIndex := 6, attributes := #[] }, { accessFlags := 16409, nameIndex := 18, descriptorIndex := 6, attributes := #[] }, { accessFlags := 16409, nameIndex := 21, descriptorIndex := 6, attributes := #[] }, { accessFlags := 16409, nameIndex := 24, descriptorIndex := 6, attributes := #[] }, { accessFlags := 18, nameIndex := 46, descriptorIndex := 47, attributes := #[] }, { accessFlags := 18, nameIndex := 50, descriptorIndex := 51, attributes := #[] }, { accessFlags := 18, nameIndex := 54, descriptorIndex := 55, attributes := #[] }, { accessFlags := 4122, nameIndex := 27, descriptorIndex := 28, attributes := #[] }])
  fields := #[{ name := "VERSIONS", type := (.object "com/example/onward_schema/onwardschema/store/StoreMap"), accessFlags := 16409, slot := 0, constantValue := 0 }, { name := "NEXT", type := (.object "com/example/onward_schema/onwardschema/store/StoreMap"), accessFlags := 16409, slot := 1, constantValue := 0 }, { name := "NAMESPACE_STRATEGIES", type := (.object "com/example/onward_schema/onwardschema/store/StoreMap"), accessFlags := 16409, slot := 2, constantValue := 0 }, { name := "TOPIC_STRATEGIES", type := (.object "com/example/onward_schema/onwardschema/store/StoreMap"), accessFlags := 16409, slot := 3, constantValue := 0 }, { name := "AUTO_UPDATE", type := (.object "com/example/onward_schema/onwardschema/store/StoreMap"), accessFlags := 16409, slot := 4, constantValue := 0 }, { name := "VALIDATION_ENFORCED", type := (.object "com/example/onward_schema/onwardschema/store/StoreMap"), accessFlags := 16409, slot := 5, constantValue := 0 }, { name := "TOPIC_VALIDATION_ENFORCED", type := (.object "com/example/onward_schema/onwardschema/store/StoreMap"), accessFlags := 16409, slot := 6, constantValue := 0 }, { name := "id", type := .byte, accessFlags := 18, slot := 3, constantValue := 0 }, { name := "fileName", type := (.object "java/lang/String"), accessFlags := 18, slot := 4, constantValue := 0 }, { name := "entryName", type := (.object "java/util/function/UnaryOperator"), accessFlags := 18, slot := 5, constantValue := 0 }, { name := "$VALUES", type := (.array (.object "com/example/onward_schema/onwardschema/store/StoreMap")), accessFlags := 4122, slot := 7, constantValue := 0 }]
  methods := #[]
  instanceTypes := #[(.object "java/lang/String"), .int, .int, .byte, (.object "java/lang/String"), (.object "java/util/function/UnaryOperator")]
  staticTypes := #[(.object "com/example/onward_schema/onwardschema/store/StoreMap"), (.object "com/example/onward_schema/onwardschema/store/StoreMap"), (.object "com/example/onward_schema/onwardschema/store/StoreMap"), (.object "com/example/onward_schema/onwardschema/store/StoreMap"), (.object "com/example/onward_schema/onwardschema/store/StoreMap"), (.object "com/example/onward_schema/onwardschema/store/StoreMap"), (.object "com/example/onward_schema/onwardschema/store/StoreMap"), (.array (.object "com/example/onward_schema/onwardschema/store/StoreMap"))]
  resolved := Array.replicate 234 none
  statics := some 0 }

def pool7 : Array CpInfo := pool [(2, .class_ 4), (1, u "java/lang/CharSequence"), (42, .class_ 48), (0, u "java/lang/CharSequence$1CodePointIterator"), (10, .class_ 60), (0, u "java/lang/CharSequence$1CharIterator"), (5, .class_ 67), (0, u "java/lang/Object")] 63

/-- java/lang/CharSequence -/
def k7 : Class := { plain "java/lang/CharSequence" (some 0) with
  accessFlags := 1537
  interfaces := #[]
  cf := some (fileOf pool7 2 #[.nestMembers #[47, 59]] #[] 1537 66 #[] #[])
  fields := #[]
  methods := #[]
  instanceTypes := #[]
  staticTypes := #[]
  resolved := Array.replicate 131 none
  statics := none }

def pool8 : Array CpInfo := pool [(1, .class_ 2), (0, u "java/lang/constant/ConstantDesc"), (0, .class_ 4), (0, u "java/lang/Object")] 32

/-- java/lang/constant/ConstantDesc -/
def k8 : Class := { plain "java/lang/constant/ConstantDesc" (some 0) with
  accessFlags := 1537
  interfaces := #[]
  cf := some (fileOf pool8 1 #[] #[] 1537 3 #[] #[])
  fields := #[]
  methods := #[]
  instanceTypes := #[]
  staticTypes := #[]
  resolved := Array.replicate 37 none
  statics := none }

def pool9 : Array CpInfo := pool [(1, .methodref 2 3), (0, .class_ 4), (0, .nameAndType 5 6), (0, u "java/lang/Object"), (0, u "<init>"), (0, u "()V"), (0, .string 8), (0, u ""), (0, .fieldref 10 11), (0, .class_ 12), (0, .nameAndType 13 14), (0, u "java/lang/String"), (0, u "value"), (0, u "[B"), (0, .fieldref 10 16), (0, .nameAndType 17 18), (0, u "coder"), (0, u "B"), (2, u "hash"), (0, u "I"), (2, u "hashIsZero"), (0, u "Z"), (0, .methodref 10 28), (0, .nameAndType 5 29), (0, u "([CIILjava/lang/Void;)V"), (8, .fieldref 10 39), (0, .nameAndType 40 26), (0, u "COMPACT_STRINGS"), (1, .class_ 44), (1, u "java/lang/StringUTF16"), (0, u "compress"), (1, .methodref 42 48), (0, .nameAndType 49 50), (0, u "coderFromArrayLen"), (0, u "([BI)B"), (2, u "toBytes"), (53, .class_ 109), (1, u "java/lang/StringLatin1"), (67, .methodref 42 178), (0, .nameAndType 45 179), (0, u "([CII)[B"), (29, .methodref 10 210), (0, .nameAndType 5 211), (0, u "([BB)V"), (157, u "(C)Z"), (205, .class_ 576), (0, u "java/lang/CharSequence"), (22, u "CASE_INSENSITIVE_ORDER"), (0, u "Ljava/util/Comparator;"), (181, u "valueOf"), (0, u "(C)Ljava/lang/String;"), (226, u "([C)V"), (4, .methodref 107 1016), (0, .nameAndType 1017 369), (0, u "canEncode"), (0, .methodref 107 1019), (0, .nameAndType 53 1020), (0, u "(C)[B"), (80, u "serialPersistentFields"), (0, u "[Ljava/io/ObjectStreamField;"), (0, .class_ 1104), (0, u "java/lang/String$CaseInsensitiveComparator"), (1, .class_ 1107), (0, u "java/io/Serializable"), (0, .class_ 1109), (0, u "java/lang/Comparable"), (0, .class_ 1111), (0, u "java/lang/constant/Constable"), (0, .class_ 1113), (0, u "java/lang/constant/ConstantDesc"), (2, u "serialVersionUID"), (0, u "J"), (3, u "REPL"), (0, u "C"), (2, u "LATIN1"), (1, u "UTF16")] 323

def k9m0 : Method := { name := "<init>", desc := "()V", sig := { parameters := [], returnType := none }, accessFlags := 1, code := none }
def k9c1 : Code := { maxStack := 5, maxLocals := 2, code := jdk_42_method_3_code, exceptionTable := #[], attributes := #[] }
def k9m1 : Method := { name := "<init>", desc := "([C)V", sig := { parameters := [(.array .char)], returnType := none }, accessFlags := 1, code := some k9c1 }
def k9c2 : Code := { maxStack := 4, maxLocals := 1, code := jdk_42_method_139_code, exceptionTable := #[], attributes := #[] }
def k9m2 : Method := { name := "valueOf", desc := "(C)Ljava/lang/String;", sig := { parameters := [.char], returnType := some (.object "java/lang/String") }, accessFlags := 9, code := some k9c2 }
def k9c3 : Code := { maxStack := 4, maxLocals := 6, code := jdk_42_method_149_code, exceptionTable := #[], attributes := #[] }
def k9m3 : Method := { name := "<init>", desc := "([CIILjava/lang/Void;)V", sig := { parameters := [(.array .char), .int, .int, (.object "java/lang/Void")], returnType := none }, accessFlags := 2, code := some k9c3 }
def k9c4 : Code := { maxStack := 2, maxLocals := 3, code := jdk_42_method_151_code, exceptionTable := #[], attributes := #[] }
def k9m4 : Method := { name := "<init>", desc := "([BB)V", sig := { parameters := [(.array .byte), .byte], returnType := none }, accessFlags := 0, code := some k9c4 }
/-- java/lang/String -/
def k9 : Class := { plain "java/lang/String" (some 0) with
  accessFlags := 49
  interfaces := #[4, 3, 7, 2, 8]
  cf := some (fileOf pool9 10 #[.nestMembers #[1103]] #[{ accessFlags := 1, nameIndex := 5, descriptorIndex := 6, attributes := #[] }, { accessFlags := 1, nameIndex := 5, descriptorIndex := 1010, attributes := #[] }, { accessFlags := 9, nameIndex := 782, descriptorIndex := 783, attributes := #[] }, { accessFlags := 2, nameIndex := 5, descriptorIndex := 29, attributes := #[] }, { accessFlags := 0, nameIndex := 5, descriptorIndex := 211, attributes := #[] }] 49 2 #[1106, 1108, 575, 1110, 1112] #[{ accessFlags := 18, nameIndex := 13, descriptorIndex := 14, attributes := #[] }, { accessFlags := 18, nameIndex := 17, descriptorIndex := 18, attributes := #[] }, { accessFlags := 2, nameIndex := 21, descriptorIndex := 22, attributes := #[] }, { accessFlags := 2, nameIndex := 25, descriptorIndex := 26, attributes := #[] }, { accessFlags := 26, nameIndex := 1116, descriptorIndex := 1117, attributes := #[] }, { accessFlags := 24, nameIndex := 40, descriptorIndex := 26, attributes := #[] }, { accessFlags := 26, nameIndex := 1101, descriptorIndex := 1102, attributes := #[] }, { accessFlags := 26, nameIndex := 1121, descriptorIndex := 1122, attributes := #[] }, { accessFlags := 25, nameIndex := 599, descriptorIndex := 600, attributes := #[] }, { accessFlags := 24, nameIndex := 1125, descriptorIndex := 18, attributes := #[] }, { accessFlags := 24, nameIndex := 1127, descriptorIndex := 18, attributes := #[] }])
  fields := #[{ name := "value", type := (.array .byte), accessFlags := 18, slot := 0, constantValue := 0 }, { name := "coder", type := .byte, accessFlags := 18, slot := 1, constantValue := 0 }, { name := "hash", type := .int, accessFlags := 2, slot := 2, constantValue := 0 }, { name := "hashIsZero", type := .boolean, accessFlags := 2, slot := 3, constantValue := 0 }, { name := "serialVersionUID", type := .long, accessFlags := 26, slot := 0, constantValue := 0 }, { name := "COMPACT_STRINGS", type := .boolean, accessFlags := 24, slot := 1, constantValue := 0 }, { name := "serialPersistentFields", type := (.array (.object "java/io/ObjectStreamField")), accessFlags := 26, slot := 2, constantValue := 0 }, { name := "REPL", type := .char, accessFlags := 26, slot := 3, constantValue := 0 }, { name := "CASE_INSENSITIVE_ORDER", type := (.object "java/util/Comparator"), accessFlags := 25, slot := 4, constantValue := 0 }, { name := "LATIN1", type := .byte, accessFlags := 24, slot := 5, constantValue := 0 }, { name := "UTF16", type := .byte, accessFlags := 24, slot := 6, constantValue := 0 }]
  methods := #[k9m0, k9m1, k9m2, k9m3, k9m4]
  instanceTypes := #[(.array .byte), .byte, .int, .boolean]
  staticTypes := #[.long, .boolean, (.array (.object "java/io/ObjectStreamField")), .char, (.object "java/util/Comparator"), .byte, .byte]
  resolved := Array.replicate 1451 none
  statics := some 1 }

def pool10 : Array CpInfo := pool [(1, .methodref 2 3), (0, .class_ 4), (0, .nameAndType 5 6), (0, u "java/lang/Object"), (0, u "<init>"), (0, u "()V"), (0, .class_ 8), (0, u "java/lang/Record")] 13

def k10c0 : Code := { maxStack := 1, maxLocals := 1, code := jdk_30_method_1_code, exceptionTable := #[], attributes := #[] }
def k10m0 : Method := { name := "<init>", desc := "()V", sig := { parameters := [], returnType := none }, accessFlags := 4, code := some k10c0 }
/-- java/lang/Record -/
def k10 : Class := { plain "java/lang/Record" (some 0) with
  accessFlags := 1057
  interfaces := #[]
  cf := some (fileOf pool10 7 #[] #[{ accessFlags := 4, nameIndex := 5, descriptorIndex := 6, attributes := #[] }] 1057 2 #[] #[])
  fields := #[]
  methods := #[k10m0]
  instanceTypes := #[]
  staticTypes := #[]
  resolved := Array.replicate 22 none
  statics := none }

def pool11 : Array CpInfo := pool [(1, .methodref 2 3), (0, .class_ 4), (0, .nameAndType 5 6), (0, u "java/lang/Record"), (0, u "<init>"), (0, u "()V"), (0, .string 8), (0, u "map"), (0, .methodref 10 11), (0, .class_ 12), (0, .nameAndType 13 14), (0, u "java/util/Objects"), (0, u "requireNonNull"), (0, u "(Ljava/lang/Object;Ljava/lang/String;)Ljava/lang/Object;"), (0, .string 16), (0, u "key"), (0, .string 18), (0, u "payload"), (0, .fieldref 20 21), (0, .class_ 22), (0, .nameAndType 8 23), (0, u "com/example/onward_schema/onwardschema/store/StoreLog$Entry"), (0, u "Lcom/example/onward_schema/onwardschema/store/StoreMap;"), (0, .fieldref 20 25), (0, .nameAndType 16 26), (0, u "Ljava/lang/String;"), (0, .fieldref 20 28), (0, .nameAndType 18 29), (0, u "[B"), (0, .methodref 20 31), (0, .nameAndType 5 32), (0, u "(Lcom/example/onward_schema/onwardschema/store/StoreMap;Ljava/lang/String;[B)V"), (15, u "removal"), (0, u "(Lcom/example/onward_schema/onwardschema/store/StoreMap;Ljava/lang/String;)Lcom/example/onward_schema/onwardschema/store/StoreLog$Entry;"), (0, u "removes"), (0, u "()Z"), (9, .class_ 62), (0, u "com/example/onward_schema/onwardschema/store/StoreLog")] 21

def k11c0 : Code := { maxStack := 2, maxLocals := 4, code := prog_57_method_1_code, exceptionTable := #[], attributes := #[] }
def k11m0 : Method := { name := "<init>", desc := "(Lcom/example/onward_schema/onwardschema/store/StoreMap;Ljava/lang/String;[B)V", sig := { parameters := [(.object "com/example/onward_schema/onwardschema/store/StoreMap"), (.object "java/lang/String"), (.array .byte)], returnType := none }, accessFlags := 0, code := some k11c0 }
def k11c1 : Code := { maxStack := 5, maxLocals := 2, code := prog_57_method_2_code, exceptionTable := #[], attributes := #[] }
def k11m1 : Method := { name := "removal", desc := "(Lcom/example/onward_schema/onwardschema/store/StoreMap;Ljava/lang/String;)Lcom/example/onward_schema/onwardschema/store/StoreLog$Entry;", sig := { parameters := [(.object "com/example/onward_schema/onwardschema/store/StoreMap"), (.object "java/lang/String")], returnType := some (.object "com/example/onward_schema/onwardschema/store/StoreLog$Entry") }, accessFlags := 8, code := some k11c1 }
def k11c2 : Code := { maxStack := 1, maxLocals := 1, code := prog_57_method_3_code, exceptionTable := #[], attributes := #[] }
def k11m2 : Method := { name := "removes", desc := "()Z", sig := { parameters := [], returnType := some .boolean }, accessFlags := 0, code := some k11c2 }
/-- com/example/onward_schema/onwardschema/store/StoreLog$Entry -/
def k11 : Class := { plain "com/example/onward_schema/onwardschema/store/StoreLog$Entry" (some 10) with
  accessFlags := 48
  interfaces := #[]
  cf := some (fileOf pool11 20 #[.nestHost 61] #[{ accessFlags := 0, nameIndex := 5, descriptorIndex := 32, attributes := #[] }, { accessFlags := 8, nameIndex := 48, descriptorIndex := 49, attributes := #[] }, { accessFlags := 0, nameIndex := 50, descriptorIndex := 51, attributes := #[] }] 48 2 #[] #[{ accessFlags := 18, nameIndex := 8, descriptorIndex := 23, attributes := #[] }, { accessFlags := 18, nameIndex := 16, descriptorIndex := 26, attributes := #[] }, { accessFlags := 18, nameIndex := 18, descriptorIndex := 29, attributes := #[] }])
  fields := #[{ name := "map", type := (.object "com/example/onward_schema/onwardschema/store/StoreMap"), accessFlags := 18, slot := 0, constantValue := 0 }, { name := "key", type := (.object "java/lang/String"), accessFlags := 18, slot := 1, constantValue := 0 }, { name := "payload", type := (.array .byte), accessFlags := 18, slot := 2, constantValue := 0 }]
  methods := #[k11m0, k11m1, k11m2]
  instanceTypes := #[(.object "com/example/onward_schema/onwardschema/store/StoreMap"), (.object "java/lang/String"), (.array .byte)]
  staticTypes := #[]
  resolved := Array.replicate 84 none
  statics := none }

def pool12 : Array CpInfo := pool [(2, .class_ 4), (1, u "java/lang/Object"), (0, u "<init>"), (0, u "()V"), (35, .class_ 44), (1, u "java/util/Objects"), (0, u "requireNonNull"), (48, u "(Ljava/lang/Object;Ljava/lang/String;)Ljava/lang/Object;")] 89

def k12m0 : Method := { name := "<init>", desc := "()V", sig := { parameters := [], returnType := none }, accessFlags := 2, code := none }
def k12c1 : Code := { maxStack := 3, maxLocals := 2, code := jdk_31_method_11_code, exceptionTable := #[], attributes := #[] }
def k12m1 : Method := { name := "requireNonNull", desc := "(Ljava/lang/Object;Ljava/lang/String;)Ljava/lang/Object;", sig := { parameters := [(.object "java/lang/Object"), (.object "java/lang/String")], returnType := some (.object "java/lang/Object") }, accessFlags := 9, code := some k12c1 }
/-- java/util/Objects -/
def k12 : Class := { plain "java/util/Objects" (some 0) with
  accessFlags := 49
  interfaces := #[]
  cf := some (fileOf pool12 42 #[] #[{ accessFlags := 2, nameIndex := 5, descriptorIndex := 6, attributes := #[] }, { accessFlags := 9, nameIndex := 45, descriptorIndex := 94, attributes := #[] }] 49 2 #[] #[])
  fields := #[]
  methods := #[k12m0, k12m1]
  instanceTypes := #[]
  staticTypes := #[]
  resolved := Array.replicate 184 none
  statics := none }

def pool13 : Array CpInfo := pool [(4, .class_ 6), (1, u "java/lang/Object"), (0, u "<init>"), (0, u "()V"), (5, .class_ 16), (1, u "java/lang/StringLatin1"), (73, u "canEncode"), (14, u "(C)Z"), (15, u "$assertionsDisabled"), (0, u "Z"), (98, .class_ 223), (1, u "java/lang/StringLatin1$LinesSpliterator"), (156, u "toBytes"), (1, u "(C)[B"), (7, .class_ 391), (0, u "java/lang/StringLatin1$CharsSpliterator")] 3

def k13m0 : Method := { name := "<init>", desc := "()V", sig := { parameters := [], returnType := none }, accessFlags := 0, code := none }
def k13c1 : Code := { maxStack := 2, maxLocals := 1, code := jdk_43_method_3_code, exceptionTable := #[], attributes := #[] }
def k13m1 : Method := { name := "canEncode", desc := "(C)Z", sig := { parameters := [.char], returnType := some .boolean }, accessFlags := 9, code := some k13c1 }
def k13c2 : Code := { maxStack := 4, maxLocals := 1, code := jdk_43_method_46_code, exceptionTable := #[], attributes := #[] }
def k13m2 : Method := { name := "toBytes", desc := "(C)[B", sig := { parameters := [.char], returnType := some (.array .byte) }, accessFlags := 9, code := some k13c2 }
/-- java/lang/StringLatin1 -/
def k13 : Class := { plain "java/lang/StringLatin1" (some 0) with
  accessFlags := 48
  interfaces := #[]
  cf := some (fileOf pool13 14 #[.nestMembers #[390, 221]] #[{ accessFlags := 0, nameIndex := 7, descriptorIndex := 8, attributes := #[] }, { accessFlags := 9, nameIndex := 90, descriptorIndex := 105, attributes := #[] }, { accessFlags := 9, nameIndex := 380, descriptorIndex := 382, attributes := #[] }] 48 4 #[] #[{ accessFlags := 4120, nameIndex := 121, descriptorIndex := 122, attributes := #[] }])
  fields := #[{ name := "$assertionsDisabled", type := .boolean, accessFlags := 4120, slot := 0, constantValue := 0 }]
  methods := #[k13m0, k13m1, k13m2]
  instanceTypes := #[]
  staticTypes := #[.boolean]
  resolved := Array.replicate 395 none
  statics := none }

def pool14 : Array CpInfo := pool [(6, .class_ 8), (1, u "java/lang/Object"), (0, u "<init>"), (0, u "()V"), (1, .class_ 14), (1, u "java/lang/StringUTF16"), (31, u "$assertionsDisabled"), (0, u "Z"), (13, u "HI_BYTE_SHIFT"), (0, u "I"), (2, u "LO_BYTE_SHIFT"), (49, .methodref 12 116), (0, .nameAndType 117 118), (0, u "compress"), (0, u "([CI[BII)I"), (3, u "([CII)[B"), (138, u "coderFromArrayLen"), (0, u "([BI)B"), (106, .class_ 371), (1, u "java/lang/StringUTF16$LinesSpliterator"), (58, u "MAX_LENGTH"), (196, .class_ 628), (0, u "java/lang/StringUTF16$CodePointsSpliterator"), (0, .class_ 630), (0, u "java/lang/StringUTF16$CharsSpliterator")] 4

def k14m0 : Method := { name := "<init>", desc := "()V", sig := { parameters := [], returnType := none }, accessFlags := 0, code := none }
def k14c1 : Code := { maxStack := 2, maxLocals := 2, code := jdk_52_method_15_code, exceptionTable := #[], attributes := #[] }
def k14m1 : Method := { name := "coderFromArrayLen", desc := "([BI)B", sig := { parameters := [(.array .byte), .int], returnType := some .byte }, accessFlags := 8, code := some k14c1 }
def k14c2 : Code := { maxStack := 5, maxLocals := 6, code := jdk_52_method_16_code, exceptionTable := #[], attributes := #[] }
def k14m2 : Method := { name := "compress", desc := "([CII)[B", sig := { parameters := [(.array .char), .int, .int], returnType := some (.array .byte) }, accessFlags := 9, code := some k14c2 }
def k14c3 : Code := { maxStack := 3, maxLocals := 7, code := jdk_52_method_21_code, exceptionTable := #[], attributes := #[] }
def k14m3 : Method := { name := "compress", desc := "([CI[BII)I", sig := { parameters := [(.array .char), .int, (.array .byte), .int, .int], returnType := some .int }, accessFlags := 9, code := some k14c3 }
/-- java/lang/StringUTF16 -/
def k14 : Class := { plain "java/lang/StringUTF16" (some 0) with
  accessFlags := 48
  interfaces := #[]
  cf := some (fileOf pool14 12 #[.nestMembers #[627, 629, 369]] #[{ accessFlags := 0, nameIndex := 9, descriptorIndex := 10, attributes := #[] }, { accessFlags := 8, nameIndex := 261, descriptorIndex := 262, attributes := #[] }, { accessFlags := 9, nameIndex := 117, descriptorIndex := 122, attributes := #[] }, { accessFlags := 9, nameIndex := 117, descriptorIndex := 118, attributes := #[] }] 48 6 #[] #[{ accessFlags := 26, nameIndex := 61, descriptorIndex := 62, attributes := #[] }, { accessFlags := 26, nameIndex := 65, descriptorIndex := 62, attributes := #[] }, { accessFlags := 24, nameIndex := 430, descriptorIndex := 62, attributes := #[] }, { accessFlags := 4120, nameIndex := 46, descriptorIndex := 47, attributes := #[] }])
  fields := #[{ name := "HI_BYTE_SHIFT", type := .int, accessFlags := 26, slot := 0, constantValue := 0 }, { name := "LO_BYTE_SHIFT", type := .int, accessFlags := 26, slot := 1, constantValue := 0 }, { name := "MAX_LENGTH", type := .int, accessFlags := 24, slot := 2, constantValue := 0 }, { name := "$assertionsDisabled", type := .boolean, accessFlags := 4120, slot := 3, constantValue := 0 }]
  methods := #[k14m0, k14m1, k14m2, k14m3]
  instanceTypes := #[]
  staticTypes := #[.int, .int, .int, .boolean]
  resolved := Array.replicate 635 none
  statics := none }

def pool15 : Array CpInfo := pool [(2, .class_ 4), (1, u "java/lang/Object"), (0, u "<init>"), (0, u "()V"), (17, .class_ 26), (1, u "jdk/internal/util/Preconditions"), (28, .class_ 56), (0, u "jdk/internal/util/Preconditions$4"), (57, .class_ 115), (0, u "jdk/internal/util/Preconditions$1"), (7, u "SIOOBE_FORMATTER"), (0, u "Ljava/util/function/BiFunction;"), (0, .class_ 126), (0, u "jdk/internal/util/Preconditions$2"), (3, u "AIOOBE_FORMATTER"), (0, .class_ 132), (0, u "jdk/internal/util/Preconditions$3"), (3, u "IOOBE_FORMATTER")] 57

def k15m0 : Method := { name := "<init>", desc := "()V", sig := { parameters := [], returnType := none }, accessFlags := 1, code := none }
/-- jdk/internal/util/Preconditions -/
def k15 : Class := { plain "jdk/internal/util/Preconditions" (some 0) with
  accessFlags := 33
  interfaces := #[]
  cf := some (fileOf pool15 24 #[.nestMembers #[55, 131, 125, 114]] #[{ accessFlags := 1, nameIndex := 5, descriptorIndex := 6, attributes := #[] }] 33 2 #[] #[{ accessFlags := 25, nameIndex := 123, descriptorIndex := 124, attributes := #[] }, { accessFlags := 25, nameIndex := 130, descriptorIndex := 124, attributes := #[] }, { accessFlags := 25, nameIndex := 136, descriptorIndex := 124, attributes := #[] }])
  fields := #[{ name := "SIOOBE_FORMATTER", type := (.object "java/util/function/BiFunction"), accessFlags := 25, slot := 0, constantValue := 0 }, { name := "AIOOBE_FORMATTER", type := (.object "java/util/function/BiFunction"), accessFlags := 25, slot := 1, constantValue := 0 }, { name := "IOOBE_FORMATTER", type := (.object "java/util/function/BiFunction"), accessFlags := 25, slot := 2, constantValue := 0 }]
  methods := #[k15m0]
  instanceTypes := #[]
  staticTypes := #[(.object "java/util/function/BiFunction"), (.object "java/util/function/BiFunction"), (.object "java/util/function/BiFunction")]
  resolved := Array.replicate 194 none
  statics := some 2 }

def pool16 : Array CpInfo := pool [(9, u "<init>"), (6, .class_ 18), (1, u "java/lang/Object"), (0, u "()V"), (1, .class_ 23), (1, u "jdk/internal/util/ArraysSupport"), (0, u "LOG2_ARRAY_LONG_INDEX_SCALE"), (0, u "I"), (2, u "U"), (0, u "Ljdk/internal/misc/Unsafe;"), (8, u "BIG_ENDIAN"), (0, u "Z"), (8, u "LOG2_BYTE_BIT_SIZE"), (4, u "LOG2_ARRAY_INT_INDEX_SCALE"), (54, u "JLA"), (0, u "Ljdk/internal/access/JavaLangAccess;"), (11, u "LOG2_ARRAY_BOOLEAN_INDEX_SCALE"), (9, u "LOG2_ARRAY_BYTE_INDEX_SCALE"), (5, u "LOG2_ARRAY_CHAR_INDEX_SCALE"), (5, u "LOG2_ARRAY_SHORT_INDEX_SCALE"), (18, u "LOG2_ARRAY_FLOAT_INDEX_SCALE"), (24, u "LOG2_ARRAY_DOUBLE_INDEX_SCALE"), (89, u "T_BOOLEAN"), (2, u "T_CHAR"), (1, u "T_FLOAT"), (1, u "T_DOUBLE"), (1, u "T_BYTE"), (1, u "T_SHORT"), (1, u "T_INT"), (1, u "T_LONG"), (1, u "SOFT_MAX_ARRAY_LENGTH")] 83

def k16m0 : Method := { name := "<init>", desc := "()V", sig := { parameters := [], returnType := none }, accessFlags := 2, code := none }
/-- jdk/internal/util/ArraysSupport -/
def k16 : Class := { plain "jdk/internal/util/ArraysSupport" (some 0) with
  accessFlags := 33
  interfaces := #[]
  cf := some (fileOf pool16 21 #[] #[{ accessFlags := 2, nameIndex := 9, descriptorIndex := 19, attributes := #[] }] 33 16 #[] #[{ accessFlags := 24, nameIndex := 28, descriptorIndex := 29, attributes := #[] }, { accessFlags := 26, nameIndex := 38, descriptorIndex := 39, attributes := #[] }, { accessFlags := 25, nameIndex := 121, descriptorIndex := 25, attributes := #[] }, { accessFlags := 25, nameIndex := 131, descriptorIndex := 25, attributes := #[] }, { accessFlags := 25, nameIndex := 137, descriptorIndex := 25, attributes := #[] }, { accessFlags := 25, nameIndex := 143, descriptorIndex := 25, attributes := #[] }, { accessFlags := 25, nameIndex := 53, descriptorIndex := 25, attributes := #[] }, { accessFlags := 25, nameIndex := 24, descriptorIndex := 25, attributes := #[] }, { accessFlags := 25, nameIndex := 162, descriptorIndex := 25, attributes := #[] }, { accessFlags := 25, nameIndex := 187, descriptorIndex := 25, attributes := #[] }, { accessFlags := 26, nameIndex := 48, descriptorIndex := 25, attributes := #[] }, { accessFlags := 25, nameIndex := 277, descriptorIndex := 25, attributes := #[] }, { accessFlags := 25, nameIndex := 280, descriptorIndex := 25, attributes := #[] }, { accessFlags := 25, nameIndex := 282, descriptorIndex := 25, attributes := #[] }, { accessFlags := 25, nameIndex := 284, descriptorIndex := 25, attributes := #[] }, { accessFlags := 25, nameIndex := 286, descriptorIndex := 25, attributes := #[] }, { accessFlags := 25, nameIndex := 288, descriptorIndex := 25, attributes := #[] }, { accessFlags := 25, nameIndex := 290, descriptorIndex := 25, attributes := #[] }, { accessFlags := 25, nameIndex := 292, descriptorIndex := 25, attributes := #[] }, { accessFlags := 26, nameIndex := 108, descriptorIndex := 109, attributes := #[] }, { accessFlags := 25, nameIndex := 294, descriptorIndex := 25, attributes := #[] }])
  fields := #[{ name := "U", type := (.object "jdk/internal/misc/Unsafe"), accessFlags := 24, slot := 0, constantValue := 0 }, { name := "BIG_ENDIAN", type := .boolean, accessFlags := 26, slot := 1, constantValue := 0 }, { name := "LOG2_ARRAY_BOOLEAN_INDEX_SCALE", type := .int, accessFlags := 25, slot := 2, constantValue := 0 }, { name := "LOG2_ARRAY_BYTE_INDEX_SCALE", type := .int, accessFlags := 25, slot := 3, constantValue := 0 }, { name := "LOG2_ARRAY_CHAR_INDEX_SCALE", type := .int, accessFlags := 25, slot := 4, constantValue := 0 }, { name := "LOG2_ARRAY_SHORT_INDEX_SCALE", type := .int, accessFlags := 25, slot := 5, constantValue := 0 }, { name := "LOG2_ARRAY_INT_INDEX_SCALE", type := .int, accessFlags := 25, slot := 6, constantValue := 0 }, { name := "LOG2_ARRAY_LONG_INDEX_SCALE", type := .int, accessFlags := 25, slot := 7, constantValue := 0 }, { name := "LOG2_ARRAY_FLOAT_INDEX_SCALE", type := .int, accessFlags := 25, slot := 8, constantValue := 0 }, { name := "LOG2_ARRAY_DOUBLE_INDEX_SCALE", type := .int, accessFlags := 25, slot := 9, constantValue := 0 }, { name := "LOG2_BYTE_BIT_SIZE", type := .int, accessFlags := 26, slot := 10, constantValue := 0 }, { name := "T_BOOLEAN", type := .int, accessFlags := 25, slot := 11, constantValue := 0 }, { name := "T_CHAR", type := .int, accessFlags := 25, slot := 12, constantValue := 0 }, { name := "T_FLOAT", type := .int, accessFlags := 25, slot := 13, constantValue := 0 }, { name := "T_DOUBLE", type := .int, accessFlags := 25, slot := 14, constantValue := 0 }, { name := "T_BYTE", type := .int, accessFlags := 25, slot := 15, constantValue := 0 }, { name := "T_SHORT", type := .int, accessFlags := 25, slot := 16, constantValue := 0 }, { name := "T_INT", type := .int, accessFlags := 25, slot := 17, constantValue := 0 }, { name := "T_LONG", type := .int, accessFlags := 25, slot := 18, constantValue := 0 }, { name := "JLA", type := (.object "jdk/internal/access/JavaLangAccess"), accessFlags := 26, slot := 19, constantValue := 0 }, { name := "SOFT_MAX_ARRAY_LENGTH", type := .int, accessFlags := 25, slot := 20, constantValue := 0 }]
  methods := #[k16m0]
  instanceTypes := #[]
  staticTypes := #[(.object "jdk/internal/misc/Unsafe"), .boolean, .int, .int, .int, .int, .int, .int, .int, .int, .int, .int, .int, .int, .int, .int, .int, .int, .int, (.object "jdk/internal/access/JavaLangAccess"), .int]
  resolved := Array.replicate 378 none
  statics := none }

def pool17 : Array CpInfo := pool [(1, u "java/lang/Cloneable"), (0, .class_ 1), (0, u "java/lang/Object"), (0, .class_ 3)] 3

/-- java/lang/Cloneable -/
def k17 : Class := { plain "java/lang/Cloneable" (some 0) with
  accessFlags := 1537
  interfaces := #[]
  cf := some (fileOf pool17 2 #[] #[] 1537 4 #[] #[])
  fields := #[]
  methods := #[]
  instanceTypes := #[]
  staticTypes := #[]
  resolved := Array.replicate 8 none
  statics := none }

/-- the primitive byte -/
def k18 : Class := { plain "byte" none with kind := .primitive 'B', accessFlags := 0x411 }
/-- [B -/
def k19 : Class := { plain "[B" (some 0) with kind := .array 18 .byte, interfaces := #[17, 4], accessFlags := 1041 }

/-- the primitive char -/
def k20 : Class := { plain "char" none with kind := .primitive 'C', accessFlags := 0x411 }
/-- [C -/
def k21 : Class := { plain "[C" (some 0) with kind := .array 20 .char, interfaces := #[17, 4], accessFlags := 1041 }

def heap : Heap := #[{ cls := 6, slots := #[.ref 3, .ref 6, .ref 5, .ref 7, .ref 8, .ref 4, .ref 9, .null], vm := .statics 6 },
  { cls := 9, slots := #[.long 0, .int 1, .null, .int 0, .null, .int 0, .int 0], vm := .statics 9 },
  { cls := 15, slots := #[.null, .null, .null], vm := .statics 15 },
  { cls := 6, slots := #[.null, .int 0, .int 0, .int 0, .null, .null], vm := .none },
  { cls := 6, slots := #[.null, .int 0, .int 0, .int 0, .null, .null], vm := .none },
  { cls := 6, slots := #[.null, .int 0, .int 0, .int 0, .null, .null], vm := .none },
  { cls := 6, slots := #[.null, .int 0, .int 0, .int 0, .null, .null], vm := .none },
  { cls := 6, slots := #[.null, .int 0, .int 0, .int 0, .null, .null], vm := .none },
  { cls := 6, slots := #[.null, .int 0, .int 0, .int 0, .null, .null], vm := .none },
  { cls := 6, slots := #[.null, .int 0, .int 0, .int 0, .null, .null], vm := .none }]
def classes : Array Class := #[k0, k1, k2, k3, k4, k5, k6, k7, k8, k9, k10, k11, k12, k13, k14, k15, k16, k17, k18, k19, k20, k21]
def interned : List (Array UInt16 × Addr) := []
def slotsUsed : Nat := 60
def theMethod : MethodId := ⟨1, 3⟩
def args0 : Array Value := #[.int 4, .int 5, .int 6, .int 7]
def aboutOver (below : List Frame) : State where
  vm := { classes := classes, interned := interned.toArray }
  heap := heap
  slotsUsed := slotsUsed
  threads := #[{ frames := .invoking theMethod args0 :: below }]
def below0 : List Frame := [.native { method := ⟨0, 0⟩, args := #[] }]
def about1 : State := aboutOver below0
def p0 : Program := .bare "" "" ""
def e0 : Env := launch0.env 0 0 0
theorem w_frames : about1.frames = Frame.invoking theMethod args0 :: below0 := rfl
set_option maxRecDepth 65536 in
theorem w_args : argsFit about1.vm theMethod args0 = true := by decide +kernel
set_option maxRecDepth 65536 in
theorem w_heap : heapFits about1 = true := by decide +kernel
set_option maxRecDepth 65536 in
theorem w_runnable : about1.curStatus? = some .runnable := by decide +kernel
set_option maxRecDepth 65536 in
theorem w_alone : about1.alone = true := by decide +kernel
set_option maxRecDepth 65536 in
theorem w_named : about1.methodNamed? x = some theMethod := by decide +kernel
set_option maxRecDepth 65536 in
theorem w_hears : about1.hears theMethod below0 = true := by decide +kernel
set_option maxRecDepth 65536 in
theorem w_ripe : about1.ripe theMethod args0 below0 = true := by decide +kernel
theorem w_running : about1.status = .running := rfl
set_option maxRecDepth 65536 in
theorem w_room : about1.hasRoom e0.platform room_1 = true :=
  launch0.hasRoom_least _ room_1 (by decide +kernel) (by decide +kernel) (by decide +kernel) (by decide +kernel) (by decide +kernel) (by decide +kernel)
theorem allAtoms_all (ts : List Jvm.Cond) (a : Array Jvm.Value) (st : Jvm.State) : (allAtoms ts).before a st = ts.all (fun c => c.before a st) := by
  induction ts with
  | nil => rfl
  | cons c t ih =>
    show (Jvm.Cond.and c (allAtoms t)).before a st = _
    rw [Jvm.Cond.before_and, ih, List.all_cons]
def words1 : List Jvm.Cond := Jvm.Cond.code x code maxLocals ret :: tables_1
/-- a 'code' word, met by the world's own term for the bytes: nothing is compared byte by byte -/
theorem code_word {y : MethodName} {bytes : ByteArray} {mx : Nat} {rt : Option FieldType} {a : Array Value} {s : State} {m : MethodId} {meth : Method} {c : Code} (h1 : s.methodNamed? y = some m) (h2 : s.vm.method? m = some meth) (h3 : meth.code = some c) (h4 : c.code = bytes)
    (h5 : (c.maxLocals == mx && c.exceptionTable.isEmpty && decide (c.maxStack ≤ mostOperands) && decide (meth.sig.returnType = rt) && !meth.locks && decide (parseMethodDescriptor y.desc = some meth.sig)) = true) : (Jvm.Cond.code y bytes mx rt).before a s = true := by
  simp only [Bool.and_eq_true, beq_iff_eq, Bool.not_eq_true', decide_eq_true_eq] at h5
  obtain ⟨⟨⟨⟨⟨g1, g2⟩, g3⟩, g4⟩, g5⟩, g6⟩ := h5
  simp [Cond.before, Cond.holds, Cond.value, h1, h2, h3, h4, g1, g2, g3, g4, g5, g6]
def isCode : Jvm.Cond → Bool
  | .code _ _ _ _ => true
  | _ => false
theorem all_split {L : List Jvm.Cond} {P : Jvm.Cond → Bool} (h1 : L.all (fun c => isCode c || P c) = true) (h2 : ∀ c ∈ L.filter isCode, P c = true) : L.all P = true := by
  refine List.all_eq_true.mpr fun c hc => ?_
  have h := List.all_eq_true.mp h1 c hc
  rcases Bool.eq_false_or_eq_true (isCode c) with hi | hi
  · exact h2 c (List.mem_filter.mpr ⟨hc, hi⟩)
  · simpa [hi] using h
set_option maxRecDepth 65536 in
theorem w_c0 : (Jvm.Cond.code x code maxLocals ret).before args0 about1 = true := code_word (m := ⟨1, 3⟩) (meth := k1m3) (c := k1c3) (by decide +kernel) rfl rfl rfl (by decide +kernel)
set_option maxRecDepth 65536 in
theorem w_c1 : (Jvm.Cond.code ({ cls := "com/example/onward_schema/onwardschema/store/EntryRemovesPinLaw", name := "pick", desc := "(I)Lcom/example/onward_schema/onwardschema/store/StoreMap;" } : Jvm.MethodName) method_2_code (1 : Nat) (Option.some (Jvm.ClassFile.FieldType.object "com/example/onward_schema/onwardschema/store/StoreMap"))).before args0 about1 = true := code_word (m := ⟨1, 1⟩) (meth := k1m1) (c := k1c1) (by decide +kernel) rfl rfl rfl (by decide +kernel)
set_option maxRecDepth 65536 in
theorem w_c2 : (Jvm.Cond.code ({ cls := "com/example/onward_schema/onwardschema/store/EntryRemovesPinLaw", name := "key", desc := "(I)Ljava/lang/String;" } : Jvm.MethodName) method_3_code (4 : Nat) (Option.some (Jvm.ClassFile.FieldType.object "java/lang/String"))).before args0 about1 = true := code_word (m := ⟨1, 2⟩) (meth := k1m2) (c := k1c2) (by decide +kernel) rfl rfl rfl (by decide +kernel)
set_option maxRecDepth 65536 in
theorem w_c3 : (Jvm.Cond.code ({ cls := "java/lang/String", name := "<init>", desc := "([C)V" } : Jvm.MethodName) jdk_42_method_3_code (2 : Nat) (Option.none : Option Jvm.ClassFile.FieldType)).before args0 about1 = true := code_word (m := ⟨9, 1⟩) (meth := k9m1) (c := k9c1) (by decide +kernel) rfl rfl rfl (by decide +kernel)
set_option maxRecDepth 65536 in
theorem w_c4 : (Jvm.Cond.code ({ cls := "java/lang/String", name := "<init>", desc := "([CIILjava/lang/Void;)V" } : Jvm.MethodName) jdk_42_method_149_code (6 : Nat) (Option.none : Option Jvm.ClassFile.FieldType)).before args0 about1 = true := code_word (m := ⟨9, 3⟩) (meth := k9m3) (c := k9c3) (by decide +kernel) rfl rfl rfl (by decide +kernel)
set_option maxRecDepth 65536 in
theorem w_c5 : (Jvm.Cond.code ({ cls := "java/lang/Object", name := "<init>", desc := "()V" } : Jvm.MethodName) object_method_1_code (1 : Nat) (Option.none : Option Jvm.ClassFile.FieldType)).before args0 about1 = true := code_word (m := ⟨0, 0⟩) (meth := k0m0) (c := k0c0) (by decide +kernel) rfl rfl rfl (by decide +kernel)
set_option maxRecDepth 65536 in
theorem w_c6 : (Jvm.Cond.code ({ cls := "com/example/onward_schema/onwardschema/store/StoreLog$Entry", name := "<init>", desc := "(Lcom/example/onward_schema/onwardschema/store/StoreMap;Ljava/lang/String;[B)V" } : Jvm.MethodName) prog_57_method_1_code (4 : Nat) (Option.none : Option Jvm.ClassFile.FieldType)).before args0 about1 = true := code_word (m := ⟨11, 0⟩) (meth := k11m0) (c := k11c0) (by decide +kernel) rfl rfl rfl (by decide +kernel)
set_option maxRecDepth 65536 in
theorem w_c7 : (Jvm.Cond.code ({ cls := "java/lang/Record", name := "<init>", desc := "()V" } : Jvm.MethodName) jdk_30_method_1_code (1 : Nat) (Option.none : Option Jvm.ClassFile.FieldType)).before args0 about1 = true := code_word (m := ⟨10, 0⟩) (meth := k10m0) (c := k10c0) (by decide +kernel) rfl rfl rfl (by decide +kernel)
set_option maxRecDepth 65536 in
theorem w_c8 : (Jvm.Cond.code ({ cls := "java/util/Objects", name := "requireNonNull", desc := "(Ljava/lang/Object;Ljava/lang/String;)Ljava/lang/Object;" } : Jvm.MethodName) jdk_31_method_11_code (2 : Nat) (Option.some (Jvm.ClassFile.FieldType.object "java/lang/Object"))).before args0 about1 = true := code_word (m := ⟨12, 1⟩) (meth := k12m1) (c := k12c1) (by decide +kernel) rfl rfl rfl (by decide +kernel)
set_option maxRecDepth 65536 in
theorem w_c9 : (Jvm.Cond.code ({ cls := "com/example/onward_schema/onwardschema/store/StoreLog$Entry", name := "removes", desc := "()Z" } : Jvm.MethodName) prog_57_method_3_code (1 : Nat) (Option.some Jvm.ClassFile.FieldType.boolean)).before args0 about1 = true := code_word (m := ⟨11, 2⟩) (meth := k11m2) (c := k11c2) (by decide +kernel) rfl rfl rfl (by decide +kernel)
set_option maxRecDepth 65536 in
theorem w_c10 : (Jvm.Cond.code ({ cls := "com/example/onward_schema/onwardschema/store/StoreLog$Entry", name := "removal", desc := "(Lcom/example/onward_schema/onwardschema/store/StoreMap;Ljava/lang/String;)Lcom/example/onward_schema/onwardschema/store/StoreLog$Entry;" } : Jvm.MethodName) prog_57_method_2_code (2 : Nat) (Option.some (Jvm.ClassFile.FieldType.object "com/example/onward_schema/onwardschema/store/StoreLog$Entry"))).before args0 about1 = true := code_word (m := ⟨11, 1⟩) (meth := k11m1) (c := k11c1) (by decide +kernel) rfl rfl rfl (by decide +kernel)
set_option maxRecDepth 65536 in
theorem w_c11 : (Jvm.Cond.code ({ cls := "java/lang/String", name := "valueOf", desc := "(C)Ljava/lang/String;" } : Jvm.MethodName) jdk_42_method_139_code (1 : Nat) (Option.some (Jvm.ClassFile.FieldType.object "java/lang/String"))).before args0 about1 = true := code_word (m := ⟨9, 2⟩) (meth := k9m2) (c := k9c2) (by decide +kernel) rfl rfl rfl (by decide +kernel)
set_option maxRecDepth 65536 in
theorem w_c12 : (Jvm.Cond.code ({ cls := "java/lang/StringLatin1", name := "canEncode", desc := "(C)Z" } : Jvm.MethodName) jdk_43_method_3_code (1 : Nat) (Option.some Jvm.ClassFile.FieldType.boolean)).before args0 about1 = true := code_word (m := ⟨13, 1⟩) (meth := k13m1) (c := k13c1) (by decide +kernel) rfl rfl rfl (by decide +kernel)
set_option maxRecDepth 65536 in
theorem w_c13 : (Jvm.Cond.code ({ cls := "java/lang/StringLatin1", name := "toBytes", desc := "(C)[B" } : Jvm.MethodName) jdk_43_method_46_code (1 : Nat) (Option.some (Jvm.ClassFile.FieldType.array Jvm.ClassFile.FieldType.byte))).before args0 about1 = true := code_word (m := ⟨13, 2⟩) (meth := k13m2) (c := k13c2) (by decide +kernel) rfl rfl rfl (by decide +kernel)
set_option maxRecDepth 65536 in
theorem w_c14 : (Jvm.Cond.code ({ cls := "java/lang/String", name := "<init>", desc := "([BB)V" } : Jvm.MethodName) jdk_42_method_151_code (3 : Nat) (Option.none : Option Jvm.ClassFile.FieldType)).before args0 about1 = true := code_word (m := ⟨9, 4⟩) (meth := k9m4) (c := k9c4) (by decide +kernel) rfl rfl rfl (by decide +kernel)
set_option maxRecDepth 65536 in
theorem w_c15 : (Jvm.Cond.code ({ cls := "java/lang/StringUTF16", name := "compress", desc := "([CII)[B" } : Jvm.MethodName) jdk_52_method_16_code (6 : Nat) (Option.some (Jvm.ClassFile.FieldType.array Jvm.ClassFile.FieldType.byte))).before args0 about1 = true := code_word (m := ⟨14, 2⟩) (meth := k14m2) (c := k14c2) (by decide +kernel) rfl rfl rfl (by decide +kernel)
set_option maxRecDepth 65536 in
theorem w_c16 : (Jvm.Cond.code ({ cls := "java/lang/StringUTF16", name := "compress", desc := "([CI[BII)I" } : Jvm.MethodName) jdk_52_method_21_code (7 : Nat) (Option.some Jvm.ClassFile.FieldType.int)).before args0 about1 = true := code_word (m := ⟨14, 3⟩) (meth := k14m3) (c := k14c3) (by decide +kernel) rfl rfl rfl (by decide +kernel)
set_option maxRecDepth 65536 in
theorem w_c17 : (Jvm.Cond.code ({ cls := "java/lang/StringUTF16", name := "coderFromArrayLen", desc := "([BI)B" } : Jvm.MethodName) jdk_52_method_15_code (2 : Nat) (Option.some Jvm.ClassFile.FieldType.byte)).before args0 about1 = true := code_word (m := ⟨14, 1⟩) (meth := k14m1) (c := k14c1) (by decide +kernel) rfl rfl rfl (by decide +kernel)
def codes1 : List Jvm.Cond := [Jvm.Cond.code x code maxLocals ret, Jvm.Cond.code ({ cls := "com/example/onward_schema/onwardschema/store/EntryRemovesPinLaw", name := "pick", desc := "(I)Lcom/example/onward_schema/onwardschema/store/StoreMap;" } : Jvm.MethodName) method_2_code (1 : Nat) (Option.some (Jvm.ClassFile.FieldType.object "com/example/onward_schema/onwardschema/store/StoreMap")), Jvm.Cond.code ({ cls := "com/example/onward_schema/onwardschema/store/EntryRemovesPinLaw", name := "key", desc := "(I)Ljava/lang/String;" } : Jvm.MethodName) method_3_code (4 : Nat) (Option.some (Jvm.ClassFile.FieldType.object "java/lang/String")), Jvm.Cond.code ({ cls := "java/lang/String", name := "<init>", desc := "([C)V" } : Jvm.MethodName) jdk_42_method_3_code (2 : Nat) (Option.none : Option Jvm.ClassFile.FieldType), Jvm.Cond.code ({ cls := "java/lang/String", name := "<init>", desc := "([CIILjava/lang/Void;)V" } : Jvm.MethodName) jdk_42_method_149_code (6 : Nat) (Option.none : Option Jvm.ClassFile.FieldType), Jvm.Cond.code ({ cls := "java/lang/Object", name := "<init>", desc := "()V" } : Jvm.MethodName) object_method_1_code (1 : Nat) (Option.none : Option Jvm.ClassFile.FieldType), Jvm.Cond.code ({ cls := "com/example/onward_schema/onwardschema/store/StoreLog$Entry", name := "<init>", desc := "(Lcom/example/onward_schema/onwardschema/store/StoreMap;Ljava/lang/String;[B)V" } : Jvm.MethodName) prog_57_method_1_code (4 : Nat) (Option.none : Option Jvm.ClassFile.FieldType), Jvm.Cond.code ({ cls := "java/lang/Record", name := "<init>", desc := "()V" } : Jvm.MethodName) jdk_30_method_1_code (1 : Nat) (Option.none : Option Jvm.ClassFile.FieldType), Jvm.Cond.code ({ cls := "java/util/Objects", name := "requireNonNull", desc := "(Ljava/lang/Object;Ljava/lang/String;)Ljava/lang/Object;" } : Jvm.MethodName) jdk_31_method_11_code (2 : Nat) (Option.some (Jvm.ClassFile.FieldType.object "java/lang/Object")), Jvm.Cond.code ({ cls := "com/example/onward_schema/onwardschema/store/StoreLog$Entry", name := "removes", desc := "()Z" } : Jvm.MethodName) prog_57_method_3_code (1 : Nat) (Option.some Jvm.ClassFile.FieldType.boolean), Jvm.Cond.code ({ cls := "com/example/onward_schema/onwardschema/store/StoreLog$Entry", name := "removal", desc := "(Lcom/example/onward_schema/onwardschema/store/StoreMap;Ljava/lang/String;)Lcom/example/onward_schema/onwardschema/store/StoreLog$Entry;" } : Jvm.MethodName) prog_57_method_2_code (2 : Nat) (Option.some (Jvm.ClassFile.FieldType.object "com/example/onward_schema/onwardschema/store/StoreLog$Entry")), Jvm.Cond.code ({ cls := "java/lang/String", name := "valueOf", desc := "(C)Ljava/lang/String;" } : Jvm.MethodName) jdk_42_method_139_code (1 : Nat) (Option.some (Jvm.ClassFile.FieldType.object "java/lang/String")), Jvm.Cond.code ({ cls := "java/lang/StringLatin1", name := "canEncode", desc := "(C)Z" } : Jvm.MethodName) jdk_43_method_3_code (1 : Nat) (Option.some Jvm.ClassFile.FieldType.boolean), Jvm.Cond.code ({ cls := "java/lang/StringLatin1", name := "toBytes", desc := "(C)[B" } : Jvm.MethodName) jdk_43_method_46_code (1 : Nat) (Option.some (Jvm.ClassFile.FieldType.array Jvm.ClassFile.FieldType.byte)), Jvm.Cond.code ({ cls := "java/lang/String", name := "<init>", desc := "([BB)V" } : Jvm.MethodName) jdk_42_method_151_code (3 : Nat) (Option.none : Option Jvm.ClassFile.FieldType), Jvm.Cond.code ({ cls := "java/lang/StringUTF16", name := "compress", desc := "([CII)[B" } : Jvm.MethodName) jdk_52_method_16_code (6 : Nat) (Option.some (Jvm.ClassFile.FieldType.array Jvm.ClassFile.FieldType.byte)), Jvm.Cond.code ({ cls := "java/lang/StringUTF16", name := "compress", desc := "([CI[BII)I" } : Jvm.MethodName) jdk_52_method_21_code (7 : Nat) (Option.some Jvm.ClassFile.FieldType.int), Jvm.Cond.code ({ cls := "java/lang/StringUTF16", name := "coderFromArrayLen", desc := "([BI)B" } : Jvm.MethodName) jdk_52_method_15_code (2 : Nat) (Option.some Jvm.ClassFile.FieldType.byte)]
set_option maxRecDepth 65536 in
theorem codes_eq : words1.filter isCode = codes1 := rfl
theorem w_codes : ∀ c ∈ words1.filter isCode, c.before args0 about1 = true := by
  rw [codes_eq]
  intro c hc
  simp only [codes1, List.mem_cons, List.not_mem_nil, or_false] at hc
  rcases hc with rfl | rfl | rfl | rfl | rfl | rfl | rfl | rfl | rfl | rfl | rfl | rfl | rfl | rfl | rfl | rfl | rfl | rfl
  · exact w_c0
  · exact w_c1
  · exact w_c2
  · exact w_c3
  · exact w_c4
  · exact w_c5
  · exact w_c6
  · exact w_c7
  · exact w_c8
  · exact w_c9
  · exact w_c10
  · exact w_c11
  · exact w_c12
  · exact w_c13
  · exact w_c14
  · exact w_c15
  · exact w_c16
  · exact w_c17
set_option maxRecDepth 65536 in
theorem w_t1 : (words1.take 24).all (fun c => isCode c || c.before args0 about1) = true := by decide +kernel
set_option maxRecDepth 65536 in
theorem w_t2 : ((words1.drop 24).take 24).all (fun c => isCode c || c.before args0 about1) = true := by decide +kernel
set_option maxRecDepth 65536 in
theorem w_t3 : (((words1.drop 24).drop 24).take 24).all (fun c => isCode c || c.before args0 about1) = true := by decide +kernel
set_option maxRecDepth 65536 in
theorem w_t4 : ((((words1.drop 24).drop 24).drop 24).take 24).all (fun c => isCode c || c.before args0 about1) = true := by decide +kernel
set_option maxRecDepth 65536 in
theorem w_t5 : ((((words1.drop 24).drop 24).drop 24).drop 24).all (fun c => isCode c || c.before args0 about1) = true := by decide +kernel
theorem w_tables : (allAtoms (Jvm.Cond.code x code maxLocals ret :: tables_1)).before args0 about1 = true := by
  rw [allAtoms_all]
  show words1.all (fun c => c.before args0 about1) = true
  refine all_split ?_ w_codes
  rw [← List.take_append_drop 24 words1, List.all_append, w_t1, ← List.take_append_drop 24 (words1.drop 24), List.all_append, w_t2, ← List.take_append_drop 24 ((words1.drop 24).drop 24), List.all_append, w_t3, ← List.take_append_drop 24 (((words1.drop 24).drop 24).drop 24), List.all_append, w_t4, w_t5]
  rfl
set_option maxRecDepth 65536 in
theorem w_rest : rest_1_c.before args0 about1 = true := by decide +kernel
set_option maxRecDepth 65536 in
theorem w_case : (Jvm.Cond.and given_1 narrow_1).before args0 about1 = true := by decide +kernel
set_option maxRecDepth 65536 in
theorem w_consts : constsHeld consts_1 about1 := Jvm.Lit.constsHeldB_iff.mp (by decide +kernel)
theorem w_applies : (headSpec (Jvm.Cond.code x code maxLocals ret :: tables_1) room_1).applies x e0.platform about1 = true :=
  (Spec.applies_iff w_frames).mpr ⟨w_running, w_runnable, w_alone, w_named, w_hears, w_ripe, w_room, w_tables⟩
theorem atStart : AtStart classFile x code maxLocals ret World_1 tables_1 room_1 Calls_1 rest_1 Pre_1 launch0 p0 e0 about1 theMethod args0 below0 :=
  ⟨lists_1, trivial, launch0.admits_env _ _ _, launch0.least_env, fairChoices_fair.cas, fairChoices_fair.clock, w_frames, w_args, w_heap, w_applies, ⟨w_consts, trivial⟩, w_rest, w_case⟩
end start1
theorem witness_1 : WitnessClaimed_1 := ⟨start1.p0, start1.e0, start1.about1, start1.theMethod, start1.args0, start1.below0, start1.atStart⟩
end Jvm.Pilot.@@N@@
