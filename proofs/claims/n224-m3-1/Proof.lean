import JvmDerived
import JvmDerived.Pilot.@@N@@Statement
import JvmDerived.Pilot.@@N@@Code
set_option linter.unusedVariables false
set_option linter.unusedSimpArgs false
@@BLOCK:NumsL.lean.txt@@
namespace Jvm.RoadKit
open Sem ClassFile Op Lib Jvm.Stand Jvm.Free Jvm.LawKit
section New
variable {p : Program} {l : Launch} {e : Env} {R : Room} {s : State} {m : MethodId} {args : Array Value} {below : List Frame} {meth : Method} {c : Code} {T : State} {locs : List Loc} {cells slots : Nat}
theorem retI (X : Stand p l e R s m args below meth c T locs cells slots) (hx : p.tables.exec = Jvm.exec) {pc : Nat} {Ls : Array Slot} {z : Int32} {rest : List Value} (hret : meth.sig.returnType = some .int) (hd : decode c.code pc = .ok (.ireturn, 1)) {fs : List Frame}
    (hl : ∀ (f : JFrame) (acts : List Action), f.method = m → f.locked = none → f.entered = [] → (doReturn e (T.setTop f) acts (some (.int z))).1 = T.setFrames fs) : Steps p.tables e below (T.setTop (mkF m pc Ls (.int z :: rest))) (T.setFrames fs) := by
  have hm' : T.vm.method? m = some meth := X.method'
  have hn : narrow .int (.int z) = .int z := rfl
  show Steps p.tables e below (T.setTop { method := m, pc := pc, locals := Ls, stack := _ :: rest, locked := none }) _
  jvm_step X.here [X.here.top, hx, hd, hm', hret, hn]
  first | (intro acts; rw [hl _ acts rfl rfl rfl]) | rw [hl _ _ rfl rfl rfl]
  exact Steps.refl _
end New
end Jvm.RoadKit
namespace Jvm.Pilot.@@N@@
open Jvm Jvm.ClassFile Sem Op Lib Jvm.Free Jvm.Stand Jvm.LawKit Jvm.RoadKit Bundle Jvm.Pilot.@@N@@.Jvm.D
/-- what a walk comes to, said forward -/
def Go (p : Program) (e : Env) (below : List Frame) (R : State → Outcome → Prop) (A : State) : Prop := ∃ t o, Steps p.tables e below A t ∧ R t o
def Fin1 (s : State) (below : List Frame) (Q : Option Value → Heap → List Loc → Prop) (K N : Nat) (t : State) (o : Outcome) : Prop := t.status = .running ∧ Ended t below o ∧ ∃ v L, o = .returned v ∧ Q v t.heap L ∧ FrameEnd s o t L K N
theorem Go.step {p : Program} {e : Env} {below : List Frame} {R : State → Outcome → Prop} {A B : State} (k : ∀ t, Steps p.tables e below A t → Steps p.tables e below B t) (h : Go p e below R A) : Go p e below R B := by
  obtain ⟨t, o, h1, h2⟩ := h
  exact ⟨t, o, k t h1, h2⟩
section GoRet
variable {p : Program} {l : Launch} {e : Env} {R : Room} {s : State} {m : MethodId} {args : Array Value} {below : List Frame} {meth : Method} {c : Code} {T : State} {locs : List Loc} {cells slots : Nat} {Q : Option Value → Heap → List Loc → Prop} {K N pc : Nat} {Ls : Array Slot} {rest : List Value}
theorem Go.retZ (X : Stand p l e R s m args below meth c T locs cells slots) (hx : p.tables.exec = Jvm.exec) {z : Int32} {t : FieldType} (hret : meth.sig.returnType = some t) (ht : t = .boolean ∨ t = .byte ∨ t = .char ∨ t = .short) (hlk : meth.locks = false) (hd : decode c.code pc = .ok (.ireturn, 1)) (hq : Q (some (.int (nar t z))) T.heap locs) (hc : cells ≤ K) (hn : slots ≤ N) : Go p e below (Fin1 s below Q K N) (T.setTop (mkF m pc Ls (.int z :: rest))) := by
  obtain ⟨fs, hr, hrun, hended, hW, hsame⟩ := X.leave (v := some (.int (nar t z))) (fun h => by rw [hret] at h; cases h) hlk
  exact ⟨_, _, retN X hx hret ht hd hr, hrun, hended, _, _, rfl, hq, ⟨_, rfl⟩, hW, hsame.mono hc hn⟩
theorem Go.retI (X : Stand p l e R s m args below meth c T locs cells slots) (hx : p.tables.exec = Jvm.exec) {z : Int32} (hret : meth.sig.returnType = some .int) (hlk : meth.locks = false) (hd : decode c.code pc = .ok (.ireturn, 1)) (hq : Q (some (.int z)) T.heap locs) (hc : cells ≤ K) (hn : slots ≤ N) : Go p e below (Fin1 s below Q K N) (T.setTop (mkF m pc Ls (.int z :: rest))) := by
  obtain ⟨fs, hr, hrun, hended, hW, hsame⟩ := X.leave (v := some (.int z)) (fun h => by rw [hret] at h; cases h) hlk
  exact ⟨_, _, Jvm.RoadKit.retI X hx hret hd hr, hrun, hended, _, _, rfl, hq, ⟨_, rfl⟩, hW, hsame.mono hc hn⟩
theorem Go.retJ (X : Stand p l e R s m args below meth c T locs cells slots) (hx : p.tables.exec = Jvm.exec) {z : Int64} (hret : meth.sig.returnType = some .long) (hlk : meth.locks = false) (hd : decode c.code pc = .ok (.lreturn, 1)) (hq : Q (some (.long z)) T.heap locs) (hc : cells ≤ K) (hn : slots ≤ N) : Go p e below (Fin1 s below Q K N) (T.setTop (mkF m pc Ls (.long z :: rest))) := by
  obtain ⟨fs, hr, hrun, hended, hW, hsame⟩ := X.leave (v := some (.long z)) (fun h => by rw [hret] at h; cases h) hlk
  exact ⟨_, _, retOut X hx hret rfl (Or.inr (Or.inl ⟨rfl, rfl, _, rfl⟩)) hd hr, hrun, hended, _, _, rfl, hq, ⟨_, rfl⟩, hW, hsame.mono hc hn⟩
theorem Go.retR (X : Stand p l e R s m args below meth c T locs cells slots) (hx : p.tables.exec = Jvm.exec) {w : Value} {t : FieldType} (hret : meth.sig.returnType = some t) (ht : t.isReference = true) (hw : w.isRef = true) (hlk : meth.locks = false) (hd : decode c.code pc = .ok (.areturn, 1)) (hq : Q (some w) T.heap locs) (hc : cells ≤ K) (hn : slots ≤ N) : Go p e below (Fin1 s below Q K N) (T.setTop (mkF m pc Ls (w :: rest))) := by
  obtain ⟨fs, hr, hrun, hended, hW, hsame⟩ := X.leave (v := some w) (fun h => by rw [hret] at h; cases h) hlk
  have hnw : narrow t w = w := by rcases ref_cases hw with rfl | ⟨a, rfl⟩ <;> cases t <;> first | rfl | (cases ht)
  exact ⟨_, _, retOut X hx hret hnw (Or.inr (Or.inr (Or.inr (Or.inr ⟨rfl, ht, hw⟩)))) hd hr, hrun, hended, _, _, rfl, hq, ⟨_, rfl⟩, hW, hsame.mono hc hn⟩
theorem Go.retV (X : Stand p l e R s m args below meth c T locs cells slots) (hx : p.tables.exec = Jvm.exec) (hret : meth.sig.returnType = none) (hlk : meth.locks = false) (hd : decode c.code pc = .ok (.return_, 1)) (hq : Q none T.heap locs) (hc : cells ≤ K) (hn : slots ≤ N) : Go p e below (Fin1 s below Q K N) (T.setTop (mkF m pc Ls [])) := by
  obtain ⟨fs, hr, hrun, hended, hW, hsame⟩ := X.leave (v := none) (fun _ => rfl) hlk
  exact ⟨_, _, X.returnOut hx hret hd hr, hrun, hended, _, _, rfl, hq, ⟨_, rfl⟩, hW, hsame.mono hc hn⟩
end GoRet
def Fin2 (s : State) (below : List Frame) (Q : Option Value → Heap → List Loc → Prop) (K N : Nat) (t : State) (o : Outcome) : Prop := t.status = .running ∧ Ended t below o ∧ ∃ v L, o = .returned v ∧ Q v t.heap L ∧ ReturnedEndW s o t L K N
theorem wmono {s t : State} {o : Outcome} {L : List Loc} {k n k' n' : Nat} (h : ReturnedEndW s o t L k n) (h1 : k ≤ k') (h2 : n ≤ n') : ReturnedEndW s o t L k' n' := ⟨h.1, h.2.1, h.2.2.1, h.2.2.2.mono h1 h2⟩
section GoRetW
variable {p : Program} {l : Launch} {e : Env} {R : Room} {s : State} {vm0 : Vm} {m : MethodId} {args : Array Value} {below : List Frame} {meth : Method} {c : Code} {T : State} {locs : List Loc} {cells slots : Nat} {Q : Option Value → Heap → List Loc → Prop} {K N pc k0 : Nat} {Ls : Array Slot} {rest : List Value}
theorem GoW.retZ (X : Stand p l e R (s.setVm vm0) m args below meth c T locs cells slots) (hS : s.Since vm0 k0) (hk : k0 ≤ T.heap.size) (hx : p.tables.exec = Jvm.exec) {z : Int32} {t : FieldType} (hret : meth.sig.returnType = some t) (ht : t = .boolean ∨ t = .byte ∨ t = .char ∨ t = .short) (hlk : meth.locks = false) (hd : decode c.code pc = .ok (.ireturn, 1)) (hq : Q (some (.int (nar t z))) T.heap locs) (hc : cells ≤ K) (hn : slots ≤ N) : Go p e below (Fin2 s below Q K N) (T.setTop (mkF m pc Ls (.int z :: rest))) := by
  obtain ⟨fs, hr, hrun, hended, hW⟩ := X.leaveW hS hk (v := some (.int (nar t z))) (fun h => by rw [hret] at h; cases h) hlk
  exact ⟨_, _, retN X hx hret ht hd hr, hrun, hended, _, _, rfl, hq, wmono hW hc hn⟩
theorem GoW.retI (X : Stand p l e R (s.setVm vm0) m args below meth c T locs cells slots) (hS : s.Since vm0 k0) (hk : k0 ≤ T.heap.size) (hx : p.tables.exec = Jvm.exec) {z : Int32} (hret : meth.sig.returnType = some .int) (hlk : meth.locks = false) (hd : decode c.code pc = .ok (.ireturn, 1)) (hq : Q (some (.int z)) T.heap locs) (hc : cells ≤ K) (hn : slots ≤ N) : Go p e below (Fin2 s below Q K N) (T.setTop (mkF m pc Ls (.int z :: rest))) := by
  obtain ⟨fs, hr, hrun, hended, hW⟩ := X.leaveW hS hk (v := some (.int z)) (fun h => by rw [hret] at h; cases h) hlk
  exact ⟨_, _, Jvm.RoadKit.retI X hx hret hd hr, hrun, hended, _, _, rfl, hq, wmono hW hc hn⟩
theorem GoW.retR (X : Stand p l e R (s.setVm vm0) m args below meth c T locs cells slots) (hS : s.Since vm0 k0) (hk : k0 ≤ T.heap.size) (hx : p.tables.exec = Jvm.exec) {w : Value} {t : FieldType} (hret : meth.sig.returnType = some t) (ht : t.isReference = true) (hw : w.isRef = true) (hlk : meth.locks = false) (hd : decode c.code pc = .ok (.areturn, 1)) (hq : Q (some w) T.heap locs) (hc : cells ≤ K) (hn : slots ≤ N) : Go p e below (Fin2 s below Q K N) (T.setTop (mkF m pc Ls (w :: rest))) := by
  obtain ⟨fs, hr, hrun, hended, hW⟩ := X.leaveW hS hk (v := some w) (fun h => by rw [hret] at h; cases h) hlk
  have hnw : narrow t w = w := by rcases ref_cases hw with rfl | ⟨a, rfl⟩ <;> cases t <;> first | rfl | (cases ht)
  exact ⟨_, _, retOut X hx hret hnw (Or.inr (Or.inr (Or.inr (Or.inr ⟨rfl, ht, hw⟩)))) hd hr, hrun, hended, _, _, rfl, hq, wmono hW hc hn⟩
theorem GoW.retV (X : Stand p l e R (s.setVm vm0) m args below meth c T locs cells slots) (hS : s.Since vm0 k0) (hk : k0 ≤ T.heap.size) (hx : p.tables.exec = Jvm.exec) (hret : meth.sig.returnType = none) (hlk : meth.locks = false) (hd : decode c.code pc = .ok (.return_, 1)) (hq : Q none T.heap locs) (hc : cells ≤ K) (hn : slots ≤ N) : Go p e below (Fin2 s below Q K N) (T.setTop (mkF m pc Ls [])) := by
  obtain ⟨fs, hr, hrun, hended, hW⟩ := X.leaveW hS hk (v := none) (fun _ => rfl) hlk
  exact ⟨_, _, X.returnOut hx hret hd hr, hrun, hended, _, _, rfl, hq, wmono hW hc hn⟩
end GoRetW
theorem wd {a0 : Array Value} {Z : State} (hw : ∀ d ∈ tables_1, d.before a0 Z = true) (i : Nat) {d : Jvm.Cond} (h : tables_1[i]? = some d) : d.before a0 Z = true := hw d (List.mem_of_getElem? h)
theorem sel_priv {Z s : State} {a0 args : Array Value} {y : MethodName} {n : Nat} (hZ : Z.Warmed39 s.vm) (wi : (Jvm.Cond.instantiable y.cls n).before a0 Z = true) (wp : (Jvm.Cond.privateMethod y).before a0 Z = true) (wm : (Jvm.Cond.instanceMethod y).before a0 Z = true) (hy : y.cls ≠ "java/lang/invoke/MethodHandle" ∧ y.cls ≠ "java/lang/invoke/VarHandle") : (Jvm.Cond.selects y.cls y y).before args s = true := by
  obtain ⟨c, k, h1, h2, -, h4, -⟩ := Cond.instantiable_spec (mv (args := args) hZ wi)
  simp only [Bool.or_eq_false_iff] at h4
  exact Jvm.Stand.selects_self_of_private h1 h2 h4.1 (Cond.privateMethod_at (mvP hZ wp (args := args))) (mv hZ wm) hy
theorem old_z0 {Z : State} {n0 : Nat} {h : Heap} (O : Old Z n0 h) : n0 ≤ h.size := O.1 ▸ O.2.1
theorem eq_long {args : Array Value} {s : State} {t : Term} {z : Int64} (h : (Jvm.Cond.eq t (.long z)).value args s none s [] = some true) : t.eval args s none [] s = some (.long z) := by
  simp only [Cond.value, Term.eval] at h
  cases e : t.eval args s none [] s with
  | none => simp [e] at h
  | some v => cases v <;> simp_all
theorem eq_int {args : Array Value} {s : State} {t : Term} {z : Int32} (h : (Jvm.Cond.eq t (.int z)).value args s none s [] = some true) : t.eval args s none [] s = some (.int z) := by
  simp only [Cond.value, Term.eval] at h
  cases e : t.eval args s none [] s with
  | none => simp [e] at h
  | some v => cases v <;> simp_all
abbrev SN (Z : State) (C f d C' f' d' : String) : Prop := Jvm.RoadKit.slotOf Z C f d ≠ Jvm.RoadKit.slotOf Z C' f' d'
abbrev rm (f c s l : Nat) : Room := { frames := f, cells := c, slots := s, locals := l }
section GS
variable {p : Program} {e : Env} {below : List Frame} {R : State → Outcome → Prop} {T : State} {m : MethodId} {c : Code} {pc : Nat} {Ls l' : Array Slot} {rest : List Value}

theorem gs.iload {k : Nat} {v : Int32} (h : At T m c below) (hx : p.tables.exec = Jvm.exec) (hd : decode c.code pc = .ok (.iload k, 2)) (hl : Ls[k]? = some (.val (.int v))) (H : Go p e below R (T.setTop (mkF m (pc + 2) Ls (.int v :: rest)))) : Go p e below R (T.setTop (mkF m pc Ls rest)) := Go.step (fun _ q_ => XS.iload h hx rfl hd hl q_) H
theorem gs.iloadN {k : Fin 4} {v : Int32} (h : At T m c below) (hx : p.tables.exec = Jvm.exec) (hd : decode c.code pc = .ok (.iload_n k, 1)) (hl : Ls[k.val]? = some (.val (.int v))) (H : Go p e below R (T.setTop (mkF m (pc + 1) Ls (.int v :: rest)))) : Go p e below R (T.setTop (mkF m pc Ls rest)) := Go.step (fun _ q_ => XS.iloadN h hx rfl hd hl q_) H
theorem gs.lload {k : Nat} {v : Int64} (h : At T m c below) (hx : p.tables.exec = Jvm.exec) (hd : decode c.code pc = .ok (.lload k, 2)) (hl : Ls[k]? = some (.val (.long v))) (H : Go p e below R (T.setTop (mkF m (pc + 2) Ls (.long v :: rest)))) : Go p e below R (T.setTop (mkF m pc Ls rest)) := Go.step (fun _ q_ => XS.lload h hx rfl hd hl q_) H
theorem gs.lloadN {k : Fin 4} {v : Int64} (h : At T m c below) (hx : p.tables.exec = Jvm.exec) (hd : decode c.code pc = .ok (.lload_n k, 1)) (hl : Ls[k.val]? = some (.val (.long v))) (H : Go p e below R (T.setTop (mkF m (pc + 1) Ls (.long v :: rest)))) : Go p e below R (T.setTop (mkF m pc Ls rest)) := Go.step (fun _ q_ => XS.lloadN h hx rfl hd hl q_) H
theorem gs.aload {k : Nat} {v : Value} (h : At T m c below) (hx : p.tables.exec = Jvm.exec) (hd : decode c.code pc = .ok (.aload k, 2)) (hl : Ls[k]? = some (.val v)) (hv : v.isRef = true) (H : Go p e below R (T.setTop (mkF m (pc + 2) Ls (v :: rest)))) : Go p e below R (T.setTop (mkF m pc Ls rest)) := Go.step (fun _ q_ => XS.aload h hx rfl hd hl hv q_) H
theorem gs.aloadN {k : Fin 4} {v : Value} (h : At T m c below) (hx : p.tables.exec = Jvm.exec) (hd : decode c.code pc = .ok (.aload_n k, 1)) (hl : Ls[k.val]? = some (.val v)) (hv : v.isRef = true) (H : Go p e below R (T.setTop (mkF m (pc + 1) Ls (v :: rest)))) : Go p e below R (T.setTop (mkF m pc Ls rest)) := Go.step (fun _ q_ => XS.aloadN h hx rfl hd hl hv q_) H
theorem gs.istore {k : Nat} {v : Int32} (h : At T m c below) (hx : p.tables.exec = Jvm.exec) (hd : decode c.code pc = .ok (.istore k, 2)) (hl : storeLocals Ls k (.int v) = some l') (H : Go p e below R (T.setTop (mkF m (pc + 2) l' rest))) : Go p e below R (T.setTop (mkF m pc Ls (.int v :: rest))) := Go.step (fun _ q_ => XS.istore h hx rfl hd rfl hl q_) H
theorem gs.istoreN {k : Fin 4} {v : Int32} (h : At T m c below) (hx : p.tables.exec = Jvm.exec) (hd : decode c.code pc = .ok (.istore_n k, 1)) (hl : storeLocals Ls k.val (.int v) = some l') (H : Go p e below R (T.setTop (mkF m (pc + 1) l' rest))) : Go p e below R (T.setTop (mkF m pc Ls (.int v :: rest))) := Go.step (fun _ q_ => XS.istoreN h hx rfl hd rfl hl q_) H
theorem gs.lstore {k : Nat} {v : Int64} (h : At T m c below) (hx : p.tables.exec = Jvm.exec) (hd : decode c.code pc = .ok (.lstore k, 2)) (hl : storeLocals Ls k (.long v) = some l') (H : Go p e below R (T.setTop (mkF m (pc + 2) l' rest))) : Go p e below R (T.setTop (mkF m pc Ls (.long v :: rest))) := Go.step (fun _ q_ => XS.lstore h hx rfl hd rfl hl q_) H
theorem gs.lstoreN {k : Fin 4} {v : Int64} (h : At T m c below) (hx : p.tables.exec = Jvm.exec) (hd : decode c.code pc = .ok (.lstore_n k, 1)) (hl : storeLocals Ls k.val (.long v) = some l') (H : Go p e below R (T.setTop (mkF m (pc + 1) l' rest))) : Go p e below R (T.setTop (mkF m pc Ls (.long v :: rest))) := Go.step (fun _ q_ => XS.lstoreN h hx rfl hd rfl hl q_) H
theorem gs.astore {k : Nat} {v : Value} (h : At T m c below) (hx : p.tables.exec = Jvm.exec) (hd : decode c.code pc = .ok (.astore k, 2)) (hv : v.isRef = true) (hl : storeLocals Ls k (v) = some l') (H : Go p e below R (T.setTop (mkF m (pc + 2) l' rest))) : Go p e below R (T.setTop (mkF m pc Ls (v :: rest))) := Go.step (fun _ q_ => XS.astore h hx rfl hd rfl hv hl q_) H
theorem gs.astoreN {k : Fin 4} {v : Value} (h : At T m c below) (hx : p.tables.exec = Jvm.exec) (hd : decode c.code pc = .ok (.astore_n k, 1)) (hv : v.isRef = true) (hl : storeLocals Ls k.val (v) = some l') (H : Go p e below R (T.setTop (mkF m (pc + 1) l' rest))) : Go p e below R (T.setTop (mkF m pc Ls (v :: rest))) := Go.step (fun _ q_ => XS.astoreN h hx rfl hd rfl hv hl q_) H
theorem gs.iconst {i : Int} (z : Int32) (h : At T m c below) (hx : p.tables.exec = Jvm.exec) (hd : decode c.code pc = .ok (.iconst i, 1)) (hz : Int32.ofInt i = z) (H : Go p e below R (T.setTop (mkF m (pc + 1) Ls (.int z :: rest)))) : Go p e below R (T.setTop (mkF m pc Ls rest)) := Go.step (fun _ q_ => XS.iconst h hx rfl hd (by rw [hz]; exact q_)) H
theorem gs.bipush {i : Int} (z : Int32) (h : At T m c below) (hx : p.tables.exec = Jvm.exec) (hd : decode c.code pc = .ok (.bipush i, 2)) (hz : (Int8.ofInt i).toInt32 = z) (H : Go p e below R (T.setTop (mkF m (pc + 2) Ls (.int z :: rest)))) : Go p e below R (T.setTop (mkF m pc Ls rest)) := Go.step (fun _ q_ => XS.bipush h hx rfl hd (by rw [hz]; exact q_)) H
theorem gs.sipush {i : Int} (z : Int32) (h : At T m c below) (hx : p.tables.exec = Jvm.exec) (hd : decode c.code pc = .ok (.sipush i, 3)) (hz : (Int16.ofInt i).toInt32 = z) (H : Go p e below R (T.setTop (mkF m (pc + 3) Ls (.int z :: rest)))) : Go p e below R (T.setTop (mkF m pc Ls rest)) := Go.step (fun _ q_ => XS.sipush h hx rfl hd (by rw [hz]; exact q_)) H
theorem gs.aconstNull  (h : At T m c below) (hx : p.tables.exec = Jvm.exec) (hd : decode c.code pc = .ok (.aconst_null, 1)) (H : Go p e below R (T.setTop (mkF m (pc + 1) Ls (.null :: rest)))) : Go p e below R (T.setTop (mkF m pc Ls rest)) := Go.step (fun _ q_ => XS.aconstNull h hx rfl hd q_) H
theorem gs.iadd {x y : Int32} (h : At T m c below) (hx : p.tables.exec = Jvm.exec) (hd : decode c.code pc = .ok (.iadd, 1)) (H : Go p e below R (T.setTop (mkF m (pc + 1) Ls (.int (x + y) :: rest)))) : Go p e below R (T.setTop (mkF m pc Ls (.int y :: .int x :: rest))) := Go.step (fun _ q_ => XS.iadd h hx rfl hd rfl q_) H
theorem gs.ladd {x y : Int64} (h : At T m c below) (hx : p.tables.exec = Jvm.exec) (hd : decode c.code pc = .ok (.ladd, 1)) (H : Go p e below R (T.setTop (mkF m (pc + 1) Ls (.long (x + y) :: rest)))) : Go p e below R (T.setTop (mkF m pc Ls (.long y :: .long x :: rest))) := Go.step (fun _ q_ => XS.ladd h hx rfl hd rfl q_) H
theorem gs.isub {x y : Int32} (h : At T m c below) (hx : p.tables.exec = Jvm.exec) (hd : decode c.code pc = .ok (.isub, 1)) (H : Go p e below R (T.setTop (mkF m (pc + 1) Ls (.int (x - y) :: rest)))) : Go p e below R (T.setTop (mkF m pc Ls (.int y :: .int x :: rest))) := Go.step (fun _ q_ => XS.isub h hx rfl hd rfl q_) H
theorem gs.lsub {x y : Int64} (h : At T m c below) (hx : p.tables.exec = Jvm.exec) (hd : decode c.code pc = .ok (.lsub, 1)) (H : Go p e below R (T.setTop (mkF m (pc + 1) Ls (.long (x - y) :: rest)))) : Go p e below R (T.setTop (mkF m pc Ls (.long y :: .long x :: rest))) := Go.step (fun _ q_ => XS.lsub h hx rfl hd rfl q_) H
theorem gs.imul {x y : Int32} (h : At T m c below) (hx : p.tables.exec = Jvm.exec) (hd : decode c.code pc = .ok (.imul, 1)) (H : Go p e below R (T.setTop (mkF m (pc + 1) Ls (.int (x * y) :: rest)))) : Go p e below R (T.setTop (mkF m pc Ls (.int y :: .int x :: rest))) := Go.step (fun _ q_ => XS.imul h hx rfl hd rfl q_) H
theorem gs.lmul {x y : Int64} (h : At T m c below) (hx : p.tables.exec = Jvm.exec) (hd : decode c.code pc = .ok (.lmul, 1)) (H : Go p e below R (T.setTop (mkF m (pc + 1) Ls (.long (x * y) :: rest)))) : Go p e below R (T.setTop (mkF m pc Ls (.long y :: .long x :: rest))) := Go.step (fun _ q_ => XS.lmul h hx rfl hd rfl q_) H
theorem gs.iand {x y : Int32} (h : At T m c below) (hx : p.tables.exec = Jvm.exec) (hd : decode c.code pc = .ok (.iand, 1)) (H : Go p e below R (T.setTop (mkF m (pc + 1) Ls (.int (x &&& y) :: rest)))) : Go p e below R (T.setTop (mkF m pc Ls (.int y :: .int x :: rest))) := Go.step (fun _ q_ => XS.iand h hx rfl hd rfl q_) H
theorem gs.land {x y : Int64} (h : At T m c below) (hx : p.tables.exec = Jvm.exec) (hd : decode c.code pc = .ok (.land, 1)) (H : Go p e below R (T.setTop (mkF m (pc + 1) Ls (.long (x &&& y) :: rest)))) : Go p e below R (T.setTop (mkF m pc Ls (.long y :: .long x :: rest))) := Go.step (fun _ q_ => XS.land h hx rfl hd rfl q_) H
theorem gs.ior {x y : Int32} (h : At T m c below) (hx : p.tables.exec = Jvm.exec) (hd : decode c.code pc = .ok (.ior, 1)) (H : Go p e below R (T.setTop (mkF m (pc + 1) Ls (.int (x ||| y) :: rest)))) : Go p e below R (T.setTop (mkF m pc Ls (.int y :: .int x :: rest))) := Go.step (fun _ q_ => XS.ior h hx rfl hd rfl q_) H
theorem gs.lor {x y : Int64} (h : At T m c below) (hx : p.tables.exec = Jvm.exec) (hd : decode c.code pc = .ok (.lor, 1)) (H : Go p e below R (T.setTop (mkF m (pc + 1) Ls (.long (x ||| y) :: rest)))) : Go p e below R (T.setTop (mkF m pc Ls (.long y :: .long x :: rest))) := Go.step (fun _ q_ => XS.lor h hx rfl hd rfl q_) H
theorem gs.ixor {x y : Int32} (h : At T m c below) (hx : p.tables.exec = Jvm.exec) (hd : decode c.code pc = .ok (.ixor, 1)) (H : Go p e below R (T.setTop (mkF m (pc + 1) Ls (.int (x ^^^ y) :: rest)))) : Go p e below R (T.setTop (mkF m pc Ls (.int y :: .int x :: rest))) := Go.step (fun _ q_ => XS.ixor h hx rfl hd rfl q_) H
theorem gs.lxor {x y : Int64} (h : At T m c below) (hx : p.tables.exec = Jvm.exec) (hd : decode c.code pc = .ok (.lxor, 1)) (H : Go p e below R (T.setTop (mkF m (pc + 1) Ls (.long (x ^^^ y) :: rest)))) : Go p e below R (T.setTop (mkF m pc Ls (.long y :: .long x :: rest))) := Go.step (fun _ q_ => XS.lxor h hx rfl hd rfl q_) H
theorem gs.dup {x : Value} (h : At T m c below) (hx : p.tables.exec = Jvm.exec) (hd : decode c.code pc = .ok (.dup, 1)) (hc : x.category = 1) (H : Go p e below R (T.setTop (mkF m (pc + 1) Ls (x :: x :: rest)))) : Go p e below R (T.setTop (mkF m pc Ls (x :: rest))) := Go.step (fun _ q_ => XS.dup h hx rfl hd rfl hc q_) H
theorem gs.pop {x : Value} (h : At T m c below) (hx : p.tables.exec = Jvm.exec) (hd : decode c.code pc = .ok (.pop, 1)) (hc : x.category = 1) (H : Go p e below R (T.setTop (mkF m (pc + 1) Ls rest))) : Go p e below R (T.setTop (mkF m pc Ls (x :: rest))) := Go.step (fun _ q_ => XS.pop h hx rfl hd rfl hc q_) H
theorem gs.dup2 {x y : Value} (h : At T m c below) (hx : p.tables.exec = Jvm.exec) (hd : decode c.code pc = .ok (.dup2, 1)) (hc : x.category = 1) (hc' : y.category = 1) (H : Go p e below R (T.setTop (mkF m (pc + 1) Ls (x :: y :: x :: y :: rest)))) : Go p e below R (T.setTop (mkF m pc Ls (x :: y :: rest))) := Go.step (fun _ q_ => XT.dup2 h hx rfl hd rfl hc hc' q_) H
theorem gs.goto {o : Int} (q : Nat) (h : At T m c below) (hx : p.tables.exec = Jvm.exec) (hd : decode c.code pc = .ok (.goto o, 3)) (hp : (pc : Int) + o = (q : Int)) (H : Go p e below R (T.setTop (mkF m q Ls rest))) : Go p e below R (T.setTop (mkF m pc Ls rest)) := Go.step (fun _ q_ => XS.goto h hx rfl rfl hd (by rw [hp]; exact Int.natCast_nonneg _) (by rw [hp]; rfl) q_) H
theorem gs.ifYes {cd : ClassFile.Cond} {x : Int32} {o : Int} (q : Nat) (h : At T m c below) (hx : p.tables.exec = Jvm.exec) (hd : decode c.code pc = .ok (.ifCond cd o, 3)) (hc : ifCond.holds cd x = true) (hp : (pc : Int) + o = (q : Int)) (H : Go p e below R (T.setTop (mkF m q Ls rest))) : Go p e below R (T.setTop (mkF m pc Ls (.int x :: rest))) := Go.step (fun _ q_ => XS.ifYes h hx rfl rfl hd rfl hc (by rw [hp]; exact Int.natCast_nonneg _) (by rw [hp]; rfl) q_) H
theorem gs.ifNo {cd : ClassFile.Cond} {x : Int32} {o : Int} (h : At T m c below) (hx : p.tables.exec = Jvm.exec) (hd : decode c.code pc = .ok (.ifCond cd o, 3)) (hc : ifCond.holds cd x = false) (H : Go p e below R (T.setTop (mkF m (pc + 3) Ls rest))) : Go p e below R (T.setTop (mkF m pc Ls (.int x :: rest))) := Go.step (fun _ q_ => XS.ifNo h hx rfl hd rfl hc q_) H
theorem gs.icmpYes {cd : ClassFile.Cond} {x y : Int32} {o : Int} (q : Nat) (h : At T m c below) (hx : p.tables.exec = Jvm.exec) (hd : decode c.code pc = .ok (.if_icmp cd o, 3)) (hc : if_icmp.holds cd x y = true) (hp : (pc : Int) + o = (q : Int)) (H : Go p e below R (T.setTop (mkF m q Ls rest))) : Go p e below R (T.setTop (mkF m pc Ls (.int y :: .int x :: rest))) := Go.step (fun _ q_ => XS.icmpYes h hx rfl rfl hd rfl hc (by rw [hp]; exact Int.natCast_nonneg _) (by rw [hp]; rfl) q_) H
theorem gs.icmpNo {cd : ClassFile.Cond} {x y : Int32} {o : Int} (h : At T m c below) (hx : p.tables.exec = Jvm.exec) (hd : decode c.code pc = .ok (.if_icmp cd o, 3)) (hc : if_icmp.holds cd x y = false) (H : Go p e below R (T.setTop (mkF m (pc + 3) Ls rest))) : Go p e below R (T.setTop (mkF m pc Ls (.int y :: .int x :: rest))) := Go.step (fun _ q_ => XS.icmpNo h hx rfl hd rfl hc q_) H
theorem Go.fin {T' : State} {stk S' : List Value} {q : Nat} (k : ∀ t, Steps p.tables e below (T'.setTop { mkF m pc Ls stk with pc := q, stack := S' }) t → Steps p.tables e below (T.setTop (mkF m pc Ls stk)) t) (H : Go p e below R (T'.setTop (mkF m q Ls S'))) : Go p e below R (T.setTop (mkF m pc Ls stk)) := Go.step k H
end GS
section GS2
variable {p : Program} {l : Launch} {e : Env} {Rm : Room} {s : State} {m : MethodId} {args : Array Value} {below : List Frame} {meth : Method} {c : Code} {T : State} {locs : List Loc} {cells slots : Nat} {Z : State} {a0 : Array Value} {h : Heap} {R : State → Outcome → Prop} {pc : Nat} {Ls : Array Slot} {rest : List Value}
theorem gs.getF (X : Stand p l e Rm s m args below meth c T locs cells slots) (hx : p.tables.exec = Jvm.exec) (hZ : Z.Warmed39 s.vm) {own R0 O n d : String} {index : Nat} (hown : s.vm.findClass own = some m.cls) (w : (Cond.fieldLink own index R0 n d).before a0 Z = true) (via : Via Z R0 O n d) (eT : T.heap = h) {a : Addr} {v : Value} (F : Fld Z h a O n d v) (hd : decode c.code pc = .ok (.getfield index, 3)) (H : ∀ T', Stand p l e Rm s m args below meth c T' locs cells slots → T'.heap = h → Go p e below R (T'.setTop (mkF m (pc + 3) Ls (v :: rest)))) : Go p e below R (T.setTop (mkF m pc Ls (.ref a :: rest))) := by
  obtain ⟨T', X', e', k⟩ := Jvm.RoadKit.getF X hx hZ hown (host := "") (Or.inl w) via eT F (g := mkF m pc Ls (.ref a :: rest)) rfl rfl hd
  exact Go.step k (H T' X' e')
theorem gs.getN (X : Stand p l e Rm s m args below meth c T locs cells slots) (hx : p.tables.exec = Jvm.exec) (hZ : Z.Warmed39 s.vm) {own R0 O n d host : String} {index : Nat} (hown : s.vm.findClass own = some m.cls) (w : (Cond.fieldLinkNest own index R0 n d host).before a0 Z = true) (via : Via Z R0 O n d) (eT : T.heap = h) {a : Addr} {v : Value} (F : Fld Z h a O n d v) (hd : decode c.code pc = .ok (.getfield index, 3)) (H : ∀ T', Stand p l e Rm s m args below meth c T' locs cells slots → T'.heap = h → Go p e below R (T'.setTop (mkF m (pc + 3) Ls (v :: rest)))) : Go p e below R (T.setTop (mkF m pc Ls (.ref a :: rest))) := by
  obtain ⟨T', X', e', k⟩ := Jvm.RoadKit.getF X hx hZ hown (Or.inr w) via eT F (g := mkF m pc Ls (.ref a :: rest)) rfl rfl hd
  exact Go.step k (H T' X' e')
end GS2
section GS3
variable {p : Program} {l : Launch} {e : Env} {Rm : Room} {s : State} {m : MethodId} {args : Array Value} {below : List Frame} {meth : Method} {c : Code} {T : State} {locs : List Loc} {cells slots : Nat} {Z : State} {a0 : Array Value} {h : Heap} {R : State → Outcome → Prop} {pc : Nat} {Ls : Array Slot} {rest stk argsL : List Value} {own C : String} {index count : Nat} {y z : MethodName} {bytes : ByteArray} {maxL : Nat} {ret : Option FieldType} {rm : Room} {as' : Array Value} {Q : Option Value → Heap → List Loc → Prop} {b : Addr}

theorem gs.stat (W : Nat) (X : Stand p l e Rm s m args below meth c T locs cells slots) (hx : p.tables.exec = Jvm.exec) (hZ : Z.Warmed39 s.vm) (hown : s.vm.findClass own = some m.cls) (hM : MetFree l y (head1 [Cond.code y bytes maxL ret] rm) (fun a U => a = as' ∧ Z.Warmed39 U.vm ∧ U.heap = h) (fun _ _ _ _ _ => True) (fun _ U o U' => ∃ v L, o = .returned v ∧ Q v U'.heap L ∧ FrameEnd U o U' L rm.cells rm.slots)) (wc : (Cond.code y bytes maxL ret).before a0 Z = true) (wz : (Cond.initialized y.cls).before a0 Z = true) (w1 : (Cond.methodLink own index y).before a0 Z = true) (w2 : (Cond.static y).before a0 Z = true) (hy : y.cls ≠ "java/lang/invoke/MethodHandle" ∧ y.cls ≠ "java/lang/invoke/VarHandle") (hf : rm.frames + 1 ≤ Rm.frames) (hl : W + (maxL + 11) + rm.locals ≤ Rm.locals) (hml : Ls.size = c.maxLocals) (argsL : List Value) (hlen : ∀ sig, parseMethodDescriptor y.desc = some sig → argsL.length = sig.parameters.length) (hst : stk = argsL.reverse ++ rest) (hW : (rest.map fun v => v.category).sum ≤ W) (hd : decode c.code pc = .ok (.invokestatic index, 3)) (has : (argsL).toArray = as') (eT : T.heap = h) (hc : cells + rm.cells ≤ Rm.cells) (hs : slots + rm.slots ≤ Rm.slots) (H : ∀ (T' : State) (Lc : List Loc) (v : Option Value), Stand p l e Rm s m args below meth c T' (locs ++ Lc) (cells + rm.cells) (slots + rm.slots) → Q v T'.heap Lc → Go p e below R (T'.setTop (mkF m (pc + 3) Ls (v.toList ++ rest)))) : Go p e below R (T.setTop (mkF m pc Ls stk)) := by
  obtain ⟨v, _, ⟨T', L', k', n'⟩, -, X', ⟨Lc, hQ, l1, l2, l3⟩, st⟩ := Jvm.LawKit.callS X hx hown (mvT hZ w1) (mvT hZ w2) (mvT hZ wz) (mvT hZ wc) hy (backOf (W := W) hM hZ wc wz hf hl) (g := mkF m pc Ls stk) rfl hml (argsL := argsL) (rest := rest) hlen hst (by show 2 * 0 + _ ≤ _; omega) hd (fun _ _ => ⟨has, eT, hc, hs⟩)
  dsimp only [Pt.U, Pt.locs, Pt.cells, Pt.slots] at X' l1 l2 l3 st hQ
  subst l1 l2 l3
  exact Go.step st (H T' Lc v X' hQ)
theorem gs.init (W : Nat) (X : Stand p l e Rm s m args below meth c T locs cells slots) (hx : p.tables.exec = Jvm.exec) (hZ : Z.Warmed39 s.vm) (hown : s.vm.findClass own = some m.cls) (hM : MetFree l y (head1 [Cond.code y bytes maxL none] rm) (fun a U => a = as' ∧ Z.Warmed39 U.vm ∧ U.heap = h) (fun _ _ _ _ _ => True) (fun _ U o U' => ∃ v L, o = .returned v ∧ Q v U'.heap L ∧ FrameEnd U o U' L rm.cells rm.slots)) (wc : (Cond.code y bytes maxL none).before a0 Z = true) (wz : (Cond.initialized y.cls).before a0 Z = true) (w1 : (Cond.methodLink own index y).before a0 Z = true) (h1 : y.name = "<init>") (w2 : (Cond.instanceMethod y).before a0 Z = true) (hy : y.cls ≠ "java/lang/invoke/MethodHandle" ∧ y.cls ≠ "java/lang/invoke/VarHandle") (hf : rm.frames + 1 ≤ Rm.frames) (hl : W + (maxL + 11) + rm.locals ≤ Rm.locals) (hml : Ls.size = c.maxLocals) (argsL : List Value) (hlen : ∀ sig, parseMethodDescriptor y.desc = some sig → argsL.length = sig.parameters.length) (hst : stk = argsL.reverse ++ .ref b :: rest) (hW : (rest.map fun v => v.category).sum ≤ W) (hd : decode c.code pc = .ok (.invokespecial index, 3)) (has : (.ref b :: argsL).toArray = as') (eT : T.heap = h) (hc : cells + rm.cells ≤ Rm.cells) (hs : slots + rm.slots ≤ Rm.slots) (H : ∀ (T' : State) (Lc : List Loc) (v : Option Value), Stand p l e Rm s m args below meth c T' (locs ++ Lc) (cells + rm.cells) (slots + rm.slots) → Q v T'.heap Lc → Go p e below R (T'.setTop (mkF m (pc + 3) Ls (v.toList ++ rest)))) : Go p e below R (T.setTop (mkF m pc Ls stk)) := by
  obtain ⟨v, _, ⟨T', L', k', n'⟩, -, X', ⟨Lc, hQ, l1, l2, l3⟩, st⟩ := X.specialBack hx h1 hown (mvT hZ w1) (mvT hZ w2) (mvT hZ wc) hy (backOf (W := W) hM hZ wc wz hf hl) (g := mkF m pc Ls stk) rfl hml (Steps.refl _) (a := b) (argsL := argsL) (rest := rest) hlen hst (by show 2 * 0 + _ ≤ _; omega) hd (fun _ _ => ⟨has, eT, hc, hs⟩)
  dsimp only [Pt.U, Pt.locs, Pt.cells, Pt.slots] at X' l1 l2 l3 st hQ
  subst l1 l2 l3
  exact Go.step (fun _ k => st.trans k) (H T' Lc v X' hQ)
theorem gs.priv (W : Nat) (X : Stand p l e Rm s m args below meth c T locs cells slots) (hx : p.tables.exec = Jvm.exec) (hZ : Z.Warmed39 s.vm) (hown : s.vm.findClass own = some m.cls) (hM : MetFree l y (head1 [Cond.code y bytes maxL ret] rm) (fun a U => a = as' ∧ Z.Warmed39 U.vm ∧ U.heap = h) (fun _ _ _ _ _ => True) (fun _ U o U' => ∃ v L, o = .returned v ∧ Q v U'.heap L ∧ FrameEnd U o U' L rm.cells rm.slots)) (wc : (Cond.code y bytes maxL ret).before a0 Z = true) (wz : (Cond.initialized y.cls).before a0 Z = true) (w1 : (Cond.methodLink own index y).before a0 Z = true) (w2 : (Cond.instanceMethod y).before a0 Z = true) (hsel : (Cond.selects y.cls y y).before args s = true) (w3 : (Cond.privateMethod y).before a0 Z = true) (hy : y.cls ≠ "java/lang/invoke/MethodHandle" ∧ y.cls ≠ "java/lang/invoke/VarHandle") (E : Exa Z h b C) (hf : rm.frames + 1 ≤ Rm.frames) (hl : W + (maxL + 11) + rm.locals ≤ Rm.locals) (hml : Ls.size = c.maxLocals) (argsL : List Value) (hlen : ∀ sig, parseMethodDescriptor y.desc = some sig → argsL.length = sig.parameters.length) (hst : stk = argsL.reverse ++ .ref b :: rest) (hW : (rest.map fun v => v.category).sum ≤ W) (hd : decode c.code pc = .ok (.invokevirtual index, 3)) (has : (.ref b :: argsL).toArray = as') (eT : T.heap = h) (hc : cells + rm.cells ≤ Rm.cells) (hs : slots + rm.slots ≤ Rm.slots) (H : ∀ (T' : State) (Lc : List Loc) (v : Option Value), Stand p l e Rm s m args below meth c T' (locs ++ Lc) (cells + rm.cells) (slots + rm.slots) → Q v T'.heap Lc → Go p e below R (T'.setTop (mkF m (pc + 3) Ls (v.toList ++ rest)))) : Go p e below R (T.setTop (mkF m pc Ls stk)) := by
  obtain ⟨cq, q, q'⟩ := E.cell
  obtain ⟨v, _, ⟨T', L', k', n'⟩, -, X', ⟨Lc, hQ, l1, l2, l3⟩, st⟩ := X.privateBack hx hown (mvT hZ w1) (mvT hZ w2) hsel (Cond.privateMethod_at (mvP hZ w3 (args := #[]))) (mvT hZ wc) hy (backOf (W := W) hM hZ wc wz hf hl) (g := mkF m pc Ls stk) rfl hml (Steps.refl _) (a := b) (by rw [eT]; exact q) q' (argsL := argsL) (rest := rest) hlen hst (by show 2 * 0 + _ ≤ _; omega) hd (fun _ _ => ⟨has, eT, hc, hs⟩)
  dsimp only [Pt.U, Pt.locs, Pt.cells, Pt.slots] at X' l1 l2 l3 st hQ
  subst l1 l2 l3
  exact Go.step (fun _ k => st.trans k) (H T' Lc v X' hQ)
theorem gs.virt (W : Nat) (X : Stand p l e Rm s m args below meth c T locs cells slots) (hx : p.tables.exec = Jvm.exec) (hZ : Z.Warmed39 s.vm) (hown : s.vm.findClass own = some m.cls) (hM : MetFree l z (head1 [Cond.code z bytes maxL ret] rm) (fun a U => a = as' ∧ Z.Warmed39 U.vm ∧ U.heap = h) (fun _ _ _ _ _ => True) (fun _ U o U' => ∃ v L, o = .returned v ∧ Q v U'.heap L ∧ FrameEnd U o U' L rm.cells rm.slots)) (wc : (Cond.code z bytes maxL ret).before a0 Z = true) (wz : (Cond.initialized z.cls).before a0 Z = true) (w1 : (Cond.methodLink own index y).before a0 Z = true) (w2 : (Cond.declares y).before a0 Z = true) (hnf : NotFace s y) (w3 : (Cond.selects C y z).before a0 Z = true) (w4 : (Cond.instanceMethod z).before a0 Z = true) (hy : y.cls ≠ "java/lang/invoke/MethodHandle" ∧ y.cls ≠ "java/lang/invoke/VarHandle") (E : Exa Z h b C) (hf : rm.frames + 1 ≤ Rm.frames) (hl : W + (maxL + 11) + rm.locals ≤ Rm.locals) (hml : Ls.size = c.maxLocals) (argsL : List Value) (hlen : ∀ sig, parseMethodDescriptor y.desc = some sig → argsL.length = sig.parameters.length) (hst : stk = argsL.reverse ++ .ref b :: rest) (hW : (rest.map fun v => v.category).sum ≤ W) (hd : decode c.code pc = .ok (.invokevirtual index, 3)) (has : (.ref b :: argsL).toArray = as') (eT : T.heap = h) (hc : cells + rm.cells ≤ Rm.cells) (hs : slots + rm.slots ≤ Rm.slots) (H : ∀ (T' : State) (Lc : List Loc) (v : Option Value), Stand p l e Rm s m args below meth c T' (locs ++ Lc) (cells + rm.cells) (slots + rm.slots) → Q v T'.heap Lc → Go p e below R (T'.setTop (mkF m (pc + 3) Ls (v.toList ++ rest)))) : Go p e below R (T.setTop (mkF m pc Ls stk)) := by
  obtain ⟨cq, kq, qa, qb, qc⟩ := isOf hZ eT E
  obtain ⟨v, _, ⟨T', L', k', n'⟩, -, X', ⟨Lc, hQ, l1, l2, l3⟩, st⟩ := X.virtualBack hx hown (mvT hZ w1) (mvT hZ w2) hnf (mvT hZ w3) (mvT hZ w4) hy (backOf (W := W) hM hZ wc wz hf hl) qa qc (g := mkF m pc Ls stk) rfl hml (Steps.refl _) (argsL := argsL) (rest := rest) hlen hst (by show 2 * 0 + _ ≤ _; omega) hd (fun _ _ => ⟨has, eT, hc, hs⟩)
  dsimp only [Pt.U, Pt.locs, Pt.cells, Pt.slots] at X' l1 l2 l3 st hQ
  subst l1 l2 l3
  exact Go.step (fun _ k => st.trans k) (H T' Lc v X' hQ)
theorem gs.face (W : Nat) (X : Stand p l e Rm s m args below meth c T locs cells slots) (hx : p.tables.exec = Jvm.exec) (hZ : Z.Warmed39 s.vm) (hown : s.vm.findClass own = some m.cls) (hM : MetFree l z (head1 [Cond.code z bytes maxL ret] rm) (fun a U => a = as' ∧ Z.Warmed39 U.vm ∧ U.heap = h) (fun _ _ _ _ _ => True) (fun _ U o U' => ∃ v L, o = .returned v ∧ Q v U'.heap L ∧ FrameEnd U o U' L rm.cells rm.slots)) (wc : (Cond.code z bytes maxL ret).before a0 Z = true) (wz : (Cond.initialized z.cls).before a0 Z = true) (w1 : (Cond.methodLink own index y).before a0 Z = true) (w2 : (Cond.declares y).before a0 Z = true) (w3 : (Cond.interfaceMethod y.cls y.cls y.name y.desc).before args s = true) (w4 : (Cond.selects C y z).before a0 Z = true) (w5 : (Cond.instanceMethod z).before a0 Z = true) (w6 : (Cond.publicMethod z).before a0 Z = true) (w7 : (Cond.unhidden C y.name y.desc).before a0 Z = true) (w8 : (Cond.castable C y.cls).before a0 Z = true) (hy : y.cls ≠ "java/lang/invoke/MethodHandle" ∧ y.cls ≠ "java/lang/invoke/VarHandle") (E : Exa Z h b C) (hf : rm.frames + 1 ≤ Rm.frames) (hl : W + (maxL + 11) + rm.locals ≤ Rm.locals) (hml : Ls.size = c.maxLocals) (argsL : List Value) (hlen : ∀ sig, parseMethodDescriptor y.desc = some sig → argsL.length = sig.parameters.length) (hst : stk = argsL.reverse ++ .ref b :: rest) (hW : (rest.map fun v => v.category).sum ≤ W) (hd : decode c.code pc = .ok (.invokeinterface index count, 5)) (has : (.ref b :: argsL).toArray = as') (eT : T.heap = h) (hc : cells + rm.cells ≤ Rm.cells) (hs : slots + rm.slots ≤ Rm.slots) (H : ∀ (T' : State) (Lc : List Loc) (v : Option Value), Stand p l e Rm s m args below meth c T' (locs ++ Lc) (cells + rm.cells) (slots + rm.slots) → Q v T'.heap Lc → Go p e below R (T'.setTop (mkF m (pc + 5) Ls (v.toList ++ rest)))) : Go p e below R (T.setTop (mkF m pc Ls stk)) := by
  obtain ⟨cq, kq, qa, qb, qc⟩ := isOf hZ eT E
  obtain ⟨v, _, ⟨T', L', k', n'⟩, -, X', ⟨Lc, hQ, l1, l2, l3⟩, st⟩ := X.interfaceBack hx hown (mvT hZ w1) (mvT hZ w2) w3 (mvT hZ w4) (mvT hZ w5) (mvT hZ w6) (mvT hZ w7) (mvT hZ w8) hy (backOf (W := W) hM hZ wc wz hf hl) qa qb qc (g := mkF m pc Ls stk) rfl hml (Steps.refl _) (argsL := argsL) (rest := rest) hlen hst (by show 2 * 0 + _ ≤ _; omega) hd (fun _ _ => ⟨has, eT, hc, hs⟩)
  dsimp only [Pt.U, Pt.locs, Pt.cells, Pt.slots] at X' l1 l2 l3 st hQ
  subst l1 l2 l3
  exact Go.step (fun _ k => st.trans k) (H T' Lc v X' hQ)
end GS3
abbrev y_1 : MethodName := ⟨"com/example/overcap/overcap/model/FigureTextPinLaw", "str", "(I)Ljava/lang/String;"⟩
abbrev c_1 : ByteArray := method_2_code
abbrev y_2 : MethodName := ⟨"java/lang/String", "<init>", "([C)V"⟩
abbrev c_2 : ByteArray := jdk_42_method_3_code
abbrev y_3 : MethodName := ⟨"java/lang/String", "<init>", "([CIILjava/lang/Void;)V"⟩
abbrev c_3 : ByteArray := jdk_42_method_149_code
abbrev y_4 : MethodName := ⟨"java/lang/Object", "<init>", "()V"⟩
abbrev c_4 : ByteArray := object_method_1_code
abbrev y_5 : MethodName := ⟨"java/lang/StringUTF16", "compress", "([CII)[B"⟩
abbrev c_5 : ByteArray := jdk_52_method_16_code
abbrev y_6 : MethodName := ⟨"java/lang/StringUTF16", "compress", "([CI[BII)I"⟩
abbrev c_6 : ByteArray := jdk_52_method_21_code
abbrev y_7 : MethodName := ⟨"java/lang/StringUTF16", "coderFromArrayLen", "([BI)B"⟩
abbrev c_7 : ByteArray := jdk_52_method_15_code
abbrev y_8 : MethodName := ⟨"java/lang/String", "valueOf", "(C)Ljava/lang/String;"⟩
abbrev c_8 : ByteArray := jdk_42_method_139_code
abbrev y_9 : MethodName := ⟨"java/lang/StringLatin1", "canEncode", "(C)Z"⟩
abbrev c_9 : ByteArray := jdk_43_method_3_code
abbrev y_10 : MethodName := ⟨"java/lang/StringLatin1", "toBytes", "(C)[B"⟩
abbrev c_10 : ByteArray := jdk_43_method_46_code
abbrev y_11 : MethodName := ⟨"java/lang/String", "<init>", "([BB)V"⟩
abbrev c_11 : ByteArray := jdk_42_method_151_code
abbrev y_12 : MethodName := ⟨"com/example/overcap/overcap/model/Figure", "text", "(Ljava/lang/String;Ljava/lang/String;Ljava/lang/String;Ljava/lang/String;)Lcom/example/overcap/overcap/model/Figure;"⟩
abbrev c_12 : ByteArray := prog_12_method_2_code
abbrev y_13 : MethodName := ⟨"com/example/overcap/overcap/model/Figure", "<init>", "(Ljava/lang/String;Ljava/lang/String;Lcom/example/overcap/overcap/model/Figure$Kind;Ljava/lang/String;Ljava/lang/String;)V"⟩
abbrev c_13 : ByteArray := prog_12_method_1_code
abbrev y_14 : MethodName := ⟨"com/example/overcap/overcap/model/Figure", "kind", "()Lcom/example/overcap/overcap/model/Figure$Kind;"⟩
abbrev c_14 : ByteArray := prog_12_method_11_code
abbrev y_15 : MethodName := ⟨"com/example/overcap/overcap/model/Figure", "key", "()Ljava/lang/String;"⟩
abbrev c_15 : ByteArray := prog_12_method_9_code
abbrev y_16 : MethodName := ⟨"java/lang/String", "equals", "(Ljava/lang/Object;)Z"⟩
abbrev c_16 : ByteArray := jdk_42_method_66_code
abbrev y_17 : MethodName := ⟨"com/example/overcap/overcap/model/Figure", "label", "()Ljava/lang/String;"⟩
abbrev c_17 : ByteArray := prog_12_method_10_code
abbrev y_18 : MethodName := ⟨"com/example/overcap/overcap/model/Figure", "value", "()Ljava/lang/String;"⟩
abbrev c_18 : ByteArray := prog_12_method_12_code
abbrev y_19 : MethodName := ⟨"com/example/overcap/overcap/model/Figure", "working", "()Ljava/lang/String;"⟩
abbrev c_19 : ByteArray := prog_12_method_13_code
theorem i32_is {k : Int32} (z : Int32) (h : k.toInt = z.toInt) : k = z := Int32.toInt_inj.mp h
theorem rem_bd (x m : Int32) (hm : 0 < m.toInt) : 0 ≤ ((x &&& (2147483647 : Int32)) % m).toInt ∧ ((x &&& (2147483647 : Int32)) % m).toInt < m.toInt := by
  have e1 : (x &&& (2147483647 : Int32)).toInt = x.toInt % 2 ^ 31 := Jvm.Kit.i32_mask x 2147483647 (k := 31) (by decide) (by decide)
  have h0 : 0 ≤ (x &&& (2147483647 : Int32)).toInt := by rw [e1]; exact Int.emod_nonneg _ (by decide)
  rw [Jvm.Kit.i32_rem_nonneg h0]
  exact ⟨Int.emod_nonneg _ (by omega), Int.emod_lt_of_pos _ hm⟩

theorem cs4 {k : Int32} (h : 0 ≤ k.toInt ∧ k.toInt < 4) : k = (0 : Int32) ∨ k = (1 : Int32) ∨ k = (2 : Int32) ∨ k = (3 : Int32) := by
  have q : k.toInt = 0 ∨ k.toInt = 1 ∨ k.toInt = 2 ∨ k.toInt = 3 := by omega
  rcases q with q | q | q | q
  · exact Or.inl (i32_is 0 q)
  · exact Or.inr (Or.inl (i32_is 1 q))
  · exact Or.inr (Or.inr (Or.inl (i32_is 2 q)))
  · exact Or.inr (Or.inr (Or.inr ((i32_is 3 q))))
theorem c8_of (x : Int32) : ∃ i : Fin 256, x &&& (255 : Int32) = Int32.ofNat i.val := by
  have e1 : (x &&& (255 : Int32)).toInt = x.toInt % 2 ^ 8 := Jvm.Kit.i32_mask x 255 (k := 8) (by decide) (by decide)
  have h0 := Int.emod_nonneg x.toInt (show (256 : Int) ≠ 0 by decide)
  have h1 := Int.emod_lt_of_pos x.toInt (show (0 : Int) < 256 by decide)
  refine ⟨⟨(x.toInt % 256).toNat, by omega⟩, Int32.toInt_inj.mp ?_⟩
  rw [e1, Int32.toInt_ofNat_small (by show (x.toInt % 256).toNat < 2 ^ 31; omega)]
  show x.toInt % 256 = ((x.toInt % 256).toNat : Int)
  omega
theorem c8f : ∀ i : Fin 256, (((Int32.ofNat i.val).toUInt32.toUInt16.toUInt32.toInt32).toUInt32.toUInt16.toUInt32.toInt32) = ((Int32.ofNat i.val).toUInt32.toUInt16.toUInt32.toInt32) ∧ ¬ (255 : Int32) < ((Int32.ofNat i.val).toUInt32.toUInt16.toUInt32.toInt32) := by decide +kernel
theorem c8 (x : Int32) : (((x &&& (255 : Int32)).toUInt32.toUInt16.toUInt32.toInt32).toUInt32.toUInt16.toUInt32.toInt32) = ((x &&& (255 : Int32)).toUInt32.toUInt16.toUInt32.toInt32) ∧ ¬ (255 : Int32) < ((x &&& (255 : Int32)).toUInt32.toUInt16.toUInt32.toInt32) := by
  obtain ⟨i, e⟩ := c8_of x
  rw [e]; exact c8f i
theorem eq_ref {args : Array Value} {s : State} {t u : Term} {b : Addr} (h : (Jvm.Cond.eq t u).value args s none s [] = some true) (hu : u.eval args s none [] s = some (.ref b)) : t.eval args s none [] s = some (.ref b) := by
  simp only [Cond.value, hu] at h
  cases e : t.eval args s none [] s with
  | none => simp [e] at h
  | some v => cases v <;> simp_all
theorem len_start {args : Array Value} {s : State} {t : Term} {a : Addr} {cl : Cell} {ty : FieldType} {z : Int32} (A : Arr s s.heap a cl ty) (ev : t.eval args s none [] s = some (.ref a)) (h : (Term.length t).eval args s none [] s = some (.int z)) : cl.slots.size < 2 ^ 31 ∧ cl.slots.size.toInt32 = z := by
  have ha := Arr.fin (Vm.Alike.refl s.vm) A
  have h' : (if cl.slots.size < 2147483648 then some (Value.int cl.slots.size.toInt32) else none) = some (Value.int z) := by simpa [Term.eval, ev, ha] using h
  by_cases q : cl.slots.size < 2147483648
  · rw [if_pos q] at h'; exact ⟨q, by simpa using h'⟩
  · rw [if_neg q] at h'; cases h'
theorem elem_start {args : Array Value} {s : State} {t : Term} {a b : Addr} {cl : Cell} {ty : FieldType} {j : Int32} {n : Nat} (A : Arr s s.heap a cl ty) (ev : t.eval args s none [] s = some (.ref a)) (h : (Term.elem t (.int j)).eval args s none [] s = some (.ref b)) (hj : ¬ j < 0 ∧ j.toNatClampNeg = n) : cl.slots[n]? = some (.ref b) := by
  have ha := Arr.fin (Vm.Alike.refl s.vm) A
  have q := elem_f (a := .int j) ev (Term.int_eval j) ha hj.1
  rw [hj.2] at q
  exact q.symm.trans h
theorem and3_bd (x : Int32) : 0 ≤ (x &&& (3 : Int32)).toInt ∧ (x &&& (3 : Int32)).toInt < 4 := by
  have e1 : (x &&& (3 : Int32)).toInt = x.toInt % 2 ^ 2 := Jvm.Kit.i32_mask x 3 (k := 2) (by decide) (by decide)
  rw [e1]; omega
theorem and3r_bd (x : Int32) : 0 ≤ ((x &&& (3 : Int32)) % (3 : Int32)).toInt ∧ ((x &&& (3 : Int32)) % (3 : Int32)).toInt < 3 := by
  rcases cs4 (and3_bd x) with e | e | e | e <;> rw [e] <;> decide
theorem sel_priv2 {Z s : State} {a0 args : Array Value} {C : String} {y : MethodName} (hZ : Z.Warmed39 s.vm) (ws : (Jvm.Cond.selects C y y).before a0 Z = true) (wp : (Jvm.Cond.privateMethod y).before a0 Z = true) (wm : (Jvm.Cond.instanceMethod y).before a0 Z = true) (hy : y.cls ≠ "java/lang/invoke/MethodHandle" ∧ y.cls ≠ "java/lang/invoke/VarHandle") : (Jvm.Cond.selects y.cls y y).before args s = true := by
  obtain ⟨c2, r2, m2, q1, q2, q3, q4, kP, hkP, hkPi⟩ := Cond.selects_spec (show (Jvm.Cond.selects C y y).before args s = true from mvT hZ ws)
  exact Jvm.Stand.selects_self_of_private (findClass_of_methodNamed q3) hkP hkPi (Cond.privateMethod_at (mvP hZ wp (args := args))) (mv hZ wm) hy
theorem same_self {Z : State} {a0 : Array Value} {C : String} {y0 y : MethodName} (ws : (Jvm.Cond.selects C y0 y0).before a0 Z = true) (hc : y0.cls = y.cls) (wm : (Jvm.Cond.instanceMethod y).before a0 Z = true) (hy : y.cls ≠ "java/lang/invoke/MethodHandle" ∧ y.cls ≠ "java/lang/invoke/VarHandle") : (Jvm.Cond.sameMethod y.cls y.cls y.name y.desc).before a0 Z = true := by
  obtain ⟨c2, r2, m2, q1, q2, q3, q4, kP, hkP, hkPi⟩ := Cond.selects_spec ws
  obtain ⟨mk, methM, hnamed, hmethM, -, -⟩ := Cond.instanceMethod_spec wm
  have hfound : Z.methodFound? y.cls y.name y.desc = some mk := State.methodFound?_of_named hnamed hy
  have hn' : Z.methodNamed? ⟨y.cls, y.name, y.desc⟩ = some mk := hnamed
  have hcl := findClass_of_methodNamed q3
  rw [hc] at hcl
  simp [Cond.before, Cond.holds, Cond.value, hcl, hfound, hn', hkP, hkPi]
theorem notFace_by {args : Array Value} {s : State} {C : String} {y0 y : MethodName} (hsel : (Jvm.Cond.selects C y0 y0).before args s = true) (hc : y0.cls = y.cls) : NotFace s y := fun r0 h0 => by
  obtain ⟨c2, r2, m2, q1, q2, q3, q4, kP, hkP, hkPi⟩ := Cond.selects_spec hsel
  have e1 := findClass_of_methodNamed q3
  have e2 := findClass_of_methodNamed h0
  rw [hc] at e1
  have e3 : m2.cls = r0.cls := Option.some.inj (e1.symm.trans e2)
  rw [← e3]
  exact ⟨kP, hkP, hkPi⟩
def Fin3 (Z : State) (EL : List (String × Nat)) (s : State) (below : List Frame) (Q : Option Value → Heap → List Loc → Prop) (K N : Nat) (t : State) (o : Outcome) : Prop := t.status = .running ∧ Ended t below o ∧ ∃ v L, o = .returned v ∧ Q v t.heap L ∧ CHr Z EL s.vm s.heap t.vm t.heap ∧ ReturnedEndW s o t L K N
section GoRetH
variable {p : Program} {l : Launch} {e : Env} {R : Room} {s : State} {vm0 : Vm} {m : MethodId} {args : Array Value} {below : List Frame} {meth : Method} {c : Code} {T : State} {locs : List Loc} {cells slots : Nat} {Q : Option Value → Heap → List Loc → Prop} {K N pc k0 : Nat} {Ls : Array Slot} {rest : List Value} {Z : State} {a0 : Array Value} {EL : List (String × Nat)} {h0 h : Heap}
theorem chFin (X : Stand p l e R (s.setVm vm0) m args below meth c T locs cells slots) (hZ : Z.Warmed39 vm0) (hEL : EW Z a0 EL) (hh : s.heap = h0) (eT : T.heap = h) (hC : CHr Z EL s.vm h0 vm0 h) : CHr Z EL s.vm s.heap T.vm T.heap := by
  subst eT; rw [hh]; exact hC.trans (CHv.at X hZ hEL hC.1)
theorem GoH.retZ (X : Stand p l e R (s.setVm vm0) m args below meth c T locs cells slots) (hS : s.Since vm0 k0) (hk : k0 ≤ T.heap.size) (hZ : Z.Warmed39 vm0) (hEL : EW Z a0 EL) (hh : s.heap = h0) (eT : T.heap = h) (hC : CHr Z EL s.vm h0 vm0 h) (hx : p.tables.exec = Jvm.exec) {z : Int32} {t : FieldType} (hret : meth.sig.returnType = some t) (ht : t = .boolean ∨ t = .byte ∨ t = .char ∨ t = .short) (hlk : meth.locks = false) (hd : decode c.code pc = .ok (.ireturn, 1)) (hq : Q (some (.int (nar t z))) T.heap locs) (hc : cells ≤ K) (hn : slots ≤ N) : Go p e below (Fin3 Z EL s below Q K N) (T.setTop (mkF m pc Ls (.int z :: rest))) := by
  obtain ⟨fs, hr, hrun, hended, hW⟩ := X.leaveW hS hk (v := some (.int (nar t z))) (fun h => by rw [hret] at h; cases h) hlk
  exact ⟨_, _, retN X hx hret ht hd hr, hrun, hended, _, _, rfl, hq, (show CHr Z EL s.vm s.heap T.vm T.heap from chFin X hZ hEL hh eT hC), wmono hW hc hn⟩
theorem GoH.retI (X : Stand p l e R (s.setVm vm0) m args below meth c T locs cells slots) (hS : s.Since vm0 k0) (hk : k0 ≤ T.heap.size) (hZ : Z.Warmed39 vm0) (hEL : EW Z a0 EL) (hh : s.heap = h0) (eT : T.heap = h) (hC : CHr Z EL s.vm h0 vm0 h) (hx : p.tables.exec = Jvm.exec) {z : Int32} (hret : meth.sig.returnType = some .int) (hlk : meth.locks = false) (hd : decode c.code pc = .ok (.ireturn, 1)) (hq : Q (some (.int z)) T.heap locs) (hc : cells ≤ K) (hn : slots ≤ N) : Go p e below (Fin3 Z EL s below Q K N) (T.setTop (mkF m pc Ls (.int z :: rest))) := by
  obtain ⟨fs, hr, hrun, hended, hW⟩ := X.leaveW hS hk (v := some (.int z)) (fun h => by rw [hret] at h; cases h) hlk
  exact ⟨_, _, Jvm.RoadKit.retI X hx hret hd hr, hrun, hended, _, _, rfl, hq, (show CHr Z EL s.vm s.heap T.vm T.heap from chFin X hZ hEL hh eT hC), wmono hW hc hn⟩
theorem GoH.retR (X : Stand p l e R (s.setVm vm0) m args below meth c T locs cells slots) (hS : s.Since vm0 k0) (hk : k0 ≤ T.heap.size) (hZ : Z.Warmed39 vm0) (hEL : EW Z a0 EL) (hh : s.heap = h0) (eT : T.heap = h) (hC : CHr Z EL s.vm h0 vm0 h) (hx : p.tables.exec = Jvm.exec) {w : Value} {t : FieldType} (hret : meth.sig.returnType = some t) (ht : t.isReference = true) (hw : w.isRef = true) (hlk : meth.locks = false) (hd : decode c.code pc = .ok (.areturn, 1)) (hq : Q (some w) T.heap locs) (hc : cells ≤ K) (hn : slots ≤ N) : Go p e below (Fin3 Z EL s below Q K N) (T.setTop (mkF m pc Ls (w :: rest))) := by
  obtain ⟨fs, hr, hrun, hended, hW⟩ := X.leaveW hS hk (v := some w) (fun h => by rw [hret] at h; cases h) hlk
  have hnw : narrow t w = w := by rcases ref_cases hw with rfl | ⟨a, rfl⟩ <;> cases t <;> first | rfl | (cases ht)
  exact ⟨_, _, retOut X hx hret hnw (Or.inr (Or.inr (Or.inr (Or.inr ⟨rfl, ht, hw⟩)))) hd hr, hrun, hended, _, _, rfl, hq, (show CHr Z EL s.vm s.heap T.vm T.heap from chFin X hZ hEL hh eT hC), wmono hW hc hn⟩
theorem GoH.retV (X : Stand p l e R (s.setVm vm0) m args below meth c T locs cells slots) (hS : s.Since vm0 k0) (hk : k0 ≤ T.heap.size) (hZ : Z.Warmed39 vm0) (hEL : EW Z a0 EL) (hh : s.heap = h0) (eT : T.heap = h) (hC : CHr Z EL s.vm h0 vm0 h) (hx : p.tables.exec = Jvm.exec) (hret : meth.sig.returnType = none) (hlk : meth.locks = false) (hd : decode c.code pc = .ok (.return_, 1)) (hq : Q none T.heap locs) (hc : cells ≤ K) (hn : slots ≤ N) : Go p e below (Fin3 Z EL s below Q K N) (T.setTop (mkF m pc Ls [])) := by
  obtain ⟨fs, hr, hrun, hended, hW⟩ := X.leaveW hS hk (v := none) (fun _ => rfl) hlk
  exact ⟨_, _, X.returnOut hx hret hd hr, hrun, hended, _, _, rfl, hq, (show CHr Z EL s.vm s.heap T.vm T.heap from chFin X hZ hEL hh eT hC), wmono hW hc hn⟩
end GoRetH
/-- a String under construction (its value is null) is no booked literal -/
theorem safe_str {Z : State} {EL : List (String × Nat)} {vm : Vm} {h : Heap} {y : Addr} (hal : Z.vm.Alike vm) (E : Exa Z h y "java/lang/String") (F : Fld Z h y "java/lang/String" "value" "[B" .null) : Safe Z EL vm h y := fun B => by
  obtain ⟨cell, cv, kv, iv, f, g1, g2, g3, g4, g5, g6, g7⟩ := F
  obtain ⟨p, -, u, a, -, q, -, F', rfl | rfl⟩ := B
  · obtain ⟨cS, ⟨⟨s1, -, -, ⟨c1, k1, i1, f1, -⟩, -, -, -, v1, -⟩, -⟩, -⟩ := F'
    cases (show h[q.sa]? = some q.sC from s1).symm.trans g1
    obtain ⟨k3, e3, -⟩ := State.fieldFound?_setVm (s := Z) hal g2
    have e4 := (show (Wst Z vm h).fieldFound? _ _ _ = _ from e3).symm.trans f1
    simp only [Option.some.injEq, Prod.mk.injEq] at e4
    rw [← e4.2.2.2, g7] at v1
    simp at v1
  · obtain ⟨cell2, k, e1, e2, e3, -, -⟩ := E
    cases (show h[q.sd]? = some q.SA from F'.hd).symm.trans e1
    obtain ⟨cS, -, -, f2, -⟩ := F'
    have f3 : vm.findClass "[B" = some q.SA.cls := f2
    rw [hal.findClass] at f3
    obtain ⟨k1, q1, q2⟩ := Vm.findClass_spec f3
    obtain ⟨k2, q3, q4⟩ := Vm.findClass_spec e2
    cases q1.symm.trans q3
    exact absurd (q2.symm.trans q4) (by decide)
theorem exa_ne {Z : State} {h : Heap} {a b : Addr} {C D : String} (E : Exa Z h a C) (F : Exa Z h b D) (q : C ≠ D) : a ≠ b := fun e => by
  subst e
  obtain ⟨c1, k1, e1, e2, -⟩ := E
  obtain ⟨c2, k2, f1, f2, -⟩ := F
  cases e1.symm.trans f1
  obtain ⟨k3, q1, q2⟩ := Vm.findClass_spec e2
  obtain ⟨k4, q3, q4⟩ := Vm.findClass_spec f2
  cases q1.symm.trans q3
  exact q (q2.symm.trans q4)
theorem exa_arv_ne {Z : State} {h : Heap} {a b : Addr} {C : String} {n : Nat} {a0 : Array Value} {k : ClassId} {ty : FieldType} {z : Int32} {vs : List Value} {dv : Value} (wi : (Jvm.Cond.instantiable C n).before a0 Z = true) (E : Exa Z h a C) (A : Arv Z h b k ty z vs dv) : a ≠ b := fun e => by
  subst e
  obtain ⟨c1, k1, e1, e2, -⟩ := E
  obtain ⟨cl, ⟨A1, ⟨-, kA, hkA, compA, hkindA⟩, -⟩, -⟩ := A
  cases e1.symm.trans A1
  obtain ⟨cI, kI, hfI, hkI, hkindI, -⟩ := Cond.instantiable_spec wi
  cases e2.symm.trans hfI
  cases hkI.symm.trans hkA
  rw [hkindI] at hkindA; cases hkindA
section GsCst
variable {p : Program} {l : Launch} {e : Env} {Rm : Room} {s : State} {m : MethodId} {args : Array Value} {below : List Frame} {meth : Method} {c : Code} {T : State} {locs : List Loc} {cells slots pc n0 : Nat} {R : State → Outcome → Prop} {Ls : Array Slot} {rest : List Value} {Z : State} {h h0 : Heap} {a : Addr} {k : ClassId} {n j x : Int32} {vs : List Value} {dv : Value} {ws : List Addr}
/-- castore into an array whose components are told, in one step -/
theorem gs.cst (X : Stand p l e Rm s m args below meth c T locs cells slots) (hx : p.tables.exec = Jvm.exec) (hZ : Z.Warmed39 s.vm) (eT : T.heap = h) (F : Arv Z h a k .char n vs dv) (i : Nat) (h1 : (decide (¬ j < 0) && decide (j.toNatClampNeg = i) && decide (i < n.toNatClampNeg)) = true) (hi : i < vs.length) (N : Fr n0 locs) (nn : n0 ≤ a) (old : Old Z n0 h) (keep : Keep h0 h ws) (kw : a ∈ ws ∨ h0.size ≤ a) (hd : decode c.code pc = .ok (.castore, 1))
    (K : ∀ T' h', Stand p l e Rm s m args below meth c T' (locs ++ [⟨a, j.toNatClampNeg⟩]) cells slots → T'.heap = h' → Wr h h' a j.toNatClampNeg (.int (nar .char x)) → Fr n0 (locs ++ [⟨a, j.toNatClampNeg⟩]) → Old Z n0 h' → Keep h0 h' ws → Arv Z h' a k .char n (vs.set i (.int (nar .char x))) dv → Go p e below R (T'.setTop (mkF m (pc + 1) Ls rest))) : Go p e below R (T.setTop (mkF m pc Ls (.int x :: .int j :: .ref a :: rest))) := by
  obtain ⟨cl, A, q1, S, q3, H, G⟩ := id F
  simp only [Bool.and_eq_true, decide_eq_true_eq] at h1
  obtain ⟨⟨g1, g2⟩, g3⟩ := h1
  have hj : ¬ (j < 0 ∨ cl.slots.size ≤ j.toNatClampNeg) := by
    rintro (q | q)
    · exact g1 q
    · rw [S, g2] at q; omega
  obtain ⟨T', h', X', e', W, st⟩ := stC X hx hZ eT A hj (g := mkF m pc Ls (.int x :: .int j :: .ref a :: rest)) rfl rfl hd
  exact Go.step st (K T' h' X' e' W (Fr.snoc X' N nn) (old.wr W nn) (keep.wr W kw) (Arv.set A q1 S q3 H G (fits_nar_char _) W i g2 hi))
end GsCst

abbrev EL_ : List (String × Nat) := consts_1
theorem hEL_ {a0 : Array Value} {Z : State} (hw : ∀ d ∈ tables_1, d.before a0 Z = true) : EW Z a0 EL_ := (EW.cons (wd hw 18 rfl) (by first | decide | simp | decide +kernel) EW.nil)
theorem ne_v {args : Array Value} {s : State} {t : Term} {z y : Int32} (h : (Jvm.Cond.not (Jvm.Cond.eq t (.int z))).value args s none s [] = some true) (ev : t.eval args s none [] s = some (.int y)) : ¬ y = z := by intro q; subst q; simp [Cond.value, Term.eval, ev] at h
def Wd (Z : State) (cs_ : Int32) (a_TEXT : Addr) : Prop := (Sta Z Z.heap "java/lang/String" "COMPACT_STRINGS" "Z" (.int cs_)) ∧ (¬ cs_ = (0 : Int32)) ∧ (Exa Z Z.heap a_TEXT "com/example/overcap/overcap/model/Figure$Kind") ∧ (Sta Z Z.heap "com/example/overcap/overcap/model/Figure$Kind" "TEXT" "Lcom/example/overcap/overcap/model/Figure$Kind;" (.ref a_TEXT))
theorem wS_all {a0 : Array Value} {Z : State} (hw : ∀ d ∈ tables_1, d.before a0 Z = true) : ∀ a ∈ Bundle.stringAtoms, a.before a0 Z = true := fun a ha => hw a ((by decide +kernel : ∀ a ∈ Bundle.stringAtoms, a ∈ tables_1) a ha)
theorem d3_0 : decode c_3 0 = .ok (.aload_n 0, 1) := by decide +kernel
theorem d3_1 : decode c_3 1 = .ok (.invokespecial 1, 3) := by decide +kernel
theorem d3_4 : decode c_3 4 = .ok (.iload_n 3, 1) := by decide +kernel
theorem d3_5 : decode c_3 5 = .ok (.ifCond .ne 22, 3) := by decide +kernel
theorem d3_8 : decode c_3 8 = .ok (.aload_n 0, 1) := by decide +kernel
theorem d3_9 : decode c_3 9 = .ok (.ldc 7, 2) := by decide +kernel
theorem d3_11 : decode c_3 11 = .ok (.getfield 9, 3) := by decide +kernel
theorem d3_14 : decode c_3 14 = .ok (.putfield 9, 3) := by decide +kernel
theorem d3_17 : decode c_3 17 = .ok (.aload_n 0, 1) := by decide +kernel
theorem d3_18 : decode c_3 18 = .ok (.ldc 7, 2) := by decide +kernel
theorem d3_20 : decode c_3 20 = .ok (.getfield 15, 3) := by decide +kernel
theorem d3_23 : decode c_3 23 = .ok (.putfield 15, 3) := by decide +kernel
theorem sn0 {a0 : Array Value} {Z : State} (hw : ∀ d ∈ tables_1, d.before a0 Z = true) : SN Z "java/lang/String" "coder" "B" "java/lang/String" "value" "[B" := slot_ne (Or.inr (wd hw 21 rfl)) (Or.inr (wd hw 20 rfl)) (by decide) (t := .byte) (t' := (.array .byte)) (by decide) (by decide)
theorem d3_26 : decode c_3 26 = .ok (.return_, 1) := by decide +kernel
theorem pn_0 : plainName "java/lang/String" = true := by first | (simp [plainName, overriddenIn]; done) | decide +kernel
theorem ef_rm_si0 (m : MethodId) (x0 : Addr) (x1 : Addr) (x2 : Int32) (x3 : Int32)  : entryFrame m #[(.ref x0), (.ref x1), (.int x2), (.int x3), .null] 6 = mkF m 0 #[.val (.ref x0), .val (.ref x1), .val (.int x2), .val (.int x3), .val .null, .unset] [] := by first | (simp [entryFrame, mkF, argsToLocals, Value.category]; done) | rfl
def Q_rm_si0 (Z : State) (cs_ : Int32) (a_TEXT : Addr) (o : Addr) (q : Addr) (h0 : Heap) (n0 : Nat) (v : Option Value) (h : Heap) (L : List Loc) : Prop := v = none ∧ Fr n0 L ∧ Keep h0 h [o] ∧ (Exa Z h o "java/lang/String")
set_option maxRecDepth 65536 in
set_option maxHeartbeats 40000000 in
theorem rm_si0 (l : Launch) (Z : State) (a0 : Array Value) (hw : ∀ d ∈ tables_1, d.before a0 Z = true) (ws : List Jvm.Cond) (cs_ : Int32) (a_TEXT : Addr) (HW : Wd Z cs_ a_TEXT) (o : Addr) (q : Addr) (h0 : Heap) (n0 : Nat) (Ol : Old Z n0 h0) (HE_o : Exa Z h0 o "java/lang/String") (HF_o_String_value : Fld Z h0 o "java/lang/String" "value" "[B" .null) (HF_o_String_coder : Fld Z h0 o "java/lang/String" "coder" "B" (.int (0 : Int32))) (nn_o : n0 ≤ o) :
    MetFree l y_3 (head1 (Jvm.Cond.code y_3 jdk_42_method_149_code 6 none :: ws) (rm 1 4 8 12)) (fun a_ U_ => a_ = #[(.ref o), (.ref q), (.int (0 : Int32)), (.int (0 : Int32)), .null] ∧ Z.Warmed39 U_.vm ∧ U_.heap = h0 ∧ CHv Z EL_ U_.vm h0) (fun _ _ _ _ _ => True) (fun _ U_ o_ V_ => ∃ v_ L_, o_ = .returned v_ ∧ Q_rm_si0 Z cs_ a_TEXT o q h0 n0 v_ V_.heap L_ ∧ CHr Z EL_ U_.vm U_.heap V_.vm V_.heap ∧ ReturnedEndW U_ o_ V_ L_ (rm 1 4 8 12).cells (rm 1 4 8 12).slots) := by
  refine MetFree.of_bodySF (plainFor_of_name pn_0) hisR ?_
  intro p e s m args below meth c s₁ Bd hml0 hP hK
  obtain ⟨rfl, hZ, hh, Hc0⟩ := hP
  have hx := Bd.exec
  have hby := Bd.bytes
  have hml : c.maxLocals = 6 := hml0
  have hown : s.vm.findClass "java/lang/String" = some m.cls := findClass_of_methodNamed Bd.named
  have hnm := (name_of_methodNamed Bd.named Bd.method).1
  have X0 : Stand p l e (rm 1 4 8 12) s m #[(.ref o), (.ref q), (.int (0 : Int32)), (.int (0 : Int32)), .null] below meth c s₁ [] 0 0 := Stand.of_body Bd
  have e0 : s₁.heap = h0 := by rw [← hh, Bd.state]; rfl
  have N0 := Fr.nil n0
  have kp0 := Keep.refl h0 [o]
  show Go p e below (Fin3 Z EL_ s below (Q_rm_si0 Z cs_ a_TEXT o q h0 n0) (rm 1 4 8 12).cells (rm 1 4 8 12).slots) _
  have S0 : s.Since s.vm 0 := (State.WarmedH.refl s).since 0
  have hk0 : 0 ≤ h0.size := Nat.zero_le _
  refine Go.step (fun t_ k_ => castTop (ef_rm_si0 m o q (0 : Int32) (0 : Int32)) k_) ?_
  obtain ⟨S_cs, N_cs, Ea_TEXT, Sa_TEXT⟩ := id HW
  have S_o : Safe Z EL_ s.vm h0 o := safe_str hZ.alike HE_o HF_o_String_value
  have lt_o := HE_o.lt
  show Go p e below _ (s₁.setTop (mkF m 0 #[.val (.ref o), .val (.ref q), .val (.int (0 : Int32)), .val (.int (0 : Int32)), .val .null, .unset] []))
  refine gs.aloadN X0.here hx (hb hby d3_0) rfl rfl ?_
  obtain ⟨T1, X1, e1, st1⟩ := initO X0 hx hZ hown (wd hw 15 rfl) (wd hw 16 rfl) (wd hw 17 rfl) e0 (g := (mkF m 1 #[.val (.ref o), .val (.ref q), .val (.int (0 : Int32)), .val (.int (0 : Int32)), .val .null, .unset] [(.ref o)])) rfl (by rw [hml]; rfl) rfl (hb hby d3_1) (by decide) (W := 0) (by show 2 * 0 + _ ≤ _; exact Nat.le_of_eq rfl) (by decide)
  refine Go.step st1 ?_
  show Go p e below _ (T1.setTop (mkF m 4 #[.val (.ref o), .val (.ref q), .val (.int (0 : Int32)), .val (.int (0 : Int32)), .val .null, .unset] []))
  refine gs.iloadN X1.here hx (hb hby d3_4) rfl ?_
  have hc5 : (0 : Int32) = (0 : Int32) := by decide
  refine gs.ifNo X1.here hx (hb hby d3_5) ((if0 _ _).trans (teq hc5).2) ?_
  refine gs.aloadN X1.here hx (hb hby d3_8) rfl rfl ?_
  obtain ⟨sa2, T2, h2, k1_2, sb2, kc2, X2, e2, E2, S2, hkk2, hZ2, hown2, A2, Fc2, Fv2, V2, -, -, C2, -, ns2, st2⟩ := ldcCH (vm0 := s.vm) X1 hx hZ hown (wd hw 18 rfl) (wS_all hw) e1 S0 hk0 (hEL_ hw) (List.mem_of_getElem? (i := 0) rfl) (CHr.keep kp0 (sfS S_o sf0) Hc0).1 (vs := []) (z := (0 : Int32)) ⟨by first | decide | simp | decide +kernel, by first | rfl | decide +kernel⟩ (by decide) (by decide) (g := (mkF m 9 #[.val (.ref o), .val (.ref q), .val (.int (0 : Int32)), .val (.int (0 : Int32)), .val .null, .unset] [(.ref o)])) rfl (hb hby d3_9) (n := 0) (by decide +kernel) (by decide) (by decide) (by decide)
  have chb2 := (CHr.keep kp0 (sfS S_o sf0) Hc0).trans C2
  have old2 := Ol.ext E2
  have kp2 := kp0.ext E2
  have hk2 := Nat.le_trans hk0 E2.1
  obtain ⟨ne_o_sa2, ne_o_sb2⟩ := ns2 _ (chb2.safe lt_o S_o)
  refine Go.fin st2 ?_
  show Go p e below _ (T2.setTop (mkF m 11 _ [(.ref sa2), (.ref o)]))
  refine gs.getF X2 hx hZ2 hown2 (wd hw 24 rfl) Via.refl e2 Fv2 (hb hby d3_11) fun T3 X3 e3 => ?_
  have f4 := (HF_o_String_value.ext E2)
  have f5 := (HE_o.ext E2)
  obtain ⟨T6, h6, X6, e6, W6, st6⟩ := putF X3 hx hZ2 hown2 (host := "") (Or.inl (wd hw 24 rfl)) Via.refl e3 f4 f5 (Or.inr ⟨(wd hw 20 rfl), rfl, hnm⟩) (wd hw 5 rfl) (ty := (.array .byte)) (by decide) rfl rfl (g := (mkF m 14 #[.val (.ref o), .val (.ref q), .val (.int (0 : Int32)), .val (.int (0 : Int32)), .val .null, .unset] [(.ref sb2), (.ref o)])) rfl rfl (hb hby d3_14)
  have N6 := Fr.snoc X6 N0 nn_o
  have old6 := old2.wr W6 nn_o
  have kp6 := kp2.wr W6 (Or.inl (List.mem_of_getElem? (i := 0) rfl))
  have hk6 := Nat.le_trans hkk2 (Keep.of_wr W6).1
  have F6 := f4.same W6
  refine Go.fin st6 ?_
  show Go p e below _ (T6.setTop (mkF m 17 _ []))
  refine gs.aloadN X6.here hx (hb hby d3_17) rfl rfl ?_
  obtain ⟨sa7, T7, h7, k1_7, sb7, kc7, X7, e7, E7, S7, hkk7, hZ7, hown7, A7, Fc7, Fv7, V7, -, -, C7, -, ns7, st7⟩ := ldcCH (vm0 := T2.vm) X6 hx hZ2 hown2 (wd hw 18 rfl) (wS_all hw) e6 S2 hk6 (hEL_ hw) (List.mem_of_getElem? (i := 0) rfl) (chb2.trans (CHr.keep ((Keep.refl h2 [o]).wr W6 (Or.inl (List.mem_of_getElem? (i := 0) rfl))) (sfS (chb2.safe lt_o S_o) sf0) chb2.1)).1 (vs := []) (z := (0 : Int32)) ⟨by first | decide | simp | decide +kernel, by first | rfl | decide +kernel⟩ (by decide) (by decide) (g := (mkF m 18 #[.val (.ref o), .val (.ref q), .val (.int (0 : Int32)), .val (.int (0 : Int32)), .val .null, .unset] [(.ref o)])) rfl (hb hby d3_18) (n := 0) (by decide +kernel) (by decide) (by decide) (by decide)
  have chb7 := (chb2.trans (CHr.keep ((Keep.refl h2 [o]).wr W6 (Or.inl (List.mem_of_getElem? (i := 0) rfl))) (sfS (chb2.safe lt_o S_o) sf0) chb2.1)).trans C7
  have old7 := old6.ext E7
  have kp7 := kp6.ext E7
  have hk7 := Nat.le_trans hk6 E7.1
  obtain ⟨ne_o_sa7, ne_o_sb7⟩ := ns7 _ (chb7.safe lt_o S_o)
  refine Go.fin st7 ?_
  show Go p e below _ (T7.setTop (mkF m 20 _ [(.ref sa7), (.ref o)]))
  refine gs.getF X7 hx hZ7 hown7 (wd hw 25 rfl) Via.refl e7 Fc7 (hb hby d3_20) fun T8 X8 e8 => ?_
  have f9 := (((HF_o_String_coder.ext E2).other W6 (Or.inr (sn0 hw))).ext E7)
  have f10 := ((f5.wr W6).ext E7)
  obtain ⟨T11, h11, X11, e11, W11, st11⟩ := putFN X8 hx hZ7 hown7 (wd hw 25 rfl) Via.refl e8 f9 f10 (Or.inr ⟨(wd hw 21 rfl), rfl, hnm⟩) (wd hw 5 rfl) (ty := .byte) (v' := (.int (0 : Int32))) (by decide) rfl (by decide) (g := (mkF m 23 #[.val (.ref o), .val (.ref q), .val (.int (0 : Int32)), .val (.int (0 : Int32)), .val .null, .unset] [(.int (0 : Int32)), (.ref o)])) rfl rfl (hb hby d3_23)
  have N11 := Fr.snoc X11 N6 nn_o
  have old11 := old7.wr W11 nn_o
  have kp11 := kp7.wr W11 (Or.inl (List.mem_of_getElem? (i := 0) rfl))
  have hk11 := Nat.le_trans hkk7 (Keep.of_wr W11).1
  have F11 := f9.same W11
  refine Go.fin st11 ?_
  show Go p e below _ (T11.setTop (mkF m 26 _ []))
  have f12 := (f10.wr W11)
  refine GoH.retV X11 S7 (by rw [e11]; exact hk11) hZ7 (hEL_ hw) hh e11 (chb7.trans (CHr.keep ((Keep.refl h7 [o]).wr W11 (Or.inl (List.mem_of_getElem? (i := 0) rfl))) (sfS (chb7.safe lt_o S_o) sf0) chb7.1)) hx Bd.returns Bd.notSynchronized (hb hby d3_26) (by rw [e11]; exact ⟨rfl, N11, kp11, f12⟩) (by decide) (by decide)
theorem d2_0 : decode c_2 0 = .ok (.aload_n 0, 1) := by decide +kernel
theorem d2_1 : decode c_2 1 = .ok (.aload_n 1, 1) := by decide +kernel
theorem d2_2 : decode c_2 2 = .ok (.iconst 0, 1) := by decide +kernel
theorem d2_3 : decode c_2 3 = .ok (.aload_n 1, 1) := by decide +kernel
theorem d2_4 : decode c_2 4 = .ok (.arraylength, 1) := by decide +kernel
theorem d2_5 : decode c_2 5 = .ok (.aconst_null, 1) := by decide +kernel
theorem d2_6 : decode c_2 6 = .ok (.invokespecial 27, 3) := by decide +kernel
theorem pd_0 : parseMethodDescriptor "([CIILjava/lang/Void;)V" = some ⟨[(.array .char), .int, .int, (.object "java/lang/Void")], none⟩ := by decide +kernel
theorem d2_9 : decode c_2 9 = .ok (.return_, 1) := by decide +kernel
theorem ef_rm_in0 (m : MethodId) (x0 : Addr) (x1 : Addr)  : entryFrame m #[(.ref x0), (.ref x1)] 2 = mkF m 0 #[.val (.ref x0), .val (.ref x1)] [] := by first | (simp [entryFrame, mkF, argsToLocals, Value.category]; done) | rfl
def Q_rm_in0 (Z : State) (cs_ : Int32) (a_TEXT : Addr) (o : Addr) (q : Addr) (kq : ClassId) (h0 : Heap) (n0 : Nat) (v : Option Value) (h : Heap) (L : List Loc) : Prop := v = none ∧ Fr n0 L ∧ Keep h0 h [o] ∧ (Exa Z h o "java/lang/String")
set_option maxRecDepth 65536 in
set_option maxHeartbeats 40000000 in
theorem rm_in0 (l : Launch) (Z : State) (a0 : Array Value) (hw : ∀ d ∈ tables_1, d.before a0 Z = true) (ws : List Jvm.Cond) (cs_ : Int32) (a_TEXT : Addr) (HW : Wd Z cs_ a_TEXT) (o : Addr) (q : Addr) (kq : ClassId) (h0 : Heap) (n0 : Nat) (Ol : Old Z n0 h0) (HE_o : Exa Z h0 o "java/lang/String") (HF_o_String_value : Fld Z h0 o "java/lang/String" "value" "[B" .null) (HF_o_String_coder : Fld Z h0 o "java/lang/String" "coder" "B" (.int (0 : Int32))) (HV_q : Arv Z h0 q kq .char (0 : Int32) [] (.int (0 : Int32))) (nn_o : n0 ≤ o) :
    MetFree l y_2 (head1 (Jvm.Cond.code y_2 jdk_42_method_3_code 2 none :: ws) (rm 2 4 8 29)) (fun a_ U_ => a_ = #[(.ref o), (.ref q)] ∧ Z.Warmed39 U_.vm ∧ U_.heap = h0 ∧ CHv Z EL_ U_.vm h0) (fun _ _ _ _ _ => True) (fun _ U_ o_ V_ => ∃ v_ L_, o_ = .returned v_ ∧ Q_rm_in0 Z cs_ a_TEXT o q kq h0 n0 v_ V_.heap L_ ∧ CHr Z EL_ U_.vm U_.heap V_.vm V_.heap ∧ ReturnedEndW U_ o_ V_ L_ (rm 2 4 8 29).cells (rm 2 4 8 29).slots) := by
  refine MetFree.of_bodySF (plainFor_of_name pn_0) hisR ?_
  intro p e s m args below meth c s₁ Bd hml0 hP hK
  obtain ⟨rfl, hZ, hh, Hc0⟩ := hP
  have hx := Bd.exec
  have hby := Bd.bytes
  have hml : c.maxLocals = 2 := hml0
  have hown : s.vm.findClass "java/lang/String" = some m.cls := findClass_of_methodNamed Bd.named
  have hnm := (name_of_methodNamed Bd.named Bd.method).1
  have X0 : Stand p l e (rm 2 4 8 29) s m #[(.ref o), (.ref q)] below meth c s₁ [] 0 0 := Stand.of_body Bd
  have e0 : s₁.heap = h0 := by rw [← hh, Bd.state]; rfl
  have N0 := Fr.nil n0
  have kp0 := Keep.refl h0 [o]
  show Go p e below (Fin3 Z EL_ s below (Q_rm_in0 Z cs_ a_TEXT o q kq h0 n0) (rm 2 4 8 29).cells (rm 2 4 8 29).slots) _
  have S0 : s.Since s.vm 0 := (State.WarmedH.refl s).since 0
  have hk0 : 0 ≤ h0.size := Nat.zero_le _
  refine Go.step (fun t_ k_ => castTop (ef_rm_in0 m o q) k_) ?_
  obtain ⟨S_cs, N_cs, Ea_TEXT, Sa_TEXT⟩ := id HW
  have S_o : Safe Z EL_ s.vm h0 o := safe_str hZ.alike HE_o HF_o_String_value
  have lt_o := HE_o.lt
  show Go p e below _ (s₁.setTop (mkF m 0 #[.val (.ref o), .val (.ref q)] []))
  refine gs.aloadN X0.here hx (hb hby d2_0) rfl rfl ?_
  refine gs.aloadN X0.here hx (hb hby d2_1) rfl rfl ?_
  refine gs.iconst 0 X0.here hx (hb hby d2_2) rfl ?_
  refine gs.aloadN X0.here hx (hb hby d2_3) rfl rfl ?_
  obtain ⟨cl1, Ar1, -, Sz1, Ng1, -, -⟩ := id HV_q
  refine Go.fin (fun t_ k_ => X0.arraylength hx (by rw [e0]; exact Ar1.1) (State.isArrayOf_alike hZ.alike Ar1.2.1) (g := mkF m 4 _ _) rfl rfl (hb hby d2_4) _ k_) ?_
  rw [len_of Sz1 Ng1]
  show Go p e below _ (s₁.setTop (mkF m 5 _ [(.int (0 : Int32)), (.int (0 : Int32)), (.ref q), (.ref o)]))
  refine gs.aconstNull X0.here hx (hb hby d2_5) ?_
  obtain ⟨_, _, ⟨T2, L2, k2, n2⟩, -, X2, S2, gr2, ⟨Lc2, hQ2, l2, y2, z2, C2⟩, st2⟩ := X0.specialBackS hx (y := y_3) rfl hown (mvT hZ (wd hw 11 rfl)) (mvT hZ (wd hw 12 rfl)) (mvT hZ (wd hw 14 rfl)) (by decide) (backOfSH (s := s) (vm0 := s.vm) (W := 0) (rm_si0 l Z a0 hw [] cs_ a_TEXT HW o q h0 n0 Ol HE_o HF_o_String_value HF_o_String_coder nn_o) hZ (wd hw 14 rfl) (wd hw 6 rfl) (by decide) (by decide) (hEL_ hw) (CHr.keep kp0 (sfS S_o sf0) Hc0).1) (g := (mkF m 6 #[.val (.ref o), .val (.ref q)] [.null, (.int (0 : Int32)), (.int (0 : Int32)), (.ref q), (.ref o)])) rfl (by rw [hml]; rfl) (Steps.refl _) (a := o) (argsL := [(.ref q), (.int (0 : Int32)), (.int (0 : Int32)), .null]) (rest := []) (lenOf pd_0 rfl) rfl (by show 2 * 0 + _ ≤ _; exact Nat.le_of_eq rfl) (hb hby d2_6) (fun _ _ => ⟨rfl, e0, (by decide : 0 + 4 ≤ _), (by decide : 0 + 8 ≤ _)⟩)
  dsimp only [Pt.U, Pt.locs, Pt.cells, Pt.slots] at X2 l2 y2 z2 st2 hQ2 S2 gr2 C2
  subst l2 y2 z2
  have chb2 := (CHr.keep kp0 (sfS S_o sf0) Hc0).trans C2
  obtain ⟨X2, S2, hZ2, hown2⟩ := rebS (vm0 := s.vm) S0 (by rw [e0]; exact hk0) X2 S2 gr2 hZ hown
  obtain ⟨rfl, Nq2, K2, p2_0⟩ := hQ2
  have old2 := Ol.keep K2 (allS nn_o all0)
  have kp2 := kp0.trans K2 (allS (Or.inl (List.mem_of_getElem? (i := 0) rfl)) all0)
  have N2 := Fr.app N0 Nq2
  refine Go.step (fun t_ k_ => st2.trans k_) ?_
  show Go p e below _ (T2.setTop (mkF m 9 #[.val (.ref o), .val (.ref q)] []))
  refine GoH.retV X2 S2 (by exact (Nat.le_refl _)) hZ2 (hEL_ hw) hh rfl chb2 hx Bd.returns Bd.notSynchronized (hb hby d2_9) (by exact ⟨rfl, N2, kp2, p2_0⟩) (by decide) (by decide)
theorem d1_0 : decode c_1 0 = .ok (.iload_n 0, 1) := by decide +kernel
theorem d1_1 : decode c_1 1 = .ok (.iconst 3, 1) := by decide +kernel
theorem d1_2 : decode c_1 2 = .ok (.iand, 1) := by decide +kernel
theorem d1_3 : decode c_1 3 = .ok (.istore_n 1, 1) := by decide +kernel
theorem d1_4 : decode c_1 4 = .ok (.iload_n 0, 1) := by decide +kernel
theorem d1_5 : decode c_1 5 = .ok (.iconst 2, 1) := by decide +kernel
theorem d1_6 : decode c_1 6 = .ok (.iushr, 1) := by decide +kernel
theorem d1_7 : decode c_1 7 = .ok (.sipush 255, 3) := by decide +kernel
theorem d1_10 : decode c_1 10 = .ok (.iand, 1) := by decide +kernel
theorem d1_11 : decode c_1 11 = .ok (.i2c, 1) := by decide +kernel
theorem d1_12 : decode c_1 12 = .ok (.istore_n 2, 1) := by decide +kernel
theorem d1_13 : decode c_1 13 = .ok (.iload_n 0, 1) := by decide +kernel
theorem d1_14 : decode c_1 14 = .ok (.bipush 10, 2) := by decide +kernel
theorem d1_16 : decode c_1 16 = .ok (.iushr, 1) := by decide +kernel
theorem d1_17 : decode c_1 17 = .ok (.sipush 255, 3) := by decide +kernel
theorem d1_20 : decode c_1 20 = .ok (.iand, 1) := by decide +kernel
theorem d1_21 : decode c_1 21 = .ok (.i2c, 1) := by decide +kernel
theorem d1_22 : decode c_1 22 = .ok (.istore_n 3, 1) := by decide +kernel
theorem d1_23 : decode c_1 23 = .ok (.iload_n 0, 1) := by decide +kernel
theorem d1_24 : decode c_1 24 = .ok (.bipush 18, 2) := by decide +kernel
theorem d1_26 : decode c_1 26 = .ok (.iushr, 1) := by decide +kernel
theorem d1_27 : decode c_1 27 = .ok (.sipush 255, 3) := by decide +kernel
theorem d1_30 : decode c_1 30 = .ok (.iand, 1) := by decide +kernel
theorem d1_31 : decode c_1 31 = .ok (.i2c, 1) := by decide +kernel
theorem d1_32 : decode c_1 32 = .ok (.istore 4, 2) := by decide +kernel
theorem d1_34 : decode c_1 34 = .ok (.iload_n 1, 1) := by decide +kernel
theorem d1_35 : decode c_1 35 = .ok (.ifCond .ne 14, 3) := by decide +kernel
theorem d1_38 : decode c_1 38 = .ok (.new 7, 3) := by decide +kernel
theorem d1_41 : decode c_1 41 = .ok (.dup, 1) := by decide +kernel
theorem d1_42 : decode c_1 42 = .ok (.iconst 0, 1) := by decide +kernel
theorem d1_43 : decode c_1 43 = .ok (.newarray .char, 2) := by decide +kernel
theorem d1_45 : decode c_1 45 = .ok (.invokespecial 9, 3) := by decide +kernel
theorem pd_1 : parseMethodDescriptor "([C)V" = some ⟨[(.array .char)], none⟩ := by decide +kernel
theorem d1_48 : decode c_1 48 = .ok (.areturn, 1) := by decide +kernel
theorem d1_49 : decode c_1 49 = .ok (.iload_n 1, 1) := by decide +kernel
theorem d1_50 : decode c_1 50 = .ok (.iconst 1, 1) := by decide +kernel
theorem d1_51 : decode c_1 51 = .ok (.if_icmp .ne 8, 3) := by decide +kernel
theorem d1_54 : decode c_1 54 = .ok (.iload_n 2, 1) := by decide +kernel
theorem d1_55 : decode c_1 55 = .ok (.invokestatic 12, 3) := by decide +kernel
theorem d8_0 : decode c_8 0 = .ok (.getstatic 38, 3) := by decide +kernel
theorem d8_3 : decode c_8 3 = .ok (.ifCond .eq 23, 3) := by decide +kernel
theorem d8_6 : decode c_8 6 = .ok (.iload_n 0, 1) := by decide +kernel
theorem d8_7 : decode c_8 7 = .ok (.invokestatic 1015, 3) := by decide +kernel
theorem d9_0 : decode c_9 0 = .ok (.iload_n 0, 1) := by decide +kernel
theorem d9_1 : decode c_9 1 = .ok (.sipush 255, 3) := by decide +kernel
theorem d9_4 : decode c_9 4 = .ok (.if_icmp .gt 7, 3) := by decide +kernel
theorem d9_7 : decode c_9 7 = .ok (.iconst 1, 1) := by decide +kernel
theorem d9_8 : decode c_9 8 = .ok (.goto 4, 3) := by decide +kernel
theorem d9_12 : decode c_9 12 = .ok (.ireturn, 1) := by decide +kernel
theorem pn_1 : plainName "java/lang/StringLatin1" = true := by first | (simp [plainName, overriddenIn]; done) | decide +kernel
theorem ef_am9_1 (m : MethodId) (x0 : Int32)  : entryFrame m #[(.int x0)] 1 = mkF m 0 #[.val (.int x0)] [] := by first | (simp [entryFrame, mkF, argsToLocals, Value.category]; done) | rfl
def Q_am9_1 (Z : State) (cs_ : Int32) (a_TEXT : Addr) (iv1 : Int32) (h0 : Heap) (n0 : Nat) (v : Option Value) (h : Heap) (L : List Loc) : Prop := v = some (.int (1 : Int32)) ∧ Fr n0 L ∧ h = h0
set_option maxRecDepth 65536 in
set_option maxHeartbeats 40000000 in
theorem am9_1 (l : Launch) (Z : State) (a0 : Array Value) (hw : ∀ d ∈ tables_1, d.before a0 Z = true) (ws : List Jvm.Cond) (cs_ : Int32) (a_TEXT : Addr) (HW : Wd Z cs_ a_TEXT) (iv1 : Int32) (h0 : Heap) (n0 : Nat) (Ol : Old Z n0 h0) (as0 : ¬ ((255 : Int32) < iv1)) :
    MetFree l y_9 (head1 (Jvm.Cond.code y_9 jdk_43_method_3_code 1 (some .boolean) :: ws) (rm 0 0 0 0)) (fun a_ U_ => a_ = #[(.int iv1)] ∧ Z.Warmed39 U_.vm ∧ U_.heap = h0) (fun _ _ _ _ _ => True) (fun _ U_ o_ V_ => ∃ v_ L_, o_ = .returned v_ ∧ Q_am9_1 Z cs_ a_TEXT iv1 h0 n0 v_ V_.heap L_ ∧ FrameEnd U_ o_ V_ L_ (rm 0 0 0 0).cells (rm 0 0 0 0).slots) := by
  refine MetFree.of_bodySF (plainFor_of_name pn_1) hisR ?_
  intro p e s m args below meth c s₁ Bd hml0 hP hK
  obtain ⟨rfl, hZ, hh⟩ := hP
  have hx := Bd.exec
  have hby := Bd.bytes
  have hml : c.maxLocals = 1 := hml0
  have hown : s.vm.findClass "java/lang/StringLatin1" = some m.cls := findClass_of_methodNamed Bd.named
  have hnm := (name_of_methodNamed Bd.named Bd.method).1
  have X0 : Stand p l e (rm 0 0 0 0) s m #[(.int iv1)] below meth c s₁ [] 0 0 := Stand.of_body Bd
  have e0 : s₁.heap = h0 := by rw [← hh, Bd.state]; rfl
  have N0 := Fr.nil n0
  have kp0 := Keep.refl h0 []
  show Go p e below (Fin1 s below (Q_am9_1 Z cs_ a_TEXT iv1 h0 n0) (rm 0 0 0 0).cells (rm 0 0 0 0).slots) _
  refine Go.step (fun t_ k_ => castTop (ef_am9_1 m iv1) k_) ?_
  obtain ⟨S_cs, N_cs, Ea_TEXT, Sa_TEXT⟩ := id HW
  show Go p e below _ (s₁.setTop (mkF m 0 #[.val (.int iv1)] []))
  refine gs.iloadN X0.here hx (hb hby d9_0) rfl ?_
  refine gs.sipush 255 X0.here hx (hb hby d9_1) rfl ?_
  have hc4 : ¬ ((255 : Int32) < iv1) := as0
  refine gs.icmpNo X0.here hx (hb hby d9_4) (flt hc4).2.2.1 ?_
  refine gs.iconst 1 X0.here hx (hb hby d9_7) rfl ?_
  refine gs.goto 12 X0.here hx (hb hby d9_8) rfl ?_
  refine Go.retZ X0 hx (t := .boolean) Bd.returns (by simp) Bd.notSynchronized (hb hby d9_12) (by rw [e0]; exact ⟨rfl, N0, rfl⟩) (by decide) (by decide)
theorem pd_2 : parseMethodDescriptor "(C)Z" = some ⟨[.char], some .boolean⟩ := by decide +kernel
theorem d8_10 : decode c_8 10 = .ok (.ifCond .eq 16, 3) := by decide +kernel
theorem d8_13 : decode c_8 13 = .ok (.new 10, 3) := by decide +kernel
theorem d8_16 : decode c_8 16 = .ok (.dup, 1) := by decide +kernel
theorem d8_17 : decode c_8 17 = .ok (.iload_n 0, 1) := by decide +kernel
theorem d8_18 : decode c_8 18 = .ok (.invokestatic 1018, 3) := by decide +kernel
theorem d10_0 : decode c_10 0 = .ok (.iconst 1, 1) := by decide +kernel
theorem d10_1 : decode c_10 1 = .ok (.newarray .byte, 2) := by decide +kernel
theorem d10_3 : decode c_10 3 = .ok (.dup, 1) := by decide +kernel
theorem d10_4 : decode c_10 4 = .ok (.iconst 0, 1) := by decide +kernel
theorem d10_5 : decode c_10 5 = .ok (.iload_n 0, 1) := by decide +kernel
theorem d10_6 : decode c_10 6 = .ok (.i2b, 1) := by decide +kernel
theorem d10_7 : decode c_10 7 = .ok (.bastore, 1) := by decide +kernel
theorem d10_8 : decode c_10 8 = .ok (.areturn, 1) := by decide +kernel
theorem ef_am10_1 (m : MethodId) (x0 : Int32)  : entryFrame m #[(.int x0)] 1 = mkF m 0 #[.val (.int x0)] [] := by first | (simp [entryFrame, mkF, argsToLocals, Value.category]; done) | rfl
def Q_am10_1 (Z : State) (cs_ : Int32) (a_TEXT : Addr) (iv1 : Int32) (h0 : Heap) (n0 : Nat) (v : Option Value) (h : Heap) (L : List Loc) : Prop := ∃ fr1 : Addr, ∃ kx1 : ClassId, v = some (.ref fr1) ∧ h0.size ≤ fr1 ∧ Fr n0 L ∧ Keep h0 h [] ∧ (Arv Z h fr1 kx1 .byte (1 : Int32) [(.int ((iv1.toInt8.toInt32).toInt8.toInt32))] (.int (0 : Int32)))
set_option maxRecDepth 65536 in
set_option maxHeartbeats 40000000 in
theorem am10_1 (l : Launch) (Z : State) (a0 : Array Value) (hw : ∀ d ∈ tables_1, d.before a0 Z = true) (ws : List Jvm.Cond) (cs_ : Int32) (a_TEXT : Addr) (HW : Wd Z cs_ a_TEXT) (iv1 : Int32) (h0 : Heap) (n0 : Nat) (Ol : Old Z n0 h0)  :
    MetFree l y_10 (head1 (Jvm.Cond.code y_10 jdk_43_method_46_code 1 (some (.array .byte)) :: ws) (rm 0 1 1 0)) (fun a_ U_ => a_ = #[(.int iv1)] ∧ Z.Warmed39 U_.vm ∧ U_.heap = h0) (fun _ _ _ _ _ => True) (fun _ U_ o_ V_ => ∃ v_ L_, o_ = .returned v_ ∧ Q_am10_1 Z cs_ a_TEXT iv1 h0 n0 v_ V_.heap L_ ∧ FrameEnd U_ o_ V_ L_ (rm 0 1 1 0).cells (rm 0 1 1 0).slots) := by
  refine MetFree.of_bodySF (plainFor_of_name pn_1) hisR ?_
  intro p e s m args below meth c s₁ Bd hml0 hP hK
  obtain ⟨rfl, hZ, hh⟩ := hP
  have hx := Bd.exec
  have hby := Bd.bytes
  have hml : c.maxLocals = 1 := hml0
  have hown : s.vm.findClass "java/lang/StringLatin1" = some m.cls := findClass_of_methodNamed Bd.named
  have hnm := (name_of_methodNamed Bd.named Bd.method).1
  have X0 : Stand p l e (rm 0 1 1 0) s m #[(.int iv1)] below meth c s₁ [] 0 0 := Stand.of_body Bd
  have e0 : s₁.heap = h0 := by rw [← hh, Bd.state]; rfl
  have N0 := Fr.nil n0
  have kp0 := Keep.refl h0 []
  show Go p e below (Fin1 s below (Q_am10_1 Z cs_ a_TEXT iv1 h0 n0) (rm 0 1 1 0).cells (rm 0 1 1 0).slots) _
  refine Go.step (fun t_ k_ => castTop (ef_am10_1 m iv1) k_) ?_
  obtain ⟨S_cs, N_cs, Ea_TEXT, Sa_TEXT⟩ := id HW
  show Go p e below _ (s₁.setTop (mkF m 0 #[.val (.int iv1)] []))
  refine gs.iconst 1 X0.here hx (hb hby d10_0) rfl ?_
  obtain ⟨T1, h1, k1, X1, e1, E1, A1, st1⟩ := newP X0 hx hZ (wd hw 19 rfl) e0 (g := (mkF m 1 #[.val (.int iv1)] [(.int (1 : Int32))])) rfl (hb hby d10_1) rfl (by decide) (cap := 1) (by decide) (by decide) (by decide) (by decide)
  obtain ⟨b1, g1⟩ : ∃ z, z = h0.size := ⟨_, rfl⟩
  rw [← g1] at A1 st1
  have nn_b1 : n0 ≤ b1 := Nat.le_trans (old_z0 Ol) (Nat.le_of_eq g1.symm)
  have sz_b1 : h0.size ≤ b1 := Nat.le_trans kp0.1 (Nat.le_of_eq g1.symm)
  have old1 := Ol.ext E1
  have kp1 := kp0.ext E1
  have V1 : Arv Z h1 b1 k1 .byte (1 : Int32) [(.int (0 : Int32))] (.int (0 : Int32)) := (Arv.new A1 (by decide)).pad (pad_rep [] (.int (0 : Int32)) 1)
  refine Go.fin st1 ?_
  show Go p e below _ (T1.setTop (mkF m 3 _ [(.ref b1)]))
  refine gs.dup X1.here hx (hb hby d10_3) rfl ?_
  refine gs.iconst 0 X1.here hx (hb hby d10_4) rfl ?_
  refine gs.iloadN X1.here hx (hb hby d10_5) rfl ?_
  refine Go.fin (fun t_ k_ => XS.i2b X1.here hx rfl (hb hby d10_6) rfl k_) ?_
  show Go p e below _ (T1.setTop (mkF m 7 _ [(.int (iv1.toInt8.toInt32)), (.int (0 : Int32)), (.ref b1), (.ref b1)]))
  obtain ⟨cl2, Ar2, q2, Sz2, Ng2, Hs2, G2⟩ := id V1
  have hin2 : ¬ ((0 : Int32) < 0 ∨ cl2.slots.size ≤ ((0 : Int32)).toNatClampNeg) := inb_of Sz2 ⟨by decide, by decide⟩
  obtain ⟨T3, h3, X3, e3, W3, st3⟩ := stB X1 hx hZ e1 Ar2 (j := (0 : Int32)) hin2 (g := (mkF m 7 #[.val (.int iv1)] [(.int (iv1.toInt8.toInt32)), (.int (0 : Int32)), (.ref b1), (.ref b1)])) rfl rfl (hb hby d10_7)
  have N3 := Fr.snoc X3 N0 nn_b1
  have old3 := old1.wr W3 nn_b1
  have kp3 := kp1.wr W3 (Or.inr sz_b1)
  have V3 : Arv Z h3 b1 k1 .byte (1 : Int32) [(.int ((iv1.toInt8.toInt32).toInt8.toInt32))] (.int (0 : Int32)) := Arv.set Ar2 q2 Sz2 Ng2 Hs2 G2 (fits_nar_byte _) W3 0 rfl (Nat.le_of_ble_eq_true rfl)
  refine Go.fin st3 ?_
  show Go p e below _ (T3.setTop (mkF m 8 _ [(.ref b1)]))
  refine Go.retR X3 hx Bd.returns rfl rfl Bd.notSynchronized (hb hby d10_8) (by rw [e3]; exact ⟨b1, k1, rfl, sz_b1, N3, kp3, V3⟩) (by decide) (by decide)
theorem pd_3 : parseMethodDescriptor "(C)[B" = some ⟨[.char], some (.array .byte)⟩ := by decide +kernel
theorem d8_21 : decode c_8 21 = .ok (.iconst 0, 1) := by decide +kernel
theorem d8_22 : decode c_8 22 = .ok (.invokespecial 209, 3) := by decide +kernel
theorem d11_0 : decode c_11 0 = .ok (.aload_n 0, 1) := by decide +kernel
theorem d11_1 : decode c_11 1 = .ok (.invokespecial 1, 3) := by decide +kernel
theorem d11_4 : decode c_11 4 = .ok (.aload_n 0, 1) := by decide +kernel
theorem d11_5 : decode c_11 5 = .ok (.aload_n 1, 1) := by decide +kernel
theorem d11_6 : decode c_11 6 = .ok (.putfield 9, 3) := by decide +kernel
theorem d11_9 : decode c_11 9 = .ok (.aload_n 0, 1) := by decide +kernel
theorem d11_10 : decode c_11 10 = .ok (.iload_n 2, 1) := by decide +kernel
theorem d11_11 : decode c_11 11 = .ok (.putfield 15, 3) := by decide +kernel
theorem d11_14 : decode c_11 14 = .ok (.return_, 1) := by decide +kernel
theorem sn1 {a0 : Array Value} {Z : State} (hw : ∀ d ∈ tables_1, d.before a0 Z = true) : SN Z "java/lang/String" "value" "[B" "java/lang/String" "coder" "B" := slot_ne (Or.inr (wd hw 20 rfl)) (Or.inr (wd hw 21 rfl)) (by decide) (t := (.array .byte)) (t' := .byte) (by decide) (by decide)
theorem ef_am11_1 (m : MethodId) (x0 : Addr) (x1 : Addr) (x2 : Int32)  : entryFrame m #[(.ref x0), (.ref x1), (.int x2)] 3 = mkF m 0 #[.val (.ref x0), .val (.ref x1), .val (.int x2)] [] := by first | (simp [entryFrame, mkF, argsToLocals, Value.category]; done) | rfl
def Q_am11_1 (Z : State) (cs_ : Int32) (a_TEXT : Addr) (ad1 : Addr) (ad2 : Addr) (h0 : Heap) (n0 : Nat) (v : Option Value) (h : Heap) (L : List Loc) : Prop := v = none ∧ Fr n0 L ∧ Keep h0 h [ad1] ∧ (Exa Z h ad1 "java/lang/String") ∧ (Fld Z h ad1 "java/lang/String" "coder" "B" (.int (0 : Int32))) ∧ (Fld Z h ad1 "java/lang/String" "value" "[B" (.ref ad2))
set_option maxRecDepth 65536 in
set_option maxHeartbeats 40000000 in
theorem am11_1 (l : Launch) (Z : State) (a0 : Array Value) (hw : ∀ d ∈ tables_1, d.before a0 Z = true) (ws : List Jvm.Cond) (cs_ : Int32) (a_TEXT : Addr) (HW : Wd Z cs_ a_TEXT) (ad1 : Addr) (ad2 : Addr) (h0 : Heap) (n0 : Nat) (Ol : Old Z n0 h0) (HE_ad1 : Exa Z h0 ad1 "java/lang/String") (HF_ad1_String_value : Fld Z h0 ad1 "java/lang/String" "value" "[B" .null) (HF_ad1_String_coder : Fld Z h0 ad1 "java/lang/String" "coder" "B" (.int (0 : Int32))) (nn_ad1 : n0 ≤ ad1) :
    MetFree l y_11 (head1 (Jvm.Cond.code y_11 jdk_42_method_151_code 3 none :: ws) (rm 1 0 0 12)) (fun a_ U_ => a_ = #[(.ref ad1), (.ref ad2), (.int (0 : Int32))] ∧ Z.Warmed39 U_.vm ∧ U_.heap = h0) (fun _ _ _ _ _ => True) (fun _ U_ o_ V_ => ∃ v_ L_, o_ = .returned v_ ∧ Q_am11_1 Z cs_ a_TEXT ad1 ad2 h0 n0 v_ V_.heap L_ ∧ FrameEnd U_ o_ V_ L_ (rm 1 0 0 12).cells (rm 1 0 0 12).slots) := by
  refine MetFree.of_bodySF (plainFor_of_name pn_0) hisR ?_
  intro p e s m args below meth c s₁ Bd hml0 hP hK
  obtain ⟨rfl, hZ, hh⟩ := hP
  have hx := Bd.exec
  have hby := Bd.bytes
  have hml : c.maxLocals = 3 := hml0
  have hown : s.vm.findClass "java/lang/String" = some m.cls := findClass_of_methodNamed Bd.named
  have hnm := (name_of_methodNamed Bd.named Bd.method).1
  have X0 : Stand p l e (rm 1 0 0 12) s m #[(.ref ad1), (.ref ad2), (.int (0 : Int32))] below meth c s₁ [] 0 0 := Stand.of_body Bd
  have e0 : s₁.heap = h0 := by rw [← hh, Bd.state]; rfl
  have N0 := Fr.nil n0
  have kp0 := Keep.refl h0 [ad1]
  show Go p e below (Fin1 s below (Q_am11_1 Z cs_ a_TEXT ad1 ad2 h0 n0) (rm 1 0 0 12).cells (rm 1 0 0 12).slots) _
  refine Go.step (fun t_ k_ => castTop (ef_am11_1 m ad1 ad2 (0 : Int32)) k_) ?_
  obtain ⟨S_cs, N_cs, Ea_TEXT, Sa_TEXT⟩ := id HW
  show Go p e below _ (s₁.setTop (mkF m 0 #[.val (.ref ad1), .val (.ref ad2), .val (.int (0 : Int32))] []))
  refine gs.aloadN X0.here hx (hb hby d11_0) rfl rfl ?_
  obtain ⟨T1, X1, e1, st1⟩ := initO X0 hx hZ hown (wd hw 15 rfl) (wd hw 16 rfl) (wd hw 17 rfl) e0 (g := (mkF m 1 #[.val (.ref ad1), .val (.ref ad2), .val (.int (0 : Int32))] [(.ref ad1)])) rfl (by rw [hml]; rfl) rfl (hb hby d11_1) (by decide) (W := 0) (by show 2 * 0 + _ ≤ _; exact Nat.le_of_eq rfl) (by decide)
  refine Go.step st1 ?_
  show Go p e below _ (T1.setTop (mkF m 4 #[.val (.ref ad1), .val (.ref ad2), .val (.int (0 : Int32))] []))
  refine gs.aloadN X1.here hx (hb hby d11_4) rfl rfl ?_
  refine gs.aloadN X1.here hx (hb hby d11_5) rfl rfl ?_
  obtain ⟨T2, h2, X2, e2, W2, st2⟩ := putF X1 hx hZ hown (host := "") (Or.inl (wd hw 24 rfl)) Via.refl e1 HF_ad1_String_value HE_ad1 (Or.inr ⟨(wd hw 20 rfl), rfl, hnm⟩) (wd hw 5 rfl) (ty := (.array .byte)) (by decide) rfl rfl (g := (mkF m 6 #[.val (.ref ad1), .val (.ref ad2), .val (.int (0 : Int32))] [(.ref ad2), (.ref ad1)])) rfl rfl (hb hby d11_6)
  have N2 := Fr.snoc X2 N0 nn_ad1
  have old2 := Ol.wr W2 nn_ad1
  have kp2 := kp0.wr W2 (Or.inl (List.mem_of_getElem? (i := 0) rfl))
  have F2 := HF_ad1_String_value.same W2
  refine Go.fin st2 ?_
  show Go p e below _ (T2.setTop (mkF m 9 _ []))
  refine gs.aloadN X2.here hx (hb hby d11_9) rfl rfl ?_
  refine gs.iloadN X2.here hx (hb hby d11_10) rfl ?_
  have f3 := (HF_ad1_String_coder.other W2 (Or.inr (sn0 hw)))
  have f4 := (HE_ad1.wr W2)
  obtain ⟨T5, h5, X5, e5, W5, st5⟩ := putFN X2 hx hZ hown (wd hw 25 rfl) Via.refl e2 f3 f4 (Or.inr ⟨(wd hw 21 rfl), rfl, hnm⟩) (wd hw 5 rfl) (ty := .byte) (v' := (.int (0 : Int32))) (by decide) rfl (by decide) (g := (mkF m 11 #[.val (.ref ad1), .val (.ref ad2), .val (.int (0 : Int32))] [(.int (0 : Int32)), (.ref ad1)])) rfl rfl (hb hby d11_11)
  have N5 := Fr.snoc X5 N2 nn_ad1
  have old5 := old2.wr W5 nn_ad1
  have kp5 := kp2.wr W5 (Or.inl (List.mem_of_getElem? (i := 0) rfl))
  have F5 := f3.same W5
  refine Go.fin st5 ?_
  show Go p e below _ (T5.setTop (mkF m 14 _ []))
  have f6 := (f4.wr W5)
  have f7 := (F2.other W5 (Or.inr (sn1 hw)))
  refine Go.retV X5 hx Bd.returns Bd.notSynchronized (hb hby d11_14) (by rw [e5]; exact ⟨rfl, N5, kp5, f6, F5, f7⟩) (by decide) (by decide)
theorem pd_4 : parseMethodDescriptor "([BB)V" = some ⟨[(.array .byte), .byte], none⟩ := by decide +kernel
theorem d8_25 : decode c_8 25 = .ok (.areturn, 1) := by decide +kernel
theorem ef_am8_1 (m : MethodId) (x0 : Int32)  : entryFrame m #[(.int x0)] 1 = mkF m 0 #[.val (.int x0)] [] := by first | (simp [entryFrame, mkF, argsToLocals, Value.category]; done) | rfl
def Q_am8_1 (Z : State) (cs_ : Int32) (a_TEXT : Addr) (iv1 : Int32) (h0 : Heap) (n0 : Nat) (v : Option Value) (h : Heap) (L : List Loc) : Prop := ∃ fr1 : Addr, ∃ fr2 : Addr, ∃ kx1 : ClassId, v = some (.ref fr1) ∧ h0.size ≤ fr1 ∧ h0.size ≤ fr2 ∧ fr1 ≠ fr2 ∧ Fr n0 L ∧ Keep h0 h [] ∧ (Exa Z h fr1 "java/lang/String") ∧ (Fld Z h fr1 "java/lang/String" "coder" "B" (.int (0 : Int32))) ∧ (Fld Z h fr1 "java/lang/String" "value" "[B" (.ref fr2)) ∧ (Arv Z h fr2 kx1 .byte (1 : Int32) [(.int ((iv1.toInt8.toInt32).toInt8.toInt32))] (.int (0 : Int32)))
set_option maxRecDepth 65536 in
set_option maxHeartbeats 40000000 in
theorem am8_1 (l : Launch) (Z : State) (a0 : Array Value) (hw : ∀ d ∈ tables_1, d.before a0 Z = true) (ws : List Jvm.Cond) (cs_ : Int32) (a_TEXT : Addr) (HW : Wd Z cs_ a_TEXT) (iv1 : Int32) (h0 : Heap) (n0 : Nat) (Ol : Old Z n0 h0) (as0 : ¬ ((255 : Int32) < iv1)) :
    MetFree l y_8 (head1 (Jvm.Cond.code y_8 jdk_42_method_139_code 1 (some (.object "java/lang/String")) :: ws) (rm 2 2 5 27)) (fun a_ U_ => a_ = #[(.int iv1)] ∧ Z.Warmed39 U_.vm ∧ U_.heap = h0) (fun _ _ _ _ _ => True) (fun _ U_ o_ V_ => ∃ v_ L_, o_ = .returned v_ ∧ Q_am8_1 Z cs_ a_TEXT iv1 h0 n0 v_ V_.heap L_ ∧ FrameEnd U_ o_ V_ L_ (rm 2 2 5 27).cells (rm 2 2 5 27).slots) := by
  refine MetFree.of_bodySF (plainFor_of_name pn_0) hisR ?_
  intro p e s m args below meth c s₁ Bd hml0 hP hK
  obtain ⟨rfl, hZ, hh⟩ := hP
  have hx := Bd.exec
  have hby := Bd.bytes
  have hml : c.maxLocals = 1 := hml0
  have hown : s.vm.findClass "java/lang/String" = some m.cls := findClass_of_methodNamed Bd.named
  have hnm := (name_of_methodNamed Bd.named Bd.method).1
  have X0 : Stand p l e (rm 2 2 5 27) s m #[(.int iv1)] below meth c s₁ [] 0 0 := Stand.of_body Bd
  have e0 : s₁.heap = h0 := by rw [← hh, Bd.state]; rfl
  have N0 := Fr.nil n0
  have kp0 := Keep.refl h0 []
  show Go p e below (Fin1 s below (Q_am8_1 Z cs_ a_TEXT iv1 h0 n0) (rm 2 2 5 27).cells (rm 2 2 5 27).slots) _
  refine Go.step (fun t_ k_ => castTop (ef_am8_1 m iv1) k_) ?_
  obtain ⟨S_cs, N_cs, Ea_TEXT, Sa_TEXT⟩ := id HW
  show Go p e below _ (s₁.setTop (mkF m 0 #[.val (.int iv1)] []))
  obtain ⟨T1, X1, e1, st1⟩ := getS2 X0 hx hZ hown (host := "") (Or.inl (wd hw 26 rfl)) Via.refl e0 (S_cs.ext Ol.2) (g := (mkF m 0 #[.val (.int iv1)] [])) rfl (hb hby d8_0)
  refine Go.fin st1 ?_
  show Go p e below _ (T1.setTop (mkF m 3 _ [(.int cs_)]))
  have hc3 : ¬ (cs_ = (0 : Int32)) := N_cs
  refine gs.ifNo X1.here hx (hb hby d8_3) ((if0 _ _).trans (feq hc3).1) ?_
  refine gs.iloadN X1.here hx (hb hby d8_6) rfl ?_
  refine gs.stat 0 X1 hx hZ hown (am9_1 l Z a0 hw [] cs_ a_TEXT HW (iv1) h0 n0 Ol as0) (wd hw 43 rfl) (wd hw 42 rfl) (wd hw 40 rfl) (wd hw 41 rfl) (by decide) (by decide) (by decide) (by rw [hml]; rfl) [(.int iv1)] (lenOf pd_2 rfl) rfl (Nat.le_of_eq rfl) (hb hby d8_7) rfl e1 (by decide) (by decide) fun T2 Lc2 v2 X2 hQ2 => ?_
  obtain ⟨rfl, Nq2, e2⟩ := hQ2
  have N2 := Fr.app N0 Nq2
  show Go p e below _ (T2.setTop (mkF m 10 _ [(.int (1 : Int32))]))
  have hc10 : ¬ ((1 : Int32) = (0 : Int32)) := by decide
  refine gs.ifNo X2.here hx (hb hby d8_10) ((if0 _ _).trans (feq hc10).1) ?_
  obtain ⟨T3, h3, X3, e3, E3, A3, D3, Y3, st3⟩ := newO X2 hx hZ hown (wd hw 44 rfl) (wd hw 5 rfl) (wd hw 6 rfl) e2 (g := (mkF m 13 #[.val (.int iv1)] [])) rfl (hb hby d8_13) (by decide) (by decide)
  obtain ⟨b3, g3⟩ : ∃ z, z = h0.size := ⟨_, rfl⟩
  rw [← g3] at A3 D3 Y3 st3
  have nn_b3 : n0 ≤ b3 := Nat.le_trans (old_z0 Ol) (Nat.le_of_eq g3.symm)
  have sz_b3 : h0.size ≤ b3 := Nat.le_trans kp0.1 (Nat.le_of_eq g3.symm)
  have old3 := Ol.ext E3
  have kp3 := kp0.ext E3
  have F3_value : Fld Z h3 b3 "java/lang/String" "value" "[B" .null := D3 (Or.inr (wd hw 20 rfl)) (ty := (.array .byte)) (by decide)
  have F3_coder : Fld Z h3 b3 "java/lang/String" "coder" "B" (.int (0 : Int32)) := D3 (Or.inr (wd hw 21 rfl)) (ty := .byte) (by decide)
  refine Go.fin st3 ?_
  show Go p e below _ (T3.setTop (mkF m 16 _ [(.ref b3)]))
  refine gs.dup X3.here hx (hb hby d8_16) rfl ?_
  refine gs.iloadN X3.here hx (hb hby d8_17) rfl ?_
  refine gs.stat 2 X3 hx hZ hown (am10_1 l Z a0 hw [] cs_ a_TEXT HW (iv1) h3 n0 old3 ) (wd hw 47 rfl) (wd hw 42 rfl) (wd hw 45 rfl) (wd hw 46 rfl) (by decide) (by decide) (by decide) (by rw [hml]; rfl) [(.int iv1)] (lenOf pd_3 rfl) rfl (Nat.le_of_eq rfl) (hb hby d8_18) rfl e3 (by decide) (by decide) fun T4 Lc4 v4 X4 hQ4 => ?_
  obtain ⟨b4_0, kx4_0, rfl, gb_b4_0, Nq4, K4, p4_0⟩ := hQ4
  have nn_b4_0 : n0 ≤ b4_0 := Nat.le_trans (old_z0 old3) gb_b4_0
  have sz_b4_0 : h0.size ≤ b4_0 := Nat.le_trans kp3.1 gb_b4_0
  have old4 := old3.keep K4 all0
  have kp4 := kp3.trans K4 all0
  have N4 := Fr.app N2 Nq4
  show Go p e below _ (T4.setTop (mkF m 21 _ [(.ref b4_0), (.ref b3), (.ref b3)]))
  refine gs.iconst 0 X4.here hx (hb hby d8_21) rfl ?_
  have f5 := (A3.keep K4)
  have f6 := (F3_value.keep K4 nin0)
  have f7 := (F3_coder.keep K4 nin0)
  refine gs.init 1 X4 hx hZ hown (am11_1 l Z a0 hw [] cs_ a_TEXT HW (b3) (b4_0) T4.heap n0 old4 f5 f6 f7 nn_b3) (wd hw 50 rfl) (wd hw 6 rfl) (wd hw 48 rfl) rfl (wd hw 49 rfl) (by decide) (by decide) (by decide) (by rw [hml]; rfl) [(.ref b4_0), (.int (0 : Int32))] (lenOf pd_4 rfl) rfl (Nat.le_of_eq rfl) (hb hby d8_22) rfl rfl (by decide) (by decide) fun T8 Lc8 v8 X8 hQ8 => ?_
  obtain ⟨rfl, Nq8, K8, p8_0, p8_1, p8_2⟩ := hQ8
  have old8 := old4.keep K8 (allS nn_b3 all0)
  have kp8 := kp4.trans K8 (allS (Or.inr sz_b3) all0)
  have N8 := Fr.app N4 Nq8
  show Go p e below _ (T8.setTop (mkF m 25 _ [(.ref b3)]))
  have ne_b3_b4_0 : b3 ≠ b4_0 := Nat.ne_of_lt (Nat.lt_of_lt_of_le A3.lt gb_b4_0)
  have f9 := (p4_0.keep K8 (ninS (Ne.symm ne_b3_b4_0) nin0))
  refine Go.retR X8 hx Bd.returns rfl rfl Bd.notSynchronized (hb hby d8_25) (by exact ⟨b3, b4_0, kx4_0, rfl, sz_b3, sz_b4_0, ne_b3_b4_0, N8, kp8, p8_0, p8_1, p8_2, f9⟩) (by decide) (by decide)
theorem pd_5 : parseMethodDescriptor "(C)Ljava/lang/String;" = some ⟨[.char], some (.object "java/lang/String")⟩ := by decide +kernel
theorem d1_58 : decode c_1 58 = .ok (.areturn, 1) := by decide +kernel
theorem d1_59 : decode c_1 59 = .ok (.iload_n 1, 1) := by decide +kernel
theorem d1_60 : decode c_1 60 = .ok (.iconst 2, 1) := by decide +kernel
theorem d1_61 : decode c_1 61 = .ok (.if_icmp .ne 22, 3) := by decide +kernel
theorem d1_64 : decode c_1 64 = .ok (.new 7, 3) := by decide +kernel
theorem d1_67 : decode c_1 67 = .ok (.dup, 1) := by decide +kernel
theorem d1_68 : decode c_1 68 = .ok (.iconst 2, 1) := by decide +kernel
theorem d1_69 : decode c_1 69 = .ok (.newarray .char, 2) := by decide +kernel
theorem d1_71 : decode c_1 71 = .ok (.dup, 1) := by decide +kernel
theorem d1_72 : decode c_1 72 = .ok (.iconst 0, 1) := by decide +kernel
theorem d1_73 : decode c_1 73 = .ok (.iload_n 2, 1) := by decide +kernel
theorem d1_74 : decode c_1 74 = .ok (.castore, 1) := by decide +kernel
theorem d1_75 : decode c_1 75 = .ok (.dup, 1) := by decide +kernel
theorem d1_76 : decode c_1 76 = .ok (.iconst 1, 1) := by decide +kernel
theorem d1_77 : decode c_1 77 = .ok (.iload_n 3, 1) := by decide +kernel
theorem d1_78 : decode c_1 78 = .ok (.castore, 1) := by decide +kernel
theorem d1_79 : decode c_1 79 = .ok (.invokespecial 9, 3) := by decide +kernel
theorem d3_27 : decode c_3 27 = .ok (.getstatic 38, 3) := by decide +kernel
theorem d3_30 : decode c_3 30 = .ok (.ifCond .eq 28, 3) := by decide +kernel
theorem d3_33 : decode c_3 33 = .ok (.aload_n 1, 1) := by decide +kernel
theorem d3_34 : decode c_3 34 = .ok (.iload_n 2, 1) := by decide +kernel
theorem d3_35 : decode c_3 35 = .ok (.iload_n 3, 1) := by decide +kernel
theorem d3_36 : decode c_3 36 = .ok (.invokestatic 177, 3) := by decide +kernel
theorem d5_0 : decode c_5 0 = .ok (.iload_n 2, 1) := by decide +kernel
theorem d5_1 : decode c_5 1 = .ok (.newarray .byte, 2) := by decide +kernel
theorem d5_3 : decode c_5 3 = .ok (.astore_n 3, 1) := by decide +kernel
theorem d5_4 : decode c_5 4 = .ok (.aload_n 0, 1) := by decide +kernel
theorem d5_5 : decode c_5 5 = .ok (.iload_n 1, 1) := by decide +kernel
theorem d5_6 : decode c_5 6 = .ok (.aload_n 3, 1) := by decide +kernel
theorem d5_7 : decode c_5 7 = .ok (.iconst 0, 1) := by decide +kernel
theorem d5_8 : decode c_5 8 = .ok (.iload_n 2, 1) := by decide +kernel
theorem d5_9 : decode c_5 9 = .ok (.invokestatic 115, 3) := by decide +kernel
theorem d6_0 : decode c_6 0 = .ok (.iconst 0, 1) := by decide +kernel
theorem d6_1 : decode c_6 1 = .ok (.istore 5, 2) := by decide +kernel
theorem d6_3 : decode c_6 3 = .ok (.iload 5, 2) := by decide +kernel
theorem d6_5 : decode c_6 5 = .ok (.iload 4, 2) := by decide +kernel
theorem d6_7 : decode c_6 7 = .ok (.if_icmp .ge 37, 3) := by decide +kernel
theorem d6_10 : decode c_6 10 = .ok (.aload_n 0, 1) := by decide +kernel
theorem d6_11 : decode c_6 11 = .ok (.iload_n 1, 1) := by decide +kernel
theorem d6_12 : decode c_6 12 = .ok (.caload, 1) := by decide +kernel
theorem d6_13 : decode c_6 13 = .ok (.istore 6, 2) := by decide +kernel
theorem d6_15 : decode c_6 15 = .ok (.iload 6, 2) := by decide +kernel
theorem d6_17 : decode c_6 17 = .ok (.sipush 255, 3) := by decide +kernel
theorem d6_20 : decode c_6 20 = .ok (.if_icmp .le 6, 3) := by decide +kernel
theorem d6_26 : decode c_6 26 = .ok (.aload_n 2, 1) := by decide +kernel
theorem d6_27 : decode c_6 27 = .ok (.iload_n 3, 1) := by decide +kernel
theorem d6_28 : decode c_6 28 = .ok (.iload 6, 2) := by decide +kernel
theorem d6_30 : decode c_6 30 = .ok (.i2b, 1) := by decide +kernel
theorem d6_31 : decode c_6 31 = .ok (.bastore, 1) := by decide +kernel
theorem d6_32 : decode c_6 32 = .ok (.iinc 1 1, 3) := by decide +kernel
theorem d6_35 : decode c_6 35 = .ok (.iinc 3 1, 3) := by decide +kernel
theorem d6_38 : decode c_6 38 = .ok (.iinc 5 1, 3) := by decide +kernel
theorem d6_41 : decode c_6 41 = .ok (.goto (-38), 3) := by decide +kernel
theorem d6_44 : decode c_6 44 = .ok (.iload 4, 2) := by decide +kernel
theorem d6_46 : decode c_6 46 = .ok (.ireturn, 1) := by decide +kernel
theorem pn_2 : plainName "java/lang/StringUTF16" = true := by first | (simp [plainName, overriddenIn]; done) | decide +kernel
theorem ef_am6_1 (m : MethodId) (x0 : Addr) (x1 : Int32) (x2 : Addr) (x3 : Int32) (x4 : Int32)  : entryFrame m #[(.ref x0), (.int x1), (.ref x2), (.int x3), (.int x4)] 7 = mkF m 0 #[.val (.ref x0), .val (.int x1), .val (.ref x2), .val (.int x3), .val (.int x4), .unset, .unset] [] := by first | (simp [entryFrame, mkF, argsToLocals, Value.category]; done) | rfl
def Q_am6_1 (Z : State) (cs_ : Int32) (a_TEXT : Addr) (ad1 : Addr) (ad2 : Addr) (kc1 : ClassId) (iv1 : Int32) (iv2 : Int32) (kc2 : ClassId) (h0 : Heap) (n0 : Nat) (v : Option Value) (h : Heap) (L : List Loc) : Prop := v = some (.int (2 : Int32)) ∧ Fr n0 L ∧ Keep h0 h [ad2] ∧ (Arv Z h ad2 kc2 .byte (2 : Int32) [(.int ((iv1.toInt8.toInt32).toInt8.toInt32)), (.int ((iv2.toInt8.toInt32).toInt8.toInt32))] (.int (0 : Int32)))
set_option maxRecDepth 65536 in
set_option maxHeartbeats 40000000 in
theorem am6_1 (l : Launch) (Z : State) (a0 : Array Value) (hw : ∀ d ∈ tables_1, d.before a0 Z = true) (ws : List Jvm.Cond) (cs_ : Int32) (a_TEXT : Addr) (HW : Wd Z cs_ a_TEXT) (ad1 : Addr) (ad2 : Addr) (kc1 : ClassId) (iv1 : Int32) (iv2 : Int32) (kc2 : ClassId) (h0 : Heap) (n0 : Nat) (Ol : Old Z n0 h0) (HV_ad1 : Arv Z h0 ad1 kc1 .char (2 : Int32) [(.int iv1), (.int iv2)] (.int (0 : Int32))) (HV_ad2 : Arv Z h0 ad2 kc2 .byte (2 : Int32) [(.int (0 : Int32)), (.int (0 : Int32))] (.int (0 : Int32))) (nn_ad2 : n0 ≤ ad2) (ne_ad1_ad2 : ad1 ≠ ad2) (as0 : ¬ ((255 : Int32) < iv1)) (as1 : ¬ ((255 : Int32) < iv2)) :
    MetFree l y_6 (head1 (Jvm.Cond.code y_6 jdk_52_method_21_code 7 (some .int) :: ws) (rm 0 0 0 0)) (fun a_ U_ => a_ = #[(.ref ad1), (.int (0 : Int32)), (.ref ad2), (.int (0 : Int32)), (.int (2 : Int32))] ∧ Z.Warmed39 U_.vm ∧ U_.heap = h0) (fun _ _ _ _ _ => True) (fun _ U_ o_ V_ => ∃ v_ L_, o_ = .returned v_ ∧ Q_am6_1 Z cs_ a_TEXT ad1 ad2 kc1 iv1 iv2 kc2 h0 n0 v_ V_.heap L_ ∧ FrameEnd U_ o_ V_ L_ (rm 0 0 0 0).cells (rm 0 0 0 0).slots) := by
  refine MetFree.of_bodySF (plainFor_of_name pn_2) hisR ?_
  intro p e s m args below meth c s₁ Bd hml0 hP hK
  obtain ⟨rfl, hZ, hh⟩ := hP
  have hx := Bd.exec
  have hby := Bd.bytes
  have hml : c.maxLocals = 7 := hml0
  have hown : s.vm.findClass "java/lang/StringUTF16" = some m.cls := findClass_of_methodNamed Bd.named
  have hnm := (name_of_methodNamed Bd.named Bd.method).1
  have X0 : Stand p l e (rm 0 0 0 0) s m #[(.ref ad1), (.int (0 : Int32)), (.ref ad2), (.int (0 : Int32)), (.int (2 : Int32))] below meth c s₁ [] 0 0 := Stand.of_body Bd
  have e0 : s₁.heap = h0 := by rw [← hh, Bd.state]; rfl
  have N0 := Fr.nil n0
  have kp0 := Keep.refl h0 [ad2]
  show Go p e below (Fin1 s below (Q_am6_1 Z cs_ a_TEXT ad1 ad2 kc1 iv1 iv2 kc2 h0 n0) (rm 0 0 0 0).cells (rm 0 0 0 0).slots) _
  refine Go.step (fun t_ k_ => castTop (ef_am6_1 m ad1 (0 : Int32) ad2 (0 : Int32) (2 : Int32)) k_) ?_
  obtain ⟨S_cs, N_cs, Ea_TEXT, Sa_TEXT⟩ := id HW
  show Go p e below _ (s₁.setTop (mkF m 0 #[.val (.ref ad1), .val (.int (0 : Int32)), .val (.ref ad2), .val (.int (0 : Int32)), .val (.int (2 : Int32)), .unset, .unset] []))
  refine gs.iconst 0 X0.here hx (hb hby d6_0) rfl ?_
  refine gs.istore X0.here hx (hb hby d6_1) (l' := #[.val (.ref ad1), .val (.int (0 : Int32)), .val (.ref ad2), .val (.int (0 : Int32)), .val (.int (2 : Int32)), .val (.int (0 : Int32)), .unset]) rfl ?_
  refine gs.iload X0.here hx (hb hby d6_3) rfl ?_
  refine gs.iload X0.here hx (hb hby d6_5) rfl ?_
  have hc7 : (0 : Int32) < (2 : Int32) := by decide
  refine gs.icmpNo X0.here hx (hb hby d6_7) (tlt hc7).2.1 ?_
  refine gs.aloadN X0.here hx (hb hby d6_10) rfl rfl ?_
  refine gs.iloadN X0.here hx (hb hby d6_11) rfl ?_
  obtain ⟨cl1, Ar1, q1, Sz1, Ng1, Hs1, G1⟩ := id HV_ad1
  have hin1 : ¬ ((0 : Int32) < 0 ∨ cl1.slots.size ≤ ((0 : Int32)).toNatClampNeg) := inb_of Sz1 ⟨by decide, by decide⟩
  have hat1 : cl1.slots[((0 : Int32)).toNatClampNeg]? = some (.int iv1) := Has.at Hs1 hin1 rfl
  refine Go.fin (fun t_ k_ => X0.caload hx (j := (0 : Int32)) (v := (.int iv1)) (by rw [e0]; exact Ar1.1) (State.isArrayOf_alike hZ.alike Ar1.2.1) Ar1.2.2 hin1 hat1 (g := mkF m 12 _ _) rfl rfl (hb hby d6_12) _ k_) ?_
  show Go p e below _ (s₁.setTop (mkF m 13 _ [(.int iv1)]))
  refine gs.istore X0.here hx (hb hby d6_13) (l' := #[.val (.ref ad1), .val (.int (0 : Int32)), .val (.ref ad2), .val (.int (0 : Int32)), .val (.int (2 : Int32)), .val (.int (0 : Int32)), .val (.int iv1)]) rfl ?_
  refine gs.iload X0.here hx (hb hby d6_15) rfl ?_
  refine gs.sipush 255 X0.here hx (hb hby d6_17) rfl ?_
  have hc20 : ¬ ((255 : Int32) < iv1) := as0
  refine gs.icmpYes 26 X0.here hx (hb hby d6_20) (flt hc20).2.2.2 rfl ?_
  refine gs.aloadN X0.here hx (hb hby d6_26) rfl rfl ?_
  refine gs.iloadN X0.here hx (hb hby d6_27) rfl ?_
  refine gs.iload X0.here hx (hb hby d6_28) rfl ?_
  refine Go.fin (fun t_ k_ => XS.i2b X0.here hx rfl (hb hby d6_30) rfl k_) ?_
  show Go p e below _ (s₁.setTop (mkF m 31 _ [(.int (iv1.toInt8.toInt32)), (.int (0 : Int32)), (.ref ad2)]))
  obtain ⟨cl2, Ar2, q2, Sz2, Ng2, Hs2, G2⟩ := id HV_ad2
  have hin2 : ¬ ((0 : Int32) < 0 ∨ cl2.slots.size ≤ ((0 : Int32)).toNatClampNeg) := inb_of Sz2 ⟨by decide, by decide⟩
  obtain ⟨T3, h3, X3, e3, W3, st3⟩ := stB X0 hx hZ e0 Ar2 (j := (0 : Int32)) hin2 (g := (mkF m 31 #[.val (.ref ad1), .val (.int (0 : Int32)), .val (.ref ad2), .val (.int (0 : Int32)), .val (.int (2 : Int32)), .val (.int (0 : Int32)), .val (.int iv1)] [(.int (iv1.toInt8.toInt32)), (.int (0 : Int32)), (.ref ad2)])) rfl rfl (hb hby d6_31)
  have N3 := Fr.snoc X3 N0 nn_ad2
  have old3 := Ol.wr W3 nn_ad2
  have kp3 := kp0.wr W3 (Or.inl (List.mem_of_getElem? (i := 0) rfl))
  have V3 : Arv Z h3 ad2 kc2 .byte (2 : Int32) [(.int ((iv1.toInt8.toInt32).toInt8.toInt32)), (.int (0 : Int32))] (.int (0 : Int32)) := Arv.set Ar2 q2 Sz2 Ng2 Hs2 G2 (fits_nar_byte _) W3 0 rfl (Nat.le_of_ble_eq_true rfl)
  refine Go.fin st3 ?_
  show Go p e below _ (T3.setTop (mkF m 32 _ []))
  refine Go.step (fun t_ k_ => XS.iinc X3.here hx rfl (hb hby d6_32) rfl (l' := #[.val (.ref ad1), .val (.int ((0 : Int32) + (1 : Int32))), .val (.ref ad2), .val (.int (0 : Int32)), .val (.int (2 : Int32)), .val (.int (0 : Int32)), .val (.int iv1)]) rfl k_) ?_
  show Go p e below _ (T3.setTop (mkF m 35 #[.val (.ref ad1), .val (.int ((0 : Int32) + (1 : Int32))), .val (.ref ad2), .val (.int (0 : Int32)), .val (.int (2 : Int32)), .val (.int (0 : Int32)), .val (.int iv1)] []))
  rw [show ((0 : Int32) + (1 : Int32)) = (1 : Int32) from by decide]
  refine Go.step (fun t_ k_ => XS.iinc X3.here hx rfl (hb hby d6_35) rfl (l' := #[.val (.ref ad1), .val (.int (1 : Int32)), .val (.ref ad2), .val (.int ((0 : Int32) + (1 : Int32))), .val (.int (2 : Int32)), .val (.int (0 : Int32)), .val (.int iv1)]) rfl k_) ?_
  show Go p e below _ (T3.setTop (mkF m 38 #[.val (.ref ad1), .val (.int (1 : Int32)), .val (.ref ad2), .val (.int ((0 : Int32) + (1 : Int32))), .val (.int (2 : Int32)), .val (.int (0 : Int32)), .val (.int iv1)] []))
  rw [show ((0 : Int32) + (1 : Int32)) = (1 : Int32) from by decide]
  refine Go.step (fun t_ k_ => XS.iinc X3.here hx rfl (hb hby d6_38) rfl (l' := #[.val (.ref ad1), .val (.int (1 : Int32)), .val (.ref ad2), .val (.int (1 : Int32)), .val (.int (2 : Int32)), .val (.int ((0 : Int32) + (1 : Int32))), .val (.int iv1)]) rfl k_) ?_
  show Go p e below _ (T3.setTop (mkF m 41 #[.val (.ref ad1), .val (.int (1 : Int32)), .val (.ref ad2), .val (.int (1 : Int32)), .val (.int (2 : Int32)), .val (.int ((0 : Int32) + (1 : Int32))), .val (.int iv1)] []))
  rw [show ((0 : Int32) + (1 : Int32)) = (1 : Int32) from by decide]
  refine gs.goto 3 X3.here hx (hb hby d6_41) rfl ?_
  refine gs.iload X3.here hx (hb hby d6_3) rfl ?_
  refine gs.iload X3.here hx (hb hby d6_5) rfl ?_
  have hc7_2 : (1 : Int32) < (2 : Int32) := by decide
  refine gs.icmpNo X3.here hx (hb hby d6_7) (tlt hc7_2).2.1 ?_
  refine gs.aloadN X3.here hx (hb hby d6_10) rfl rfl ?_
  refine gs.iloadN X3.here hx (hb hby d6_11) rfl ?_
  have f4 := (HV_ad1.other W3 ne_ad1_ad2)
  obtain ⟨cl5, Ar5, q5, Sz5, Ng5, Hs5, G5⟩ := id f4
  have hin5 : ¬ ((1 : Int32) < 0 ∨ cl5.slots.size ≤ ((1 : Int32)).toNatClampNeg) := inb_of Sz5 ⟨by decide, by decide⟩
  have hat5 : cl5.slots[((1 : Int32)).toNatClampNeg]? = some (.int iv2) := Has.at Hs5 hin5 rfl
  refine Go.fin (fun t_ k_ => X3.caload hx (j := (1 : Int32)) (v := (.int iv2)) (by rw [e3]; exact Ar5.1) (State.isArrayOf_alike hZ.alike Ar5.2.1) Ar5.2.2 hin5 hat5 (g := mkF m 12 _ _) rfl rfl (hb hby d6_12) _ k_) ?_
  show Go p e below _ (T3.setTop (mkF m 13 _ [(.int iv2)]))
  refine gs.istore X3.here hx (hb hby d6_13) (l' := #[.val (.ref ad1), .val (.int (1 : Int32)), .val (.ref ad2), .val (.int (1 : Int32)), .val (.int (2 : Int32)), .val (.int (1 : Int32)), .val (.int iv2)]) rfl ?_
  refine gs.iload X3.here hx (hb hby d6_15) rfl ?_
  refine gs.sipush 255 X3.here hx (hb hby d6_17) rfl ?_
  have hc20_2 : ¬ ((255 : Int32) < iv2) := as1
  refine gs.icmpYes 26 X3.here hx (hb hby d6_20) (flt hc20_2).2.2.2 rfl ?_
  refine gs.aloadN X3.here hx (hb hby d6_26) rfl rfl ?_
  refine gs.iloadN X3.here hx (hb hby d6_27) rfl ?_
  refine gs.iload X3.here hx (hb hby d6_28) rfl ?_
  refine Go.fin (fun t_ k_ => XS.i2b X3.here hx rfl (hb hby d6_30) rfl k_) ?_
  show Go p e below _ (T3.setTop (mkF m 31 _ [(.int (iv2.toInt8.toInt32)), (.int (1 : Int32)), (.ref ad2)]))
  obtain ⟨cl6, Ar6, q6, Sz6, Ng6, Hs6, G6⟩ := id V3
  have hin6 : ¬ ((1 : Int32) < 0 ∨ cl6.slots.size ≤ ((1 : Int32)).toNatClampNeg) := inb_of Sz6 ⟨by decide, by decide⟩
  obtain ⟨T7, h7, X7, e7, W7, st7⟩ := stB X3 hx hZ e3 Ar6 (j := (1 : Int32)) hin6 (g := (mkF m 31 #[.val (.ref ad1), .val (.int (1 : Int32)), .val (.ref ad2), .val (.int (1 : Int32)), .val (.int (2 : Int32)), .val (.int (1 : Int32)), .val (.int iv2)] [(.int (iv2.toInt8.toInt32)), (.int (1 : Int32)), (.ref ad2)])) rfl rfl (hb hby d6_31)
  have N7 := Fr.snoc X7 N3 nn_ad2
  have old7 := old3.wr W7 nn_ad2
  have kp7 := kp3.wr W7 (Or.inl (List.mem_of_getElem? (i := 0) rfl))
  have V7 : Arv Z h7 ad2 kc2 .byte (2 : Int32) [(.int ((iv1.toInt8.toInt32).toInt8.toInt32)), (.int ((iv2.toInt8.toInt32).toInt8.toInt32))] (.int (0 : Int32)) := Arv.set Ar6 q6 Sz6 Ng6 Hs6 G6 (fits_nar_byte _) W7 1 rfl (Nat.le_of_ble_eq_true rfl)
  refine Go.fin st7 ?_
  show Go p e below _ (T7.setTop (mkF m 32 _ []))
  refine Go.step (fun t_ k_ => XS.iinc X7.here hx rfl (hb hby d6_32) rfl (l' := #[.val (.ref ad1), .val (.int ((1 : Int32) + (1 : Int32))), .val (.ref ad2), .val (.int (1 : Int32)), .val (.int (2 : Int32)), .val (.int (1 : Int32)), .val (.int iv2)]) rfl k_) ?_
  show Go p e below _ (T7.setTop (mkF m 35 #[.val (.ref ad1), .val (.int ((1 : Int32) + (1 : Int32))), .val (.ref ad2), .val (.int (1 : Int32)), .val (.int (2 : Int32)), .val (.int (1 : Int32)), .val (.int iv2)] []))
  rw [show ((1 : Int32) + (1 : Int32)) = (2 : Int32) from by decide]
  refine Go.step (fun t_ k_ => XS.iinc X7.here hx rfl (hb hby d6_35) rfl (l' := #[.val (.ref ad1), .val (.int (2 : Int32)), .val (.ref ad2), .val (.int ((1 : Int32) + (1 : Int32))), .val (.int (2 : Int32)), .val (.int (1 : Int32)), .val (.int iv2)]) rfl k_) ?_
  show Go p e below _ (T7.setTop (mkF m 38 #[.val (.ref ad1), .val (.int (2 : Int32)), .val (.ref ad2), .val (.int ((1 : Int32) + (1 : Int32))), .val (.int (2 : Int32)), .val (.int (1 : Int32)), .val (.int iv2)] []))
  rw [show ((1 : Int32) + (1 : Int32)) = (2 : Int32) from by decide]
  refine Go.step (fun t_ k_ => XS.iinc X7.here hx rfl (hb hby d6_38) rfl (l' := #[.val (.ref ad1), .val (.int (2 : Int32)), .val (.ref ad2), .val (.int (2 : Int32)), .val (.int (2 : Int32)), .val (.int ((1 : Int32) + (1 : Int32))), .val (.int iv2)]) rfl k_) ?_
  show Go p e below _ (T7.setTop (mkF m 41 #[.val (.ref ad1), .val (.int (2 : Int32)), .val (.ref ad2), .val (.int (2 : Int32)), .val (.int (2 : Int32)), .val (.int ((1 : Int32) + (1 : Int32))), .val (.int iv2)] []))
  rw [show ((1 : Int32) + (1 : Int32)) = (2 : Int32) from by decide]
  refine gs.goto 3 X7.here hx (hb hby d6_41) rfl ?_
  refine gs.iload X7.here hx (hb hby d6_3) rfl ?_
  refine gs.iload X7.here hx (hb hby d6_5) rfl ?_
  have hc7_3 : ¬ ((2 : Int32) < (2 : Int32)) := by decide
  refine gs.icmpYes 44 X7.here hx (hb hby d6_7) (flt hc7_3).2.1 rfl ?_
  refine gs.iload X7.here hx (hb hby d6_44) rfl ?_
  refine Go.retI X7 hx Bd.returns Bd.notSynchronized (hb hby d6_46) (by rw [e7]; exact ⟨rfl, N7, kp7, V7⟩) (by decide) (by decide)
theorem pd_6 : parseMethodDescriptor "([CI[BII)I" = some ⟨[(.array .char), .int, (.array .byte), .int, .int], some .int⟩ := by decide +kernel
theorem d5_12 : decode c_5 12 = .ok (.istore 4, 2) := by decide +kernel
theorem d5_14 : decode c_5 14 = .ok (.iload 4, 2) := by decide +kernel
theorem d5_16 : decode c_5 16 = .ok (.iload_n 2, 1) := by decide +kernel
theorem d5_17 : decode c_5 17 = .ok (.if_icmp .eq 40, 3) := by decide +kernel
theorem d5_57 : decode c_5 57 = .ok (.aload_n 3, 1) := by decide +kernel
theorem d5_58 : decode c_5 58 = .ok (.areturn, 1) := by decide +kernel
theorem ef_am5_1 (m : MethodId) (x0 : Addr) (x1 : Int32) (x2 : Int32)  : entryFrame m #[(.ref x0), (.int x1), (.int x2)] 6 = mkF m 0 #[.val (.ref x0), .val (.int x1), .val (.int x2), .unset, .unset, .unset] [] := by first | (simp [entryFrame, mkF, argsToLocals, Value.category]; done) | rfl
def Q_am5_1 (Z : State) (cs_ : Int32) (a_TEXT : Addr) (ad1 : Addr) (kc1 : ClassId) (iv1 : Int32) (iv2 : Int32) (h0 : Heap) (n0 : Nat) (v : Option Value) (h : Heap) (L : List Loc) : Prop := ∃ fr1 : Addr, ∃ kx1 : ClassId, v = some (.ref fr1) ∧ h0.size ≤ fr1 ∧ Fr n0 L ∧ Keep h0 h [] ∧ (Arv Z h fr1 kx1 .byte (2 : Int32) [(.int ((iv1.toInt8.toInt32).toInt8.toInt32)), (.int ((iv2.toInt8.toInt32).toInt8.toInt32))] (.int (0 : Int32)))
set_option maxRecDepth 65536 in
set_option maxHeartbeats 40000000 in
theorem am5_1 (l : Launch) (Z : State) (a0 : Array Value) (hw : ∀ d ∈ tables_1, d.before a0 Z = true) (ws : List Jvm.Cond) (cs_ : Int32) (a_TEXT : Addr) (HW : Wd Z cs_ a_TEXT) (ad1 : Addr) (kc1 : ClassId) (iv1 : Int32) (iv2 : Int32) (h0 : Heap) (n0 : Nat) (Ol : Old Z n0 h0) (HV_ad1 : Arv Z h0 ad1 kc1 .char (2 : Int32) [(.int iv1), (.int iv2)] (.int (0 : Int32))) (as0 : ¬ ((255 : Int32) < iv1)) (as1 : ¬ ((255 : Int32) < iv2)) :
    MetFree l y_5 (head1 (Jvm.Cond.code y_5 jdk_52_method_16_code 6 (some (.array .byte)) :: ws) (rm 1 1 2 18)) (fun a_ U_ => a_ = #[(.ref ad1), (.int (0 : Int32)), (.int (2 : Int32))] ∧ Z.Warmed39 U_.vm ∧ U_.heap = h0) (fun _ _ _ _ _ => True) (fun _ U_ o_ V_ => ∃ v_ L_, o_ = .returned v_ ∧ Q_am5_1 Z cs_ a_TEXT ad1 kc1 iv1 iv2 h0 n0 v_ V_.heap L_ ∧ FrameEnd U_ o_ V_ L_ (rm 1 1 2 18).cells (rm 1 1 2 18).slots) := by
  refine MetFree.of_bodySF (plainFor_of_name pn_2) hisR ?_
  intro p e s m args below meth c s₁ Bd hml0 hP hK
  obtain ⟨rfl, hZ, hh⟩ := hP
  have hx := Bd.exec
  have hby := Bd.bytes
  have hml : c.maxLocals = 6 := hml0
  have hown : s.vm.findClass "java/lang/StringUTF16" = some m.cls := findClass_of_methodNamed Bd.named
  have hnm := (name_of_methodNamed Bd.named Bd.method).1
  have X0 : Stand p l e (rm 1 1 2 18) s m #[(.ref ad1), (.int (0 : Int32)), (.int (2 : Int32))] below meth c s₁ [] 0 0 := Stand.of_body Bd
  have e0 : s₁.heap = h0 := by rw [← hh, Bd.state]; rfl
  have N0 := Fr.nil n0
  have kp0 := Keep.refl h0 []
  show Go p e below (Fin1 s below (Q_am5_1 Z cs_ a_TEXT ad1 kc1 iv1 iv2 h0 n0) (rm 1 1 2 18).cells (rm 1 1 2 18).slots) _
  refine Go.step (fun t_ k_ => castTop (ef_am5_1 m ad1 (0 : Int32) (2 : Int32)) k_) ?_
  obtain ⟨S_cs, N_cs, Ea_TEXT, Sa_TEXT⟩ := id HW
  show Go p e below _ (s₁.setTop (mkF m 0 #[.val (.ref ad1), .val (.int (0 : Int32)), .val (.int (2 : Int32)), .unset, .unset, .unset] []))
  refine gs.iloadN X0.here hx (hb hby d5_0) rfl ?_
  obtain ⟨T1, h1, k1, X1, e1, E1, A1, st1⟩ := newP X0 hx hZ (wd hw 19 rfl) e0 (g := (mkF m 1 #[.val (.ref ad1), .val (.int (0 : Int32)), .val (.int (2 : Int32)), .unset, .unset, .unset] [(.int (2 : Int32))])) rfl (hb hby d5_1) rfl (by decide) (cap := 2) (by decide) (by decide) (by decide) (by decide)
  obtain ⟨b1, g1⟩ : ∃ z, z = h0.size := ⟨_, rfl⟩
  rw [← g1] at A1 st1
  have nn_b1 : n0 ≤ b1 := Nat.le_trans (old_z0 Ol) (Nat.le_of_eq g1.symm)
  have sz_b1 : h0.size ≤ b1 := Nat.le_trans kp0.1 (Nat.le_of_eq g1.symm)
  have old1 := Ol.ext E1
  have kp1 := kp0.ext E1
  have V1 : Arv Z h1 b1 k1 .byte (2 : Int32) [(.int (0 : Int32)), (.int (0 : Int32))] (.int (0 : Int32)) := (Arv.new A1 (by decide)).pad (pad_rep [] (.int (0 : Int32)) 2)
  refine Go.fin st1 ?_
  show Go p e below _ (T1.setTop (mkF m 3 _ [(.ref b1)]))
  refine gs.astoreN X1.here hx (hb hby d5_3) rfl (l' := #[.val (.ref ad1), .val (.int (0 : Int32)), .val (.int (2 : Int32)), .val (.ref b1), .unset, .unset]) rfl ?_
  refine gs.aloadN X1.here hx (hb hby d5_4) rfl rfl ?_
  refine gs.iloadN X1.here hx (hb hby d5_5) rfl ?_
  refine gs.aloadN X1.here hx (hb hby d5_6) rfl rfl ?_
  refine gs.iconst 0 X1.here hx (hb hby d5_7) rfl ?_
  refine gs.iloadN X1.here hx (hb hby d5_8) rfl ?_
  have f2 := (HV_ad1.ext E1)
  have ne_ad1_b1 : ad1 ≠ b1 := Nat.ne_of_lt (Nat.lt_of_lt_of_le HV_ad1.lt (Nat.le_of_eq g1.symm))
  refine gs.stat 0 X1 hx hZ hown (am6_1 l Z a0 hw [] cs_ a_TEXT HW (ad1) (b1) (kc1) (iv1) (iv2) (k1) h1 n0 old1 f2 V1 nn_b1 ne_ad1_b1 as0 as1) (wd hw 33 rfl) (wd hw 29 rfl) (wd hw 31 rfl) (wd hw 32 rfl) (by decide) (by decide) (by decide) (by rw [hml]; rfl) [(.ref ad1), (.int (0 : Int32)), (.ref b1), (.int (0 : Int32)), (.int (2 : Int32))] (lenOf pd_6 rfl) rfl (Nat.le_of_eq rfl) (hb hby d5_9) rfl e1 (by decide) (by decide) fun T3 Lc3 v3 X3 hQ3 => ?_
  obtain ⟨rfl, Nq3, K3, p3_0⟩ := hQ3
  have old3 := old1.keep K3 (allS nn_b1 all0)
  have kp3 := kp1.trans K3 (allS (Or.inr sz_b1) all0)
  have N3 := Fr.app N0 Nq3
  show Go p e below _ (T3.setTop (mkF m 12 _ [(.int (2 : Int32))]))
  refine gs.istore X3.here hx (hb hby d5_12) (l' := #[.val (.ref ad1), .val (.int (0 : Int32)), .val (.int (2 : Int32)), .val (.ref b1), .val (.int (2 : Int32)), .unset]) rfl ?_
  refine gs.iload X3.here hx (hb hby d5_14) rfl ?_
  refine gs.iloadN X3.here hx (hb hby d5_16) rfl ?_
  have hc17 : (2 : Int32) = (2 : Int32) := by decide
  refine gs.icmpYes 57 X3.here hx (hb hby d5_17) (teq hc17).1 rfl ?_
  refine gs.aloadN X3.here hx (hb hby d5_57) rfl rfl ?_
  refine Go.retR X3 hx Bd.returns rfl rfl Bd.notSynchronized (hb hby d5_58) (by exact ⟨b1, k1, rfl, sz_b1, N3, kp3, p3_0⟩) (by decide) (by decide)
theorem pd_7 : parseMethodDescriptor "([CII)[B" = some ⟨[(.array .char), .int, .int], some (.array .byte)⟩ := by decide +kernel
theorem d3_39 : decode c_3 39 = .ok (.astore 5, 2) := by decide +kernel
theorem d3_41 : decode c_3 41 = .ok (.aload_n 0, 1) := by decide +kernel
theorem d3_42 : decode c_3 42 = .ok (.aload 5, 2) := by decide +kernel
theorem d3_44 : decode c_3 44 = .ok (.iload_n 3, 1) := by decide +kernel
theorem d3_45 : decode c_3 45 = .ok (.invokestatic 47, 3) := by decide +kernel
theorem d7_0 : decode c_7 0 = .ok (.iload_n 1, 1) := by decide +kernel
theorem d7_1 : decode c_7 1 = .ok (.aload_n 0, 1) := by decide +kernel
theorem d7_2 : decode c_7 2 = .ok (.arraylength, 1) := by decide +kernel
theorem d7_3 : decode c_7 3 = .ok (.isub, 1) := by decide +kernel
theorem d7_4 : decode c_7 4 = .ok (.bipush 31, 2) := by decide +kernel
theorem d7_6 : decode c_7 6 = .ok (.iushr, 1) := by decide +kernel
theorem d7_7 : decode c_7 7 = .ok (.i2b, 1) := by decide +kernel
theorem d7_8 : decode c_7 8 = .ok (.ireturn, 1) := by decide +kernel
theorem ef_am7_1 (m : MethodId) (x0 : Addr) (x1 : Int32)  : entryFrame m #[(.ref x0), (.int x1)] 2 = mkF m 0 #[.val (.ref x0), .val (.int x1)] [] := by first | (simp [entryFrame, mkF, argsToLocals, Value.category]; done) | rfl
def Q_am7_1 (Z : State) (cs_ : Int32) (a_TEXT : Addr) (ad1 : Addr) (kc1 : ClassId) (iv1 : Int32) (iv2 : Int32) (h0 : Heap) (n0 : Nat) (v : Option Value) (h : Heap) (L : List Loc) : Prop := v = some (.int (0 : Int32)) ∧ Fr n0 L ∧ h = h0
set_option maxRecDepth 65536 in
set_option maxHeartbeats 40000000 in
theorem am7_1 (l : Launch) (Z : State) (a0 : Array Value) (hw : ∀ d ∈ tables_1, d.before a0 Z = true) (ws : List Jvm.Cond) (cs_ : Int32) (a_TEXT : Addr) (HW : Wd Z cs_ a_TEXT) (ad1 : Addr) (kc1 : ClassId) (iv1 : Int32) (iv2 : Int32) (h0 : Heap) (n0 : Nat) (Ol : Old Z n0 h0) (HV_ad1 : Arv Z h0 ad1 kc1 .byte (2 : Int32) [(.int iv1), (.int iv2)] (.int (0 : Int32))) :
    MetFree l y_7 (head1 (Jvm.Cond.code y_7 jdk_52_method_15_code 2 (some .byte) :: ws) (rm 0 0 0 0)) (fun a_ U_ => a_ = #[(.ref ad1), (.int (2 : Int32))] ∧ Z.Warmed39 U_.vm ∧ U_.heap = h0) (fun _ _ _ _ _ => True) (fun _ U_ o_ V_ => ∃ v_ L_, o_ = .returned v_ ∧ Q_am7_1 Z cs_ a_TEXT ad1 kc1 iv1 iv2 h0 n0 v_ V_.heap L_ ∧ FrameEnd U_ o_ V_ L_ (rm 0 0 0 0).cells (rm 0 0 0 0).slots) := by
  refine MetFree.of_bodySF (plainFor_of_name pn_2) hisR ?_
  intro p e s m args below meth c s₁ Bd hml0 hP hK
  obtain ⟨rfl, hZ, hh⟩ := hP
  have hx := Bd.exec
  have hby := Bd.bytes
  have hml : c.maxLocals = 2 := hml0
  have hown : s.vm.findClass "java/lang/StringUTF16" = some m.cls := findClass_of_methodNamed Bd.named
  have hnm := (name_of_methodNamed Bd.named Bd.method).1
  have X0 : Stand p l e (rm 0 0 0 0) s m #[(.ref ad1), (.int (2 : Int32))] below meth c s₁ [] 0 0 := Stand.of_body Bd
  have e0 : s₁.heap = h0 := by rw [← hh, Bd.state]; rfl
  have N0 := Fr.nil n0
  have kp0 := Keep.refl h0 []
  show Go p e below (Fin1 s below (Q_am7_1 Z cs_ a_TEXT ad1 kc1 iv1 iv2 h0 n0) (rm 0 0 0 0).cells (rm 0 0 0 0).slots) _
  refine Go.step (fun t_ k_ => castTop (ef_am7_1 m ad1 (2 : Int32)) k_) ?_
  obtain ⟨S_cs, N_cs, Ea_TEXT, Sa_TEXT⟩ := id HW
  show Go p e below _ (s₁.setTop (mkF m 0 #[.val (.ref ad1), .val (.int (2 : Int32))] []))
  refine gs.iloadN X0.here hx (hb hby d7_0) rfl ?_
  refine gs.aloadN X0.here hx (hb hby d7_1) rfl rfl ?_
  obtain ⟨cl1, Ar1, -, Sz1, Ng1, -, -⟩ := id HV_ad1
  refine Go.fin (fun t_ k_ => X0.arraylength hx (by rw [e0]; exact Ar1.1) (State.isArrayOf_alike hZ.alike Ar1.2.1) (g := mkF m 2 _ _) rfl rfl (hb hby d7_2) _ k_) ?_
  rw [len_of Sz1 Ng1]
  show Go p e below _ (s₁.setTop (mkF m 3 _ [(.int (2 : Int32)), (.int (2 : Int32))]))
  refine gs.isub X0.here hx (hb hby d7_3) ?_
  rw [show ((2 : Int32) - (2 : Int32)) = (0 : Int32) from by decide]
  refine gs.bipush 31 X0.here hx (hb hby d7_4) rfl ?_
  refine Go.fin (fun t_ k_ => XS.iushr X0.here hx rfl (hb hby d7_6) rfl k_) ?_
  show Go p e below _ (s₁.setTop (mkF m 7 _ [(.int (((0 : Int32).toUInt32 >>> ((31 : Int32) &&& 31).toUInt32).toInt32))]))
  rw [show (((0 : Int32).toUInt32 >>> ((31 : Int32) &&& 31).toUInt32).toInt32) = (0 : Int32) from by decide]
  refine Go.fin (fun t_ k_ => XS.i2b X0.here hx rfl (hb hby d7_7) rfl k_) ?_
  show Go p e below _ (s₁.setTop (mkF m 8 _ [(.int ((0 : Int32).toInt8.toInt32))]))
  rw [show ((0 : Int32).toInt8.toInt32) = (0 : Int32) from by decide]
  refine Go.retZ X0 hx (t := .byte) Bd.returns (by simp) Bd.notSynchronized (hb hby d7_8) (by rw [e0]; exact ⟨rfl, N0, rfl⟩) (by decide) (by decide)
theorem pd_8 : parseMethodDescriptor "([BI)B" = some ⟨[(.array .byte), .int], some .byte⟩ := by decide +kernel
theorem d3_48 : decode c_3 48 = .ok (.putfield 15, 3) := by decide +kernel
theorem d3_51 : decode c_3 51 = .ok (.aload_n 0, 1) := by decide +kernel
theorem d3_52 : decode c_3 52 = .ok (.aload 5, 2) := by decide +kernel
theorem d3_54 : decode c_3 54 = .ok (.putfield 9, 3) := by decide +kernel
theorem d3_57 : decode c_3 57 = .ok (.return_, 1) := by decide +kernel
def Q_am3_1 (Z : State) (cs_ : Int32) (a_TEXT : Addr) (ad1 : Addr) (ad2 : Addr) (kc1 : ClassId) (iv1 : Int32) (iv2 : Int32) (h0 : Heap) (n0 : Nat) (v : Option Value) (h : Heap) (L : List Loc) : Prop := ∃ fr1 : Addr, ∃ kx1 : ClassId, v = none ∧ h0.size ≤ fr1 ∧ Fr n0 L ∧ Keep h0 h [ad1] ∧ (Exa Z h ad1 "java/lang/String") ∧ (Fld Z h ad1 "java/lang/String" "coder" "B" (.int (0 : Int32))) ∧ (Fld Z h ad1 "java/lang/String" "value" "[B" (.ref fr1)) ∧ (Arv Z h fr1 kx1 .byte (2 : Int32) [(.int ((iv1.toInt8.toInt32).toInt8.toInt32)), (.int ((iv2.toInt8.toInt32).toInt8.toInt32))] (.int (0 : Int32)))
set_option maxRecDepth 65536 in
set_option maxHeartbeats 40000000 in
theorem am3_1 (l : Launch) (Z : State) (a0 : Array Value) (hw : ∀ d ∈ tables_1, d.before a0 Z = true) (ws : List Jvm.Cond) (cs_ : Int32) (a_TEXT : Addr) (HW : Wd Z cs_ a_TEXT) (ad1 : Addr) (ad2 : Addr) (kc1 : ClassId) (iv1 : Int32) (iv2 : Int32) (h0 : Heap) (n0 : Nat) (Ol : Old Z n0 h0) (HE_ad1 : Exa Z h0 ad1 "java/lang/String") (HF_ad1_String_value : Fld Z h0 ad1 "java/lang/String" "value" "[B" .null) (HF_ad1_String_coder : Fld Z h0 ad1 "java/lang/String" "coder" "B" (.int (0 : Int32))) (HV_ad2 : Arv Z h0 ad2 kc1 .char (2 : Int32) [(.int iv1), (.int iv2)] (.int (0 : Int32))) (nn_ad1 : n0 ≤ ad1) (as0 : ¬ ((255 : Int32) < iv1)) (as1 : ¬ ((255 : Int32) < iv2)) :
    MetFree l y_3 (head1 (Jvm.Cond.code y_3 jdk_42_method_149_code 6 none :: ws) (rm 2 1 2 35)) (fun a_ U_ => a_ = #[(.ref ad1), (.ref ad2), (.int (0 : Int32)), (.int (2 : Int32)), .null] ∧ Z.Warmed39 U_.vm ∧ U_.heap = h0) (fun _ _ _ _ _ => True) (fun _ U_ o_ V_ => ∃ v_ L_, o_ = .returned v_ ∧ Q_am3_1 Z cs_ a_TEXT ad1 ad2 kc1 iv1 iv2 h0 n0 v_ V_.heap L_ ∧ FrameEnd U_ o_ V_ L_ (rm 2 1 2 35).cells (rm 2 1 2 35).slots) := by
  refine MetFree.of_bodySF (plainFor_of_name pn_0) hisR ?_
  intro p e s m args below meth c s₁ Bd hml0 hP hK
  obtain ⟨rfl, hZ, hh⟩ := hP
  have hx := Bd.exec
  have hby := Bd.bytes
  have hml : c.maxLocals = 6 := hml0
  have hown : s.vm.findClass "java/lang/String" = some m.cls := findClass_of_methodNamed Bd.named
  have hnm := (name_of_methodNamed Bd.named Bd.method).1
  have X0 : Stand p l e (rm 2 1 2 35) s m #[(.ref ad1), (.ref ad2), (.int (0 : Int32)), (.int (2 : Int32)), .null] below meth c s₁ [] 0 0 := Stand.of_body Bd
  have e0 : s₁.heap = h0 := by rw [← hh, Bd.state]; rfl
  have N0 := Fr.nil n0
  have kp0 := Keep.refl h0 [ad1]
  show Go p e below (Fin1 s below (Q_am3_1 Z cs_ a_TEXT ad1 ad2 kc1 iv1 iv2 h0 n0) (rm 2 1 2 35).cells (rm 2 1 2 35).slots) _
  refine Go.step (fun t_ k_ => castTop (ef_rm_si0 m ad1 ad2 (0 : Int32) (2 : Int32)) k_) ?_
  obtain ⟨S_cs, N_cs, Ea_TEXT, Sa_TEXT⟩ := id HW
  show Go p e below _ (s₁.setTop (mkF m 0 #[.val (.ref ad1), .val (.ref ad2), .val (.int (0 : Int32)), .val (.int (2 : Int32)), .val .null, .unset] []))
  refine gs.aloadN X0.here hx (hb hby d3_0) rfl rfl ?_
  obtain ⟨T1, X1, e1, st1⟩ := initO X0 hx hZ hown (wd hw 15 rfl) (wd hw 16 rfl) (wd hw 17 rfl) e0 (g := (mkF m 1 #[.val (.ref ad1), .val (.ref ad2), .val (.int (0 : Int32)), .val (.int (2 : Int32)), .val .null, .unset] [(.ref ad1)])) rfl (by rw [hml]; rfl) rfl (hb hby d3_1) (by decide) (W := 0) (by show 2 * 0 + _ ≤ _; exact Nat.le_of_eq rfl) (by decide)
  refine Go.step st1 ?_
  show Go p e below _ (T1.setTop (mkF m 4 #[.val (.ref ad1), .val (.ref ad2), .val (.int (0 : Int32)), .val (.int (2 : Int32)), .val .null, .unset] []))
  refine gs.iloadN X1.here hx (hb hby d3_4) rfl ?_
  have hc5 : ¬ ((2 : Int32) = (0 : Int32)) := by decide
  refine gs.ifYes 27 X1.here hx (hb hby d3_5) ((if0 _ _).trans (feq hc5).2) rfl ?_
  obtain ⟨T2, X2, e2, st2⟩ := getS2 X1 hx hZ hown (host := "") (Or.inl (wd hw 26 rfl)) Via.refl e1 (S_cs.ext Ol.2) (g := (mkF m 27 #[.val (.ref ad1), .val (.ref ad2), .val (.int (0 : Int32)), .val (.int (2 : Int32)), .val .null, .unset] [])) rfl (hb hby d3_27)
  refine Go.fin st2 ?_
  show Go p e below _ (T2.setTop (mkF m 30 _ [(.int cs_)]))
  have hc30 : ¬ (cs_ = (0 : Int32)) := N_cs
  refine gs.ifNo X2.here hx (hb hby d3_30) ((if0 _ _).trans (feq hc30).1) ?_
  refine gs.aloadN X2.here hx (hb hby d3_33) rfl rfl ?_
  refine gs.iloadN X2.here hx (hb hby d3_34) rfl ?_
  refine gs.iloadN X2.here hx (hb hby d3_35) rfl ?_
  refine gs.stat 0 X2 hx hZ hown (am5_1 l Z a0 hw [] cs_ a_TEXT HW (ad2) (kc1) (iv1) (iv2) h0 n0 Ol HV_ad2 as0 as1) (wd hw 30 rfl) (wd hw 29 rfl) (wd hw 27 rfl) (wd hw 28 rfl) (by decide) (by decide) (by decide) (by rw [hml]; rfl) [(.ref ad2), (.int (0 : Int32)), (.int (2 : Int32))] (lenOf pd_7 rfl) rfl (Nat.le_of_eq rfl) (hb hby d3_36) rfl e2 (by decide) (by decide) fun T3 Lc3 v3 X3 hQ3 => ?_
  obtain ⟨b3_0, kx3_0, rfl, gb_b3_0, Nq3, K3, p3_0⟩ := hQ3
  have nn_b3_0 : n0 ≤ b3_0 := Nat.le_trans (old_z0 Ol) gb_b3_0
  have sz_b3_0 : h0.size ≤ b3_0 := Nat.le_trans kp0.1 gb_b3_0
  have old3 := Ol.keep K3 all0
  have kp3 := kp0.trans K3 all0
  have N3 := Fr.app N0 Nq3
  show Go p e below _ (T3.setTop (mkF m 39 _ [(.ref b3_0)]))
  refine gs.astore X3.here hx (hb hby d3_39) rfl (l' := #[.val (.ref ad1), .val (.ref ad2), .val (.int (0 : Int32)), .val (.int (2 : Int32)), .val .null, .val (.ref b3_0)]) rfl ?_
  refine gs.aloadN X3.here hx (hb hby d3_41) rfl rfl ?_
  refine gs.aload X3.here hx (hb hby d3_42) rfl rfl ?_
  refine gs.iloadN X3.here hx (hb hby d3_44) rfl ?_
  refine gs.stat 1 X3 hx hZ hown (am7_1 l Z a0 hw [] cs_ a_TEXT HW (b3_0) (kx3_0) (((iv1.toInt8.toInt32).toInt8.toInt32)) (((iv2.toInt8.toInt32).toInt8.toInt32)) T3.heap n0 old3 p3_0) (wd hw 36 rfl) (wd hw 29 rfl) (wd hw 34 rfl) (wd hw 35 rfl) (by decide) (by decide) (by decide) (by rw [hml]; rfl) [(.ref b3_0), (.int (2 : Int32))] (lenOf pd_8 rfl) rfl (Nat.le_of_eq rfl) (hb hby d3_45) rfl rfl (by decide) (by decide) fun T4 Lc4 v4 X4 hQ4 => ?_
  obtain ⟨rfl, Nq4, e4⟩ := hQ4
  have N4 := Fr.app N3 Nq4
  show Go p e below _ (T4.setTop (mkF m 48 _ [(.int (0 : Int32)), (.ref ad1)]))
  have f5 := (HF_ad1_String_coder.keep K3 nin0)
  have f6 := (HE_ad1.keep K3)
  obtain ⟨T7, h7, X7, e7, W7, st7⟩ := putFN X4 hx hZ hown (wd hw 25 rfl) Via.refl e4 f5 f6 (Or.inr ⟨(wd hw 21 rfl), rfl, hnm⟩) (wd hw 5 rfl) (ty := .byte) (v' := (.int (0 : Int32))) (by decide) rfl (by decide) (g := (mkF m 48 #[.val (.ref ad1), .val (.ref ad2), .val (.int (0 : Int32)), .val (.int (2 : Int32)), .val .null, .val (.ref b3_0)] [(.int (0 : Int32)), (.ref ad1)])) rfl rfl (hb hby d3_48)
  have N7 := Fr.snoc X7 N4 nn_ad1
  have old7 := old3.wr W7 nn_ad1
  have kp7 := kp3.wr W7 (Or.inl (List.mem_of_getElem? (i := 0) rfl))
  have F7 := f5.same W7
  refine Go.fin st7 ?_
  show Go p e below _ (T7.setTop (mkF m 51 _ []))
  refine gs.aloadN X7.here hx (hb hby d3_51) rfl rfl ?_
  refine gs.aload X7.here hx (hb hby d3_52) rfl rfl ?_
  have f8 := ((HF_ad1_String_value.keep K3 nin0).other W7 (Or.inr (sn1 hw)))
  have f9 := (f6.wr W7)
  obtain ⟨T10, h10, X10, e10, W10, st10⟩ := putF X7 hx hZ hown (host := "") (Or.inl (wd hw 24 rfl)) Via.refl e7 f8 f9 (Or.inr ⟨(wd hw 20 rfl), rfl, hnm⟩) (wd hw 5 rfl) (ty := (.array .byte)) (by decide) rfl rfl (g := (mkF m 54 #[.val (.ref ad1), .val (.ref ad2), .val (.int (0 : Int32)), .val (.int (2 : Int32)), .val .null, .val (.ref b3_0)] [(.ref b3_0), (.ref ad1)])) rfl rfl (hb hby d3_54)
  have N10 := Fr.snoc X10 N7 nn_ad1
  have old10 := old7.wr W10 nn_ad1
  have kp10 := kp7.wr W10 (Or.inl (List.mem_of_getElem? (i := 0) rfl))
  have F10 := f8.same W10
  refine Go.fin st10 ?_
  show Go p e below _ (T10.setTop (mkF m 57 _ []))
  have f11 := (f9.wr W10)
  have f12 := (F7.other W10 (Or.inr (sn0 hw)))
  have ne_ad1_b3_0 : ad1 ≠ b3_0 := Nat.ne_of_lt (Nat.lt_of_lt_of_le HE_ad1.lt gb_b3_0)
  have f13 := ((p3_0.other W7 (Ne.symm ne_ad1_b3_0)).other W10 (Ne.symm ne_ad1_b3_0))
  refine Go.retV X10 hx Bd.returns Bd.notSynchronized (hb hby d3_57) (by rw [e10]; exact ⟨b3_0, kx3_0, rfl, sz_b3_0, N10, kp10, f11, f12, F10, f13⟩) (by decide) (by decide)
def Q_am2_1 (Z : State) (cs_ : Int32) (a_TEXT : Addr) (ad1 : Addr) (ad2 : Addr) (kc1 : ClassId) (iv1 : Int32) (iv2 : Int32) (h0 : Heap) (n0 : Nat) (v : Option Value) (h : Heap) (L : List Loc) : Prop := ∃ fr1 : Addr, ∃ kx1 : ClassId, v = none ∧ h0.size ≤ fr1 ∧ Fr n0 L ∧ Keep h0 h [ad1] ∧ (Exa Z h ad1 "java/lang/String") ∧ (Fld Z h ad1 "java/lang/String" "coder" "B" (.int (0 : Int32))) ∧ (Fld Z h ad1 "java/lang/String" "value" "[B" (.ref fr1)) ∧ (Arv Z h fr1 kx1 .byte (2 : Int32) [(.int ((iv1.toInt8.toInt32).toInt8.toInt32)), (.int ((iv2.toInt8.toInt32).toInt8.toInt32))] (.int (0 : Int32)))
set_option maxRecDepth 65536 in
set_option maxHeartbeats 40000000 in
theorem am2_1 (l : Launch) (Z : State) (a0 : Array Value) (hw : ∀ d ∈ tables_1, d.before a0 Z = true) (ws : List Jvm.Cond) (cs_ : Int32) (a_TEXT : Addr) (HW : Wd Z cs_ a_TEXT) (ad1 : Addr) (ad2 : Addr) (kc1 : ClassId) (iv1 : Int32) (iv2 : Int32) (h0 : Heap) (n0 : Nat) (Ol : Old Z n0 h0) (HE_ad1 : Exa Z h0 ad1 "java/lang/String") (HF_ad1_String_value : Fld Z h0 ad1 "java/lang/String" "value" "[B" .null) (HF_ad1_String_coder : Fld Z h0 ad1 "java/lang/String" "coder" "B" (.int (0 : Int32))) (HV_ad2 : Arv Z h0 ad2 kc1 .char (2 : Int32) [(.int iv1), (.int iv2)] (.int (0 : Int32))) (nn_ad1 : n0 ≤ ad1) (as0 : ¬ ((255 : Int32) < iv1)) (as1 : ¬ ((255 : Int32) < iv2)) :
    MetFree l y_2 (head1 (Jvm.Cond.code y_2 jdk_42_method_3_code 2 none :: ws) (rm 3 1 2 52)) (fun a_ U_ => a_ = #[(.ref ad1), (.ref ad2)] ∧ Z.Warmed39 U_.vm ∧ U_.heap = h0) (fun _ _ _ _ _ => True) (fun _ U_ o_ V_ => ∃ v_ L_, o_ = .returned v_ ∧ Q_am2_1 Z cs_ a_TEXT ad1 ad2 kc1 iv1 iv2 h0 n0 v_ V_.heap L_ ∧ FrameEnd U_ o_ V_ L_ (rm 3 1 2 52).cells (rm 3 1 2 52).slots) := by
  refine MetFree.of_bodySF (plainFor_of_name pn_0) hisR ?_
  intro p e s m args below meth c s₁ Bd hml0 hP hK
  obtain ⟨rfl, hZ, hh⟩ := hP
  have hx := Bd.exec
  have hby := Bd.bytes
  have hml : c.maxLocals = 2 := hml0
  have hown : s.vm.findClass "java/lang/String" = some m.cls := findClass_of_methodNamed Bd.named
  have hnm := (name_of_methodNamed Bd.named Bd.method).1
  have X0 : Stand p l e (rm 3 1 2 52) s m #[(.ref ad1), (.ref ad2)] below meth c s₁ [] 0 0 := Stand.of_body Bd
  have e0 : s₁.heap = h0 := by rw [← hh, Bd.state]; rfl
  have N0 := Fr.nil n0
  have kp0 := Keep.refl h0 [ad1]
  show Go p e below (Fin1 s below (Q_am2_1 Z cs_ a_TEXT ad1 ad2 kc1 iv1 iv2 h0 n0) (rm 3 1 2 52).cells (rm 3 1 2 52).slots) _
  refine Go.step (fun t_ k_ => castTop (ef_rm_in0 m ad1 ad2) k_) ?_
  obtain ⟨S_cs, N_cs, Ea_TEXT, Sa_TEXT⟩ := id HW
  show Go p e below _ (s₁.setTop (mkF m 0 #[.val (.ref ad1), .val (.ref ad2)] []))
  refine gs.aloadN X0.here hx (hb hby d2_0) rfl rfl ?_
  refine gs.aloadN X0.here hx (hb hby d2_1) rfl rfl ?_
  refine gs.iconst 0 X0.here hx (hb hby d2_2) rfl ?_
  refine gs.aloadN X0.here hx (hb hby d2_3) rfl rfl ?_
  obtain ⟨cl1, Ar1, -, Sz1, Ng1, -, -⟩ := id HV_ad2
  refine Go.fin (fun t_ k_ => X0.arraylength hx (by rw [e0]; exact Ar1.1) (State.isArrayOf_alike hZ.alike Ar1.2.1) (g := mkF m 4 _ _) rfl rfl (hb hby d2_4) _ k_) ?_
  rw [len_of Sz1 Ng1]
  show Go p e below _ (s₁.setTop (mkF m 5 _ [(.int (2 : Int32)), (.int (0 : Int32)), (.ref ad2), (.ref ad1)]))
  refine gs.aconstNull X0.here hx (hb hby d2_5) ?_
  refine gs.init 0 X0 hx hZ hown (am3_1 l Z a0 hw [] cs_ a_TEXT HW (ad1) (ad2) (kc1) (iv1) (iv2) h0 n0 Ol HE_ad1 HF_ad1_String_value HF_ad1_String_coder HV_ad2 nn_ad1 as0 as1) (wd hw 14 rfl) (wd hw 6 rfl) (wd hw 11 rfl) rfl (wd hw 12 rfl) (by decide) (by decide) (by decide) (by rw [hml]; rfl) [(.ref ad2), (.int (0 : Int32)), (.int (2 : Int32)), .null] (lenOf pd_0 rfl) rfl (Nat.le_of_eq rfl) (hb hby d2_6) rfl e0 (by decide) (by decide) fun T2 Lc2 v2 X2 hQ2 => ?_
  obtain ⟨b2_0, kx2_0, rfl, gb_b2_0, Nq2, K2, p2_0, p2_1, p2_2, p2_3⟩ := hQ2
  have nn_b2_0 : n0 ≤ b2_0 := Nat.le_trans (old_z0 Ol) gb_b2_0
  have sz_b2_0 : h0.size ≤ b2_0 := Nat.le_trans kp0.1 gb_b2_0
  have old2 := Ol.keep K2 (allS nn_ad1 all0)
  have kp2 := kp0.trans K2 (allS (Or.inl (List.mem_of_getElem? (i := 0) rfl)) all0)
  have N2 := Fr.app N0 Nq2
  show Go p e below _ (T2.setTop (mkF m 9 _ []))
  refine Go.retV X2 hx Bd.returns Bd.notSynchronized (hb hby d2_9) (by exact ⟨b2_0, kx2_0, rfl, sz_b2_0, N2, kp2, p2_0, p2_1, p2_2, p2_3⟩) (by decide) (by decide)
theorem d1_82 : decode c_1 82 = .ok (.areturn, 1) := by decide +kernel
theorem d1_83 : decode c_1 83 = .ok (.new 7, 3) := by decide +kernel
theorem d1_86 : decode c_1 86 = .ok (.dup, 1) := by decide +kernel
theorem d1_87 : decode c_1 87 = .ok (.iconst 3, 1) := by decide +kernel
theorem d1_88 : decode c_1 88 = .ok (.newarray .char, 2) := by decide +kernel
theorem d1_90 : decode c_1 90 = .ok (.dup, 1) := by decide +kernel
theorem d1_91 : decode c_1 91 = .ok (.iconst 0, 1) := by decide +kernel
theorem d1_92 : decode c_1 92 = .ok (.iload_n 2, 1) := by decide +kernel
theorem d1_93 : decode c_1 93 = .ok (.castore, 1) := by decide +kernel
theorem d1_94 : decode c_1 94 = .ok (.dup, 1) := by decide +kernel
theorem d1_95 : decode c_1 95 = .ok (.iconst 1, 1) := by decide +kernel
theorem d1_96 : decode c_1 96 = .ok (.iload_n 3, 1) := by decide +kernel
theorem d1_97 : decode c_1 97 = .ok (.castore, 1) := by decide +kernel
theorem d1_98 : decode c_1 98 = .ok (.dup, 1) := by decide +kernel
theorem d1_99 : decode c_1 99 = .ok (.iconst 2, 1) := by decide +kernel
theorem d1_100 : decode c_1 100 = .ok (.iload 4, 2) := by decide +kernel
theorem d1_102 : decode c_1 102 = .ok (.castore, 1) := by decide +kernel
theorem d1_103 : decode c_1 103 = .ok (.invokespecial 9, 3) := by decide +kernel
def Q_am6_2 (Z : State) (cs_ : Int32) (a_TEXT : Addr) (ad1 : Addr) (ad2 : Addr) (kc1 : ClassId) (iv1 : Int32) (iv2 : Int32) (iv3 : Int32) (kc2 : ClassId) (h0 : Heap) (n0 : Nat) (v : Option Value) (h : Heap) (L : List Loc) : Prop := v = some (.int (3 : Int32)) ∧ Fr n0 L ∧ Keep h0 h [ad2] ∧ (Arv Z h ad2 kc2 .byte (3 : Int32) [(.int ((iv1.toInt8.toInt32).toInt8.toInt32)), (.int ((iv2.toInt8.toInt32).toInt8.toInt32)), (.int ((iv3.toInt8.toInt32).toInt8.toInt32))] (.int (0 : Int32)))
set_option maxRecDepth 65536 in
set_option maxHeartbeats 40000000 in
theorem am6_2 (l : Launch) (Z : State) (a0 : Array Value) (hw : ∀ d ∈ tables_1, d.before a0 Z = true) (ws : List Jvm.Cond) (cs_ : Int32) (a_TEXT : Addr) (HW : Wd Z cs_ a_TEXT) (ad1 : Addr) (ad2 : Addr) (kc1 : ClassId) (iv1 : Int32) (iv2 : Int32) (iv3 : Int32) (kc2 : ClassId) (h0 : Heap) (n0 : Nat) (Ol : Old Z n0 h0) (HV_ad1 : Arv Z h0 ad1 kc1 .char (3 : Int32) [(.int iv1), (.int iv2), (.int iv3)] (.int (0 : Int32))) (HV_ad2 : Arv Z h0 ad2 kc2 .byte (3 : Int32) [(.int (0 : Int32)), (.int (0 : Int32)), (.int (0 : Int32))] (.int (0 : Int32))) (nn_ad2 : n0 ≤ ad2) (ne_ad1_ad2 : ad1 ≠ ad2) (as0 : ¬ ((255 : Int32) < iv1)) (as1 : ¬ ((255 : Int32) < iv2)) (as2 : ¬ ((255 : Int32) < iv3)) :
    MetFree l y_6 (head1 (Jvm.Cond.code y_6 jdk_52_method_21_code 7 (some .int) :: ws) (rm 0 0 0 0)) (fun a_ U_ => a_ = #[(.ref ad1), (.int (0 : Int32)), (.ref ad2), (.int (0 : Int32)), (.int (3 : Int32))] ∧ Z.Warmed39 U_.vm ∧ U_.heap = h0) (fun _ _ _ _ _ => True) (fun _ U_ o_ V_ => ∃ v_ L_, o_ = .returned v_ ∧ Q_am6_2 Z cs_ a_TEXT ad1 ad2 kc1 iv1 iv2 iv3 kc2 h0 n0 v_ V_.heap L_ ∧ FrameEnd U_ o_ V_ L_ (rm 0 0 0 0).cells (rm 0 0 0 0).slots) := by
  refine MetFree.of_bodySF (plainFor_of_name pn_2) hisR ?_
  intro p e s m args below meth c s₁ Bd hml0 hP hK
  obtain ⟨rfl, hZ, hh⟩ := hP
  have hx := Bd.exec
  have hby := Bd.bytes
  have hml : c.maxLocals = 7 := hml0
  have hown : s.vm.findClass "java/lang/StringUTF16" = some m.cls := findClass_of_methodNamed Bd.named
  have hnm := (name_of_methodNamed Bd.named Bd.method).1
  have X0 : Stand p l e (rm 0 0 0 0) s m #[(.ref ad1), (.int (0 : Int32)), (.ref ad2), (.int (0 : Int32)), (.int (3 : Int32))] below meth c s₁ [] 0 0 := Stand.of_body Bd
  have e0 : s₁.heap = h0 := by rw [← hh, Bd.state]; rfl
  have N0 := Fr.nil n0
  have kp0 := Keep.refl h0 [ad2]
  show Go p e below (Fin1 s below (Q_am6_2 Z cs_ a_TEXT ad1 ad2 kc1 iv1 iv2 iv3 kc2 h0 n0) (rm 0 0 0 0).cells (rm 0 0 0 0).slots) _
  refine Go.step (fun t_ k_ => castTop (ef_am6_1 m ad1 (0 : Int32) ad2 (0 : Int32) (3 : Int32)) k_) ?_
  obtain ⟨S_cs, N_cs, Ea_TEXT, Sa_TEXT⟩ := id HW
  show Go p e below _ (s₁.setTop (mkF m 0 #[.val (.ref ad1), .val (.int (0 : Int32)), .val (.ref ad2), .val (.int (0 : Int32)), .val (.int (3 : Int32)), .unset, .unset] []))
  refine gs.iconst 0 X0.here hx (hb hby d6_0) rfl ?_
  refine gs.istore X0.here hx (hb hby d6_1) (l' := #[.val (.ref ad1), .val (.int (0 : Int32)), .val (.ref ad2), .val (.int (0 : Int32)), .val (.int (3 : Int32)), .val (.int (0 : Int32)), .unset]) rfl ?_
  refine gs.iload X0.here hx (hb hby d6_3) rfl ?_
  refine gs.iload X0.here hx (hb hby d6_5) rfl ?_
  have hc7 : (0 : Int32) < (3 : Int32) := by decide
  refine gs.icmpNo X0.here hx (hb hby d6_7) (tlt hc7).2.1 ?_
  refine gs.aloadN X0.here hx (hb hby d6_10) rfl rfl ?_
  refine gs.iloadN X0.here hx (hb hby d6_11) rfl ?_
  obtain ⟨cl1, Ar1, q1, Sz1, Ng1, Hs1, G1⟩ := id HV_ad1
  have hin1 : ¬ ((0 : Int32) < 0 ∨ cl1.slots.size ≤ ((0 : Int32)).toNatClampNeg) := inb_of Sz1 ⟨by decide, by decide⟩
  have hat1 : cl1.slots[((0 : Int32)).toNatClampNeg]? = some (.int iv1) := Has.at Hs1 hin1 rfl
  refine Go.fin (fun t_ k_ => X0.caload hx (j := (0 : Int32)) (v := (.int iv1)) (by rw [e0]; exact Ar1.1) (State.isArrayOf_alike hZ.alike Ar1.2.1) Ar1.2.2 hin1 hat1 (g := mkF m 12 _ _) rfl rfl (hb hby d6_12) _ k_) ?_
  show Go p e below _ (s₁.setTop (mkF m 13 _ [(.int iv1)]))
  refine gs.istore X0.here hx (hb hby d6_13) (l' := #[.val (.ref ad1), .val (.int (0 : Int32)), .val (.ref ad2), .val (.int (0 : Int32)), .val (.int (3 : Int32)), .val (.int (0 : Int32)), .val (.int iv1)]) rfl ?_
  refine gs.iload X0.here hx (hb hby d6_15) rfl ?_
  refine gs.sipush 255 X0.here hx (hb hby d6_17) rfl ?_
  have hc20 : ¬ ((255 : Int32) < iv1) := as0
  refine gs.icmpYes 26 X0.here hx (hb hby d6_20) (flt hc20).2.2.2 rfl ?_
  refine gs.aloadN X0.here hx (hb hby d6_26) rfl rfl ?_
  refine gs.iloadN X0.here hx (hb hby d6_27) rfl ?_
  refine gs.iload X0.here hx (hb hby d6_28) rfl ?_
  refine Go.fin (fun t_ k_ => XS.i2b X0.here hx rfl (hb hby d6_30) rfl k_) ?_
  show Go p e below _ (s₁.setTop (mkF m 31 _ [(.int (iv1.toInt8.toInt32)), (.int (0 : Int32)), (.ref ad2)]))
  obtain ⟨cl2, Ar2, q2, Sz2, Ng2, Hs2, G2⟩ := id HV_ad2
  have hin2 : ¬ ((0 : Int32) < 0 ∨ cl2.slots.size ≤ ((0 : Int32)).toNatClampNeg) := inb_of Sz2 ⟨by decide, by decide⟩
  obtain ⟨T3, h3, X3, e3, W3, st3⟩ := stB X0 hx hZ e0 Ar2 (j := (0 : Int32)) hin2 (g := (mkF m 31 #[.val (.ref ad1), .val (.int (0 : Int32)), .val (.ref ad2), .val (.int (0 : Int32)), .val (.int (3 : Int32)), .val (.int (0 : Int32)), .val (.int iv1)] [(.int (iv1.toInt8.toInt32)), (.int (0 : Int32)), (.ref ad2)])) rfl rfl (hb hby d6_31)
  have N3 := Fr.snoc X3 N0 nn_ad2
  have old3 := Ol.wr W3 nn_ad2
  have kp3 := kp0.wr W3 (Or.inl (List.mem_of_getElem? (i := 0) rfl))
  have V3 : Arv Z h3 ad2 kc2 .byte (3 : Int32) [(.int ((iv1.toInt8.toInt32).toInt8.toInt32)), (.int (0 : Int32)), (.int (0 : Int32))] (.int (0 : Int32)) := Arv.set Ar2 q2 Sz2 Ng2 Hs2 G2 (fits_nar_byte _) W3 0 rfl (Nat.le_of_ble_eq_true rfl)
  refine Go.fin st3 ?_
  show Go p e below _ (T3.setTop (mkF m 32 _ []))
  refine Go.step (fun t_ k_ => XS.iinc X3.here hx rfl (hb hby d6_32) rfl (l' := #[.val (.ref ad1), .val (.int ((0 : Int32) + (1 : Int32))), .val (.ref ad2), .val (.int (0 : Int32)), .val (.int (3 : Int32)), .val (.int (0 : Int32)), .val (.int iv1)]) rfl k_) ?_
  show Go p e below _ (T3.setTop (mkF m 35 #[.val (.ref ad1), .val (.int ((0 : Int32) + (1 : Int32))), .val (.ref ad2), .val (.int (0 : Int32)), .val (.int (3 : Int32)), .val (.int (0 : Int32)), .val (.int iv1)] []))
  rw [show ((0 : Int32) + (1 : Int32)) = (1 : Int32) from by decide]
  refine Go.step (fun t_ k_ => XS.iinc X3.here hx rfl (hb hby d6_35) rfl (l' := #[.val (.ref ad1), .val (.int (1 : Int32)), .val (.ref ad2), .val (.int ((0 : Int32) + (1 : Int32))), .val (.int (3 : Int32)), .val (.int (0 : Int32)), .val (.int iv1)]) rfl k_) ?_
  show Go p e below _ (T3.setTop (mkF m 38 #[.val (.ref ad1), .val (.int (1 : Int32)), .val (.ref ad2), .val (.int ((0 : Int32) + (1 : Int32))), .val (.int (3 : Int32)), .val (.int (0 : Int32)), .val (.int iv1)] []))
  rw [show ((0 : Int32) + (1 : Int32)) = (1 : Int32) from by decide]
  refine Go.step (fun t_ k_ => XS.iinc X3.here hx rfl (hb hby d6_38) rfl (l' := #[.val (.ref ad1), .val (.int (1 : Int32)), .val (.ref ad2), .val (.int (1 : Int32)), .val (.int (3 : Int32)), .val (.int ((0 : Int32) + (1 : Int32))), .val (.int iv1)]) rfl k_) ?_
  show Go p e below _ (T3.setTop (mkF m 41 #[.val (.ref ad1), .val (.int (1 : Int32)), .val (.ref ad2), .val (.int (1 : Int32)), .val (.int (3 : Int32)), .val (.int ((0 : Int32) + (1 : Int32))), .val (.int iv1)] []))
  rw [show ((0 : Int32) + (1 : Int32)) = (1 : Int32) from by decide]
  refine gs.goto 3 X3.here hx (hb hby d6_41) rfl ?_
  refine gs.iload X3.here hx (hb hby d6_3) rfl ?_
  refine gs.iload X3.here hx (hb hby d6_5) rfl ?_
  have hc7_2 : (1 : Int32) < (3 : Int32) := by decide
  refine gs.icmpNo X3.here hx (hb hby d6_7) (tlt hc7_2).2.1 ?_
  refine gs.aloadN X3.here hx (hb hby d6_10) rfl rfl ?_
  refine gs.iloadN X3.here hx (hb hby d6_11) rfl ?_
  have f4 := (HV_ad1.other W3 ne_ad1_ad2)
  obtain ⟨cl5, Ar5, q5, Sz5, Ng5, Hs5, G5⟩ := id f4
  have hin5 : ¬ ((1 : Int32) < 0 ∨ cl5.slots.size ≤ ((1 : Int32)).toNatClampNeg) := inb_of Sz5 ⟨by decide, by decide⟩
  have hat5 : cl5.slots[((1 : Int32)).toNatClampNeg]? = some (.int iv2) := Has.at Hs5 hin5 rfl
  refine Go.fin (fun t_ k_ => X3.caload hx (j := (1 : Int32)) (v := (.int iv2)) (by rw [e3]; exact Ar5.1) (State.isArrayOf_alike hZ.alike Ar5.2.1) Ar5.2.2 hin5 hat5 (g := mkF m 12 _ _) rfl rfl (hb hby d6_12) _ k_) ?_
  show Go p e below _ (T3.setTop (mkF m 13 _ [(.int iv2)]))
  refine gs.istore X3.here hx (hb hby d6_13) (l' := #[.val (.ref ad1), .val (.int (1 : Int32)), .val (.ref ad2), .val (.int (1 : Int32)), .val (.int (3 : Int32)), .val (.int (1 : Int32)), .val (.int iv2)]) rfl ?_
  refine gs.iload X3.here hx (hb hby d6_15) rfl ?_
  refine gs.sipush 255 X3.here hx (hb hby d6_17) rfl ?_
  have hc20_2 : ¬ ((255 : Int32) < iv2) := as1
  refine gs.icmpYes 26 X3.here hx (hb hby d6_20) (flt hc20_2).2.2.2 rfl ?_
  refine gs.aloadN X3.here hx (hb hby d6_26) rfl rfl ?_
  refine gs.iloadN X3.here hx (hb hby d6_27) rfl ?_
  refine gs.iload X3.here hx (hb hby d6_28) rfl ?_
  refine Go.fin (fun t_ k_ => XS.i2b X3.here hx rfl (hb hby d6_30) rfl k_) ?_
  show Go p e below _ (T3.setTop (mkF m 31 _ [(.int (iv2.toInt8.toInt32)), (.int (1 : Int32)), (.ref ad2)]))
  obtain ⟨cl6, Ar6, q6, Sz6, Ng6, Hs6, G6⟩ := id V3
  have hin6 : ¬ ((1 : Int32) < 0 ∨ cl6.slots.size ≤ ((1 : Int32)).toNatClampNeg) := inb_of Sz6 ⟨by decide, by decide⟩
  obtain ⟨T7, h7, X7, e7, W7, st7⟩ := stB X3 hx hZ e3 Ar6 (j := (1 : Int32)) hin6 (g := (mkF m 31 #[.val (.ref ad1), .val (.int (1 : Int32)), .val (.ref ad2), .val (.int (1 : Int32)), .val (.int (3 : Int32)), .val (.int (1 : Int32)), .val (.int iv2)] [(.int (iv2.toInt8.toInt32)), (.int (1 : Int32)), (.ref ad2)])) rfl rfl (hb hby d6_31)
  have N7 := Fr.snoc X7 N3 nn_ad2
  have old7 := old3.wr W7 nn_ad2
  have kp7 := kp3.wr W7 (Or.inl (List.mem_of_getElem? (i := 0) rfl))
  have V7 : Arv Z h7 ad2 kc2 .byte (3 : Int32) [(.int ((iv1.toInt8.toInt32).toInt8.toInt32)), (.int ((iv2.toInt8.toInt32).toInt8.toInt32)), (.int (0 : Int32))] (.int (0 : Int32)) := Arv.set Ar6 q6 Sz6 Ng6 Hs6 G6 (fits_nar_byte _) W7 1 rfl (Nat.le_of_ble_eq_true rfl)
  refine Go.fin st7 ?_
  show Go p e below _ (T7.setTop (mkF m 32 _ []))
  refine Go.step (fun t_ k_ => XS.iinc X7.here hx rfl (hb hby d6_32) rfl (l' := #[.val (.ref ad1), .val (.int ((1 : Int32) + (1 : Int32))), .val (.ref ad2), .val (.int (1 : Int32)), .val (.int (3 : Int32)), .val (.int (1 : Int32)), .val (.int iv2)]) rfl k_) ?_
  show Go p e below _ (T7.setTop (mkF m 35 #[.val (.ref ad1), .val (.int ((1 : Int32) + (1 : Int32))), .val (.ref ad2), .val (.int (1 : Int32)), .val (.int (3 : Int32)), .val (.int (1 : Int32)), .val (.int iv2)] []))
  rw [show ((1 : Int32) + (1 : Int32)) = (2 : Int32) from by decide]
  refine Go.step (fun t_ k_ => XS.iinc X7.here hx rfl (hb hby d6_35) rfl (l' := #[.val (.ref ad1), .val (.int (2 : Int32)), .val (.ref ad2), .val (.int ((1 : Int32) + (1 : Int32))), .val (.int (3 : Int32)), .val (.int (1 : Int32)), .val (.int iv2)]) rfl k_) ?_
  show Go p e below _ (T7.setTop (mkF m 38 #[.val (.ref ad1), .val (.int (2 : Int32)), .val (.ref ad2), .val (.int ((1 : Int32) + (1 : Int32))), .val (.int (3 : Int32)), .val (.int (1 : Int32)), .val (.int iv2)] []))
  rw [show ((1 : Int32) + (1 : Int32)) = (2 : Int32) from by decide]
  refine Go.step (fun t_ k_ => XS.iinc X7.here hx rfl (hb hby d6_38) rfl (l' := #[.val (.ref ad1), .val (.int (2 : Int32)), .val (.ref ad2), .val (.int (2 : Int32)), .val (.int (3 : Int32)), .val (.int ((1 : Int32) + (1 : Int32))), .val (.int iv2)]) rfl k_) ?_
  show Go p e below _ (T7.setTop (mkF m 41 #[.val (.ref ad1), .val (.int (2 : Int32)), .val (.ref ad2), .val (.int (2 : Int32)), .val (.int (3 : Int32)), .val (.int ((1 : Int32) + (1 : Int32))), .val (.int iv2)] []))
  rw [show ((1 : Int32) + (1 : Int32)) = (2 : Int32) from by decide]
  refine gs.goto 3 X7.here hx (hb hby d6_41) rfl ?_
  refine gs.iload X7.here hx (hb hby d6_3) rfl ?_
  refine gs.iload X7.here hx (hb hby d6_5) rfl ?_
  have hc7_3 : (2 : Int32) < (3 : Int32) := by decide
  refine gs.icmpNo X7.here hx (hb hby d6_7) (tlt hc7_3).2.1 ?_
  refine gs.aloadN X7.here hx (hb hby d6_10) rfl rfl ?_
  refine gs.iloadN X7.here hx (hb hby d6_11) rfl ?_
  have f8 := (f4.other W7 ne_ad1_ad2)
  obtain ⟨cl9, Ar9, q9, Sz9, Ng9, Hs9, G9⟩ := id f8
  have hin9 : ¬ ((2 : Int32) < 0 ∨ cl9.slots.size ≤ ((2 : Int32)).toNatClampNeg) := inb_of Sz9 ⟨by decide, by decide⟩
  have hat9 : cl9.slots[((2 : Int32)).toNatClampNeg]? = some (.int iv3) := Has.at Hs9 hin9 rfl
  refine Go.fin (fun t_ k_ => X7.caload hx (j := (2 : Int32)) (v := (.int iv3)) (by rw [e7]; exact Ar9.1) (State.isArrayOf_alike hZ.alike Ar9.2.1) Ar9.2.2 hin9 hat9 (g := mkF m 12 _ _) rfl rfl (hb hby d6_12) _ k_) ?_
  show Go p e below _ (T7.setTop (mkF m 13 _ [(.int iv3)]))
  refine gs.istore X7.here hx (hb hby d6_13) (l' := #[.val (.ref ad1), .val (.int (2 : Int32)), .val (.ref ad2), .val (.int (2 : Int32)), .val (.int (3 : Int32)), .val (.int (2 : Int32)), .val (.int iv3)]) rfl ?_
  refine gs.iload X7.here hx (hb hby d6_15) rfl ?_
  refine gs.sipush 255 X7.here hx (hb hby d6_17) rfl ?_
  have hc20_3 : ¬ ((255 : Int32) < iv3) := as2
  refine gs.icmpYes 26 X7.here hx (hb hby d6_20) (flt hc20_3).2.2.2 rfl ?_
  refine gs.aloadN X7.here hx (hb hby d6_26) rfl rfl ?_
  refine gs.iloadN X7.here hx (hb hby d6_27) rfl ?_
  refine gs.iload X7.here hx (hb hby d6_28) rfl ?_
  refine Go.fin (fun t_ k_ => XS.i2b X7.here hx rfl (hb hby d6_30) rfl k_) ?_
  show Go p e below _ (T7.setTop (mkF m 31 _ [(.int (iv3.toInt8.toInt32)), (.int (2 : Int32)), (.ref ad2)]))
  obtain ⟨cl10, Ar10, q10, Sz10, Ng10, Hs10, G10⟩ := id V7
  have hin10 : ¬ ((2 : Int32) < 0 ∨ cl10.slots.size ≤ ((2 : Int32)).toNatClampNeg) := inb_of Sz10 ⟨by decide, by decide⟩
  obtain ⟨T11, h11, X11, e11, W11, st11⟩ := stB X7 hx hZ e7 Ar10 (j := (2 : Int32)) hin10 (g := (mkF m 31 #[.val (.ref ad1), .val (.int (2 : Int32)), .val (.ref ad2), .val (.int (2 : Int32)), .val (.int (3 : Int32)), .val (.int (2 : Int32)), .val (.int iv3)] [(.int (iv3.toInt8.toInt32)), (.int (2 : Int32)), (.ref ad2)])) rfl rfl (hb hby d6_31)
  have N11 := Fr.snoc X11 N7 nn_ad2
  have old11 := old7.wr W11 nn_ad2
  have kp11 := kp7.wr W11 (Or.inl (List.mem_of_getElem? (i := 0) rfl))
  have V11 : Arv Z h11 ad2 kc2 .byte (3 : Int32) [(.int ((iv1.toInt8.toInt32).toInt8.toInt32)), (.int ((iv2.toInt8.toInt32).toInt8.toInt32)), (.int ((iv3.toInt8.toInt32).toInt8.toInt32))] (.int (0 : Int32)) := Arv.set Ar10 q10 Sz10 Ng10 Hs10 G10 (fits_nar_byte _) W11 2 rfl (Nat.le_of_ble_eq_true rfl)
  refine Go.fin st11 ?_
  show Go p e below _ (T11.setTop (mkF m 32 _ []))
  refine Go.step (fun t_ k_ => XS.iinc X11.here hx rfl (hb hby d6_32) rfl (l' := #[.val (.ref ad1), .val (.int ((2 : Int32) + (1 : Int32))), .val (.ref ad2), .val (.int (2 : Int32)), .val (.int (3 : Int32)), .val (.int (2 : Int32)), .val (.int iv3)]) rfl k_) ?_
  show Go p e below _ (T11.setTop (mkF m 35 #[.val (.ref ad1), .val (.int ((2 : Int32) + (1 : Int32))), .val (.ref ad2), .val (.int (2 : Int32)), .val (.int (3 : Int32)), .val (.int (2 : Int32)), .val (.int iv3)] []))
  rw [show ((2 : Int32) + (1 : Int32)) = (3 : Int32) from by decide]
  refine Go.step (fun t_ k_ => XS.iinc X11.here hx rfl (hb hby d6_35) rfl (l' := #[.val (.ref ad1), .val (.int (3 : Int32)), .val (.ref ad2), .val (.int ((2 : Int32) + (1 : Int32))), .val (.int (3 : Int32)), .val (.int (2 : Int32)), .val (.int iv3)]) rfl k_) ?_
  show Go p e below _ (T11.setTop (mkF m 38 #[.val (.ref ad1), .val (.int (3 : Int32)), .val (.ref ad2), .val (.int ((2 : Int32) + (1 : Int32))), .val (.int (3 : Int32)), .val (.int (2 : Int32)), .val (.int iv3)] []))
  rw [show ((2 : Int32) + (1 : Int32)) = (3 : Int32) from by decide]
  refine Go.step (fun t_ k_ => XS.iinc X11.here hx rfl (hb hby d6_38) rfl (l' := #[.val (.ref ad1), .val (.int (3 : Int32)), .val (.ref ad2), .val (.int (3 : Int32)), .val (.int (3 : Int32)), .val (.int ((2 : Int32) + (1 : Int32))), .val (.int iv3)]) rfl k_) ?_
  show Go p e below _ (T11.setTop (mkF m 41 #[.val (.ref ad1), .val (.int (3 : Int32)), .val (.ref ad2), .val (.int (3 : Int32)), .val (.int (3 : Int32)), .val (.int ((2 : Int32) + (1 : Int32))), .val (.int iv3)] []))
  rw [show ((2 : Int32) + (1 : Int32)) = (3 : Int32) from by decide]
  refine gs.goto 3 X11.here hx (hb hby d6_41) rfl ?_
  refine gs.iload X11.here hx (hb hby d6_3) rfl ?_
  refine gs.iload X11.here hx (hb hby d6_5) rfl ?_
  have hc7_4 : ¬ ((3 : Int32) < (3 : Int32)) := by decide
  refine gs.icmpYes 44 X11.here hx (hb hby d6_7) (flt hc7_4).2.1 rfl ?_
  refine gs.iload X11.here hx (hb hby d6_44) rfl ?_
  refine Go.retI X11 hx Bd.returns Bd.notSynchronized (hb hby d6_46) (by rw [e11]; exact ⟨rfl, N11, kp11, V11⟩) (by decide) (by decide)
def Q_am5_2 (Z : State) (cs_ : Int32) (a_TEXT : Addr) (ad1 : Addr) (kc1 : ClassId) (iv1 : Int32) (iv2 : Int32) (iv3 : Int32) (h0 : Heap) (n0 : Nat) (v : Option Value) (h : Heap) (L : List Loc) : Prop := ∃ fr1 : Addr, ∃ kx1 : ClassId, v = some (.ref fr1) ∧ h0.size ≤ fr1 ∧ Fr n0 L ∧ Keep h0 h [] ∧ (Arv Z h fr1 kx1 .byte (3 : Int32) [(.int ((iv1.toInt8.toInt32).toInt8.toInt32)), (.int ((iv2.toInt8.toInt32).toInt8.toInt32)), (.int ((iv3.toInt8.toInt32).toInt8.toInt32))] (.int (0 : Int32)))
set_option maxRecDepth 65536 in
set_option maxHeartbeats 40000000 in
theorem am5_2 (l : Launch) (Z : State) (a0 : Array Value) (hw : ∀ d ∈ tables_1, d.before a0 Z = true) (ws : List Jvm.Cond) (cs_ : Int32) (a_TEXT : Addr) (HW : Wd Z cs_ a_TEXT) (ad1 : Addr) (kc1 : ClassId) (iv1 : Int32) (iv2 : Int32) (iv3 : Int32) (h0 : Heap) (n0 : Nat) (Ol : Old Z n0 h0) (HV_ad1 : Arv Z h0 ad1 kc1 .char (3 : Int32) [(.int iv1), (.int iv2), (.int iv3)] (.int (0 : Int32))) (as0 : ¬ ((255 : Int32) < iv1)) (as1 : ¬ ((255 : Int32) < iv2)) (as2 : ¬ ((255 : Int32) < iv3)) :
    MetFree l y_5 (head1 (Jvm.Cond.code y_5 jdk_52_method_16_code 6 (some (.array .byte)) :: ws) (rm 1 1 3 18)) (fun a_ U_ => a_ = #[(.ref ad1), (.int (0 : Int32)), (.int (3 : Int32))] ∧ Z.Warmed39 U_.vm ∧ U_.heap = h0) (fun _ _ _ _ _ => True) (fun _ U_ o_ V_ => ∃ v_ L_, o_ = .returned v_ ∧ Q_am5_2 Z cs_ a_TEXT ad1 kc1 iv1 iv2 iv3 h0 n0 v_ V_.heap L_ ∧ FrameEnd U_ o_ V_ L_ (rm 1 1 3 18).cells (rm 1 1 3 18).slots) := by
  refine MetFree.of_bodySF (plainFor_of_name pn_2) hisR ?_
  intro p e s m args below meth c s₁ Bd hml0 hP hK
  obtain ⟨rfl, hZ, hh⟩ := hP
  have hx := Bd.exec
  have hby := Bd.bytes
  have hml : c.maxLocals = 6 := hml0
  have hown : s.vm.findClass "java/lang/StringUTF16" = some m.cls := findClass_of_methodNamed Bd.named
  have hnm := (name_of_methodNamed Bd.named Bd.method).1
  have X0 : Stand p l e (rm 1 1 3 18) s m #[(.ref ad1), (.int (0 : Int32)), (.int (3 : Int32))] below meth c s₁ [] 0 0 := Stand.of_body Bd
  have e0 : s₁.heap = h0 := by rw [← hh, Bd.state]; rfl
  have N0 := Fr.nil n0
  have kp0 := Keep.refl h0 []
  show Go p e below (Fin1 s below (Q_am5_2 Z cs_ a_TEXT ad1 kc1 iv1 iv2 iv3 h0 n0) (rm 1 1 3 18).cells (rm 1 1 3 18).slots) _
  refine Go.step (fun t_ k_ => castTop (ef_am5_1 m ad1 (0 : Int32) (3 : Int32)) k_) ?_
  obtain ⟨S_cs, N_cs, Ea_TEXT, Sa_TEXT⟩ := id HW
  show Go p e below _ (s₁.setTop (mkF m 0 #[.val (.ref ad1), .val (.int (0 : Int32)), .val (.int (3 : Int32)), .unset, .unset, .unset] []))
  refine gs.iloadN X0.here hx (hb hby d5_0) rfl ?_
  obtain ⟨T1, h1, k1, X1, e1, E1, A1, st1⟩ := newP X0 hx hZ (wd hw 19 rfl) e0 (g := (mkF m 1 #[.val (.ref ad1), .val (.int (0 : Int32)), .val (.int (3 : Int32)), .unset, .unset, .unset] [(.int (3 : Int32))])) rfl (hb hby d5_1) rfl (by decide) (cap := 3) (by decide) (by decide) (by decide) (by decide)
  obtain ⟨b1, g1⟩ : ∃ z, z = h0.size := ⟨_, rfl⟩
  rw [← g1] at A1 st1
  have nn_b1 : n0 ≤ b1 := Nat.le_trans (old_z0 Ol) (Nat.le_of_eq g1.symm)
  have sz_b1 : h0.size ≤ b1 := Nat.le_trans kp0.1 (Nat.le_of_eq g1.symm)
  have old1 := Ol.ext E1
  have kp1 := kp0.ext E1
  have V1 : Arv Z h1 b1 k1 .byte (3 : Int32) [(.int (0 : Int32)), (.int (0 : Int32)), (.int (0 : Int32))] (.int (0 : Int32)) := (Arv.new A1 (by decide)).pad (pad_rep [] (.int (0 : Int32)) 3)
  refine Go.fin st1 ?_
  show Go p e below _ (T1.setTop (mkF m 3 _ [(.ref b1)]))
  refine gs.astoreN X1.here hx (hb hby d5_3) rfl (l' := #[.val (.ref ad1), .val (.int (0 : Int32)), .val (.int (3 : Int32)), .val (.ref b1), .unset, .unset]) rfl ?_
  refine gs.aloadN X1.here hx (hb hby d5_4) rfl rfl ?_
  refine gs.iloadN X1.here hx (hb hby d5_5) rfl ?_
  refine gs.aloadN X1.here hx (hb hby d5_6) rfl rfl ?_
  refine gs.iconst 0 X1.here hx (hb hby d5_7) rfl ?_
  refine gs.iloadN X1.here hx (hb hby d5_8) rfl ?_
  have f2 := (HV_ad1.ext E1)
  have ne_ad1_b1 : ad1 ≠ b1 := Nat.ne_of_lt (Nat.lt_of_lt_of_le HV_ad1.lt (Nat.le_of_eq g1.symm))
  refine gs.stat 0 X1 hx hZ hown (am6_2 l Z a0 hw [] cs_ a_TEXT HW (ad1) (b1) (kc1) (iv1) (iv2) (iv3) (k1) h1 n0 old1 f2 V1 nn_b1 ne_ad1_b1 as0 as1 as2) (wd hw 33 rfl) (wd hw 29 rfl) (wd hw 31 rfl) (wd hw 32 rfl) (by decide) (by decide) (by decide) (by rw [hml]; rfl) [(.ref ad1), (.int (0 : Int32)), (.ref b1), (.int (0 : Int32)), (.int (3 : Int32))] (lenOf pd_6 rfl) rfl (Nat.le_of_eq rfl) (hb hby d5_9) rfl e1 (by decide) (by decide) fun T3 Lc3 v3 X3 hQ3 => ?_
  obtain ⟨rfl, Nq3, K3, p3_0⟩ := hQ3
  have old3 := old1.keep K3 (allS nn_b1 all0)
  have kp3 := kp1.trans K3 (allS (Or.inr sz_b1) all0)
  have N3 := Fr.app N0 Nq3
  show Go p e below _ (T3.setTop (mkF m 12 _ [(.int (3 : Int32))]))
  refine gs.istore X3.here hx (hb hby d5_12) (l' := #[.val (.ref ad1), .val (.int (0 : Int32)), .val (.int (3 : Int32)), .val (.ref b1), .val (.int (3 : Int32)), .unset]) rfl ?_
  refine gs.iload X3.here hx (hb hby d5_14) rfl ?_
  refine gs.iloadN X3.here hx (hb hby d5_16) rfl ?_
  have hc17 : (3 : Int32) = (3 : Int32) := by decide
  refine gs.icmpYes 57 X3.here hx (hb hby d5_17) (teq hc17).1 rfl ?_
  refine gs.aloadN X3.here hx (hb hby d5_57) rfl rfl ?_
  refine Go.retR X3 hx Bd.returns rfl rfl Bd.notSynchronized (hb hby d5_58) (by exact ⟨b1, k1, rfl, sz_b1, N3, kp3, p3_0⟩) (by decide) (by decide)
def Q_am7_2 (Z : State) (cs_ : Int32) (a_TEXT : Addr) (ad1 : Addr) (kc1 : ClassId) (iv1 : Int32) (iv2 : Int32) (iv3 : Int32) (h0 : Heap) (n0 : Nat) (v : Option Value) (h : Heap) (L : List Loc) : Prop := v = some (.int (0 : Int32)) ∧ Fr n0 L ∧ h = h0
set_option maxRecDepth 65536 in
set_option maxHeartbeats 40000000 in
theorem am7_2 (l : Launch) (Z : State) (a0 : Array Value) (hw : ∀ d ∈ tables_1, d.before a0 Z = true) (ws : List Jvm.Cond) (cs_ : Int32) (a_TEXT : Addr) (HW : Wd Z cs_ a_TEXT) (ad1 : Addr) (kc1 : ClassId) (iv1 : Int32) (iv2 : Int32) (iv3 : Int32) (h0 : Heap) (n0 : Nat) (Ol : Old Z n0 h0) (HV_ad1 : Arv Z h0 ad1 kc1 .byte (3 : Int32) [(.int iv1), (.int iv2), (.int iv3)] (.int (0 : Int32))) :
    MetFree l y_7 (head1 (Jvm.Cond.code y_7 jdk_52_method_15_code 2 (some .byte) :: ws) (rm 0 0 0 0)) (fun a_ U_ => a_ = #[(.ref ad1), (.int (3 : Int32))] ∧ Z.Warmed39 U_.vm ∧ U_.heap = h0) (fun _ _ _ _ _ => True) (fun _ U_ o_ V_ => ∃ v_ L_, o_ = .returned v_ ∧ Q_am7_2 Z cs_ a_TEXT ad1 kc1 iv1 iv2 iv3 h0 n0 v_ V_.heap L_ ∧ FrameEnd U_ o_ V_ L_ (rm 0 0 0 0).cells (rm 0 0 0 0).slots) := by
  refine MetFree.of_bodySF (plainFor_of_name pn_2) hisR ?_
  intro p e s m args below meth c s₁ Bd hml0 hP hK
  obtain ⟨rfl, hZ, hh⟩ := hP
  have hx := Bd.exec
  have hby := Bd.bytes
  have hml : c.maxLocals = 2 := hml0
  have hown : s.vm.findClass "java/lang/StringUTF16" = some m.cls := findClass_of_methodNamed Bd.named
  have hnm := (name_of_methodNamed Bd.named Bd.method).1
  have X0 : Stand p l e (rm 0 0 0 0) s m #[(.ref ad1), (.int (3 : Int32))] below meth c s₁ [] 0 0 := Stand.of_body Bd
  have e0 : s₁.heap = h0 := by rw [← hh, Bd.state]; rfl
  have N0 := Fr.nil n0
  have kp0 := Keep.refl h0 []
  show Go p e below (Fin1 s below (Q_am7_2 Z cs_ a_TEXT ad1 kc1 iv1 iv2 iv3 h0 n0) (rm 0 0 0 0).cells (rm 0 0 0 0).slots) _
  refine Go.step (fun t_ k_ => castTop (ef_am7_1 m ad1 (3 : Int32)) k_) ?_
  obtain ⟨S_cs, N_cs, Ea_TEXT, Sa_TEXT⟩ := id HW
  show Go p e below _ (s₁.setTop (mkF m 0 #[.val (.ref ad1), .val (.int (3 : Int32))] []))
  refine gs.iloadN X0.here hx (hb hby d7_0) rfl ?_
  refine gs.aloadN X0.here hx (hb hby d7_1) rfl rfl ?_
  obtain ⟨cl1, Ar1, -, Sz1, Ng1, -, -⟩ := id HV_ad1
  refine Go.fin (fun t_ k_ => X0.arraylength hx (by rw [e0]; exact Ar1.1) (State.isArrayOf_alike hZ.alike Ar1.2.1) (g := mkF m 2 _ _) rfl rfl (hb hby d7_2) _ k_) ?_
  rw [len_of Sz1 Ng1]
  show Go p e below _ (s₁.setTop (mkF m 3 _ [(.int (3 : Int32)), (.int (3 : Int32))]))
  refine gs.isub X0.here hx (hb hby d7_3) ?_
  rw [show ((3 : Int32) - (3 : Int32)) = (0 : Int32) from by decide]
  refine gs.bipush 31 X0.here hx (hb hby d7_4) rfl ?_
  refine Go.fin (fun t_ k_ => XS.iushr X0.here hx rfl (hb hby d7_6) rfl k_) ?_
  show Go p e below _ (s₁.setTop (mkF m 7 _ [(.int (((0 : Int32).toUInt32 >>> ((31 : Int32) &&& 31).toUInt32).toInt32))]))
  rw [show (((0 : Int32).toUInt32 >>> ((31 : Int32) &&& 31).toUInt32).toInt32) = (0 : Int32) from by decide]
  refine Go.fin (fun t_ k_ => XS.i2b X0.here hx rfl (hb hby d7_7) rfl k_) ?_
  show Go p e below _ (s₁.setTop (mkF m 8 _ [(.int ((0 : Int32).toInt8.toInt32))]))
  rw [show ((0 : Int32).toInt8.toInt32) = (0 : Int32) from by decide]
  refine Go.retZ X0 hx (t := .byte) Bd.returns (by simp) Bd.notSynchronized (hb hby d7_8) (by rw [e0]; exact ⟨rfl, N0, rfl⟩) (by decide) (by decide)
def Q_am3_2 (Z : State) (cs_ : Int32) (a_TEXT : Addr) (ad1 : Addr) (ad2 : Addr) (kc1 : ClassId) (iv1 : Int32) (iv2 : Int32) (iv3 : Int32) (h0 : Heap) (n0 : Nat) (v : Option Value) (h : Heap) (L : List Loc) : Prop := ∃ fr1 : Addr, ∃ kx1 : ClassId, v = none ∧ h0.size ≤ fr1 ∧ Fr n0 L ∧ Keep h0 h [ad1] ∧ (Exa Z h ad1 "java/lang/String") ∧ (Fld Z h ad1 "java/lang/String" "coder" "B" (.int (0 : Int32))) ∧ (Fld Z h ad1 "java/lang/String" "value" "[B" (.ref fr1)) ∧ (Arv Z h fr1 kx1 .byte (3 : Int32) [(.int ((iv1.toInt8.toInt32).toInt8.toInt32)), (.int ((iv2.toInt8.toInt32).toInt8.toInt32)), (.int ((iv3.toInt8.toInt32).toInt8.toInt32))] (.int (0 : Int32)))
set_option maxRecDepth 65536 in
set_option maxHeartbeats 40000000 in
theorem am3_2 (l : Launch) (Z : State) (a0 : Array Value) (hw : ∀ d ∈ tables_1, d.before a0 Z = true) (ws : List Jvm.Cond) (cs_ : Int32) (a_TEXT : Addr) (HW : Wd Z cs_ a_TEXT) (ad1 : Addr) (ad2 : Addr) (kc1 : ClassId) (iv1 : Int32) (iv2 : Int32) (iv3 : Int32) (h0 : Heap) (n0 : Nat) (Ol : Old Z n0 h0) (HE_ad1 : Exa Z h0 ad1 "java/lang/String") (HF_ad1_String_value : Fld Z h0 ad1 "java/lang/String" "value" "[B" .null) (HF_ad1_String_coder : Fld Z h0 ad1 "java/lang/String" "coder" "B" (.int (0 : Int32))) (HV_ad2 : Arv Z h0 ad2 kc1 .char (3 : Int32) [(.int iv1), (.int iv2), (.int iv3)] (.int (0 : Int32))) (nn_ad1 : n0 ≤ ad1) (as0 : ¬ ((255 : Int32) < iv1)) (as1 : ¬ ((255 : Int32) < iv2)) (as2 : ¬ ((255 : Int32) < iv3)) :
    MetFree l y_3 (head1 (Jvm.Cond.code y_3 jdk_42_method_149_code 6 none :: ws) (rm 2 1 3 35)) (fun a_ U_ => a_ = #[(.ref ad1), (.ref ad2), (.int (0 : Int32)), (.int (3 : Int32)), .null] ∧ Z.Warmed39 U_.vm ∧ U_.heap = h0) (fun _ _ _ _ _ => True) (fun _ U_ o_ V_ => ∃ v_ L_, o_ = .returned v_ ∧ Q_am3_2 Z cs_ a_TEXT ad1 ad2 kc1 iv1 iv2 iv3 h0 n0 v_ V_.heap L_ ∧ FrameEnd U_ o_ V_ L_ (rm 2 1 3 35).cells (rm 2 1 3 35).slots) := by
  refine MetFree.of_bodySF (plainFor_of_name pn_0) hisR ?_
  intro p e s m args below meth c s₁ Bd hml0 hP hK
  obtain ⟨rfl, hZ, hh⟩ := hP
  have hx := Bd.exec
  have hby := Bd.bytes
  have hml : c.maxLocals = 6 := hml0
  have hown : s.vm.findClass "java/lang/String" = some m.cls := findClass_of_methodNamed Bd.named
  have hnm := (name_of_methodNamed Bd.named Bd.method).1
  have X0 : Stand p l e (rm 2 1 3 35) s m #[(.ref ad1), (.ref ad2), (.int (0 : Int32)), (.int (3 : Int32)), .null] below meth c s₁ [] 0 0 := Stand.of_body Bd
  have e0 : s₁.heap = h0 := by rw [← hh, Bd.state]; rfl
  have N0 := Fr.nil n0
  have kp0 := Keep.refl h0 [ad1]
  show Go p e below (Fin1 s below (Q_am3_2 Z cs_ a_TEXT ad1 ad2 kc1 iv1 iv2 iv3 h0 n0) (rm 2 1 3 35).cells (rm 2 1 3 35).slots) _
  refine Go.step (fun t_ k_ => castTop (ef_rm_si0 m ad1 ad2 (0 : Int32) (3 : Int32)) k_) ?_
  obtain ⟨S_cs, N_cs, Ea_TEXT, Sa_TEXT⟩ := id HW
  show Go p e below _ (s₁.setTop (mkF m 0 #[.val (.ref ad1), .val (.ref ad2), .val (.int (0 : Int32)), .val (.int (3 : Int32)), .val .null, .unset] []))
  refine gs.aloadN X0.here hx (hb hby d3_0) rfl rfl ?_
  obtain ⟨T1, X1, e1, st1⟩ := initO X0 hx hZ hown (wd hw 15 rfl) (wd hw 16 rfl) (wd hw 17 rfl) e0 (g := (mkF m 1 #[.val (.ref ad1), .val (.ref ad2), .val (.int (0 : Int32)), .val (.int (3 : Int32)), .val .null, .unset] [(.ref ad1)])) rfl (by rw [hml]; rfl) rfl (hb hby d3_1) (by decide) (W := 0) (by show 2 * 0 + _ ≤ _; exact Nat.le_of_eq rfl) (by decide)
  refine Go.step st1 ?_
  show Go p e below _ (T1.setTop (mkF m 4 #[.val (.ref ad1), .val (.ref ad2), .val (.int (0 : Int32)), .val (.int (3 : Int32)), .val .null, .unset] []))
  refine gs.iloadN X1.here hx (hb hby d3_4) rfl ?_
  have hc5 : ¬ ((3 : Int32) = (0 : Int32)) := by decide
  refine gs.ifYes 27 X1.here hx (hb hby d3_5) ((if0 _ _).trans (feq hc5).2) rfl ?_
  obtain ⟨T2, X2, e2, st2⟩ := getS2 X1 hx hZ hown (host := "") (Or.inl (wd hw 26 rfl)) Via.refl e1 (S_cs.ext Ol.2) (g := (mkF m 27 #[.val (.ref ad1), .val (.ref ad2), .val (.int (0 : Int32)), .val (.int (3 : Int32)), .val .null, .unset] [])) rfl (hb hby d3_27)
  refine Go.fin st2 ?_
  show Go p e below _ (T2.setTop (mkF m 30 _ [(.int cs_)]))
  have hc30 : ¬ (cs_ = (0 : Int32)) := N_cs
  refine gs.ifNo X2.here hx (hb hby d3_30) ((if0 _ _).trans (feq hc30).1) ?_
  refine gs.aloadN X2.here hx (hb hby d3_33) rfl rfl ?_
  refine gs.iloadN X2.here hx (hb hby d3_34) rfl ?_
  refine gs.iloadN X2.here hx (hb hby d3_35) rfl ?_
  refine gs.stat 0 X2 hx hZ hown (am5_2 l Z a0 hw [] cs_ a_TEXT HW (ad2) (kc1) (iv1) (iv2) (iv3) h0 n0 Ol HV_ad2 as0 as1 as2) (wd hw 30 rfl) (wd hw 29 rfl) (wd hw 27 rfl) (wd hw 28 rfl) (by decide) (by decide) (by decide) (by rw [hml]; rfl) [(.ref ad2), (.int (0 : Int32)), (.int (3 : Int32))] (lenOf pd_7 rfl) rfl (Nat.le_of_eq rfl) (hb hby d3_36) rfl e2 (by decide) (by decide) fun T3 Lc3 v3 X3 hQ3 => ?_
  obtain ⟨b3_0, kx3_0, rfl, gb_b3_0, Nq3, K3, p3_0⟩ := hQ3
  have nn_b3_0 : n0 ≤ b3_0 := Nat.le_trans (old_z0 Ol) gb_b3_0
  have sz_b3_0 : h0.size ≤ b3_0 := Nat.le_trans kp0.1 gb_b3_0
  have old3 := Ol.keep K3 all0
  have kp3 := kp0.trans K3 all0
  have N3 := Fr.app N0 Nq3
  show Go p e below _ (T3.setTop (mkF m 39 _ [(.ref b3_0)]))
  refine gs.astore X3.here hx (hb hby d3_39) rfl (l' := #[.val (.ref ad1), .val (.ref ad2), .val (.int (0 : Int32)), .val (.int (3 : Int32)), .val .null, .val (.ref b3_0)]) rfl ?_
  refine gs.aloadN X3.here hx (hb hby d3_41) rfl rfl ?_
  refine gs.aload X3.here hx (hb hby d3_42) rfl rfl ?_
  refine gs.iloadN X3.here hx (hb hby d3_44) rfl ?_
  refine gs.stat 1 X3 hx hZ hown (am7_2 l Z a0 hw [] cs_ a_TEXT HW (b3_0) (kx3_0) (((iv1.toInt8.toInt32).toInt8.toInt32)) (((iv2.toInt8.toInt32).toInt8.toInt32)) (((iv3.toInt8.toInt32).toInt8.toInt32)) T3.heap n0 old3 p3_0) (wd hw 36 rfl) (wd hw 29 rfl) (wd hw 34 rfl) (wd hw 35 rfl) (by decide) (by decide) (by decide) (by rw [hml]; rfl) [(.ref b3_0), (.int (3 : Int32))] (lenOf pd_8 rfl) rfl (Nat.le_of_eq rfl) (hb hby d3_45) rfl rfl (by decide) (by decide) fun T4 Lc4 v4 X4 hQ4 => ?_
  obtain ⟨rfl, Nq4, e4⟩ := hQ4
  have N4 := Fr.app N3 Nq4
  show Go p e below _ (T4.setTop (mkF m 48 _ [(.int (0 : Int32)), (.ref ad1)]))
  have f5 := (HF_ad1_String_coder.keep K3 nin0)
  have f6 := (HE_ad1.keep K3)
  obtain ⟨T7, h7, X7, e7, W7, st7⟩ := putFN X4 hx hZ hown (wd hw 25 rfl) Via.refl e4 f5 f6 (Or.inr ⟨(wd hw 21 rfl), rfl, hnm⟩) (wd hw 5 rfl) (ty := .byte) (v' := (.int (0 : Int32))) (by decide) rfl (by decide) (g := (mkF m 48 #[.val (.ref ad1), .val (.ref ad2), .val (.int (0 : Int32)), .val (.int (3 : Int32)), .val .null, .val (.ref b3_0)] [(.int (0 : Int32)), (.ref ad1)])) rfl rfl (hb hby d3_48)
  have N7 := Fr.snoc X7 N4 nn_ad1
  have old7 := old3.wr W7 nn_ad1
  have kp7 := kp3.wr W7 (Or.inl (List.mem_of_getElem? (i := 0) rfl))
  have F7 := f5.same W7
  refine Go.fin st7 ?_
  show Go p e below _ (T7.setTop (mkF m 51 _ []))
  refine gs.aloadN X7.here hx (hb hby d3_51) rfl rfl ?_
  refine gs.aload X7.here hx (hb hby d3_52) rfl rfl ?_
  have f8 := ((HF_ad1_String_value.keep K3 nin0).other W7 (Or.inr (sn1 hw)))
  have f9 := (f6.wr W7)
  obtain ⟨T10, h10, X10, e10, W10, st10⟩ := putF X7 hx hZ hown (host := "") (Or.inl (wd hw 24 rfl)) Via.refl e7 f8 f9 (Or.inr ⟨(wd hw 20 rfl), rfl, hnm⟩) (wd hw 5 rfl) (ty := (.array .byte)) (by decide) rfl rfl (g := (mkF m 54 #[.val (.ref ad1), .val (.ref ad2), .val (.int (0 : Int32)), .val (.int (3 : Int32)), .val .null, .val (.ref b3_0)] [(.ref b3_0), (.ref ad1)])) rfl rfl (hb hby d3_54)
  have N10 := Fr.snoc X10 N7 nn_ad1
  have old10 := old7.wr W10 nn_ad1
  have kp10 := kp7.wr W10 (Or.inl (List.mem_of_getElem? (i := 0) rfl))
  have F10 := f8.same W10
  refine Go.fin st10 ?_
  show Go p e below _ (T10.setTop (mkF m 57 _ []))
  have f11 := (f9.wr W10)
  have f12 := (F7.other W10 (Or.inr (sn0 hw)))
  have ne_ad1_b3_0 : ad1 ≠ b3_0 := Nat.ne_of_lt (Nat.lt_of_lt_of_le HE_ad1.lt gb_b3_0)
  have f13 := ((p3_0.other W7 (Ne.symm ne_ad1_b3_0)).other W10 (Ne.symm ne_ad1_b3_0))
  refine Go.retV X10 hx Bd.returns Bd.notSynchronized (hb hby d3_57) (by rw [e10]; exact ⟨b3_0, kx3_0, rfl, sz_b3_0, N10, kp10, f11, f12, F10, f13⟩) (by decide) (by decide)
def Q_am2_2 (Z : State) (cs_ : Int32) (a_TEXT : Addr) (ad1 : Addr) (ad2 : Addr) (kc1 : ClassId) (iv1 : Int32) (iv2 : Int32) (iv3 : Int32) (h0 : Heap) (n0 : Nat) (v : Option Value) (h : Heap) (L : List Loc) : Prop := ∃ fr1 : Addr, ∃ kx1 : ClassId, v = none ∧ h0.size ≤ fr1 ∧ Fr n0 L ∧ Keep h0 h [ad1] ∧ (Exa Z h ad1 "java/lang/String") ∧ (Fld Z h ad1 "java/lang/String" "coder" "B" (.int (0 : Int32))) ∧ (Fld Z h ad1 "java/lang/String" "value" "[B" (.ref fr1)) ∧ (Arv Z h fr1 kx1 .byte (3 : Int32) [(.int ((iv1.toInt8.toInt32).toInt8.toInt32)), (.int ((iv2.toInt8.toInt32).toInt8.toInt32)), (.int ((iv3.toInt8.toInt32).toInt8.toInt32))] (.int (0 : Int32)))
set_option maxRecDepth 65536 in
set_option maxHeartbeats 40000000 in
theorem am2_2 (l : Launch) (Z : State) (a0 : Array Value) (hw : ∀ d ∈ tables_1, d.before a0 Z = true) (ws : List Jvm.Cond) (cs_ : Int32) (a_TEXT : Addr) (HW : Wd Z cs_ a_TEXT) (ad1 : Addr) (ad2 : Addr) (kc1 : ClassId) (iv1 : Int32) (iv2 : Int32) (iv3 : Int32) (h0 : Heap) (n0 : Nat) (Ol : Old Z n0 h0) (HE_ad1 : Exa Z h0 ad1 "java/lang/String") (HF_ad1_String_value : Fld Z h0 ad1 "java/lang/String" "value" "[B" .null) (HF_ad1_String_coder : Fld Z h0 ad1 "java/lang/String" "coder" "B" (.int (0 : Int32))) (HV_ad2 : Arv Z h0 ad2 kc1 .char (3 : Int32) [(.int iv1), (.int iv2), (.int iv3)] (.int (0 : Int32))) (nn_ad1 : n0 ≤ ad1) (as0 : ¬ ((255 : Int32) < iv1)) (as1 : ¬ ((255 : Int32) < iv2)) (as2 : ¬ ((255 : Int32) < iv3)) :
    MetFree l y_2 (head1 (Jvm.Cond.code y_2 jdk_42_method_3_code 2 none :: ws) (rm 3 1 3 52)) (fun a_ U_ => a_ = #[(.ref ad1), (.ref ad2)] ∧ Z.Warmed39 U_.vm ∧ U_.heap = h0) (fun _ _ _ _ _ => True) (fun _ U_ o_ V_ => ∃ v_ L_, o_ = .returned v_ ∧ Q_am2_2 Z cs_ a_TEXT ad1 ad2 kc1 iv1 iv2 iv3 h0 n0 v_ V_.heap L_ ∧ FrameEnd U_ o_ V_ L_ (rm 3 1 3 52).cells (rm 3 1 3 52).slots) := by
  refine MetFree.of_bodySF (plainFor_of_name pn_0) hisR ?_
  intro p e s m args below meth c s₁ Bd hml0 hP hK
  obtain ⟨rfl, hZ, hh⟩ := hP
  have hx := Bd.exec
  have hby := Bd.bytes
  have hml : c.maxLocals = 2 := hml0
  have hown : s.vm.findClass "java/lang/String" = some m.cls := findClass_of_methodNamed Bd.named
  have hnm := (name_of_methodNamed Bd.named Bd.method).1
  have X0 : Stand p l e (rm 3 1 3 52) s m #[(.ref ad1), (.ref ad2)] below meth c s₁ [] 0 0 := Stand.of_body Bd
  have e0 : s₁.heap = h0 := by rw [← hh, Bd.state]; rfl
  have N0 := Fr.nil n0
  have kp0 := Keep.refl h0 [ad1]
  show Go p e below (Fin1 s below (Q_am2_2 Z cs_ a_TEXT ad1 ad2 kc1 iv1 iv2 iv3 h0 n0) (rm 3 1 3 52).cells (rm 3 1 3 52).slots) _
  refine Go.step (fun t_ k_ => castTop (ef_rm_in0 m ad1 ad2) k_) ?_
  obtain ⟨S_cs, N_cs, Ea_TEXT, Sa_TEXT⟩ := id HW
  show Go p e below _ (s₁.setTop (mkF m 0 #[.val (.ref ad1), .val (.ref ad2)] []))
  refine gs.aloadN X0.here hx (hb hby d2_0) rfl rfl ?_
  refine gs.aloadN X0.here hx (hb hby d2_1) rfl rfl ?_
  refine gs.iconst 0 X0.here hx (hb hby d2_2) rfl ?_
  refine gs.aloadN X0.here hx (hb hby d2_3) rfl rfl ?_
  obtain ⟨cl1, Ar1, -, Sz1, Ng1, -, -⟩ := id HV_ad2
  refine Go.fin (fun t_ k_ => X0.arraylength hx (by rw [e0]; exact Ar1.1) (State.isArrayOf_alike hZ.alike Ar1.2.1) (g := mkF m 4 _ _) rfl rfl (hb hby d2_4) _ k_) ?_
  rw [len_of Sz1 Ng1]
  show Go p e below _ (s₁.setTop (mkF m 5 _ [(.int (3 : Int32)), (.int (0 : Int32)), (.ref ad2), (.ref ad1)]))
  refine gs.aconstNull X0.here hx (hb hby d2_5) ?_
  refine gs.init 0 X0 hx hZ hown (am3_2 l Z a0 hw [] cs_ a_TEXT HW (ad1) (ad2) (kc1) (iv1) (iv2) (iv3) h0 n0 Ol HE_ad1 HF_ad1_String_value HF_ad1_String_coder HV_ad2 nn_ad1 as0 as1 as2) (wd hw 14 rfl) (wd hw 6 rfl) (wd hw 11 rfl) rfl (wd hw 12 rfl) (by decide) (by decide) (by decide) (by rw [hml]; rfl) [(.ref ad2), (.int (0 : Int32)), (.int (3 : Int32)), .null] (lenOf pd_0 rfl) rfl (Nat.le_of_eq rfl) (hb hby d2_6) rfl e0 (by decide) (by decide) fun T2 Lc2 v2 X2 hQ2 => ?_
  obtain ⟨b2_0, kx2_0, rfl, gb_b2_0, Nq2, K2, p2_0, p2_1, p2_2, p2_3⟩ := hQ2
  have nn_b2_0 : n0 ≤ b2_0 := Nat.le_trans (old_z0 Ol) gb_b2_0
  have sz_b2_0 : h0.size ≤ b2_0 := Nat.le_trans kp0.1 gb_b2_0
  have old2 := Ol.keep K2 (allS nn_ad1 all0)
  have kp2 := kp0.trans K2 (allS (Or.inl (List.mem_of_getElem? (i := 0) rfl)) all0)
  have N2 := Fr.app N0 Nq2
  show Go p e below _ (T2.setTop (mkF m 9 _ []))
  refine Go.retV X2 hx Bd.returns Bd.notSynchronized (hb hby d2_9) (by exact ⟨b2_0, kx2_0, rfl, sz_b2_0, N2, kp2, p2_0, p2_1, p2_2, p2_3⟩) (by decide) (by decide)
theorem d1_106 : decode c_1 106 = .ok (.areturn, 1) := by decide +kernel
theorem pn_3 : plainName "com/example/overcap/overcap/model/FigureTextPinLaw" = true := by first | (simp [plainName, overriddenIn]; done) | decide +kernel
theorem ef_rm1 (m : MethodId) (x0 : Int32)  : entryFrame m #[(.int x0)] 5 = mkF m 0 #[.val (.int x0), .unset, .unset, .unset, .unset] [] := by first | (simp [entryFrame, mkF, argsToLocals, Value.category]; done) | rfl
def Q_rm1 (Z : State) (cs_ : Int32) (a_TEXT : Addr) (u : Int32) (h0 : Heap) (n0 : Nat) (v : Option Value) (h : Heap) (L : List Loc) : Prop := ∃ b : Addr, v = some (.ref b) ∧ h0.size ≤ b ∧ Fr n0 L ∧ Keep h0 h [] ∧ (Exa Z h b "java/lang/String")
set_option maxRecDepth 65536 in
set_option maxHeartbeats 40000000 in
theorem rm1 (l : Launch) (Z : State) (a0 : Array Value) (hw : ∀ d ∈ tables_1, d.before a0 Z = true) (ws : List Jvm.Cond) (cs_ : Int32) (a_TEXT : Addr) (HW : Wd Z cs_ a_TEXT) (u : Int32) (h0 : Heap) (n0 : Nat) (Ol : Old Z n0 h0)  :
    MetFree l y_1 (head1 (Jvm.Cond.code y_1 method_2_code 5 (some (.object "java/lang/String")) :: ws) (rm 4 6 12 66)) (fun a_ U_ => a_ = #[(.int u)] ∧ Z.Warmed39 U_.vm ∧ U_.heap = h0 ∧ CHv Z EL_ U_.vm h0) (fun _ _ _ _ _ => True) (fun _ U_ o_ V_ => ∃ v_ L_, o_ = .returned v_ ∧ Q_rm1 Z cs_ a_TEXT u h0 n0 v_ V_.heap L_ ∧ CHr Z EL_ U_.vm U_.heap V_.vm V_.heap ∧ ReturnedEndW U_ o_ V_ L_ (rm 4 6 12 66).cells (rm 4 6 12 66).slots) := by
  refine MetFree.of_bodySF (plainFor_of_name pn_3) hisR ?_
  intro p e s m args below meth c s₁ Bd hml0 hP hK
  obtain ⟨rfl, hZ, hh, Hc0⟩ := hP
  have hx := Bd.exec
  have hby := Bd.bytes
  have hml : c.maxLocals = 5 := hml0
  have hown : s.vm.findClass "com/example/overcap/overcap/model/FigureTextPinLaw" = some m.cls := findClass_of_methodNamed Bd.named
  have hnm := (name_of_methodNamed Bd.named Bd.method).1
  have X0 : Stand p l e (rm 4 6 12 66) s m #[(.int u)] below meth c s₁ [] 0 0 := Stand.of_body Bd
  have e0 : s₁.heap = h0 := by rw [← hh, Bd.state]; rfl
  have N0 := Fr.nil n0
  have kp0 := Keep.refl h0 []
  show Go p e below (Fin3 Z EL_ s below (Q_rm1 Z cs_ a_TEXT u h0 n0) (rm 4 6 12 66).cells (rm 4 6 12 66).slots) _
  have S0 : s.Since s.vm 0 := (State.WarmedH.refl s).since 0
  have hk0 : 0 ≤ h0.size := Nat.zero_le _
  refine Go.step (fun t_ k_ => castTop (ef_rm1 m u) k_) ?_
  obtain ⟨S_cs, N_cs, Ea_TEXT, Sa_TEXT⟩ := id HW
  show Go p e below _ (s₁.setTop (mkF m 0 #[.val (.int u), .unset, .unset, .unset, .unset] []))
  refine gs.iloadN X0.here hx (hb hby d1_0) rfl ?_
  refine gs.iconst 3 X0.here hx (hb hby d1_1) rfl ?_
  refine gs.iand X0.here hx (hb hby d1_2) ?_
  refine gs.istoreN X0.here hx (hb hby d1_3) (l' := #[.val (.int u), .val (.int (u &&& (3 : Int32))), .unset, .unset, .unset]) rfl ?_
  refine gs.iloadN X0.here hx (hb hby d1_4) rfl ?_
  refine gs.iconst 2 X0.here hx (hb hby d1_5) rfl ?_
  refine Go.fin (fun t_ k_ => XS.iushr X0.here hx rfl (hb hby d1_6) rfl k_) ?_
  show Go p e below _ (s₁.setTop (mkF m 7 _ [(.int ((u.toUInt32 >>> ((2 : Int32) &&& 31).toUInt32).toInt32))]))
  refine gs.sipush 255 X0.here hx (hb hby d1_7) rfl ?_
  refine gs.iand X0.here hx (hb hby d1_10) ?_
  refine Go.fin (fun t_ k_ => XS.i2c X0.here hx rfl (hb hby d1_11) rfl k_) ?_
  show Go p e below _ (s₁.setTop (mkF m 12 _ [(.int ((((u.toUInt32 >>> ((2 : Int32) &&& 31).toUInt32).toInt32) &&& (255 : Int32)).toUInt32.toUInt16.toUInt32.toInt32))]))
  refine gs.istoreN X0.here hx (hb hby d1_12) (l' := #[.val (.int u), .val (.int (u &&& (3 : Int32))), .val (.int ((((u.toUInt32 >>> ((2 : Int32) &&& 31).toUInt32).toInt32) &&& (255 : Int32)).toUInt32.toUInt16.toUInt32.toInt32)), .unset, .unset]) rfl ?_
  refine gs.iloadN X0.here hx (hb hby d1_13) rfl ?_
  refine gs.bipush 10 X0.here hx (hb hby d1_14) rfl ?_
  refine Go.fin (fun t_ k_ => XS.iushr X0.here hx rfl (hb hby d1_16) rfl k_) ?_
  show Go p e below _ (s₁.setTop (mkF m 17 _ [(.int ((u.toUInt32 >>> ((10 : Int32) &&& 31).toUInt32).toInt32))]))
  refine gs.sipush 255 X0.here hx (hb hby d1_17) rfl ?_
  refine gs.iand X0.here hx (hb hby d1_20) ?_
  refine Go.fin (fun t_ k_ => XS.i2c X0.here hx rfl (hb hby d1_21) rfl k_) ?_
  show Go p e below _ (s₁.setTop (mkF m 22 _ [(.int ((((u.toUInt32 >>> ((10 : Int32) &&& 31).toUInt32).toInt32) &&& (255 : Int32)).toUInt32.toUInt16.toUInt32.toInt32))]))
  refine gs.istoreN X0.here hx (hb hby d1_22) (l' := #[.val (.int u), .val (.int (u &&& (3 : Int32))), .val (.int ((((u.toUInt32 >>> ((2 : Int32) &&& 31).toUInt32).toInt32) &&& (255 : Int32)).toUInt32.toUInt16.toUInt32.toInt32)), .val (.int ((((u.toUInt32 >>> ((10 : Int32) &&& 31).toUInt32).toInt32) &&& (255 : Int32)).toUInt32.toUInt16.toUInt32.toInt32)), .unset]) rfl ?_
  refine gs.iloadN X0.here hx (hb hby d1_23) rfl ?_
  refine gs.bipush 18 X0.here hx (hb hby d1_24) rfl ?_
  refine Go.fin (fun t_ k_ => XS.iushr X0.here hx rfl (hb hby d1_26) rfl k_) ?_
  show Go p e below _ (s₁.setTop (mkF m 27 _ [(.int ((u.toUInt32 >>> ((18 : Int32) &&& 31).toUInt32).toInt32))]))
  refine gs.sipush 255 X0.here hx (hb hby d1_27) rfl ?_
  refine gs.iand X0.here hx (hb hby d1_30) ?_
  refine Go.fin (fun t_ k_ => XS.i2c X0.here hx rfl (hb hby d1_31) rfl k_) ?_
  show Go p e below _ (s₁.setTop (mkF m 32 _ [(.int ((((u.toUInt32 >>> ((18 : Int32) &&& 31).toUInt32).toInt32) &&& (255 : Int32)).toUInt32.toUInt16.toUInt32.toInt32))]))
  refine gs.istore X0.here hx (hb hby d1_32) (l' := #[.val (.int u), .val (.int (u &&& (3 : Int32))), .val (.int ((((u.toUInt32 >>> ((2 : Int32) &&& 31).toUInt32).toInt32) &&& (255 : Int32)).toUInt32.toUInt16.toUInt32.toInt32)), .val (.int ((((u.toUInt32 >>> ((10 : Int32) &&& 31).toUInt32).toInt32) &&& (255 : Int32)).toUInt32.toUInt16.toUInt32.toInt32)), .val (.int ((((u.toUInt32 >>> ((18 : Int32) &&& 31).toUInt32).toInt32) &&& (255 : Int32)).toUInt32.toUInt16.toUInt32.toInt32))]) rfl ?_
  generalize hk_ca : ((((u.toUInt32 >>> ((2 : Int32) &&& 31).toUInt32).toInt32) &&& (255 : Int32)).toUInt32.toUInt16.toUInt32.toInt32) = ca
  show Go p e below _ (s₁.setTop (mkF m 34 #[.val (.int u), .val (.int (u &&& (3 : Int32))), .val (.int ca), .val (.int ((((u.toUInt32 >>> ((10 : Int32) &&& 31).toUInt32).toInt32) &&& (255 : Int32)).toUInt32.toUInt16.toUInt32.toInt32)), .val (.int ((((u.toUInt32 >>> ((18 : Int32) &&& 31).toUInt32).toInt32) &&& (255 : Int32)).toUInt32.toUInt16.toUInt32.toInt32))] []))
  have hb_ca : (ca.toUInt32.toUInt16.toUInt32.toInt32) = ca ∧ ¬ (255 : Int32) < ca := by rw [← hk_ca]; exact c8 _
  generalize hk_cb : ((((u.toUInt32 >>> ((10 : Int32) &&& 31).toUInt32).toInt32) &&& (255 : Int32)).toUInt32.toUInt16.toUInt32.toInt32) = cb
  show Go p e below _ (s₁.setTop (mkF m 34 #[.val (.int u), .val (.int (u &&& (3 : Int32))), .val (.int ca), .val (.int cb), .val (.int ((((u.toUInt32 >>> ((18 : Int32) &&& 31).toUInt32).toInt32) &&& (255 : Int32)).toUInt32.toUInt16.toUInt32.toInt32))] []))
  have hb_cb : (cb.toUInt32.toUInt16.toUInt32.toInt32) = cb ∧ ¬ (255 : Int32) < cb := by rw [← hk_cb]; exact c8 _
  generalize hk_cc : ((((u.toUInt32 >>> ((18 : Int32) &&& 31).toUInt32).toInt32) &&& (255 : Int32)).toUInt32.toUInt16.toUInt32.toInt32) = cc
  show Go p e below _ (s₁.setTop (mkF m 34 #[.val (.int u), .val (.int (u &&& (3 : Int32))), .val (.int ca), .val (.int cb), .val (.int cc)] []))
  have hb_cc : (cc.toUInt32.toUInt16.toUInt32.toInt32) = cc ∧ ¬ (255 : Int32) < cc := by rw [← hk_cc]; exact c8 _
  generalize hk_kk : (u &&& (3 : Int32)) = kk
  show Go p e below _ (s₁.setTop (mkF m 34 #[.val (.int u), .val (.int kk), .val (.int ca), .val (.int cb), .val (.int cc)] []))
  have hb_kk : 0 ≤ kk.toInt ∧ kk.toInt < 4 := by rw [← hk_kk]; exact and3_bd u
  rcases cs4 hb_kk with rfl | rfl | rfl | rfl
  next =>
    show Go p e below _ (s₁.setTop (mkF m 34 #[.val (.int u), .val (.int (0 : Int32)), .val (.int ca), .val (.int cb), .val (.int cc)] []))
    refine gs.iloadN X0.here hx (hb hby d1_34) rfl ?_
    have hc35 : (0 : Int32) = (0 : Int32) := by decide
    refine gs.ifNo X0.here hx (hb hby d1_35) ((if0 _ _).trans (teq hc35).2) ?_
    obtain ⟨T1, h1, X1, e1, E1, A1, D1, Y1, st1⟩ := newO X0 hx hZ hown (wd hw 4 rfl) (wd hw 5 rfl) (wd hw 6 rfl) e0 (g := (mkF m 38 #[.val (.int u), .val (.int (0 : Int32)), .val (.int ca), .val (.int cb), .val (.int cc)] [])) rfl (hb hby d1_38) (by decide) (by decide)
    obtain ⟨b1, g1⟩ : ∃ z, z = h0.size := ⟨_, rfl⟩
    rw [← g1] at A1 D1 Y1 st1
    have nn_b1 : n0 ≤ b1 := Nat.le_trans (old_z0 Ol) (Nat.le_of_eq g1.symm)
    have sz_b1 : h0.size ≤ b1 := Nat.le_trans kp0.1 (Nat.le_of_eq g1.symm)
    have old1 := Ol.ext E1
    have kp1 := kp0.ext E1
    have hk1 := Nat.le_trans hk0 E1.1
    have F1_value : Fld Z h1 b1 "java/lang/String" "value" "[B" .null := D1 (Or.inr (wd hw 20 rfl)) (ty := (.array .byte)) (by decide)
    have F1_coder : Fld Z h1 b1 "java/lang/String" "coder" "B" (.int (0 : Int32)) := D1 (Or.inr (wd hw 21 rfl)) (ty := .byte) (by decide)
    refine Go.fin st1 ?_
    show Go p e below _ (T1.setTop (mkF m 41 _ [(.ref b1)]))
    refine gs.dup X1.here hx (hb hby d1_41) rfl ?_
    refine gs.iconst 0 X1.here hx (hb hby d1_42) rfl ?_
    obtain ⟨T2, h2, k2, X2, e2, E2, A2, st2⟩ := newP X1 hx hZ (wd hw 7 rfl) e1 (g := (mkF m 43 #[.val (.int u), .val (.int (0 : Int32)), .val (.int ca), .val (.int cb), .val (.int cc)] [(.int (0 : Int32)), (.ref b1), (.ref b1)])) rfl (hb hby d1_43) rfl (by decide) (cap := 0) (by decide) (by decide) (by decide) (by decide)
    obtain ⟨b2, g2⟩ : ∃ z, z = h1.size := ⟨_, rfl⟩
    rw [← g2] at A2 st2
    have nn_b2 : n0 ≤ b2 := Nat.le_trans (old_z0 old1) (Nat.le_of_eq g2.symm)
    have sz_b2 : h0.size ≤ b2 := Nat.le_trans kp1.1 (Nat.le_of_eq g2.symm)
    have old2 := old1.ext E2
    have kp2 := kp1.ext E2
    have hk2 := Nat.le_trans hk1 E2.1
    have V2 : Arv Z h2 b2 k2 .char (0 : Int32) [] (.int (0 : Int32)) := (Arv.new A2 (by decide)).pad (pad_rep [] (.int (0 : Int32)) 0)
    refine Go.fin st2 ?_
    show Go p e below _ (T2.setTop (mkF m 45 _ [(.ref b2), (.ref b1), (.ref b1)]))
    have f3 := (A1.ext E2)
    have f4 := (F1_value.ext E2)
    have f5 := (F1_coder.ext E2)
    obtain ⟨_, _, ⟨T6, L6, k6, n6⟩, -, X6, S6, gr6, ⟨Lc6, hQ6, l6, y6, z6, C6⟩, st6⟩ := X2.specialBackS hx (y := y_2) rfl hown (mvT hZ (wd hw 8 rfl)) (mvT hZ (wd hw 9 rfl)) (mvT hZ (wd hw 10 rfl)) (by decide) (backOfSH (s := s) (vm0 := s.vm) (W := 1) (rm_in0 l Z a0 hw [] cs_ a_TEXT HW b1 b2 k2 h2 n0 old2 f3 f4 f5 V2 nn_b1) hZ (wd hw 10 rfl) (wd hw 6 rfl) (by decide) (by decide) (hEL_ hw) (CHr.keep kp2 sf0 Hc0).1) (g := (mkF m 45 #[.val (.int u), .val (.int (0 : Int32)), .val (.int ca), .val (.int cb), .val (.int cc)] [(.ref b2), (.ref b1), (.ref b1)])) rfl (by rw [hml]; rfl) (Steps.refl _) (a := b1) (argsL := [(.ref b2)]) (rest := [(.ref b1)]) (lenOf pd_1 rfl) rfl (by show 2 * 0 + _ ≤ _; exact Nat.le_of_eq rfl) (hb hby d1_45) (fun _ _ => ⟨rfl, e2, (by decide : 2 + 4 ≤ _), (by decide : 4 + 8 ≤ _)⟩)
    dsimp only [Pt.U, Pt.locs, Pt.cells, Pt.slots] at X6 l6 y6 z6 st6 hQ6 S6 gr6 C6
    subst l6 y6 z6
    have chb6 := (CHr.keep kp2 sf0 Hc0).trans C6
    obtain ⟨X6, S6, hZ6, hown6⟩ := rebS (vm0 := s.vm) S0 (by rw [e2]; exact hk2) X6 S6 gr6 hZ hown
    obtain ⟨rfl, Nq6, K6, p6_0⟩ := hQ6
    have old6 := old2.keep K6 (allS nn_b1 all0)
    have kp6 := kp2.trans K6 (allS (Or.inr sz_b1) all0)
    have N6 := Fr.app N0 Nq6
    refine Go.step (fun t_ k_ => st6.trans k_) ?_
    show Go p e below _ (T6.setTop (mkF m 48 #[.val (.int u), .val (.int (0 : Int32)), .val (.int ca), .val (.int cb), .val (.int cc)] [(.ref b1)]))
    refine GoH.retR X6 S6 (by exact (Nat.le_refl _)) hZ6 (hEL_ hw) hh rfl chb6 hx Bd.returns rfl rfl Bd.notSynchronized (hb hby d1_48) (by exact ⟨b1, rfl, sz_b1, N6, kp6, p6_0⟩) (by decide) (by decide)
  next =>
    show Go p e below _ (s₁.setTop (mkF m 34 #[.val (.int u), .val (.int (1 : Int32)), .val (.int ca), .val (.int cb), .val (.int cc)] []))
    refine gs.iloadN X0.here hx (hb hby d1_34) rfl ?_
    have hc35 : ¬ ((1 : Int32) = (0 : Int32)) := by decide
    refine gs.ifYes 49 X0.here hx (hb hby d1_35) ((if0 _ _).trans (feq hc35).2) rfl ?_
    refine gs.iloadN X0.here hx (hb hby d1_49) rfl ?_
    refine gs.iconst 1 X0.here hx (hb hby d1_50) rfl ?_
    have hc51 : (1 : Int32) = (1 : Int32) := by decide
    refine gs.icmpNo X0.here hx (hb hby d1_51) (teq hc51).2 ?_
    refine gs.iloadN X0.here hx (hb hby d1_54) rfl ?_
    refine gs.stat 0 X0 hx hZ hown (am8_1 l Z a0 hw [] cs_ a_TEXT HW (ca) h0 n0 Ol hb_ca.2) (wd hw 39 rfl) (wd hw 6 rfl) (wd hw 37 rfl) (wd hw 38 rfl) (by decide) (by decide) (by decide) (by rw [hml]; rfl) [(.int ca)] (lenOf pd_5 rfl) rfl (Nat.le_of_eq rfl) (hb hby d1_55) rfl e0 (by decide) (by decide) fun T7 Lc7 v7 X7 hQ7 => ?_
    obtain ⟨b7_0, b7_1, kx7_0, rfl, gb_b7_0, gb_b7_1, ne_b7_0_b7_1, Nq7, K7, p7_0, p7_1, p7_2, p7_3⟩ := hQ7
    have nn_b7_0 : n0 ≤ b7_0 := Nat.le_trans (old_z0 Ol) gb_b7_0
    have sz_b7_0 : h0.size ≤ b7_0 := Nat.le_trans kp0.1 gb_b7_0
    have nn_b7_1 : n0 ≤ b7_1 := Nat.le_trans (old_z0 Ol) gb_b7_1
    have sz_b7_1 : h0.size ≤ b7_1 := Nat.le_trans kp0.1 gb_b7_1
    have old7 := Ol.keep K7 all0
    have hk7 := Nat.le_trans hk0 K7.1
    have kp7 := kp0.trans K7 all0
    have N7 := Fr.app N0 Nq7
    show Go p e below _ (T7.setTop (mkF m 58 _ [(.ref b7_0)]))
    refine GoH.retR X7 S0 (by exact hk7) hZ (hEL_ hw) hh rfl (CHr.keep kp7 sf0 Hc0) hx Bd.returns rfl rfl Bd.notSynchronized (hb hby d1_58) (by exact ⟨b7_0, rfl, sz_b7_0, N7, kp7, p7_0⟩) (by decide) (by decide)
  next =>
    show Go p e below _ (s₁.setTop (mkF m 34 #[.val (.int u), .val (.int (2 : Int32)), .val (.int ca), .val (.int cb), .val (.int cc)] []))
    refine gs.iloadN X0.here hx (hb hby d1_34) rfl ?_
    have hc35 : ¬ ((2 : Int32) = (0 : Int32)) := by decide
    refine gs.ifYes 49 X0.here hx (hb hby d1_35) ((if0 _ _).trans (feq hc35).2) rfl ?_
    refine gs.iloadN X0.here hx (hb hby d1_49) rfl ?_
    refine gs.iconst 1 X0.here hx (hb hby d1_50) rfl ?_
    have hc51 : ¬ ((2 : Int32) = (1 : Int32)) := by decide
    refine gs.icmpYes 59 X0.here hx (hb hby d1_51) (feq hc51).2 rfl ?_
    refine gs.iloadN X0.here hx (hb hby d1_59) rfl ?_
    refine gs.iconst 2 X0.here hx (hb hby d1_60) rfl ?_
    have hc61 : (2 : Int32) = (2 : Int32) := by decide
    refine gs.icmpNo X0.here hx (hb hby d1_61) (teq hc61).2 ?_
    obtain ⟨T8, h8, X8, e8, E8, A8, D8, Y8, st8⟩ := newO X0 hx hZ hown (wd hw 4 rfl) (wd hw 5 rfl) (wd hw 6 rfl) e0 (g := (mkF m 64 #[.val (.int u), .val (.int (2 : Int32)), .val (.int ca), .val (.int cb), .val (.int cc)] [])) rfl (hb hby d1_64) (by decide) (by decide)
    obtain ⟨b8, g8⟩ : ∃ z, z = h0.size := ⟨_, rfl⟩
    rw [← g8] at A8 D8 Y8 st8
    have nn_b8 : n0 ≤ b8 := Nat.le_trans (old_z0 Ol) (Nat.le_of_eq g8.symm)
    have sz_b8 : h0.size ≤ b8 := Nat.le_trans kp0.1 (Nat.le_of_eq g8.symm)
    have old8 := Ol.ext E8
    have kp8 := kp0.ext E8
    have hk8 := Nat.le_trans hk0 E8.1
    have F8_value : Fld Z h8 b8 "java/lang/String" "value" "[B" .null := D8 (Or.inr (wd hw 20 rfl)) (ty := (.array .byte)) (by decide)
    have F8_coder : Fld Z h8 b8 "java/lang/String" "coder" "B" (.int (0 : Int32)) := D8 (Or.inr (wd hw 21 rfl)) (ty := .byte) (by decide)
    refine Go.fin st8 ?_
    show Go p e below _ (T8.setTop (mkF m 67 _ [(.ref b8)]))
    refine gs.dup X8.here hx (hb hby d1_67) rfl ?_
    refine gs.iconst 2 X8.here hx (hb hby d1_68) rfl ?_
    obtain ⟨T9, h9, k9, X9, e9, E9, A9, st9⟩ := newP X8 hx hZ (wd hw 7 rfl) e8 (g := (mkF m 69 #[.val (.int u), .val (.int (2 : Int32)), .val (.int ca), .val (.int cb), .val (.int cc)] [(.int (2 : Int32)), (.ref b8), (.ref b8)])) rfl (hb hby d1_69) rfl (by decide) (cap := 2) (by decide) (by decide) (by decide) (by decide)
    obtain ⟨b9, g9⟩ : ∃ z, z = h8.size := ⟨_, rfl⟩
    rw [← g9] at A9 st9
    have nn_b9 : n0 ≤ b9 := Nat.le_trans (old_z0 old8) (Nat.le_of_eq g9.symm)
    have sz_b9 : h0.size ≤ b9 := Nat.le_trans kp8.1 (Nat.le_of_eq g9.symm)
    have old9 := old8.ext E9
    have kp9 := kp8.ext E9
    have hk9 := Nat.le_trans hk8 E9.1
    have V9 : Arv Z h9 b9 k9 .char (2 : Int32) [(.int (0 : Int32)), (.int (0 : Int32))] (.int (0 : Int32)) := (Arv.new A9 (by decide)).pad (pad_rep [] (.int (0 : Int32)) 2)
    refine Go.fin st9 ?_
    show Go p e below _ (T9.setTop (mkF m 71 _ [(.ref b9), (.ref b8), (.ref b8)]))
    refine gs.dup X9.here hx (hb hby d1_71) rfl ?_
    refine gs.iconst 0 X9.here hx (hb hby d1_72) rfl ?_
    refine gs.iloadN X9.here hx (hb hby d1_73) rfl ?_
    obtain ⟨cl10, Ar10, q10, Sz10, Ng10, Hs10, G10⟩ := id V9
    have hin10 : ¬ ((0 : Int32) < 0 ∨ cl10.slots.size ≤ ((0 : Int32)).toNatClampNeg) := inb_of Sz10 ⟨by decide, by decide⟩
    obtain ⟨T11, h11, X11, e11, W11, st11⟩ := stC X9 hx hZ e9 Ar10 (j := (0 : Int32)) hin10 (g := (mkF m 74 #[.val (.int u), .val (.int (2 : Int32)), .val (.int ca), .val (.int cb), .val (.int cc)] [(.int ca), (.int (0 : Int32)), (.ref b9), (.ref b9), (.ref b8), (.ref b8)])) rfl rfl (hb hby d1_74)
    have N11 := Fr.snoc X11 N0 nn_b9
    have old11 := old9.wr W11 nn_b9
    have kp11 := kp9.wr W11 (Or.inr sz_b9)
    have hk11 := Nat.le_trans hk9 (Keep.of_wr W11).1
    have V11 : Arv Z h11 b9 k9 .char (2 : Int32) [(.int (ca.toUInt32.toUInt16.toUInt32.toInt32)), (.int (0 : Int32))] (.int (0 : Int32)) := Arv.set Ar10 q10 Sz10 Ng10 Hs10 G10 (fits_nar_char _) W11 0 rfl (Nat.le_of_ble_eq_true rfl)
    refine Go.fin st11 ?_
    show Go p e below _ (T11.setTop (mkF m 75 _ [(.ref b9), (.ref b8), (.ref b8)]))
    refine gs.dup X11.here hx (hb hby d1_75) rfl ?_
    refine gs.iconst 1 X11.here hx (hb hby d1_76) rfl ?_
    refine gs.iloadN X11.here hx (hb hby d1_77) rfl ?_
    obtain ⟨cl12, Ar12, q12, Sz12, Ng12, Hs12, G12⟩ := id V11
    have hin12 : ¬ ((1 : Int32) < 0 ∨ cl12.slots.size ≤ ((1 : Int32)).toNatClampNeg) := inb_of Sz12 ⟨by decide, by decide⟩
    obtain ⟨T13, h13, X13, e13, W13, st13⟩ := stC X11 hx hZ e11 Ar12 (j := (1 : Int32)) hin12 (g := (mkF m 78 #[.val (.int u), .val (.int (2 : Int32)), .val (.int ca), .val (.int cb), .val (.int cc)] [(.int cb), (.int (1 : Int32)), (.ref b9), (.ref b9), (.ref b8), (.ref b8)])) rfl rfl (hb hby d1_78)
    have N13 := Fr.snoc X13 N11 nn_b9
    have old13 := old11.wr W13 nn_b9
    have kp13 := kp11.wr W13 (Or.inr sz_b9)
    have hk13 := Nat.le_trans hk11 (Keep.of_wr W13).1
    have V13 : Arv Z h13 b9 k9 .char (2 : Int32) [(.int (ca.toUInt32.toUInt16.toUInt32.toInt32)), (.int (cb.toUInt32.toUInt16.toUInt32.toInt32))] (.int (0 : Int32)) := Arv.set Ar12 q12 Sz12 Ng12 Hs12 G12 (fits_nar_char _) W13 1 rfl (Nat.le_of_ble_eq_true rfl)
    refine Go.fin st13 ?_
    show Go p e below _ (T13.setTop (mkF m 79 _ [(.ref b9), (.ref b8), (.ref b8)]))
    have f14 := (((A8.ext E9).wr W11).wr W13)
    have ne_b8_b9 : b8 ≠ b9 := Nat.ne_of_lt (Nat.lt_of_lt_of_le A8.lt (Nat.le_of_eq g9.symm))
    have f15 := (((F8_value.ext E9).other W11 (Or.inl ne_b8_b9)).other W13 (Or.inl ne_b8_b9))
    have f16 := (((F8_coder.ext E9).other W11 (Or.inl ne_b8_b9)).other W13 (Or.inl ne_b8_b9))
    refine gs.init 1 X13 hx hZ hown (am2_1 l Z a0 hw [] cs_ a_TEXT HW (b8) (b9) (k9) ((ca.toUInt32.toUInt16.toUInt32.toInt32)) ((cb.toUInt32.toUInt16.toUInt32.toInt32)) h13 n0 old13 f14 f15 f16 V13 nn_b8 (by rw [hb_ca.1]; exact hb_ca.2) (by rw [hb_cb.1]; exact hb_cb.2)) (wd hw 10 rfl) (wd hw 6 rfl) (wd hw 8 rfl) rfl (wd hw 9 rfl) (by decide) (by decide) (by decide) (by rw [hml]; rfl) [(.ref b9)] (lenOf pd_1 rfl) rfl (Nat.le_of_eq rfl) (hb hby d1_79) rfl e13 (by decide) (by decide) fun T17 Lc17 v17 X17 hQ17 => ?_
    obtain ⟨b17_0, kx17_0, rfl, gb_b17_0, Nq17, K17, p17_0, p17_1, p17_2, p17_3⟩ := hQ17
    have nn_b17_0 : n0 ≤ b17_0 := Nat.le_trans (old_z0 old13) gb_b17_0
    have sz_b17_0 : h0.size ≤ b17_0 := Nat.le_trans kp13.1 gb_b17_0
    have old17 := old13.keep K17 (allS nn_b8 all0)
    have hk17 := Nat.le_trans hk13 K17.1
    have kp17 := kp13.trans K17 (allS (Or.inr sz_b8) all0)
    have N17 := Fr.app N13 Nq17
    show Go p e below _ (T17.setTop (mkF m 82 _ [(.ref b8)]))
    refine GoH.retR X17 S0 (by exact hk17) hZ (hEL_ hw) hh rfl (CHr.keep kp17 sf0 Hc0) hx Bd.returns rfl rfl Bd.notSynchronized (hb hby d1_82) (by exact ⟨b8, rfl, sz_b8, N17, kp17, p17_0⟩) (by decide) (by decide)
  next =>
    show Go p e below _ (s₁.setTop (mkF m 34 #[.val (.int u), .val (.int (3 : Int32)), .val (.int ca), .val (.int cb), .val (.int cc)] []))
    refine gs.iloadN X0.here hx (hb hby d1_34) rfl ?_
    have hc35 : ¬ ((3 : Int32) = (0 : Int32)) := by decide
    refine gs.ifYes 49 X0.here hx (hb hby d1_35) ((if0 _ _).trans (feq hc35).2) rfl ?_
    refine gs.iloadN X0.here hx (hb hby d1_49) rfl ?_
    refine gs.iconst 1 X0.here hx (hb hby d1_50) rfl ?_
    have hc51 : ¬ ((3 : Int32) = (1 : Int32)) := by decide
    refine gs.icmpYes 59 X0.here hx (hb hby d1_51) (feq hc51).2 rfl ?_
    refine gs.iloadN X0.here hx (hb hby d1_59) rfl ?_
    refine gs.iconst 2 X0.here hx (hb hby d1_60) rfl ?_
    have hc61 : ¬ ((3 : Int32) = (2 : Int32)) := by decide
    refine gs.icmpYes 83 X0.here hx (hb hby d1_61) (feq hc61).2 rfl ?_
    obtain ⟨T18, h18, X18, e18, E18, A18, D18, Y18, st18⟩ := newO X0 hx hZ hown (wd hw 4 rfl) (wd hw 5 rfl) (wd hw 6 rfl) e0 (g := (mkF m 83 #[.val (.int u), .val (.int (3 : Int32)), .val (.int ca), .val (.int cb), .val (.int cc)] [])) rfl (hb hby d1_83) (by decide) (by decide)
    obtain ⟨b18, g18⟩ : ∃ z, z = h0.size := ⟨_, rfl⟩
    rw [← g18] at A18 D18 Y18 st18
    have nn_b18 : n0 ≤ b18 := Nat.le_trans (old_z0 Ol) (Nat.le_of_eq g18.symm)
    have sz_b18 : h0.size ≤ b18 := Nat.le_trans kp0.1 (Nat.le_of_eq g18.symm)
    have old18 := Ol.ext E18
    have kp18 := kp0.ext E18
    have hk18 := Nat.le_trans hk0 E18.1
    have F18_value : Fld Z h18 b18 "java/lang/String" "value" "[B" .null := D18 (Or.inr (wd hw 20 rfl)) (ty := (.array .byte)) (by decide)
    have F18_coder : Fld Z h18 b18 "java/lang/String" "coder" "B" (.int (0 : Int32)) := D18 (Or.inr (wd hw 21 rfl)) (ty := .byte) (by decide)
    refine Go.fin st18 ?_
    show Go p e below _ (T18.setTop (mkF m 86 _ [(.ref b18)]))
    refine gs.dup X18.here hx (hb hby d1_86) rfl ?_
    refine gs.iconst 3 X18.here hx (hb hby d1_87) rfl ?_
    obtain ⟨T19, h19, k19, X19, e19, E19, A19, st19⟩ := newP X18 hx hZ (wd hw 7 rfl) e18 (g := (mkF m 88 #[.val (.int u), .val (.int (3 : Int32)), .val (.int ca), .val (.int cb), .val (.int cc)] [(.int (3 : Int32)), (.ref b18), (.ref b18)])) rfl (hb hby d1_88) rfl (by decide) (cap := 3) (by decide) (by decide) (by decide) (by decide)
    obtain ⟨b19, g19⟩ : ∃ z, z = h18.size := ⟨_, rfl⟩
    rw [← g19] at A19 st19
    have nn_b19 : n0 ≤ b19 := Nat.le_trans (old_z0 old18) (Nat.le_of_eq g19.symm)
    have sz_b19 : h0.size ≤ b19 := Nat.le_trans kp18.1 (Nat.le_of_eq g19.symm)
    have old19 := old18.ext E19
    have kp19 := kp18.ext E19
    have hk19 := Nat.le_trans hk18 E19.1
    have V19 : Arv Z h19 b19 k19 .char (3 : Int32) [(.int (0 : Int32)), (.int (0 : Int32)), (.int (0 : Int32))] (.int (0 : Int32)) := (Arv.new A19 (by decide)).pad (pad_rep [] (.int (0 : Int32)) 3)
    refine Go.fin st19 ?_
    show Go p e below _ (T19.setTop (mkF m 90 _ [(.ref b19), (.ref b18), (.ref b18)]))
    refine gs.dup X19.here hx (hb hby d1_90) rfl ?_
    refine gs.iconst 0 X19.here hx (hb hby d1_91) rfl ?_
    refine gs.iloadN X19.here hx (hb hby d1_92) rfl ?_
    obtain ⟨cl20, Ar20, q20, Sz20, Ng20, Hs20, G20⟩ := id V19
    have hin20 : ¬ ((0 : Int32) < 0 ∨ cl20.slots.size ≤ ((0 : Int32)).toNatClampNeg) := inb_of Sz20 ⟨by decide, by decide⟩
    obtain ⟨T21, h21, X21, e21, W21, st21⟩ := stC X19 hx hZ e19 Ar20 (j := (0 : Int32)) hin20 (g := (mkF m 93 #[.val (.int u), .val (.int (3 : Int32)), .val (.int ca), .val (.int cb), .val (.int cc)] [(.int ca), (.int (0 : Int32)), (.ref b19), (.ref b19), (.ref b18), (.ref b18)])) rfl rfl (hb hby d1_93)
    have N21 := Fr.snoc X21 N0 nn_b19
    have old21 := old19.wr W21 nn_b19
    have kp21 := kp19.wr W21 (Or.inr sz_b19)
    have hk21 := Nat.le_trans hk19 (Keep.of_wr W21).1
    have V21 : Arv Z h21 b19 k19 .char (3 : Int32) [(.int (ca.toUInt32.toUInt16.toUInt32.toInt32)), (.int (0 : Int32)), (.int (0 : Int32))] (.int (0 : Int32)) := Arv.set Ar20 q20 Sz20 Ng20 Hs20 G20 (fits_nar_char _) W21 0 rfl (Nat.le_of_ble_eq_true rfl)
    refine Go.fin st21 ?_
    show Go p e below _ (T21.setTop (mkF m 94 _ [(.ref b19), (.ref b18), (.ref b18)]))
    refine gs.dup X21.here hx (hb hby d1_94) rfl ?_
    refine gs.iconst 1 X21.here hx (hb hby d1_95) rfl ?_
    refine gs.iloadN X21.here hx (hb hby d1_96) rfl ?_
    obtain ⟨cl22, Ar22, q22, Sz22, Ng22, Hs22, G22⟩ := id V21
    have hin22 : ¬ ((1 : Int32) < 0 ∨ cl22.slots.size ≤ ((1 : Int32)).toNatClampNeg) := inb_of Sz22 ⟨by decide, by decide⟩
    obtain ⟨T23, h23, X23, e23, W23, st23⟩ := stC X21 hx hZ e21 Ar22 (j := (1 : Int32)) hin22 (g := (mkF m 97 #[.val (.int u), .val (.int (3 : Int32)), .val (.int ca), .val (.int cb), .val (.int cc)] [(.int cb), (.int (1 : Int32)), (.ref b19), (.ref b19), (.ref b18), (.ref b18)])) rfl rfl (hb hby d1_97)
    have N23 := Fr.snoc X23 N21 nn_b19
    have old23 := old21.wr W23 nn_b19
    have kp23 := kp21.wr W23 (Or.inr sz_b19)
    have hk23 := Nat.le_trans hk21 (Keep.of_wr W23).1
    have V23 : Arv Z h23 b19 k19 .char (3 : Int32) [(.int (ca.toUInt32.toUInt16.toUInt32.toInt32)), (.int (cb.toUInt32.toUInt16.toUInt32.toInt32)), (.int (0 : Int32))] (.int (0 : Int32)) := Arv.set Ar22 q22 Sz22 Ng22 Hs22 G22 (fits_nar_char _) W23 1 rfl (Nat.le_of_ble_eq_true rfl)
    refine Go.fin st23 ?_
    show Go p e below _ (T23.setTop (mkF m 98 _ [(.ref b19), (.ref b18), (.ref b18)]))
    refine gs.dup X23.here hx (hb hby d1_98) rfl ?_
    refine gs.iconst 2 X23.here hx (hb hby d1_99) rfl ?_
    refine gs.iload X23.here hx (hb hby d1_100) rfl ?_
    obtain ⟨cl24, Ar24, q24, Sz24, Ng24, Hs24, G24⟩ := id V23
    have hin24 : ¬ ((2 : Int32) < 0 ∨ cl24.slots.size ≤ ((2 : Int32)).toNatClampNeg) := inb_of Sz24 ⟨by decide, by decide⟩
    obtain ⟨T25, h25, X25, e25, W25, st25⟩ := stC X23 hx hZ e23 Ar24 (j := (2 : Int32)) hin24 (g := (mkF m 102 #[.val (.int u), .val (.int (3 : Int32)), .val (.int ca), .val (.int cb), .val (.int cc)] [(.int cc), (.int (2 : Int32)), (.ref b19), (.ref b19), (.ref b18), (.ref b18)])) rfl rfl (hb hby d1_102)
    have N25 := Fr.snoc X25 N23 nn_b19
    have old25 := old23.wr W25 nn_b19
    have kp25 := kp23.wr W25 (Or.inr sz_b19)
    have hk25 := Nat.le_trans hk23 (Keep.of_wr W25).1
    have V25 : Arv Z h25 b19 k19 .char (3 : Int32) [(.int (ca.toUInt32.toUInt16.toUInt32.toInt32)), (.int (cb.toUInt32.toUInt16.toUInt32.toInt32)), (.int (cc.toUInt32.toUInt16.toUInt32.toInt32))] (.int (0 : Int32)) := Arv.set Ar24 q24 Sz24 Ng24 Hs24 G24 (fits_nar_char _) W25 2 rfl (Nat.le_of_ble_eq_true rfl)
    refine Go.fin st25 ?_
    show Go p e below _ (T25.setTop (mkF m 103 _ [(.ref b19), (.ref b18), (.ref b18)]))
    have f26 := ((((A18.ext E19).wr W21).wr W23).wr W25)
    have ne_b18_b19 : b18 ≠ b19 := Nat.ne_of_lt (Nat.lt_of_lt_of_le A18.lt (Nat.le_of_eq g19.symm))
    have f27 := ((((F18_value.ext E19).other W21 (Or.inl ne_b18_b19)).other W23 (Or.inl ne_b18_b19)).other W25 (Or.inl ne_b18_b19))
    have f28 := ((((F18_coder.ext E19).other W21 (Or.inl ne_b18_b19)).other W23 (Or.inl ne_b18_b19)).other W25 (Or.inl ne_b18_b19))
    refine gs.init 1 X25 hx hZ hown (am2_2 l Z a0 hw [] cs_ a_TEXT HW (b18) (b19) (k19) ((ca.toUInt32.toUInt16.toUInt32.toInt32)) ((cb.toUInt32.toUInt16.toUInt32.toInt32)) ((cc.toUInt32.toUInt16.toUInt32.toInt32)) h25 n0 old25 f26 f27 f28 V25 nn_b18 (by rw [hb_ca.1]; exact hb_ca.2) (by rw [hb_cb.1]; exact hb_cb.2) (by rw [hb_cc.1]; exact hb_cc.2)) (wd hw 10 rfl) (wd hw 6 rfl) (wd hw 8 rfl) rfl (wd hw 9 rfl) (by decide) (by decide) (by decide) (by rw [hml]; rfl) [(.ref b19)] (lenOf pd_1 rfl) rfl (Nat.le_of_eq rfl) (hb hby d1_103) rfl e25 (by decide) (by decide) fun T29 Lc29 v29 X29 hQ29 => ?_
    obtain ⟨b29_0, kx29_0, rfl, gb_b29_0, Nq29, K29, p29_0, p29_1, p29_2, p29_3⟩ := hQ29
    have nn_b29_0 : n0 ≤ b29_0 := Nat.le_trans (old_z0 old25) gb_b29_0
    have sz_b29_0 : h0.size ≤ b29_0 := Nat.le_trans kp25.1 gb_b29_0
    have old29 := old25.keep K29 (allS nn_b18 all0)
    have hk29 := Nat.le_trans hk25 K29.1
    have kp29 := kp25.trans K29 (allS (Or.inr sz_b18) all0)
    have N29 := Fr.app N25 Nq29
    show Go p e below _ (T29.setTop (mkF m 106 _ [(.ref b18)]))
    refine GoH.retR X29 S0 (by exact hk29) hZ (hEL_ hw) hh rfl (CHr.keep kp29 sf0 Hc0) hx Bd.returns rfl rfl Bd.notSynchronized (hb hby d1_106) (by exact ⟨b18, rfl, sz_b18, N29, kp29, p29_0⟩) (by decide) (by decide)
theorem pd_9 : parseMethodDescriptor "(I)Ljava/lang/String;" = some ⟨[.int], some (.object "java/lang/String")⟩ := by decide +kernel
theorem d12_0 : decode c_12 0 = .ok (.new 8, 3) := by decide +kernel
theorem d12_3 : decode c_12 3 = .ok (.dup, 1) := by decide +kernel
theorem d12_4 : decode c_12 4 = .ok (.aload_n 0, 1) := by decide +kernel
theorem d12_5 : decode c_12 5 = .ok (.aload_n 1, 1) := by decide +kernel
theorem d12_6 : decode c_12 6 = .ok (.getstatic 26, 3) := by decide +kernel
theorem d12_9 : decode c_12 9 = .ok (.aload_n 2, 1) := by decide +kernel
theorem d12_10 : decode c_12 10 = .ok (.aload_n 3, 1) := by decide +kernel
theorem d12_11 : decode c_12 11 = .ok (.invokespecial 31, 3) := by decide +kernel
theorem d13_0 : decode c_13 0 = .ok (.aload_n 0, 1) := by decide +kernel
theorem d13_1 : decode c_13 1 = .ok (.invokespecial 1, 3) := by decide +kernel
theorem d13_4 : decode c_13 4 = .ok (.aload_n 0, 1) := by decide +kernel
theorem d13_5 : decode c_13 5 = .ok (.aload_n 1, 1) := by decide +kernel
theorem d13_6 : decode c_13 6 = .ok (.putfield 7, 3) := by decide +kernel
theorem d13_9 : decode c_13 9 = .ok (.aload_n 0, 1) := by decide +kernel
theorem d13_10 : decode c_13 10 = .ok (.aload_n 2, 1) := by decide +kernel
theorem d13_11 : decode c_13 11 = .ok (.putfield 13, 3) := by decide +kernel
theorem sn2 {a0 : Array Value} {Z : State} (hw : ∀ d ∈ tables_1, d.before a0 Z = true) : SN Z "com/example/overcap/overcap/model/Figure" "label" "Ljava/lang/String;" "com/example/overcap/overcap/model/Figure" "key" "Ljava/lang/String;" := slot_ne (Or.inr (wd hw 67 rfl)) (Or.inr (wd hw 65 rfl)) (by decide) (t := (.object "java/lang/String")) (t' := (.object "java/lang/String")) (by decide) (by decide)
theorem d13_14 : decode c_13 14 = .ok (.aload_n 0, 1) := by decide +kernel
theorem d13_15 : decode c_13 15 = .ok (.aload_n 3, 1) := by decide +kernel
theorem d13_16 : decode c_13 16 = .ok (.putfield 16, 3) := by decide +kernel
theorem sn3 {a0 : Array Value} {Z : State} (hw : ∀ d ∈ tables_1, d.before a0 Z = true) : SN Z "com/example/overcap/overcap/model/Figure" "kind" "Lcom/example/overcap/overcap/model/Figure$Kind;" "com/example/overcap/overcap/model/Figure" "key" "Ljava/lang/String;" := slot_ne (Or.inr (wd hw 69 rfl)) (Or.inr (wd hw 65 rfl)) (by decide) (t := (.object "com/example/overcap/overcap/model/Figure$Kind")) (t' := (.object "java/lang/String")) (by decide) (by decide)
theorem sn4 {a0 : Array Value} {Z : State} (hw : ∀ d ∈ tables_1, d.before a0 Z = true) : SN Z "com/example/overcap/overcap/model/Figure" "kind" "Lcom/example/overcap/overcap/model/Figure$Kind;" "com/example/overcap/overcap/model/Figure" "label" "Ljava/lang/String;" := slot_ne (Or.inr (wd hw 69 rfl)) (Or.inr (wd hw 67 rfl)) (by decide) (t := (.object "com/example/overcap/overcap/model/Figure$Kind")) (t' := (.object "java/lang/String")) (by decide) (by decide)
theorem d13_19 : decode c_13 19 = .ok (.aload_n 0, 1) := by decide +kernel
theorem d13_20 : decode c_13 20 = .ok (.aload 4, 2) := by decide +kernel
theorem d13_22 : decode c_13 22 = .ok (.putfield 20, 3) := by decide +kernel
theorem sn5 {a0 : Array Value} {Z : State} (hw : ∀ d ∈ tables_1, d.before a0 Z = true) : SN Z "com/example/overcap/overcap/model/Figure" "value" "Ljava/lang/String;" "com/example/overcap/overcap/model/Figure" "key" "Ljava/lang/String;" := slot_ne (Or.inr (wd hw 71 rfl)) (Or.inr (wd hw 65 rfl)) (by decide) (t := (.object "java/lang/String")) (t' := (.object "java/lang/String")) (by decide) (by decide)
theorem sn6 {a0 : Array Value} {Z : State} (hw : ∀ d ∈ tables_1, d.before a0 Z = true) : SN Z "com/example/overcap/overcap/model/Figure" "value" "Ljava/lang/String;" "com/example/overcap/overcap/model/Figure" "label" "Ljava/lang/String;" := slot_ne (Or.inr (wd hw 71 rfl)) (Or.inr (wd hw 67 rfl)) (by decide) (t := (.object "java/lang/String")) (t' := (.object "java/lang/String")) (by decide) (by decide)
theorem sn7 {a0 : Array Value} {Z : State} (hw : ∀ d ∈ tables_1, d.before a0 Z = true) : SN Z "com/example/overcap/overcap/model/Figure" "value" "Ljava/lang/String;" "com/example/overcap/overcap/model/Figure" "kind" "Lcom/example/overcap/overcap/model/Figure$Kind;" := slot_ne (Or.inr (wd hw 71 rfl)) (Or.inr (wd hw 69 rfl)) (by decide) (t := (.object "java/lang/String")) (t' := (.object "com/example/overcap/overcap/model/Figure$Kind")) (by decide) (by decide)
theorem d13_25 : decode c_13 25 = .ok (.aload_n 0, 1) := by decide +kernel
theorem d13_26 : decode c_13 26 = .ok (.aload 5, 2) := by decide +kernel
theorem d13_28 : decode c_13 28 = .ok (.putfield 23, 3) := by decide +kernel
theorem sn8 {a0 : Array Value} {Z : State} (hw : ∀ d ∈ tables_1, d.before a0 Z = true) : SN Z "com/example/overcap/overcap/model/Figure" "working" "Ljava/lang/String;" "com/example/overcap/overcap/model/Figure" "key" "Ljava/lang/String;" := slot_ne (Or.inr (wd hw 73 rfl)) (Or.inr (wd hw 65 rfl)) (by decide) (t := (.object "java/lang/String")) (t' := (.object "java/lang/String")) (by decide) (by decide)
theorem sn9 {a0 : Array Value} {Z : State} (hw : ∀ d ∈ tables_1, d.before a0 Z = true) : SN Z "com/example/overcap/overcap/model/Figure" "working" "Ljava/lang/String;" "com/example/overcap/overcap/model/Figure" "label" "Ljava/lang/String;" := slot_ne (Or.inr (wd hw 73 rfl)) (Or.inr (wd hw 67 rfl)) (by decide) (t := (.object "java/lang/String")) (t' := (.object "java/lang/String")) (by decide) (by decide)
theorem sn10 {a0 : Array Value} {Z : State} (hw : ∀ d ∈ tables_1, d.before a0 Z = true) : SN Z "com/example/overcap/overcap/model/Figure" "working" "Ljava/lang/String;" "com/example/overcap/overcap/model/Figure" "kind" "Lcom/example/overcap/overcap/model/Figure$Kind;" := slot_ne (Or.inr (wd hw 73 rfl)) (Or.inr (wd hw 69 rfl)) (by decide) (t := (.object "java/lang/String")) (t' := (.object "com/example/overcap/overcap/model/Figure$Kind")) (by decide) (by decide)
theorem sn11 {a0 : Array Value} {Z : State} (hw : ∀ d ∈ tables_1, d.before a0 Z = true) : SN Z "com/example/overcap/overcap/model/Figure" "working" "Ljava/lang/String;" "com/example/overcap/overcap/model/Figure" "value" "Ljava/lang/String;" := slot_ne (Or.inr (wd hw 73 rfl)) (Or.inr (wd hw 71 rfl)) (by decide) (t := (.object "java/lang/String")) (t' := (.object "java/lang/String")) (by decide) (by decide)
theorem d13_31 : decode c_13 31 = .ok (.return_, 1) := by decide +kernel
theorem sn12 {a0 : Array Value} {Z : State} (hw : ∀ d ∈ tables_1, d.before a0 Z = true) : SN Z "com/example/overcap/overcap/model/Figure" "key" "Ljava/lang/String;" "com/example/overcap/overcap/model/Figure" "label" "Ljava/lang/String;" := slot_ne (Or.inr (wd hw 65 rfl)) (Or.inr (wd hw 67 rfl)) (by decide) (t := (.object "java/lang/String")) (t' := (.object "java/lang/String")) (by decide) (by decide)
theorem sn13 {a0 : Array Value} {Z : State} (hw : ∀ d ∈ tables_1, d.before a0 Z = true) : SN Z "com/example/overcap/overcap/model/Figure" "key" "Ljava/lang/String;" "com/example/overcap/overcap/model/Figure" "kind" "Lcom/example/overcap/overcap/model/Figure$Kind;" := slot_ne (Or.inr (wd hw 65 rfl)) (Or.inr (wd hw 69 rfl)) (by decide) (t := (.object "java/lang/String")) (t' := (.object "com/example/overcap/overcap/model/Figure$Kind")) (by decide) (by decide)
theorem sn14 {a0 : Array Value} {Z : State} (hw : ∀ d ∈ tables_1, d.before a0 Z = true) : SN Z "com/example/overcap/overcap/model/Figure" "key" "Ljava/lang/String;" "com/example/overcap/overcap/model/Figure" "value" "Ljava/lang/String;" := slot_ne (Or.inr (wd hw 65 rfl)) (Or.inr (wd hw 71 rfl)) (by decide) (t := (.object "java/lang/String")) (t' := (.object "java/lang/String")) (by decide) (by decide)
theorem sn15 {a0 : Array Value} {Z : State} (hw : ∀ d ∈ tables_1, d.before a0 Z = true) : SN Z "com/example/overcap/overcap/model/Figure" "key" "Ljava/lang/String;" "com/example/overcap/overcap/model/Figure" "working" "Ljava/lang/String;" := slot_ne (Or.inr (wd hw 65 rfl)) (Or.inr (wd hw 73 rfl)) (by decide) (t := (.object "java/lang/String")) (t' := (.object "java/lang/String")) (by decide) (by decide)
theorem sn16 {a0 : Array Value} {Z : State} (hw : ∀ d ∈ tables_1, d.before a0 Z = true) : SN Z "com/example/overcap/overcap/model/Figure" "kind" "Lcom/example/overcap/overcap/model/Figure$Kind;" "com/example/overcap/overcap/model/Figure" "value" "Ljava/lang/String;" := slot_ne (Or.inr (wd hw 69 rfl)) (Or.inr (wd hw 71 rfl)) (by decide) (t := (.object "com/example/overcap/overcap/model/Figure$Kind")) (t' := (.object "java/lang/String")) (by decide) (by decide)
theorem sn17 {a0 : Array Value} {Z : State} (hw : ∀ d ∈ tables_1, d.before a0 Z = true) : SN Z "com/example/overcap/overcap/model/Figure" "kind" "Lcom/example/overcap/overcap/model/Figure$Kind;" "com/example/overcap/overcap/model/Figure" "working" "Ljava/lang/String;" := slot_ne (Or.inr (wd hw 69 rfl)) (Or.inr (wd hw 73 rfl)) (by decide) (t := (.object "com/example/overcap/overcap/model/Figure$Kind")) (t' := (.object "java/lang/String")) (by decide) (by decide)
theorem sn18 {a0 : Array Value} {Z : State} (hw : ∀ d ∈ tables_1, d.before a0 Z = true) : SN Z "com/example/overcap/overcap/model/Figure" "label" "Ljava/lang/String;" "com/example/overcap/overcap/model/Figure" "kind" "Lcom/example/overcap/overcap/model/Figure$Kind;" := slot_ne (Or.inr (wd hw 67 rfl)) (Or.inr (wd hw 69 rfl)) (by decide) (t := (.object "java/lang/String")) (t' := (.object "com/example/overcap/overcap/model/Figure$Kind")) (by decide) (by decide)
theorem sn19 {a0 : Array Value} {Z : State} (hw : ∀ d ∈ tables_1, d.before a0 Z = true) : SN Z "com/example/overcap/overcap/model/Figure" "label" "Ljava/lang/String;" "com/example/overcap/overcap/model/Figure" "value" "Ljava/lang/String;" := slot_ne (Or.inr (wd hw 67 rfl)) (Or.inr (wd hw 71 rfl)) (by decide) (t := (.object "java/lang/String")) (t' := (.object "java/lang/String")) (by decide) (by decide)
theorem sn20 {a0 : Array Value} {Z : State} (hw : ∀ d ∈ tables_1, d.before a0 Z = true) : SN Z "com/example/overcap/overcap/model/Figure" "label" "Ljava/lang/String;" "com/example/overcap/overcap/model/Figure" "working" "Ljava/lang/String;" := slot_ne (Or.inr (wd hw 67 rfl)) (Or.inr (wd hw 73 rfl)) (by decide) (t := (.object "java/lang/String")) (t' := (.object "java/lang/String")) (by decide) (by decide)
theorem sn21 {a0 : Array Value} {Z : State} (hw : ∀ d ∈ tables_1, d.before a0 Z = true) : SN Z "com/example/overcap/overcap/model/Figure" "value" "Ljava/lang/String;" "com/example/overcap/overcap/model/Figure" "working" "Ljava/lang/String;" := slot_ne (Or.inr (wd hw 71 rfl)) (Or.inr (wd hw 73 rfl)) (by decide) (t := (.object "java/lang/String")) (t' := (.object "java/lang/String")) (by decide) (by decide)
theorem pn_4 : plainName "com/example/overcap/overcap/model/Figure" = true := by first | (simp [plainName, overriddenIn]; done) | decide +kernel
theorem ef_am13_1 (m : MethodId) (x0 : Addr) (x1 : Addr) (x2 : Addr) (x3 : Addr) (x4 : Addr) (x5 : Addr)  : entryFrame m #[(.ref x0), (.ref x1), (.ref x2), (.ref x3), (.ref x4), (.ref x5)] 6 = mkF m 0 #[.val (.ref x0), .val (.ref x1), .val (.ref x2), .val (.ref x3), .val (.ref x4), .val (.ref x5)] [] := by first | (simp [entryFrame, mkF, argsToLocals, Value.category]; done) | rfl
def Q_am13_1 (Z : State) (cs_ : Int32) (a_TEXT : Addr) (ad1 : Addr) (ad2 : Addr) (ad3 : Addr) (ad4 : Addr) (ad5 : Addr) (h0 : Heap) (n0 : Nat) (v : Option Value) (h : Heap) (L : List Loc) : Prop := v = none ∧ Fr n0 L ∧ Keep h0 h [ad1] ∧ (Exa Z h ad1 "com/example/overcap/overcap/model/Figure") ∧ (Fld Z h ad1 "com/example/overcap/overcap/model/Figure" "key" "Ljava/lang/String;" (.ref ad2)) ∧ (Fld Z h ad1 "com/example/overcap/overcap/model/Figure" "kind" "Lcom/example/overcap/overcap/model/Figure$Kind;" (.ref a_TEXT)) ∧ (Fld Z h ad1 "com/example/overcap/overcap/model/Figure" "label" "Ljava/lang/String;" (.ref ad3)) ∧ (Fld Z h ad1 "com/example/overcap/overcap/model/Figure" "value" "Ljava/lang/String;" (.ref ad4)) ∧ (Fld Z h ad1 "com/example/overcap/overcap/model/Figure" "working" "Ljava/lang/String;" (.ref ad5))
set_option maxRecDepth 65536 in
set_option maxHeartbeats 40000000 in
theorem am13_1 (l : Launch) (Z : State) (a0 : Array Value) (hw : ∀ d ∈ tables_1, d.before a0 Z = true) (ws : List Jvm.Cond) (cs_ : Int32) (a_TEXT : Addr) (HW : Wd Z cs_ a_TEXT) (ad1 : Addr) (ad2 : Addr) (ad3 : Addr) (ad4 : Addr) (ad5 : Addr) (h0 : Heap) (n0 : Nat) (Ol : Old Z n0 h0) (HE_ad1 : Exa Z h0 ad1 "com/example/overcap/overcap/model/Figure") (HF_ad1_Figure_key : Fld Z h0 ad1 "com/example/overcap/overcap/model/Figure" "key" "Ljava/lang/String;" .null) (HF_ad1_Figure_label : Fld Z h0 ad1 "com/example/overcap/overcap/model/Figure" "label" "Ljava/lang/String;" .null) (HF_ad1_Figure_kind : Fld Z h0 ad1 "com/example/overcap/overcap/model/Figure" "kind" "Lcom/example/overcap/overcap/model/Figure$Kind;" .null) (HF_ad1_Figure_value : Fld Z h0 ad1 "com/example/overcap/overcap/model/Figure" "value" "Ljava/lang/String;" .null) (HF_ad1_Figure_working : Fld Z h0 ad1 "com/example/overcap/overcap/model/Figure" "working" "Ljava/lang/String;" .null) (nn_ad1 : n0 ≤ ad1) :
    MetFree l y_13 (head1 (Jvm.Cond.code y_13 prog_12_method_1_code 6 none :: ws) (rm 1 0 0 12)) (fun a_ U_ => a_ = #[(.ref ad1), (.ref ad2), (.ref ad3), (.ref a_TEXT), (.ref ad4), (.ref ad5)] ∧ Z.Warmed39 U_.vm ∧ U_.heap = h0) (fun _ _ _ _ _ => True) (fun _ U_ o_ V_ => ∃ v_ L_, o_ = .returned v_ ∧ Q_am13_1 Z cs_ a_TEXT ad1 ad2 ad3 ad4 ad5 h0 n0 v_ V_.heap L_ ∧ FrameEnd U_ o_ V_ L_ (rm 1 0 0 12).cells (rm 1 0 0 12).slots) := by
  refine MetFree.of_bodySF (plainFor_of_name pn_4) hisR ?_
  intro p e s m args below meth c s₁ Bd hml0 hP hK
  obtain ⟨rfl, hZ, hh⟩ := hP
  have hx := Bd.exec
  have hby := Bd.bytes
  have hml : c.maxLocals = 6 := hml0
  have hown : s.vm.findClass "com/example/overcap/overcap/model/Figure" = some m.cls := findClass_of_methodNamed Bd.named
  have hnm := (name_of_methodNamed Bd.named Bd.method).1
  have X0 : Stand p l e (rm 1 0 0 12) s m #[(.ref ad1), (.ref ad2), (.ref ad3), (.ref a_TEXT), (.ref ad4), (.ref ad5)] below meth c s₁ [] 0 0 := Stand.of_body Bd
  have e0 : s₁.heap = h0 := by rw [← hh, Bd.state]; rfl
  have N0 := Fr.nil n0
  have kp0 := Keep.refl h0 [ad1]
  show Go p e below (Fin1 s below (Q_am13_1 Z cs_ a_TEXT ad1 ad2 ad3 ad4 ad5 h0 n0) (rm 1 0 0 12).cells (rm 1 0 0 12).slots) _
  refine Go.step (fun t_ k_ => castTop (ef_am13_1 m ad1 ad2 ad3 a_TEXT ad4 ad5) k_) ?_
  obtain ⟨S_cs, N_cs, Ea_TEXT, Sa_TEXT⟩ := id HW
  show Go p e below _ (s₁.setTop (mkF m 0 #[.val (.ref ad1), .val (.ref ad2), .val (.ref ad3), .val (.ref a_TEXT), .val (.ref ad4), .val (.ref ad5)] []))
  refine gs.aloadN X0.here hx (hb hby d13_0) rfl rfl ?_
  obtain ⟨T1, X1, e1, st1⟩ := initO X0 hx hZ hown (wd hw 63 rfl) (wd hw 16 rfl) (wd hw 17 rfl) e0 (g := (mkF m 1 #[.val (.ref ad1), .val (.ref ad2), .val (.ref ad3), .val (.ref a_TEXT), .val (.ref ad4), .val (.ref ad5)] [(.ref ad1)])) rfl (by rw [hml]; rfl) rfl (hb hby d13_1) (by decide) (W := 0) (by show 2 * 0 + _ ≤ _; exact Nat.le_of_eq rfl) (by decide)
  refine Go.step st1 ?_
  show Go p e below _ (T1.setTop (mkF m 4 #[.val (.ref ad1), .val (.ref ad2), .val (.ref ad3), .val (.ref a_TEXT), .val (.ref ad4), .val (.ref ad5)] []))
  refine gs.aloadN X1.here hx (hb hby d13_4) rfl rfl ?_
  refine gs.aloadN X1.here hx (hb hby d13_5) rfl rfl ?_
  obtain ⟨T2, h2, X2, e2, W2, st2⟩ := putF X1 hx hZ hown (host := "") (Or.inl (wd hw 64 rfl)) Via.refl e1 HF_ad1_Figure_key HE_ad1 (Or.inr ⟨(wd hw 65 rfl), rfl, hnm⟩) (wd hw 56 rfl) (ty := (.object "java/lang/String")) (by decide) rfl rfl (g := (mkF m 6 #[.val (.ref ad1), .val (.ref ad2), .val (.ref ad3), .val (.ref a_TEXT), .val (.ref ad4), .val (.ref ad5)] [(.ref ad2), (.ref ad1)])) rfl rfl (hb hby d13_6)
  have N2 := Fr.snoc X2 N0 nn_ad1
  have old2 := Ol.wr W2 nn_ad1
  have kp2 := kp0.wr W2 (Or.inl (List.mem_of_getElem? (i := 0) rfl))
  have F2 := HF_ad1_Figure_key.same W2
  refine Go.fin st2 ?_
  show Go p e below _ (T2.setTop (mkF m 9 _ []))
  refine gs.aloadN X2.here hx (hb hby d13_9) rfl rfl ?_
  refine gs.aloadN X2.here hx (hb hby d13_10) rfl rfl ?_
  have f3 := (HF_ad1_Figure_label.other W2 (Or.inr (sn2 hw)))
  have f4 := (HE_ad1.wr W2)
  obtain ⟨T5, h5, X5, e5, W5, st5⟩ := putF X2 hx hZ hown (host := "") (Or.inl (wd hw 66 rfl)) Via.refl e2 f3 f4 (Or.inr ⟨(wd hw 67 rfl), rfl, hnm⟩) (wd hw 56 rfl) (ty := (.object "java/lang/String")) (by decide) rfl rfl (g := (mkF m 11 #[.val (.ref ad1), .val (.ref ad2), .val (.ref ad3), .val (.ref a_TEXT), .val (.ref ad4), .val (.ref ad5)] [(.ref ad3), (.ref ad1)])) rfl rfl (hb hby d13_11)
  have N5 := Fr.snoc X5 N2 nn_ad1
  have old5 := old2.wr W5 nn_ad1
  have kp5 := kp2.wr W5 (Or.inl (List.mem_of_getElem? (i := 0) rfl))
  have F5 := f3.same W5
  refine Go.fin st5 ?_
  show Go p e below _ (T5.setTop (mkF m 14 _ []))
  refine gs.aloadN X5.here hx (hb hby d13_14) rfl rfl ?_
  refine gs.aloadN X5.here hx (hb hby d13_15) rfl rfl ?_
  have f6 := ((HF_ad1_Figure_kind.other W2 (Or.inr (sn3 hw))).other W5 (Or.inr (sn4 hw)))
  have f7 := (f4.wr W5)
  obtain ⟨T8, h8, X8, e8, W8, st8⟩ := putF X5 hx hZ hown (host := "") (Or.inl (wd hw 68 rfl)) Via.refl e5 f6 f7 (Or.inr ⟨(wd hw 69 rfl), rfl, hnm⟩) (wd hw 56 rfl) (ty := (.object "com/example/overcap/overcap/model/Figure$Kind")) (by decide) rfl rfl (g := (mkF m 16 #[.val (.ref ad1), .val (.ref ad2), .val (.ref ad3), .val (.ref a_TEXT), .val (.ref ad4), .val (.ref ad5)] [(.ref a_TEXT), (.ref ad1)])) rfl rfl (hb hby d13_16)
  have N8 := Fr.snoc X8 N5 nn_ad1
  have old8 := old5.wr W8 nn_ad1
  have kp8 := kp5.wr W8 (Or.inl (List.mem_of_getElem? (i := 0) rfl))
  have F8 := f6.same W8
  refine Go.fin st8 ?_
  show Go p e below _ (T8.setTop (mkF m 19 _ []))
  refine gs.aloadN X8.here hx (hb hby d13_19) rfl rfl ?_
  refine gs.aload X8.here hx (hb hby d13_20) rfl rfl ?_
  have f9 := (((HF_ad1_Figure_value.other W2 (Or.inr (sn5 hw))).other W5 (Or.inr (sn6 hw))).other W8 (Or.inr (sn7 hw)))
  have f10 := (f7.wr W8)
  obtain ⟨T11, h11, X11, e11, W11, st11⟩ := putF X8 hx hZ hown (host := "") (Or.inl (wd hw 70 rfl)) Via.refl e8 f9 f10 (Or.inr ⟨(wd hw 71 rfl), rfl, hnm⟩) (wd hw 56 rfl) (ty := (.object "java/lang/String")) (by decide) rfl rfl (g := (mkF m 22 #[.val (.ref ad1), .val (.ref ad2), .val (.ref ad3), .val (.ref a_TEXT), .val (.ref ad4), .val (.ref ad5)] [(.ref ad4), (.ref ad1)])) rfl rfl (hb hby d13_22)
  have N11 := Fr.snoc X11 N8 nn_ad1
  have old11 := old8.wr W11 nn_ad1
  have kp11 := kp8.wr W11 (Or.inl (List.mem_of_getElem? (i := 0) rfl))
  have F11 := f9.same W11
  refine Go.fin st11 ?_
  show Go p e below _ (T11.setTop (mkF m 25 _ []))
  refine gs.aloadN X11.here hx (hb hby d13_25) rfl rfl ?_
  refine gs.aload X11.here hx (hb hby d13_26) rfl rfl ?_
  have f12 := ((((HF_ad1_Figure_working.other W2 (Or.inr (sn8 hw))).other W5 (Or.inr (sn9 hw))).other W8 (Or.inr (sn10 hw))).other W11 (Or.inr (sn11 hw)))
  have f13 := (f10.wr W11)
  obtain ⟨T14, h14, X14, e14, W14, st14⟩ := putF X11 hx hZ hown (host := "") (Or.inl (wd hw 72 rfl)) Via.refl e11 f12 f13 (Or.inr ⟨(wd hw 73 rfl), rfl, hnm⟩) (wd hw 56 rfl) (ty := (.object "java/lang/String")) (by decide) rfl rfl (g := (mkF m 28 #[.val (.ref ad1), .val (.ref ad2), .val (.ref ad3), .val (.ref a_TEXT), .val (.ref ad4), .val (.ref ad5)] [(.ref ad5), (.ref ad1)])) rfl rfl (hb hby d13_28)
  have N14 := Fr.snoc X14 N11 nn_ad1
  have old14 := old11.wr W14 nn_ad1
  have kp14 := kp11.wr W14 (Or.inl (List.mem_of_getElem? (i := 0) rfl))
  have F14 := f12.same W14
  refine Go.fin st14 ?_
  show Go p e below _ (T14.setTop (mkF m 31 _ []))
  have f15 := (f13.wr W14)
  have f16 := ((((F2.other W5 (Or.inr (sn12 hw))).other W8 (Or.inr (sn13 hw))).other W11 (Or.inr (sn14 hw))).other W14 (Or.inr (sn15 hw)))
  have f17 := ((F8.other W11 (Or.inr (sn16 hw))).other W14 (Or.inr (sn17 hw)))
  have f18 := (((F5.other W8 (Or.inr (sn18 hw))).other W11 (Or.inr (sn19 hw))).other W14 (Or.inr (sn20 hw)))
  have f19 := (F11.other W14 (Or.inr (sn21 hw)))
  refine Go.retV X14 hx Bd.returns Bd.notSynchronized (hb hby d13_31) (by rw [e14]; exact ⟨rfl, N14, kp14, f15, f16, f17, f18, f19, F14⟩) (by decide) (by decide)
theorem pd_10 : parseMethodDescriptor "(Ljava/lang/String;Ljava/lang/String;Lcom/example/overcap/overcap/model/Figure$Kind;Ljava/lang/String;Ljava/lang/String;)V" = some ⟨[(.object "java/lang/String"), (.object "java/lang/String"), (.object "com/example/overcap/overcap/model/Figure$Kind"), (.object "java/lang/String"), (.object "java/lang/String")], none⟩ := by decide +kernel
theorem d12_14 : decode c_12 14 = .ok (.areturn, 1) := by decide +kernel
theorem ef_am12_1 (m : MethodId) (x0 : Addr) (x1 : Addr) (x2 : Addr) (x3 : Addr)  : entryFrame m #[(.ref x0), (.ref x1), (.ref x2), (.ref x3)] 4 = mkF m 0 #[.val (.ref x0), .val (.ref x1), .val (.ref x2), .val (.ref x3)] [] := by first | (simp [entryFrame, mkF, argsToLocals, Value.category]; done) | rfl
def Q_am12_1 (Z : State) (cs_ : Int32) (a_TEXT : Addr) (ad1 : Addr) (ad2 : Addr) (ad3 : Addr) (ad4 : Addr) (h0 : Heap) (n0 : Nat) (v : Option Value) (h : Heap) (L : List Loc) : Prop := ∃ fr1 : Addr, v = some (.ref fr1) ∧ h0.size ≤ fr1 ∧ Fr n0 L ∧ Keep h0 h [] ∧ (Exa Z h fr1 "com/example/overcap/overcap/model/Figure") ∧ (Fld Z h fr1 "com/example/overcap/overcap/model/Figure" "key" "Ljava/lang/String;" (.ref ad1)) ∧ (Fld Z h fr1 "com/example/overcap/overcap/model/Figure" "kind" "Lcom/example/overcap/overcap/model/Figure$Kind;" (.ref a_TEXT)) ∧ (Fld Z h fr1 "com/example/overcap/overcap/model/Figure" "label" "Ljava/lang/String;" (.ref ad2)) ∧ (Fld Z h fr1 "com/example/overcap/overcap/model/Figure" "value" "Ljava/lang/String;" (.ref ad3)) ∧ (Fld Z h fr1 "com/example/overcap/overcap/model/Figure" "working" "Ljava/lang/String;" (.ref ad4))
set_option maxRecDepth 65536 in
set_option maxHeartbeats 40000000 in
theorem am12_1 (l : Launch) (Z : State) (a0 : Array Value) (hw : ∀ d ∈ tables_1, d.before a0 Z = true) (ws : List Jvm.Cond) (cs_ : Int32) (a_TEXT : Addr) (HW : Wd Z cs_ a_TEXT) (ad1 : Addr) (ad2 : Addr) (ad3 : Addr) (ad4 : Addr) (h0 : Heap) (n0 : Nat) (Ol : Old Z n0 h0)  :
    MetFree l y_12 (head1 (Jvm.Cond.code y_12 prog_12_method_2_code 4 (some (.object "com/example/overcap/overcap/model/Figure")) :: ws) (rm 2 1 5 30)) (fun a_ U_ => a_ = #[(.ref ad1), (.ref ad2), (.ref ad3), (.ref ad4)] ∧ Z.Warmed39 U_.vm ∧ U_.heap = h0) (fun _ _ _ _ _ => True) (fun _ U_ o_ V_ => ∃ v_ L_, o_ = .returned v_ ∧ Q_am12_1 Z cs_ a_TEXT ad1 ad2 ad3 ad4 h0 n0 v_ V_.heap L_ ∧ FrameEnd U_ o_ V_ L_ (rm 2 1 5 30).cells (rm 2 1 5 30).slots) := by
  refine MetFree.of_bodySF (plainFor_of_name pn_4) hisR ?_
  intro p e s m args below meth c s₁ Bd hml0 hP hK
  obtain ⟨rfl, hZ, hh⟩ := hP
  have hx := Bd.exec
  have hby := Bd.bytes
  have hml : c.maxLocals = 4 := hml0
  have hown : s.vm.findClass "com/example/overcap/overcap/model/Figure" = some m.cls := findClass_of_methodNamed Bd.named
  have hnm := (name_of_methodNamed Bd.named Bd.method).1
  have X0 : Stand p l e (rm 2 1 5 30) s m #[(.ref ad1), (.ref ad2), (.ref ad3), (.ref ad4)] below meth c s₁ [] 0 0 := Stand.of_body Bd
  have e0 : s₁.heap = h0 := by rw [← hh, Bd.state]; rfl
  have N0 := Fr.nil n0
  have kp0 := Keep.refl h0 []
  show Go p e below (Fin1 s below (Q_am12_1 Z cs_ a_TEXT ad1 ad2 ad3 ad4 h0 n0) (rm 2 1 5 30).cells (rm 2 1 5 30).slots) _
  refine Go.step (fun t_ k_ => castTop (ef_am12_1 m ad1 ad2 ad3 ad4) k_) ?_
  obtain ⟨S_cs, N_cs, Ea_TEXT, Sa_TEXT⟩ := id HW
  show Go p e below _ (s₁.setTop (mkF m 0 #[.val (.ref ad1), .val (.ref ad2), .val (.ref ad3), .val (.ref ad4)] []))
  obtain ⟨T1, h1, X1, e1, E1, A1, D1, Y1, st1⟩ := newO X0 hx hZ hown (wd hw 55 rfl) (wd hw 56 rfl) (wd hw 53 rfl) e0 (g := (mkF m 0 #[.val (.ref ad1), .val (.ref ad2), .val (.ref ad3), .val (.ref ad4)] [])) rfl (hb hby d12_0) (by decide) (by decide)
  obtain ⟨b1, g1⟩ : ∃ z, z = h0.size := ⟨_, rfl⟩
  rw [← g1] at A1 D1 Y1 st1
  have nn_b1 : n0 ≤ b1 := Nat.le_trans (old_z0 Ol) (Nat.le_of_eq g1.symm)
  have sz_b1 : h0.size ≤ b1 := Nat.le_trans kp0.1 (Nat.le_of_eq g1.symm)
  have old1 := Ol.ext E1
  have kp1 := kp0.ext E1
  have F1_key : Fld Z h1 b1 "com/example/overcap/overcap/model/Figure" "key" "Ljava/lang/String;" .null := D1 (Or.inr (wd hw 65 rfl)) (ty := (.object "java/lang/String")) (by decide)
  have F1_label : Fld Z h1 b1 "com/example/overcap/overcap/model/Figure" "label" "Ljava/lang/String;" .null := D1 (Or.inr (wd hw 67 rfl)) (ty := (.object "java/lang/String")) (by decide)
  have F1_kind : Fld Z h1 b1 "com/example/overcap/overcap/model/Figure" "kind" "Lcom/example/overcap/overcap/model/Figure$Kind;" .null := D1 (Or.inr (wd hw 69 rfl)) (ty := (.object "com/example/overcap/overcap/model/Figure$Kind")) (by decide)
  have F1_value : Fld Z h1 b1 "com/example/overcap/overcap/model/Figure" "value" "Ljava/lang/String;" .null := D1 (Or.inr (wd hw 71 rfl)) (ty := (.object "java/lang/String")) (by decide)
  have F1_working : Fld Z h1 b1 "com/example/overcap/overcap/model/Figure" "working" "Ljava/lang/String;" .null := D1 (Or.inr (wd hw 73 rfl)) (ty := (.object "java/lang/String")) (by decide)
  refine Go.fin st1 ?_
  show Go p e below _ (T1.setTop (mkF m 3 _ [(.ref b1)]))
  refine gs.dup X1.here hx (hb hby d12_3) rfl ?_
  refine gs.aloadN X1.here hx (hb hby d12_4) rfl rfl ?_
  refine gs.aloadN X1.here hx (hb hby d12_5) rfl rfl ?_
  obtain ⟨T2, X2, e2, st2⟩ := getS2 X1 hx hZ hown (host := "") (Or.inl (wd hw 57 rfl)) Via.refl e1 (Sa_TEXT.ext old1.2) (g := (mkF m 6 #[.val (.ref ad1), .val (.ref ad2), .val (.ref ad3), .val (.ref ad4)] [(.ref ad2), (.ref ad1), (.ref b1), (.ref b1)])) rfl (hb hby d12_6)
  refine Go.fin st2 ?_
  show Go p e below _ (T2.setTop (mkF m 9 _ [(.ref a_TEXT), (.ref ad2), (.ref ad1), (.ref b1), (.ref b1)]))
  refine gs.aloadN X2.here hx (hb hby d12_9) rfl rfl ?_
  refine gs.aloadN X2.here hx (hb hby d12_10) rfl rfl ?_
  refine gs.init 1 X2 hx hZ hown (am13_1 l Z a0 hw [] cs_ a_TEXT HW (b1) (ad1) (ad2) (ad3) (ad4) h1 n0 old1 A1 F1_key F1_label F1_kind F1_value F1_working nn_b1) (wd hw 62 rfl) (wd hw 53 rfl) (wd hw 60 rfl) rfl (wd hw 61 rfl) (by decide) (by decide) (by decide) (by rw [hml]; rfl) [(.ref ad1), (.ref ad2), (.ref a_TEXT), (.ref ad3), (.ref ad4)] (lenOf pd_10 rfl) rfl (Nat.le_of_eq rfl) (hb hby d12_11) rfl e2 (by decide) (by decide) fun T3 Lc3 v3 X3 hQ3 => ?_
  obtain ⟨rfl, Nq3, K3, p3_0, p3_1, p3_2, p3_3, p3_4, p3_5⟩ := hQ3
  have old3 := old1.keep K3 (allS nn_b1 all0)
  have kp3 := kp1.trans K3 (allS (Or.inr sz_b1) all0)
  have N3 := Fr.app N0 Nq3
  show Go p e below _ (T3.setTop (mkF m 14 _ [(.ref b1)]))
  refine Go.retR X3 hx Bd.returns rfl rfl Bd.notSynchronized (hb hby d12_14) (by exact ⟨b1, rfl, sz_b1, N3, kp3, p3_0, p3_1, p3_2, p3_3, p3_4, p3_5⟩) (by decide) (by decide)
theorem pd_11 : parseMethodDescriptor "(Ljava/lang/String;Ljava/lang/String;Ljava/lang/String;Ljava/lang/String;)Lcom/example/overcap/overcap/model/Figure;" = some ⟨[(.object "java/lang/String"), (.object "java/lang/String"), (.object "java/lang/String"), (.object "java/lang/String")], some (.object "com/example/overcap/overcap/model/Figure")⟩ := by decide +kernel
theorem d14_0 : decode c_14 0 = .ok (.aload_n 0, 1) := by decide +kernel
theorem d14_1 : decode c_14 1 = .ok (.getfield 16, 3) := by decide +kernel
theorem d14_4 : decode c_14 4 = .ok (.areturn, 1) := by decide +kernel
theorem ef_am14_1 (m : MethodId) (x0 : Addr)  : entryFrame m #[(.ref x0)] 1 = mkF m 0 #[.val (.ref x0)] [] := by first | (simp [entryFrame, mkF, argsToLocals, Value.category]; done) | rfl
def Q_am14_1 (Z : State) (cs_ : Int32) (a_TEXT : Addr) (ad1 : Addr) (h0 : Heap) (n0 : Nat) (v : Option Value) (h : Heap) (L : List Loc) : Prop := v = some (.ref a_TEXT) ∧ Fr n0 L ∧ h = h0
set_option maxRecDepth 65536 in
set_option maxHeartbeats 40000000 in
theorem am14_1 (l : Launch) (Z : State) (a0 : Array Value) (hw : ∀ d ∈ tables_1, d.before a0 Z = true) (ws : List Jvm.Cond) (cs_ : Int32) (a_TEXT : Addr) (HW : Wd Z cs_ a_TEXT) (ad1 : Addr) (h0 : Heap) (n0 : Nat) (Ol : Old Z n0 h0) (HF_ad1_Figure_kind : Fld Z h0 ad1 "com/example/overcap/overcap/model/Figure" "kind" "Lcom/example/overcap/overcap/model/Figure$Kind;" (.ref a_TEXT)) :
    MetFree l y_14 (head1 (Jvm.Cond.code y_14 prog_12_method_11_code 1 (some (.object "com/example/overcap/overcap/model/Figure$Kind")) :: ws) (rm 0 0 0 0)) (fun a_ U_ => a_ = #[(.ref ad1)] ∧ Z.Warmed39 U_.vm ∧ U_.heap = h0) (fun _ _ _ _ _ => True) (fun _ U_ o_ V_ => ∃ v_ L_, o_ = .returned v_ ∧ Q_am14_1 Z cs_ a_TEXT ad1 h0 n0 v_ V_.heap L_ ∧ FrameEnd U_ o_ V_ L_ (rm 0 0 0 0).cells (rm 0 0 0 0).slots) := by
  refine MetFree.of_bodySF (plainFor_of_name pn_4) hisR ?_
  intro p e s m args below meth c s₁ Bd hml0 hP hK
  obtain ⟨rfl, hZ, hh⟩ := hP
  have hx := Bd.exec
  have hby := Bd.bytes
  have hml : c.maxLocals = 1 := hml0
  have hown : s.vm.findClass "com/example/overcap/overcap/model/Figure" = some m.cls := findClass_of_methodNamed Bd.named
  have hnm := (name_of_methodNamed Bd.named Bd.method).1
  have X0 : Stand p l e (rm 0 0 0 0) s m #[(.ref ad1)] below meth c s₁ [] 0 0 := Stand.of_body Bd
  have e0 : s₁.heap = h0 := by rw [← hh, Bd.state]; rfl
  have N0 := Fr.nil n0
  have kp0 := Keep.refl h0 []
  show Go p e below (Fin1 s below (Q_am14_1 Z cs_ a_TEXT ad1 h0 n0) (rm 0 0 0 0).cells (rm 0 0 0 0).slots) _
  refine Go.step (fun t_ k_ => castTop (ef_am14_1 m ad1) k_) ?_
  obtain ⟨S_cs, N_cs, Ea_TEXT, Sa_TEXT⟩ := id HW
  show Go p e below _ (s₁.setTop (mkF m 0 #[.val (.ref ad1)] []))
  refine gs.aloadN X0.here hx (hb hby d14_0) rfl rfl ?_
  refine gs.getF X0 hx hZ hown (wd hw 68 rfl) Via.refl e0 HF_ad1_Figure_kind (hb hby d14_1) fun T1 X1 e1 => ?_
  refine Go.retR X1 hx Bd.returns rfl rfl Bd.notSynchronized (hb hby d14_4) (by rw [e1]; exact ⟨rfl, N0, rfl⟩) (by decide) (by decide)
theorem pd_12 : parseMethodDescriptor "()Lcom/example/overcap/overcap/model/Figure$Kind;" = some ⟨[], some (.object "com/example/overcap/overcap/model/Figure$Kind")⟩ := by decide +kernel
theorem d15_0 : decode c_15 0 = .ok (.aload_n 0, 1) := by decide +kernel
theorem d15_1 : decode c_15 1 = .ok (.getfield 7, 3) := by decide +kernel
theorem d15_4 : decode c_15 4 = .ok (.areturn, 1) := by decide +kernel
theorem ef_am15_1 (m : MethodId) (x0 : Addr)  : entryFrame m #[(.ref x0)] 1 = mkF m 0 #[.val (.ref x0)] [] := by first | (simp [entryFrame, mkF, argsToLocals, Value.category]; done) | rfl
def Q_am15_1 (Z : State) (cs_ : Int32) (a_TEXT : Addr) (ad1 : Addr) (ad2 : Addr) (h0 : Heap) (n0 : Nat) (v : Option Value) (h : Heap) (L : List Loc) : Prop := v = some (.ref ad2) ∧ Fr n0 L ∧ h = h0
set_option maxRecDepth 65536 in
set_option maxHeartbeats 40000000 in
theorem am15_1 (l : Launch) (Z : State) (a0 : Array Value) (hw : ∀ d ∈ tables_1, d.before a0 Z = true) (ws : List Jvm.Cond) (cs_ : Int32) (a_TEXT : Addr) (HW : Wd Z cs_ a_TEXT) (ad1 : Addr) (ad2 : Addr) (h0 : Heap) (n0 : Nat) (Ol : Old Z n0 h0) (HF_ad1_Figure_key : Fld Z h0 ad1 "com/example/overcap/overcap/model/Figure" "key" "Ljava/lang/String;" (.ref ad2)) :
    MetFree l y_15 (head1 (Jvm.Cond.code y_15 prog_12_method_9_code 1 (some (.object "java/lang/String")) :: ws) (rm 0 0 0 0)) (fun a_ U_ => a_ = #[(.ref ad1)] ∧ Z.Warmed39 U_.vm ∧ U_.heap = h0) (fun _ _ _ _ _ => True) (fun _ U_ o_ V_ => ∃ v_ L_, o_ = .returned v_ ∧ Q_am15_1 Z cs_ a_TEXT ad1 ad2 h0 n0 v_ V_.heap L_ ∧ FrameEnd U_ o_ V_ L_ (rm 0 0 0 0).cells (rm 0 0 0 0).slots) := by
  refine MetFree.of_bodySF (plainFor_of_name pn_4) hisR ?_
  intro p e s m args below meth c s₁ Bd hml0 hP hK
  obtain ⟨rfl, hZ, hh⟩ := hP
  have hx := Bd.exec
  have hby := Bd.bytes
  have hml : c.maxLocals = 1 := hml0
  have hown : s.vm.findClass "com/example/overcap/overcap/model/Figure" = some m.cls := findClass_of_methodNamed Bd.named
  have hnm := (name_of_methodNamed Bd.named Bd.method).1
  have X0 : Stand p l e (rm 0 0 0 0) s m #[(.ref ad1)] below meth c s₁ [] 0 0 := Stand.of_body Bd
  have e0 : s₁.heap = h0 := by rw [← hh, Bd.state]; rfl
  have N0 := Fr.nil n0
  have kp0 := Keep.refl h0 []
  show Go p e below (Fin1 s below (Q_am15_1 Z cs_ a_TEXT ad1 ad2 h0 n0) (rm 0 0 0 0).cells (rm 0 0 0 0).slots) _
  refine Go.step (fun t_ k_ => castTop (ef_am15_1 m ad1) k_) ?_
  obtain ⟨S_cs, N_cs, Ea_TEXT, Sa_TEXT⟩ := id HW
  show Go p e below _ (s₁.setTop (mkF m 0 #[.val (.ref ad1)] []))
  refine gs.aloadN X0.here hx (hb hby d15_0) rfl rfl ?_
  refine gs.getF X0 hx hZ hown (wd hw 64 rfl) Via.refl e0 HF_ad1_Figure_key (hb hby d15_1) fun T1 X1 e1 => ?_
  refine Go.retR X1 hx Bd.returns rfl rfl Bd.notSynchronized (hb hby d15_4) (by rw [e1]; exact ⟨rfl, N0, rfl⟩) (by decide) (by decide)
theorem pd_13 : parseMethodDescriptor "()Ljava/lang/String;" = some ⟨[], some (.object "java/lang/String")⟩ := by decide +kernel
theorem d16_0 : decode c_16 0 = .ok (.aload_n 0, 1) := by decide +kernel
theorem d16_1 : decode c_16 1 = .ok (.aload_n 1, 1) := by decide +kernel
theorem d16_2 : decode c_16 2 = .ok (.if_acmp .ne 5, 3) := by decide +kernel
theorem d16_5 : decode c_16 5 = .ok (.iconst 1, 1) := by decide +kernel
theorem d16_6 : decode c_16 6 = .ok (.ireturn, 1) := by decide +kernel
theorem ef_am16_1 (m : MethodId) (x0 : Addr) (x1 : Addr)  : entryFrame m #[(.ref x0), (.ref x1)] 3 = mkF m 0 #[.val (.ref x0), .val (.ref x1), .unset] [] := by first | (simp [entryFrame, mkF, argsToLocals, Value.category]; done) | rfl
def Q_am16_1 (Z : State) (cs_ : Int32) (a_TEXT : Addr) (ad1 : Addr) (h0 : Heap) (n0 : Nat) (v : Option Value) (h : Heap) (L : List Loc) : Prop := v = some (.int (1 : Int32)) ∧ Fr n0 L ∧ h = h0
set_option maxRecDepth 65536 in
set_option maxHeartbeats 40000000 in
theorem am16_1 (l : Launch) (Z : State) (a0 : Array Value) (hw : ∀ d ∈ tables_1, d.before a0 Z = true) (ws : List Jvm.Cond) (cs_ : Int32) (a_TEXT : Addr) (HW : Wd Z cs_ a_TEXT) (ad1 : Addr) (h0 : Heap) (n0 : Nat) (Ol : Old Z n0 h0)  :
    MetFree l y_16 (head1 (Jvm.Cond.code y_16 jdk_42_method_66_code 3 (some .boolean) :: ws) (rm 0 0 0 0)) (fun a_ U_ => a_ = #[(.ref ad1), (.ref ad1)] ∧ Z.Warmed39 U_.vm ∧ U_.heap = h0) (fun _ _ _ _ _ => True) (fun _ U_ o_ V_ => ∃ v_ L_, o_ = .returned v_ ∧ Q_am16_1 Z cs_ a_TEXT ad1 h0 n0 v_ V_.heap L_ ∧ FrameEnd U_ o_ V_ L_ (rm 0 0 0 0).cells (rm 0 0 0 0).slots) := by
  refine MetFree.of_bodySF (plainFor_of_name pn_0) hisR ?_
  intro p e s m args below meth c s₁ Bd hml0 hP hK
  obtain ⟨rfl, hZ, hh⟩ := hP
  have hx := Bd.exec
  have hby := Bd.bytes
  have hml : c.maxLocals = 3 := hml0
  have hown : s.vm.findClass "java/lang/String" = some m.cls := findClass_of_methodNamed Bd.named
  have hnm := (name_of_methodNamed Bd.named Bd.method).1
  have X0 : Stand p l e (rm 0 0 0 0) s m #[(.ref ad1), (.ref ad1)] below meth c s₁ [] 0 0 := Stand.of_body Bd
  have e0 : s₁.heap = h0 := by rw [← hh, Bd.state]; rfl
  have N0 := Fr.nil n0
  have kp0 := Keep.refl h0 []
  show Go p e below (Fin1 s below (Q_am16_1 Z cs_ a_TEXT ad1 h0 n0) (rm 0 0 0 0).cells (rm 0 0 0 0).slots) _
  refine Go.step (fun t_ k_ => castTop (ef_am16_1 m ad1 ad1) k_) ?_
  obtain ⟨S_cs, N_cs, Ea_TEXT, Sa_TEXT⟩ := id HW
  show Go p e below _ (s₁.setTop (mkF m 0 #[.val (.ref ad1), .val (.ref ad1), .unset] []))
  refine gs.aloadN X0.here hx (hb hby d16_0) rfl rfl ?_
  refine gs.aloadN X0.here hx (hb hby d16_1) rfl rfl ?_
  refine Go.step (fun t_ k_ => Jvm.RoadKit.acmp (g := (mkF m 2 #[.val (.ref ad1), .val (.ref ad1), .unset] [(.ref ad1), (.ref ad1)])) X0 hx rfl rfl rfl (pc0 := 2) (pc' := 5) (same := true) rfl (hb hby d16_2) rfl (decide_eq_true rfl) (by decide) (by decide) k_) ?_
  show Go p e below _ (s₁.setTop (mkF m 5 #[.val (.ref ad1), .val (.ref ad1), .unset] []))
  refine gs.iconst 1 X0.here hx (hb hby d16_5) rfl ?_
  refine Go.retZ X0 hx (t := .boolean) Bd.returns (by simp) Bd.notSynchronized (hb hby d16_6) (by rw [e0]; exact ⟨rfl, N0, rfl⟩) (by decide) (by decide)
theorem pd_14 : parseMethodDescriptor "(Ljava/lang/Object;)Z" = some ⟨[(.object "java/lang/Object")], some .boolean⟩ := by decide +kernel
theorem d17_0 : decode c_17 0 = .ok (.aload_n 0, 1) := by decide +kernel
theorem d17_1 : decode c_17 1 = .ok (.getfield 13, 3) := by decide +kernel
theorem d17_4 : decode c_17 4 = .ok (.areturn, 1) := by decide +kernel
theorem ef_am17_1 (m : MethodId) (x0 : Addr)  : entryFrame m #[(.ref x0)] 1 = mkF m 0 #[.val (.ref x0)] [] := by first | (simp [entryFrame, mkF, argsToLocals, Value.category]; done) | rfl
def Q_am17_1 (Z : State) (cs_ : Int32) (a_TEXT : Addr) (ad1 : Addr) (ad3 : Addr) (h0 : Heap) (n0 : Nat) (v : Option Value) (h : Heap) (L : List Loc) : Prop := v = some (.ref ad3) ∧ Fr n0 L ∧ h = h0
set_option maxRecDepth 65536 in
set_option maxHeartbeats 40000000 in
theorem am17_1 (l : Launch) (Z : State) (a0 : Array Value) (hw : ∀ d ∈ tables_1, d.before a0 Z = true) (ws : List Jvm.Cond) (cs_ : Int32) (a_TEXT : Addr) (HW : Wd Z cs_ a_TEXT) (ad1 : Addr) (ad3 : Addr) (h0 : Heap) (n0 : Nat) (Ol : Old Z n0 h0) (HF_ad1_Figure_label : Fld Z h0 ad1 "com/example/overcap/overcap/model/Figure" "label" "Ljava/lang/String;" (.ref ad3)) :
    MetFree l y_17 (head1 (Jvm.Cond.code y_17 prog_12_method_10_code 1 (some (.object "java/lang/String")) :: ws) (rm 0 0 0 0)) (fun a_ U_ => a_ = #[(.ref ad1)] ∧ Z.Warmed39 U_.vm ∧ U_.heap = h0) (fun _ _ _ _ _ => True) (fun _ U_ o_ V_ => ∃ v_ L_, o_ = .returned v_ ∧ Q_am17_1 Z cs_ a_TEXT ad1 ad3 h0 n0 v_ V_.heap L_ ∧ FrameEnd U_ o_ V_ L_ (rm 0 0 0 0).cells (rm 0 0 0 0).slots) := by
  refine MetFree.of_bodySF (plainFor_of_name pn_4) hisR ?_
  intro p e s m args below meth c s₁ Bd hml0 hP hK
  obtain ⟨rfl, hZ, hh⟩ := hP
  have hx := Bd.exec
  have hby := Bd.bytes
  have hml : c.maxLocals = 1 := hml0
  have hown : s.vm.findClass "com/example/overcap/overcap/model/Figure" = some m.cls := findClass_of_methodNamed Bd.named
  have hnm := (name_of_methodNamed Bd.named Bd.method).1
  have X0 : Stand p l e (rm 0 0 0 0) s m #[(.ref ad1)] below meth c s₁ [] 0 0 := Stand.of_body Bd
  have e0 : s₁.heap = h0 := by rw [← hh, Bd.state]; rfl
  have N0 := Fr.nil n0
  have kp0 := Keep.refl h0 []
  show Go p e below (Fin1 s below (Q_am17_1 Z cs_ a_TEXT ad1 ad3 h0 n0) (rm 0 0 0 0).cells (rm 0 0 0 0).slots) _
  refine Go.step (fun t_ k_ => castTop (ef_am17_1 m ad1) k_) ?_
  obtain ⟨S_cs, N_cs, Ea_TEXT, Sa_TEXT⟩ := id HW
  show Go p e below _ (s₁.setTop (mkF m 0 #[.val (.ref ad1)] []))
  refine gs.aloadN X0.here hx (hb hby d17_0) rfl rfl ?_
  refine gs.getF X0 hx hZ hown (wd hw 66 rfl) Via.refl e0 HF_ad1_Figure_label (hb hby d17_1) fun T1 X1 e1 => ?_
  refine Go.retR X1 hx Bd.returns rfl rfl Bd.notSynchronized (hb hby d17_4) (by rw [e1]; exact ⟨rfl, N0, rfl⟩) (by decide) (by decide)
theorem d18_0 : decode c_18 0 = .ok (.aload_n 0, 1) := by decide +kernel
theorem d18_1 : decode c_18 1 = .ok (.getfield 20, 3) := by decide +kernel
theorem d18_4 : decode c_18 4 = .ok (.areturn, 1) := by decide +kernel
theorem ef_am18_1 (m : MethodId) (x0 : Addr)  : entryFrame m #[(.ref x0)] 1 = mkF m 0 #[.val (.ref x0)] [] := by first | (simp [entryFrame, mkF, argsToLocals, Value.category]; done) | rfl
def Q_am18_1 (Z : State) (cs_ : Int32) (a_TEXT : Addr) (ad1 : Addr) (ad4 : Addr) (h0 : Heap) (n0 : Nat) (v : Option Value) (h : Heap) (L : List Loc) : Prop := v = some (.ref ad4) ∧ Fr n0 L ∧ h = h0
set_option maxRecDepth 65536 in
set_option maxHeartbeats 40000000 in
theorem am18_1 (l : Launch) (Z : State) (a0 : Array Value) (hw : ∀ d ∈ tables_1, d.before a0 Z = true) (ws : List Jvm.Cond) (cs_ : Int32) (a_TEXT : Addr) (HW : Wd Z cs_ a_TEXT) (ad1 : Addr) (ad4 : Addr) (h0 : Heap) (n0 : Nat) (Ol : Old Z n0 h0) (HF_ad1_Figure_value : Fld Z h0 ad1 "com/example/overcap/overcap/model/Figure" "value" "Ljava/lang/String;" (.ref ad4)) :
    MetFree l y_18 (head1 (Jvm.Cond.code y_18 prog_12_method_12_code 1 (some (.object "java/lang/String")) :: ws) (rm 0 0 0 0)) (fun a_ U_ => a_ = #[(.ref ad1)] ∧ Z.Warmed39 U_.vm ∧ U_.heap = h0) (fun _ _ _ _ _ => True) (fun _ U_ o_ V_ => ∃ v_ L_, o_ = .returned v_ ∧ Q_am18_1 Z cs_ a_TEXT ad1 ad4 h0 n0 v_ V_.heap L_ ∧ FrameEnd U_ o_ V_ L_ (rm 0 0 0 0).cells (rm 0 0 0 0).slots) := by
  refine MetFree.of_bodySF (plainFor_of_name pn_4) hisR ?_
  intro p e s m args below meth c s₁ Bd hml0 hP hK
  obtain ⟨rfl, hZ, hh⟩ := hP
  have hx := Bd.exec
  have hby := Bd.bytes
  have hml : c.maxLocals = 1 := hml0
  have hown : s.vm.findClass "com/example/overcap/overcap/model/Figure" = some m.cls := findClass_of_methodNamed Bd.named
  have hnm := (name_of_methodNamed Bd.named Bd.method).1
  have X0 : Stand p l e (rm 0 0 0 0) s m #[(.ref ad1)] below meth c s₁ [] 0 0 := Stand.of_body Bd
  have e0 : s₁.heap = h0 := by rw [← hh, Bd.state]; rfl
  have N0 := Fr.nil n0
  have kp0 := Keep.refl h0 []
  show Go p e below (Fin1 s below (Q_am18_1 Z cs_ a_TEXT ad1 ad4 h0 n0) (rm 0 0 0 0).cells (rm 0 0 0 0).slots) _
  refine Go.step (fun t_ k_ => castTop (ef_am18_1 m ad1) k_) ?_
  obtain ⟨S_cs, N_cs, Ea_TEXT, Sa_TEXT⟩ := id HW
  show Go p e below _ (s₁.setTop (mkF m 0 #[.val (.ref ad1)] []))
  refine gs.aloadN X0.here hx (hb hby d18_0) rfl rfl ?_
  refine gs.getF X0 hx hZ hown (wd hw 70 rfl) Via.refl e0 HF_ad1_Figure_value (hb hby d18_1) fun T1 X1 e1 => ?_
  refine Go.retR X1 hx Bd.returns rfl rfl Bd.notSynchronized (hb hby d18_4) (by rw [e1]; exact ⟨rfl, N0, rfl⟩) (by decide) (by decide)
theorem d19_0 : decode c_19 0 = .ok (.aload_n 0, 1) := by decide +kernel
theorem d19_1 : decode c_19 1 = .ok (.getfield 23, 3) := by decide +kernel
theorem d19_4 : decode c_19 4 = .ok (.areturn, 1) := by decide +kernel
theorem ef_am19_1 (m : MethodId) (x0 : Addr)  : entryFrame m #[(.ref x0)] 1 = mkF m 0 #[.val (.ref x0)] [] := by first | (simp [entryFrame, mkF, argsToLocals, Value.category]; done) | rfl
def Q_am19_1 (Z : State) (cs_ : Int32) (a_TEXT : Addr) (ad1 : Addr) (ad5 : Addr) (h0 : Heap) (n0 : Nat) (v : Option Value) (h : Heap) (L : List Loc) : Prop := v = some (.ref ad5) ∧ Fr n0 L ∧ h = h0
set_option maxRecDepth 65536 in
set_option maxHeartbeats 40000000 in
theorem am19_1 (l : Launch) (Z : State) (a0 : Array Value) (hw : ∀ d ∈ tables_1, d.before a0 Z = true) (ws : List Jvm.Cond) (cs_ : Int32) (a_TEXT : Addr) (HW : Wd Z cs_ a_TEXT) (ad1 : Addr) (ad5 : Addr) (h0 : Heap) (n0 : Nat) (Ol : Old Z n0 h0) (HF_ad1_Figure_working : Fld Z h0 ad1 "com/example/overcap/overcap/model/Figure" "working" "Ljava/lang/String;" (.ref ad5)) :
    MetFree l y_19 (head1 (Jvm.Cond.code y_19 prog_12_method_13_code 1 (some (.object "java/lang/String")) :: ws) (rm 0 0 0 0)) (fun a_ U_ => a_ = #[(.ref ad1)] ∧ Z.Warmed39 U_.vm ∧ U_.heap = h0) (fun _ _ _ _ _ => True) (fun _ U_ o_ V_ => ∃ v_ L_, o_ = .returned v_ ∧ Q_am19_1 Z cs_ a_TEXT ad1 ad5 h0 n0 v_ V_.heap L_ ∧ FrameEnd U_ o_ V_ L_ (rm 0 0 0 0).cells (rm 0 0 0 0).slots) := by
  refine MetFree.of_bodySF (plainFor_of_name pn_4) hisR ?_
  intro p e s m args below meth c s₁ Bd hml0 hP hK
  obtain ⟨rfl, hZ, hh⟩ := hP
  have hx := Bd.exec
  have hby := Bd.bytes
  have hml : c.maxLocals = 1 := hml0
  have hown : s.vm.findClass "com/example/overcap/overcap/model/Figure" = some m.cls := findClass_of_methodNamed Bd.named
  have hnm := (name_of_methodNamed Bd.named Bd.method).1
  have X0 : Stand p l e (rm 0 0 0 0) s m #[(.ref ad1)] below meth c s₁ [] 0 0 := Stand.of_body Bd
  have e0 : s₁.heap = h0 := by rw [← hh, Bd.state]; rfl
  have N0 := Fr.nil n0
  have kp0 := Keep.refl h0 []
  show Go p e below (Fin1 s below (Q_am19_1 Z cs_ a_TEXT ad1 ad5 h0 n0) (rm 0 0 0 0).cells (rm 0 0 0 0).slots) _
  refine Go.step (fun t_ k_ => castTop (ef_am19_1 m ad1) k_) ?_
  obtain ⟨S_cs, N_cs, Ea_TEXT, Sa_TEXT⟩ := id HW
  show Go p e below _ (s₁.setTop (mkF m 0 #[.val (.ref ad1)] []))
  refine gs.aloadN X0.here hx (hb hby d19_0) rfl rfl ?_
  refine gs.getF X0 hx hZ hown (wd hw 72 rfl) Via.refl e0 HF_ad1_Figure_working (hb hby d19_1) fun T1 X1 e1 => ?_
  refine Go.retR X1 hx Bd.returns rfl rfl Bd.notSynchronized (hb hby d19_4) (by rw [e1]; exact ⟨rfl, N0, rfl⟩) (by decide) (by decide)
theorem ef_rm0 (m : MethodId) (x0 : Int32) (x1 : Int32) (x2 : Int32) (x3 : Int32)  : entryFrame m #[(.int x0), (.int x1), (.int x2), (.int x3)] maxLocals = mkF m 0 #[.val (.int x0), .val (.int x1), .val (.int x2), .val (.int x3), .unset, .unset, .unset, .unset, .unset] [] := by first | (simp [entryFrame, mkF, argsToLocals, Value.category, maxLocals]; done) | rfl
def Q_rm0 (Z : State) (cs_ : Int32) (a_TEXT : Addr) (p1 p2 p3 p4 : Int32) (h0 : Heap) (n0 : Nat) (v : Option Value) (h : Heap) (L : List Loc) : Prop := v = some (.int 1) ∧ Fr n0 L
set_option maxRecDepth 65536 in
set_option maxHeartbeats 40000000 in
theorem rm0 (l : Launch) (Z : State) (a0 : Array Value) (hw : ∀ d ∈ tables_1, d.before a0 Z = true) (ws : List Jvm.Cond) (cs_ : Int32) (a_TEXT : Addr) (HW : Wd Z cs_ a_TEXT) (p1 p2 p3 p4 : Int32) (h0 : Heap) (n0 : Nat) (Ol : Old Z n0 h0)  :
    MetFree l x (head1 (Jvm.Cond.code x code maxLocals ret :: ws) room_1) (fun a_ U_ => a_ = #[(.int p1), (.int p2), (.int p3), (.int p4)] ∧ Z.Warmed39 U_.vm ∧ U_.heap = h0 ∧ CHv Z EL_ U_.vm h0) (fun _ _ _ _ _ => True) (fun _ U_ o_ V_ => ∃ v_ L_, o_ = .returned v_ ∧ Q_rm0 Z cs_ a_TEXT p1 p2 p3 p4 h0 n0 v_ V_.heap L_ ∧ ReturnedEndW U_ o_ V_ L_ room_1.cells room_1.slots) := by
  refine MetFree.of_bodySF (plainFor_of_name pn_3) hisR ?_
  intro p e s m args below meth c s₁ Bd hml0 hP hK
  obtain ⟨rfl, hZ, hh, Hc0⟩ := hP
  have hx := Bd.exec
  have hby := Bd.bytes
  have hml : c.maxLocals = 9 := hml0
  have hown : s.vm.findClass "com/example/overcap/overcap/model/FigureTextPinLaw" = some m.cls := findClass_of_methodNamed Bd.named
  have hnm := (name_of_methodNamed Bd.named Bd.method).1
  have X0 : Stand p l e room_1 s m #[(.int p1), (.int p2), (.int p3), (.int p4)] below meth c s₁ [] 0 0 := Stand.of_body Bd
  have e0 : s₁.heap = h0 := by rw [← hh, Bd.state]; rfl
  have N0 := Fr.nil n0
  have kp0 := Keep.refl h0 []
  show Go p e below (Fin2 s below (Q_rm0 Z cs_ a_TEXT p1 p2 p3 p4 h0 n0) room_1.cells room_1.slots) _
  have S0 : s.Since s.vm 0 := (State.WarmedH.refl s).since 0
  have hk0 : 0 ≤ h0.size := Nat.zero_le _
  refine Go.step (fun t_ k_ => castTop (ef_rm0 m p1 p2 p3 p4) k_) ?_
  obtain ⟨S_cs, N_cs, Ea_TEXT, Sa_TEXT⟩ := id HW
  show Go p e below _ (s₁.setTop (mkF m 0 #[.val (.int p1), .val (.int p2), .val (.int p3), .val (.int p4), .unset, .unset, .unset, .unset, .unset] []))
  refine gs.iloadN X0.here hx (hb hby at_0) rfl ?_
  obtain ⟨_, _, ⟨T1, L1, k1, n1⟩, -, X1, S1, gr1, ⟨Lc1, hQ1, l1, y1, z1, C1⟩, st1⟩ := callSS X0 hx (y := y_1) hown (mvT hZ (wd hw 0 rfl)) (mvT hZ (wd hw 1 rfl)) (mvT hZ (wd hw 2 rfl)) (mvT hZ (wd hw 3 rfl)) (by decide) (backOfSH (s := s) (vm0 := s.vm) (W := 0) (rm1 l Z a0 hw [] cs_ a_TEXT HW p1 h0 n0 Ol ) hZ (wd hw 3 rfl) (wd hw 2 rfl) (by decide) (by decide) (hEL_ hw) (CHr.keep kp0 sf0 Hc0).1) (g := (mkF m 1 #[.val (.int p1), .val (.int p2), .val (.int p3), .val (.int p4), .unset, .unset, .unset, .unset, .unset] [(.int p1)])) rfl (by rw [hml]; rfl) (argsL := [(.int p1)]) (rest := []) (lenOf pd_9 rfl) rfl (by show 2 * 0 + _ ≤ _; exact Nat.le_of_eq rfl) (hb hby at_1) (fun _ _ => ⟨rfl, e0, (by decide : 0 + 6 ≤ _), (by decide : 0 + 12 ≤ _)⟩)
  dsimp only [Pt.U, Pt.locs, Pt.cells, Pt.slots] at X1 l1 y1 z1 st1 hQ1 S1 gr1 C1
  subst l1 y1 z1
  have chb1 := (CHr.keep kp0 sf0 Hc0).trans C1
  obtain ⟨X1, S1, hZ1, hown1⟩ := rebS (vm0 := s.vm) S0 (by rw [e0]; exact hk0) X1 S1 gr1 hZ hown
  obtain ⟨b1, rfl, gb_b1, Nq1, K1, p1_0⟩ := hQ1
  have nn_b1 : n0 ≤ b1 := Nat.le_trans (old_z0 Ol) gb_b1
  have sz_b1 : h0.size ≤ b1 := Nat.le_trans kp0.1 gb_b1
  have old1 := Ol.keep K1 all0
  have kp1 := kp0.trans K1 all0
  have N1 := Fr.app N0 Nq1
  refine Go.step (fun t_ k_ => st1.trans k_) ?_
  show Go p e below _ (T1.setTop (mkF m 4 #[.val (.int p1), .val (.int p2), .val (.int p3), .val (.int p4), .unset, .unset, .unset, .unset, .unset] [(.ref b1)]))
  refine gs.astore X1.here hx (hb hby at_4) rfl (l' := #[.val (.int p1), .val (.int p2), .val (.int p3), .val (.int p4), .val (.ref b1), .unset, .unset, .unset, .unset]) rfl ?_
  refine gs.iloadN X1.here hx (hb hby at_6) rfl ?_
  obtain ⟨_, _, ⟨T2, L2, k2, n2⟩, -, X2, S2, gr2, ⟨Lc2, hQ2, l2, y2, z2, C2⟩, st2⟩ := callSS X1 hx (y := y_1) hown1 (mvT hZ1 (wd hw 0 rfl)) (mvT hZ1 (wd hw 1 rfl)) (mvT hZ1 (wd hw 2 rfl)) (mvT hZ1 (wd hw 3 rfl)) (by decide) (backOfSH (s := s) (vm0 := T1.vm) (W := 0) (rm1 l Z a0 hw [] cs_ a_TEXT HW p2 T1.heap n0 old1 ) hZ1 (wd hw 3 rfl) (wd hw 2 rfl) (by decide) (by decide) (hEL_ hw) chb1.1) (g := (mkF m 7 #[.val (.int p1), .val (.int p2), .val (.int p3), .val (.int p4), .val (.ref b1), .unset, .unset, .unset, .unset] [(.int p2)])) rfl (by rw [hml]; rfl) (argsL := [(.int p2)]) (rest := []) (lenOf pd_9 rfl) rfl (by show 2 * 0 + _ ≤ _; exact Nat.le_of_eq rfl) (hb hby at_7) (fun _ _ => ⟨rfl, rfl, (by decide : 6 + 6 ≤ _), (by decide : 12 + 12 ≤ _)⟩)
  dsimp only [Pt.U, Pt.locs, Pt.cells, Pt.slots] at X2 l2 y2 z2 st2 hQ2 S2 gr2 C2
  subst l2 y2 z2
  have chb2 := chb1.trans C2
  obtain ⟨X2, S2, hZ2, hown2⟩ := rebS (vm0 := T1.vm) S1 (by exact (Nat.le_refl _)) X2 S2 gr2 hZ1 hown1
  obtain ⟨b2, rfl, gb_b2, Nq2, K2, p2_0⟩ := hQ2
  have nn_b2 : n0 ≤ b2 := Nat.le_trans (old_z0 old1) gb_b2
  have sz_b2 : h0.size ≤ b2 := Nat.le_trans kp1.1 gb_b2
  have old2 := old1.keep K2 all0
  have kp2 := kp1.trans K2 all0
  have N2 := Fr.app N1 Nq2
  refine Go.step (fun t_ k_ => st2.trans k_) ?_
  show Go p e below _ (T2.setTop (mkF m 10 #[.val (.int p1), .val (.int p2), .val (.int p3), .val (.int p4), .val (.ref b1), .unset, .unset, .unset, .unset] [(.ref b2)]))
  refine gs.astore X2.here hx (hb hby at_10) rfl (l' := #[.val (.int p1), .val (.int p2), .val (.int p3), .val (.int p4), .val (.ref b1), .val (.ref b2), .unset, .unset, .unset]) rfl ?_
  refine gs.iloadN X2.here hx (hb hby at_12) rfl ?_
  obtain ⟨_, _, ⟨T3, L3, k3, n3⟩, -, X3, S3, gr3, ⟨Lc3, hQ3, l3, y3, z3, C3⟩, st3⟩ := callSS X2 hx (y := y_1) hown2 (mvT hZ2 (wd hw 0 rfl)) (mvT hZ2 (wd hw 1 rfl)) (mvT hZ2 (wd hw 2 rfl)) (mvT hZ2 (wd hw 3 rfl)) (by decide) (backOfSH (s := s) (vm0 := T2.vm) (W := 0) (rm1 l Z a0 hw [] cs_ a_TEXT HW p3 T2.heap n0 old2 ) hZ2 (wd hw 3 rfl) (wd hw 2 rfl) (by decide) (by decide) (hEL_ hw) chb2.1) (g := (mkF m 13 #[.val (.int p1), .val (.int p2), .val (.int p3), .val (.int p4), .val (.ref b1), .val (.ref b2), .unset, .unset, .unset] [(.int p3)])) rfl (by rw [hml]; rfl) (argsL := [(.int p3)]) (rest := []) (lenOf pd_9 rfl) rfl (by show 2 * 0 + _ ≤ _; exact Nat.le_of_eq rfl) (hb hby at_13) (fun _ _ => ⟨rfl, rfl, (by decide : 12 + 6 ≤ _), (by decide : 24 + 12 ≤ _)⟩)
  dsimp only [Pt.U, Pt.locs, Pt.cells, Pt.slots] at X3 l3 y3 z3 st3 hQ3 S3 gr3 C3
  subst l3 y3 z3
  have chb3 := chb2.trans C3
  obtain ⟨X3, S3, hZ3, hown3⟩ := rebS (vm0 := T2.vm) S2 (by exact (Nat.le_refl _)) X3 S3 gr3 hZ2 hown2
  obtain ⟨b3, rfl, gb_b3, Nq3, K3, p3_0⟩ := hQ3
  have nn_b3 : n0 ≤ b3 := Nat.le_trans (old_z0 old2) gb_b3
  have sz_b3 : h0.size ≤ b3 := Nat.le_trans kp2.1 gb_b3
  have old3 := old2.keep K3 all0
  have kp3 := kp2.trans K3 all0
  have N3 := Fr.app N2 Nq3
  refine Go.step (fun t_ k_ => st3.trans k_) ?_
  show Go p e below _ (T3.setTop (mkF m 16 #[.val (.int p1), .val (.int p2), .val (.int p3), .val (.int p4), .val (.ref b1), .val (.ref b2), .unset, .unset, .unset] [(.ref b3)]))
  refine gs.astore X3.here hx (hb hby at_16) rfl (l' := #[.val (.int p1), .val (.int p2), .val (.int p3), .val (.int p4), .val (.ref b1), .val (.ref b2), .val (.ref b3), .unset, .unset]) rfl ?_
  refine gs.iloadN X3.here hx (hb hby at_18) rfl ?_
  obtain ⟨_, _, ⟨T4, L4, k4, n4⟩, -, X4, S4, gr4, ⟨Lc4, hQ4, l4, y4, z4, C4⟩, st4⟩ := callSS X3 hx (y := y_1) hown3 (mvT hZ3 (wd hw 0 rfl)) (mvT hZ3 (wd hw 1 rfl)) (mvT hZ3 (wd hw 2 rfl)) (mvT hZ3 (wd hw 3 rfl)) (by decide) (backOfSH (s := s) (vm0 := T3.vm) (W := 0) (rm1 l Z a0 hw [] cs_ a_TEXT HW p4 T3.heap n0 old3 ) hZ3 (wd hw 3 rfl) (wd hw 2 rfl) (by decide) (by decide) (hEL_ hw) chb3.1) (g := (mkF m 19 #[.val (.int p1), .val (.int p2), .val (.int p3), .val (.int p4), .val (.ref b1), .val (.ref b2), .val (.ref b3), .unset, .unset] [(.int p4)])) rfl (by rw [hml]; rfl) (argsL := [(.int p4)]) (rest := []) (lenOf pd_9 rfl) rfl (by show 2 * 0 + _ ≤ _; exact Nat.le_of_eq rfl) (hb hby at_19) (fun _ _ => ⟨rfl, rfl, (by decide : 18 + 6 ≤ _), (by decide : 36 + 12 ≤ _)⟩)
  dsimp only [Pt.U, Pt.locs, Pt.cells, Pt.slots] at X4 l4 y4 z4 st4 hQ4 S4 gr4 C4
  subst l4 y4 z4
  have chb4 := chb3.trans C4
  obtain ⟨X4, S4, hZ4, hown4⟩ := rebS (vm0 := T3.vm) S3 (by exact (Nat.le_refl _)) X4 S4 gr4 hZ3 hown3
  obtain ⟨b4, rfl, gb_b4, Nq4, K4, p4_0⟩ := hQ4
  have nn_b4 : n0 ≤ b4 := Nat.le_trans (old_z0 old3) gb_b4
  have sz_b4 : h0.size ≤ b4 := Nat.le_trans kp3.1 gb_b4
  have old4 := old3.keep K4 all0
  have kp4 := kp3.trans K4 all0
  have N4 := Fr.app N3 Nq4
  refine Go.step (fun t_ k_ => st4.trans k_) ?_
  show Go p e below _ (T4.setTop (mkF m 22 #[.val (.int p1), .val (.int p2), .val (.int p3), .val (.int p4), .val (.ref b1), .val (.ref b2), .val (.ref b3), .unset, .unset] [(.ref b4)]))
  refine gs.astore X4.here hx (hb hby at_22) rfl (l' := #[.val (.int p1), .val (.int p2), .val (.int p3), .val (.int p4), .val (.ref b1), .val (.ref b2), .val (.ref b3), .val (.ref b4), .unset]) rfl ?_
  refine gs.aload X4.here hx (hb hby at_24) rfl rfl ?_
  refine gs.aload X4.here hx (hb hby at_26) rfl rfl ?_
  refine gs.aload X4.here hx (hb hby at_28) rfl rfl ?_
  refine gs.aload X4.here hx (hb hby at_30) rfl rfl ?_
  refine gs.stat 0 X4 hx hZ4 hown4 (am12_1 l Z a0 hw [] cs_ a_TEXT HW (b1) (b2) (b3) (b4) T4.heap n0 old4 ) (wd hw 54 rfl) (wd hw 53 rfl) (wd hw 51 rfl) (wd hw 52 rfl) (by decide) (by decide) (by decide) (by rw [hml]; rfl) [(.ref b1), (.ref b2), (.ref b3), (.ref b4)] (lenOf pd_11 rfl) rfl (Nat.le_of_eq rfl) (hb hby at_32) rfl rfl (by decide) (by decide) fun T5 Lc5 v5 X5 hQ5 => ?_
  obtain ⟨b5_0, rfl, gb_b5_0, Nq5, K5, p5_0, p5_1, p5_2, p5_3, p5_4, p5_5⟩ := hQ5
  have nn_b5_0 : n0 ≤ b5_0 := Nat.le_trans (old_z0 old4) gb_b5_0
  have sz_b5_0 : h0.size ≤ b5_0 := Nat.le_trans kp4.1 gb_b5_0
  have old5 := old4.keep K5 all0
  have hk5 := Nat.le_trans (Nat.le_refl _) K5.1
  have kp5 := kp4.trans K5 all0
  have N5 := Fr.app N4 Nq5
  show Go p e below _ (T5.setTop (mkF m 35 _ [(.ref b5_0)]))
  refine gs.astore X5.here hx (hb hby at_35) rfl (l' := #[.val (.int p1), .val (.int p2), .val (.int p3), .val (.int p4), .val (.ref b1), .val (.ref b2), .val (.ref b3), .val (.ref b4), .val (.ref b5_0)]) rfl ?_
  refine gs.aload X5.here hx (hb hby at_37) rfl rfl ?_
  refine gs.virt 0 X5 hx hZ4 hown4 (am14_1 l Z a0 hw [] cs_ a_TEXT HW (b5_0) T5.heap n0 old5 p5_2) (wd hw 78 rfl) (wd hw 53 rfl) (wd hw 74 rfl) (wd hw 75 rfl) (notFace_of_selects (args := #[]) (mvT hZ4 (wd hw 77 rfl))) (wd hw 77 rfl) (wd hw 76 rfl) (by decide) p5_0 (by decide) (by decide) (by rw [hml]; rfl) [] (lenOf pd_12 rfl) rfl (Nat.le_of_eq rfl) (hb hby at_39) rfl rfl (by decide) (by decide) fun T6 Lc6 v6 X6 hQ6 => ?_
  obtain ⟨rfl, Nq6, e6⟩ := hQ6
  have N6 := Fr.app N5 Nq6
  show Go p e below _ (T6.setTop (mkF m 42 _ [(.ref a_TEXT)]))
  obtain ⟨T7, X7, e7, st7⟩ := getS2 X6 hx hZ4 hown4 (host := "") (Or.inl (wd hw 79 rfl)) Via.refl e6 (Sa_TEXT.ext old5.2) (g := (mkF m 42 #[.val (.int p1), .val (.int p2), .val (.int p3), .val (.int p4), .val (.ref b1), .val (.ref b2), .val (.ref b3), .val (.ref b4), .val (.ref b5_0)] [(.ref a_TEXT)])) rfl (hb hby at_42)
  refine Go.fin st7 ?_
  show Go p e below _ (T7.setTop (mkF m 45 _ [(.ref a_TEXT), (.ref a_TEXT)]))
  refine Go.step (fun t_ k_ => Jvm.RoadKit.acmp (g := (mkF m 45 #[.val (.int p1), .val (.int p2), .val (.int p3), .val (.int p4), .val (.ref b1), .val (.ref b2), .val (.ref b3), .val (.ref b4), .val (.ref b5_0)] [(.ref a_TEXT), (.ref a_TEXT)])) X7 hx rfl rfl rfl (pc0 := 45) (pc' := 48) (same := true) rfl (hb hby at_45) rfl (decide_eq_true rfl) (by decide) (by decide) k_) ?_
  show Go p e below _ (T7.setTop (mkF m 48 #[.val (.int p1), .val (.int p2), .val (.int p3), .val (.int p4), .val (.ref b1), .val (.ref b2), .val (.ref b3), .val (.ref b4), .val (.ref b5_0)] []))
  refine gs.aload X7.here hx (hb hby at_48) rfl rfl ?_
  refine gs.aload X7.here hx (hb hby at_50) rfl rfl ?_
  refine gs.virt 1 X7 hx hZ4 hown4 (am15_1 l Z a0 hw [] cs_ a_TEXT HW (b5_0) (b1) T5.heap n0 old5 p5_1) (wd hw 84 rfl) (wd hw 53 rfl) (wd hw 80 rfl) (wd hw 81 rfl) (notFace_of_selects (args := #[]) (mvT hZ4 (wd hw 83 rfl))) (wd hw 83 rfl) (wd hw 82 rfl) (by decide) p5_0 (by decide) (by decide) (by rw [hml]; rfl) [] (lenOf pd_13 rfl) rfl (Nat.le_of_eq rfl) (hb hby at_52) rfl e7 (by decide) (by decide) fun T8 Lc8 v8 X8 hQ8 => ?_
  obtain ⟨rfl, Nq8, e8⟩ := hQ8
  have N8 := Fr.app N6 Nq8
  show Go p e below _ (T8.setTop (mkF m 55 _ [(.ref b1), (.ref b1)]))
  have f9 := ((((p1_0.keep K2).keep K3).keep K4).keep K5)
  refine gs.virt 0 X8 hx hZ4 hown4 (am16_1 l Z a0 hw [] cs_ a_TEXT HW (b1) T5.heap n0 old5 ) (wd hw 89 rfl) (wd hw 6 rfl) (wd hw 85 rfl) (wd hw 86 rfl) (notFace_of_selects (args := #[]) (mvT hZ4 (wd hw 88 rfl))) (wd hw 88 rfl) (wd hw 87 rfl) (by decide) f9 (by decide) (by decide) (by rw [hml]; rfl) [(.ref b1)] (lenOf pd_14 rfl) rfl (Nat.le_of_eq rfl) (hb hby at_55) rfl e8 (by decide) (by decide) fun T10 Lc10 v10 X10 hQ10 => ?_
  obtain ⟨rfl, Nq10, e10⟩ := hQ10
  have N10 := Fr.app N8 Nq10
  show Go p e below _ (T10.setTop (mkF m 58 _ [(.int (1 : Int32))]))
  have hc58 : ¬ ((1 : Int32) = (0 : Int32)) := by decide
  refine gs.ifNo X10.here hx (hb hby at_58) ((if0 _ _).trans (feq hc58).1) ?_
  refine gs.aload X10.here hx (hb hby at_61) rfl rfl ?_
  refine gs.aload X10.here hx (hb hby at_63) rfl rfl ?_
  refine gs.virt 1 X10 hx hZ4 hown4 (am17_1 l Z a0 hw [] cs_ a_TEXT HW (b5_0) (b2) T5.heap n0 old5 p5_3) (wd hw 94 rfl) (wd hw 53 rfl) (wd hw 90 rfl) (wd hw 91 rfl) (notFace_of_selects (args := #[]) (mvT hZ4 (wd hw 93 rfl))) (wd hw 93 rfl) (wd hw 92 rfl) (by decide) p5_0 (by decide) (by decide) (by rw [hml]; rfl) [] (lenOf pd_13 rfl) rfl (Nat.le_of_eq rfl) (hb hby at_65) rfl e10 (by decide) (by decide) fun T11 Lc11 v11 X11 hQ11 => ?_
  obtain ⟨rfl, Nq11, e11⟩ := hQ11
  have N11 := Fr.app N10 Nq11
  show Go p e below _ (T11.setTop (mkF m 68 _ [(.ref b2), (.ref b2)]))
  have f12 := (((p2_0.keep K3).keep K4).keep K5)
  refine gs.virt 0 X11 hx hZ4 hown4 (am16_1 l Z a0 hw [] cs_ a_TEXT HW (b2) T5.heap n0 old5 ) (wd hw 89 rfl) (wd hw 6 rfl) (wd hw 85 rfl) (wd hw 86 rfl) (notFace_of_selects (args := #[]) (mvT hZ4 (wd hw 88 rfl))) (wd hw 88 rfl) (wd hw 87 rfl) (by decide) f12 (by decide) (by decide) (by rw [hml]; rfl) [(.ref b2)] (lenOf pd_14 rfl) rfl (Nat.le_of_eq rfl) (hb hby at_68) rfl e11 (by decide) (by decide) fun T13 Lc13 v13 X13 hQ13 => ?_
  obtain ⟨rfl, Nq13, e13⟩ := hQ13
  have N13 := Fr.app N11 Nq13
  show Go p e below _ (T13.setTop (mkF m 71 _ [(.int (1 : Int32))]))
  have hc71 : ¬ ((1 : Int32) = (0 : Int32)) := by decide
  refine gs.ifNo X13.here hx (hb hby at_71) ((if0 _ _).trans (feq hc71).1) ?_
  refine gs.aload X13.here hx (hb hby at_74) rfl rfl ?_
  refine gs.aload X13.here hx (hb hby at_76) rfl rfl ?_
  refine gs.virt 1 X13 hx hZ4 hown4 (am18_1 l Z a0 hw [] cs_ a_TEXT HW (b5_0) (b3) T5.heap n0 old5 p5_4) (wd hw 99 rfl) (wd hw 53 rfl) (wd hw 95 rfl) (wd hw 96 rfl) (notFace_of_selects (args := #[]) (mvT hZ4 (wd hw 98 rfl))) (wd hw 98 rfl) (wd hw 97 rfl) (by decide) p5_0 (by decide) (by decide) (by rw [hml]; rfl) [] (lenOf pd_13 rfl) rfl (Nat.le_of_eq rfl) (hb hby at_78) rfl e13 (by decide) (by decide) fun T14 Lc14 v14 X14 hQ14 => ?_
  obtain ⟨rfl, Nq14, e14⟩ := hQ14
  have N14 := Fr.app N13 Nq14
  show Go p e below _ (T14.setTop (mkF m 81 _ [(.ref b3), (.ref b3)]))
  have f15 := ((p3_0.keep K4).keep K5)
  refine gs.virt 0 X14 hx hZ4 hown4 (am16_1 l Z a0 hw [] cs_ a_TEXT HW (b3) T5.heap n0 old5 ) (wd hw 89 rfl) (wd hw 6 rfl) (wd hw 85 rfl) (wd hw 86 rfl) (notFace_of_selects (args := #[]) (mvT hZ4 (wd hw 88 rfl))) (wd hw 88 rfl) (wd hw 87 rfl) (by decide) f15 (by decide) (by decide) (by rw [hml]; rfl) [(.ref b3)] (lenOf pd_14 rfl) rfl (Nat.le_of_eq rfl) (hb hby at_81) rfl e14 (by decide) (by decide) fun T16 Lc16 v16 X16 hQ16 => ?_
  obtain ⟨rfl, Nq16, e16⟩ := hQ16
  have N16 := Fr.app N14 Nq16
  show Go p e below _ (T16.setTop (mkF m 84 _ [(.int (1 : Int32))]))
  have hc84 : ¬ ((1 : Int32) = (0 : Int32)) := by decide
  refine gs.ifNo X16.here hx (hb hby at_84) ((if0 _ _).trans (feq hc84).1) ?_
  refine gs.aload X16.here hx (hb hby at_87) rfl rfl ?_
  refine gs.aload X16.here hx (hb hby at_89) rfl rfl ?_
  refine gs.virt 1 X16 hx hZ4 hown4 (am19_1 l Z a0 hw [] cs_ a_TEXT HW (b5_0) (b4) T5.heap n0 old5 p5_5) (wd hw 104 rfl) (wd hw 53 rfl) (wd hw 100 rfl) (wd hw 101 rfl) (notFace_of_selects (args := #[]) (mvT hZ4 (wd hw 103 rfl))) (wd hw 103 rfl) (wd hw 102 rfl) (by decide) p5_0 (by decide) (by decide) (by rw [hml]; rfl) [] (lenOf pd_13 rfl) rfl (Nat.le_of_eq rfl) (hb hby at_91) rfl e16 (by decide) (by decide) fun T17 Lc17 v17 X17 hQ17 => ?_
  obtain ⟨rfl, Nq17, e17⟩ := hQ17
  have N17 := Fr.app N16 Nq17
  show Go p e below _ (T17.setTop (mkF m 94 _ [(.ref b4), (.ref b4)]))
  have f18 := (p4_0.keep K5)
  refine gs.virt 0 X17 hx hZ4 hown4 (am16_1 l Z a0 hw [] cs_ a_TEXT HW (b4) T5.heap n0 old5 ) (wd hw 89 rfl) (wd hw 6 rfl) (wd hw 85 rfl) (wd hw 86 rfl) (notFace_of_selects (args := #[]) (mvT hZ4 (wd hw 88 rfl))) (wd hw 88 rfl) (wd hw 87 rfl) (by decide) f18 (by decide) (by decide) (by rw [hml]; rfl) [(.ref b4)] (lenOf pd_14 rfl) rfl (Nat.le_of_eq rfl) (hb hby at_94) rfl e17 (by decide) (by decide) fun T19 Lc19 v19 X19 hQ19 => ?_
  obtain ⟨rfl, Nq19, e19⟩ := hQ19
  have N19 := Fr.app N17 Nq19
  show Go p e below _ (T19.setTop (mkF m 97 _ [(.int (1 : Int32))]))
  have hc97 : ¬ ((1 : Int32) = (0 : Int32)) := by decide
  refine gs.ifNo X19.here hx (hb hby at_97) ((if0 _ _).trans (feq hc97).1) ?_
  refine gs.iconst 1 X19.here hx (hb hby at_100) rfl ?_
  refine gs.goto 105 X19.here hx (hb hby at_101) rfl ?_
  refine GoW.retZ X19 S4 (by rw [e19]; exact hk5) hx (t := .boolean) Bd.returns (by simp) Bd.notSynchronized (hb hby at_105) (by rw [e19]; exact ⟨rfl, N19⟩) (by decide) (by decide)
set_option maxRecDepth 65536 in
set_option maxHeartbeats 40000000 in
theorem comes_1 {Post : Tables → Env → Array Value → State → Outcome → State → Prop} (hpost : ∀ tb e args s v u, (limb_1_1.after args s (.returned v) u = true ∧ limb_1_2.after args s (.returned v) u = true ∧ True) → ReturnedEndW s (.returned v) u (Jvm.fieldLocs frame_1_writes args s ++ Jvm.arrayLocs frame_1_arrays args s ++ Jvm.staticLocs frame_1_statics s) 40 1216 → Post tb e args s (.returned v) u) :
    ArmFor flags0 classFile x code maxLocals ret World_1 tables_1 room_1 Calls_1 rest_1 Pre_1 Post := by
  intro l hfl _ _ p e ha hc hk s m args below hf hA hF happ hP
  obtain ⟨hcalls, hrest, hpre⟩ := hP
  obtain ⟨-, -, -, hnamed, -, -, -, hat⟩ := (Spec.applies_iff hf).mp happ
  obtain ⟨hg, hn⟩ := and_e (Cond.before_iff.mp (show (Jvm.Cond.and given_1 narrow_1).before args s = true from hpre))
  obtain ⟨hgl, hgr⟩ := and_e hg
  obtain ⟨hgrl, hgrr⟩ := and_e hgr
  obtain ⟨hgrrl, hgrrr⟩ := and_e hgrr
  obtain ⟨hgrrrl, hgrrrr⟩ := and_e hgrrr
  obtain ⟨w0, w1, w2, w3, rfl⟩ : ∃ w0 w1 w2 w3 : Value, args = #[w0, w1, w2, w3] := by
    have hs : args.size = 4 := by simpa [Cond.value, given_1] using hgl
    obtain ⟨L⟩ := args
    match L, hs with
    | [w0, w1, w2, w3], _ => exact ⟨w0, w1, w2, w3, rfl⟩
  have hw := fun d (hd : d ∈ tables_1) => atoms_spec (ws := Jvm.Cond.code x code maxLocals ret :: tables_1) hat d (List.mem_cons_of_mem _ hd)
  have hfit : Fit s := fun {y c} hc i hi => by
    obtain ⟨ha, rfl⟩ := Array.getElem?_eq_some_iff.mp hc
    have q := List.all_eq_true.mp ((Array.all_eq_true_iff_forall_mem.mp hF) _ (Array.getElem_mem ha)) i (List.mem_range.mpr hi)
    simpa [Array.getElem?_eq_getElem hi] using q
  obtain ⟨hsets, hown0⟩ := atoms_of _ (rest_1_c_eq ▸ (show rest_1_c.before _ s = true from hrest))
  have hr0 := Cond.before_iff.mp hown0
  obtain ⟨i0, ei0⟩ := is_v hgrl
  obtain rfl : w0 = (.int i0) := Option.some.inj ei0
  obtain ⟨i1, ei1⟩ := is_v hgrrl
  obtain rfl : w1 = (.int i1) := Option.some.inj ei1
  obtain ⟨i2, ei2⟩ := is_v hgrrrl
  obtain rfl : w2 = (.int i2) := Option.some.inj ei2
  obtain ⟨i3, ei3⟩ := is_v hgrrrr
  obtain rfl : w3 = (.int i3) := Option.some.inj ei3
  obtain ⟨cs_, ev_cs⟩ := is_v (Cond.before_iff.mp (hsets _ (List.mem_of_getElem? (i := 1) rfl)))
  obtain ⟨a_TEXT, eva_TEXT⟩ := exa_v hn
  have Hc_ : CHv s EL_ s.vm s.heap := CHv.start (hEL_ hw) hcalls.1 (hsets _ (List.mem_of_getElem? (i := 2) rfl)) (wd hw 19 rfl) (wd hw 5 rfl)
  have HW : Wd s cs_ a_TEXT := ⟨Sta.start ev_cs (Or.inl (hsets _ (List.mem_of_getElem? (i := 0) rfl))), ne_v (Cond.before_iff.mp (hsets _ (List.mem_of_getElem? (i := 2) rfl))) ev_cs, Exa.start eva_TEXT hn, Sta.start eva_TEXT (Or.inr ⟨(wd hw 58 rfl), (wd hw 59 rfl)⟩)⟩
  obtain ⟨n, o, h1, h2, h3, _, L, rfl, ⟨rfl, N⟩, hq⟩ := rm0 l s _ hw tables_1 cs_ a_TEXT HW i0 i1 i2 i3 s.heap s.heap.size (Old.start s)  p e ha hc hk s m _ below hf ((Spec.applies_iff_loose hf).mp happ).1 ⟨rfl, State.Warmed39.refl s, rfl, Hc_⟩ trivial
  refine ⟨n, _, h1, h2, h3, hpost _ _ _ _ _ _ ⟨Cond.after_iff.mpr rfl, Cond.after_iff.mpr (eq_i res_at (Term.int_eval (1)) rfl), trivial⟩ ⟨hq.1, hq.2.1, hq.2.2.1, (hq.2.2.2.sift fun y hy => Or.inr (N y hy)).mono (by decide) (by decide)⟩⟩
theorem main_1_1 : Claimed_1_1 := comes_1 fun _ _ _ _ _ _ h hF => ⟨h.1, hF⟩
theorem main_1_2 : Claimed_1_2 := comes_1 fun _ _ _ _ _ _ h hF => ⟨h.2.1, hF⟩
end Jvm.Pilot.@@N@@
namespace Jvm.Pilot.@@N@@
open Jvm Jvm.ClassFile Sem Op Lib Jvm.Free Jvm.Stand Jvm.Pilot.@@N@@.Jvm.D
/-! MADE BY PROGRAM (witnessworld.py) out of the Statement's table words and the real class files: 21 classes; the members and pool entries that the words name. The judged class is class 1, her method 2. -/
namespace start1
open Jvm.ClassFile
def u (s : String) : CpInfo := .utf8 (stringToUtf16 s)
/-- a pool by its gaps: so many unusable entries, then the entry; so many at the end -/
def gap : Nat → List CpInfo → List CpInfo
  | 0, r => r
  | n + 1, r => .unusable :: gap n r
def poolList (es : List (Nat × CpInfo)) (last : Nat) : List CpInfo := es.foldr (fun e r => gap e.1 (e.2 :: r)) (gap last [])
def pool (es : List (Nat × CpInfo)) (last : Nat) : Array CpInfo := ⟨poolList es last⟩
def fileOf (pool : Array CpInfo) (this : Nat) (attrs : Array Attribute := #[]) (ms : Array MethodInfo := #[]) (fl : Nat := 33) (sup : Nat := 0) (ifs : Array Nat := #[]) (fds : Array FieldInfo := #[]) : ClassFile where
  minorVersion := 0
  majorVersion := 65
  constantPool := pool
  accessFlags := fl
  thisClass := this
  superClass := sup
  interfaces := ifs
  fields := fds
  methods := ms
  attributes := attrs
def plain (name : String) (sup : Option ClassId) : Class where
  name := name
  kind := .ordinary
  loader := none
  accessFlags := 33
  super := sup
  interfaces := #[]
  cf := none
  fields := #[]
  methods := #[]
  instanceTypes := #[]
  staticTypes := #[]
  resolved := #[]
  callSites := []
  init := .initialized
  statics := none
  mirror := none

def pool0 : Array CpInfo := pool [(5, u "<init>"), (0, u "()V"), (1, .class_ 10), (1, u "java/lang/Object")] 113

def k0c0 : Code := { maxStack := 0, maxLocals := 1, code := object_method_1_code, exceptionTable := #[], attributes := #[] }
def k0m0 : Method := { name := "<init>", desc := "()V", sig := { parameters := [], returnType := none }, accessFlags := 1, code := some k0c0 }
/-- java/lang/Object -/
def k0 : Class := { plain "java/lang/Object" none with
  accessFlags := 33
  interfaces := #[]
  cf := some (fileOf pool0 8 #[] #[{ accessFlags := 1, nameIndex := 5, descriptorIndex := 6, attributes := #[] }] 33 0 #[] #[])
  fields := #[]
  methods := #[k0m0]
  instanceTypes := #[]
  staticTypes := #[]
  resolved := Array.replicate 124 none
  statics := none }

def pool1 : Array CpInfo := pool [(2, .class_ 4), (1, u "java/lang/Object"), (0, u "<init>"), (0, u "()V"), (0, .class_ 8), (0, u "java/lang/String"), (0, .methodref 7 10), (0, .nameAndType 5 11), (0, u "([C)V"), (0, .methodref 7 13), (0, .nameAndType 14 15), (0, u "valueOf"), (0, u "(C)Ljava/lang/String;"), (0, .methodref 17 18), (0, .class_ 19), (0, .nameAndType 20 21), (0, u "com/example/overcap/overcap/model/FigureTextPinLaw"), (0, u "str"), (0, u "(I)Ljava/lang/String;"), (0, .methodref 23 24), (0, .class_ 25), (0, .nameAndType 26 27), (0, u "com/example/overcap/overcap/model/Figure"), (0, u "text"), (0, u "(Ljava/lang/String;Ljava/lang/String;Ljava/lang/String;Ljava/lang/String;)Lcom/example/overcap/overcap/model/Figure;"), (0, .methodref 23 29), (0, .nameAndType 30 31), (0, u "kind"), (0, u "()Lcom/example/overcap/overcap/model/Figure$Kind;"), (0, .fieldref 33 34), (0, .class_ 35), (0, .nameAndType 36 37), (0, u "com/example/overcap/overcap/model/Figure$Kind"), (0, u "TEXT"), (0, u "Lcom/example/overcap/overcap/model/Figure$Kind;"), (0, .methodref 23 39), (0, .nameAndType 40 41), (0, u "key"), (0, u "()Ljava/lang/String;"), (0, .methodref 7 43), (0, .nameAndType 44 45), (0, u "equals"), (0, u "(Ljava/lang/Object;)Z"), (0, .methodref 23 47), (0, .nameAndType 48 41), (0, u "label"), (0, .methodref 23 50), (0, .nameAndType 51 41), (0, u "value"), (0, .methodref 23 53), (0, .nameAndType 54 41), (0, u "working"), (3, u "law"), (0, u "(IIII)Z")] 4

def k1m0 : Method := { name := "<init>", desc := "()V", sig := { parameters := [], returnType := none }, accessFlags := 1, code := none }
def k1c1 : Code := { maxStack := 6, maxLocals := 5, code := method_2_code, exceptionTable := #[], attributes := #[] }
def k1m1 : Method := { name := "str", desc := "(I)Ljava/lang/String;", sig := { parameters := [.int], returnType := some (.object "java/lang/String") }, accessFlags := 10, code := some k1c1 }
def k1c2 : Code := { maxStack := 4, maxLocals := 9, code := code, exceptionTable := #[], attributes := #[] }
def k1m2 : Method := { name := "law", desc := "(IIII)Z", sig := { parameters := [.int, .int, .int, .int], returnType := some .boolean }, accessFlags := 9, code := some k1c2 }
/-- com/example/overcap/overcap/model/FigureTextPinLaw -/
def k1 : Class := { plain "com/example/overcap/overcap/model/FigureTextPinLaw" (some 0) with
  accessFlags := 49
  interfaces := #[]
  cf := some (fileOf pool1 17 #[] #[{ accessFlags := 1, nameIndex := 5, descriptorIndex := 6, attributes := #[] }, { accessFlags := 10, nameIndex := 20, descriptorIndex := 21, attributes := #[] }, { accessFlags := 9, nameIndex := 58, descriptorIndex := 59, attributes := #[] }] 49 2 #[] #[])
  fields := #[]
  methods := #[k1m0, k1m1, k1m2]
  instanceTypes := #[]
  staticTypes := #[]
  resolved := Array.replicate 64 none
  statics := none }

def pool2 : Array CpInfo := pool [(1, .class_ 2), (0, u "java/io/Serializable"), (0, .class_ 4), (0, u "java/lang/Object")] 2

/-- java/io/Serializable -/
def k2 : Class := { plain "java/io/Serializable" (some 0) with
  accessFlags := 1537
  interfaces := #[]
  cf := some (fileOf pool2 1 #[] #[] 1537 3 #[] #[])
  fields := #[]
  methods := #[]
  instanceTypes := #[]
  staticTypes := #[]
  resolved := Array.replicate 7 none
  statics := none }

def pool3 : Array CpInfo := pool [(1, .class_ 2), (0, u "java/lang/Comparable"), (0, .class_ 4), (0, u "java/lang/Object")] 7

/-- java/lang/Comparable -/
def k3 : Class := { plain "java/lang/Comparable" (some 0) with
  accessFlags := 1537
  interfaces := #[]
  cf := some (fileOf pool3 1 #[] #[] 1537 3 #[] #[])
  fields := #[]
  methods := #[]
  instanceTypes := #[]
  staticTypes := #[]
  resolved := Array.replicate 12 none
  statics := none }

def pool4 : Array CpInfo := pool [(2, .class_ 4), (1, u "java/lang/CharSequence"), (42, .class_ 48), (0, u "java/lang/CharSequence$1CodePointIterator"), (10, .class_ 60), (0, u "java/lang/CharSequence$1CharIterator"), (5, .class_ 67), (0, u "java/lang/Object")] 63

/-- java/lang/CharSequence -/
def k4 : Class := { plain "java/lang/CharSequence" (some 0) with
  accessFlags := 1537
  interfaces := #[]
  cf := some (fileOf pool4 2 #[.nestMembers #[47, 59]] #[] 1537 66 #[] #[])
  fields := #[]
  methods := #[]
  instanceTypes := #[]
  staticTypes := #[]
  resolved := Array.replicate 131 none
  statics := none }

def pool5 : Array CpInfo := pool [(1, .class_ 2), (0, u "java/lang/constant/Constable"), (0, .class_ 4), (0, u "java/lang/Object")] 6

/-- java/lang/constant/Constable -/
def k5 : Class := { plain "java/lang/constant/Constable" (some 0) with
  accessFlags := 1537
  interfaces := #[]
  cf := some (fileOf pool5 1 #[] #[] 1537 3 #[] #[])
  fields := #[]
  methods := #[]
  instanceTypes := #[]
  staticTypes := #[]
  resolved := Array.replicate 11 none
  statics := none }

def pool6 : Array CpInfo := pool [(1, .class_ 2), (0, u "java/lang/constant/ConstantDesc"), (0, .class_ 4), (0, u "java/lang/Object")] 32

/-- java/lang/constant/ConstantDesc -/
def k6 : Class := { plain "java/lang/constant/ConstantDesc" (some 0) with
  accessFlags := 1537
  interfaces := #[]
  cf := some (fileOf pool6 1 #[] #[] 1537 3 #[] #[])
  fields := #[]
  methods := #[]
  instanceTypes := #[]
  staticTypes := #[]
  resolved := Array.replicate 37 none
  statics := none }

def pool7 : Array CpInfo := pool [(1, .methodref 2 3), (0, .class_ 4), (0, .nameAndType 5 6), (0, u "java/lang/Object"), (0, u "<init>"), (0, u "()V"), (0, .string 8), (0, u ""), (0, .fieldref 10 11), (0, .class_ 12), (0, .nameAndType 13 14), (0, u "java/lang/String"), (0, u "value"), (0, u "[B"), (0, .fieldref 10 16), (0, .nameAndType 17 18), (0, u "coder"), (0, u "B"), (2, u "hash"), (0, u "I"), (2, u "hashIsZero"), (0, u "Z"), (0, .methodref 10 28), (0, .nameAndType 5 29), (0, u "([CIILjava/lang/Void;)V"), (8, .fieldref 10 39), (0, .nameAndType 40 26), (0, u "COMPACT_STRINGS"), (1, .class_ 44), (1, u "java/lang/StringUTF16"), (0, u "compress"), (1, .methodref 42 48), (0, .nameAndType 49 50), (0, u "coderFromArrayLen"), (0, u "([BI)B"), (2, u "toBytes"), (53, .class_ 109), (1, u "java/lang/StringLatin1"), (67, .methodref 42 178), (0, .nameAndType 45 179), (0, u "([CII)[B"), (29, .methodref 10 210), (0, .nameAndType 5 211), (0, u "([BB)V"), (157, u "(C)Z"), (173, u "equals"), (29, u "(Ljava/lang/Object;)Z"), (1, .class_ 576), (0, u "java/lang/CharSequence"), (22, u "CASE_INSENSITIVE_ORDER"), (0, u "Ljava/util/Comparator;"), (181, u "valueOf"), (0, u "(C)Ljava/lang/String;"), (226, u "([C)V"), (4, .methodref 107 1016), (0, .nameAndType 1017 369), (0, u "canEncode"), (0, .methodref 107 1019), (0, .nameAndType 53 1020), (0, u "(C)[B"), (80, u "serialPersistentFields"), (0, u "[Ljava/io/ObjectStreamField;"), (0, .class_ 1104), (0, u "java/lang/String$CaseInsensitiveComparator"), (1, .class_ 1107), (0, u "java/io/Serializable"), (0, .class_ 1109), (0, u "java/lang/Comparable"), (0, .class_ 1111), (0, u "java/lang/constant/Constable"), (0, .class_ 1113), (0, u "java/lang/constant/ConstantDesc"), (2, u "serialVersionUID"), (0, u "J"), (3, u "REPL"), (0, u "C"), (2, u "LATIN1"), (1, u "UTF16")] 323

def k7m0 : Method := { name := "<init>", desc := "()V", sig := { parameters := [], returnType := none }, accessFlags := 1, code := none }
def k7c1 : Code := { maxStack := 5, maxLocals := 2, code := jdk_42_method_3_code, exceptionTable := #[], attributes := #[] }
def k7m1 : Method := { name := "<init>", desc := "([C)V", sig := { parameters := [(.array .char)], returnType := none }, accessFlags := 1, code := some k7c1 }
def k7c2 : Code := { maxStack := 2, maxLocals := 3, code := jdk_42_method_66_code, exceptionTable := #[], attributes := #[] }
def k7m2 : Method := { name := "equals", desc := "(Ljava/lang/Object;)Z", sig := { parameters := [(.object "java/lang/Object")], returnType := some .boolean }, accessFlags := 1, code := some k7c2 }
def k7c3 : Code := { maxStack := 4, maxLocals := 1, code := jdk_42_method_139_code, exceptionTable := #[], attributes := #[] }
def k7m3 : Method := { name := "valueOf", desc := "(C)Ljava/lang/String;", sig := { parameters := [.char], returnType := some (.object "java/lang/String") }, accessFlags := 9, code := some k7c3 }
def k7c4 : Code := { maxStack := 4, maxLocals := 6, code := jdk_42_method_149_code, exceptionTable := #[], attributes := #[] }
def k7m4 : Method := { name := "<init>", desc := "([CIILjava/lang/Void;)V", sig := { parameters := [(.array .char), .int, .int, (.object "java/lang/Void")], returnType := none }, accessFlags := 2, code := some k7c4 }
def k7c5 : Code := { maxStack := 2, maxLocals := 3, code := jdk_42_method_151_code, exceptionTable := #[], attributes := #[] }
def k7m5 : Method := { name := "<init>", desc := "([BB)V", sig := { parameters := [(.array .byte), .byte], returnType := none }, accessFlags := 0, code := some k7c5 }
/-- java/lang/String -/
def k7 : Class := { plain "java/lang/String" (some 0) with
  accessFlags := 49
  interfaces := #[2, 3, 4, 5, 6]
  cf := some (fileOf pool7 10 #[.nestMembers #[1103]] #[{ accessFlags := 1, nameIndex := 5, descriptorIndex := 6, attributes := #[] }, { accessFlags := 1, nameIndex := 5, descriptorIndex := 1010, attributes := #[] }, { accessFlags := 1, nameIndex := 543, descriptorIndex := 573, attributes := #[] }, { accessFlags := 9, nameIndex := 782, descriptorIndex := 783, attributes := #[] }, { accessFlags := 2, nameIndex := 5, descriptorIndex := 29, attributes := #[] }, { accessFlags := 0, nameIndex := 5, descriptorIndex := 211, attributes := #[] }] 49 2 #[1106, 1108, 575, 1110, 1112] #[{ accessFlags := 18, nameIndex := 13, descriptorIndex := 14, attributes := #[] }, { accessFlags := 18, nameIndex := 17, descriptorIndex := 18, attributes := #[] }, { accessFlags := 2, nameIndex := 21, descriptorIndex := 22, attributes := #[] }, { accessFlags := 2, nameIndex := 25, descriptorIndex := 26, attributes := #[] }, { accessFlags := 26, nameIndex := 1116, descriptorIndex := 1117, attributes := #[] }, { accessFlags := 24, nameIndex := 40, descriptorIndex := 26, attributes := #[] }, { accessFlags := 26, nameIndex := 1101, descriptorIndex := 1102, attributes := #[] }, { accessFlags := 26, nameIndex := 1121, descriptorIndex := 1122, attributes := #[] }, { accessFlags := 25, nameIndex := 599, descriptorIndex := 600, attributes := #[] }, { accessFlags := 24, nameIndex := 1125, descriptorIndex := 18, attributes := #[] }, { accessFlags := 24, nameIndex := 1127, descriptorIndex := 18, attributes := #[] }])
  fields := #[{ name := "value", type := (.array .byte), accessFlags := 18, slot := 0, constantValue := 0 }, { name := "coder", type := .byte, accessFlags := 18, slot := 1, constantValue := 0 }, { name := "hash", type := .int, accessFlags := 2, slot := 2, constantValue := 0 }, { name := "hashIsZero", type := .boolean, accessFlags := 2, slot := 3, constantValue := 0 }, { name := "serialVersionUID", type := .long, accessFlags := 26, slot := 0, constantValue := 0 }, { name := "COMPACT_STRINGS", type := .boolean, accessFlags := 24, slot := 1, constantValue := 0 }, { name := "serialPersistentFields", type := (.array (.object "java/io/ObjectStreamField")), accessFlags := 26, slot := 2, constantValue := 0 }, { name := "REPL", type := .char, accessFlags := 26, slot := 3, constantValue := 0 }, { name := "CASE_INSENSITIVE_ORDER", type := (.object "java/util/Comparator"), accessFlags := 25, slot := 4, constantValue := 0 }, { name := "LATIN1", type := .byte, accessFlags := 24, slot := 5, constantValue := 0 }, { name := "UTF16", type := .byte, accessFlags := 24, slot := 6, constantValue := 0 }]
  methods := #[k7m0, k7m1, k7m2, k7m3, k7m4, k7m5]
  instanceTypes := #[(.array .byte), .byte, .int, .boolean]
  staticTypes := #[.long, .boolean, (.array (.object "java/io/ObjectStreamField")), .char, (.object "java/util/Comparator"), .byte, .byte]
  resolved := Array.replicate 1451 none
  statics := some 0 }

def pool8 : Array CpInfo := pool [(6, .class_ 8), (1, u "java/lang/Object"), (0, u "<init>"), (0, u "()V"), (1, .class_ 14), (1, u "java/lang/StringUTF16"), (31, u "$assertionsDisabled"), (0, u "Z"), (13, u "HI_BYTE_SHIFT"), (0, u "I"), (2, u "LO_BYTE_SHIFT"), (49, .methodref 12 116), (0, .nameAndType 117 118), (0, u "compress"), (0, u "([CI[BII)I"), (3, u "([CII)[B"), (138, u "coderFromArrayLen"), (0, u "([BI)B"), (106, .class_ 371), (1, u "java/lang/StringUTF16$LinesSpliterator"), (58, u "MAX_LENGTH"), (196, .class_ 628), (0, u "java/lang/StringUTF16$CodePointsSpliterator"), (0, .class_ 630), (0, u "java/lang/StringUTF16$CharsSpliterator")] 4

def k8m0 : Method := { name := "<init>", desc := "()V", sig := { parameters := [], returnType := none }, accessFlags := 0, code := none }
def k8c1 : Code := { maxStack := 2, maxLocals := 2, code := jdk_52_method_15_code, exceptionTable := #[], attributes := #[] }
def k8m1 : Method := { name := "coderFromArrayLen", desc := "([BI)B", sig := { parameters := [(.array .byte), .int], returnType := some .byte }, accessFlags := 8, code := some k8c1 }
def k8c2 : Code := { maxStack := 5, maxLocals := 6, code := jdk_52_method_16_code, exceptionTable := #[], attributes := #[] }
def k8m2 : Method := { name := "compress", desc := "([CII)[B", sig := { parameters := [(.array .char), .int, .int], returnType := some (.array .byte) }, accessFlags := 9, code := some k8c2 }
def k8c3 : Code := { maxStack := 3, maxLocals := 7, code := jdk_52_method_21_code, exceptionTable := #[], attributes := #[] }
def k8m3 : Method := { name := "compress", desc := "([CI[BII)I", sig := { parameters := [(.array .char), .int, (.array .byte), .int, .int], returnType := some .int }, accessFlags := 9, code := some k8c3 }
/-- java/lang/StringUTF16 -/
def k8 : Class := { plain "java/lang/StringUTF16" (some 0) with
  accessFlags := 48
  interfaces := #[]
  cf := some (fileOf pool8 12 #[.nestMembers #[627, 629, 369]] #[{ accessFlags := 0, nameIndex := 9, descriptorIndex := 10, attributes := #[] }, { accessFlags := 8, nameIndex := 261, descriptorIndex := 262, attributes := #[] }, { accessFlags := 9, nameIndex := 117, descriptorIndex := 122, attributes := #[] }, { accessFlags := 9, nameIndex := 117, descriptorIndex := 118, attributes := #[] }] 48 6 #[] #[{ accessFlags := 26, nameIndex := 61, descriptorIndex := 62, attributes := #[] }, { accessFlags := 26, nameIndex := 65, descriptorIndex := 62, attributes := #[] }, { accessFlags := 24, nameIndex := 430, descriptorIndex := 62, attributes := #[] }, { accessFlags := 4120, nameIndex := 46, descriptorIndex := 47, attributes := #[] }])
  fields := #[{ name := "HI_BYTE_SHIFT", type := .int, accessFlags := 26, slot := 0, constantValue := 0 }, { name := "LO_BYTE_SHIFT", type := .int, accessFlags := 26, slot := 1, constantValue := 0 }, { name := "MAX_LENGTH", type := .int, accessFlags := 24, slot := 2, constantValue := 0 }, { name := "$assertionsDisabled", type := .boolean, accessFlags := 4120, slot := 3, constantValue := 0 }]
  methods := #[k8m0, k8m1, k8m2, k8m3]
  instanceTypes := #[]
  staticTypes := #[.int, .int, .int, .boolean]
  resolved := Array.replicate 635 none
  statics := none }

def pool9 : Array CpInfo := pool [(4, .class_ 6), (1, u "java/lang/Object"), (0, u "<init>"), (0, u "()V"), (5, .class_ 16), (1, u "java/lang/StringLatin1"), (73, u "canEncode"), (14, u "(C)Z"), (15, u "$assertionsDisabled"), (0, u "Z"), (98, .class_ 223), (1, u "java/lang/StringLatin1$LinesSpliterator"), (156, u "toBytes"), (1, u "(C)[B"), (7, .class_ 391), (0, u "java/lang/StringLatin1$CharsSpliterator")] 3

def k9m0 : Method := { name := "<init>", desc := "()V", sig := { parameters := [], returnType := none }, accessFlags := 0, code := none }
def k9c1 : Code := { maxStack := 2, maxLocals := 1, code := jdk_43_method_3_code, exceptionTable := #[], attributes := #[] }
def k9m1 : Method := { name := "canEncode", desc := "(C)Z", sig := { parameters := [.char], returnType := some .boolean }, accessFlags := 9, code := some k9c1 }
def k9c2 : Code := { maxStack := 4, maxLocals := 1, code := jdk_43_method_46_code, exceptionTable := #[], attributes := #[] }
def k9m2 : Method := { name := "toBytes", desc := "(C)[B", sig := { parameters := [.char], returnType := some (.array .byte) }, accessFlags := 9, code := some k9c2 }
/-- java/lang/StringLatin1 -/
def k9 : Class := { plain "java/lang/StringLatin1" (some 0) with
  accessFlags := 48
  interfaces := #[]
  cf := some (fileOf pool9 14 #[.nestMembers #[390, 221]] #[{ accessFlags := 0, nameIndex := 7, descriptorIndex := 8, attributes := #[] }, { accessFlags := 9, nameIndex := 90, descriptorIndex := 105, attributes := #[] }, { accessFlags := 9, nameIndex := 380, descriptorIndex := 382, attributes := #[] }] 48 4 #[] #[{ accessFlags := 4120, nameIndex := 121, descriptorIndex := 122, attributes := #[] }])
  fields := #[{ name := "$assertionsDisabled", type := .boolean, accessFlags := 4120, slot := 0, constantValue := 0 }]
  methods := #[k9m0, k9m1, k9m2]
  instanceTypes := #[]
  staticTypes := #[.boolean]
  resolved := Array.replicate 395 none
  statics := none }

def pool10 : Array CpInfo := pool [(1, .class_ 2), (0, u "com/example/overcap/overcap/model/Result$Entry"), (0, .class_ 4), (0, u "java/lang/Object"), (6, .class_ 12), (0, u "com/example/overcap/overcap/model/Result")] 11

/-- com/example/overcap/overcap/model/Result$Entry -/
def k10 : Class := { plain "com/example/overcap/overcap/model/Result$Entry" (some 0) with
  accessFlags := 1537
  interfaces := #[]
  cf := some (fileOf pool10 1 #[.nestHost 11] #[] 1537 3 #[] #[])
  fields := #[]
  methods := #[]
  instanceTypes := #[]
  staticTypes := #[]
  resolved := Array.replicate 24 none
  statics := none }

def pool11 : Array CpInfo := pool [(1, .methodref 2 3), (0, .class_ 4), (0, .nameAndType 5 6), (0, u "java/lang/Object"), (0, u "<init>"), (0, u "()V"), (0, .fieldref 8 9), (0, .class_ 10), (0, .nameAndType 11 12), (0, u "com/example/overcap/overcap/model/Figure"), (0, u "key"), (0, u "Ljava/lang/String;"), (0, .fieldref 8 14), (0, .nameAndType 15 12), (0, u "label"), (0, .fieldref 8 17), (0, .nameAndType 18 19), (0, u "kind"), (0, u "Lcom/example/overcap/overcap/model/Figure$Kind;"), (0, .fieldref 8 21), (0, .nameAndType 22 12), (0, u "value"), (0, .fieldref 8 24), (0, .nameAndType 25 12), (0, u "working"), (0, .fieldref 27 28), (0, .class_ 29), (0, .nameAndType 30 19), (0, u "com/example/overcap/overcap/model/Figure$Kind"), (0, u "TEXT"), (0, .methodref 8 32), (0, .nameAndType 5 33), (0, u "(Ljava/lang/String;Ljava/lang/String;Lcom/example/overcap/overcap/model/Figure$Kind;Ljava/lang/String;Ljava/lang/String;)V"), (35, u "()Ljava/lang/String;"), (4, .class_ 75), (0, u "com/example/overcap/overcap/model/Result$Entry"), (2, u "text"), (0, u "(Ljava/lang/String;Ljava/lang/String;Ljava/lang/String;Ljava/lang/String;)Lcom/example/overcap/overcap/model/Figure;"), (7, u "()Lcom/example/overcap/overcap/model/Figure$Kind;")] 22

def k11c0 : Code := { maxStack := 2, maxLocals := 6, code := prog_12_method_1_code, exceptionTable := #[], attributes := #[] }
def k11m0 : Method := { name := "<init>", desc := "(Ljava/lang/String;Ljava/lang/String;Lcom/example/overcap/overcap/model/Figure$Kind;Ljava/lang/String;Ljava/lang/String;)V", sig := { parameters := [(.object "java/lang/String"), (.object "java/lang/String"), (.object "com/example/overcap/overcap/model/Figure$Kind"), (.object "java/lang/String"), (.object "java/lang/String")], returnType := none }, accessFlags := 2, code := some k11c0 }
def k11c1 : Code := { maxStack := 7, maxLocals := 4, code := prog_12_method_2_code, exceptionTable := #[], attributes := #[] }
def k11m1 : Method := { name := "text", desc := "(Ljava/lang/String;Ljava/lang/String;Ljava/lang/String;Ljava/lang/String;)Lcom/example/overcap/overcap/model/Figure;", sig := { parameters := [(.object "java/lang/String"), (.object "java/lang/String"), (.object "java/lang/String"), (.object "java/lang/String")], returnType := some (.object "com/example/overcap/overcap/model/Figure") }, accessFlags := 9, code := some k11c1 }
def k11c2 : Code := { maxStack := 1, maxLocals := 1, code := prog_12_method_9_code, exceptionTable := #[], attributes := #[] }
def k11m2 : Method := { name := "key", desc := "()Ljava/lang/String;", sig := { parameters := [], returnType := some (.object "java/lang/String") }, accessFlags := 1, code := some k11c2 }
def k11c3 : Code := { maxStack := 1, maxLocals := 1, code := prog_12_method_10_code, exceptionTable := #[], attributes := #[] }
def k11m3 : Method := { name := "label", desc := "()Ljava/lang/String;", sig := { parameters := [], returnType := some (.object "java/lang/String") }, accessFlags := 1, code := some k11c3 }
def k11c4 : Code := { maxStack := 1, maxLocals := 1, code := prog_12_method_11_code, exceptionTable := #[], attributes := #[] }
def k11m4 : Method := { name := "kind", desc := "()Lcom/example/overcap/overcap/model/Figure$Kind;", sig := { parameters := [], returnType := some (.object "com/example/overcap/overcap/model/Figure$Kind") }, accessFlags := 1, code := some k11c4 }
def k11c5 : Code := { maxStack := 1, maxLocals := 1, code := prog_12_method_12_code, exceptionTable := #[], attributes := #[] }
def k11m5 : Method := { name := "value", desc := "()Ljava/lang/String;", sig := { parameters := [], returnType := some (.object "java/lang/String") }, accessFlags := 1, code := some k11c5 }
def k11c6 : Code := { maxStack := 1, maxLocals := 1, code := prog_12_method_13_code, exceptionTable := #[], attributes := #[] }
def k11m6 : Method := { name := "working", desc := "()Ljava/lang/String;", sig := { parameters := [], returnType := some (.object "java/lang/String") }, accessFlags := 1, code := some k11c6 }
/-- com/example/overcap/overcap/model/Figure -/
def k11 : Class := { plain "com/example/overcap/overcap/model/Figure" (some 0) with
  accessFlags := 49
  interfaces := #[10]
  cf := some (fileOf pool11 8 #[.nestMembers #[27]] #[{ accessFlags := 2, nameIndex := 5, descriptorIndex := 33, attributes := #[] }, { accessFlags := 9, nameIndex := 78, descriptorIndex := 79, attributes := #[] }, { accessFlags := 1, nameIndex := 11, descriptorIndex := 69, attributes := #[] }, { accessFlags := 1, nameIndex := 15, descriptorIndex := 69, attributes := #[] }, { accessFlags := 1, nameIndex := 18, descriptorIndex := 87, attributes := #[] }, { accessFlags := 1, nameIndex := 22, descriptorIndex := 69, attributes := #[] }, { accessFlags := 1, nameIndex := 25, descriptorIndex := 69, attributes := #[] }] 49 2 #[74] #[{ accessFlags := 18, nameIndex := 11, descriptorIndex := 12, attributes := #[] }, { accessFlags := 18, nameIndex := 15, descriptorIndex := 12, attributes := #[] }, { accessFlags := 18, nameIndex := 18, descriptorIndex := 19, attributes := #[] }, { accessFlags := 18, nameIndex := 22, descriptorIndex := 12, attributes := #[] }, { accessFlags := 18, nameIndex := 25, descriptorIndex := 12, attributes := #[] }])
  fields := #[{ name := "key", type := (.object "java/lang/String"), accessFlags := 18, slot := 0, constantValue := 0 }, { name := "label", type := (.object "java/lang/String"), accessFlags := 18, slot := 1, constantValue := 0 }, { name := "kind", type := (.object "com/example/overcap/overcap/model/Figure$Kind"), accessFlags := 18, slot := 2, constantValue := 0 }, { name := "value", type := (.object "java/lang/String"), accessFlags := 18, slot := 3, constantValue := 0 }, { name := "working", type := (.object "java/lang/String"), accessFlags := 18, slot := 4, constantValue := 0 }]
  methods := #[k11m0, k11m1, k11m2, k11m3, k11m4, k11m5, k11m6]
  instanceTypes := #[(.object "java/lang/String"), (.object "java/lang/String"), (.object "com/example/overcap/overcap/model/Figure$Kind"), (.object "java/lang/String"), (.object "java/lang/String")]
  staticTypes := #[]
  resolved := Array.replicate 110 none
  statics := none }

def pool12 : Array CpInfo := pool [(2, .class_ 4), (1, u "java/lang/Enum"), (0, u "name"), (0, u "Ljava/lang/String;"), (2, u "ordinal"), (0, u "I"), (1, .class_ 14), (1, u "java/lang/Object"), (4, u "hash"), (86, .class_ 108), (1, u "java/lang/Enum$EnumDesc"), (2, .class_ 112), (0, u "java/lang/constant/Constable"), (0, .class_ 114), (0, u "java/lang/Comparable"), (0, .class_ 116), (0, u "java/io/Serializable")] 87

/-- java/lang/Enum -/
def k12 : Class := { plain "java/lang/Enum" (some 0) with
  accessFlags := 1057
  interfaces := #[5, 3, 2]
  cf := some (fileOf pool12 2 #[.nestMembers #[106]] #[] 1057 12 #[111, 113, 115] #[{ accessFlags := 18, nameIndex := 5, descriptorIndex := 6, attributes := #[] }, { accessFlags := 18, nameIndex := 9, descriptorIndex := 10, attributes := #[] }, { accessFlags := 2, nameIndex := 19, descriptorIndex := 10, attributes := #[] }])
  fields := #[{ name := "name", type := (.object "java/lang/String"), accessFlags := 18, slot := 0, constantValue := 0 }, { name := "ordinal", type := .int, accessFlags := 18, slot := 1, constantValue := 0 }, { name := "hash", type := .int, accessFlags := 2, slot := 2, constantValue := 0 }]
  methods := #[]
  instanceTypes := #[(.object "java/lang/String"), .int, .int]
  staticTypes := #[]
  resolved := Array.replicate 204 none
  statics := none }

def pool13 : Array CpInfo := pool [(1, .class_ 2), (0, u "com/example/overcap/overcap/model/Figure$Kind"), (2, u "TEXT"), (0, u "Lcom/example/overcap/overcap/model/Figure$Kind;"), (2, u "FLAG"), (2, u "AMOUNT"), (2, u "PERCENTAGE"), (2, u "UNITS"), (2, u "$VALUES"), (0, u "[Lcom/example/overcap/overcap/model/Figure$Kind;"), (6, .class_ 31), (1, u "java/lang/Enum"), (28, .class_ 61), (0, u "com/example/overcap/overcap/model/Figure")] 2

/-- com/example/overcap/overcap/model/Figure$Kind -/
def k13 : Class := { plain "com/example/overcap/overcap/model/Figure$Kind" (some 12) with
  accessFlags := 16433
  interfaces := #[]
  cf := some (fileOf pool13 1 #[.nestHost 60] #[] 16433 29 #[] #[{ accessFlags := 16409, nameIndex := 5, descriptorIndex := 6, attributes := #[] }, { accessFlags := 16409, nameIndex := 9, descriptorIndex := 6, attributes := #[] }, { accessFlags := 16409, nameIndex := 12, descriptorIndex := 6, attributes := #[] }, { accessFlags := 16409, nameIndex := 15, descriptorIndex := 6, attributes := #[] }, { accessFlags := 16409, nameIndex := 18, descriptorIndex := 6, attributes := #[] }, { accessFlags := 4122, nameIndex := 21, descriptorIndex := 22, attributes := #[] }])
  fields := #[{ name := "TEXT", type := (.object "com/example/overcap/overcap/model/Figure$Kind"), accessFlags := 16409, slot := 0, constantValue := 0 }, { name := "FLAG", type := (.object "com/example/overcap/overcap/model/Figure$Kind"), accessFlags := 16409, slot := 1, constantValue := 0 }, { name := "AMOUNT", type := (.object "com/example/overcap/overcap/model/Figure$Kind"), accessFlags := 16409, slot := 2, constantValue := 0 }, { name := "PERCENTAGE", type := (.object "com/example/overcap/overcap/model/Figure$Kind"), accessFlags := 16409, slot := 3, constantValue := 0 }, { name := "UNITS", type := (.object "com/example/overcap/overcap/model/Figure$Kind"), accessFlags := 16409, slot := 4, constantValue := 0 }, { name := "$VALUES", type := (.array (.object "com/example/overcap/overcap/model/Figure$Kind")), accessFlags := 4122, slot := 5, constantValue := 0 }]
  methods := #[]
  instanceTypes := #[(.object "java/lang/String"), .int, .int]
  staticTypes := #[(.object "com/example/overcap/overcap/model/Figure$Kind"), (.object "com/example/overcap/overcap/model/Figure$Kind"), (.object "com/example/overcap/overcap/model/Figure$Kind"), (.object "com/example/overcap/overcap/model/Figure$Kind"), (.object "com/example/overcap/overcap/model/Figure$Kind"), (.array (.object "com/example/overcap/overcap/model/Figure$Kind"))]
  resolved := Array.replicate 64 none
  statics := some 1 }

def pool14 : Array CpInfo := pool [(2, .class_ 4), (1, u "java/lang/Object"), (0, u "<init>"), (0, u "()V"), (17, .class_ 26), (1, u "jdk/internal/util/Preconditions"), (28, .class_ 56), (0, u "jdk/internal/util/Preconditions$4"), (57, .class_ 115), (0, u "jdk/internal/util/Preconditions$1"), (7, u "SIOOBE_FORMATTER"), (0, u "Ljava/util/function/BiFunction;"), (0, .class_ 126), (0, u "jdk/internal/util/Preconditions$2"), (3, u "AIOOBE_FORMATTER"), (0, .class_ 132), (0, u "jdk/internal/util/Preconditions$3"), (3, u "IOOBE_FORMATTER")] 57

def k14m0 : Method := { name := "<init>", desc := "()V", sig := { parameters := [], returnType := none }, accessFlags := 1, code := none }
/-- jdk/internal/util/Preconditions -/
def k14 : Class := { plain "jdk/internal/util/Preconditions" (some 0) with
  accessFlags := 33
  interfaces := #[]
  cf := some (fileOf pool14 24 #[.nestMembers #[55, 131, 125, 114]] #[{ accessFlags := 1, nameIndex := 5, descriptorIndex := 6, attributes := #[] }] 33 2 #[] #[{ accessFlags := 25, nameIndex := 123, descriptorIndex := 124, attributes := #[] }, { accessFlags := 25, nameIndex := 130, descriptorIndex := 124, attributes := #[] }, { accessFlags := 25, nameIndex := 136, descriptorIndex := 124, attributes := #[] }])
  fields := #[{ name := "SIOOBE_FORMATTER", type := (.object "java/util/function/BiFunction"), accessFlags := 25, slot := 0, constantValue := 0 }, { name := "AIOOBE_FORMATTER", type := (.object "java/util/function/BiFunction"), accessFlags := 25, slot := 1, constantValue := 0 }, { name := "IOOBE_FORMATTER", type := (.object "java/util/function/BiFunction"), accessFlags := 25, slot := 2, constantValue := 0 }]
  methods := #[k14m0]
  instanceTypes := #[]
  staticTypes := #[(.object "java/util/function/BiFunction"), (.object "java/util/function/BiFunction"), (.object "java/util/function/BiFunction")]
  resolved := Array.replicate 194 none
  statics := some 2 }

def pool15 : Array CpInfo := pool [(9, u "<init>"), (6, .class_ 18), (1, u "java/lang/Object"), (0, u "()V"), (1, .class_ 23), (1, u "jdk/internal/util/ArraysSupport"), (0, u "LOG2_ARRAY_LONG_INDEX_SCALE"), (0, u "I"), (2, u "U"), (0, u "Ljdk/internal/misc/Unsafe;"), (8, u "BIG_ENDIAN"), (0, u "Z"), (8, u "LOG2_BYTE_BIT_SIZE"), (4, u "LOG2_ARRAY_INT_INDEX_SCALE"), (54, u "JLA"), (0, u "Ljdk/internal/access/JavaLangAccess;"), (11, u "LOG2_ARRAY_BOOLEAN_INDEX_SCALE"), (9, u "LOG2_ARRAY_BYTE_INDEX_SCALE"), (5, u "LOG2_ARRAY_CHAR_INDEX_SCALE"), (5, u "LOG2_ARRAY_SHORT_INDEX_SCALE"), (18, u "LOG2_ARRAY_FLOAT_INDEX_SCALE"), (24, u "LOG2_ARRAY_DOUBLE_INDEX_SCALE"), (89, u "T_BOOLEAN"), (2, u "T_CHAR"), (1, u "T_FLOAT"), (1, u "T_DOUBLE"), (1, u "T_BYTE"), (1, u "T_SHORT"), (1, u "T_INT"), (1, u "T_LONG"), (1, u "SOFT_MAX_ARRAY_LENGTH")] 83

def k15m0 : Method := { name := "<init>", desc := "()V", sig := { parameters := [], returnType := none }, accessFlags := 2, code := none }
/-- jdk/internal/util/ArraysSupport -/
def k15 : Class := { plain "jdk/internal/util/ArraysSupport" (some 0) with
  accessFlags := 33
  interfaces := #[]
  cf := some (fileOf pool15 21 #[] #[{ accessFlags := 2, nameIndex := 9, descriptorIndex := 19, attributes := #[] }] 33 16 #[] #[{ accessFlags := 24, nameIndex := 28, descriptorIndex := 29, attributes := #[] }, { accessFlags := 26, nameIndex := 38, descriptorIndex := 39, attributes := #[] }, { accessFlags := 25, nameIndex := 121, descriptorIndex := 25, attributes := #[] }, { accessFlags := 25, nameIndex := 131, descriptorIndex := 25, attributes := #[] }, { accessFlags := 25, nameIndex := 137, descriptorIndex := 25, attributes := #[] }, { accessFlags := 25, nameIndex := 143, descriptorIndex := 25, attributes := #[] }, { accessFlags := 25, nameIndex := 53, descriptorIndex := 25, attributes := #[] }, { accessFlags := 25, nameIndex := 24, descriptorIndex := 25, attributes := #[] }, { accessFlags := 25, nameIndex := 162, descriptorIndex := 25, attributes := #[] }, { accessFlags := 25, nameIndex := 187, descriptorIndex := 25, attributes := #[] }, { accessFlags := 26, nameIndex := 48, descriptorIndex := 25, attributes := #[] }, { accessFlags := 25, nameIndex := 277, descriptorIndex := 25, attributes := #[] }, { accessFlags := 25, nameIndex := 280, descriptorIndex := 25, attributes := #[] }, { accessFlags := 25, nameIndex := 282, descriptorIndex := 25, attributes := #[] }, { accessFlags := 25, nameIndex := 284, descriptorIndex := 25, attributes := #[] }, { accessFlags := 25, nameIndex := 286, descriptorIndex := 25, attributes := #[] }, { accessFlags := 25, nameIndex := 288, descriptorIndex := 25, attributes := #[] }, { accessFlags := 25, nameIndex := 290, descriptorIndex := 25, attributes := #[] }, { accessFlags := 25, nameIndex := 292, descriptorIndex := 25, attributes := #[] }, { accessFlags := 26, nameIndex := 108, descriptorIndex := 109, attributes := #[] }, { accessFlags := 25, nameIndex := 294, descriptorIndex := 25, attributes := #[] }])
  fields := #[{ name := "U", type := (.object "jdk/internal/misc/Unsafe"), accessFlags := 24, slot := 0, constantValue := 0 }, { name := "BIG_ENDIAN", type := .boolean, accessFlags := 26, slot := 1, constantValue := 0 }, { name := "LOG2_ARRAY_BOOLEAN_INDEX_SCALE", type := .int, accessFlags := 25, slot := 2, constantValue := 0 }, { name := "LOG2_ARRAY_BYTE_INDEX_SCALE", type := .int, accessFlags := 25, slot := 3, constantValue := 0 }, { name := "LOG2_ARRAY_CHAR_INDEX_SCALE", type := .int, accessFlags := 25, slot := 4, constantValue := 0 }, { name := "LOG2_ARRAY_SHORT_INDEX_SCALE", type := .int, accessFlags := 25, slot := 5, constantValue := 0 }, { name := "LOG2_ARRAY_INT_INDEX_SCALE", type := .int, accessFlags := 25, slot := 6, constantValue := 0 }, { name := "LOG2_ARRAY_LONG_INDEX_SCALE", type := .int, accessFlags := 25, slot := 7, constantValue := 0 }, { name := "LOG2_ARRAY_FLOAT_INDEX_SCALE", type := .int, accessFlags := 25, slot := 8, constantValue := 0 }, { name := "LOG2_ARRAY_DOUBLE_INDEX_SCALE", type := .int, accessFlags := 25, slot := 9, constantValue := 0 }, { name := "LOG2_BYTE_BIT_SIZE", type := .int, accessFlags := 26, slot := 10, constantValue := 0 }, { name := "T_BOOLEAN", type := .int, accessFlags := 25, slot := 11, constantValue := 0 }, { name := "T_CHAR", type := .int, accessFlags := 25, slot := 12, constantValue := 0 }, { name := "T_FLOAT", type := .int, accessFlags := 25, slot := 13, constantValue := 0 }, { name := "T_DOUBLE", type := .int, accessFlags := 25, slot := 14, constantValue := 0 }, { name := "T_BYTE", type := .int, accessFlags := 25, slot := 15, constantValue := 0 }, { name := "T_SHORT", type := .int, accessFlags := 25, slot := 16, constantValue := 0 }, { name := "T_INT", type := .int, accessFlags := 25, slot := 17, constantValue := 0 }, { name := "T_LONG", type := .int, accessFlags := 25, slot := 18, constantValue := 0 }, { name := "JLA", type := (.object "jdk/internal/access/JavaLangAccess"), accessFlags := 26, slot := 19, constantValue := 0 }, { name := "SOFT_MAX_ARRAY_LENGTH", type := .int, accessFlags := 25, slot := 20, constantValue := 0 }]
  methods := #[k15m0]
  instanceTypes := #[]
  staticTypes := #[(.object "jdk/internal/misc/Unsafe"), .boolean, .int, .int, .int, .int, .int, .int, .int, .int, .int, .int, .int, .int, .int, .int, .int, .int, .int, (.object "jdk/internal/access/JavaLangAccess"), .int]
  resolved := Array.replicate 378 none
  statics := none }

def pool16 : Array CpInfo := pool [(1, u "java/lang/Cloneable"), (0, .class_ 1), (0, u "java/lang/Object"), (0, .class_ 3)] 3

/-- java/lang/Cloneable -/
def k16 : Class := { plain "java/lang/Cloneable" (some 0) with
  accessFlags := 1537
  interfaces := #[]
  cf := some (fileOf pool16 2 #[] #[] 1537 4 #[] #[])
  fields := #[]
  methods := #[]
  instanceTypes := #[]
  staticTypes := #[]
  resolved := Array.replicate 8 none
  statics := none }

/-- the primitive byte -/
def k17 : Class := { plain "byte" none with kind := .primitive 'B', accessFlags := 0x411 }
/-- [B -/
def k18 : Class := { plain "[B" (some 0) with kind := .array 17 .byte, interfaces := #[16, 2], accessFlags := 1041 }

/-- the primitive char -/
def k19 : Class := { plain "char" none with kind := .primitive 'C', accessFlags := 0x411 }
/-- [C -/
def k20 : Class := { plain "[C" (some 0) with kind := .array 19 .char, interfaces := #[16, 2], accessFlags := 1041 }

def heap : Heap := #[{ cls := 7, slots := #[.long 0, .int 1, .null, .int 0, .null, .int 0, .int 0], vm := .statics 7 },
  { cls := 13, slots := #[.ref 3, .null, .null, .null, .null, .null], vm := .statics 13 },
  { cls := 14, slots := #[.null, .null, .null], vm := .statics 14 },
  { cls := 13, slots := #[.null, .int 0, .int 0], vm := .none }]
def classes : Array Class := #[k0, k1, k2, k3, k4, k5, k6, k7, k8, k9, k10, k11, k12, k13, k14, k15, k16, k17, k18, k19, k20]
def interned : List (Array UInt16 × Addr) := []
def slotsUsed : Nat := 19
def theMethod : MethodId := ⟨1, 2⟩
def args0 : Array Value := #[.int 4, .int 5, .int 6, .int 7]
def aboutOver (below : List Frame) : State where
  vm := { classes := classes, interned := interned.toArray }
  heap := heap
  slotsUsed := slotsUsed
  threads := #[{ frames := .invoking theMethod args0 :: below }]
def below0 : List Frame := [.native { method := ⟨0, 0⟩, args := #[] }]
def about1 : State := aboutOver below0
def p0 : Program := .bare "" "" ""
def e0 : Env := launch0.env 0 0 0
theorem w_frames : about1.frames = Frame.invoking theMethod args0 :: below0 := rfl
set_option maxRecDepth 65536 in
theorem w_args : argsFit about1.vm theMethod args0 = true := by decide +kernel
set_option maxRecDepth 65536 in
theorem w_heap : heapFits about1 = true := by decide +kernel
set_option maxRecDepth 65536 in
theorem w_runnable : about1.curStatus? = some .runnable := by decide +kernel
set_option maxRecDepth 65536 in
theorem w_alone : about1.alone = true := by decide +kernel
set_option maxRecDepth 65536 in
theorem w_named : about1.methodNamed? x = some theMethod := by decide +kernel
set_option maxRecDepth 65536 in
theorem w_hears : about1.hears theMethod below0 = true := by decide +kernel
set_option maxRecDepth 65536 in
theorem w_ripe : about1.ripe theMethod args0 below0 = true := by decide +kernel
theorem w_running : about1.status = .running := rfl
set_option maxRecDepth 65536 in
theorem w_room : about1.hasRoom e0.platform room_1 = true :=
  launch0.hasRoom_least _ room_1 (by decide +kernel) (by decide +kernel) (by decide +kernel) (by decide +kernel) (by decide +kernel) (by decide +kernel)
theorem allAtoms_all (ts : List Jvm.Cond) (a : Array Jvm.Value) (st : Jvm.State) : (allAtoms ts).before a st = ts.all (fun c => c.before a st) := by
  induction ts with
  | nil => rfl
  | cons c t ih =>
    show (Jvm.Cond.and c (allAtoms t)).before a st = _
    rw [Jvm.Cond.before_and, ih, List.all_cons]
def words1 : List Jvm.Cond := Jvm.Cond.code x code maxLocals ret :: tables_1
/-- a 'code' word, met by the world's own term for the bytes: nothing is compared byte by byte -/
theorem code_word {y : MethodName} {bytes : ByteArray} {mx : Nat} {rt : Option FieldType} {a : Array Value} {s : State} {m : MethodId} {meth : Method} {c : Code} (h1 : s.methodNamed? y = some m) (h2 : s.vm.method? m = some meth) (h3 : meth.code = some c) (h4 : c.code = bytes)
    (h5 : (c.maxLocals == mx && c.exceptionTable.isEmpty && decide (c.maxStack ≤ mostOperands) && decide (meth.sig.returnType = rt) && !meth.locks && decide (parseMethodDescriptor y.desc = some meth.sig)) = true) : (Jvm.Cond.code y bytes mx rt).before a s = true := by
  simp only [Bool.and_eq_true, beq_iff_eq, Bool.not_eq_true', decide_eq_true_eq] at h5
  obtain ⟨⟨⟨⟨⟨g1, g2⟩, g3⟩, g4⟩, g5⟩, g6⟩ := h5
  simp [Cond.before, Cond.holds, Cond.value, h1, h2, h3, h4, g1, g2, g3, g4, g5, g6]
def isCode : Jvm.Cond → Bool
  | .code _ _ _ _ => true
  | _ => false
theorem all_split {L : List Jvm.Cond} {P : Jvm.Cond → Bool} (h1 : L.all (fun c => isCode c || P c) = true) (h2 : ∀ c ∈ L.filter isCode, P c = true) : L.all P = true := by
  refine List.all_eq_true.mpr fun c hc => ?_
  have h := List.all_eq_true.mp h1 c hc
  rcases Bool.eq_false_or_eq_true (isCode c) with hi | hi
  · exact h2 c (List.mem_filter.mpr ⟨hc, hi⟩)
  · simpa [hi] using h
set_option maxRecDepth 65536 in
theorem w_c0 : (Jvm.Cond.code x code maxLocals ret).before args0 about1 = true := code_word (m := ⟨1, 2⟩) (meth := k1m2) (c := k1c2) (by decide +kernel) rfl rfl rfl (by decide +kernel)
set_option maxRecDepth 65536 in
theorem w_c1 : (Jvm.Cond.code ({ cls := "com/example/overcap/overcap/model/FigureTextPinLaw", name := "str", desc := "(I)Ljava/lang/String;" } : Jvm.MethodName) method_2_code (5 : Nat) (Option.some (Jvm.ClassFile.FieldType.object "java/lang/String"))).before args0 about1 = true := code_word (m := ⟨1, 1⟩) (meth := k1m1) (c := k1c1) (by decide +kernel) rfl rfl rfl (by decide +kernel)
set_option maxRecDepth 65536 in
theorem w_c2 : (Jvm.Cond.code ({ cls := "java/lang/String", name := "<init>", desc := "([C)V" } : Jvm.MethodName) jdk_42_method_3_code (2 : Nat) (Option.none : Option Jvm.ClassFile.FieldType)).before args0 about1 = true := code_word (m := ⟨7, 1⟩) (meth := k7m1) (c := k7c1) (by decide +kernel) rfl rfl rfl (by decide +kernel)
set_option maxRecDepth 65536 in
theorem w_c3 : (Jvm.Cond.code ({ cls := "java/lang/String", name := "<init>", desc := "([CIILjava/lang/Void;)V" } : Jvm.MethodName) jdk_42_method_149_code (6 : Nat) (Option.none : Option Jvm.ClassFile.FieldType)).before args0 about1 = true := code_word (m := ⟨7, 4⟩) (meth := k7m4) (c := k7c4) (by decide +kernel) rfl rfl rfl (by decide +kernel)
set_option maxRecDepth 65536 in
theorem w_c4 : (Jvm.Cond.code ({ cls := "java/lang/Object", name := "<init>", desc := "()V" } : Jvm.MethodName) object_method_1_code (1 : Nat) (Option.none : Option Jvm.ClassFile.FieldType)).before args0 about1 = true := code_word (m := ⟨0, 0⟩) (meth := k0m0) (c := k0c0) (by decide +kernel) rfl rfl rfl (by decide +kernel)
set_option maxRecDepth 65536 in
theorem w_c5 : (Jvm.Cond.code ({ cls := "java/lang/StringUTF16", name := "compress", desc := "([CII)[B" } : Jvm.MethodName) jdk_52_method_16_code (6 : Nat) (Option.some (Jvm.ClassFile.FieldType.array Jvm.ClassFile.FieldType.byte))).before args0 about1 = true := code_word (m := ⟨8, 2⟩) (meth := k8m2) (c := k8c2) (by decide +kernel) rfl rfl rfl (by decide +kernel)
set_option maxRecDepth 65536 in
theorem w_c6 : (Jvm.Cond.code ({ cls := "java/lang/StringUTF16", name := "compress", desc := "([CI[BII)I" } : Jvm.MethodName) jdk_52_method_21_code (7 : Nat) (Option.some Jvm.ClassFile.FieldType.int)).before args0 about1 = true := code_word (m := ⟨8, 3⟩) (meth := k8m3) (c := k8c3) (by decide +kernel) rfl rfl rfl (by decide +kernel)
set_option maxRecDepth 65536 in
theorem w_c7 : (Jvm.Cond.code ({ cls := "java/lang/StringUTF16", name := "coderFromArrayLen", desc := "([BI)B" } : Jvm.MethodName) jdk_52_method_15_code (2 : Nat) (Option.some Jvm.ClassFile.FieldType.byte)).before args0 about1 = true := code_word (m := ⟨8, 1⟩) (meth := k8m1) (c := k8c1) (by decide +kernel) rfl rfl rfl (by decide +kernel)
set_option maxRecDepth 65536 in
theorem w_c8 : (Jvm.Cond.code ({ cls := "java/lang/String", name := "valueOf", desc := "(C)Ljava/lang/String;" } : Jvm.MethodName) jdk_42_method_139_code (1 : Nat) (Option.some (Jvm.ClassFile.FieldType.object "java/lang/String"))).before args0 about1 = true := code_word (m := ⟨7, 3⟩) (meth := k7m3) (c := k7c3) (by decide +kernel) rfl rfl rfl (by decide +kernel)
set_option maxRecDepth 65536 in
theorem w_c9 : (Jvm.Cond.code ({ cls := "java/lang/StringLatin1", name := "canEncode", desc := "(C)Z" } : Jvm.MethodName) jdk_43_method_3_code (1 : Nat) (Option.some Jvm.ClassFile.FieldType.boolean)).before args0 about1 = true := code_word (m := ⟨9, 1⟩) (meth := k9m1) (c := k9c1) (by decide +kernel) rfl rfl rfl (by decide +kernel)
set_option maxRecDepth 65536 in
theorem w_c10 : (Jvm.Cond.code ({ cls := "java/lang/StringLatin1", name := "toBytes", desc := "(C)[B" } : Jvm.MethodName) jdk_43_method_46_code (1 : Nat) (Option.some (Jvm.ClassFile.FieldType.array Jvm.ClassFile.FieldType.byte))).before args0 about1 = true := code_word (m := ⟨9, 2⟩) (meth := k9m2) (c := k9c2) (by decide +kernel) rfl rfl rfl (by decide +kernel)
set_option maxRecDepth 65536 in
theorem w_c11 : (Jvm.Cond.code ({ cls := "java/lang/String", name := "<init>", desc := "([BB)V" } : Jvm.MethodName) jdk_42_method_151_code (3 : Nat) (Option.none : Option Jvm.ClassFile.FieldType)).before args0 about1 = true := code_word (m := ⟨7, 5⟩) (meth := k7m5) (c := k7c5) (by decide +kernel) rfl rfl rfl (by decide +kernel)
set_option maxRecDepth 65536 in
theorem w_c12 : (Jvm.Cond.code ({ cls := "com/example/overcap/overcap/model/Figure", name := "text", desc := "(Ljava/lang/String;Ljava/lang/String;Ljava/lang/String;Ljava/lang/String;)Lcom/example/overcap/overcap/model/Figure;" } : Jvm.MethodName) prog_12_method_2_code (4 : Nat) (Option.some (Jvm.ClassFile.FieldType.object "com/example/overcap/overcap/model/Figure"))).before args0 about1 = true := code_word (m := ⟨11, 1⟩) (meth := k11m1) (c := k11c1) (by decide +kernel) rfl rfl rfl (by decide +kernel)
set_option maxRecDepth 65536 in
theorem w_c13 : (Jvm.Cond.code ({ cls := "com/example/overcap/overcap/model/Figure", name := "<init>", desc := "(Ljava/lang/String;Ljava/lang/String;Lcom/example/overcap/overcap/model/Figure$Kind;Ljava/lang/String;Ljava/lang/String;)V" } : Jvm.MethodName) prog_12_method_1_code (6 : Nat) (Option.none : Option Jvm.ClassFile.FieldType)).before args0 about1 = true := code_word (m := ⟨11, 0⟩) (meth := k11m0) (c := k11c0) (by decide +kernel) rfl rfl rfl (by decide +kernel)
set_option maxRecDepth 65536 in
theorem w_c14 : (Jvm.Cond.code ({ cls := "com/example/overcap/overcap/model/Figure", name := "kind", desc := "()Lcom/example/overcap/overcap/model/Figure$Kind;" } : Jvm.MethodName) prog_12_method_11_code (1 : Nat) (Option.some (Jvm.ClassFile.FieldType.object "com/example/overcap/overcap/model/Figure$Kind"))).before args0 about1 = true := code_word (m := ⟨11, 4⟩) (meth := k11m4) (c := k11c4) (by decide +kernel) rfl rfl rfl (by decide +kernel)
set_option maxRecDepth 65536 in
theorem w_c15 : (Jvm.Cond.code ({ cls := "com/example/overcap/overcap/model/Figure", name := "key", desc := "()Ljava/lang/String;" } : Jvm.MethodName) prog_12_method_9_code (1 : Nat) (Option.some (Jvm.ClassFile.FieldType.object "java/lang/String"))).before args0 about1 = true := code_word (m := ⟨11, 2⟩) (meth := k11m2) (c := k11c2) (by decide +kernel) rfl rfl rfl (by decide +kernel)
set_option maxRecDepth 65536 in
theorem w_c16 : (Jvm.Cond.code ({ cls := "java/lang/String", name := "equals", desc := "(Ljava/lang/Object;)Z" } : Jvm.MethodName) jdk_42_method_66_code (3 : Nat) (Option.some Jvm.ClassFile.FieldType.boolean)).before args0 about1 = true := code_word (m := ⟨7, 2⟩) (meth := k7m2) (c := k7c2) (by decide +kernel) rfl rfl rfl (by decide +kernel)
set_option maxRecDepth 65536 in
theorem w_c17 : (Jvm.Cond.code ({ cls := "com/example/overcap/overcap/model/Figure", name := "label", desc := "()Ljava/lang/String;" } : Jvm.MethodName) prog_12_method_10_code (1 : Nat) (Option.some (Jvm.ClassFile.FieldType.object "java/lang/String"))).before args0 about1 = true := code_word (m := ⟨11, 3⟩) (meth := k11m3) (c := k11c3) (by decide +kernel) rfl rfl rfl (by decide +kernel)
set_option maxRecDepth 65536 in
theorem w_c18 : (Jvm.Cond.code ({ cls := "com/example/overcap/overcap/model/Figure", name := "value", desc := "()Ljava/lang/String;" } : Jvm.MethodName) prog_12_method_12_code (1 : Nat) (Option.some (Jvm.ClassFile.FieldType.object "java/lang/String"))).before args0 about1 = true := code_word (m := ⟨11, 5⟩) (meth := k11m5) (c := k11c5) (by decide +kernel) rfl rfl rfl (by decide +kernel)
set_option maxRecDepth 65536 in
theorem w_c19 : (Jvm.Cond.code ({ cls := "com/example/overcap/overcap/model/Figure", name := "working", desc := "()Ljava/lang/String;" } : Jvm.MethodName) prog_12_method_13_code (1 : Nat) (Option.some (Jvm.ClassFile.FieldType.object "java/lang/String"))).before args0 about1 = true := code_word (m := ⟨11, 6⟩) (meth := k11m6) (c := k11c6) (by decide +kernel) rfl rfl rfl (by decide +kernel)
def codes1 : List Jvm.Cond := [Jvm.Cond.code x code maxLocals ret, Jvm.Cond.code ({ cls := "com/example/overcap/overcap/model/FigureTextPinLaw", name := "str", desc := "(I)Ljava/lang/String;" } : Jvm.MethodName) method_2_code (5 : Nat) (Option.some (Jvm.ClassFile.FieldType.object "java/lang/String")), Jvm.Cond.code ({ cls := "java/lang/String", name := "<init>", desc := "([C)V" } : Jvm.MethodName) jdk_42_method_3_code (2 : Nat) (Option.none : Option Jvm.ClassFile.FieldType), Jvm.Cond.code ({ cls := "java/lang/String", name := "<init>", desc := "([CIILjava/lang/Void;)V" } : Jvm.MethodName) jdk_42_method_149_code (6 : Nat) (Option.none : Option Jvm.ClassFile.FieldType), Jvm.Cond.code ({ cls := "java/lang/Object", name := "<init>", desc := "()V" } : Jvm.MethodName) object_method_1_code (1 : Nat) (Option.none : Option Jvm.ClassFile.FieldType), Jvm.Cond.code ({ cls := "java/lang/StringUTF16", name := "compress", desc := "([CII)[B" } : Jvm.MethodName) jdk_52_method_16_code (6 : Nat) (Option.some (Jvm.ClassFile.FieldType.array Jvm.ClassFile.FieldType.byte)), Jvm.Cond.code ({ cls := "java/lang/StringUTF16", name := "compress", desc := "([CI[BII)I" } : Jvm.MethodName) jdk_52_method_21_code (7 : Nat) (Option.some Jvm.ClassFile.FieldType.int), Jvm.Cond.code ({ cls := "java/lang/StringUTF16", name := "coderFromArrayLen", desc := "([BI)B" } : Jvm.MethodName) jdk_52_method_15_code (2 : Nat) (Option.some Jvm.ClassFile.FieldType.byte), Jvm.Cond.code ({ cls := "java/lang/String", name := "valueOf", desc := "(C)Ljava/lang/String;" } : Jvm.MethodName) jdk_42_method_139_code (1 : Nat) (Option.some (Jvm.ClassFile.FieldType.object "java/lang/String")), Jvm.Cond.code ({ cls := "java/lang/StringLatin1", name := "canEncode", desc := "(C)Z" } : Jvm.MethodName) jdk_43_method_3_code (1 : Nat) (Option.some Jvm.ClassFile.FieldType.boolean), Jvm.Cond.code ({ cls := "java/lang/StringLatin1", name := "toBytes", desc := "(C)[B" } : Jvm.MethodName) jdk_43_method_46_code (1 : Nat) (Option.some (Jvm.ClassFile.FieldType.array Jvm.ClassFile.FieldType.byte)), Jvm.Cond.code ({ cls := "java/lang/String", name := "<init>", desc := "([BB)V" } : Jvm.MethodName) jdk_42_method_151_code (3 : Nat) (Option.none : Option Jvm.ClassFile.FieldType), Jvm.Cond.code ({ cls := "com/example/overcap/overcap/model/Figure", name := "text", desc := "(Ljava/lang/String;Ljava/lang/String;Ljava/lang/String;Ljava/lang/String;)Lcom/example/overcap/overcap/model/Figure;" } : Jvm.MethodName) prog_12_method_2_code (4 : Nat) (Option.some (Jvm.ClassFile.FieldType.object "com/example/overcap/overcap/model/Figure")), Jvm.Cond.code ({ cls := "com/example/overcap/overcap/model/Figure", name := "<init>", desc := "(Ljava/lang/String;Ljava/lang/String;Lcom/example/overcap/overcap/model/Figure$Kind;Ljava/lang/String;Ljava/lang/String;)V" } : Jvm.MethodName) prog_12_method_1_code (6 : Nat) (Option.none : Option Jvm.ClassFile.FieldType), Jvm.Cond.code ({ cls := "com/example/overcap/overcap/model/Figure", name := "kind", desc := "()Lcom/example/overcap/overcap/model/Figure$Kind;" } : Jvm.MethodName) prog_12_method_11_code (1 : Nat) (Option.some (Jvm.ClassFile.FieldType.object "com/example/overcap/overcap/model/Figure$Kind")), Jvm.Cond.code ({ cls := "com/example/overcap/overcap/model/Figure", name := "key", desc := "()Ljava/lang/String;" } : Jvm.MethodName) prog_12_method_9_code (1 : Nat) (Option.some (Jvm.ClassFile.FieldType.object "java/lang/String")), Jvm.Cond.code ({ cls := "java/lang/String", name := "equals", desc := "(Ljava/lang/Object;)Z" } : Jvm.MethodName) jdk_42_method_66_code (3 : Nat) (Option.some Jvm.ClassFile.FieldType.boolean), Jvm.Cond.code ({ cls := "com/example/overcap/overcap/model/Figure", name := "label", desc := "()Ljava/lang/String;" } : Jvm.MethodName) prog_12_method_10_code (1 : Nat) (Option.some (Jvm.ClassFile.FieldType.object "java/lang/String")), Jvm.Cond.code ({ cls := "com/example/overcap/overcap/model/Figure", name := "value", desc := "()Ljava/lang/String;" } : Jvm.MethodName) prog_12_method_12_code (1 : Nat) (Option.some (Jvm.ClassFile.FieldType.object "java/lang/String")), Jvm.Cond.code ({ cls := "com/example/overcap/overcap/model/Figure", name := "working", desc := "()Ljava/lang/String;" } : Jvm.MethodName) prog_12_method_13_code (1 : Nat) (Option.some (Jvm.ClassFile.FieldType.object "java/lang/String"))]
set_option maxRecDepth 65536 in
theorem codes_eq : words1.filter isCode = codes1 := rfl
theorem w_codes : ∀ c ∈ words1.filter isCode, c.before args0 about1 = true := by
  rw [codes_eq]
  intro c hc
  simp only [codes1, List.mem_cons, List.not_mem_nil, or_false] at hc
  rcases hc with rfl | rfl | rfl | rfl | rfl | rfl | rfl | rfl | rfl | rfl | rfl | rfl | rfl | rfl | rfl | rfl | rfl | rfl | rfl | rfl
  · exact w_c0
  · exact w_c1
  · exact w_c2
  · exact w_c3
  · exact w_c4
  · exact w_c5
  · exact w_c6
  · exact w_c7
  · exact w_c8
  · exact w_c9
  · exact w_c10
  · exact w_c11
  · exact w_c12
  · exact w_c13
  · exact w_c14
  · exact w_c15
  · exact w_c16
  · exact w_c17
  · exact w_c18
  · exact w_c19
set_option maxRecDepth 65536 in
theorem w_t1 : (words1.take 24).all (fun c => isCode c || c.before args0 about1) = true := by decide +kernel
set_option maxRecDepth 65536 in
theorem w_t2 : ((words1.drop 24).take 24).all (fun c => isCode c || c.before args0 about1) = true := by decide +kernel
set_option maxRecDepth 65536 in
theorem w_t3 : (((words1.drop 24).drop 24).take 24).all (fun c => isCode c || c.before args0 about1) = true := by decide +kernel
set_option maxRecDepth 65536 in
theorem w_t4 : ((((words1.drop 24).drop 24).drop 24).take 24).all (fun c => isCode c || c.before args0 about1) = true := by decide +kernel
set_option maxRecDepth 65536 in
theorem w_t5 : ((((words1.drop 24).drop 24).drop 24).drop 24).all (fun c => isCode c || c.before args0 about1) = true := by decide +kernel
theorem w_tables : (allAtoms (Jvm.Cond.code x code maxLocals ret :: tables_1)).before args0 about1 = true := by
  rw [allAtoms_all]
  show words1.all (fun c => c.before args0 about1) = true
  refine all_split ?_ w_codes
  rw [← List.take_append_drop 24 words1, List.all_append, w_t1, ← List.take_append_drop 24 (words1.drop 24), List.all_append, w_t2, ← List.take_append_drop 24 ((words1.drop 24).drop 24), List.all_append, w_t3, ← List.take_append_drop 24 (((words1.drop 24).drop 24).drop 24), List.all_append, w_t4, w_t5]
  rfl
set_option maxRecDepth 65536 in
theorem w_rest : rest_1_c.before args0 about1 = true := by decide +kernel
set_option maxRecDepth 65536 in
theorem w_case : (Jvm.Cond.and given_1 narrow_1).before args0 about1 = true := by decide +kernel
set_option maxRecDepth 65536 in
theorem w_consts : constsHeld consts_1 about1 := Jvm.Lit.constsHeldB_iff.mp (by decide +kernel)
theorem w_applies : (headSpec (Jvm.Cond.code x code maxLocals ret :: tables_1) room_1).applies x e0.platform about1 = true :=
  (Spec.applies_iff w_frames).mpr ⟨w_running, w_runnable, w_alone, w_named, w_hears, w_ripe, w_room, w_tables⟩
theorem atStart : AtStart classFile x code maxLocals ret World_1 tables_1 room_1 Calls_1 rest_1 Pre_1 launch0 p0 e0 about1 theMethod args0 below0 :=
  ⟨lists_1, trivial, launch0.admits_env _ _ _, launch0.least_env, fairChoices_fair.cas, fairChoices_fair.clock, w_frames, w_args, w_heap, w_applies, ⟨w_consts, trivial⟩, w_rest, w_case⟩
end start1
theorem witness_1 : WitnessClaimed_1 := ⟨start1.p0, start1.e0, start1.about1, start1.theMethod, start1.args0, start1.below0, start1.atStart⟩
end Jvm.Pilot.@@N@@
