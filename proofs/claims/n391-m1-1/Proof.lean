import JvmDerived
import JvmDerived.Pilot.@@N@@Statement
import JvmDerived.Pilot.@@N@@Code
set_option linter.unusedVariables false
set_option linter.unusedSimpArgs false
@@BLOCK:NumsL.lean.txt@@
namespace Jvm.RoadKit
open Sem ClassFile Op Lib Jvm.Stand Jvm.Free Jvm.LawKit
section New
variable {p : Program} {l : Launch} {e : Env} {R : Room} {s : State} {m : MethodId} {args : Array Value} {below : List Frame} {meth : Method} {c : Code} {T : State} {locs : List Loc} {cells slots : Nat}
theorem retI (X : Stand p l e R s m args below meth c T locs cells slots) (hx : p.tables.exec = Jvm.exec) {pc : Nat} {Ls : Array Slot} {z : Int32} {rest : List Value} (hret : meth.sig.returnType = some .int) (hd : decode c.code pc = .ok (.ireturn, 1)) {fs : List Frame}
    (hl : ∀ (f : JFrame) (acts : List Action), f.method = m → f.locked = none → f.entered = [] → (doReturn e (T.setTop f) acts (some (.int z))).1 = T.setFrames fs) : Steps p.tables e below (T.setTop (mkF m pc Ls (.int z :: rest))) (T.setFrames fs) := by
  have hm' : T.vm.method? m = some meth := X.method'
  have hn : narrow .int (.int z) = .int z := rfl
  show Steps p.tables e below (T.setTop { method := m, pc := pc, locals := Ls, stack := _ :: rest, locked := none }) _
  jvm_step X.here [X.here.top, hx, hd, hm', hret, hn]
  first | (intro acts; rw [hl _ acts rfl rfl rfl]) | rw [hl _ _ rfl rfl rfl]
  exact Steps.refl _
end New
end Jvm.RoadKit
namespace Jvm.Pilot.@@N@@
open Jvm Jvm.ClassFile Sem Op Lib Jvm.Free Jvm.Stand Jvm.LawKit Jvm.RoadKit Bundle Jvm.Pilot.@@N@@.Jvm.D
/-- what a walk comes to, said forward -/
def Go (p : Program) (e : Env) (below : List Frame) (R : State → Outcome → Prop) (A : State) : Prop := ∃ t o, Steps p.tables e below A t ∧ R t o
def Fin1 (s : State) (below : List Frame) (Q : Option Value → Heap → List Loc → Prop) (K N : Nat) (t : State) (o : Outcome) : Prop := t.status = .running ∧ Ended t below o ∧ ∃ v L, o = .returned v ∧ Q v t.heap L ∧ FrameEnd s o t L K N
theorem Go.step {p : Program} {e : Env} {below : List Frame} {R : State → Outcome → Prop} {A B : State} (k : ∀ t, Steps p.tables e below A t → Steps p.tables e below B t) (h : Go p e below R A) : Go p e below R B := by
  obtain ⟨t, o, h1, h2⟩ := h
  exact ⟨t, o, k t h1, h2⟩
section GoRet
variable {p : Program} {l : Launch} {e : Env} {R : Room} {s : State} {m : MethodId} {args : Array Value} {below : List Frame} {meth : Method} {c : Code} {T : State} {locs : List Loc} {cells slots : Nat} {Q : Option Value → Heap → List Loc → Prop} {K N pc : Nat} {Ls : Array Slot} {rest : List Value}
theorem Go.retZ (X : Stand p l e R s m args below meth c T locs cells slots) (hx : p.tables.exec = Jvm.exec) {z : Int32} {t : FieldType} (hret : meth.sig.returnType = some t) (ht : t = .boolean ∨ t = .byte ∨ t = .char ∨ t = .short) (hlk : meth.locks = false) (hd : decode c.code pc = .ok (.ireturn, 1)) (hq : Q (some (.int (nar t z))) T.heap locs) (hc : cells ≤ K) (hn : slots ≤ N) : Go p e below (Fin1 s below Q K N) (T.setTop (mkF m pc Ls (.int z :: rest))) := by
  obtain ⟨fs, hr, hrun, hended, hW, hsame⟩ := X.leave (v := some (.int (nar t z))) (fun h => by rw [hret] at h; cases h) hlk
  exact ⟨_, _, retN X hx hret ht hd hr, hrun, hended, _, _, rfl, hq, ⟨_, rfl⟩, hW, hsame.mono hc hn⟩
theorem Go.retI (X : Stand p l e R s m args below meth c T locs cells slots) (hx : p.tables.exec = Jvm.exec) {z : Int32} (hret : meth.sig.returnType = some .int) (hlk : meth.locks = false) (hd : decode c.code pc = .ok (.ireturn, 1)) (hq : Q (some (.int z)) T.heap locs) (hc : cells ≤ K) (hn : slots ≤ N) : Go p e below (Fin1 s below Q K N) (T.setTop (mkF m pc Ls (.int z :: rest))) := by
  obtain ⟨fs, hr, hrun, hended, hW, hsame⟩ := X.leave (v := some (.int z)) (fun h => by rw [hret] at h; cases h) hlk
  exact ⟨_, _, Jvm.RoadKit.retI X hx hret hd hr, hrun, hended, _, _, rfl, hq, ⟨_, rfl⟩, hW, hsame.mono hc hn⟩
theorem Go.retJ (X : Stand p l e R s m args below meth c T locs cells slots) (hx : p.tables.exec = Jvm.exec) {z : Int64} (hret : meth.sig.returnType = some .long) (hlk : meth.locks = false) (hd : decode c.code pc = .ok (.lreturn, 1)) (hq : Q (some (.long z)) T.heap locs) (hc : cells ≤ K) (hn : slots ≤ N) : Go p e below (Fin1 s below Q K N) (T.setTop (mkF m pc Ls (.long z :: rest))) := by
  obtain ⟨fs, hr, hrun, hended, hW, hsame⟩ := X.leave (v := some (.long z)) (fun h => by rw [hret] at h; cases h) hlk
  exact ⟨_, _, retOut X hx hret rfl (Or.inr (Or.inl ⟨rfl, rfl, _, rfl⟩)) hd hr, hrun, hended, _, _, rfl, hq, ⟨_, rfl⟩, hW, hsame.mono hc hn⟩
theorem Go.retR (X : Stand p l e R s m args below meth c T locs cells slots) (hx : p.tables.exec = Jvm.exec) {w : Value} {t : FieldType} (hret : meth.sig.returnType = some t) (ht : t.isReference = true) (hw : w.isRef = true) (hlk : meth.locks = false) (hd : decode c.code pc = .ok (.areturn, 1)) (hq : Q (some w) T.heap locs) (hc : cells ≤ K) (hn : slots ≤ N) : Go p e below (Fin1 s below Q K N) (T.setTop (mkF m pc Ls (w :: rest))) := by
  obtain ⟨fs, hr, hrun, hended, hW, hsame⟩ := X.leave (v := some w) (fun h => by rw [hret] at h; cases h) hlk
  have hnw : narrow t w = w := by rcases ref_cases hw with rfl | ⟨a, rfl⟩ <;> cases t <;> first | rfl | (cases ht)
  exact ⟨_, _, retOut X hx hret hnw (Or.inr (Or.inr (Or.inr (Or.inr ⟨rfl, ht, hw⟩)))) hd hr, hrun, hended, _, _, rfl, hq, ⟨_, rfl⟩, hW, hsame.mono hc hn⟩
theorem Go.retV (X : Stand p l e R s m args below meth c T locs cells slots) (hx : p.tables.exec = Jvm.exec) (hret : meth.sig.returnType = none) (hlk : meth.locks = false) (hd : decode c.code pc = .ok (.return_, 1)) (hq : Q none T.heap locs) (hc : cells ≤ K) (hn : slots ≤ N) : Go p e below (Fin1 s below Q K N) (T.setTop (mkF m pc Ls [])) := by
  obtain ⟨fs, hr, hrun, hended, hW, hsame⟩ := X.leave (v := none) (fun _ => rfl) hlk
  exact ⟨_, _, X.returnOut hx hret hd hr, hrun, hended, _, _, rfl, hq, ⟨_, rfl⟩, hW, hsame.mono hc hn⟩
end GoRet
def Fin2 (s : State) (below : List Frame) (Q : Option Value → Heap → List Loc → Prop) (K N : Nat) (t : State) (o : Outcome) : Prop := t.status = .running ∧ Ended t below o ∧ ∃ v L, o = .returned v ∧ Q v t.heap L ∧ ReturnedEndW s o t L K N
theorem wmono {s t : State} {o : Outcome} {L : List Loc} {k n k' n' : Nat} (h : ReturnedEndW s o t L k n) (h1 : k ≤ k') (h2 : n ≤ n') : ReturnedEndW s o t L k' n' := ⟨h.1, h.2.1, h.2.2.1, h.2.2.2.mono h1 h2⟩
section GoRetW
variable {p : Program} {l : Launch} {e : Env} {R : Room} {s : State} {vm0 : Vm} {m : MethodId} {args : Array Value} {below : List Frame} {meth : Method} {c : Code} {T : State} {locs : List Loc} {cells slots : Nat} {Q : Option Value → Heap → List Loc → Prop} {K N pc k0 : Nat} {Ls : Array Slot} {rest : List Value}
theorem GoW.retZ (X : Stand p l e R (s.setVm vm0) m args below meth c T locs cells slots) (hS : s.Since vm0 k0) (hk : k0 ≤ T.heap.size) (hx : p.tables.exec = Jvm.exec) {z : Int32} {t : FieldType} (hret : meth.sig.returnType = some t) (ht : t = .boolean ∨ t = .byte ∨ t = .char ∨ t = .short) (hlk : meth.locks = false) (hd : decode c.code pc = .ok (.ireturn, 1)) (hq : Q (some (.int (nar t z))) T.heap locs) (hc : cells ≤ K) (hn : slots ≤ N) : Go p e below (Fin2 s below Q K N) (T.setTop (mkF m pc Ls (.int z :: rest))) := by
  obtain ⟨fs, hr, hrun, hended, hW⟩ := X.leaveW hS hk (v := some (.int (nar t z))) (fun h => by rw [hret] at h; cases h) hlk
  exact ⟨_, _, retN X hx hret ht hd hr, hrun, hended, _, _, rfl, hq, wmono hW hc hn⟩
theorem GoW.retI (X : Stand p l e R (s.setVm vm0) m args below meth c T locs cells slots) (hS : s.Since vm0 k0) (hk : k0 ≤ T.heap.size) (hx : p.tables.exec = Jvm.exec) {z : Int32} (hret : meth.sig.returnType = some .int) (hlk : meth.locks = false) (hd : decode c.code pc = .ok (.ireturn, 1)) (hq : Q (some (.int z)) T.heap locs) (hc : cells ≤ K) (hn : slots ≤ N) : Go p e below (Fin2 s below Q K N) (T.setTop (mkF m pc Ls (.int z :: rest))) := by
  obtain ⟨fs, hr, hrun, hended, hW⟩ := X.leaveW hS hk (v := some (.int z)) (fun h => by rw [hret] at h; cases h) hlk
  exact ⟨_, _, Jvm.RoadKit.retI X hx hret hd hr, hrun, hended, _, _, rfl, hq, wmono hW hc hn⟩
theorem GoW.retR (X : Stand p l e R (s.setVm vm0) m args below meth c T locs cells slots) (hS : s.Since vm0 k0) (hk : k0 ≤ T.heap.size) (hx : p.tables.exec = Jvm.exec) {w : Value} {t : FieldType} (hret : meth.sig.returnType = some t) (ht : t.isReference = true) (hw : w.isRef = true) (hlk : meth.locks = false) (hd : decode c.code pc = .ok (.areturn, 1)) (hq : Q (some w) T.heap locs) (hc : cells ≤ K) (hn : slots ≤ N) : Go p e below (Fin2 s below Q K N) (T.setTop (mkF m pc Ls (w :: rest))) := by
  obtain ⟨fs, hr, hrun, hended, hW⟩ := X.leaveW hS hk (v := some w) (fun h => by rw [hret] at h; cases h) hlk
  have hnw : narrow t w = w := by rcases ref_cases hw with rfl | ⟨a, rfl⟩ <;> cases t <;> first | rfl | (cases ht)
  exact ⟨_, _, retOut X hx hret hnw (Or.inr (Or.inr (Or.inr (Or.inr ⟨rfl, ht, hw⟩)))) hd hr, hrun, hended, _, _, rfl, hq, wmono hW hc hn⟩
theorem GoW.retV (X : Stand p l e R (s.setVm vm0) m args below meth c T locs cells slots) (hS : s.Since vm0 k0) (hk : k0 ≤ T.heap.size) (hx : p.tables.exec = Jvm.exec) (hret : meth.sig.returnType = none) (hlk : meth.locks = false) (hd : decode c.code pc = .ok (.return_, 1)) (hq : Q none T.heap locs) (hc : cells ≤ K) (hn : slots ≤ N) : Go p e below (Fin2 s below Q K N) (T.setTop (mkF m pc Ls [])) := by
  obtain ⟨fs, hr, hrun, hended, hW⟩ := X.leaveW hS hk (v := none) (fun _ => rfl) hlk
  exact ⟨_, _, X.returnOut hx hret hd hr, hrun, hended, _, _, rfl, hq, wmono hW hc hn⟩
end GoRetW
theorem wd {a0 : Array Value} {Z : State} (hw : ∀ d ∈ tables_1, d.before a0 Z = true) (i : Nat) {d : Jvm.Cond} (h : tables_1[i]? = some d) : d.before a0 Z = true := hw d (List.mem_of_getElem? h)
theorem sel_priv {Z s : State} {a0 args : Array Value} {y : MethodName} {n : Nat} (hZ : Z.Warmed39 s.vm) (wi : (Jvm.Cond.instantiable y.cls n).before a0 Z = true) (wp : (Jvm.Cond.privateMethod y).before a0 Z = true) (wm : (Jvm.Cond.instanceMethod y).before a0 Z = true) (hy : y.cls ≠ "java/lang/invoke/MethodHandle" ∧ y.cls ≠ "java/lang/invoke/VarHandle") : (Jvm.Cond.selects y.cls y y).before args s = true := by
  obtain ⟨c, k, h1, h2, -, h4, -⟩ := Cond.instantiable_spec (mv (args := args) hZ wi)
  simp only [Bool.or_eq_false_iff] at h4
  exact Jvm.Stand.selects_self_of_private h1 h2 h4.1 (Cond.privateMethod_at (mvP hZ wp (args := args))) (mv hZ wm) hy
theorem old_z0 {Z : State} {n0 : Nat} {h : Heap} (O : Old Z n0 h) : n0 ≤ h.size := O.1 ▸ O.2.1
theorem eq_long {args : Array Value} {s : State} {t : Term} {z : Int64} (h : (Jvm.Cond.eq t (.long z)).value args s none s [] = some true) : t.eval args s none [] s = some (.long z) := by
  simp only [Cond.value, Term.eval] at h
  cases e : t.eval args s none [] s with
  | none => simp [e] at h
  | some v => cases v <;> simp_all
theorem eq_int {args : Array Value} {s : State} {t : Term} {z : Int32} (h : (Jvm.Cond.eq t (.int z)).value args s none s [] = some true) : t.eval args s none [] s = some (.int z) := by
  simp only [Cond.value, Term.eval] at h
  cases e : t.eval args s none [] s with
  | none => simp [e] at h
  | some v => cases v <;> simp_all
section GS
variable {p : Program} {e : Env} {below : List Frame} {R : State → Outcome → Prop} {T : State} {m : MethodId} {c : Code} {pc : Nat} {Ls l' : Array Slot} {rest : List Value}

theorem gs.iload {k : Nat} {v : Int32} (h : At T m c below) (hx : p.tables.exec = Jvm.exec) (hd : decode c.code pc = .ok (.iload k, 2)) (hl : Ls[k]? = some (.val (.int v))) (H : Go p e below R (T.setTop (mkF m (pc + 2) Ls (.int v :: rest)))) : Go p e below R (T.setTop (mkF m pc Ls rest)) := Go.step (fun _ q_ => XS.iload h hx rfl hd hl q_) H
theorem gs.iloadN {k : Fin 4} {v : Int32} (h : At T m c below) (hx : p.tables.exec = Jvm.exec) (hd : decode c.code pc = .ok (.iload_n k, 1)) (hl : Ls[k.val]? = some (.val (.int v))) (H : Go p e below R (T.setTop (mkF m (pc + 1) Ls (.int v :: rest)))) : Go p e below R (T.setTop (mkF m pc Ls rest)) := Go.step (fun _ q_ => XS.iloadN h hx rfl hd hl q_) H
theorem gs.lload {k : Nat} {v : Int64} (h : At T m c below) (hx : p.tables.exec = Jvm.exec) (hd : decode c.code pc = .ok (.lload k, 2)) (hl : Ls[k]? = some (.val (.long v))) (H : Go p e below R (T.setTop (mkF m (pc + 2) Ls (.long v :: rest)))) : Go p e below R (T.setTop (mkF m pc Ls rest)) := Go.step (fun _ q_ => XS.lload h hx rfl hd hl q_) H
theorem gs.lloadN {k : Fin 4} {v : Int64} (h : At T m c below) (hx : p.tables.exec = Jvm.exec) (hd : decode c.code pc = .ok (.lload_n k, 1)) (hl : Ls[k.val]? = some (.val (.long v))) (H : Go p e below R (T.setTop (mkF m (pc + 1) Ls (.long v :: rest)))) : Go p e below R (T.setTop (mkF m pc Ls rest)) := Go.step (fun _ q_ => XS.lloadN h hx rfl hd hl q_) H
theorem gs.aload {k : Nat} {v : Value} (h : At T m c below) (hx : p.tables.exec = Jvm.exec) (hd : decode c.code pc = .ok (.aload k, 2)) (hl : Ls[k]? = some (.val v)) (hv : v.isRef = true) (H : Go p e below R (T.setTop (mkF m (pc + 2) Ls (v :: rest)))) : Go p e below R (T.setTop (mkF m pc Ls rest)) := Go.step (fun _ q_ => XS.aload h hx rfl hd hl hv q_) H
theorem gs.aloadN {k : Fin 4} {v : Value} (h : At T m c below) (hx : p.tables.exec = Jvm.exec) (hd : decode c.code pc = .ok (.aload_n k, 1)) (hl : Ls[k.val]? = some (.val v)) (hv : v.isRef = true) (H : Go p e below R (T.setTop (mkF m (pc + 1) Ls (v :: rest)))) : Go p e below R (T.setTop (mkF m pc Ls rest)) := Go.step (fun _ q_ => XS.aloadN h hx rfl hd hl hv q_) H
theorem gs.istore {k : Nat} {v : Int32} (h : At T m c below) (hx : p.tables.exec = Jvm.exec) (hd : decode c.code pc = .ok (.istore k, 2)) (hl : storeLocals Ls k (.int v) = some l') (H : Go p e below R (T.setTop (mkF m (pc + 2) l' rest))) : Go p e below R (T.setTop (mkF m pc Ls (.int v :: rest))) := Go.step (fun _ q_ => XS.istore h hx rfl hd rfl hl q_) H
theorem gs.istoreN {k : Fin 4} {v : Int32} (h : At T m c below) (hx : p.tables.exec = Jvm.exec) (hd : decode c.code pc = .ok (.istore_n k, 1)) (hl : storeLocals Ls k.val (.int v) = some l') (H : Go p e below R (T.setTop (mkF m (pc + 1) l' rest))) : Go p e below R (T.setTop (mkF m pc Ls (.int v :: rest))) := Go.step (fun _ q_ => XS.istoreN h hx rfl hd rfl hl q_) H
theorem gs.lstore {k : Nat} {v : Int64} (h : At T m c below) (hx : p.tables.exec = Jvm.exec) (hd : decode c.code pc = .ok (.lstore k, 2)) (hl : storeLocals Ls k (.long v) = some l') (H : Go p e below R (T.setTop (mkF m (pc + 2) l' rest))) : Go p e below R (T.setTop (mkF m pc Ls (.long v :: rest))) := Go.step (fun _ q_ => XS.lstore h hx rfl hd rfl hl q_) H
theorem gs.lstoreN {k : Fin 4} {v : Int64} (h : At T m c below) (hx : p.tables.exec = Jvm.exec) (hd : decode c.code pc = .ok (.lstore_n k, 1)) (hl : storeLocals Ls k.val (.long v) = some l') (H : Go p e below R (T.setTop (mkF m (pc + 1) l' rest))) : Go p e below R (T.setTop (mkF m pc Ls (.long v :: rest))) := Go.step (fun _ q_ => XS.lstoreN h hx rfl hd rfl hl q_) H
theorem gs.astore {k : Nat} {v : Value} (h : At T m c below) (hx : p.tables.exec = Jvm.exec) (hd : decode c.code pc = .ok (.astore k, 2)) (hv : v.isRef = true) (hl : storeLocals Ls k (v) = some l') (H : Go p e below R (T.setTop (mkF m (pc + 2) l' rest))) : Go p e below R (T.setTop (mkF m pc Ls (v :: rest))) := Go.step (fun _ q_ => XS.astore h hx rfl hd rfl hv hl q_) H
theorem gs.astoreN {k : Fin 4} {v : Value} (h : At T m c below) (hx : p.tables.exec = Jvm.exec) (hd : decode c.code pc = .ok (.astore_n k, 1)) (hv : v.isRef = true) (hl : storeLocals Ls k.val (v) = some l') (H : Go p e below R (T.setTop (mkF m (pc + 1) l' rest))) : Go p e below R (T.setTop (mkF m pc Ls (v :: rest))) := Go.step (fun _ q_ => XS.astoreN h hx rfl hd rfl hv hl q_) H
theorem gs.iconst {i : Int} (z : Int32) (h : At T m c below) (hx : p.tables.exec = Jvm.exec) (hd : decode c.code pc = .ok (.iconst i, 1)) (hz : Int32.ofInt i = z) (H : Go p e below R (T.setTop (mkF m (pc + 1) Ls (.int z :: rest)))) : Go p e below R (T.setTop (mkF m pc Ls rest)) := Go.step (fun _ q_ => XS.iconst h hx rfl hd (by rw [hz]; exact q_)) H
theorem gs.bipush {i : Int} (z : Int32) (h : At T m c below) (hx : p.tables.exec = Jvm.exec) (hd : decode c.code pc = .ok (.bipush i, 2)) (hz : (Int8.ofInt i).toInt32 = z) (H : Go p e below R (T.setTop (mkF m (pc + 2) Ls (.int z :: rest)))) : Go p e below R (T.setTop (mkF m pc Ls rest)) := Go.step (fun _ q_ => XS.bipush h hx rfl hd (by rw [hz]; exact q_)) H
theorem gs.sipush {i : Int} (z : Int32) (h : At T m c below) (hx : p.tables.exec = Jvm.exec) (hd : decode c.code pc = .ok (.sipush i, 3)) (hz : (Int16.ofInt i).toInt32 = z) (H : Go p e below R (T.setTop (mkF m (pc + 3) Ls (.int z :: rest)))) : Go p e below R (T.setTop (mkF m pc Ls rest)) := Go.step (fun _ q_ => XS.sipush h hx rfl hd (by rw [hz]; exact q_)) H
theorem gs.aconstNull  (h : At T m c below) (hx : p.tables.exec = Jvm.exec) (hd : decode c.code pc = .ok (.aconst_null, 1)) (H : Go p e below R (T.setTop (mkF m (pc + 1) Ls (.null :: rest)))) : Go p e below R (T.setTop (mkF m pc Ls rest)) := Go.step (fun _ q_ => XS.aconstNull h hx rfl hd q_) H
theorem gs.iadd {x y : Int32} (h : At T m c below) (hx : p.tables.exec = Jvm.exec) (hd : decode c.code pc = .ok (.iadd, 1)) (H : Go p e below R (T.setTop (mkF m (pc + 1) Ls (.int (x + y) :: rest)))) : Go p e below R (T.setTop (mkF m pc Ls (.int y :: .int x :: rest))) := Go.step (fun _ q_ => XS.iadd h hx rfl hd rfl q_) H
theorem gs.ladd {x y : Int64} (h : At T m c below) (hx : p.tables.exec = Jvm.exec) (hd : decode c.code pc = .ok (.ladd, 1)) (H : Go p e below R (T.setTop (mkF m (pc + 1) Ls (.long (x + y) :: rest)))) : Go p e below R (T.setTop (mkF m pc Ls (.long y :: .long x :: rest))) := Go.step (fun _ q_ => XS.ladd h hx rfl hd rfl q_) H
theorem gs.isub {x y : Int32} (h : At T m c below) (hx : p.tables.exec = Jvm.exec) (hd : decode c.code pc = .ok (.isub, 1)) (H : Go p e below R (T.setTop (mkF m (pc + 1) Ls (.int (x - y) :: rest)))) : Go p e below R (T.setTop (mkF m pc Ls (.int y :: .int x :: rest))) := Go.step (fun _ q_ => XS.isub h hx rfl hd rfl q_) H
theorem gs.lsub {x y : Int64} (h : At T m c below) (hx : p.tables.exec = Jvm.exec) (hd : decode c.code pc = .ok (.lsub, 1)) (H : Go p e below R (T.setTop (mkF m (pc + 1) Ls (.long (x - y) :: rest)))) : Go p e below R (T.setTop (mkF m pc Ls (.long y :: .long x :: rest))) := Go.step (fun _ q_ => XS.lsub h hx rfl hd rfl q_) H
theorem gs.imul {x y : Int32} (h : At T m c below) (hx : p.tables.exec = Jvm.exec) (hd : decode c.code pc = .ok (.imul, 1)) (H : Go p e below R (T.setTop (mkF m (pc + 1) Ls (.int (x * y) :: rest)))) : Go p e below R (T.setTop (mkF m pc Ls (.int y :: .int x :: rest))) := Go.step (fun _ q_ => XS.imul h hx rfl hd rfl q_) H
theorem gs.lmul {x y : Int64} (h : At T m c below) (hx : p.tables.exec = Jvm.exec) (hd : decode c.code pc = .ok (.lmul, 1)) (H : Go p e below R (T.setTop (mkF m (pc + 1) Ls (.long (x * y) :: rest)))) : Go p e below R (T.setTop (mkF m pc Ls (.long y :: .long x :: rest))) := Go.step (fun _ q_ => XS.lmul h hx rfl hd rfl q_) H
theorem gs.iand {x y : Int32} (h : At T m c below) (hx : p.tables.exec = Jvm.exec) (hd : decode c.code pc = .ok (.iand, 1)) (H : Go p e below R (T.setTop (mkF m (pc + 1) Ls (.int (x &&& y) :: rest)))) : Go p e below R (T.setTop (mkF m pc Ls (.int y :: .int x :: rest))) := Go.step (fun _ q_ => XS.iand h hx rfl hd rfl q_) H
theorem gs.land {x y : Int64} (h : At T m c below) (hx : p.tables.exec = Jvm.exec) (hd : decode c.code pc = .ok (.land, 1)) (H : Go p e below R (T.setTop (mkF m (pc + 1) Ls (.long (x &&& y) :: rest)))) : Go p e below R (T.setTop (mkF m pc Ls (.long y :: .long x :: rest))) := Go.step (fun _ q_ => XS.land h hx rfl hd rfl q_) H
theorem gs.ior {x y : Int32} (h : At T m c below) (hx : p.tables.exec = Jvm.exec) (hd : decode c.code pc = .ok (.ior, 1)) (H : Go p e below R (T.setTop (mkF m (pc + 1) Ls (.int (x ||| y) :: rest)))) : Go p e below R (T.setTop (mkF m pc Ls (.int y :: .int x :: rest))) := Go.step (fun _ q_ => XS.ior h hx rfl hd rfl q_) H
theorem gs.lor {x y : Int64} (h : At T m c below) (hx : p.tables.exec = Jvm.exec) (hd : decode c.code pc = .ok (.lor, 1)) (H : Go p e below R (T.setTop (mkF m (pc + 1) Ls (.long (x ||| y) :: rest)))) : Go p e below R (T.setTop (mkF m pc Ls (.long y :: .long x :: rest))) := Go.step (fun _ q_ => XS.lor h hx rfl hd rfl q_) H
theorem gs.ixor {x y : Int32} (h : At T m c below) (hx : p.tables.exec = Jvm.exec) (hd : decode c.code pc = .ok (.ixor, 1)) (H : Go p e below R (T.setTop (mkF m (pc + 1) Ls (.int (x ^^^ y) :: rest)))) : Go p e below R (T.setTop (mkF m pc Ls (.int y :: .int x :: rest))) := Go.step (fun _ q_ => XS.ixor h hx rfl hd rfl q_) H
theorem gs.lxor {x y : Int64} (h : At T m c below) (hx : p.tables.exec = Jvm.exec) (hd : decode c.code pc = .ok (.lxor, 1)) (H : Go p e below R (T.setTop (mkF m (pc + 1) Ls (.long (x ^^^ y) :: rest)))) : Go p e below R (T.setTop (mkF m pc Ls (.long y :: .long x :: rest))) := Go.step (fun _ q_ => XS.lxor h hx rfl hd rfl q_) H
theorem gs.dup {x : Value} (h : At T m c below) (hx : p.tables.exec = Jvm.exec) (hd : decode c.code pc = .ok (.dup, 1)) (hc : x.category = 1) (H : Go p e below R (T.setTop (mkF m (pc + 1) Ls (x :: x :: rest)))) : Go p e below R (T.setTop (mkF m pc Ls (x :: rest))) := Go.step (fun _ q_ => XS.dup h hx rfl hd rfl hc q_) H
theorem gs.pop {x : Value} (h : At T m c below) (hx : p.tables.exec = Jvm.exec) (hd : decode c.code pc = .ok (.pop, 1)) (hc : x.category = 1) (H : Go p e below R (T.setTop (mkF m (pc + 1) Ls rest))) : Go p e below R (T.setTop (mkF m pc Ls (x :: rest))) := Go.step (fun _ q_ => XS.pop h hx rfl hd rfl hc q_) H
theorem gs.dup2 {x y : Value} (h : At T m c below) (hx : p.tables.exec = Jvm.exec) (hd : decode c.code pc = .ok (.dup2, 1)) (hc : x.category = 1) (hc' : y.category = 1) (H : Go p e below R (T.setTop (mkF m (pc + 1) Ls (x :: y :: x :: y :: rest)))) : Go p e below R (T.setTop (mkF m pc Ls (x :: y :: rest))) := Go.step (fun _ q_ => XT.dup2 h hx rfl hd rfl hc hc' q_) H
theorem gs.goto {o : Int} (q : Nat) (h : At T m c below) (hx : p.tables.exec = Jvm.exec) (hd : decode c.code pc = .ok (.goto o, 3)) (hp : (pc : Int) + o = (q : Int)) (H : Go p e below R (T.setTop (mkF m q Ls rest))) : Go p e below R (T.setTop (mkF m pc Ls rest)) := Go.step (fun _ q_ => XS.goto h hx rfl rfl hd (by rw [hp]; exact Int.natCast_nonneg _) (by rw [hp]; rfl) q_) H
theorem gs.ifYes {cd : ClassFile.Cond} {x : Int32} {o : Int} (q : Nat) (h : At T m c below) (hx : p.tables.exec = Jvm.exec) (hd : decode c.code pc = .ok (.ifCond cd o, 3)) (hc : ifCond.holds cd x = true) (hp : (pc : Int) + o = (q : Int)) (H : Go p e below R (T.setTop (mkF m q Ls rest))) : Go p e below R (T.setTop (mkF m pc Ls (.int x :: rest))) := Go.step (fun _ q_ => XS.ifYes h hx rfl rfl hd rfl hc (by rw [hp]; exact Int.natCast_nonneg _) (by rw [hp]; rfl) q_) H
theorem gs.ifNo {cd : ClassFile.Cond} {x : Int32} {o : Int} (h : At T m c below) (hx : p.tables.exec = Jvm.exec) (hd : decode c.code pc = .ok (.ifCond cd o, 3)) (hc : ifCond.holds cd x = false) (H : Go p e below R (T.setTop (mkF m (pc + 3) Ls rest))) : Go p e below R (T.setTop (mkF m pc Ls (.int x :: rest))) := Go.step (fun _ q_ => XS.ifNo h hx rfl hd rfl hc q_) H
theorem gs.icmpYes {cd : ClassFile.Cond} {x y : Int32} {o : Int} (q : Nat) (h : At T m c below) (hx : p.tables.exec = Jvm.exec) (hd : decode c.code pc = .ok (.if_icmp cd o, 3)) (hc : if_icmp.holds cd x y = true) (hp : (pc : Int) + o = (q : Int)) (H : Go p e below R (T.setTop (mkF m q Ls rest))) : Go p e below R (T.setTop (mkF m pc Ls (.int y :: .int x :: rest))) := Go.step (fun _ q_ => XS.icmpYes h hx rfl rfl hd rfl hc (by rw [hp]; exact Int.natCast_nonneg _) (by rw [hp]; rfl) q_) H
theorem gs.icmpNo {cd : ClassFile.Cond} {x y : Int32} {o : Int} (h : At T m c below) (hx : p.tables.exec = Jvm.exec) (hd : decode c.code pc = .ok (.if_icmp cd o, 3)) (hc : if_icmp.holds cd x y = false) (H : Go p e below R (T.setTop (mkF m (pc + 3) Ls rest))) : Go p e below R (T.setTop (mkF m pc Ls (.int y :: .int x :: rest))) := Go.step (fun _ q_ => XS.icmpNo h hx rfl hd rfl hc q_) H
end GS
section GS2
variable {p : Program} {l : Launch} {e : Env} {Rm : Room} {s : State} {m : MethodId} {args : Array Value} {below : List Frame} {meth : Method} {c : Code} {T : State} {locs : List Loc} {cells slots : Nat} {Z : State} {a0 : Array Value} {h : Heap} {R : State → Outcome → Prop} {pc : Nat} {Ls : Array Slot} {rest : List Value}
theorem gs.getF (X : Stand p l e Rm s m args below meth c T locs cells slots) (hx : p.tables.exec = Jvm.exec) (hZ : Z.Warmed39 s.vm) {own R0 O n d : String} {index : Nat} (hown : s.vm.findClass own = some m.cls) (w : (Cond.fieldLink own index R0 n d).before a0 Z = true) (via : Via Z R0 O n d) (eT : T.heap = h) {a : Addr} {v : Value} (F : Fld Z h a O n d v) (hd : decode c.code pc = .ok (.getfield index, 3)) (H : ∀ T', Stand p l e Rm s m args below meth c T' locs cells slots → T'.heap = h → Go p e below R (T'.setTop (mkF m (pc + 3) Ls (v :: rest)))) : Go p e below R (T.setTop (mkF m pc Ls (.ref a :: rest))) := by
  obtain ⟨T', X', e', k⟩ := Jvm.RoadKit.getF X hx hZ hown (host := "") (Or.inl w) via eT F (g := mkF m pc Ls (.ref a :: rest)) rfl rfl hd
  exact Go.step k (H T' X' e')
theorem gs.getN (X : Stand p l e Rm s m args below meth c T locs cells slots) (hx : p.tables.exec = Jvm.exec) (hZ : Z.Warmed39 s.vm) {own R0 O n d host : String} {index : Nat} (hown : s.vm.findClass own = some m.cls) (w : (Cond.fieldLinkNest own index R0 n d host).before a0 Z = true) (via : Via Z R0 O n d) (eT : T.heap = h) {a : Addr} {v : Value} (F : Fld Z h a O n d v) (hd : decode c.code pc = .ok (.getfield index, 3)) (H : ∀ T', Stand p l e Rm s m args below meth c T' locs cells slots → T'.heap = h → Go p e below R (T'.setTop (mkF m (pc + 3) Ls (v :: rest)))) : Go p e below R (T.setTop (mkF m pc Ls (.ref a :: rest))) := by
  obtain ⟨T', X', e', k⟩ := Jvm.RoadKit.getF X hx hZ hown (Or.inr w) via eT F (g := mkF m pc Ls (.ref a :: rest)) rfl rfl hd
  exact Go.step k (H T' X' e')
end GS2
abbrev y_1 : MethodName := ⟨"com/example/monarc/monarc/InitialDomain", "range", "(II)Lcom/example/monarc/monarc/InitialDomain;"⟩
abbrev y_2 : MethodName := ⟨"com/example/monarc/monarc/InitialDomain", "<init>", "(IJ[I)V"⟩
abbrev y_3 : MethodName := ⟨"java/lang/Object", "<init>", "()V"⟩
abbrev y_4 : MethodName := ⟨"java/util/ArrayList", "<init>", "()V"⟩
abbrev y_5 : MethodName := ⟨"java/util/AbstractList", "<init>", "()V"⟩
abbrev y_6 : MethodName := ⟨"java/util/AbstractCollection", "<init>", "()V"⟩
abbrev y_7 : MethodName := ⟨"com/example/monarc/monarc/Variable", "<init>", "(Ljava/lang/String;ILcom/example/monarc/monarc/InitialDomain;)V"⟩
abbrev y_8 : MethodName := ⟨"com/example/monarc/monarc/Term", "<init>", "()V"⟩
abbrev y_9 : MethodName := ⟨"java/util/ArrayList", "add", "(Ljava/lang/Object;)Z"⟩
abbrev y_10 : MethodName := ⟨"java/util/ArrayList", "add", "(Ljava/lang/Object;[Ljava/lang/Object;I)V"⟩
abbrev y_11 : MethodName := ⟨"java/util/ArrayList", "grow", "()[Ljava/lang/Object;"⟩
abbrev y_12 : MethodName := ⟨"java/util/ArrayList", "grow", "(I)[Ljava/lang/Object;"⟩
abbrev y_13 : MethodName := ⟨"java/lang/Math", "max", "(II)I"⟩
abbrev y_14 : MethodName := ⟨"com/example/monarc/monarc/Domains", "<init>", "(Ljava/util/List;)V"⟩
abbrev y_15 : MethodName := ⟨"java/util/ArrayList", "size", "()I"⟩
abbrev y_16 : MethodName := ⟨"java/util/ArrayList", "get", "(I)Ljava/lang/Object;"⟩
abbrev y_17 : MethodName := ⟨"java/util/Objects", "checkIndex", "(II)I"⟩
abbrev y_18 : MethodName := ⟨"jdk/internal/util/Preconditions", "checkIndex", "(IILjava/util/function/BiFunction;)I"⟩
abbrev y_19 : MethodName := ⟨"java/util/ArrayList", "elementData", "(I)Ljava/lang/Object;"⟩
abbrev y_20 : MethodName := ⟨"com/example/monarc/monarc/Variable", "domain", "()Lcom/example/monarc/monarc/InitialDomain;"⟩
abbrev y_21 : MethodName := ⟨"com/example/monarc/monarc/InitialDomain", "size", "()I"⟩
abbrev y_22 : MethodName := ⟨"com/example/monarc/monarc/Domains", "removeBelow", "(IJ)V"⟩
abbrev y_23 : MethodName := ⟨"com/example/monarc/monarc/InitialDomain", "firstAtLeast", "(J)I"⟩
abbrev y_24 : MethodName := ⟨"java/lang/Math", "min", "(JJ)J"⟩
abbrev y_25 : MethodName := ⟨"java/lang/Math", "max", "(JJ)J"⟩
abbrev y_26 : MethodName := ⟨"com/example/monarc/monarc/Domains", "removeAbove", "(IJ)V"⟩
abbrev y_27 : MethodName := ⟨"com/example/monarc/monarc/InitialDomain", "lastAtMost", "(J)I"⟩
abbrev y_28 : MethodName := ⟨"com/example/monarc/monarc/Domains", "lowerUpper", "(II)V"⟩
abbrev y_29 : MethodName := ⟨"com/example/monarc/monarc/Domains", "leftUpTo", "(II)I"⟩
abbrev y_30 : MethodName := ⟨"com/example/monarc/monarc/Domains", "countNotHoles", "(III)I"⟩
abbrev y_31 : MethodName := ⟨"com/example/monarc/monarc/Domains", "resize", "(II)V"⟩
abbrev y_32 : MethodName := ⟨"com/example/monarc/monarc/Domains", "record", "(III)V"⟩
abbrev y_33 : MethodName := ⟨"com/example/monarc/monarc/Domains", "contains", "(II)Z"⟩
abbrev y_34 : MethodName := ⟨"com/example/monarc/monarc/Domains", "raiseLower", "(II)V"⟩
abbrev y_35 : MethodName := ⟨"com/example/monarc/monarc/Domains", "leftFrom", "(II)I"⟩
abbrev y_36 : MethodName := ⟨"com/example/monarc/monarc/Domains", "remove", "(II)V"⟩
abbrev y_37 : MethodName := ⟨"java/util/Arrays", "fill", "([JJ)V"⟩
theorem i32_is {k : Int32} (z : Int32) (h : k.toInt = z.toInt) : k = z := Int32.toInt_inj.mp h
theorem rem_bd (x m : Int32) (hm : 0 < m.toInt) : 0 ≤ ((x &&& (2147483647 : Int32)) % m).toInt ∧ ((x &&& (2147483647 : Int32)) % m).toInt < m.toInt := by
  have e1 : (x &&& (2147483647 : Int32)).toInt = x.toInt % 2 ^ 31 := Jvm.Kit.i32_mask x 2147483647 (k := 31) (by decide) (by decide)
  have h0 : 0 ≤ (x &&& (2147483647 : Int32)).toInt := by rw [e1]; exact Int.emod_nonneg _ (by decide)
  rw [Jvm.Kit.i32_rem_nonneg h0]
  exact ⟨Int.emod_nonneg _ (by omega), Int.emod_lt_of_pos _ hm⟩

theorem lw_of_lt {x y : Int64} (h : x < y) : lcmpW x y = -1 := by
  have h1 : ¬ x > y := by show ¬ y < x; rw [Int64.lt_iff_toInt_lt] at h ⊢; omega
  have h2 : ¬ x = y := by intro q; subst q; rw [Int64.lt_iff_toInt_lt] at h; omega
  show (if x > y then (1 : Int32) else if x = y then 0 else -1) = -1
  rw [if_neg h1, if_neg h2]
theorem lw_of_gt {x y : Int64} (h : y < x) : lcmpW x y = 1 := by
  show (if x > y then (1 : Int32) else if x = y then 0 else -1) = 1
  rw [if_pos h]
theorem lw_of_eq {x y : Int64} (h : x = y) : lcmpW x y = 0 := by
  subst h
  have h1 : ¬ x > x := by show ¬ x < x; rw [Int64.lt_iff_toInt_lt]; omega
  show (if x > x then (1 : Int32) else if x = x then 0 else -1) = 0
  rw [if_neg h1, if_pos rfl]
theorem tri (x y : Int64) : x < y ∨ x = y ∨ y < x := by
  rcases Int.lt_trichotomy x.toInt y.toInt with h | h | h
  · exact Or.inl (Int64.lt_iff_toInt_lt.mpr h)
  · exact Or.inr (Or.inl (Int64.toInt_inj.mp h))
  · exact Or.inr (Or.inr (Int64.lt_iff_toInt_lt.mpr h))
theorem eq_ref {args : Array Value} {s : State} {t u : Term} {b : Addr} (h : (Jvm.Cond.eq t u).value args s none s [] = some true) (hu : u.eval args s none [] s = some (.ref b)) : t.eval args s none [] s = some (.ref b) := by
  simp only [Cond.value, hu] at h
  cases e : t.eval args s none [] s with
  | none => simp [e] at h
  | some v => cases v <;> simp_all
theorem len_start {args : Array Value} {s : State} {t : Term} {a : Addr} {cl : Cell} {ty : FieldType} {z : Int32} (A : Arr s s.heap a cl ty) (ev : t.eval args s none [] s = some (.ref a)) (h : (Term.length t).eval args s none [] s = some (.int z)) : cl.slots.size < 2 ^ 31 ∧ cl.slots.size.toInt32 = z := by
  have ha := Arr.fin (Vm.Alike.refl s.vm) A
  have h' : (if cl.slots.size < 2147483648 then some (Value.int cl.slots.size.toInt32) else none) = some (Value.int z) := by simpa [Term.eval, ev, ha] using h
  by_cases q : cl.slots.size < 2147483648
  · rw [if_pos q] at h'; exact ⟨q, by simpa using h'⟩
  · rw [if_neg q] at h'; cases h'
theorem elem_start {args : Array Value} {s : State} {t : Term} {a b : Addr} {cl : Cell} {ty : FieldType} {j : Int32} {n : Nat} (A : Arr s s.heap a cl ty) (ev : t.eval args s none [] s = some (.ref a)) (h : (Term.elem t (.int j)).eval args s none [] s = some (.ref b)) (hj : ¬ j < 0 ∧ j.toNatClampNeg = n) : cl.slots[n]? = some (.ref b) := by
  have ha := Arr.fin (Vm.Alike.refl s.vm) A
  have q := elem_f (a := .int j) ev (Term.int_eval j) ha hj.1
  rw [hj.2] at q
  exact q.symm.trans h
def Wd (Z : State) (a_EMPTY_ELEMENTDATA : Addr) (aw0 : Addr) (ka_EMPTY_ELEMENTDATA : ClassId) (kaw0 : ClassId) : Prop := (Exa Z Z.heap a_EMPTY_ELEMENTDATA "[Ljava/lang/Object;") ∧ (Sta Z Z.heap "java/util/ArrayList" "EMPTY_ELEMENTDATA" "[Ljava/lang/Object;" (.ref a_EMPTY_ELEMENTDATA)) ∧ (Exa Z Z.heap aw0 "[Ljava/lang/Object;") ∧ (Sta Z Z.heap "java/util/ArrayList" "DEFAULTCAPACITY_EMPTY_ELEMENTDATA" "[Ljava/lang/Object;" (.ref aw0)) ∧ (Arv Z Z.heap a_EMPTY_ELEMENTDATA ka_EMPTY_ELEMENTDATA (.object "java/lang/Object") (0 : Int32) [] .null) ∧ (Arv Z Z.heap aw0 kaw0 (.object "java/lang/Object") (0 : Int32) [] .null)
theorem wS_all {a0 : Array Value} {Z : State} (hw : ∀ d ∈ tables_1, d.before a0 Z = true) : ∀ a ∈ Bundle.stringAtoms, a.before a0 Z = true := fun a ha => hw a ((by decide +kernel : ∀ a ∈ Bundle.stringAtoms, a ∈ tables_1) a ha)
def mxI (x y : Int32) : Int32 := if x < y then y else x
def mnI (x y : Int32) : Int32 := if y < x then y else x
def mxL (x y : Int64) : Int64 := if lcmpW x y < (0 : Int32) then y else x
def mnL (x y : Int64) : Int64 := if (0 : Int32) < lcmpW x y then y else x
theorem mxI_toInt (x y : Int32) : (mxI x y).toInt = max x.toInt y.toInt := by
  unfold mxI; split <;> rename_i h <;> rw [Int32.lt_iff_toInt_lt] at h <;> omega
theorem mxL_toInt (x y : Int64) : (mxL x y).toInt = max x.toInt y.toInt := by
  unfold mxL; split <;> rename_i h <;> rw [lw_lt, Int64.lt_iff_toInt_lt] at h <;> omega
theorem mnL_toInt (x y : Int64) : (mnL x y).toInt = min x.toInt y.toInt := by
  unfold mnL; split <;> rename_i h <;> rw [lw_gt, Int64.lt_iff_toInt_lt] at h <;> omega
theorem d13_0 : decode jdk_29_method_65_code 0 = .ok (.iload_n 0, 1) := by decide +kernel
theorem d13_1 : decode jdk_29_method_65_code 1 = .ok (.iload_n 1, 1) := by decide +kernel
theorem d13_2 : decode jdk_29_method_65_code 2 = .ok (.if_icmp .lt 7, 3) := by decide +kernel
theorem d13_9 : decode jdk_29_method_65_code 9 = .ok (.iload_n 1, 1) := by decide +kernel
theorem d13_10 : decode jdk_29_method_65_code 10 = .ok (.ireturn, 1) := by decide +kernel
theorem d13_5 : decode jdk_29_method_65_code 5 = .ok (.iload_n 0, 1) := by decide +kernel
theorem d13_6 : decode jdk_29_method_65_code 6 = .ok (.goto 4, 3) := by decide +kernel
theorem ef_rm13 (m : MethodId) (x0 : Int32) (x1 : Int32)  : entryFrame m #[(.int x0), (.int x1)] 2 = mkF m 0 #[.val (.int x0), .val (.int x1)] [] := by first | (simp [entryFrame, mkF, argsToLocals, Value.category]; done) | rfl
def Q_rm13 (Z : State) (a_EMPTY_ELEMENTDATA : Addr) (aw0 : Addr) (ka_EMPTY_ELEMENTDATA : ClassId) (kaw0 : ClassId) (u1 : Int32) (u2 : Int32) (res : Int32) (h0 : Heap) (n0 : Nat) (v : Option Value) (h : Heap) (L : List Loc) : Prop := v = some (.int res) ∧ Fr n0 L ∧ h = h0
set_option maxRecDepth 65536 in
set_option maxHeartbeats 40000000 in
theorem rm13 (l : Launch) (Z : State) (a0 : Array Value) (hw : ∀ d ∈ tables_1, d.before a0 Z = true) (ws : List Jvm.Cond) (a_EMPTY_ELEMENTDATA : Addr) (aw0 : Addr) (ka_EMPTY_ELEMENTDATA : ClassId) (kaw0 : ClassId) (HW : Wd Z a_EMPTY_ELEMENTDATA aw0 ka_EMPTY_ELEMENTDATA kaw0) (u1 : Int32) (u2 : Int32) (res : Int32) (h0 : Heap) (n0 : Nat) (Ol : Old Z n0 h0)  (hres : (if u1 < u2 then u2 else u1) = res) :
    MetFree l y_13 (head1 (Jvm.Cond.code y_13 jdk_29_method_65_code 2 (some .int) :: ws) ({ frames := 0, cells := 0, slots := 0, locals := 0 } : Room)) (fun a_ U_ => a_ = #[(.int u1), (.int u2)] ∧ Z.Warmed39 U_.vm ∧ U_.heap = h0) (fun _ _ _ _ _ => True) (fun _ U_ o_ V_ => ∃ v_ L_, o_ = .returned v_ ∧ Q_rm13 Z a_EMPTY_ELEMENTDATA aw0 ka_EMPTY_ELEMENTDATA kaw0 u1 u2 res h0 n0 v_ V_.heap L_ ∧ FrameEnd U_ o_ V_ L_ ({ frames := 0, cells := 0, slots := 0, locals := 0 } : Room).cells ({ frames := 0, cells := 0, slots := 0, locals := 0 } : Room).slots) := by
  refine MetFree.of_bodySF (Jvm.Free.JP.mathPlain rfl (by decide +kernel)) hisR ?_
  intro p e s m args below meth c s₁ Bd hml0 hP hK
  obtain ⟨rfl, hZ, hh⟩ := hP
  have hx := Bd.exec
  have hby := Bd.bytes
  have hml : c.maxLocals = 2 := hml0
  have hown : s.vm.findClass "java/lang/Math" = some m.cls := findClass_of_methodNamed Bd.named
  have hnm := (name_of_methodNamed Bd.named Bd.method).1
  have X0 : Stand p l e ({ frames := 0, cells := 0, slots := 0, locals := 0 } : Room) s m #[(.int u1), (.int u2)] below meth c s₁ [] 0 0 := Stand.of_body Bd
  have e0 : s₁.heap = h0 := by rw [← hh, Bd.state]; rfl
  have N0 := Fr.nil n0
  have kp0 := Keep.refl h0 []
  show Go p e below (Fin1 s below (Q_rm13 Z a_EMPTY_ELEMENTDATA aw0 ka_EMPTY_ELEMENTDATA kaw0 u1 u2 res h0 n0) ({ frames := 0, cells := 0, slots := 0, locals := 0 } : Room).cells ({ frames := 0, cells := 0, slots := 0, locals := 0 } : Room).slots) _
  refine Go.step (fun t_ k_ => castTop (ef_rm13 m u1 u2) k_) ?_
  obtain ⟨Ea_EMPTY_ELEMENTDATA, Sa_EMPTY_ELEMENTDATA, Eaw0, Saw0, Aa_EMPTY_ELEMENTDATA, Aaw0⟩ := id HW
  show Go p e below _ (s₁.setTop (mkF m 0 #[.val (.int u1), .val (.int u2)] []))
  refine gs.iloadN X0.here hx (hb hby d13_0) rfl ?_
  refine gs.iloadN X0.here hx (hb hby d13_1) rfl ?_
  by_cases hc2 : u1 < u2
  case pos =>
    refine gs.icmpYes 9 X0.here hx (hb hby d13_2) (tlt hc2).1 rfl ?_
    refine gs.iloadN X0.here hx (hb hby d13_9) rfl ?_
    refine Go.retI X0 hx Bd.returns Bd.notSynchronized (hb hby d13_10) (by rw [e0]; exact ⟨by first | (rw [← hres]; done) | (rw [← hres]; simp [if_pos hc2]; done) | (rw [← hres]; simp [hc2]; done) | (rw [← hres]; simp_all; done), N0, rfl⟩) (by decide) (by decide)
  case neg =>
    refine gs.icmpNo X0.here hx (hb hby d13_2) (flt hc2).1 ?_
    refine gs.iloadN X0.here hx (hb hby d13_5) rfl ?_
    refine gs.goto 10 X0.here hx (hb hby d13_6) rfl ?_
    refine Go.retI X0 hx Bd.returns Bd.notSynchronized (hb hby d13_10) (by rw [e0]; exact ⟨by first | (rw [← hres]; done) | (rw [← hres]; simp [if_neg hc2]; done) | (rw [← hres]; simp [hc2]; done) | (rw [← hres]; simp_all; done), N0, rfl⟩) (by decide) (by decide)
theorem d25_0 : decode jdk_29_method_66_code 0 = .ok (.lload_n 0, 1) := by decide +kernel
theorem d25_1 : decode jdk_29_method_66_code 1 = .ok (.lload_n 2, 1) := by decide +kernel
theorem d25_2 : decode jdk_29_method_66_code 2 = .ok (.lcmp, 1) := by decide +kernel
theorem d25_3 : decode jdk_29_method_66_code 3 = .ok (.ifCond .lt 7, 3) := by decide +kernel
theorem d25_10 : decode jdk_29_method_66_code 10 = .ok (.lload_n 2, 1) := by decide +kernel
theorem d25_11 : decode jdk_29_method_66_code 11 = .ok (.lreturn, 1) := by decide +kernel
theorem d25_6 : decode jdk_29_method_66_code 6 = .ok (.lload_n 0, 1) := by decide +kernel
theorem d25_7 : decode jdk_29_method_66_code 7 = .ok (.goto 4, 3) := by decide +kernel
theorem ef_rm25 (m : MethodId) (x0 : Int64) (x1 : Int64)  : entryFrame m #[(.long x0), (.long x1)] 4 = mkF m 0 #[.val (.long x0), .second, .val (.long x1), .second] [] := by first | (simp [entryFrame, mkF, argsToLocals, Value.category]; done) | rfl
def Q_rm25 (Z : State) (a_EMPTY_ELEMENTDATA : Addr) (aw0 : Addr) (ka_EMPTY_ELEMENTDATA : ClassId) (kaw0 : ClassId) (u1 : Int64) (u2 : Int64) (res : Int64) (h0 : Heap) (n0 : Nat) (v : Option Value) (h : Heap) (L : List Loc) : Prop := v = some (.long res) ∧ Fr n0 L ∧ h = h0
set_option maxRecDepth 65536 in
set_option maxHeartbeats 40000000 in
theorem rm25 (l : Launch) (Z : State) (a0 : Array Value) (hw : ∀ d ∈ tables_1, d.before a0 Z = true) (ws : List Jvm.Cond) (a_EMPTY_ELEMENTDATA : Addr) (aw0 : Addr) (ka_EMPTY_ELEMENTDATA : ClassId) (kaw0 : ClassId) (HW : Wd Z a_EMPTY_ELEMENTDATA aw0 ka_EMPTY_ELEMENTDATA kaw0) (u1 : Int64) (u2 : Int64) (res : Int64) (h0 : Heap) (n0 : Nat) (Ol : Old Z n0 h0)  (hres : (if lcmpW u1 u2 < (0 : Int32) then u2 else u1) = res) :
    MetFree l y_25 (head1 (Jvm.Cond.code y_25 jdk_29_method_66_code 4 (some .long) :: ws) ({ frames := 0, cells := 0, slots := 0, locals := 0 } : Room)) (fun a_ U_ => a_ = #[(.long u1), (.long u2)] ∧ Z.Warmed39 U_.vm ∧ U_.heap = h0) (fun _ _ _ _ _ => True) (fun _ U_ o_ V_ => ∃ v_ L_, o_ = .returned v_ ∧ Q_rm25 Z a_EMPTY_ELEMENTDATA aw0 ka_EMPTY_ELEMENTDATA kaw0 u1 u2 res h0 n0 v_ V_.heap L_ ∧ FrameEnd U_ o_ V_ L_ ({ frames := 0, cells := 0, slots := 0, locals := 0 } : Room).cells ({ frames := 0, cells := 0, slots := 0, locals := 0 } : Room).slots) := by
  refine MetFree.of_bodySF (Jvm.Free.JP.mathPlain rfl (by decide +kernel)) hisR ?_
  intro p e s m args below meth c s₁ Bd hml0 hP hK
  obtain ⟨rfl, hZ, hh⟩ := hP
  have hx := Bd.exec
  have hby := Bd.bytes
  have hml : c.maxLocals = 4 := hml0
  have hown : s.vm.findClass "java/lang/Math" = some m.cls := findClass_of_methodNamed Bd.named
  have hnm := (name_of_methodNamed Bd.named Bd.method).1
  have X0 : Stand p l e ({ frames := 0, cells := 0, slots := 0, locals := 0 } : Room) s m #[(.long u1), (.long u2)] below meth c s₁ [] 0 0 := Stand.of_body Bd
  have e0 : s₁.heap = h0 := by rw [← hh, Bd.state]; rfl
  have N0 := Fr.nil n0
  have kp0 := Keep.refl h0 []
  show Go p e below (Fin1 s below (Q_rm25 Z a_EMPTY_ELEMENTDATA aw0 ka_EMPTY_ELEMENTDATA kaw0 u1 u2 res h0 n0) ({ frames := 0, cells := 0, slots := 0, locals := 0 } : Room).cells ({ frames := 0, cells := 0, slots := 0, locals := 0 } : Room).slots) _
  refine Go.step (fun t_ k_ => castTop (ef_rm25 m u1 u2) k_) ?_
  obtain ⟨Ea_EMPTY_ELEMENTDATA, Sa_EMPTY_ELEMENTDATA, Eaw0, Saw0, Aa_EMPTY_ELEMENTDATA, Aaw0⟩ := id HW
  show Go p e below _ (s₁.setTop (mkF m 0 #[.val (.long u1), .second, .val (.long u2), .second] []))
  refine gs.lloadN X0.here hx (hb hby d25_0) rfl ?_
  refine gs.lloadN X0.here hx (hb hby d25_1) rfl ?_
  refine Go.step (fun t_ k_ => XS.lcmp X0.here hx rfl (hb hby d25_2) rfl k_) ?_
  show Go p e below _ (s₁.setTop (mkF m 3 #[.val (.long u1), .second, .val (.long u2), .second] [(.int (lcmpW u1 u2))]))
  by_cases hc3 : (lcmpW u1 u2) < (0 : Int32)
  case pos =>
    refine gs.ifYes 10 X0.here hx (hb hby d25_3) ((if0 _ _).trans (tlt hc3).1) rfl ?_
    refine gs.lloadN X0.here hx (hb hby d25_10) rfl ?_
    refine Go.retJ X0 hx Bd.returns Bd.notSynchronized (hb hby d25_11) (by rw [e0]; exact ⟨by first | (rw [← hres]; done) | (rw [← hres]; simp [if_pos hc3]; done) | (rw [← hres]; simp [hc3]; done) | (rw [← hres]; simp_all; done), N0, rfl⟩) (by decide) (by decide)
  case neg =>
    refine gs.ifNo X0.here hx (hb hby d25_3) ((if0 _ _).trans (flt hc3).1) ?_
    refine gs.lloadN X0.here hx (hb hby d25_6) rfl ?_
    refine gs.goto 11 X0.here hx (hb hby d25_7) rfl ?_
    refine Go.retJ X0 hx Bd.returns Bd.notSynchronized (hb hby d25_11) (by rw [e0]; exact ⟨by first | (rw [← hres]; done) | (rw [← hres]; simp [if_neg hc3]; done) | (rw [← hres]; simp [hc3]; done) | (rw [← hres]; simp_all; done), N0, rfl⟩) (by decide) (by decide)
theorem d24_0 : decode jdk_29_method_70_code 0 = .ok (.lload_n 0, 1) := by decide +kernel
theorem d24_1 : decode jdk_29_method_70_code 1 = .ok (.lload_n 2, 1) := by decide +kernel
theorem d24_2 : decode jdk_29_method_70_code 2 = .ok (.lcmp, 1) := by decide +kernel
theorem d24_3 : decode jdk_29_method_70_code 3 = .ok (.ifCond .gt 7, 3) := by decide +kernel
theorem d24_10 : decode jdk_29_method_70_code 10 = .ok (.lload_n 2, 1) := by decide +kernel
theorem d24_11 : decode jdk_29_method_70_code 11 = .ok (.lreturn, 1) := by decide +kernel
theorem d24_6 : decode jdk_29_method_70_code 6 = .ok (.lload_n 0, 1) := by decide +kernel
theorem d24_7 : decode jdk_29_method_70_code 7 = .ok (.goto 4, 3) := by decide +kernel
theorem ef_rm24 (m : MethodId) (x0 : Int64) (x1 : Int64)  : entryFrame m #[(.long x0), (.long x1)] 4 = mkF m 0 #[.val (.long x0), .second, .val (.long x1), .second] [] := by first | (simp [entryFrame, mkF, argsToLocals, Value.category]; done) | rfl
def Q_rm24 (Z : State) (a_EMPTY_ELEMENTDATA : Addr) (aw0 : Addr) (ka_EMPTY_ELEMENTDATA : ClassId) (kaw0 : ClassId) (u1 : Int64) (u2 : Int64) (res : Int64) (h0 : Heap) (n0 : Nat) (v : Option Value) (h : Heap) (L : List Loc) : Prop := v = some (.long res) ∧ Fr n0 L ∧ h = h0
set_option maxRecDepth 65536 in
set_option maxHeartbeats 40000000 in
theorem rm24 (l : Launch) (Z : State) (a0 : Array Value) (hw : ∀ d ∈ tables_1, d.before a0 Z = true) (ws : List Jvm.Cond) (a_EMPTY_ELEMENTDATA : Addr) (aw0 : Addr) (ka_EMPTY_ELEMENTDATA : ClassId) (kaw0 : ClassId) (HW : Wd Z a_EMPTY_ELEMENTDATA aw0 ka_EMPTY_ELEMENTDATA kaw0) (u1 : Int64) (u2 : Int64) (res : Int64) (h0 : Heap) (n0 : Nat) (Ol : Old Z n0 h0)  (hres : (if (0 : Int32) < lcmpW u1 u2 then u2 else u1) = res) :
    MetFree l y_24 (head1 (Jvm.Cond.code y_24 jdk_29_method_70_code 4 (some .long) :: ws) ({ frames := 0, cells := 0, slots := 0, locals := 0 } : Room)) (fun a_ U_ => a_ = #[(.long u1), (.long u2)] ∧ Z.Warmed39 U_.vm ∧ U_.heap = h0) (fun _ _ _ _ _ => True) (fun _ U_ o_ V_ => ∃ v_ L_, o_ = .returned v_ ∧ Q_rm24 Z a_EMPTY_ELEMENTDATA aw0 ka_EMPTY_ELEMENTDATA kaw0 u1 u2 res h0 n0 v_ V_.heap L_ ∧ FrameEnd U_ o_ V_ L_ ({ frames := 0, cells := 0, slots := 0, locals := 0 } : Room).cells ({ frames := 0, cells := 0, slots := 0, locals := 0 } : Room).slots) := by
  refine MetFree.of_bodySF (Jvm.Free.JP.mathPlain rfl (by decide +kernel)) hisR ?_
  intro p e s m args below meth c s₁ Bd hml0 hP hK
  obtain ⟨rfl, hZ, hh⟩ := hP
  have hx := Bd.exec
  have hby := Bd.bytes
  have hml : c.maxLocals = 4 := hml0
  have hown : s.vm.findClass "java/lang/Math" = some m.cls := findClass_of_methodNamed Bd.named
  have hnm := (name_of_methodNamed Bd.named Bd.method).1
  have X0 : Stand p l e ({ frames := 0, cells := 0, slots := 0, locals := 0 } : Room) s m #[(.long u1), (.long u2)] below meth c s₁ [] 0 0 := Stand.of_body Bd
  have e0 : s₁.heap = h0 := by rw [← hh, Bd.state]; rfl
  have N0 := Fr.nil n0
  have kp0 := Keep.refl h0 []
  show Go p e below (Fin1 s below (Q_rm24 Z a_EMPTY_ELEMENTDATA aw0 ka_EMPTY_ELEMENTDATA kaw0 u1 u2 res h0 n0) ({ frames := 0, cells := 0, slots := 0, locals := 0 } : Room).cells ({ frames := 0, cells := 0, slots := 0, locals := 0 } : Room).slots) _
  refine Go.step (fun t_ k_ => castTop (ef_rm24 m u1 u2) k_) ?_
  obtain ⟨Ea_EMPTY_ELEMENTDATA, Sa_EMPTY_ELEMENTDATA, Eaw0, Saw0, Aa_EMPTY_ELEMENTDATA, Aaw0⟩ := id HW
  show Go p e below _ (s₁.setTop (mkF m 0 #[.val (.long u1), .second, .val (.long u2), .second] []))
  refine gs.lloadN X0.here hx (hb hby d24_0) rfl ?_
  refine gs.lloadN X0.here hx (hb hby d24_1) rfl ?_
  refine Go.step (fun t_ k_ => XS.lcmp X0.here hx rfl (hb hby d24_2) rfl k_) ?_
  show Go p e below _ (s₁.setTop (mkF m 3 #[.val (.long u1), .second, .val (.long u2), .second] [(.int (lcmpW u1 u2))]))
  by_cases hc3 : (0 : Int32) < (lcmpW u1 u2)
  case pos =>
    refine gs.ifYes 10 X0.here hx (hb hby d24_3) ((if0 _ _).trans (tlt hc3).2.2.1) rfl ?_
    refine gs.lloadN X0.here hx (hb hby d24_10) rfl ?_
    refine Go.retJ X0 hx Bd.returns Bd.notSynchronized (hb hby d24_11) (by rw [e0]; exact ⟨by first | (rw [← hres]; done) | (rw [← hres]; simp [if_pos hc3]; done) | (rw [← hres]; simp [hc3]; done) | (rw [← hres]; simp_all; done), N0, rfl⟩) (by decide) (by decide)
  case neg =>
    refine gs.ifNo X0.here hx (hb hby d24_3) ((if0 _ _).trans (flt hc3).2.2.1) ?_
    refine gs.lloadN X0.here hx (hb hby d24_6) rfl ?_
    refine gs.goto 11 X0.here hx (hb hby d24_7) rfl ?_
    refine Go.retJ X0 hx Bd.returns Bd.notSynchronized (hb hby d24_11) (by rw [e0]; exact ⟨by first | (rw [← hres]; done) | (rw [← hres]; simp [if_neg hc3]; done) | (rw [← hres]; simp [hc3]; done) | (rw [← hres]; simp_all; done), N0, rfl⟩) (by decide) (by decide)
/-- an array of longs, its components by a function -/
def Arf (Z : State) (h : Heap) (a : Addr) (k : ClassId) (n : Int32) (f : Nat → Int64) : Prop := ∃ c : Cell, Arr Z h a c .long ∧ c.cls = k ∧ c.slots.size = n.toNatClampNeg ∧ ¬ n < 0 ∧ ∀ i, i < c.slots.size → c.slots[i]? = some (.long (f i))
section ArfS
variable {Z : State} {h h' : Heap} {a b : Addr} {k : ClassId} {n j : Int32} {f : Nat → Int64} {ws : List Addr} {sl : Nat} {v : Value}
theorem Arf.lt (F : Arf Z h a k n f) : a < h.size := by obtain ⟨c, A, -⟩ := F; exact A.lt
theorem Arf.ext (F : Arf Z h a k n f) (E : Ext h h') : Arf Z h' a k n f := by obtain ⟨c, A, r⟩ := F; exact ⟨c, A.ext E, r⟩
theorem Arf.other (F : Arf Z h b k n f) (W : Wr h h' a sl v) (q : b ≠ a) : Arf Z h' b k n f := by obtain ⟨c, A, r⟩ := F; exact ⟨c, A.other W q, r⟩
theorem Arf.keep (F : Arf Z h a k n f) (K : Keep h h' ws) (q : a ∉ ws) : Arf Z h' a k n f := by obtain ⟨c, A, r⟩ := F; exact ⟨c, ⟨K.2.1 a c A.1 q, A.2⟩, r⟩
theorem Arf.of_arv (F : Arv Z h a k .long n [] (.long (0 : Int64))) : Arf Z h a k n (fun _ => 0) := by
  obtain ⟨c, A, q, S, N, H, -⟩ := F
  exact ⟨c, A, q, S, N, fun i hi => H i hi⟩
theorem Arf.fn {g : Nat → Int64} (F : Arf Z h a k n f) (e : ∀ i, i < n.toNatClampNeg → f i = g i) : Arf Z h a k n g := by
  obtain ⟨c, A, q, S, N, H⟩ := F
  exact ⟨c, A, q, S, N, fun i hi => by rw [H i hi, e i (S ▸ hi)]⟩
theorem Arf.set {c : Cell} {x : Int64} (A : Arr Z h a c .long) (q : c.cls = k) (S : c.slots.size = n.toNatClampNeg) (N : ¬ n < 0) (H : ∀ i, i < c.slots.size → c.slots[i]? = some (.long (f i))) (W : Wr h h' a j.toNatClampNeg (.long x)) : Arf Z h' a k n (fun i => if i = j.toNatClampNeg then x else f i) := by
  refine ⟨_, A.same W, q, by rw [sz_set]; exact S, N, fun i hi => ?_⟩
  rw [sz_set] at hi
  by_cases u : i = j.toNatClampNeg
  · subst u; simp [Cell.setSlot, hi]
  · simp only [Cell.setSlot, if_neg u]; rw [Array.getElem?_setIfInBounds_ne (Ne.symm u)]; exact H i hi
end ArfS
theorem inb_int {j z : Int32} (h : 0 ≤ j.toInt ∧ j.toInt < z.toInt) : ¬ j < 0 ∧ j < z := by
  have e0 : (0 : Int32).toInt = 0 := rfl
  rw [Int32.lt_iff_toInt_lt, Int32.lt_iff_toInt_lt]; omega
theorem lt_of_in {c : Cell} {j : Int32} (q : ¬ (j < 0 ∨ c.slots.size ≤ j.toNatClampNeg)) : j.toNatClampNeg < c.slots.size := Nat.lt_of_not_le fun y => q (Or.inr y)
theorem Arf.of_list {Z : State} {h : Heap} {a : Addr} {k : ClassId} {n : Int32} {vs : List Value} {dv : Value} {f : Nat → Int64} (F : Arv Z h a k .long n vs dv) (e : ∀ i, i < n.toNatClampNeg → vs.getD i dv = .long (f i)) : Arf Z h a k n f := by
  obtain ⟨c, A, q, S, N, H, -⟩ := F
  exact ⟨c, A, q, S, N, fun i hi => by rw [H i hi, e i (S ▸ hi)]⟩
theorem e32 (x : Int32) : ((x.toInt64).toInt32) = x := Int32.toInt_inj.mp (by
  have h1 := x.toInt_lt
  have h2 := x.le_toInt
  have e := Jvm.Kit.i64_of_i32 x
  rw [Jvm.Kit.i32_of_i64 (by omega) (by omega), e])
theorem fal_in {b : Int64} (h0 : 0 ≤ b.toInt) (h1 : b.toInt ≤ 200) : ((mnL (200 : Int64) (mxL (0 : Int64) ((mxL (-2147483648 : Int64) (mnL b (2147483648 : Int64))) - (0 : Int64)))).toInt32) = (b.toInt32) := by
  refine congrArg Int64.toInt32 (Int64.toInt_inj.mp ?_)
  have o1 : (200 : Int64).toInt = 200 := rfl
  have o2 : (0 : Int64).toInt = 0 := rfl
  have o3 : (-2147483648 : Int64).toInt = -2147483648 := rfl
  have o4 : (2147483648 : Int64).toInt = 2147483648 := rfl
  have m1 := mnL_toInt b (2147483648 : Int64)
  have m2 := mxL_toInt (-2147483648 : Int64) (mnL b (2147483648 : Int64))
  have m3 := Jvm.Kit.i64_sub (x := mxL (-2147483648 : Int64) (mnL b (2147483648 : Int64))) (y := (0 : Int64)) (by omega) (by omega)
  rw [mnL_toInt, mxL_toInt]; omega
theorem lam_in {b : Int64} (h0 : 0 ≤ b.toInt) (h1 : b.toInt ≤ 199) : (((mnL (200 : Int64) (mxL (0 : Int64) ((mxL (-2147483648 : Int64) (mnL ((mnL b (2147483647 : Int64)) + (1 : Int64)) (2147483648 : Int64))) - (0 : Int64)))).toInt32) - (1 : Int32)) = (b.toInt32) := by
  have o1 : (1 : Int64).toInt = 1 := rfl
  have o2 : (2147483647 : Int64).toInt = 2147483647 := rfl
  have o3 : (1 : Int32).toInt = 1 := rfl
  have m1 := mnL_toInt b (2147483647 : Int64)
  have m2 := Jvm.Kit.i64_add (x := mnL b (2147483647 : Int64)) (y := (1 : Int64)) (by omega) (by omega)
  rw [fal_in (by omega) (by omega)]
  refine Int32.toInt_inj.mp ?_
  have m3 := Jvm.Kit.i32_of_i64 (x := (mnL b (2147483647 : Int64)) + (1 : Int64)) (by omega) (by omega)
  have m4 := Jvm.Kit.i32_of_i64 (x := b) (by omega) (by omega)
  rw [Jvm.Kit.i32_sub (by omega) (by omega)]; omega
theorem a63 (x : Int32) : 0 ≤ (x &&& (63 : Int32)).toInt ∧ (x &&& (63 : Int32)).toInt < 64 := by
  have e1 : (x &&& (63 : Int32)).toInt = x.toInt % 2 ^ 6 := Jvm.Kit.i32_mask x 63 (k := 6) (by decide) (by decide)
  omega
theorem up_bd (x : Int32) : 136 ≤ ((199 : Int32) - (x &&& (63 : Int32))).toInt ∧ ((199 : Int32) - (x &&& (63 : Int32))).toInt ≤ 199 := by
  have h := a63 x
  have o : (199 : Int32).toInt = 199 := rfl
  rw [Jvm.Kit.i32_sub (by omega) (by omega)]; omega
theorem dv_eq {lo up : Int32} (hl : 0 ≤ lo.toInt ∧ lo.toInt < 64) (hu : 136 ≤ up.toInt ∧ up.toInt ≤ 199) : ((up - lo) - (1 : Int32)).toInt = up.toInt - lo.toInt - 1 := by
  have o : (1 : Int32).toInt = 1 := rfl
  have e1 := Jvm.Kit.i32_sub (p := up) (q := lo) (by omega) (by omega)
  rw [Jvm.Kit.i32_sub (by omega) (by omega), e1, o]
theorem dv_ne {lo up : Int32} (hl : 0 ≤ lo.toInt ∧ lo.toInt < 64) (hu : 136 ≤ up.toInt ∧ up.toInt ≤ 199) : ((up - lo) - (1 : Int32)) ≠ 0 := fun q => by
  have e := dv_eq hl hu
  rw [q] at e
  have o : (0 : Int32).toInt = 0 := rfl
  omega
theorem hv_bd {lo up : Int32} (x : Int32) (hl : 0 ≤ lo.toInt ∧ lo.toInt < 64) (hu : 136 ≤ up.toInt ∧ up.toInt ≤ 199) : lo.toInt < ((lo + (1 : Int32)) + ((x &&& (2147483647 : Int32)) % ((up - lo) - (1 : Int32)))).toInt ∧ ((lo + (1 : Int32)) + ((x &&& (2147483647 : Int32)) % ((up - lo) - (1 : Int32)))).toInt < up.toInt := by
  have e := dv_eq hl hu
  have o : (1 : Int32).toInt = 1 := rfl
  have r := rem_bd x ((up - lo) - (1 : Int32)) (by omega)
  have e1 := Jvm.Kit.i32_add (p := lo) (q := (1 : Int32)) (by omega) (by omega)
  rw [Jvm.Kit.i32_add (by omega) (by omega), e1]; omega
theorem i_lt {x y : Int32} (h : x.toInt < y.toInt) : x < y := Int32.lt_iff_toInt_lt.mpr h
theorem i_nlt {x y : Int32} (h : ¬ x.toInt < y.toInt) : ¬ x < y := fun q => h (Int32.lt_iff_toInt_lt.mp q)
theorem i_ge {x y : Int32} (h : ¬ x < y) : y.toInt ≤ x.toInt := Int.not_lt.mp fun q => h (i_lt q)
theorem i_ne {x y : Int32} (h : ¬ x.toInt = y.toInt) : ¬ x = y := fun q => h (congrArg Int32.toInt q)
theorem mx_id {x : Int32} (h : 0 ≤ x.toInt) : (mxI (0 : Int32) (x - (0 : Int32))) = x := by
  have o : (0 : Int32).toInt = 0 := rfl
  have a := x.toInt_lt
  have e := Jvm.Kit.i32_sub (p := x) (q := (0 : Int32)) (by omega) (by omega)
  refine Int32.toInt_inj.mp ?_
  rw [mxI_toInt, e]; omega
theorem ix_eq {x : Int32} (h : 0 ≤ x.toInt) : (((x.toUInt32 >>> ((6 : Int32) &&& 31).toUInt32).toInt32)).toInt = x.toInt / 64 := Jvm.Kit.i32_iushr (Jvm.Kit.i32_nonneg.mpr h) (by decide) (by decide) (k := 6)
theorem ix_bd {x : Int32} (h : 0 ≤ x.toInt) (h2 : x.toInt ≤ 199) : 0 ≤ (((x.toUInt32 >>> ((6 : Int32) &&& 31).toUInt32).toInt32)).toInt ∧ (((x.toUInt32 >>> ((6 : Int32) &&& 31).toUInt32).toInt32)).toInt < ((4 : Int32)).toInt := by
  have o : (4 : Int32).toInt = 4 := rfl
  rw [ix_eq h]; omega
theorem bit_v (x : Int32) : ∃ n : Nat, n < 64 ∧ (n : Int) = x.toInt % 64 ∧ ((1 : Int64) <<< (x &&& 0x3f).toInt64).toBitVec = BitVec.twoPow 64 n := by
  have a := a63 x
  have e1 : (x &&& (63 : Int32)).toInt = x.toInt % 2 ^ 6 := Jvm.Kit.i32_mask x 63 (k := 6) (by decide) (by decide)
  have e2 := Jvm.Kit.i64_of_i32 (x &&& (63 : Int32))
  have d : ∀ n : Nat, n < 64 → (Int64.ofNat n).toInt = n ∧ ((1 : Int64) <<< (Int64.ofNat n)).toBitVec = BitVec.twoPow 64 n := by decide +kernel
  refine ⟨(x.toInt % 64).toNat, by omega, by omega, ?_⟩
  have d1 := d (x.toInt % 64).toNat (by omega)
  have q : (x &&& 0x3f).toInt64 = Int64.ofNat (x.toInt % 64).toNat := Int64.toInt_inj.mp (by rw [d1.1]; exact (e2.trans e1).trans (by omega))
  rw [q]; exact d1.2
theorem bit_off (b : Int64) : ((-1 : Int64) &&& (b ^^^ (-1 : Int64))) &&& b = 0 := by
  apply Int64.toBitVec.inj
  apply BitVec.eq_of_getLsbD_eq
  intro i hi
  have o : (-1 : Int64).toBitVec = BitVec.allOnes 64 := by decide
  have z : (0 : Int64).toBitVec = 0#64 := by decide
  rw [Int64.toBitVec_and, Int64.toBitVec_and, Int64.toBitVec_xor, o, z]
  simp only [BitVec.getLsbD_and, BitVec.getLsbD_xor, BitVec.getLsbD_allOnes, hi, BitVec.getLsbD_zero]
  cases b.toBitVec.getLsbD i <;> rfl
theorem bit_eq {pq hv : Int32} (h : pq = hv) (h0 : 0 ≤ hv.toInt) : (lcmpW (((fun i => if i = (((hv.toUInt32 >>> ((6 : Int32) &&& 31).toUInt32).toInt32)).toNatClampNeg then ((-1 : Int64) &&& (((1 : Int64) <<< (hv &&& 0x3f).toInt64) ^^^ (-1 : Int64))) else (fun _ => (-1 : Int64)) i) (((pq.toUInt32 >>> ((6 : Int32) &&& 31).toUInt32).toInt32)).toNatClampNeg) &&& ((1 : Int64) <<< (pq &&& 0x3f).toInt64)) (0 : Int64)) = (0 : Int32) := by
  subst h
  refine lw_of_eq ?_
  simp only [if_true]
  exact bit_off _
theorem bit_ne {pq hv : Int32} (h : ¬ pq = hv) (h1 : 0 ≤ pq.toInt) (h0 : 0 ≤ hv.toInt) : ¬ ((lcmpW (((fun i => if i = (((hv.toUInt32 >>> ((6 : Int32) &&& 31).toUInt32).toInt32)).toNatClampNeg then ((-1 : Int64) &&& (((1 : Int64) <<< (hv &&& 0x3f).toInt64) ^^^ (-1 : Int64))) else (fun _ => (-1 : Int64)) i) (((pq.toUInt32 >>> ((6 : Int32) &&& 31).toUInt32).toInt32)).toNatClampNeg) &&& ((1 : Int64) <<< (pq &&& 0x3f).toInt64)) (0 : Int64)) = (0 : Int32)) := by
  obtain ⟨n, hn, en, bn⟩ := bit_v pq
  obtain ⟨k, hk, ek, bk⟩ := bit_v hv
  have ip := ix_eq h1
  have ih := ix_eq h0
  intro q
  have q' := (lw_eq _ _).mp q
  have o : (-1 : Int64).toBitVec = BitVec.allOnes 64 := by decide
  have z : (0 : Int64).toBitVec = 0#64 := by decide
  by_cases c : (((pq.toUInt32 >>> ((6 : Int32) &&& 31).toUInt32).toInt32)).toNatClampNeg = (((hv.toUInt32 >>> ((6 : Int32) &&& 31).toUInt32).toInt32)).toNatClampNeg
  · have nk : n ≠ k := fun e => h (Int32.toInt_inj.mp (by
      have t1 : ((((pq.toUInt32 >>> ((6 : Int32) &&& 31).toUInt32).toInt32)).toNatClampNeg : Int) = pq.toInt / 64 := by rw [Int32.toNatClampNeg, Int.toNat_of_nonneg (by omega), ip]
      have t2 : ((((hv.toUInt32 >>> ((6 : Int32) &&& 31).toUInt32).toInt32)).toNatClampNeg : Int) = hv.toInt / 64 := by rw [Int32.toNatClampNeg, Int.toNat_of_nonneg (by omega), ih]
      omega))
    simp only [c, if_true] at q'
    have w := congrArg (fun y : Int64 => y.toBitVec.getLsbD n) q'
    simp only [Int64.toBitVec_and, Int64.toBitVec_xor, o, z, bn, bk, BitVec.getLsbD_and, BitVec.getLsbD_xor, BitVec.getLsbD_twoPow, BitVec.getLsbD_allOnes, hn] at w
    simp [nk, Ne.symm nk, hk] at w
  · simp only [c, if_false] at q'
    have w := congrArg (fun y : Int64 => y.toBitVec.getLsbD n) q'
    simp only [Int64.toBitVec_and, o, z, bn, BitVec.getLsbD_and, BitVec.getLsbD_twoPow, BitVec.getLsbD_allOnes, hn] at w
    simp at w

theorem d1_0 : decode prog_20_method_2_code 0 = .ok (.iload_n 1, 1) := by decide +kernel
theorem d1_1 : decode prog_20_method_2_code 1 = .ok (.iload_n 0, 1) := by decide +kernel
theorem d1_2 : decode prog_20_method_2_code 2 = .ok (.if_icmp .ge 18, 3) := by decide +kernel
theorem d1_20 : decode prog_20_method_2_code 20 = .ok (.new 7, 3) := by decide +kernel
theorem d1_23 : decode prog_20_method_2_code 23 = .ok (.dup, 1) := by decide +kernel
theorem d1_24 : decode prog_20_method_2_code 24 = .ok (.iload_n 0, 1) := by decide +kernel
theorem d1_25 : decode prog_20_method_2_code 25 = .ok (.iload_n 1, 1) := by decide +kernel
theorem d1_26 : decode prog_20_method_2_code 26 = .ok (.i2l, 1) := by decide +kernel
theorem d1_27 : decode prog_20_method_2_code 27 = .ok (.iload_n 0, 1) := by decide +kernel
theorem d1_28 : decode prog_20_method_2_code 28 = .ok (.i2l, 1) := by decide +kernel
theorem d1_29 : decode prog_20_method_2_code 29 = .ok (.lsub, 1) := by decide +kernel
theorem d1_30 : decode prog_20_method_2_code 30 = .ok (.lconst 1, 1) := by decide +kernel
theorem d1_31 : decode prog_20_method_2_code 31 = .ok (.ladd, 1) := by decide +kernel
theorem d1_32 : decode prog_20_method_2_code 32 = .ok (.aconst_null, 1) := by decide +kernel
theorem d1_33 : decode prog_20_method_2_code 33 = .ok (.invokespecial 34, 3) := by decide +kernel
theorem d2_0 : decode prog_20_method_1_code 0 = .ok (.aload_n 0, 1) := by decide +kernel
theorem d2_1 : decode prog_20_method_1_code 1 = .ok (.invokespecial 1, 3) := by decide +kernel
theorem d2_4 : decode prog_20_method_1_code 4 = .ok (.lload_n 2, 1) := by decide +kernel
theorem d2_5 : decode prog_20_method_1_code 5 = .ok (.ldc2_w 9, 3) := by decide +kernel
theorem d2_8 : decode prog_20_method_1_code 8 = .ok (.lcmp, 1) := by decide +kernel
theorem d2_9 : decode prog_20_method_1_code 9 = .ok (.ifCond .le 17, 3) := by decide +kernel
theorem d2_26 : decode prog_20_method_1_code 26 = .ok (.aload_n 0, 1) := by decide +kernel
theorem d2_27 : decode prog_20_method_1_code 27 = .ok (.iload_n 1, 1) := by decide +kernel
theorem d2_28 : decode prog_20_method_1_code 28 = .ok (.putfield 20, 3) := by decide +kernel
theorem d2_31 : decode prog_20_method_1_code 31 = .ok (.aload_n 0, 1) := by decide +kernel
theorem d2_32 : decode prog_20_method_1_code 32 = .ok (.lload_n 2, 1) := by decide +kernel
theorem d2_33 : decode prog_20_method_1_code 33 = .ok (.l2i, 1) := by decide +kernel
theorem d2_34 : decode prog_20_method_1_code 34 = .ok (.putfield 24, 3) := by decide +kernel
theorem sn0 {a0 : Array Value} {Z : State} (hw : ∀ d ∈ tables_1, d.before a0 Z = true) : Jvm.RoadKit.slotOf Z "com/example/monarc/monarc/InitialDomain" "size" "I" ≠ Jvm.RoadKit.slotOf Z "com/example/monarc/monarc/InitialDomain" "lowest" "I" := slot_ne (Or.inr (wd hw 16 rfl)) (Or.inr (wd hw 14 rfl)) (by decide) (t := .int) (t' := .int) (by decide) (by decide)
theorem d2_37 : decode prog_20_method_1_code 37 = .ok (.aload_n 0, 1) := by decide +kernel
theorem d2_38 : decode prog_20_method_1_code 38 = .ok (.aload 4, 2) := by decide +kernel
theorem d2_40 : decode prog_20_method_1_code 40 = .ok (.putfield 27, 3) := by decide +kernel
theorem sn1 {a0 : Array Value} {Z : State} (hw : ∀ d ∈ tables_1, d.before a0 Z = true) : Jvm.RoadKit.slotOf Z "com/example/monarc/monarc/InitialDomain" "values" "[I" ≠ Jvm.RoadKit.slotOf Z "com/example/monarc/monarc/InitialDomain" "lowest" "I" := slot_ne (Or.inr (wd hw 18 rfl)) (Or.inr (wd hw 14 rfl)) (by decide) (t := (.array .int)) (t' := .int) (by decide) (by decide)
theorem sn2 {a0 : Array Value} {Z : State} (hw : ∀ d ∈ tables_1, d.before a0 Z = true) : Jvm.RoadKit.slotOf Z "com/example/monarc/monarc/InitialDomain" "values" "[I" ≠ Jvm.RoadKit.slotOf Z "com/example/monarc/monarc/InitialDomain" "size" "I" := slot_ne (Or.inr (wd hw 18 rfl)) (Or.inr (wd hw 16 rfl)) (by decide) (t := (.array .int)) (t' := .int) (by decide) (by decide)
theorem d2_43 : decode prog_20_method_1_code 43 = .ok (.return_, 1) := by decide +kernel
theorem sn3 {a0 : Array Value} {Z : State} (hw : ∀ d ∈ tables_1, d.before a0 Z = true) : Jvm.RoadKit.slotOf Z "com/example/monarc/monarc/InitialDomain" "lowest" "I" ≠ Jvm.RoadKit.slotOf Z "com/example/monarc/monarc/InitialDomain" "size" "I" := slot_ne (Or.inr (wd hw 14 rfl)) (Or.inr (wd hw 16 rfl)) (by decide) (t := .int) (t' := .int) (by decide) (by decide)
theorem sn4 {a0 : Array Value} {Z : State} (hw : ∀ d ∈ tables_1, d.before a0 Z = true) : Jvm.RoadKit.slotOf Z "com/example/monarc/monarc/InitialDomain" "lowest" "I" ≠ Jvm.RoadKit.slotOf Z "com/example/monarc/monarc/InitialDomain" "values" "[I" := slot_ne (Or.inr (wd hw 14 rfl)) (Or.inr (wd hw 18 rfl)) (by decide) (t := .int) (t' := (.array .int)) (by decide) (by decide)
theorem sn5 {a0 : Array Value} {Z : State} (hw : ∀ d ∈ tables_1, d.before a0 Z = true) : Jvm.RoadKit.slotOf Z "com/example/monarc/monarc/InitialDomain" "size" "I" ≠ Jvm.RoadKit.slotOf Z "com/example/monarc/monarc/InitialDomain" "values" "[I" := slot_ne (Or.inr (wd hw 16 rfl)) (Or.inr (wd hw 18 rfl)) (by decide) (t := .int) (t' := (.array .int)) (by decide) (by decide)
theorem pn_0 : plainName "com/example/monarc/monarc/InitialDomain" = true := by first | (simp [plainName, overriddenIn]; done) | decide +kernel
theorem ef_am2_1 (m : MethodId) (x0 : Addr) (x1 : Int32) (x2 : Int64)  : entryFrame m #[(.ref x0), (.int x1), (.long x2), .null] 5 = mkF m 0 #[.val (.ref x0), .val (.int x1), .val (.long x2), .second, .val .null] [] := by first | (simp [entryFrame, mkF, argsToLocals, Value.category]; done) | rfl
def Q_am2_1 (Z : State) (a_EMPTY_ELEMENTDATA : Addr) (aw0 : Addr) (ka_EMPTY_ELEMENTDATA : ClassId) (kaw0 : ClassId) (ad1 : Addr) (h0 : Heap) (n0 : Nat) (v : Option Value) (h : Heap) (L : List Loc) : Prop := v = none ∧ Fr n0 L ∧ Keep h0 h [ad1] ∧ (Exa Z h ad1 "com/example/monarc/monarc/InitialDomain") ∧ (Fld Z h ad1 "com/example/monarc/monarc/InitialDomain" "lowest" "I" (.int (0 : Int32))) ∧ (Fld Z h ad1 "com/example/monarc/monarc/InitialDomain" "size" "I" (.int (200 : Int32))) ∧ (Fld Z h ad1 "com/example/monarc/monarc/InitialDomain" "values" "[I" .null)
set_option maxRecDepth 65536 in
set_option maxHeartbeats 40000000 in
theorem am2_1 (l : Launch) (Z : State) (a0 : Array Value) (hw : ∀ d ∈ tables_1, d.before a0 Z = true) (ws : List Jvm.Cond) (a_EMPTY_ELEMENTDATA : Addr) (aw0 : Addr) (ka_EMPTY_ELEMENTDATA : ClassId) (kaw0 : ClassId) (HW : Wd Z a_EMPTY_ELEMENTDATA aw0 ka_EMPTY_ELEMENTDATA kaw0) (ad1 : Addr) (h0 : Heap) (n0 : Nat) (Ol : Old Z n0 h0) (HE_ad1 : Exa Z h0 ad1 "com/example/monarc/monarc/InitialDomain") (HF_ad1_InitialDomain_lowest : Fld Z h0 ad1 "com/example/monarc/monarc/InitialDomain" "lowest" "I" (.int (0 : Int32))) (HF_ad1_InitialDomain_size : Fld Z h0 ad1 "com/example/monarc/monarc/InitialDomain" "size" "I" (.int (0 : Int32))) (HF_ad1_InitialDomain_values : Fld Z h0 ad1 "com/example/monarc/monarc/InitialDomain" "values" "[I" .null) (nn_ad1 : n0 ≤ ad1) :
    MetFree l y_2 (head1 (Jvm.Cond.code y_2 prog_20_method_1_code 5 none :: ws) ({ frames := 1, cells := 0, slots := 0, locals := 12 } : Room)) (fun a_ U_ => a_ = #[(.ref ad1), (.int (0 : Int32)), (.long (200 : Int64)), .null] ∧ Z.Warmed39 U_.vm ∧ U_.heap = h0) (fun _ _ _ _ _ => True) (fun _ U_ o_ V_ => ∃ v_ L_, o_ = .returned v_ ∧ Q_am2_1 Z a_EMPTY_ELEMENTDATA aw0 ka_EMPTY_ELEMENTDATA kaw0 ad1 h0 n0 v_ V_.heap L_ ∧ FrameEnd U_ o_ V_ L_ ({ frames := 1, cells := 0, slots := 0, locals := 12 } : Room).cells ({ frames := 1, cells := 0, slots := 0, locals := 12 } : Room).slots) := by
  refine MetFree.of_bodySF (plainFor_of_name pn_0) hisR ?_
  intro p e s m args below meth c s₁ Bd hml0 hP hK
  obtain ⟨rfl, hZ, hh⟩ := hP
  have hx := Bd.exec
  have hby := Bd.bytes
  have hml : c.maxLocals = 5 := hml0
  have hown : s.vm.findClass "com/example/monarc/monarc/InitialDomain" = some m.cls := findClass_of_methodNamed Bd.named
  have hnm := (name_of_methodNamed Bd.named Bd.method).1
  have X0 : Stand p l e ({ frames := 1, cells := 0, slots := 0, locals := 12 } : Room) s m #[(.ref ad1), (.int (0 : Int32)), (.long (200 : Int64)), .null] below meth c s₁ [] 0 0 := Stand.of_body Bd
  have e0 : s₁.heap = h0 := by rw [← hh, Bd.state]; rfl
  have N0 := Fr.nil n0
  have kp0 := Keep.refl h0 [ad1]
  show Go p e below (Fin1 s below (Q_am2_1 Z a_EMPTY_ELEMENTDATA aw0 ka_EMPTY_ELEMENTDATA kaw0 ad1 h0 n0) ({ frames := 1, cells := 0, slots := 0, locals := 12 } : Room).cells ({ frames := 1, cells := 0, slots := 0, locals := 12 } : Room).slots) _
  refine Go.step (fun t_ k_ => castTop (ef_am2_1 m ad1 (0 : Int32) (200 : Int64)) k_) ?_
  obtain ⟨Ea_EMPTY_ELEMENTDATA, Sa_EMPTY_ELEMENTDATA, Eaw0, Saw0, Aa_EMPTY_ELEMENTDATA, Aaw0⟩ := id HW
  show Go p e below _ (s₁.setTop (mkF m 0 #[.val (.ref ad1), .val (.int (0 : Int32)), .val (.long (200 : Int64)), .second, .val .null] []))
  refine gs.aloadN X0.here hx (hb hby d2_0) rfl rfl ?_
  obtain ⟨T1, X1, e1, st1⟩ := initO X0 hx hZ hown (wd hw 9 rfl) (wd hw 10 rfl) (wd hw 11 rfl) e0 (g := (mkF m 1 #[.val (.ref ad1), .val (.int (0 : Int32)), .val (.long (200 : Int64)), .second, .val .null] [(.ref ad1)])) rfl (by rw [hml]; rfl) rfl (hb hby d2_1) (by decide) (W := 0) (by show 2 * 0 + _ ≤ _; exact Nat.le_of_eq rfl) (by decide)
  refine Go.step st1 ?_
  show Go p e below _ (T1.setTop (mkF m 4 #[.val (.ref ad1), .val (.int (0 : Int32)), .val (.long (200 : Int64)), .second, .val .null] []))
  refine gs.lloadN X1.here hx (hb hby d2_4) rfl ?_
  refine Go.step (fun t_ k_ => X1.ldc2Long hx hown (mvT hZ (wd hw 12 rfl)) (g := (mkF m 5 #[.val (.ref ad1), .val (.int (0 : Int32)), .val (.long (200 : Int64)), .second, .val .null] [(.long (200 : Int64))])) rfl (hb hby d2_5) _ k_) ?_
  show Go p e below _ (T1.setTop (mkF m 8 #[.val (.ref ad1), .val (.int (0 : Int32)), .val (.long (200 : Int64)), .second, .val .null] [(.long (1073741823 : Int64)), (.long (200 : Int64))]))
  refine Go.step (fun t_ k_ => XS.lcmp X1.here hx rfl (hb hby d2_8) rfl k_) ?_
  show Go p e below _ (T1.setTop (mkF m 9 #[.val (.ref ad1), .val (.int (0 : Int32)), .val (.long (200 : Int64)), .second, .val .null] [(.int (lcmpW (200 : Int64) (1073741823 : Int64)))]))
  rw [show (lcmpW (200 : Int64) (1073741823 : Int64)) = (-1 : Int32) from by decide]
  have hc9 : ¬ ((0 : Int32) < (-1 : Int32)) := by decide
  refine gs.ifYes 26 X1.here hx (hb hby d2_9) ((if0 _ _).trans (flt hc9).2.2.2) rfl ?_
  refine gs.aloadN X1.here hx (hb hby d2_26) rfl rfl ?_
  refine gs.iloadN X1.here hx (hb hby d2_27) rfl ?_
  obtain ⟨T2, h2, X2, e2, W2, st2⟩ := putF X1 hx hZ hown (host := "") (Or.inl (wd hw 13 rfl)) Via.refl e1 HF_ad1_InitialDomain_lowest HE_ad1 (Or.inr ⟨(wd hw 14 rfl), rfl, hnm⟩) (wd hw 5 rfl) (ty := .int) (by decide) rfl rfl (g := (mkF m 28 #[.val (.ref ad1), .val (.int (0 : Int32)), .val (.long (200 : Int64)), .second, .val .null] [(.int (0 : Int32)), (.ref ad1)])) rfl rfl (hb hby d2_28)
  have N2 := Fr.snoc X2 N0 nn_ad1
  have old2 := Ol.wr W2 nn_ad1
  have kp2 := kp0.wr W2 (Or.inl (List.mem_of_getElem? (i := 0) rfl))
  have F2 := HF_ad1_InitialDomain_lowest.same W2
  refine Go.step st2 ?_
  show Go p e below _ (T2.setTop (mkF m 31 #[.val (.ref ad1), .val (.int (0 : Int32)), .val (.long (200 : Int64)), .second, .val .null] []))
  refine gs.aloadN X2.here hx (hb hby d2_31) rfl rfl ?_
  refine gs.lloadN X2.here hx (hb hby d2_32) rfl ?_
  refine Go.step (fun t_ k_ => XS.l2i X2.here hx rfl (hb hby d2_33) rfl k_) ?_
  show Go p e below _ (T2.setTop (mkF m 34 #[.val (.ref ad1), .val (.int (0 : Int32)), .val (.long (200 : Int64)), .second, .val .null] [(.int ((200 : Int64).toInt32)), (.ref ad1)]))
  rw [show ((200 : Int64).toInt32) = (200 : Int32) from by decide]
  have f3 := (HF_ad1_InitialDomain_size.other W2 (Or.inr (sn0 hw)))
  have f4 := (HE_ad1.wr W2)
  obtain ⟨T5, h5, X5, e5, W5, st5⟩ := putF X2 hx hZ hown (host := "") (Or.inl (wd hw 15 rfl)) Via.refl e2 f3 f4 (Or.inr ⟨(wd hw 16 rfl), rfl, hnm⟩) (wd hw 5 rfl) (ty := .int) (by decide) rfl rfl (g := (mkF m 34 #[.val (.ref ad1), .val (.int (0 : Int32)), .val (.long (200 : Int64)), .second, .val .null] [(.int (200 : Int32)), (.ref ad1)])) rfl rfl (hb hby d2_34)
  have N5 := Fr.snoc X5 N2 nn_ad1
  have old5 := old2.wr W5 nn_ad1
  have kp5 := kp2.wr W5 (Or.inl (List.mem_of_getElem? (i := 0) rfl))
  have F5 := f3.same W5
  refine Go.step st5 ?_
  show Go p e below _ (T5.setTop (mkF m 37 #[.val (.ref ad1), .val (.int (0 : Int32)), .val (.long (200 : Int64)), .second, .val .null] []))
  refine gs.aloadN X5.here hx (hb hby d2_37) rfl rfl ?_
  refine gs.aload X5.here hx (hb hby d2_38) rfl rfl ?_
  have f6 := ((HF_ad1_InitialDomain_values.other W2 (Or.inr (sn1 hw))).other W5 (Or.inr (sn2 hw)))
  have f7 := (f4.wr W5)
  obtain ⟨T8, h8, X8, e8, W8, st8⟩ := putF X5 hx hZ hown (host := "") (Or.inl (wd hw 17 rfl)) Via.refl e5 f6 f7 (Or.inr ⟨(wd hw 18 rfl), rfl, hnm⟩) (wd hw 5 rfl) (ty := (.array .int)) (by decide) rfl rfl (g := (mkF m 40 #[.val (.ref ad1), .val (.int (0 : Int32)), .val (.long (200 : Int64)), .second, .val .null] [.null, (.ref ad1)])) rfl rfl (hb hby d2_40)
  have N8 := Fr.snoc X8 N5 nn_ad1
  have old8 := old5.wr W8 nn_ad1
  have kp8 := kp5.wr W8 (Or.inl (List.mem_of_getElem? (i := 0) rfl))
  have F8 := f6.same W8
  refine Go.step st8 ?_
  show Go p e below _ (T8.setTop (mkF m 43 #[.val (.ref ad1), .val (.int (0 : Int32)), .val (.long (200 : Int64)), .second, .val .null] []))
  have f9 := (f7.wr W8)
  have f10 := ((F2.other W5 (Or.inr (sn3 hw))).other W8 (Or.inr (sn4 hw)))
  have f11 := (F5.other W8 (Or.inr (sn5 hw)))
  refine Go.retV X8 hx Bd.returns Bd.notSynchronized (hb hby d2_43) (by rw [e8]; exact ⟨rfl, N8, kp8, f9, f10, f11, F8⟩) (by decide) (by decide)
theorem pd_0 : parseMethodDescriptor "(IJ[I)V" = some ⟨[.int, .long, (.array .int)], none⟩ := by decide +kernel
theorem d1_36 : decode prog_20_method_2_code 36 = .ok (.areturn, 1) := by decide +kernel
theorem ef_am1_1 (m : MethodId) (x0 : Int32) (x1 : Int32)  : entryFrame m #[(.int x0), (.int x1)] 2 = mkF m 0 #[.val (.int x0), .val (.int x1)] [] := by first | (simp [entryFrame, mkF, argsToLocals, Value.category]; done) | rfl
def Q_am1_1 (Z : State) (a_EMPTY_ELEMENTDATA : Addr) (aw0 : Addr) (ka_EMPTY_ELEMENTDATA : ClassId) (kaw0 : ClassId)  (h0 : Heap) (n0 : Nat) (v : Option Value) (h : Heap) (L : List Loc) : Prop := ∃ fr1 : Addr, v = some (.ref fr1) ∧ h0.size ≤ fr1 ∧ Fr n0 L ∧ Keep h0 h [] ∧ (Exa Z h fr1 "com/example/monarc/monarc/InitialDomain") ∧ (Fld Z h fr1 "com/example/monarc/monarc/InitialDomain" "lowest" "I" (.int (0 : Int32))) ∧ (Fld Z h fr1 "com/example/monarc/monarc/InitialDomain" "size" "I" (.int (200 : Int32))) ∧ (Fld Z h fr1 "com/example/monarc/monarc/InitialDomain" "values" "[I" .null)
set_option maxRecDepth 65536 in
set_option maxHeartbeats 40000000 in
theorem am1_1 (l : Launch) (Z : State) (a0 : Array Value) (hw : ∀ d ∈ tables_1, d.before a0 Z = true) (ws : List Jvm.Cond) (a_EMPTY_ELEMENTDATA : Addr) (aw0 : Addr) (ka_EMPTY_ELEMENTDATA : ClassId) (kaw0 : ClassId) (HW : Wd Z a_EMPTY_ELEMENTDATA aw0 ka_EMPTY_ELEMENTDATA kaw0)  (h0 : Heap) (n0 : Nat) (Ol : Old Z n0 h0)  :
    MetFree l y_1 (head1 (Jvm.Cond.code y_1 prog_20_method_2_code 2 (some (.object "com/example/monarc/monarc/InitialDomain")) :: ws) ({ frames := 2, cells := 1, slots := 3, locals := 29 } : Room)) (fun a_ U_ => a_ = #[(.int (0 : Int32)), (.int (199 : Int32))] ∧ Z.Warmed39 U_.vm ∧ U_.heap = h0) (fun _ _ _ _ _ => True) (fun _ U_ o_ V_ => ∃ v_ L_, o_ = .returned v_ ∧ Q_am1_1 Z a_EMPTY_ELEMENTDATA aw0 ka_EMPTY_ELEMENTDATA kaw0  h0 n0 v_ V_.heap L_ ∧ FrameEnd U_ o_ V_ L_ ({ frames := 2, cells := 1, slots := 3, locals := 29 } : Room).cells ({ frames := 2, cells := 1, slots := 3, locals := 29 } : Room).slots) := by
  refine MetFree.of_bodySF (plainFor_of_name pn_0) hisR ?_
  intro p e s m args below meth c s₁ Bd hml0 hP hK
  obtain ⟨rfl, hZ, hh⟩ := hP
  have hx := Bd.exec
  have hby := Bd.bytes
  have hml : c.maxLocals = 2 := hml0
  have hown : s.vm.findClass "com/example/monarc/monarc/InitialDomain" = some m.cls := findClass_of_methodNamed Bd.named
  have hnm := (name_of_methodNamed Bd.named Bd.method).1
  have X0 : Stand p l e ({ frames := 2, cells := 1, slots := 3, locals := 29 } : Room) s m #[(.int (0 : Int32)), (.int (199 : Int32))] below meth c s₁ [] 0 0 := Stand.of_body Bd
  have e0 : s₁.heap = h0 := by rw [← hh, Bd.state]; rfl
  have N0 := Fr.nil n0
  have kp0 := Keep.refl h0 []
  show Go p e below (Fin1 s below (Q_am1_1 Z a_EMPTY_ELEMENTDATA aw0 ka_EMPTY_ELEMENTDATA kaw0  h0 n0) ({ frames := 2, cells := 1, slots := 3, locals := 29 } : Room).cells ({ frames := 2, cells := 1, slots := 3, locals := 29 } : Room).slots) _
  refine Go.step (fun t_ k_ => castTop (ef_am1_1 m (0 : Int32) (199 : Int32)) k_) ?_
  obtain ⟨Ea_EMPTY_ELEMENTDATA, Sa_EMPTY_ELEMENTDATA, Eaw0, Saw0, Aa_EMPTY_ELEMENTDATA, Aaw0⟩ := id HW
  show Go p e below _ (s₁.setTop (mkF m 0 #[.val (.int (0 : Int32)), .val (.int (199 : Int32))] []))
  refine gs.iloadN X0.here hx (hb hby d1_0) rfl ?_
  refine gs.iloadN X0.here hx (hb hby d1_1) rfl ?_
  have hc2 : ¬ ((199 : Int32) < (0 : Int32)) := by decide
  refine gs.icmpYes 20 X0.here hx (hb hby d1_2) (flt hc2).2.1 rfl ?_
  obtain ⟨T1, h1, X1, e1, E1, A1, D1, Y1, st1⟩ := newO X0 hx hZ hown (wd hw 4 rfl) (wd hw 5 rfl) (wd hw 2 rfl) e0 (g := (mkF m 20 #[.val (.int (0 : Int32)), .val (.int (199 : Int32))] [])) rfl (hb hby d1_20) (by decide) (by decide)
  obtain ⟨b1, g1⟩ : ∃ z, z = h0.size := ⟨_, rfl⟩
  rw [← g1] at A1 D1 Y1 st1
  have nn_b1 : n0 ≤ b1 := Nat.le_trans (old_z0 Ol) (Nat.le_of_eq g1.symm)
  have sz_b1 : h0.size ≤ b1 := Nat.le_trans kp0.1 (Nat.le_of_eq g1.symm)
  have old1 := Ol.ext E1
  have kp1 := kp0.ext E1
  have F1_lowest : Fld Z h1 b1 "com/example/monarc/monarc/InitialDomain" "lowest" "I" (.int (0 : Int32)) := D1 (Or.inr (wd hw 14 rfl)) (ty := .int) (by decide)
  have F1_size : Fld Z h1 b1 "com/example/monarc/monarc/InitialDomain" "size" "I" (.int (0 : Int32)) := D1 (Or.inr (wd hw 16 rfl)) (ty := .int) (by decide)
  have F1_values : Fld Z h1 b1 "com/example/monarc/monarc/InitialDomain" "values" "[I" .null := D1 (Or.inr (wd hw 18 rfl)) (ty := (.array .int)) (by decide)
  refine Go.step st1 ?_
  show Go p e below _ (T1.setTop (mkF m 23 #[.val (.int (0 : Int32)), .val (.int (199 : Int32))] [(.ref b1)]))
  refine gs.dup X1.here hx (hb hby d1_23) rfl ?_
  refine gs.iloadN X1.here hx (hb hby d1_24) rfl ?_
  refine gs.iloadN X1.here hx (hb hby d1_25) rfl ?_
  refine Go.step (fun t_ k_ => XS.i2l X1.here hx rfl (hb hby d1_26) rfl k_) ?_
  show Go p e below _ (T1.setTop (mkF m 27 #[.val (.int (0 : Int32)), .val (.int (199 : Int32))] [(.long ((199 : Int32).toInt64)), (.int (0 : Int32)), (.ref b1), (.ref b1)]))
  rw [show ((199 : Int32).toInt64) = (199 : Int64) from by decide]
  refine gs.iloadN X1.here hx (hb hby d1_27) rfl ?_
  refine Go.step (fun t_ k_ => XS.i2l X1.here hx rfl (hb hby d1_28) rfl k_) ?_
  show Go p e below _ (T1.setTop (mkF m 29 #[.val (.int (0 : Int32)), .val (.int (199 : Int32))] [(.long ((0 : Int32).toInt64)), (.long (199 : Int64)), (.int (0 : Int32)), (.ref b1), (.ref b1)]))
  rw [show ((0 : Int32).toInt64) = (0 : Int64) from by decide]
  refine gs.lsub X1.here hx (hb hby d1_29) ?_
  rw [show ((199 : Int64) - (0 : Int64)) = (199 : Int64) from by decide]
  refine Go.step (fun t_ k_ => XS.lconst X1.here hx rfl (hb hby d1_30) k_) ?_
  show Go p e below _ (T1.setTop (mkF m 31 #[.val (.int (0 : Int32)), .val (.int (199 : Int32))] [(.long (1 : Int64)), (.long (199 : Int64)), (.int (0 : Int32)), (.ref b1), (.ref b1)]))
  refine gs.ladd X1.here hx (hb hby d1_31) ?_
  rw [show ((199 : Int64) + (1 : Int64)) = (200 : Int64) from by decide]
  refine gs.aconstNull X1.here hx (hb hby d1_32) ?_
  obtain ⟨_, _, ⟨T2, L2, k2, n2⟩, -, X2, ⟨Lc2, hQ2, l2, y2, z2⟩, st2⟩ := X1.specialBack hx (y := y_2) rfl hown (mvT hZ (wd hw 6 rfl)) (mvT hZ (wd hw 7 rfl)) (mvT hZ (wd hw 8 rfl)) (by decide) (backOf (W := 1) (am2_1 l Z a0 hw [] a_EMPTY_ELEMENTDATA aw0 ka_EMPTY_ELEMENTDATA kaw0 HW (b1) h1 n0 old1 A1 F1_lowest F1_size F1_values nn_b1) hZ (wd hw 8 rfl) (wd hw 2 rfl) (by decide) (by decide)) (g := (mkF m 33 #[.val (.int (0 : Int32)), .val (.int (199 : Int32))] [.null, (.long (200 : Int64)), (.int (0 : Int32)), (.ref b1), (.ref b1)])) rfl (by rw [hml]; rfl) (Steps.refl _) (a := b1) (argsL := [(.int (0 : Int32)), (.long (200 : Int64)), .null]) (rest := [(.ref b1)]) (lenOf pd_0 rfl) rfl (by show 2 * 0 + _ ≤ _; exact Nat.le_of_eq rfl) (hb hby d1_33) (fun _ _ => ⟨rfl, e1, (by decide : 1 + 0 ≤ _), (by decide : 3 + 0 ≤ _)⟩)
  dsimp only [Pt.U, Pt.locs, Pt.cells, Pt.slots] at X2 l2 y2 z2 st2 hQ2
  subst l2 y2 z2
  obtain ⟨rfl, Nq2, K2, p2_0, p2_1, p2_2, p2_3⟩ := hQ2
  have old2 := old1.keep K2 (allS nn_b1 all0)
  have kp2 := kp1.trans K2 (allS (Or.inr sz_b1) all0)
  have N2 := Fr.app N0 Nq2
  refine Go.step (fun t_ k_ => st2.trans k_) ?_
  show Go p e below _ (T2.setTop (mkF m 36 #[.val (.int (0 : Int32)), .val (.int (199 : Int32))] [(.ref b1)]))
  refine Go.retR X2 hx Bd.returns rfl rfl Bd.notSynchronized (hb hby d1_36) (by exact ⟨b1, rfl, sz_b1, N2, kp2, p2_0, p2_1, p2_2, p2_3⟩) (by decide) (by decide)
theorem pd_1 : parseMethodDescriptor "(II)Lcom/example/monarc/monarc/InitialDomain;" = some ⟨[.int, .int], some (.object "com/example/monarc/monarc/InitialDomain")⟩ := by decide +kernel
theorem ef_am2_2 (m : MethodId) (x0 : Addr) (x1 : Int32) (x2 : Int64)  : entryFrame m #[(.ref x0), (.int x1), (.long x2), .null] 5 = mkF m 0 #[.val (.ref x0), .val (.int x1), .val (.long x2), .second, .val .null] [] := by first | (simp [entryFrame, mkF, argsToLocals, Value.category]; done) | rfl
def Q_am2_2 (Z : State) (a_EMPTY_ELEMENTDATA : Addr) (aw0 : Addr) (ka_EMPTY_ELEMENTDATA : ClassId) (kaw0 : ClassId) (ad1 : Addr) (h0 : Heap) (n0 : Nat) (v : Option Value) (h : Heap) (L : List Loc) : Prop := v = none ∧ Fr n0 L ∧ Keep h0 h [ad1] ∧ (Exa Z h ad1 "com/example/monarc/monarc/InitialDomain") ∧ (Fld Z h ad1 "com/example/monarc/monarc/InitialDomain" "lowest" "I" (.int (0 : Int32))) ∧ (Fld Z h ad1 "com/example/monarc/monarc/InitialDomain" "size" "I" (.int (100 : Int32))) ∧ (Fld Z h ad1 "com/example/monarc/monarc/InitialDomain" "values" "[I" .null)
set_option maxRecDepth 65536 in
set_option maxHeartbeats 40000000 in
theorem am2_2 (l : Launch) (Z : State) (a0 : Array Value) (hw : ∀ d ∈ tables_1, d.before a0 Z = true) (ws : List Jvm.Cond) (a_EMPTY_ELEMENTDATA : Addr) (aw0 : Addr) (ka_EMPTY_ELEMENTDATA : ClassId) (kaw0 : ClassId) (HW : Wd Z a_EMPTY_ELEMENTDATA aw0 ka_EMPTY_ELEMENTDATA kaw0) (ad1 : Addr) (h0 : Heap) (n0 : Nat) (Ol : Old Z n0 h0) (HE_ad1 : Exa Z h0 ad1 "com/example/monarc/monarc/InitialDomain") (HF_ad1_InitialDomain_lowest : Fld Z h0 ad1 "com/example/monarc/monarc/InitialDomain" "lowest" "I" (.int (0 : Int32))) (HF_ad1_InitialDomain_size : Fld Z h0 ad1 "com/example/monarc/monarc/InitialDomain" "size" "I" (.int (0 : Int32))) (HF_ad1_InitialDomain_values : Fld Z h0 ad1 "com/example/monarc/monarc/InitialDomain" "values" "[I" .null) (nn_ad1 : n0 ≤ ad1) :
    MetFree l y_2 (head1 (Jvm.Cond.code y_2 prog_20_method_1_code 5 none :: ws) ({ frames := 1, cells := 0, slots := 0, locals := 12 } : Room)) (fun a_ U_ => a_ = #[(.ref ad1), (.int (0 : Int32)), (.long (100 : Int64)), .null] ∧ Z.Warmed39 U_.vm ∧ U_.heap = h0) (fun _ _ _ _ _ => True) (fun _ U_ o_ V_ => ∃ v_ L_, o_ = .returned v_ ∧ Q_am2_2 Z a_EMPTY_ELEMENTDATA aw0 ka_EMPTY_ELEMENTDATA kaw0 ad1 h0 n0 v_ V_.heap L_ ∧ FrameEnd U_ o_ V_ L_ ({ frames := 1, cells := 0, slots := 0, locals := 12 } : Room).cells ({ frames := 1, cells := 0, slots := 0, locals := 12 } : Room).slots) := by
  refine MetFree.of_bodySF (plainFor_of_name pn_0) hisR ?_
  intro p e s m args below meth c s₁ Bd hml0 hP hK
  obtain ⟨rfl, hZ, hh⟩ := hP
  have hx := Bd.exec
  have hby := Bd.bytes
  have hml : c.maxLocals = 5 := hml0
  have hown : s.vm.findClass "com/example/monarc/monarc/InitialDomain" = some m.cls := findClass_of_methodNamed Bd.named
  have hnm := (name_of_methodNamed Bd.named Bd.method).1
  have X0 : Stand p l e ({ frames := 1, cells := 0, slots := 0, locals := 12 } : Room) s m #[(.ref ad1), (.int (0 : Int32)), (.long (100 : Int64)), .null] below meth c s₁ [] 0 0 := Stand.of_body Bd
  have e0 : s₁.heap = h0 := by rw [← hh, Bd.state]; rfl
  have N0 := Fr.nil n0
  have kp0 := Keep.refl h0 [ad1]
  show Go p e below (Fin1 s below (Q_am2_2 Z a_EMPTY_ELEMENTDATA aw0 ka_EMPTY_ELEMENTDATA kaw0 ad1 h0 n0) ({ frames := 1, cells := 0, slots := 0, locals := 12 } : Room).cells ({ frames := 1, cells := 0, slots := 0, locals := 12 } : Room).slots) _
  refine Go.step (fun t_ k_ => castTop (ef_am2_2 m ad1 (0 : Int32) (100 : Int64)) k_) ?_
  obtain ⟨Ea_EMPTY_ELEMENTDATA, Sa_EMPTY_ELEMENTDATA, Eaw0, Saw0, Aa_EMPTY_ELEMENTDATA, Aaw0⟩ := id HW
  show Go p e below _ (s₁.setTop (mkF m 0 #[.val (.ref ad1), .val (.int (0 : Int32)), .val (.long (100 : Int64)), .second, .val .null] []))
  refine gs.aloadN X0.here hx (hb hby d2_0) rfl rfl ?_
  obtain ⟨T1, X1, e1, st1⟩ := initO X0 hx hZ hown (wd hw 9 rfl) (wd hw 10 rfl) (wd hw 11 rfl) e0 (g := (mkF m 1 #[.val (.ref ad1), .val (.int (0 : Int32)), .val (.long (100 : Int64)), .second, .val .null] [(.ref ad1)])) rfl (by rw [hml]; rfl) rfl (hb hby d2_1) (by decide) (W := 0) (by show 2 * 0 + _ ≤ _; exact Nat.le_of_eq rfl) (by decide)
  refine Go.step st1 ?_
  show Go p e below _ (T1.setTop (mkF m 4 #[.val (.ref ad1), .val (.int (0 : Int32)), .val (.long (100 : Int64)), .second, .val .null] []))
  refine gs.lloadN X1.here hx (hb hby d2_4) rfl ?_
  refine Go.step (fun t_ k_ => X1.ldc2Long hx hown (mvT hZ (wd hw 12 rfl)) (g := (mkF m 5 #[.val (.ref ad1), .val (.int (0 : Int32)), .val (.long (100 : Int64)), .second, .val .null] [(.long (100 : Int64))])) rfl (hb hby d2_5) _ k_) ?_
  show Go p e below _ (T1.setTop (mkF m 8 #[.val (.ref ad1), .val (.int (0 : Int32)), .val (.long (100 : Int64)), .second, .val .null] [(.long (1073741823 : Int64)), (.long (100 : Int64))]))
  refine Go.step (fun t_ k_ => XS.lcmp X1.here hx rfl (hb hby d2_8) rfl k_) ?_
  show Go p e below _ (T1.setTop (mkF m 9 #[.val (.ref ad1), .val (.int (0 : Int32)), .val (.long (100 : Int64)), .second, .val .null] [(.int (lcmpW (100 : Int64) (1073741823 : Int64)))]))
  rw [show (lcmpW (100 : Int64) (1073741823 : Int64)) = (-1 : Int32) from by decide]
  have hc9 : ¬ ((0 : Int32) < (-1 : Int32)) := by decide
  refine gs.ifYes 26 X1.here hx (hb hby d2_9) ((if0 _ _).trans (flt hc9).2.2.2) rfl ?_
  refine gs.aloadN X1.here hx (hb hby d2_26) rfl rfl ?_
  refine gs.iloadN X1.here hx (hb hby d2_27) rfl ?_
  obtain ⟨T2, h2, X2, e2, W2, st2⟩ := putF X1 hx hZ hown (host := "") (Or.inl (wd hw 13 rfl)) Via.refl e1 HF_ad1_InitialDomain_lowest HE_ad1 (Or.inr ⟨(wd hw 14 rfl), rfl, hnm⟩) (wd hw 5 rfl) (ty := .int) (by decide) rfl rfl (g := (mkF m 28 #[.val (.ref ad1), .val (.int (0 : Int32)), .val (.long (100 : Int64)), .second, .val .null] [(.int (0 : Int32)), (.ref ad1)])) rfl rfl (hb hby d2_28)
  have N2 := Fr.snoc X2 N0 nn_ad1
  have old2 := Ol.wr W2 nn_ad1
  have kp2 := kp0.wr W2 (Or.inl (List.mem_of_getElem? (i := 0) rfl))
  have F2 := HF_ad1_InitialDomain_lowest.same W2
  refine Go.step st2 ?_
  show Go p e below _ (T2.setTop (mkF m 31 #[.val (.ref ad1), .val (.int (0 : Int32)), .val (.long (100 : Int64)), .second, .val .null] []))
  refine gs.aloadN X2.here hx (hb hby d2_31) rfl rfl ?_
  refine gs.lloadN X2.here hx (hb hby d2_32) rfl ?_
  refine Go.step (fun t_ k_ => XS.l2i X2.here hx rfl (hb hby d2_33) rfl k_) ?_
  show Go p e below _ (T2.setTop (mkF m 34 #[.val (.ref ad1), .val (.int (0 : Int32)), .val (.long (100 : Int64)), .second, .val .null] [(.int ((100 : Int64).toInt32)), (.ref ad1)]))
  rw [show ((100 : Int64).toInt32) = (100 : Int32) from by decide]
  have f3 := (HF_ad1_InitialDomain_size.other W2 (Or.inr (sn0 hw)))
  have f4 := (HE_ad1.wr W2)
  obtain ⟨T5, h5, X5, e5, W5, st5⟩ := putF X2 hx hZ hown (host := "") (Or.inl (wd hw 15 rfl)) Via.refl e2 f3 f4 (Or.inr ⟨(wd hw 16 rfl), rfl, hnm⟩) (wd hw 5 rfl) (ty := .int) (by decide) rfl rfl (g := (mkF m 34 #[.val (.ref ad1), .val (.int (0 : Int32)), .val (.long (100 : Int64)), .second, .val .null] [(.int (100 : Int32)), (.ref ad1)])) rfl rfl (hb hby d2_34)
  have N5 := Fr.snoc X5 N2 nn_ad1
  have old5 := old2.wr W5 nn_ad1
  have kp5 := kp2.wr W5 (Or.inl (List.mem_of_getElem? (i := 0) rfl))
  have F5 := f3.same W5
  refine Go.step st5 ?_
  show Go p e below _ (T5.setTop (mkF m 37 #[.val (.ref ad1), .val (.int (0 : Int32)), .val (.long (100 : Int64)), .second, .val .null] []))
  refine gs.aloadN X5.here hx (hb hby d2_37) rfl rfl ?_
  refine gs.aload X5.here hx (hb hby d2_38) rfl rfl ?_
  have f6 := ((HF_ad1_InitialDomain_values.other W2 (Or.inr (sn1 hw))).other W5 (Or.inr (sn2 hw)))
  have f7 := (f4.wr W5)
  obtain ⟨T8, h8, X8, e8, W8, st8⟩ := putF X5 hx hZ hown (host := "") (Or.inl (wd hw 17 rfl)) Via.refl e5 f6 f7 (Or.inr ⟨(wd hw 18 rfl), rfl, hnm⟩) (wd hw 5 rfl) (ty := (.array .int)) (by decide) rfl rfl (g := (mkF m 40 #[.val (.ref ad1), .val (.int (0 : Int32)), .val (.long (100 : Int64)), .second, .val .null] [.null, (.ref ad1)])) rfl rfl (hb hby d2_40)
  have N8 := Fr.snoc X8 N5 nn_ad1
  have old8 := old5.wr W8 nn_ad1
  have kp8 := kp5.wr W8 (Or.inl (List.mem_of_getElem? (i := 0) rfl))
  have F8 := f6.same W8
  refine Go.step st8 ?_
  show Go p e below _ (T8.setTop (mkF m 43 #[.val (.ref ad1), .val (.int (0 : Int32)), .val (.long (100 : Int64)), .second, .val .null] []))
  have f9 := (f7.wr W8)
  have f10 := ((F2.other W5 (Or.inr (sn3 hw))).other W8 (Or.inr (sn4 hw)))
  have f11 := (F5.other W8 (Or.inr (sn5 hw)))
  refine Go.retV X8 hx Bd.returns Bd.notSynchronized (hb hby d2_43) (by rw [e8]; exact ⟨rfl, N8, kp8, f9, f10, f11, F8⟩) (by decide) (by decide)
theorem ef_am1_2 (m : MethodId) (x0 : Int32) (x1 : Int32)  : entryFrame m #[(.int x0), (.int x1)] 2 = mkF m 0 #[.val (.int x0), .val (.int x1)] [] := by first | (simp [entryFrame, mkF, argsToLocals, Value.category]; done) | rfl
def Q_am1_2 (Z : State) (a_EMPTY_ELEMENTDATA : Addr) (aw0 : Addr) (ka_EMPTY_ELEMENTDATA : ClassId) (kaw0 : ClassId)  (h0 : Heap) (n0 : Nat) (v : Option Value) (h : Heap) (L : List Loc) : Prop := ∃ fr1 : Addr, v = some (.ref fr1) ∧ h0.size ≤ fr1 ∧ Fr n0 L ∧ Keep h0 h [] ∧ (Exa Z h fr1 "com/example/monarc/monarc/InitialDomain") ∧ (Fld Z h fr1 "com/example/monarc/monarc/InitialDomain" "lowest" "I" (.int (0 : Int32))) ∧ (Fld Z h fr1 "com/example/monarc/monarc/InitialDomain" "size" "I" (.int (100 : Int32))) ∧ (Fld Z h fr1 "com/example/monarc/monarc/InitialDomain" "values" "[I" .null)
set_option maxRecDepth 65536 in
set_option maxHeartbeats 40000000 in
theorem am1_2 (l : Launch) (Z : State) (a0 : Array Value) (hw : ∀ d ∈ tables_1, d.before a0 Z = true) (ws : List Jvm.Cond) (a_EMPTY_ELEMENTDATA : Addr) (aw0 : Addr) (ka_EMPTY_ELEMENTDATA : ClassId) (kaw0 : ClassId) (HW : Wd Z a_EMPTY_ELEMENTDATA aw0 ka_EMPTY_ELEMENTDATA kaw0)  (h0 : Heap) (n0 : Nat) (Ol : Old Z n0 h0)  :
    MetFree l y_1 (head1 (Jvm.Cond.code y_1 prog_20_method_2_code 2 (some (.object "com/example/monarc/monarc/InitialDomain")) :: ws) ({ frames := 2, cells := 1, slots := 3, locals := 29 } : Room)) (fun a_ U_ => a_ = #[(.int (0 : Int32)), (.int (99 : Int32))] ∧ Z.Warmed39 U_.vm ∧ U_.heap = h0) (fun _ _ _ _ _ => True) (fun _ U_ o_ V_ => ∃ v_ L_, o_ = .returned v_ ∧ Q_am1_2 Z a_EMPTY_ELEMENTDATA aw0 ka_EMPTY_ELEMENTDATA kaw0  h0 n0 v_ V_.heap L_ ∧ FrameEnd U_ o_ V_ L_ ({ frames := 2, cells := 1, slots := 3, locals := 29 } : Room).cells ({ frames := 2, cells := 1, slots := 3, locals := 29 } : Room).slots) := by
  refine MetFree.of_bodySF (plainFor_of_name pn_0) hisR ?_
  intro p e s m args below meth c s₁ Bd hml0 hP hK
  obtain ⟨rfl, hZ, hh⟩ := hP
  have hx := Bd.exec
  have hby := Bd.bytes
  have hml : c.maxLocals = 2 := hml0
  have hown : s.vm.findClass "com/example/monarc/monarc/InitialDomain" = some m.cls := findClass_of_methodNamed Bd.named
  have hnm := (name_of_methodNamed Bd.named Bd.method).1
  have X0 : Stand p l e ({ frames := 2, cells := 1, slots := 3, locals := 29 } : Room) s m #[(.int (0 : Int32)), (.int (99 : Int32))] below meth c s₁ [] 0 0 := Stand.of_body Bd
  have e0 : s₁.heap = h0 := by rw [← hh, Bd.state]; rfl
  have N0 := Fr.nil n0
  have kp0 := Keep.refl h0 []
  show Go p e below (Fin1 s below (Q_am1_2 Z a_EMPTY_ELEMENTDATA aw0 ka_EMPTY_ELEMENTDATA kaw0  h0 n0) ({ frames := 2, cells := 1, slots := 3, locals := 29 } : Room).cells ({ frames := 2, cells := 1, slots := 3, locals := 29 } : Room).slots) _
  refine Go.step (fun t_ k_ => castTop (ef_am1_2 m (0 : Int32) (99 : Int32)) k_) ?_
  obtain ⟨Ea_EMPTY_ELEMENTDATA, Sa_EMPTY_ELEMENTDATA, Eaw0, Saw0, Aa_EMPTY_ELEMENTDATA, Aaw0⟩ := id HW
  show Go p e below _ (s₁.setTop (mkF m 0 #[.val (.int (0 : Int32)), .val (.int (99 : Int32))] []))
  refine gs.iloadN X0.here hx (hb hby d1_0) rfl ?_
  refine gs.iloadN X0.here hx (hb hby d1_1) rfl ?_
  have hc2 : ¬ ((99 : Int32) < (0 : Int32)) := by decide
  refine gs.icmpYes 20 X0.here hx (hb hby d1_2) (flt hc2).2.1 rfl ?_
  obtain ⟨T1, h1, X1, e1, E1, A1, D1, Y1, st1⟩ := newO X0 hx hZ hown (wd hw 4 rfl) (wd hw 5 rfl) (wd hw 2 rfl) e0 (g := (mkF m 20 #[.val (.int (0 : Int32)), .val (.int (99 : Int32))] [])) rfl (hb hby d1_20) (by decide) (by decide)
  obtain ⟨b1, g1⟩ : ∃ z, z = h0.size := ⟨_, rfl⟩
  rw [← g1] at A1 D1 Y1 st1
  have nn_b1 : n0 ≤ b1 := Nat.le_trans (old_z0 Ol) (Nat.le_of_eq g1.symm)
  have sz_b1 : h0.size ≤ b1 := Nat.le_trans kp0.1 (Nat.le_of_eq g1.symm)
  have old1 := Ol.ext E1
  have kp1 := kp0.ext E1
  have F1_lowest : Fld Z h1 b1 "com/example/monarc/monarc/InitialDomain" "lowest" "I" (.int (0 : Int32)) := D1 (Or.inr (wd hw 14 rfl)) (ty := .int) (by decide)
  have F1_size : Fld Z h1 b1 "com/example/monarc/monarc/InitialDomain" "size" "I" (.int (0 : Int32)) := D1 (Or.inr (wd hw 16 rfl)) (ty := .int) (by decide)
  have F1_values : Fld Z h1 b1 "com/example/monarc/monarc/InitialDomain" "values" "[I" .null := D1 (Or.inr (wd hw 18 rfl)) (ty := (.array .int)) (by decide)
  refine Go.step st1 ?_
  show Go p e below _ (T1.setTop (mkF m 23 #[.val (.int (0 : Int32)), .val (.int (99 : Int32))] [(.ref b1)]))
  refine gs.dup X1.here hx (hb hby d1_23) rfl ?_
  refine gs.iloadN X1.here hx (hb hby d1_24) rfl ?_
  refine gs.iloadN X1.here hx (hb hby d1_25) rfl ?_
  refine Go.step (fun t_ k_ => XS.i2l X1.here hx rfl (hb hby d1_26) rfl k_) ?_
  show Go p e below _ (T1.setTop (mkF m 27 #[.val (.int (0 : Int32)), .val (.int (99 : Int32))] [(.long ((99 : Int32).toInt64)), (.int (0 : Int32)), (.ref b1), (.ref b1)]))
  rw [show ((99 : Int32).toInt64) = (99 : Int64) from by decide]
  refine gs.iloadN X1.here hx (hb hby d1_27) rfl ?_
  refine Go.step (fun t_ k_ => XS.i2l X1.here hx rfl (hb hby d1_28) rfl k_) ?_
  show Go p e below _ (T1.setTop (mkF m 29 #[.val (.int (0 : Int32)), .val (.int (99 : Int32))] [(.long ((0 : Int32).toInt64)), (.long (99 : Int64)), (.int (0 : Int32)), (.ref b1), (.ref b1)]))
  rw [show ((0 : Int32).toInt64) = (0 : Int64) from by decide]
  refine gs.lsub X1.here hx (hb hby d1_29) ?_
  rw [show ((99 : Int64) - (0 : Int64)) = (99 : Int64) from by decide]
  refine Go.step (fun t_ k_ => XS.lconst X1.here hx rfl (hb hby d1_30) k_) ?_
  show Go p e below _ (T1.setTop (mkF m 31 #[.val (.int (0 : Int32)), .val (.int (99 : Int32))] [(.long (1 : Int64)), (.long (99 : Int64)), (.int (0 : Int32)), (.ref b1), (.ref b1)]))
  refine gs.ladd X1.here hx (hb hby d1_31) ?_
  rw [show ((99 : Int64) + (1 : Int64)) = (100 : Int64) from by decide]
  refine gs.aconstNull X1.here hx (hb hby d1_32) ?_
  obtain ⟨_, _, ⟨T2, L2, k2, n2⟩, -, X2, ⟨Lc2, hQ2, l2, y2, z2⟩, st2⟩ := X1.specialBack hx (y := y_2) rfl hown (mvT hZ (wd hw 6 rfl)) (mvT hZ (wd hw 7 rfl)) (mvT hZ (wd hw 8 rfl)) (by decide) (backOf (W := 1) (am2_2 l Z a0 hw [] a_EMPTY_ELEMENTDATA aw0 ka_EMPTY_ELEMENTDATA kaw0 HW (b1) h1 n0 old1 A1 F1_lowest F1_size F1_values nn_b1) hZ (wd hw 8 rfl) (wd hw 2 rfl) (by decide) (by decide)) (g := (mkF m 33 #[.val (.int (0 : Int32)), .val (.int (99 : Int32))] [.null, (.long (100 : Int64)), (.int (0 : Int32)), (.ref b1), (.ref b1)])) rfl (by rw [hml]; rfl) (Steps.refl _) (a := b1) (argsL := [(.int (0 : Int32)), (.long (100 : Int64)), .null]) (rest := [(.ref b1)]) (lenOf pd_0 rfl) rfl (by show 2 * 0 + _ ≤ _; exact Nat.le_of_eq rfl) (hb hby d1_33) (fun _ _ => ⟨rfl, e1, (by decide : 1 + 0 ≤ _), (by decide : 3 + 0 ≤ _)⟩)
  dsimp only [Pt.U, Pt.locs, Pt.cells, Pt.slots] at X2 l2 y2 z2 st2 hQ2
  subst l2 y2 z2
  obtain ⟨rfl, Nq2, K2, p2_0, p2_1, p2_2, p2_3⟩ := hQ2
  have old2 := old1.keep K2 (allS nn_b1 all0)
  have kp2 := kp1.trans K2 (allS (Or.inr sz_b1) all0)
  have N2 := Fr.app N0 Nq2
  refine Go.step (fun t_ k_ => st2.trans k_) ?_
  show Go p e below _ (T2.setTop (mkF m 36 #[.val (.int (0 : Int32)), .val (.int (99 : Int32))] [(.ref b1)]))
  refine Go.retR X2 hx Bd.returns rfl rfl Bd.notSynchronized (hb hby d1_36) (by exact ⟨b1, rfl, sz_b1, N2, kp2, p2_0, p2_1, p2_2, p2_3⟩) (by decide) (by decide)
theorem d4_0 : decode jdk_38_method_2_code 0 = .ok (.aload_n 0, 1) := by decide +kernel
theorem d4_1 : decode jdk_38_method_2_code 1 = .ok (.invokespecial 1, 3) := by decide +kernel
theorem d5_0 : decode jdk_39_method_1_code 0 = .ok (.aload_n 0, 1) := by decide +kernel
theorem d5_1 : decode jdk_39_method_1_code 1 = .ok (.invokespecial 1, 3) := by decide +kernel
theorem d6_0 : decode jdk_22_method_1_code 0 = .ok (.aload_n 0, 1) := by decide +kernel
theorem d6_1 : decode jdk_22_method_1_code 1 = .ok (.invokespecial 1, 3) := by decide +kernel
theorem d6_4 : decode jdk_22_method_1_code 4 = .ok (.return_, 1) := by decide +kernel
theorem pn_1 : plainName "java/util/AbstractCollection" = true := by first | (simp [plainName, overriddenIn]; done) | decide +kernel
theorem ef_am6_1 (m : MethodId) (x0 : Addr)  : entryFrame m #[(.ref x0)] 1 = mkF m 0 #[.val (.ref x0)] [] := by first | (simp [entryFrame, mkF, argsToLocals, Value.category]; done) | rfl
def Q_am6_1 (Z : State) (a_EMPTY_ELEMENTDATA : Addr) (aw0 : Addr) (ka_EMPTY_ELEMENTDATA : ClassId) (kaw0 : ClassId) (ad1 : Addr) (h0 : Heap) (n0 : Nat) (v : Option Value) (h : Heap) (L : List Loc) : Prop := v = none ∧ Fr n0 L ∧ h = h0
set_option maxRecDepth 65536 in
set_option maxHeartbeats 40000000 in
theorem am6_1 (l : Launch) (Z : State) (a0 : Array Value) (hw : ∀ d ∈ tables_1, d.before a0 Z = true) (ws : List Jvm.Cond) (a_EMPTY_ELEMENTDATA : Addr) (aw0 : Addr) (ka_EMPTY_ELEMENTDATA : ClassId) (kaw0 : ClassId) (HW : Wd Z a_EMPTY_ELEMENTDATA aw0 ka_EMPTY_ELEMENTDATA kaw0) (ad1 : Addr) (h0 : Heap) (n0 : Nat) (Ol : Old Z n0 h0)  :
    MetFree l y_6 (head1 (Jvm.Cond.code y_6 jdk_22_method_1_code 1 none :: ws) ({ frames := 1, cells := 0, slots := 0, locals := 12 } : Room)) (fun a_ U_ => a_ = #[(.ref ad1)] ∧ Z.Warmed39 U_.vm ∧ U_.heap = h0) (fun _ _ _ _ _ => True) (fun _ U_ o_ V_ => ∃ v_ L_, o_ = .returned v_ ∧ Q_am6_1 Z a_EMPTY_ELEMENTDATA aw0 ka_EMPTY_ELEMENTDATA kaw0 ad1 h0 n0 v_ V_.heap L_ ∧ FrameEnd U_ o_ V_ L_ ({ frames := 1, cells := 0, slots := 0, locals := 12 } : Room).cells ({ frames := 1, cells := 0, slots := 0, locals := 12 } : Room).slots) := by
  refine MetFree.of_bodySF (plainFor_of_name pn_1) hisR ?_
  intro p e s m args below meth c s₁ Bd hml0 hP hK
  obtain ⟨rfl, hZ, hh⟩ := hP
  have hx := Bd.exec
  have hby := Bd.bytes
  have hml : c.maxLocals = 1 := hml0
  have hown : s.vm.findClass "java/util/AbstractCollection" = some m.cls := findClass_of_methodNamed Bd.named
  have hnm := (name_of_methodNamed Bd.named Bd.method).1
  have X0 : Stand p l e ({ frames := 1, cells := 0, slots := 0, locals := 12 } : Room) s m #[(.ref ad1)] below meth c s₁ [] 0 0 := Stand.of_body Bd
  have e0 : s₁.heap = h0 := by rw [← hh, Bd.state]; rfl
  have N0 := Fr.nil n0
  have kp0 := Keep.refl h0 []
  show Go p e below (Fin1 s below (Q_am6_1 Z a_EMPTY_ELEMENTDATA aw0 ka_EMPTY_ELEMENTDATA kaw0 ad1 h0 n0) ({ frames := 1, cells := 0, slots := 0, locals := 12 } : Room).cells ({ frames := 1, cells := 0, slots := 0, locals := 12 } : Room).slots) _
  refine Go.step (fun t_ k_ => castTop (ef_am6_1 m ad1) k_) ?_
  obtain ⟨Ea_EMPTY_ELEMENTDATA, Sa_EMPTY_ELEMENTDATA, Eaw0, Saw0, Aa_EMPTY_ELEMENTDATA, Aaw0⟩ := id HW
  show Go p e below _ (s₁.setTop (mkF m 0 #[.val (.ref ad1)] []))
  refine gs.aloadN X0.here hx (hb hby d6_0) rfl rfl ?_
  obtain ⟨T1, X1, e1, st1⟩ := initO X0 hx hZ hown (wd hw 37 rfl) (wd hw 10 rfl) (wd hw 11 rfl) e0 (g := (mkF m 1 #[.val (.ref ad1)] [(.ref ad1)])) rfl (by rw [hml]; rfl) rfl (hb hby d6_1) (by decide) (W := 0) (by show 2 * 0 + _ ≤ _; exact Nat.le_of_eq rfl) (by decide)
  refine Go.step st1 ?_
  show Go p e below _ (T1.setTop (mkF m 4 #[.val (.ref ad1)] []))
  refine Go.retV X1 hx Bd.returns Bd.notSynchronized (hb hby d6_4) (by rw [e1]; exact ⟨rfl, N0, rfl⟩) (by decide) (by decide)
theorem pd_2 : parseMethodDescriptor "()V" = some ⟨[], none⟩ := by decide +kernel
theorem d5_4 : decode jdk_39_method_1_code 4 = .ok (.aload_n 0, 1) := by decide +kernel
theorem d5_5 : decode jdk_39_method_1_code 5 = .ok (.iconst 0, 1) := by decide +kernel
theorem d5_6 : decode jdk_39_method_1_code 6 = .ok (.putfield 7, 3) := by decide +kernel
theorem d5_9 : decode jdk_39_method_1_code 9 = .ok (.return_, 1) := by decide +kernel
theorem sn6 {a0 : Array Value} {Z : State} (hw : ∀ d ∈ tables_1, d.before a0 Z = true) : Jvm.RoadKit.slotOf Z "java/util/ArrayList" "elementData" "[Ljava/lang/Object;" ≠ Jvm.RoadKit.slotOf Z "java/util/AbstractList" "modCount" "I" := slot_ne (Or.inl (wd hw 42 rfl)) (Or.inl (wd hw 39 rfl)) (by decide) (t := (.array (.object "java/lang/Object"))) (t' := .int) (by decide) (by decide)
theorem sn7 {a0 : Array Value} {Z : State} (hw : ∀ d ∈ tables_1, d.before a0 Z = true) : Jvm.RoadKit.slotOf Z "java/util/ArrayList" "size" "I" ≠ Jvm.RoadKit.slotOf Z "java/util/AbstractList" "modCount" "I" := slot_ne (Or.inl (wd hw 77 rfl)) (Or.inl (wd hw 39 rfl)) (by decide) (t := .int) (t' := .int) (by decide) (by decide)
theorem pn_2 : plainName "java/util/AbstractList" = true := by first | (simp [plainName, overriddenIn]; done) | decide +kernel
theorem ef_am5_1 (m : MethodId) (x0 : Addr)  : entryFrame m #[(.ref x0)] 1 = mkF m 0 #[.val (.ref x0)] [] := by first | (simp [entryFrame, mkF, argsToLocals, Value.category]; done) | rfl
def Q_am5_1 (Z : State) (a_EMPTY_ELEMENTDATA : Addr) (aw0 : Addr) (ka_EMPTY_ELEMENTDATA : ClassId) (kaw0 : ClassId) (ad1 : Addr) (h0 : Heap) (n0 : Nat) (v : Option Value) (h : Heap) (L : List Loc) : Prop := v = none ∧ Fr n0 L ∧ Keep h0 h [ad1] ∧ (Exa Z h ad1 "java/util/ArrayList") ∧ (Fld Z h ad1 "java/util/AbstractList" "modCount" "I" (.int (0 : Int32))) ∧ (Fld Z h ad1 "java/util/ArrayList" "elementData" "[Ljava/lang/Object;" .null) ∧ (Fld Z h ad1 "java/util/ArrayList" "size" "I" (.int (0 : Int32)))
set_option maxRecDepth 65536 in
set_option maxHeartbeats 40000000 in
theorem am5_1 (l : Launch) (Z : State) (a0 : Array Value) (hw : ∀ d ∈ tables_1, d.before a0 Z = true) (ws : List Jvm.Cond) (a_EMPTY_ELEMENTDATA : Addr) (aw0 : Addr) (ka_EMPTY_ELEMENTDATA : ClassId) (kaw0 : ClassId) (HW : Wd Z a_EMPTY_ELEMENTDATA aw0 ka_EMPTY_ELEMENTDATA kaw0) (ad1 : Addr) (h0 : Heap) (n0 : Nat) (Ol : Old Z n0 h0) (HE_ad1 : Exa Z h0 ad1 "java/util/ArrayList") (HF_ad1_AbstractList_modCount : Fld Z h0 ad1 "java/util/AbstractList" "modCount" "I" (.int (0 : Int32))) (HF_ad1_ArrayList_elementData : Fld Z h0 ad1 "java/util/ArrayList" "elementData" "[Ljava/lang/Object;" .null) (HF_ad1_ArrayList_size : Fld Z h0 ad1 "java/util/ArrayList" "size" "I" (.int (0 : Int32))) (nn_ad1 : n0 ≤ ad1) :
    MetFree l y_5 (head1 (Jvm.Cond.code y_5 jdk_39_method_1_code 1 none :: ws) ({ frames := 2, cells := 0, slots := 0, locals := 24 } : Room)) (fun a_ U_ => a_ = #[(.ref ad1)] ∧ Z.Warmed39 U_.vm ∧ U_.heap = h0) (fun _ _ _ _ _ => True) (fun _ U_ o_ V_ => ∃ v_ L_, o_ = .returned v_ ∧ Q_am5_1 Z a_EMPTY_ELEMENTDATA aw0 ka_EMPTY_ELEMENTDATA kaw0 ad1 h0 n0 v_ V_.heap L_ ∧ FrameEnd U_ o_ V_ L_ ({ frames := 2, cells := 0, slots := 0, locals := 24 } : Room).cells ({ frames := 2, cells := 0, slots := 0, locals := 24 } : Room).slots) := by
  refine MetFree.of_bodySF (plainFor_of_name pn_2) hisR ?_
  intro p e s m args below meth c s₁ Bd hml0 hP hK
  obtain ⟨rfl, hZ, hh⟩ := hP
  have hx := Bd.exec
  have hby := Bd.bytes
  have hml : c.maxLocals = 1 := hml0
  have hown : s.vm.findClass "java/util/AbstractList" = some m.cls := findClass_of_methodNamed Bd.named
  have hnm := (name_of_methodNamed Bd.named Bd.method).1
  have X0 : Stand p l e ({ frames := 2, cells := 0, slots := 0, locals := 24 } : Room) s m #[(.ref ad1)] below meth c s₁ [] 0 0 := Stand.of_body Bd
  have e0 : s₁.heap = h0 := by rw [← hh, Bd.state]; rfl
  have N0 := Fr.nil n0
  have kp0 := Keep.refl h0 [ad1]
  show Go p e below (Fin1 s below (Q_am5_1 Z a_EMPTY_ELEMENTDATA aw0 ka_EMPTY_ELEMENTDATA kaw0 ad1 h0 n0) ({ frames := 2, cells := 0, slots := 0, locals := 24 } : Room).cells ({ frames := 2, cells := 0, slots := 0, locals := 24 } : Room).slots) _
  refine Go.step (fun t_ k_ => castTop (ef_am5_1 m ad1) k_) ?_
  obtain ⟨Ea_EMPTY_ELEMENTDATA, Sa_EMPTY_ELEMENTDATA, Eaw0, Saw0, Aa_EMPTY_ELEMENTDATA, Aaw0⟩ := id HW
  show Go p e below _ (s₁.setTop (mkF m 0 #[.val (.ref ad1)] []))
  refine gs.aloadN X0.here hx (hb hby d5_0) rfl rfl ?_
  obtain ⟨_, _, ⟨T1, L1, k1, n1⟩, -, X1, ⟨Lc1, hQ1, l1, y1, z1⟩, st1⟩ := X0.specialBack hx (y := y_6) rfl hown (mvT hZ (wd hw 31 rfl)) (mvT hZ (wd hw 32 rfl)) (mvT hZ (wd hw 36 rfl)) (by decide) (backOf (W := 0) (am6_1 l Z a0 hw [] a_EMPTY_ELEMENTDATA aw0 ka_EMPTY_ELEMENTDATA kaw0 HW (ad1) h0 n0 Ol ) hZ (wd hw 36 rfl) (wd hw 35 rfl) (by decide) (by decide)) (g := (mkF m 1 #[.val (.ref ad1)] [(.ref ad1)])) rfl (by rw [hml]; rfl) (Steps.refl _) (a := ad1) (argsL := []) (rest := []) (lenOf pd_2 rfl) rfl (by show 2 * 0 + _ ≤ _; exact Nat.le_of_eq rfl) (hb hby d5_1) (fun _ _ => ⟨rfl, e0, (by decide : 0 + 0 ≤ _), (by decide : 0 + 0 ≤ _)⟩)
  dsimp only [Pt.U, Pt.locs, Pt.cells, Pt.slots] at X1 l1 y1 z1 st1 hQ1
  subst l1 y1 z1
  obtain ⟨rfl, Nq1, e1⟩ := hQ1
  have N1 := Fr.app N0 Nq1
  refine Go.step (fun t_ k_ => st1.trans k_) ?_
  show Go p e below _ (T1.setTop (mkF m 4 #[.val (.ref ad1)] []))
  refine gs.aloadN X1.here hx (hb hby d5_4) rfl rfl ?_
  refine gs.iconst 0 X1.here hx (hb hby d5_5) rfl ?_
  obtain ⟨T2, h2, X2, e2, W2, st2⟩ := putF X1 hx hZ hown (host := "") (Or.inl (wd hw 38 rfl)) Via.refl e1 HF_ad1_AbstractList_modCount HE_ad1 (Or.inl (wd hw 39 rfl)) (wd hw 20 rfl) (ty := .int) (by decide) rfl rfl (g := (mkF m 6 #[.val (.ref ad1)] [(.int (0 : Int32)), (.ref ad1)])) rfl rfl (hb hby d5_6)
  have N2 := Fr.snoc X2 N1 nn_ad1
  have old2 := Ol.wr W2 nn_ad1
  have kp2 := kp0.wr W2 (Or.inl (List.mem_of_getElem? (i := 0) rfl))
  have F2 := HF_ad1_AbstractList_modCount.same W2
  refine Go.step st2 ?_
  show Go p e below _ (T2.setTop (mkF m 9 #[.val (.ref ad1)] []))
  have f3 := (HE_ad1.wr W2)
  have f4 := (HF_ad1_ArrayList_elementData.other W2 (Or.inr (sn6 hw)))
  have f5 := (HF_ad1_ArrayList_size.other W2 (Or.inr (sn7 hw)))
  refine Go.retV X2 hx Bd.returns Bd.notSynchronized (hb hby d5_9) (by rw [e2]; exact ⟨rfl, N2, kp2, f3, F2, f4, f5⟩) (by decide) (by decide)
theorem d4_4 : decode jdk_38_method_2_code 4 = .ok (.aload_n 0, 1) := by decide +kernel
theorem d4_5 : decode jdk_38_method_2_code 5 = .ok (.getstatic 39, 3) := by decide +kernel
theorem d4_8 : decode jdk_38_method_2_code 8 = .ok (.putfield 9, 3) := by decide +kernel
theorem d4_11 : decode jdk_38_method_2_code 11 = .ok (.return_, 1) := by decide +kernel
theorem sn8 {a0 : Array Value} {Z : State} (hw : ∀ d ∈ tables_1, d.before a0 Z = true) : Jvm.RoadKit.slotOf Z "java/util/AbstractList" "modCount" "I" ≠ Jvm.RoadKit.slotOf Z "java/util/ArrayList" "elementData" "[Ljava/lang/Object;" := slot_ne (Or.inl (wd hw 39 rfl)) (Or.inl (wd hw 42 rfl)) (by decide) (t := .int) (t' := (.array (.object "java/lang/Object"))) (by decide) (by decide)
theorem sn9 {a0 : Array Value} {Z : State} (hw : ∀ d ∈ tables_1, d.before a0 Z = true) : Jvm.RoadKit.slotOf Z "java/util/ArrayList" "size" "I" ≠ Jvm.RoadKit.slotOf Z "java/util/ArrayList" "elementData" "[Ljava/lang/Object;" := slot_ne (Or.inl (wd hw 77 rfl)) (Or.inl (wd hw 42 rfl)) (by decide) (t := .int) (t' := (.array (.object "java/lang/Object"))) (by decide) (by decide)
theorem pn_3 : plainName "java/util/ArrayList" = true := by first | (simp [plainName, overriddenIn]; done) | decide +kernel
theorem ef_am4_1 (m : MethodId) (x0 : Addr)  : entryFrame m #[(.ref x0)] 1 = mkF m 0 #[.val (.ref x0)] [] := by first | (simp [entryFrame, mkF, argsToLocals, Value.category]; done) | rfl
def Q_am4_1 (Z : State) (a_EMPTY_ELEMENTDATA : Addr) (aw0 : Addr) (ka_EMPTY_ELEMENTDATA : ClassId) (kaw0 : ClassId) (ad1 : Addr) (h0 : Heap) (n0 : Nat) (v : Option Value) (h : Heap) (L : List Loc) : Prop := v = none ∧ Fr n0 L ∧ Keep h0 h [ad1] ∧ (Exa Z h ad1 "java/util/ArrayList") ∧ (Fld Z h ad1 "java/util/AbstractList" "modCount" "I" (.int (0 : Int32))) ∧ (Fld Z h ad1 "java/util/ArrayList" "elementData" "[Ljava/lang/Object;" (.ref aw0)) ∧ (Fld Z h ad1 "java/util/ArrayList" "size" "I" (.int (0 : Int32)))
set_option maxRecDepth 65536 in
set_option maxHeartbeats 40000000 in
theorem am4_1 (l : Launch) (Z : State) (a0 : Array Value) (hw : ∀ d ∈ tables_1, d.before a0 Z = true) (ws : List Jvm.Cond) (a_EMPTY_ELEMENTDATA : Addr) (aw0 : Addr) (ka_EMPTY_ELEMENTDATA : ClassId) (kaw0 : ClassId) (HW : Wd Z a_EMPTY_ELEMENTDATA aw0 ka_EMPTY_ELEMENTDATA kaw0) (ad1 : Addr) (h0 : Heap) (n0 : Nat) (Ol : Old Z n0 h0) (HE_ad1 : Exa Z h0 ad1 "java/util/ArrayList") (HF_ad1_AbstractList_modCount : Fld Z h0 ad1 "java/util/AbstractList" "modCount" "I" (.int (0 : Int32))) (HF_ad1_ArrayList_elementData : Fld Z h0 ad1 "java/util/ArrayList" "elementData" "[Ljava/lang/Object;" .null) (HF_ad1_ArrayList_size : Fld Z h0 ad1 "java/util/ArrayList" "size" "I" (.int (0 : Int32))) (nn_ad1 : n0 ≤ ad1) :
    MetFree l y_4 (head1 (Jvm.Cond.code y_4 jdk_38_method_2_code 1 none :: ws) ({ frames := 3, cells := 0, slots := 0, locals := 36 } : Room)) (fun a_ U_ => a_ = #[(.ref ad1)] ∧ Z.Warmed39 U_.vm ∧ U_.heap = h0) (fun _ _ _ _ _ => True) (fun _ U_ o_ V_ => ∃ v_ L_, o_ = .returned v_ ∧ Q_am4_1 Z a_EMPTY_ELEMENTDATA aw0 ka_EMPTY_ELEMENTDATA kaw0 ad1 h0 n0 v_ V_.heap L_ ∧ FrameEnd U_ o_ V_ L_ ({ frames := 3, cells := 0, slots := 0, locals := 36 } : Room).cells ({ frames := 3, cells := 0, slots := 0, locals := 36 } : Room).slots) := by
  refine MetFree.of_bodySF (plainFor_of_name pn_3) hisR ?_
  intro p e s m args below meth c s₁ Bd hml0 hP hK
  obtain ⟨rfl, hZ, hh⟩ := hP
  have hx := Bd.exec
  have hby := Bd.bytes
  have hml : c.maxLocals = 1 := hml0
  have hown : s.vm.findClass "java/util/ArrayList" = some m.cls := findClass_of_methodNamed Bd.named
  have hnm := (name_of_methodNamed Bd.named Bd.method).1
  have X0 : Stand p l e ({ frames := 3, cells := 0, slots := 0, locals := 36 } : Room) s m #[(.ref ad1)] below meth c s₁ [] 0 0 := Stand.of_body Bd
  have e0 : s₁.heap = h0 := by rw [← hh, Bd.state]; rfl
  have N0 := Fr.nil n0
  have kp0 := Keep.refl h0 [ad1]
  show Go p e below (Fin1 s below (Q_am4_1 Z a_EMPTY_ELEMENTDATA aw0 ka_EMPTY_ELEMENTDATA kaw0 ad1 h0 n0) ({ frames := 3, cells := 0, slots := 0, locals := 36 } : Room).cells ({ frames := 3, cells := 0, slots := 0, locals := 36 } : Room).slots) _
  refine Go.step (fun t_ k_ => castTop (ef_am4_1 m ad1) k_) ?_
  obtain ⟨Ea_EMPTY_ELEMENTDATA, Sa_EMPTY_ELEMENTDATA, Eaw0, Saw0, Aa_EMPTY_ELEMENTDATA, Aaw0⟩ := id HW
  show Go p e below _ (s₁.setTop (mkF m 0 #[.val (.ref ad1)] []))
  refine gs.aloadN X0.here hx (hb hby d4_0) rfl rfl ?_
  obtain ⟨_, _, ⟨T1, L1, k1, n1⟩, -, X1, ⟨Lc1, hQ1, l1, y1, z1⟩, st1⟩ := X0.specialBack hx (y := y_5) rfl hown (mvT hZ (wd hw 25 rfl)) (mvT hZ (wd hw 26 rfl)) (mvT hZ (wd hw 30 rfl)) (by decide) (backOf (W := 0) (am5_1 l Z a0 hw [] a_EMPTY_ELEMENTDATA aw0 ka_EMPTY_ELEMENTDATA kaw0 HW (ad1) h0 n0 Ol HE_ad1 HF_ad1_AbstractList_modCount HF_ad1_ArrayList_elementData HF_ad1_ArrayList_size nn_ad1) hZ (wd hw 30 rfl) (wd hw 29 rfl) (by decide) (by decide)) (g := (mkF m 1 #[.val (.ref ad1)] [(.ref ad1)])) rfl (by rw [hml]; rfl) (Steps.refl _) (a := ad1) (argsL := []) (rest := []) (lenOf pd_2 rfl) rfl (by show 2 * 0 + _ ≤ _; exact Nat.le_of_eq rfl) (hb hby d4_1) (fun _ _ => ⟨rfl, e0, (by decide : 0 + 0 ≤ _), (by decide : 0 + 0 ≤ _)⟩)
  dsimp only [Pt.U, Pt.locs, Pt.cells, Pt.slots] at X1 l1 y1 z1 st1 hQ1
  subst l1 y1 z1
  obtain ⟨rfl, Nq1, K1, p1_0, p1_1, p1_2, p1_3⟩ := hQ1
  have old1 := Ol.keep K1 (allS nn_ad1 all0)
  have kp1 := kp0.trans K1 (allS (Or.inl (List.mem_of_getElem? (i := 0) rfl)) all0)
  have N1 := Fr.app N0 Nq1
  refine Go.step (fun t_ k_ => st1.trans k_) ?_
  show Go p e below _ (T1.setTop (mkF m 4 #[.val (.ref ad1)] []))
  refine gs.aloadN X1.here hx (hb hby d4_4) rfl rfl ?_
  obtain ⟨T2, X2, e2, st2⟩ := getS2 X1 hx hZ hown (host := "") (Or.inl (wd hw 40 rfl)) Via.refl rfl (Saw0.ext old1.2) (g := (mkF m 5 #[.val (.ref ad1)] [(.ref ad1)])) rfl (hb hby d4_5)
  refine Go.step st2 ?_
  show Go p e below _ (T2.setTop (mkF m 8 #[.val (.ref ad1)] [(.ref aw0), (.ref ad1)]))
  obtain ⟨T3, h3, X3, e3, W3, st3⟩ := putF X2 hx hZ hown (host := "") (Or.inl (wd hw 41 rfl)) Via.refl e2 p1_2 p1_0 (Or.inl (wd hw 42 rfl)) (wd hw 20 rfl) (ty := (.array (.object "java/lang/Object"))) (by decide) rfl rfl (g := (mkF m 8 #[.val (.ref ad1)] [(.ref aw0), (.ref ad1)])) rfl rfl (hb hby d4_8)
  have N3 := Fr.snoc X3 N1 nn_ad1
  have old3 := old1.wr W3 nn_ad1
  have kp3 := kp1.wr W3 (Or.inl (List.mem_of_getElem? (i := 0) rfl))
  have F3 := p1_2.same W3
  refine Go.step st3 ?_
  show Go p e below _ (T3.setTop (mkF m 11 #[.val (.ref ad1)] []))
  have f4 := (p1_0.wr W3)
  have f5 := (p1_1.other W3 (Or.inr (sn8 hw)))
  have f6 := (p1_3.other W3 (Or.inr (sn9 hw)))
  refine Go.retV X3 hx Bd.returns Bd.notSynchronized (hb hby d4_11) (by rw [e3]; exact ⟨rfl, N3, kp3, f4, f5, F3, f6⟩) (by decide) (by decide)
theorem d7_0 : decode prog_76_method_1_code 0 = .ok (.aload_n 0, 1) := by decide +kernel
theorem d7_1 : decode prog_76_method_1_code 1 = .ok (.invokespecial 1, 3) := by decide +kernel
theorem d8_0 : decode prog_70_method_1_code 0 = .ok (.aload_n 0, 1) := by decide +kernel
theorem d8_1 : decode prog_70_method_1_code 1 = .ok (.invokespecial 1, 3) := by decide +kernel
theorem d8_4 : decode prog_70_method_1_code 4 = .ok (.return_, 1) := by decide +kernel
theorem pn_4 : plainName "com/example/monarc/monarc/Term" = true := by first | (simp [plainName, overriddenIn]; done) | decide +kernel
theorem ef_am8_1 (m : MethodId) (x0 : Addr)  : entryFrame m #[(.ref x0)] 1 = mkF m 0 #[.val (.ref x0)] [] := by first | (simp [entryFrame, mkF, argsToLocals, Value.category]; done) | rfl
def Q_am8_1 (Z : State) (a_EMPTY_ELEMENTDATA : Addr) (aw0 : Addr) (ka_EMPTY_ELEMENTDATA : ClassId) (kaw0 : ClassId) (ad1 : Addr) (h0 : Heap) (n0 : Nat) (v : Option Value) (h : Heap) (L : List Loc) : Prop := v = none ∧ Fr n0 L ∧ h = h0
set_option maxRecDepth 65536 in
set_option maxHeartbeats 40000000 in
theorem am8_1 (l : Launch) (Z : State) (a0 : Array Value) (hw : ∀ d ∈ tables_1, d.before a0 Z = true) (ws : List Jvm.Cond) (a_EMPTY_ELEMENTDATA : Addr) (aw0 : Addr) (ka_EMPTY_ELEMENTDATA : ClassId) (kaw0 : ClassId) (HW : Wd Z a_EMPTY_ELEMENTDATA aw0 ka_EMPTY_ELEMENTDATA kaw0) (ad1 : Addr) (h0 : Heap) (n0 : Nat) (Ol : Old Z n0 h0)  :
    MetFree l y_8 (head1 (Jvm.Cond.code y_8 prog_70_method_1_code 1 none :: ws) ({ frames := 1, cells := 0, slots := 0, locals := 12 } : Room)) (fun a_ U_ => a_ = #[(.ref ad1)] ∧ Z.Warmed39 U_.vm ∧ U_.heap = h0) (fun _ _ _ _ _ => True) (fun _ U_ o_ V_ => ∃ v_ L_, o_ = .returned v_ ∧ Q_am8_1 Z a_EMPTY_ELEMENTDATA aw0 ka_EMPTY_ELEMENTDATA kaw0 ad1 h0 n0 v_ V_.heap L_ ∧ FrameEnd U_ o_ V_ L_ ({ frames := 1, cells := 0, slots := 0, locals := 12 } : Room).cells ({ frames := 1, cells := 0, slots := 0, locals := 12 } : Room).slots) := by
  refine MetFree.of_bodySF (plainFor_of_name pn_4) hisR ?_
  intro p e s m args below meth c s₁ Bd hml0 hP hK
  obtain ⟨rfl, hZ, hh⟩ := hP
  have hx := Bd.exec
  have hby := Bd.bytes
  have hml : c.maxLocals = 1 := hml0
  have hown : s.vm.findClass "com/example/monarc/monarc/Term" = some m.cls := findClass_of_methodNamed Bd.named
  have hnm := (name_of_methodNamed Bd.named Bd.method).1
  have X0 : Stand p l e ({ frames := 1, cells := 0, slots := 0, locals := 12 } : Room) s m #[(.ref ad1)] below meth c s₁ [] 0 0 := Stand.of_body Bd
  have e0 : s₁.heap = h0 := by rw [← hh, Bd.state]; rfl
  have N0 := Fr.nil n0
  have kp0 := Keep.refl h0 []
  show Go p e below (Fin1 s below (Q_am8_1 Z a_EMPTY_ELEMENTDATA aw0 ka_EMPTY_ELEMENTDATA kaw0 ad1 h0 n0) ({ frames := 1, cells := 0, slots := 0, locals := 12 } : Room).cells ({ frames := 1, cells := 0, slots := 0, locals := 12 } : Room).slots) _
  refine Go.step (fun t_ k_ => castTop (ef_am8_1 m ad1) k_) ?_
  obtain ⟨Ea_EMPTY_ELEMENTDATA, Sa_EMPTY_ELEMENTDATA, Eaw0, Saw0, Aa_EMPTY_ELEMENTDATA, Aaw0⟩ := id HW
  show Go p e below _ (s₁.setTop (mkF m 0 #[.val (.ref ad1)] []))
  refine gs.aloadN X0.here hx (hb hby d8_0) rfl rfl ?_
  obtain ⟨T1, X1, e1, st1⟩ := initO X0 hx hZ hown (wd hw 62 rfl) (wd hw 10 rfl) (wd hw 11 rfl) e0 (g := (mkF m 1 #[.val (.ref ad1)] [(.ref ad1)])) rfl (by rw [hml]; rfl) rfl (hb hby d8_1) (by decide) (W := 0) (by show 2 * 0 + _ ≤ _; exact Nat.le_of_eq rfl) (by decide)
  refine Go.step st1 ?_
  show Go p e below _ (T1.setTop (mkF m 4 #[.val (.ref ad1)] []))
  refine Go.retV X1 hx Bd.returns Bd.notSynchronized (hb hby d8_4) (by rw [e1]; exact ⟨rfl, N0, rfl⟩) (by decide) (by decide)
theorem d7_4 : decode prog_76_method_1_code 4 = .ok (.aload_n 0, 1) := by decide +kernel
theorem d7_5 : decode prog_76_method_1_code 5 = .ok (.aload_n 1, 1) := by decide +kernel
theorem d7_6 : decode prog_76_method_1_code 6 = .ok (.putfield 7, 3) := by decide +kernel
theorem d7_9 : decode prog_76_method_1_code 9 = .ok (.aload_n 0, 1) := by decide +kernel
theorem d7_10 : decode prog_76_method_1_code 10 = .ok (.iload_n 2, 1) := by decide +kernel
theorem d7_11 : decode prog_76_method_1_code 11 = .ok (.putfield 13, 3) := by decide +kernel
theorem sn10 {a0 : Array Value} {Z : State} (hw : ∀ d ∈ tables_1, d.before a0 Z = true) : Jvm.RoadKit.slotOf Z "com/example/monarc/monarc/Variable" "index" "I" ≠ Jvm.RoadKit.slotOf Z "com/example/monarc/monarc/Variable" "name" "Ljava/lang/String;" := slot_ne (Or.inr (wd hw 66 rfl)) (Or.inr (wd hw 64 rfl)) (by decide) (t := .int) (t' := (.object "java/lang/String")) (by decide) (by decide)
theorem d7_14 : decode prog_76_method_1_code 14 = .ok (.aload_n 0, 1) := by decide +kernel
theorem d7_15 : decode prog_76_method_1_code 15 = .ok (.aload_n 3, 1) := by decide +kernel
theorem d7_16 : decode prog_76_method_1_code 16 = .ok (.putfield 17, 3) := by decide +kernel
theorem sn11 {a0 : Array Value} {Z : State} (hw : ∀ d ∈ tables_1, d.before a0 Z = true) : Jvm.RoadKit.slotOf Z "com/example/monarc/monarc/Variable" "domain" "Lcom/example/monarc/monarc/InitialDomain;" ≠ Jvm.RoadKit.slotOf Z "com/example/monarc/monarc/Variable" "name" "Ljava/lang/String;" := slot_ne (Or.inr (wd hw 68 rfl)) (Or.inr (wd hw 64 rfl)) (by decide) (t := (.object "com/example/monarc/monarc/InitialDomain")) (t' := (.object "java/lang/String")) (by decide) (by decide)
theorem sn12 {a0 : Array Value} {Z : State} (hw : ∀ d ∈ tables_1, d.before a0 Z = true) : Jvm.RoadKit.slotOf Z "com/example/monarc/monarc/Variable" "domain" "Lcom/example/monarc/monarc/InitialDomain;" ≠ Jvm.RoadKit.slotOf Z "com/example/monarc/monarc/Variable" "index" "I" := slot_ne (Or.inr (wd hw 68 rfl)) (Or.inr (wd hw 66 rfl)) (by decide) (t := (.object "com/example/monarc/monarc/InitialDomain")) (t' := .int) (by decide) (by decide)
theorem d7_19 : decode prog_76_method_1_code 19 = .ok (.return_, 1) := by decide +kernel
theorem sn13 {a0 : Array Value} {Z : State} (hw : ∀ d ∈ tables_1, d.before a0 Z = true) : Jvm.RoadKit.slotOf Z "com/example/monarc/monarc/Variable" "index" "I" ≠ Jvm.RoadKit.slotOf Z "com/example/monarc/monarc/Variable" "domain" "Lcom/example/monarc/monarc/InitialDomain;" := slot_ne (Or.inr (wd hw 66 rfl)) (Or.inr (wd hw 68 rfl)) (by decide) (t := .int) (t' := (.object "com/example/monarc/monarc/InitialDomain")) (by decide) (by decide)
theorem sn14 {a0 : Array Value} {Z : State} (hw : ∀ d ∈ tables_1, d.before a0 Z = true) : Jvm.RoadKit.slotOf Z "com/example/monarc/monarc/Variable" "name" "Ljava/lang/String;" ≠ Jvm.RoadKit.slotOf Z "com/example/monarc/monarc/Variable" "index" "I" := slot_ne (Or.inr (wd hw 64 rfl)) (Or.inr (wd hw 66 rfl)) (by decide) (t := (.object "java/lang/String")) (t' := .int) (by decide) (by decide)
theorem sn15 {a0 : Array Value} {Z : State} (hw : ∀ d ∈ tables_1, d.before a0 Z = true) : Jvm.RoadKit.slotOf Z "com/example/monarc/monarc/Variable" "name" "Ljava/lang/String;" ≠ Jvm.RoadKit.slotOf Z "com/example/monarc/monarc/Variable" "domain" "Lcom/example/monarc/monarc/InitialDomain;" := slot_ne (Or.inr (wd hw 64 rfl)) (Or.inr (wd hw 68 rfl)) (by decide) (t := (.object "java/lang/String")) (t' := (.object "com/example/monarc/monarc/InitialDomain")) (by decide) (by decide)
theorem pn_5 : plainName "com/example/monarc/monarc/Variable" = true := by first | (simp [plainName, overriddenIn]; done) | decide +kernel
theorem ef_am7_1 (m : MethodId) (x0 : Addr) (x1 : Addr) (x2 : Int32) (x3 : Addr)  : entryFrame m #[(.ref x0), (.ref x1), (.int x2), (.ref x3)] 4 = mkF m 0 #[.val (.ref x0), .val (.ref x1), .val (.int x2), .val (.ref x3)] [] := by first | (simp [entryFrame, mkF, argsToLocals, Value.category]; done) | rfl
def Q_am7_1 (Z : State) (a_EMPTY_ELEMENTDATA : Addr) (aw0 : Addr) (ka_EMPTY_ELEMENTDATA : ClassId) (kaw0 : ClassId) (ad1 : Addr) (ad2 : Addr) (ad3 : Addr) (h0 : Heap) (n0 : Nat) (v : Option Value) (h : Heap) (L : List Loc) : Prop := v = none ∧ Fr n0 L ∧ Keep h0 h [ad1] ∧ (Exa Z h ad1 "com/example/monarc/monarc/Variable") ∧ (Fld Z h ad1 "com/example/monarc/monarc/Variable" "domain" "Lcom/example/monarc/monarc/InitialDomain;" (.ref ad3)) ∧ (Fld Z h ad1 "com/example/monarc/monarc/Variable" "index" "I" (.int (0 : Int32))) ∧ (Fld Z h ad1 "com/example/monarc/monarc/Variable" "name" "Ljava/lang/String;" (.ref ad2))
set_option maxRecDepth 65536 in
set_option maxHeartbeats 40000000 in
theorem am7_1 (l : Launch) (Z : State) (a0 : Array Value) (hw : ∀ d ∈ tables_1, d.before a0 Z = true) (ws : List Jvm.Cond) (a_EMPTY_ELEMENTDATA : Addr) (aw0 : Addr) (ka_EMPTY_ELEMENTDATA : ClassId) (kaw0 : ClassId) (HW : Wd Z a_EMPTY_ELEMENTDATA aw0 ka_EMPTY_ELEMENTDATA kaw0) (ad1 : Addr) (ad2 : Addr) (ad3 : Addr) (h0 : Heap) (n0 : Nat) (Ol : Old Z n0 h0) (HE_ad1 : Exa Z h0 ad1 "com/example/monarc/monarc/Variable") (HF_ad1_Variable_name : Fld Z h0 ad1 "com/example/monarc/monarc/Variable" "name" "Ljava/lang/String;" .null) (HF_ad1_Variable_index : Fld Z h0 ad1 "com/example/monarc/monarc/Variable" "index" "I" (.int (0 : Int32))) (HF_ad1_Variable_domain : Fld Z h0 ad1 "com/example/monarc/monarc/Variable" "domain" "Lcom/example/monarc/monarc/InitialDomain;" .null) (nn_ad1 : n0 ≤ ad1) :
    MetFree l y_7 (head1 (Jvm.Cond.code y_7 prog_76_method_1_code 4 none :: ws) ({ frames := 2, cells := 0, slots := 0, locals := 24 } : Room)) (fun a_ U_ => a_ = #[(.ref ad1), (.ref ad2), (.int (0 : Int32)), (.ref ad3)] ∧ Z.Warmed39 U_.vm ∧ U_.heap = h0) (fun _ _ _ _ _ => True) (fun _ U_ o_ V_ => ∃ v_ L_, o_ = .returned v_ ∧ Q_am7_1 Z a_EMPTY_ELEMENTDATA aw0 ka_EMPTY_ELEMENTDATA kaw0 ad1 ad2 ad3 h0 n0 v_ V_.heap L_ ∧ FrameEnd U_ o_ V_ L_ ({ frames := 2, cells := 0, slots := 0, locals := 24 } : Room).cells ({ frames := 2, cells := 0, slots := 0, locals := 24 } : Room).slots) := by
  refine MetFree.of_bodySF (plainFor_of_name pn_5) hisR ?_
  intro p e s m args below meth c s₁ Bd hml0 hP hK
  obtain ⟨rfl, hZ, hh⟩ := hP
  have hx := Bd.exec
  have hby := Bd.bytes
  have hml : c.maxLocals = 4 := hml0
  have hown : s.vm.findClass "com/example/monarc/monarc/Variable" = some m.cls := findClass_of_methodNamed Bd.named
  have hnm := (name_of_methodNamed Bd.named Bd.method).1
  have X0 : Stand p l e ({ frames := 2, cells := 0, slots := 0, locals := 24 } : Room) s m #[(.ref ad1), (.ref ad2), (.int (0 : Int32)), (.ref ad3)] below meth c s₁ [] 0 0 := Stand.of_body Bd
  have e0 : s₁.heap = h0 := by rw [← hh, Bd.state]; rfl
  have N0 := Fr.nil n0
  have kp0 := Keep.refl h0 [ad1]
  show Go p e below (Fin1 s below (Q_am7_1 Z a_EMPTY_ELEMENTDATA aw0 ka_EMPTY_ELEMENTDATA kaw0 ad1 ad2 ad3 h0 n0) ({ frames := 2, cells := 0, slots := 0, locals := 24 } : Room).cells ({ frames := 2, cells := 0, slots := 0, locals := 24 } : Room).slots) _
  refine Go.step (fun t_ k_ => castTop (ef_am7_1 m ad1 ad2 (0 : Int32) ad3) k_) ?_
  obtain ⟨Ea_EMPTY_ELEMENTDATA, Sa_EMPTY_ELEMENTDATA, Eaw0, Saw0, Aa_EMPTY_ELEMENTDATA, Aaw0⟩ := id HW
  show Go p e below _ (s₁.setTop (mkF m 0 #[.val (.ref ad1), .val (.ref ad2), .val (.int (0 : Int32)), .val (.ref ad3)] []))
  refine gs.aloadN X0.here hx (hb hby d7_0) rfl rfl ?_
  obtain ⟨_, _, ⟨T1, L1, k1, n1⟩, -, X1, ⟨Lc1, hQ1, l1, y1, z1⟩, st1⟩ := X0.specialBack hx (y := y_8) rfl hown (mvT hZ (wd hw 57 rfl)) (mvT hZ (wd hw 58 rfl)) (mvT hZ (wd hw 61 rfl)) (by decide) (backOf (W := 0) (am8_1 l Z a0 hw [] a_EMPTY_ELEMENTDATA aw0 ka_EMPTY_ELEMENTDATA kaw0 HW (ad1) h0 n0 Ol ) hZ (wd hw 61 rfl) (wd hw 60 rfl) (by decide) (by decide)) (g := (mkF m 1 #[.val (.ref ad1), .val (.ref ad2), .val (.int (0 : Int32)), .val (.ref ad3)] [(.ref ad1)])) rfl (by rw [hml]; rfl) (Steps.refl _) (a := ad1) (argsL := []) (rest := []) (lenOf pd_2 rfl) rfl (by show 2 * 0 + _ ≤ _; exact Nat.le_of_eq rfl) (hb hby d7_1) (fun _ _ => ⟨rfl, e0, (by decide : 0 + 0 ≤ _), (by decide : 0 + 0 ≤ _)⟩)
  dsimp only [Pt.U, Pt.locs, Pt.cells, Pt.slots] at X1 l1 y1 z1 st1 hQ1
  subst l1 y1 z1
  obtain ⟨rfl, Nq1, e1⟩ := hQ1
  have N1 := Fr.app N0 Nq1
  refine Go.step (fun t_ k_ => st1.trans k_) ?_
  show Go p e below _ (T1.setTop (mkF m 4 #[.val (.ref ad1), .val (.ref ad2), .val (.int (0 : Int32)), .val (.ref ad3)] []))
  refine gs.aloadN X1.here hx (hb hby d7_4) rfl rfl ?_
  refine gs.aloadN X1.here hx (hb hby d7_5) rfl rfl ?_
  obtain ⟨T2, h2, X2, e2, W2, st2⟩ := putF X1 hx hZ hown (host := "") (Or.inl (wd hw 63 rfl)) Via.refl e1 HF_ad1_Variable_name HE_ad1 (Or.inr ⟨(wd hw 64 rfl), rfl, hnm⟩) (wd hw 44 rfl) (ty := (.object "java/lang/String")) (by decide) rfl rfl (g := (mkF m 6 #[.val (.ref ad1), .val (.ref ad2), .val (.int (0 : Int32)), .val (.ref ad3)] [(.ref ad2), (.ref ad1)])) rfl rfl (hb hby d7_6)
  have N2 := Fr.snoc X2 N1 nn_ad1
  have old2 := Ol.wr W2 nn_ad1
  have kp2 := kp0.wr W2 (Or.inl (List.mem_of_getElem? (i := 0) rfl))
  have F2 := HF_ad1_Variable_name.same W2
  refine Go.step st2 ?_
  show Go p e below _ (T2.setTop (mkF m 9 #[.val (.ref ad1), .val (.ref ad2), .val (.int (0 : Int32)), .val (.ref ad3)] []))
  refine gs.aloadN X2.here hx (hb hby d7_9) rfl rfl ?_
  refine gs.iloadN X2.here hx (hb hby d7_10) rfl ?_
  have f3 := (HF_ad1_Variable_index.other W2 (Or.inr (sn10 hw)))
  have f4 := (HE_ad1.wr W2)
  obtain ⟨T5, h5, X5, e5, W5, st5⟩ := putF X2 hx hZ hown (host := "") (Or.inl (wd hw 65 rfl)) Via.refl e2 f3 f4 (Or.inr ⟨(wd hw 66 rfl), rfl, hnm⟩) (wd hw 44 rfl) (ty := .int) (by decide) rfl rfl (g := (mkF m 11 #[.val (.ref ad1), .val (.ref ad2), .val (.int (0 : Int32)), .val (.ref ad3)] [(.int (0 : Int32)), (.ref ad1)])) rfl rfl (hb hby d7_11)
  have N5 := Fr.snoc X5 N2 nn_ad1
  have old5 := old2.wr W5 nn_ad1
  have kp5 := kp2.wr W5 (Or.inl (List.mem_of_getElem? (i := 0) rfl))
  have F5 := f3.same W5
  refine Go.step st5 ?_
  show Go p e below _ (T5.setTop (mkF m 14 #[.val (.ref ad1), .val (.ref ad2), .val (.int (0 : Int32)), .val (.ref ad3)] []))
  refine gs.aloadN X5.here hx (hb hby d7_14) rfl rfl ?_
  refine gs.aloadN X5.here hx (hb hby d7_15) rfl rfl ?_
  have f6 := ((HF_ad1_Variable_domain.other W2 (Or.inr (sn11 hw))).other W5 (Or.inr (sn12 hw)))
  have f7 := (f4.wr W5)
  obtain ⟨T8, h8, X8, e8, W8, st8⟩ := putF X5 hx hZ hown (host := "") (Or.inl (wd hw 67 rfl)) Via.refl e5 f6 f7 (Or.inr ⟨(wd hw 68 rfl), rfl, hnm⟩) (wd hw 44 rfl) (ty := (.object "com/example/monarc/monarc/InitialDomain")) (by decide) rfl rfl (g := (mkF m 16 #[.val (.ref ad1), .val (.ref ad2), .val (.int (0 : Int32)), .val (.ref ad3)] [(.ref ad3), (.ref ad1)])) rfl rfl (hb hby d7_16)
  have N8 := Fr.snoc X8 N5 nn_ad1
  have old8 := old5.wr W8 nn_ad1
  have kp8 := kp5.wr W8 (Or.inl (List.mem_of_getElem? (i := 0) rfl))
  have F8 := f6.same W8
  refine Go.step st8 ?_
  show Go p e below _ (T8.setTop (mkF m 19 #[.val (.ref ad1), .val (.ref ad2), .val (.int (0 : Int32)), .val (.ref ad3)] []))
  have f9 := (f7.wr W8)
  have f10 := (F5.other W8 (Or.inr (sn13 hw)))
  have f11 := ((F2.other W5 (Or.inr (sn14 hw))).other W8 (Or.inr (sn15 hw)))
  refine Go.retV X8 hx Bd.returns Bd.notSynchronized (hb hby d7_19) (by rw [e8]; exact ⟨rfl, N8, kp8, f9, F8, f10, f11⟩) (by decide) (by decide)
theorem pd_3 : parseMethodDescriptor "(Ljava/lang/String;ILcom/example/monarc/monarc/InitialDomain;)V" = some ⟨[(.object "java/lang/String"), .int, (.object "com/example/monarc/monarc/InitialDomain")], none⟩ := by decide +kernel
theorem d9_0 : decode jdk_38_method_25_code 0 = .ok (.aload_n 0, 1) := by decide +kernel
theorem d9_1 : decode jdk_38_method_25_code 1 = .ok (.dup, 1) := by decide +kernel
theorem d9_2 : decode jdk_38_method_25_code 2 = .ok (.getfield 63, 3) := by decide +kernel
theorem d9_5 : decode jdk_38_method_25_code 5 = .ok (.iconst 1, 1) := by decide +kernel
theorem d9_6 : decode jdk_38_method_25_code 6 = .ok (.iadd, 1) := by decide +kernel
theorem d9_7 : decode jdk_38_method_25_code 7 = .ok (.putfield 63, 3) := by decide +kernel
theorem d9_10 : decode jdk_38_method_25_code 10 = .ok (.aload_n 0, 1) := by decide +kernel
theorem d9_11 : decode jdk_38_method_25_code 11 = .ok (.aload_n 1, 1) := by decide +kernel
theorem d9_12 : decode jdk_38_method_25_code 12 = .ok (.aload_n 0, 1) := by decide +kernel
theorem d9_13 : decode jdk_38_method_25_code 13 = .ok (.getfield 9, 3) := by decide +kernel
theorem d9_16 : decode jdk_38_method_25_code 16 = .ok (.aload_n 0, 1) := by decide +kernel
theorem d9_17 : decode jdk_38_method_25_code 17 = .ok (.getfield 48, 3) := by decide +kernel
theorem d9_20 : decode jdk_38_method_25_code 20 = .ok (.invokevirtual 131, 3) := by decide +kernel
theorem d10_0 : decode jdk_38_method_24_code 0 = .ok (.iload_n 3, 1) := by decide +kernel
theorem d10_1 : decode jdk_38_method_24_code 1 = .ok (.aload_n 2, 1) := by decide +kernel
theorem d10_2 : decode jdk_38_method_24_code 2 = .ok (.arraylength, 1) := by decide +kernel
theorem d10_3 : decode jdk_38_method_24_code 3 = .ok (.if_icmp .ne 8, 3) := by decide +kernel
theorem d10_6 : decode jdk_38_method_24_code 6 = .ok (.aload_n 0, 1) := by decide +kernel
theorem d10_7 : decode jdk_38_method_24_code 7 = .ok (.invokevirtual 129, 3) := by decide +kernel
theorem d11_0 : decode jdk_38_method_7_code 0 = .ok (.aload_n 0, 1) := by decide +kernel
theorem d11_1 : decode jdk_38_method_7_code 1 = .ok (.aload_n 0, 1) := by decide +kernel
theorem d11_2 : decode jdk_38_method_7_code 2 = .ok (.getfield 48, 3) := by decide +kernel
theorem d11_5 : decode jdk_38_method_7_code 5 = .ok (.iconst 1, 1) := by decide +kernel
theorem d11_6 : decode jdk_38_method_7_code 6 = .ok (.iadd, 1) := by decide +kernel
theorem d11_7 : decode jdk_38_method_7_code 7 = .ok (.invokevirtual 69, 3) := by decide +kernel
theorem d12_0 : decode jdk_38_method_6_code 0 = .ok (.aload_n 0, 1) := by decide +kernel
theorem d12_1 : decode jdk_38_method_6_code 1 = .ok (.getfield 9, 3) := by decide +kernel
theorem d12_4 : decode jdk_38_method_6_code 4 = .ok (.arraylength, 1) := by decide +kernel
theorem d12_5 : decode jdk_38_method_6_code 5 = .ok (.istore_n 2, 1) := by decide +kernel
theorem d12_6 : decode jdk_38_method_6_code 6 = .ok (.iload_n 2, 1) := by decide +kernel
theorem d12_7 : decode jdk_38_method_6_code 7 = .ok (.ifCond .gt 13, 3) := by decide +kernel
theorem d12_10 : decode jdk_38_method_6_code 10 = .ok (.aload_n 0, 1) := by decide +kernel
theorem d12_11 : decode jdk_38_method_6_code 11 = .ok (.getfield 9, 3) := by decide +kernel
theorem d12_14 : decode jdk_38_method_6_code 14 = .ok (.getstatic 39, 3) := by decide +kernel
theorem d12_17 : decode jdk_38_method_6_code 17 = .ok (.if_acmp .eq 28, 3) := by decide +kernel
theorem d12_45 : decode jdk_38_method_6_code 45 = .ok (.aload_n 0, 1) := by decide +kernel
theorem d12_46 : decode jdk_38_method_6_code 46 = .ok (.bipush 10, 2) := by decide +kernel
theorem d12_48 : decode jdk_38_method_6_code 48 = .ok (.iload_n 1, 1) := by decide +kernel
theorem d12_49 : decode jdk_38_method_6_code 49 = .ok (.invokestatic 79, 3) := by decide +kernel
theorem pd_4 : parseMethodDescriptor "(II)I" = some ⟨[.int, .int], some .int⟩ := by decide +kernel
theorem d12_52 : decode jdk_38_method_6_code 52 = .ok (.anewarray 7, 3) := by decide +kernel
theorem d12_55 : decode jdk_38_method_6_code 55 = .ok (.dup_x1, 1) := by decide +kernel
theorem d12_56 : decode jdk_38_method_6_code 56 = .ok (.putfield 9, 3) := by decide +kernel
theorem d12_59 : decode jdk_38_method_6_code 59 = .ok (.areturn, 1) := by decide +kernel
theorem ef_am12_1 (m : MethodId) (x0 : Addr) (x1 : Int32)  : entryFrame m #[(.ref x0), (.int x1)] 4 = mkF m 0 #[.val (.ref x0), .val (.int x1), .unset, .unset] [] := by first | (simp [entryFrame, mkF, argsToLocals, Value.category]; done) | rfl
def Q_am12_1 (Z : State) (a_EMPTY_ELEMENTDATA : Addr) (aw0 : Addr) (ka_EMPTY_ELEMENTDATA : ClassId) (kaw0 : ClassId) (ad1 : Addr) (h0 : Heap) (n0 : Nat) (v : Option Value) (h : Heap) (L : List Loc) : Prop := ∃ fr1 : Addr, ∃ kx1 : ClassId, v = some (.ref fr1) ∧ h0.size ≤ fr1 ∧ Fr n0 L ∧ Keep h0 h [ad1] ∧ (Exa Z h ad1 "java/util/ArrayList") ∧ (Fld Z h ad1 "java/util/AbstractList" "modCount" "I" (.int (1 : Int32))) ∧ (Fld Z h ad1 "java/util/ArrayList" "elementData" "[Ljava/lang/Object;" (.ref fr1)) ∧ (Fld Z h ad1 "java/util/ArrayList" "size" "I" (.int (0 : Int32))) ∧ (Arv Z h fr1 kx1 (.object "java/lang/Object") (10 : Int32) [.null, .null, .null, .null, .null, .null, .null, .null, .null, .null] .null) ∧ (Ovr Z kx1 "java/lang/Object")
set_option maxRecDepth 65536 in
set_option maxHeartbeats 40000000 in
theorem am12_1 (l : Launch) (Z : State) (a0 : Array Value) (hw : ∀ d ∈ tables_1, d.before a0 Z = true) (ws : List Jvm.Cond) (a_EMPTY_ELEMENTDATA : Addr) (aw0 : Addr) (ka_EMPTY_ELEMENTDATA : ClassId) (kaw0 : ClassId) (HW : Wd Z a_EMPTY_ELEMENTDATA aw0 ka_EMPTY_ELEMENTDATA kaw0) (ad1 : Addr) (h0 : Heap) (n0 : Nat) (Ol : Old Z n0 h0) (HE_ad1 : Exa Z h0 ad1 "java/util/ArrayList") (HF_ad1_AbstractList_modCount : Fld Z h0 ad1 "java/util/AbstractList" "modCount" "I" (.int (1 : Int32))) (HF_ad1_ArrayList_elementData : Fld Z h0 ad1 "java/util/ArrayList" "elementData" "[Ljava/lang/Object;" (.ref aw0)) (HF_ad1_ArrayList_size : Fld Z h0 ad1 "java/util/ArrayList" "size" "I" (.int (0 : Int32))) (nn_ad1 : n0 ≤ ad1) :
    MetFree l y_12 (head1 (Jvm.Cond.code y_12 jdk_38_method_6_code 4 (some (.array (.object "java/lang/Object"))) :: ws) ({ frames := 1, cells := 1, slots := 10, locals := 14 } : Room)) (fun a_ U_ => a_ = #[(.ref ad1), (.int (1 : Int32))] ∧ Z.Warmed39 U_.vm ∧ U_.heap = h0) (fun _ _ _ _ _ => True) (fun _ U_ o_ V_ => ∃ v_ L_, o_ = .returned v_ ∧ Q_am12_1 Z a_EMPTY_ELEMENTDATA aw0 ka_EMPTY_ELEMENTDATA kaw0 ad1 h0 n0 v_ V_.heap L_ ∧ FrameEnd U_ o_ V_ L_ ({ frames := 1, cells := 1, slots := 10, locals := 14 } : Room).cells ({ frames := 1, cells := 1, slots := 10, locals := 14 } : Room).slots) := by
  refine MetFree.of_bodySF (plainFor_of_name pn_3) hisR ?_
  intro p e s m args below meth c s₁ Bd hml0 hP hK
  obtain ⟨rfl, hZ, hh⟩ := hP
  have hx := Bd.exec
  have hby := Bd.bytes
  have hml : c.maxLocals = 4 := hml0
  have hown : s.vm.findClass "java/util/ArrayList" = some m.cls := findClass_of_methodNamed Bd.named
  have hnm := (name_of_methodNamed Bd.named Bd.method).1
  have X0 : Stand p l e ({ frames := 1, cells := 1, slots := 10, locals := 14 } : Room) s m #[(.ref ad1), (.int (1 : Int32))] below meth c s₁ [] 0 0 := Stand.of_body Bd
  have e0 : s₁.heap = h0 := by rw [← hh, Bd.state]; rfl
  have N0 := Fr.nil n0
  have kp0 := Keep.refl h0 [ad1]
  show Go p e below (Fin1 s below (Q_am12_1 Z a_EMPTY_ELEMENTDATA aw0 ka_EMPTY_ELEMENTDATA kaw0 ad1 h0 n0) ({ frames := 1, cells := 1, slots := 10, locals := 14 } : Room).cells ({ frames := 1, cells := 1, slots := 10, locals := 14 } : Room).slots) _
  refine Go.step (fun t_ k_ => castTop (ef_am12_1 m ad1 (1 : Int32)) k_) ?_
  obtain ⟨Ea_EMPTY_ELEMENTDATA, Sa_EMPTY_ELEMENTDATA, Eaw0, Saw0, Aa_EMPTY_ELEMENTDATA, Aaw0⟩ := id HW
  show Go p e below _ (s₁.setTop (mkF m 0 #[.val (.ref ad1), .val (.int (1 : Int32)), .unset, .unset] []))
  refine gs.aloadN X0.here hx (hb hby d12_0) rfl rfl ?_
  refine gs.getF X0 hx hZ hown (wd hw 41 rfl) Via.refl e0 HF_ad1_ArrayList_elementData (hb hby d12_1) fun T1 X1 e1 => ?_
  obtain ⟨cl2, Ar2, -, Sz2, Ng2, -, -⟩ := id (Aaw0.ext Ol.2)
  refine Go.step (fun t_ k_ => X1.arraylength hx (by rw [e1]; exact Ar2.1) (State.isArrayOf_alike hZ.alike Ar2.2.1) (g := (mkF m 4 #[.val (.ref ad1), .val (.int (1 : Int32)), .unset, .unset] [(.ref aw0)])) rfl rfl (hb hby d12_4) _ k_) ?_
  rw [len_of Sz2 Ng2]
  show Go p e below _ (T1.setTop (mkF m 5 #[.val (.ref ad1), .val (.int (1 : Int32)), .unset, .unset] [(.int (0 : Int32))]))
  refine gs.istoreN X1.here hx (hb hby d12_5) (l' := #[.val (.ref ad1), .val (.int (1 : Int32)), .val (.int (0 : Int32)), .unset]) rfl ?_
  refine gs.iloadN X1.here hx (hb hby d12_6) rfl ?_
  have hc7 : ¬ ((0 : Int32) < (0 : Int32)) := by decide
  refine gs.ifNo X1.here hx (hb hby d12_7) ((if0 _ _).trans (flt hc7).2.2.1) ?_
  refine gs.aloadN X1.here hx (hb hby d12_10) rfl rfl ?_
  refine gs.getF X1 hx hZ hown (wd hw 41 rfl) Via.refl e1 HF_ad1_ArrayList_elementData (hb hby d12_11) fun T3 X3 e3 => ?_
  obtain ⟨T4, X4, e4, st4⟩ := getS2 X3 hx hZ hown (host := "") (Or.inl (wd hw 40 rfl)) Via.refl e3 (Saw0.ext Ol.2) (g := (mkF m 14 #[.val (.ref ad1), .val (.int (1 : Int32)), .val (.int (0 : Int32)), .unset] [(.ref aw0)])) rfl (hb hby d12_14)
  refine Go.step st4 ?_
  show Go p e below _ (T4.setTop (mkF m 17 #[.val (.ref ad1), .val (.int (1 : Int32)), .val (.int (0 : Int32)), .unset] [(.ref aw0), (.ref aw0)]))
  refine Go.step (fun t_ k_ => Jvm.RoadKit.acmp (g := (mkF m 17 #[.val (.ref ad1), .val (.int (1 : Int32)), .val (.int (0 : Int32)), .unset] [(.ref aw0), (.ref aw0)])) X4 hx rfl rfl rfl (pc0 := 17) (pc' := 45) (same := true) rfl (hb hby d12_17) rfl (decide_eq_true rfl) (by decide) (by decide) k_) ?_
  show Go p e below _ (T4.setTop (mkF m 45 #[.val (.ref ad1), .val (.int (1 : Int32)), .val (.int (0 : Int32)), .unset] []))
  refine gs.aloadN X4.here hx (hb hby d12_45) rfl rfl ?_
  refine gs.bipush 10 X4.here hx (hb hby d12_46) rfl ?_
  refine gs.iloadN X4.here hx (hb hby d12_48) rfl ?_
  obtain ⟨_, _, ⟨T5, L5, k5, n5⟩, -, X5, ⟨Lc5, hQ5, l5, y5, z5⟩, st5⟩ := Jvm.LawKit.callS X4 hx (y := y_13) hown (mvT hZ (wd hw 93 rfl)) (mvT hZ (wd hw 94 rfl)) (mvT hZ (wd hw 95 rfl)) (mvT hZ (wd hw 96 rfl)) (by decide) (backOf (W := 1) (rm13 l Z a0 hw [] a_EMPTY_ELEMENTDATA aw0 ka_EMPTY_ELEMENTDATA kaw0 HW (10 : Int32) (1 : Int32) (10 : Int32) h0 n0 Ol (by decide)) hZ (wd hw 96 rfl) (wd hw 95 rfl) (by decide) (by decide)) (g := (mkF m 49 #[.val (.ref ad1), .val (.int (1 : Int32)), .val (.int (0 : Int32)), .unset] [(.int (1 : Int32)), (.int (10 : Int32)), (.ref ad1)])) rfl (by rw [hml]; rfl) (argsL := [(.int (10 : Int32)), (.int (1 : Int32))]) (rest := [(.ref ad1)]) (lenOf pd_4 rfl) rfl (by show 2 * 0 + _ ≤ _; exact Nat.le_of_eq rfl) (hb hby d12_49) (fun _ _ => ⟨rfl, e4, (by decide : 0 + 0 ≤ _), (by decide : 0 + 0 ≤ _)⟩)
  dsimp only [Pt.U, Pt.locs, Pt.cells, Pt.slots] at X5 l5 y5 z5 st5 hQ5
  subst l5 y5 z5
  obtain ⟨rfl, Nq5, e5⟩ := hQ5
  have N5 := Fr.app N0 Nq5
  refine Go.step st5 ?_
  show Go p e below _ (T5.setTop (mkF m 52 #[.val (.ref ad1), .val (.int (1 : Int32)), .val (.int (0 : Int32)), .unset] [(.int (10 : Int32)), (.ref ad1)]))
  obtain ⟨T6, h6, k6, X6, e6, E6, A6, O6, st6⟩ := newR X5 hx hZ hown (wd hw 97 rfl) (wd hw 98 rfl) e5 (g := (mkF m 52 #[.val (.ref ad1), .val (.int (1 : Int32)), .val (.int (0 : Int32)), .unset] [(.int (10 : Int32)), (.ref ad1)])) rfl (hb hby d12_52) rfl (by decide) (cap := 10) (by decide) (by decide) (by decide) (by decide)
  obtain ⟨b6, g6⟩ : ∃ z, z = h0.size := ⟨_, rfl⟩
  rw [← g6] at A6 st6
  have nn_b6 : n0 ≤ b6 := Nat.le_trans (old_z0 Ol) (Nat.le_of_eq g6.symm)
  have sz_b6 : h0.size ≤ b6 := Nat.le_trans kp0.1 (Nat.le_of_eq g6.symm)
  have old6 := Ol.ext E6
  have kp6 := kp0.ext E6
  have V6 : Arv Z h6 b6 k6 (.object "java/lang/Object") (10 : Int32) [.null, .null, .null, .null, .null, .null, .null, .null, .null, .null] .null := (Arv.new A6 (by decide)).pad (pad_rep [] .null 10)
  refine Go.step st6 ?_
  show Go p e below _ (T6.setTop (mkF m 55 #[.val (.ref ad1), .val (.int (1 : Int32)), .val (.int (0 : Int32)), .unset] [(.ref b6), (.ref ad1)]))
  refine Go.step (fun t_ k_ => XS.dupX1 X6.here hx rfl (hb hby d12_55) rfl rfl rfl k_) ?_
  show Go p e below _ (T6.setTop (mkF m 56 #[.val (.ref ad1), .val (.int (1 : Int32)), .val (.int (0 : Int32)), .unset] [(.ref b6), (.ref ad1), (.ref b6)]))
  have f7 := (HF_ad1_ArrayList_elementData.ext E6)
  have f8 := (HE_ad1.ext E6)
  obtain ⟨T9, h9, X9, e9, W9, st9⟩ := putF X6 hx hZ hown (host := "") (Or.inl (wd hw 41 rfl)) Via.refl e6 f7 f8 (Or.inl (wd hw 42 rfl)) (wd hw 20 rfl) (ty := (.array (.object "java/lang/Object"))) (by decide) rfl rfl (g := (mkF m 56 #[.val (.ref ad1), .val (.int (1 : Int32)), .val (.int (0 : Int32)), .unset] [(.ref b6), (.ref ad1), (.ref b6)])) rfl rfl (hb hby d12_56)
  have N9 := Fr.snoc X9 N5 nn_ad1
  have old9 := old6.wr W9 nn_ad1
  have kp9 := kp6.wr W9 (Or.inl (List.mem_of_getElem? (i := 0) rfl))
  have F9 := f7.same W9
  refine Go.step st9 ?_
  show Go p e below _ (T9.setTop (mkF m 59 #[.val (.ref ad1), .val (.int (1 : Int32)), .val (.int (0 : Int32)), .unset] [(.ref b6)]))
  have f10 := (f8.wr W9)
  have f11 := ((HF_ad1_AbstractList_modCount.ext E6).other W9 (Or.inr (sn8 hw)))
  have f12 := ((HF_ad1_ArrayList_size.ext E6).other W9 (Or.inr (sn9 hw)))
  have ne_ad1_b6 : ad1 ≠ b6 := Nat.ne_of_lt (Nat.lt_of_lt_of_le HE_ad1.lt (Nat.le_of_eq g6.symm))
  have f13 := (V6.other W9 (Ne.symm ne_ad1_b6))
  refine Go.retR X9 hx Bd.returns rfl rfl Bd.notSynchronized (hb hby d12_59) (by rw [e9]; exact ⟨b6, k6, rfl, sz_b6, N9, kp9, f10, f11, F9, f12, f13, O6⟩) (by decide) (by decide)
theorem pd_5 : parseMethodDescriptor "(I)[Ljava/lang/Object;" = some ⟨[.int], some (.array (.object "java/lang/Object"))⟩ := by decide +kernel
theorem d11_10 : decode jdk_38_method_7_code 10 = .ok (.areturn, 1) := by decide +kernel
theorem ef_am11_1 (m : MethodId) (x0 : Addr)  : entryFrame m #[(.ref x0)] 1 = mkF m 0 #[.val (.ref x0)] [] := by first | (simp [entryFrame, mkF, argsToLocals, Value.category]; done) | rfl
def Q_am11_1 (Z : State) (a_EMPTY_ELEMENTDATA : Addr) (aw0 : Addr) (ka_EMPTY_ELEMENTDATA : ClassId) (kaw0 : ClassId) (ad1 : Addr) (h0 : Heap) (n0 : Nat) (v : Option Value) (h : Heap) (L : List Loc) : Prop := ∃ fr1 : Addr, ∃ kx1 : ClassId, v = some (.ref fr1) ∧ h0.size ≤ fr1 ∧ Fr n0 L ∧ Keep h0 h [ad1] ∧ (Exa Z h ad1 "java/util/ArrayList") ∧ (Fld Z h ad1 "java/util/AbstractList" "modCount" "I" (.int (1 : Int32))) ∧ (Fld Z h ad1 "java/util/ArrayList" "elementData" "[Ljava/lang/Object;" (.ref fr1)) ∧ (Fld Z h ad1 "java/util/ArrayList" "size" "I" (.int (0 : Int32))) ∧ (Arv Z h fr1 kx1 (.object "java/lang/Object") (10 : Int32) [.null, .null, .null, .null, .null, .null, .null, .null, .null, .null] .null) ∧ (Ovr Z kx1 "java/lang/Object")
set_option maxRecDepth 65536 in
set_option maxHeartbeats 40000000 in
theorem am11_1 (l : Launch) (Z : State) (a0 : Array Value) (hw : ∀ d ∈ tables_1, d.before a0 Z = true) (ws : List Jvm.Cond) (a_EMPTY_ELEMENTDATA : Addr) (aw0 : Addr) (ka_EMPTY_ELEMENTDATA : ClassId) (kaw0 : ClassId) (HW : Wd Z a_EMPTY_ELEMENTDATA aw0 ka_EMPTY_ELEMENTDATA kaw0) (ad1 : Addr) (h0 : Heap) (n0 : Nat) (Ol : Old Z n0 h0) (HE_ad1 : Exa Z h0 ad1 "java/util/ArrayList") (HF_ad1_AbstractList_modCount : Fld Z h0 ad1 "java/util/AbstractList" "modCount" "I" (.int (1 : Int32))) (HF_ad1_ArrayList_elementData : Fld Z h0 ad1 "java/util/ArrayList" "elementData" "[Ljava/lang/Object;" (.ref aw0)) (HF_ad1_ArrayList_size : Fld Z h0 ad1 "java/util/ArrayList" "size" "I" (.int (0 : Int32))) (nn_ad1 : n0 ≤ ad1) :
    MetFree l y_11 (head1 (Jvm.Cond.code y_11 jdk_38_method_7_code 1 (some (.array (.object "java/lang/Object"))) :: ws) ({ frames := 2, cells := 1, slots := 10, locals := 29 } : Room)) (fun a_ U_ => a_ = #[(.ref ad1)] ∧ Z.Warmed39 U_.vm ∧ U_.heap = h0) (fun _ _ _ _ _ => True) (fun _ U_ o_ V_ => ∃ v_ L_, o_ = .returned v_ ∧ Q_am11_1 Z a_EMPTY_ELEMENTDATA aw0 ka_EMPTY_ELEMENTDATA kaw0 ad1 h0 n0 v_ V_.heap L_ ∧ FrameEnd U_ o_ V_ L_ ({ frames := 2, cells := 1, slots := 10, locals := 29 } : Room).cells ({ frames := 2, cells := 1, slots := 10, locals := 29 } : Room).slots) := by
  refine MetFree.of_bodySF (plainFor_of_name pn_3) hisR ?_
  intro p e s m args below meth c s₁ Bd hml0 hP hK
  obtain ⟨rfl, hZ, hh⟩ := hP
  have hx := Bd.exec
  have hby := Bd.bytes
  have hml : c.maxLocals = 1 := hml0
  have hown : s.vm.findClass "java/util/ArrayList" = some m.cls := findClass_of_methodNamed Bd.named
  have hnm := (name_of_methodNamed Bd.named Bd.method).1
  have X0 : Stand p l e ({ frames := 2, cells := 1, slots := 10, locals := 29 } : Room) s m #[(.ref ad1)] below meth c s₁ [] 0 0 := Stand.of_body Bd
  have e0 : s₁.heap = h0 := by rw [← hh, Bd.state]; rfl
  have N0 := Fr.nil n0
  have kp0 := Keep.refl h0 [ad1]
  show Go p e below (Fin1 s below (Q_am11_1 Z a_EMPTY_ELEMENTDATA aw0 ka_EMPTY_ELEMENTDATA kaw0 ad1 h0 n0) ({ frames := 2, cells := 1, slots := 10, locals := 29 } : Room).cells ({ frames := 2, cells := 1, slots := 10, locals := 29 } : Room).slots) _
  refine Go.step (fun t_ k_ => castTop (ef_am11_1 m ad1) k_) ?_
  obtain ⟨Ea_EMPTY_ELEMENTDATA, Sa_EMPTY_ELEMENTDATA, Eaw0, Saw0, Aa_EMPTY_ELEMENTDATA, Aaw0⟩ := id HW
  show Go p e below _ (s₁.setTop (mkF m 0 #[.val (.ref ad1)] []))
  refine gs.aloadN X0.here hx (hb hby d11_0) rfl rfl ?_
  refine gs.aloadN X0.here hx (hb hby d11_1) rfl rfl ?_
  refine gs.getF X0 hx hZ hown (wd hw 76 rfl) Via.refl e0 HF_ad1_ArrayList_size (hb hby d11_2) fun T1 X1 e1 => ?_
  refine gs.iconst 1 X1.here hx (hb hby d11_5) rfl ?_
  refine gs.iadd X1.here hx (hb hby d11_6) ?_
  rw [show ((0 : Int32) + (1 : Int32)) = (1 : Int32) from by decide]
  obtain ⟨cq2, q2, q2'⟩ := HE_ad1.cell
  obtain ⟨_, _, ⟨T2, L2, k2, n2⟩, -, X2, ⟨Lc2, hQ2, l2, y2, z2⟩, st2⟩ := X1.privateBack hx (y := y_12) hown (mvT hZ (wd hw 88 rfl)) (mvT hZ (wd hw 89 rfl)) (mvT hZ (wd hw 91 rfl)) (Cond.privateMethod_at (mvP hZ (wd hw 90 rfl) (args := #[]))) (mvT hZ (wd hw 92 rfl)) (by decide) (backOf (W := 0) (am12_1 l Z a0 hw [] a_EMPTY_ELEMENTDATA aw0 ka_EMPTY_ELEMENTDATA kaw0 HW (ad1) h0 n0 Ol HE_ad1 HF_ad1_AbstractList_modCount HF_ad1_ArrayList_elementData HF_ad1_ArrayList_size nn_ad1) hZ (wd hw 92 rfl) (wd hw 21 rfl) (by decide) (by decide)) (g := (mkF m 7 #[.val (.ref ad1)] [(.int (1 : Int32)), (.ref ad1)])) rfl (by rw [hml]; rfl) (Steps.refl _) (a := ad1) (by rw [e1]; exact q2) q2' (argsL := [(.int (1 : Int32))]) (rest := []) (lenOf pd_5 rfl) rfl (by show 2 * 0 + _ ≤ _; exact Nat.le_of_eq rfl) (hb hby d11_7) (fun _ _ => ⟨rfl, e1, (by decide : 0 + 1 ≤ _), (by decide : 0 + 10 ≤ _)⟩)
  dsimp only [Pt.U, Pt.locs, Pt.cells, Pt.slots] at X2 l2 y2 z2 st2 hQ2
  subst l2 y2 z2
  obtain ⟨b2_0, kx2_0, rfl, gb_b2_0, Nq2, K2, p2_0, p2_1, p2_2, p2_3, p2_4, ov2_0⟩ := hQ2
  have nn_b2_0 : n0 ≤ b2_0 := Nat.le_trans (old_z0 Ol) gb_b2_0
  have sz_b2_0 : h0.size ≤ b2_0 := Nat.le_trans kp0.1 gb_b2_0
  have old2 := Ol.keep K2 (allS nn_ad1 all0)
  have kp2 := kp0.trans K2 (allS (Or.inl (List.mem_of_getElem? (i := 0) rfl)) all0)
  have N2 := Fr.app N0 Nq2
  refine Go.step (fun t_ k_ => st2.trans k_) ?_
  show Go p e below _ (T2.setTop (mkF m 10 #[.val (.ref ad1)] [(.ref b2_0)]))
  refine Go.retR X2 hx Bd.returns rfl rfl Bd.notSynchronized (hb hby d11_10) (by exact ⟨b2_0, kx2_0, rfl, sz_b2_0, N2, kp2, p2_0, p2_1, p2_2, p2_3, p2_4, ov2_0⟩) (by decide) (by decide)
theorem pd_6 : parseMethodDescriptor "()[Ljava/lang/Object;" = some ⟨[], some (.array (.object "java/lang/Object"))⟩ := by decide +kernel
theorem d10_10 : decode jdk_38_method_24_code 10 = .ok (.astore_n 2, 1) := by decide +kernel
theorem d10_11 : decode jdk_38_method_24_code 11 = .ok (.aload_n 2, 1) := by decide +kernel
theorem d10_12 : decode jdk_38_method_24_code 12 = .ok (.iload_n 3, 1) := by decide +kernel
theorem d10_13 : decode jdk_38_method_24_code 13 = .ok (.aload_n 1, 1) := by decide +kernel
theorem d10_14 : decode jdk_38_method_24_code 14 = .ok (.aastore, 1) := by decide +kernel
theorem d10_15 : decode jdk_38_method_24_code 15 = .ok (.aload_n 0, 1) := by decide +kernel
theorem d10_16 : decode jdk_38_method_24_code 16 = .ok (.iload_n 3, 1) := by decide +kernel
theorem d10_17 : decode jdk_38_method_24_code 17 = .ok (.iconst 1, 1) := by decide +kernel
theorem d10_18 : decode jdk_38_method_24_code 18 = .ok (.iadd, 1) := by decide +kernel
theorem d10_19 : decode jdk_38_method_24_code 19 = .ok (.putfield 48, 3) := by decide +kernel
theorem d10_22 : decode jdk_38_method_24_code 22 = .ok (.return_, 1) := by decide +kernel
theorem sn16 {a0 : Array Value} {Z : State} (hw : ∀ d ∈ tables_1, d.before a0 Z = true) : Jvm.RoadKit.slotOf Z "java/util/AbstractList" "modCount" "I" ≠ Jvm.RoadKit.slotOf Z "java/util/ArrayList" "size" "I" := slot_ne (Or.inl (wd hw 39 rfl)) (Or.inl (wd hw 77 rfl)) (by decide) (t := .int) (t' := .int) (by decide) (by decide)
theorem sn17 {a0 : Array Value} {Z : State} (hw : ∀ d ∈ tables_1, d.before a0 Z = true) : Jvm.RoadKit.slotOf Z "java/util/ArrayList" "elementData" "[Ljava/lang/Object;" ≠ Jvm.RoadKit.slotOf Z "java/util/ArrayList" "size" "I" := slot_ne (Or.inl (wd hw 42 rfl)) (Or.inl (wd hw 77 rfl)) (by decide) (t := (.array (.object "java/lang/Object"))) (t' := .int) (by decide) (by decide)
theorem ef_am10_1 (m : MethodId) (x0 : Addr) (x1 : Addr) (x2 : Addr) (x3 : Int32)  : entryFrame m #[(.ref x0), (.ref x1), (.ref x2), (.int x3)] 4 = mkF m 0 #[.val (.ref x0), .val (.ref x1), .val (.ref x2), .val (.int x3)] [] := by first | (simp [entryFrame, mkF, argsToLocals, Value.category]; done) | rfl
def Q_am10_1 (Z : State) (a_EMPTY_ELEMENTDATA : Addr) (aw0 : Addr) (ka_EMPTY_ELEMENTDATA : ClassId) (kaw0 : ClassId) (ad1 : Addr) (ad2 : Addr) (h0 : Heap) (n0 : Nat) (v : Option Value) (h : Heap) (L : List Loc) : Prop := ∃ fr1 : Addr, ∃ kx1 : ClassId, v = none ∧ h0.size ≤ fr1 ∧ Fr n0 L ∧ Keep h0 h [ad1] ∧ (Exa Z h ad1 "java/util/ArrayList") ∧ (Fld Z h ad1 "java/util/AbstractList" "modCount" "I" (.int (1 : Int32))) ∧ (Fld Z h ad1 "java/util/ArrayList" "elementData" "[Ljava/lang/Object;" (.ref fr1)) ∧ (Fld Z h ad1 "java/util/ArrayList" "size" "I" (.int (1 : Int32))) ∧ (Arv Z h fr1 kx1 (.object "java/lang/Object") (10 : Int32) [(.ref ad2), .null, .null, .null, .null, .null, .null, .null, .null, .null] .null) ∧ (Ovr Z kx1 "java/lang/Object")
set_option maxRecDepth 65536 in
set_option maxHeartbeats 40000000 in
theorem am10_1 (l : Launch) (Z : State) (a0 : Array Value) (hw : ∀ d ∈ tables_1, d.before a0 Z = true) (ws : List Jvm.Cond) (a_EMPTY_ELEMENTDATA : Addr) (aw0 : Addr) (ka_EMPTY_ELEMENTDATA : ClassId) (kaw0 : ClassId) (HW : Wd Z a_EMPTY_ELEMENTDATA aw0 ka_EMPTY_ELEMENTDATA kaw0) (ad1 : Addr) (ad2 : Addr) (h0 : Heap) (n0 : Nat) (Ol : Old Z n0 h0) (HE_ad1 : Exa Z h0 ad1 "java/util/ArrayList") (HF_ad1_AbstractList_modCount : Fld Z h0 ad1 "java/util/AbstractList" "modCount" "I" (.int (1 : Int32))) (HF_ad1_ArrayList_elementData : Fld Z h0 ad1 "java/util/ArrayList" "elementData" "[Ljava/lang/Object;" (.ref aw0)) (HF_ad1_ArrayList_size : Fld Z h0 ad1 "java/util/ArrayList" "size" "I" (.int (0 : Int32))) (HE_ad2 : Exa Z h0 ad2 "com/example/monarc/monarc/Variable") (nn_ad1 : n0 ≤ ad1) :
    MetFree l y_10 (head1 (Jvm.Cond.code y_10 jdk_38_method_24_code 4 none :: ws) ({ frames := 3, cells := 1, slots := 10, locals := 41 } : Room)) (fun a_ U_ => a_ = #[(.ref ad1), (.ref ad2), (.ref aw0), (.int (0 : Int32))] ∧ Z.Warmed39 U_.vm ∧ U_.heap = h0) (fun _ _ _ _ _ => True) (fun _ U_ o_ V_ => ∃ v_ L_, o_ = .returned v_ ∧ Q_am10_1 Z a_EMPTY_ELEMENTDATA aw0 ka_EMPTY_ELEMENTDATA kaw0 ad1 ad2 h0 n0 v_ V_.heap L_ ∧ FrameEnd U_ o_ V_ L_ ({ frames := 3, cells := 1, slots := 10, locals := 41 } : Room).cells ({ frames := 3, cells := 1, slots := 10, locals := 41 } : Room).slots) := by
  refine MetFree.of_bodySF (plainFor_of_name pn_3) hisR ?_
  intro p e s m args below meth c s₁ Bd hml0 hP hK
  obtain ⟨rfl, hZ, hh⟩ := hP
  have hx := Bd.exec
  have hby := Bd.bytes
  have hml : c.maxLocals = 4 := hml0
  have hown : s.vm.findClass "java/util/ArrayList" = some m.cls := findClass_of_methodNamed Bd.named
  have hnm := (name_of_methodNamed Bd.named Bd.method).1
  have X0 : Stand p l e ({ frames := 3, cells := 1, slots := 10, locals := 41 } : Room) s m #[(.ref ad1), (.ref ad2), (.ref aw0), (.int (0 : Int32))] below meth c s₁ [] 0 0 := Stand.of_body Bd
  have e0 : s₁.heap = h0 := by rw [← hh, Bd.state]; rfl
  have N0 := Fr.nil n0
  have kp0 := Keep.refl h0 [ad1]
  show Go p e below (Fin1 s below (Q_am10_1 Z a_EMPTY_ELEMENTDATA aw0 ka_EMPTY_ELEMENTDATA kaw0 ad1 ad2 h0 n0) ({ frames := 3, cells := 1, slots := 10, locals := 41 } : Room).cells ({ frames := 3, cells := 1, slots := 10, locals := 41 } : Room).slots) _
  refine Go.step (fun t_ k_ => castTop (ef_am10_1 m ad1 ad2 aw0 (0 : Int32)) k_) ?_
  obtain ⟨Ea_EMPTY_ELEMENTDATA, Sa_EMPTY_ELEMENTDATA, Eaw0, Saw0, Aa_EMPTY_ELEMENTDATA, Aaw0⟩ := id HW
  show Go p e below _ (s₁.setTop (mkF m 0 #[.val (.ref ad1), .val (.ref ad2), .val (.ref aw0), .val (.int (0 : Int32))] []))
  refine gs.iloadN X0.here hx (hb hby d10_0) rfl ?_
  refine gs.aloadN X0.here hx (hb hby d10_1) rfl rfl ?_
  obtain ⟨cl1, Ar1, -, Sz1, Ng1, -, -⟩ := id (Aaw0.ext Ol.2)
  refine Go.step (fun t_ k_ => X0.arraylength hx (by rw [e0]; exact Ar1.1) (State.isArrayOf_alike hZ.alike Ar1.2.1) (g := (mkF m 2 #[.val (.ref ad1), .val (.ref ad2), .val (.ref aw0), .val (.int (0 : Int32))] [(.ref aw0), (.int (0 : Int32))])) rfl rfl (hb hby d10_2) _ k_) ?_
  rw [len_of Sz1 Ng1]
  show Go p e below _ (s₁.setTop (mkF m 3 #[.val (.ref ad1), .val (.ref ad2), .val (.ref aw0), .val (.int (0 : Int32))] [(.int (0 : Int32)), (.int (0 : Int32))]))
  have hc3 : (0 : Int32) = (0 : Int32) := by decide
  refine gs.icmpNo X0.here hx (hb hby d10_3) (teq hc3).2 ?_
  refine gs.aloadN X0.here hx (hb hby d10_6) rfl rfl ?_
  obtain ⟨cq2, q2, q2'⟩ := HE_ad1.cell
  obtain ⟨_, _, ⟨T2, L2, k2, n2⟩, -, X2, ⟨Lc2, hQ2, l2, y2, z2⟩, st2⟩ := X0.privateBack hx (y := y_11) hown (mvT hZ (wd hw 83 rfl)) (mvT hZ (wd hw 84 rfl)) (mvT hZ (wd hw 86 rfl)) (Cond.privateMethod_at (mvP hZ (wd hw 85 rfl) (args := #[]))) (mvT hZ (wd hw 87 rfl)) (by decide) (backOf (W := 0) (am11_1 l Z a0 hw [] a_EMPTY_ELEMENTDATA aw0 ka_EMPTY_ELEMENTDATA kaw0 HW (ad1) h0 n0 Ol HE_ad1 HF_ad1_AbstractList_modCount HF_ad1_ArrayList_elementData HF_ad1_ArrayList_size nn_ad1) hZ (wd hw 87 rfl) (wd hw 21 rfl) (by decide) (by decide)) (g := (mkF m 7 #[.val (.ref ad1), .val (.ref ad2), .val (.ref aw0), .val (.int (0 : Int32))] [(.ref ad1)])) rfl (by rw [hml]; rfl) (Steps.refl _) (a := ad1) (by rw [e0]; exact q2) q2' (argsL := []) (rest := []) (lenOf pd_6 rfl) rfl (by show 2 * 0 + _ ≤ _; exact Nat.le_of_eq rfl) (hb hby d10_7) (fun _ _ => ⟨rfl, e0, (by decide : 0 + 1 ≤ _), (by decide : 0 + 10 ≤ _)⟩)
  dsimp only [Pt.U, Pt.locs, Pt.cells, Pt.slots] at X2 l2 y2 z2 st2 hQ2
  subst l2 y2 z2
  obtain ⟨b2_0, kx2_0, rfl, gb_b2_0, Nq2, K2, p2_0, p2_1, p2_2, p2_3, p2_4, ov2_0⟩ := hQ2
  have nn_b2_0 : n0 ≤ b2_0 := Nat.le_trans (old_z0 Ol) gb_b2_0
  have sz_b2_0 : h0.size ≤ b2_0 := Nat.le_trans kp0.1 gb_b2_0
  have old2 := Ol.keep K2 (allS nn_ad1 all0)
  have kp2 := kp0.trans K2 (allS (Or.inl (List.mem_of_getElem? (i := 0) rfl)) all0)
  have N2 := Fr.app N0 Nq2
  refine Go.step (fun t_ k_ => st2.trans k_) ?_
  show Go p e below _ (T2.setTop (mkF m 10 #[.val (.ref ad1), .val (.ref ad2), .val (.ref aw0), .val (.int (0 : Int32))] [(.ref b2_0)]))
  refine gs.astoreN X2.here hx (hb hby d10_10) rfl (l' := #[.val (.ref ad1), .val (.ref ad2), .val (.ref b2_0), .val (.int (0 : Int32))]) rfl ?_
  refine gs.aloadN X2.here hx (hb hby d10_11) rfl rfl ?_
  refine gs.iloadN X2.here hx (hb hby d10_12) rfl ?_
  refine gs.aloadN X2.here hx (hb hby d10_13) rfl rfl ?_
  obtain ⟨cl3, Ar3, q3, Sz3, Ng3, Hs3, G3⟩ := id p2_4
  have hin3 : ¬ ((0 : Int32) < 0 ∨ cl3.slots.size ≤ ((0 : Int32)).toNatClampNeg) := inb_of Sz3 ⟨by decide, by decide⟩
  have f4 := (HE_ad2.keep K2)
  obtain ⟨T5, h5, X5, e5, W5, st5⟩ := stR X2 hx hZ rfl Ar3 (j := (0 : Int32)) hin3 rfl (Sto.ofV Ar3 q3 ov2_0 (Ins.of_exa f4 (wd hw 99 rfl))) (g := (mkF m 14 #[.val (.ref ad1), .val (.ref ad2), .val (.ref b2_0), .val (.int (0 : Int32))] [(.ref ad2), (.int (0 : Int32)), (.ref b2_0)])) rfl rfl (hb hby d10_14)
  have N5 := Fr.snoc X5 N2 nn_b2_0
  have old5 := old2.wr W5 nn_b2_0
  have kp5 := kp2.wr W5 (Or.inr sz_b2_0)
  have V5 : Arv Z h5 b2_0 kx2_0 (.object "java/lang/Object") (10 : Int32) [(.ref ad2), .null, .null, .null, .null, .null, .null, .null, .null, .null] .null := Arv.set Ar3 q3 Sz3 Ng3 Hs3 G3 rfl W5 0 rfl (Nat.le_of_ble_eq_true rfl)
  refine Go.step st5 ?_
  show Go p e below _ (T5.setTop (mkF m 15 #[.val (.ref ad1), .val (.ref ad2), .val (.ref b2_0), .val (.int (0 : Int32))] []))
  refine gs.aloadN X5.here hx (hb hby d10_15) rfl rfl ?_
  refine gs.iloadN X5.here hx (hb hby d10_16) rfl ?_
  refine gs.iconst 1 X5.here hx (hb hby d10_17) rfl ?_
  refine gs.iadd X5.here hx (hb hby d10_18) ?_
  rw [show ((0 : Int32) + (1 : Int32)) = (1 : Int32) from by decide]
  have ne_ad1_b2_0 : ad1 ≠ b2_0 := Nat.ne_of_lt (Nat.lt_of_lt_of_le HE_ad1.lt gb_b2_0)
  have f6 := (p2_3.other W5 (Or.inl ne_ad1_b2_0))
  have f7 := (p2_0.wr W5)
  obtain ⟨T8, h8, X8, e8, W8, st8⟩ := putF X5 hx hZ hown (host := "") (Or.inl (wd hw 76 rfl)) Via.refl e5 f6 f7 (Or.inl (wd hw 77 rfl)) (wd hw 20 rfl) (ty := .int) (by decide) rfl rfl (g := (mkF m 19 #[.val (.ref ad1), .val (.ref ad2), .val (.ref b2_0), .val (.int (0 : Int32))] [(.int (1 : Int32)), (.ref ad1)])) rfl rfl (hb hby d10_19)
  have N8 := Fr.snoc X8 N5 nn_ad1
  have old8 := old5.wr W8 nn_ad1
  have kp8 := kp5.wr W8 (Or.inl (List.mem_of_getElem? (i := 0) rfl))
  have F8 := f6.same W8
  refine Go.step st8 ?_
  show Go p e below _ (T8.setTop (mkF m 22 #[.val (.ref ad1), .val (.ref ad2), .val (.ref b2_0), .val (.int (0 : Int32))] []))
  have f9 := (f7.wr W8)
  have f10 := ((p2_1.other W5 (Or.inl ne_ad1_b2_0)).other W8 (Or.inr (sn16 hw)))
  have f11 := ((p2_2.other W5 (Or.inl ne_ad1_b2_0)).other W8 (Or.inr (sn17 hw)))
  have f12 := (V5.other W8 (Ne.symm ne_ad1_b2_0))
  refine Go.retV X8 hx Bd.returns Bd.notSynchronized (hb hby d10_22) (by rw [e8]; exact ⟨b2_0, kx2_0, rfl, sz_b2_0, N8, kp8, f9, f10, f11, F8, f12, ov2_0⟩) (by decide) (by decide)
theorem pd_7 : parseMethodDescriptor "(Ljava/lang/Object;[Ljava/lang/Object;I)V" = some ⟨[(.object "java/lang/Object"), (.array (.object "java/lang/Object")), .int], none⟩ := by decide +kernel
theorem d9_23 : decode jdk_38_method_25_code 23 = .ok (.iconst 1, 1) := by decide +kernel
theorem d9_24 : decode jdk_38_method_25_code 24 = .ok (.ireturn, 1) := by decide +kernel
theorem ef_am9_1 (m : MethodId) (x0 : Addr) (x1 : Addr)  : entryFrame m #[(.ref x0), (.ref x1)] 2 = mkF m 0 #[.val (.ref x0), .val (.ref x1)] [] := by first | (simp [entryFrame, mkF, argsToLocals, Value.category]; done) | rfl
def Q_am9_1 (Z : State) (a_EMPTY_ELEMENTDATA : Addr) (aw0 : Addr) (ka_EMPTY_ELEMENTDATA : ClassId) (kaw0 : ClassId) (ad1 : Addr) (ad2 : Addr) (h0 : Heap) (n0 : Nat) (v : Option Value) (h : Heap) (L : List Loc) : Prop := ∃ fr1 : Addr, ∃ kx1 : ClassId, v = some (.int (1 : Int32)) ∧ h0.size ≤ fr1 ∧ Fr n0 L ∧ Keep h0 h [ad1] ∧ (Exa Z h ad1 "java/util/ArrayList") ∧ (Fld Z h ad1 "java/util/AbstractList" "modCount" "I" (.int (1 : Int32))) ∧ (Fld Z h ad1 "java/util/ArrayList" "elementData" "[Ljava/lang/Object;" (.ref fr1)) ∧ (Fld Z h ad1 "java/util/ArrayList" "size" "I" (.int (1 : Int32))) ∧ (Arv Z h fr1 kx1 (.object "java/lang/Object") (10 : Int32) [(.ref ad2), .null, .null, .null, .null, .null, .null, .null, .null, .null] .null) ∧ (Ovr Z kx1 "java/lang/Object")
set_option maxRecDepth 65536 in
set_option maxHeartbeats 40000000 in
theorem am9_1 (l : Launch) (Z : State) (a0 : Array Value) (hw : ∀ d ∈ tables_1, d.before a0 Z = true) (ws : List Jvm.Cond) (a_EMPTY_ELEMENTDATA : Addr) (aw0 : Addr) (ka_EMPTY_ELEMENTDATA : ClassId) (kaw0 : ClassId) (HW : Wd Z a_EMPTY_ELEMENTDATA aw0 ka_EMPTY_ELEMENTDATA kaw0) (ad1 : Addr) (ad2 : Addr) (h0 : Heap) (n0 : Nat) (Ol : Old Z n0 h0) (HE_ad1 : Exa Z h0 ad1 "java/util/ArrayList") (HF_ad1_AbstractList_modCount : Fld Z h0 ad1 "java/util/AbstractList" "modCount" "I" (.int (0 : Int32))) (HF_ad1_ArrayList_elementData : Fld Z h0 ad1 "java/util/ArrayList" "elementData" "[Ljava/lang/Object;" (.ref aw0)) (HF_ad1_ArrayList_size : Fld Z h0 ad1 "java/util/ArrayList" "size" "I" (.int (0 : Int32))) (HE_ad2 : Exa Z h0 ad2 "com/example/monarc/monarc/Variable") (nn_ad1 : n0 ≤ ad1) :
    MetFree l y_9 (head1 (Jvm.Cond.code y_9 jdk_38_method_25_code 2 (some .boolean) :: ws) ({ frames := 4, cells := 1, slots := 10, locals := 56 } : Room)) (fun a_ U_ => a_ = #[(.ref ad1), (.ref ad2)] ∧ Z.Warmed39 U_.vm ∧ U_.heap = h0) (fun _ _ _ _ _ => True) (fun _ U_ o_ V_ => ∃ v_ L_, o_ = .returned v_ ∧ Q_am9_1 Z a_EMPTY_ELEMENTDATA aw0 ka_EMPTY_ELEMENTDATA kaw0 ad1 ad2 h0 n0 v_ V_.heap L_ ∧ FrameEnd U_ o_ V_ L_ ({ frames := 4, cells := 1, slots := 10, locals := 56 } : Room).cells ({ frames := 4, cells := 1, slots := 10, locals := 56 } : Room).slots) := by
  refine MetFree.of_bodySF (plainFor_of_name pn_3) hisR ?_
  intro p e s m args below meth c s₁ Bd hml0 hP hK
  obtain ⟨rfl, hZ, hh⟩ := hP
  have hx := Bd.exec
  have hby := Bd.bytes
  have hml : c.maxLocals = 2 := hml0
  have hown : s.vm.findClass "java/util/ArrayList" = some m.cls := findClass_of_methodNamed Bd.named
  have hnm := (name_of_methodNamed Bd.named Bd.method).1
  have X0 : Stand p l e ({ frames := 4, cells := 1, slots := 10, locals := 56 } : Room) s m #[(.ref ad1), (.ref ad2)] below meth c s₁ [] 0 0 := Stand.of_body Bd
  have e0 : s₁.heap = h0 := by rw [← hh, Bd.state]; rfl
  have N0 := Fr.nil n0
  have kp0 := Keep.refl h0 [ad1]
  show Go p e below (Fin1 s below (Q_am9_1 Z a_EMPTY_ELEMENTDATA aw0 ka_EMPTY_ELEMENTDATA kaw0 ad1 ad2 h0 n0) ({ frames := 4, cells := 1, slots := 10, locals := 56 } : Room).cells ({ frames := 4, cells := 1, slots := 10, locals := 56 } : Room).slots) _
  refine Go.step (fun t_ k_ => castTop (ef_am9_1 m ad1 ad2) k_) ?_
  obtain ⟨Ea_EMPTY_ELEMENTDATA, Sa_EMPTY_ELEMENTDATA, Eaw0, Saw0, Aa_EMPTY_ELEMENTDATA, Aaw0⟩ := id HW
  show Go p e below _ (s₁.setTop (mkF m 0 #[.val (.ref ad1), .val (.ref ad2)] []))
  refine gs.aloadN X0.here hx (hb hby d9_0) rfl rfl ?_
  refine gs.dup X0.here hx (hb hby d9_1) rfl ?_
  refine gs.getF X0 hx hZ hown (wd hw 74 rfl) (Via.of (wd hw 75 rfl)) e0 HF_ad1_AbstractList_modCount (hb hby d9_2) fun T1 X1 e1 => ?_
  refine gs.iconst 1 X1.here hx (hb hby d9_5) rfl ?_
  refine gs.iadd X1.here hx (hb hby d9_6) ?_
  rw [show ((0 : Int32) + (1 : Int32)) = (1 : Int32) from by decide]
  obtain ⟨T2, h2, X2, e2, W2, st2⟩ := putF X1 hx hZ hown (host := "") (Or.inl (wd hw 74 rfl)) (Via.of (wd hw 75 rfl)) e1 HF_ad1_AbstractList_modCount HE_ad1 (Or.inl (wd hw 39 rfl)) (wd hw 20 rfl) (ty := .int) (by decide) rfl rfl (g := (mkF m 7 #[.val (.ref ad1), .val (.ref ad2)] [(.int (1 : Int32)), (.ref ad1)])) rfl rfl (hb hby d9_7)
  have N2 := Fr.snoc X2 N0 nn_ad1
  have old2 := Ol.wr W2 nn_ad1
  have kp2 := kp0.wr W2 (Or.inl (List.mem_of_getElem? (i := 0) rfl))
  have F2 := HF_ad1_AbstractList_modCount.same W2
  refine Go.step st2 ?_
  show Go p e below _ (T2.setTop (mkF m 10 #[.val (.ref ad1), .val (.ref ad2)] []))
  refine gs.aloadN X2.here hx (hb hby d9_10) rfl rfl ?_
  refine gs.aloadN X2.here hx (hb hby d9_11) rfl rfl ?_
  refine gs.aloadN X2.here hx (hb hby d9_12) rfl rfl ?_
  have f3 := (HF_ad1_ArrayList_elementData.other W2 (Or.inr (sn6 hw)))
  refine gs.getF X2 hx hZ hown (wd hw 41 rfl) Via.refl e2 f3 (hb hby d9_13) fun T4 X4 e4 => ?_
  refine gs.aloadN X4.here hx (hb hby d9_16) rfl rfl ?_
  have f5 := (HF_ad1_ArrayList_size.other W2 (Or.inr (sn7 hw)))
  refine gs.getF X4 hx hZ hown (wd hw 76 rfl) Via.refl e4 f5 (hb hby d9_17) fun T6 X6 e6 => ?_
  have f7 := (HE_ad1.wr W2)
  have f8 := (HE_ad2.wr W2)
  obtain ⟨cq9, q9, q9'⟩ := f7.cell
  obtain ⟨_, _, ⟨T9, L9, k9, n9⟩, -, X9, ⟨Lc9, hQ9, l9, y9, z9⟩, st9⟩ := X6.privateBack hx (y := y_10) hown (mvT hZ (wd hw 78 rfl)) (mvT hZ (wd hw 79 rfl)) (mvT hZ (wd hw 81 rfl)) (Cond.privateMethod_at (mvP hZ (wd hw 80 rfl) (args := #[]))) (mvT hZ (wd hw 82 rfl)) (by decide) (backOf (W := 0) (am10_1 l Z a0 hw [] a_EMPTY_ELEMENTDATA aw0 ka_EMPTY_ELEMENTDATA kaw0 HW (ad1) (ad2) h2 n0 old2 f7 F2 f3 f5 f8 nn_ad1) hZ (wd hw 82 rfl) (wd hw 21 rfl) (by decide) (by decide)) (g := (mkF m 20 #[.val (.ref ad1), .val (.ref ad2)] [(.int (0 : Int32)), (.ref aw0), (.ref ad2), (.ref ad1)])) rfl (by rw [hml]; rfl) (Steps.refl _) (a := ad1) (by rw [e6]; exact q9) q9' (argsL := [(.ref ad2), (.ref aw0), (.int (0 : Int32))]) (rest := []) (lenOf pd_7 rfl) rfl (by show 2 * 0 + _ ≤ _; exact Nat.le_of_eq rfl) (hb hby d9_20) (fun _ _ => ⟨rfl, e6, (by decide : 0 + 1 ≤ _), (by decide : 0 + 10 ≤ _)⟩)
  dsimp only [Pt.U, Pt.locs, Pt.cells, Pt.slots] at X9 l9 y9 z9 st9 hQ9
  subst l9 y9 z9
  obtain ⟨b9_0, kx9_0, rfl, gb_b9_0, Nq9, K9, p9_0, p9_1, p9_2, p9_3, p9_4, ov9_0⟩ := hQ9
  have nn_b9_0 : n0 ≤ b9_0 := Nat.le_trans (old_z0 old2) gb_b9_0
  have sz_b9_0 : h0.size ≤ b9_0 := Nat.le_trans kp2.1 gb_b9_0
  have old9 := old2.keep K9 (allS nn_ad1 all0)
  have kp9 := kp2.trans K9 (allS (Or.inl (List.mem_of_getElem? (i := 0) rfl)) all0)
  have N9 := Fr.app N2 Nq9
  refine Go.step (fun t_ k_ => st9.trans k_) ?_
  show Go p e below _ (T9.setTop (mkF m 23 #[.val (.ref ad1), .val (.ref ad2)] []))
  refine gs.iconst 1 X9.here hx (hb hby d9_23) rfl ?_
  refine Go.retZ X9 hx (t := .boolean) Bd.returns (by simp) Bd.notSynchronized (hb hby d9_24) (by exact ⟨b9_0, kx9_0, rfl, sz_b9_0, N9, kp9, p9_0, p9_1, p9_2, p9_3, p9_4, ov9_0⟩) (by decide) (by decide)
theorem pd_8 : parseMethodDescriptor "(Ljava/lang/Object;)Z" = some ⟨[(.object "java/lang/Object")], some .boolean⟩ := by decide +kernel
theorem ef_am7_2 (m : MethodId) (x0 : Addr) (x1 : Addr) (x2 : Int32) (x3 : Addr)  : entryFrame m #[(.ref x0), (.ref x1), (.int x2), (.ref x3)] 4 = mkF m 0 #[.val (.ref x0), .val (.ref x1), .val (.int x2), .val (.ref x3)] [] := by first | (simp [entryFrame, mkF, argsToLocals, Value.category]; done) | rfl
def Q_am7_2 (Z : State) (a_EMPTY_ELEMENTDATA : Addr) (aw0 : Addr) (ka_EMPTY_ELEMENTDATA : ClassId) (kaw0 : ClassId) (ad1 : Addr) (ad2 : Addr) (ad3 : Addr) (h0 : Heap) (n0 : Nat) (v : Option Value) (h : Heap) (L : List Loc) : Prop := v = none ∧ Fr n0 L ∧ Keep h0 h [ad1] ∧ (Exa Z h ad1 "com/example/monarc/monarc/Variable") ∧ (Fld Z h ad1 "com/example/monarc/monarc/Variable" "domain" "Lcom/example/monarc/monarc/InitialDomain;" (.ref ad3)) ∧ (Fld Z h ad1 "com/example/monarc/monarc/Variable" "index" "I" (.int (1 : Int32))) ∧ (Fld Z h ad1 "com/example/monarc/monarc/Variable" "name" "Ljava/lang/String;" (.ref ad2))
set_option maxRecDepth 65536 in
set_option maxHeartbeats 40000000 in
theorem am7_2 (l : Launch) (Z : State) (a0 : Array Value) (hw : ∀ d ∈ tables_1, d.before a0 Z = true) (ws : List Jvm.Cond) (a_EMPTY_ELEMENTDATA : Addr) (aw0 : Addr) (ka_EMPTY_ELEMENTDATA : ClassId) (kaw0 : ClassId) (HW : Wd Z a_EMPTY_ELEMENTDATA aw0 ka_EMPTY_ELEMENTDATA kaw0) (ad1 : Addr) (ad2 : Addr) (ad3 : Addr) (h0 : Heap) (n0 : Nat) (Ol : Old Z n0 h0) (HE_ad1 : Exa Z h0 ad1 "com/example/monarc/monarc/Variable") (HF_ad1_Variable_name : Fld Z h0 ad1 "com/example/monarc/monarc/Variable" "name" "Ljava/lang/String;" .null) (HF_ad1_Variable_index : Fld Z h0 ad1 "com/example/monarc/monarc/Variable" "index" "I" (.int (0 : Int32))) (HF_ad1_Variable_domain : Fld Z h0 ad1 "com/example/monarc/monarc/Variable" "domain" "Lcom/example/monarc/monarc/InitialDomain;" .null) (nn_ad1 : n0 ≤ ad1) :
    MetFree l y_7 (head1 (Jvm.Cond.code y_7 prog_76_method_1_code 4 none :: ws) ({ frames := 2, cells := 0, slots := 0, locals := 24 } : Room)) (fun a_ U_ => a_ = #[(.ref ad1), (.ref ad2), (.int (1 : Int32)), (.ref ad3)] ∧ Z.Warmed39 U_.vm ∧ U_.heap = h0) (fun _ _ _ _ _ => True) (fun _ U_ o_ V_ => ∃ v_ L_, o_ = .returned v_ ∧ Q_am7_2 Z a_EMPTY_ELEMENTDATA aw0 ka_EMPTY_ELEMENTDATA kaw0 ad1 ad2 ad3 h0 n0 v_ V_.heap L_ ∧ FrameEnd U_ o_ V_ L_ ({ frames := 2, cells := 0, slots := 0, locals := 24 } : Room).cells ({ frames := 2, cells := 0, slots := 0, locals := 24 } : Room).slots) := by
  refine MetFree.of_bodySF (plainFor_of_name pn_5) hisR ?_
  intro p e s m args below meth c s₁ Bd hml0 hP hK
  obtain ⟨rfl, hZ, hh⟩ := hP
  have hx := Bd.exec
  have hby := Bd.bytes
  have hml : c.maxLocals = 4 := hml0
  have hown : s.vm.findClass "com/example/monarc/monarc/Variable" = some m.cls := findClass_of_methodNamed Bd.named
  have hnm := (name_of_methodNamed Bd.named Bd.method).1
  have X0 : Stand p l e ({ frames := 2, cells := 0, slots := 0, locals := 24 } : Room) s m #[(.ref ad1), (.ref ad2), (.int (1 : Int32)), (.ref ad3)] below meth c s₁ [] 0 0 := Stand.of_body Bd
  have e0 : s₁.heap = h0 := by rw [← hh, Bd.state]; rfl
  have N0 := Fr.nil n0
  have kp0 := Keep.refl h0 [ad1]
  show Go p e below (Fin1 s below (Q_am7_2 Z a_EMPTY_ELEMENTDATA aw0 ka_EMPTY_ELEMENTDATA kaw0 ad1 ad2 ad3 h0 n0) ({ frames := 2, cells := 0, slots := 0, locals := 24 } : Room).cells ({ frames := 2, cells := 0, slots := 0, locals := 24 } : Room).slots) _
  refine Go.step (fun t_ k_ => castTop (ef_am7_2 m ad1 ad2 (1 : Int32) ad3) k_) ?_
  obtain ⟨Ea_EMPTY_ELEMENTDATA, Sa_EMPTY_ELEMENTDATA, Eaw0, Saw0, Aa_EMPTY_ELEMENTDATA, Aaw0⟩ := id HW
  show Go p e below _ (s₁.setTop (mkF m 0 #[.val (.ref ad1), .val (.ref ad2), .val (.int (1 : Int32)), .val (.ref ad3)] []))
  refine gs.aloadN X0.here hx (hb hby d7_0) rfl rfl ?_
  obtain ⟨_, _, ⟨T1, L1, k1, n1⟩, -, X1, ⟨Lc1, hQ1, l1, y1, z1⟩, st1⟩ := X0.specialBack hx (y := y_8) rfl hown (mvT hZ (wd hw 57 rfl)) (mvT hZ (wd hw 58 rfl)) (mvT hZ (wd hw 61 rfl)) (by decide) (backOf (W := 0) (am8_1 l Z a0 hw [] a_EMPTY_ELEMENTDATA aw0 ka_EMPTY_ELEMENTDATA kaw0 HW (ad1) h0 n0 Ol ) hZ (wd hw 61 rfl) (wd hw 60 rfl) (by decide) (by decide)) (g := (mkF m 1 #[.val (.ref ad1), .val (.ref ad2), .val (.int (1 : Int32)), .val (.ref ad3)] [(.ref ad1)])) rfl (by rw [hml]; rfl) (Steps.refl _) (a := ad1) (argsL := []) (rest := []) (lenOf pd_2 rfl) rfl (by show 2 * 0 + _ ≤ _; exact Nat.le_of_eq rfl) (hb hby d7_1) (fun _ _ => ⟨rfl, e0, (by decide : 0 + 0 ≤ _), (by decide : 0 + 0 ≤ _)⟩)
  dsimp only [Pt.U, Pt.locs, Pt.cells, Pt.slots] at X1 l1 y1 z1 st1 hQ1
  subst l1 y1 z1
  obtain ⟨rfl, Nq1, e1⟩ := hQ1
  have N1 := Fr.app N0 Nq1
  refine Go.step (fun t_ k_ => st1.trans k_) ?_
  show Go p e below _ (T1.setTop (mkF m 4 #[.val (.ref ad1), .val (.ref ad2), .val (.int (1 : Int32)), .val (.ref ad3)] []))
  refine gs.aloadN X1.here hx (hb hby d7_4) rfl rfl ?_
  refine gs.aloadN X1.here hx (hb hby d7_5) rfl rfl ?_
  obtain ⟨T2, h2, X2, e2, W2, st2⟩ := putF X1 hx hZ hown (host := "") (Or.inl (wd hw 63 rfl)) Via.refl e1 HF_ad1_Variable_name HE_ad1 (Or.inr ⟨(wd hw 64 rfl), rfl, hnm⟩) (wd hw 44 rfl) (ty := (.object "java/lang/String")) (by decide) rfl rfl (g := (mkF m 6 #[.val (.ref ad1), .val (.ref ad2), .val (.int (1 : Int32)), .val (.ref ad3)] [(.ref ad2), (.ref ad1)])) rfl rfl (hb hby d7_6)
  have N2 := Fr.snoc X2 N1 nn_ad1
  have old2 := Ol.wr W2 nn_ad1
  have kp2 := kp0.wr W2 (Or.inl (List.mem_of_getElem? (i := 0) rfl))
  have F2 := HF_ad1_Variable_name.same W2
  refine Go.step st2 ?_
  show Go p e below _ (T2.setTop (mkF m 9 #[.val (.ref ad1), .val (.ref ad2), .val (.int (1 : Int32)), .val (.ref ad3)] []))
  refine gs.aloadN X2.here hx (hb hby d7_9) rfl rfl ?_
  refine gs.iloadN X2.here hx (hb hby d7_10) rfl ?_
  have f3 := (HF_ad1_Variable_index.other W2 (Or.inr (sn10 hw)))
  have f4 := (HE_ad1.wr W2)
  obtain ⟨T5, h5, X5, e5, W5, st5⟩ := putF X2 hx hZ hown (host := "") (Or.inl (wd hw 65 rfl)) Via.refl e2 f3 f4 (Or.inr ⟨(wd hw 66 rfl), rfl, hnm⟩) (wd hw 44 rfl) (ty := .int) (by decide) rfl rfl (g := (mkF m 11 #[.val (.ref ad1), .val (.ref ad2), .val (.int (1 : Int32)), .val (.ref ad3)] [(.int (1 : Int32)), (.ref ad1)])) rfl rfl (hb hby d7_11)
  have N5 := Fr.snoc X5 N2 nn_ad1
  have old5 := old2.wr W5 nn_ad1
  have kp5 := kp2.wr W5 (Or.inl (List.mem_of_getElem? (i := 0) rfl))
  have F5 := f3.same W5
  refine Go.step st5 ?_
  show Go p e below _ (T5.setTop (mkF m 14 #[.val (.ref ad1), .val (.ref ad2), .val (.int (1 : Int32)), .val (.ref ad3)] []))
  refine gs.aloadN X5.here hx (hb hby d7_14) rfl rfl ?_
  refine gs.aloadN X5.here hx (hb hby d7_15) rfl rfl ?_
  have f6 := ((HF_ad1_Variable_domain.other W2 (Or.inr (sn11 hw))).other W5 (Or.inr (sn12 hw)))
  have f7 := (f4.wr W5)
  obtain ⟨T8, h8, X8, e8, W8, st8⟩ := putF X5 hx hZ hown (host := "") (Or.inl (wd hw 67 rfl)) Via.refl e5 f6 f7 (Or.inr ⟨(wd hw 68 rfl), rfl, hnm⟩) (wd hw 44 rfl) (ty := (.object "com/example/monarc/monarc/InitialDomain")) (by decide) rfl rfl (g := (mkF m 16 #[.val (.ref ad1), .val (.ref ad2), .val (.int (1 : Int32)), .val (.ref ad3)] [(.ref ad3), (.ref ad1)])) rfl rfl (hb hby d7_16)
  have N8 := Fr.snoc X8 N5 nn_ad1
  have old8 := old5.wr W8 nn_ad1
  have kp8 := kp5.wr W8 (Or.inl (List.mem_of_getElem? (i := 0) rfl))
  have F8 := f6.same W8
  refine Go.step st8 ?_
  show Go p e below _ (T8.setTop (mkF m 19 #[.val (.ref ad1), .val (.ref ad2), .val (.int (1 : Int32)), .val (.ref ad3)] []))
  have f9 := (f7.wr W8)
  have f10 := (F5.other W8 (Or.inr (sn13 hw)))
  have f11 := ((F2.other W5 (Or.inr (sn14 hw))).other W8 (Or.inr (sn15 hw)))
  refine Go.retV X8 hx Bd.returns Bd.notSynchronized (hb hby d7_19) (by rw [e8]; exact ⟨rfl, N8, kp8, f9, F8, f10, f11⟩) (by decide) (by decide)
theorem ef_am10_2 (m : MethodId) (x0 : Addr) (x1 : Addr) (x2 : Addr) (x3 : Int32)  : entryFrame m #[(.ref x0), (.ref x1), (.ref x2), (.int x3)] 4 = mkF m 0 #[.val (.ref x0), .val (.ref x1), .val (.ref x2), .val (.int x3)] [] := by first | (simp [entryFrame, mkF, argsToLocals, Value.category]; done) | rfl
def Q_am10_2 (Z : State) (a_EMPTY_ELEMENTDATA : Addr) (aw0 : Addr) (ka_EMPTY_ELEMENTDATA : ClassId) (kaw0 : ClassId) (ad1 : Addr) (ad2 : Addr) (ad3 : Addr) (ad6 : Addr) (kc1 : ClassId) (h0 : Heap) (n0 : Nat) (v : Option Value) (h : Heap) (L : List Loc) : Prop := v = none ∧ Fr n0 L ∧ Keep h0 h [ad1, ad3] ∧ (Exa Z h ad1 "java/util/ArrayList") ∧ (Fld Z h ad1 "java/util/AbstractList" "modCount" "I" (.int (2 : Int32))) ∧ (Fld Z h ad1 "java/util/ArrayList" "elementData" "[Ljava/lang/Object;" (.ref ad3)) ∧ (Fld Z h ad1 "java/util/ArrayList" "size" "I" (.int (2 : Int32))) ∧ (Arv Z h ad3 kc1 (.object "java/lang/Object") (10 : Int32) [(.ref ad6), (.ref ad2), .null, .null, .null, .null, .null, .null, .null, .null] .null)
set_option maxRecDepth 65536 in
set_option maxHeartbeats 40000000 in
theorem am10_2 (l : Launch) (Z : State) (a0 : Array Value) (hw : ∀ d ∈ tables_1, d.before a0 Z = true) (ws : List Jvm.Cond) (a_EMPTY_ELEMENTDATA : Addr) (aw0 : Addr) (ka_EMPTY_ELEMENTDATA : ClassId) (kaw0 : ClassId) (HW : Wd Z a_EMPTY_ELEMENTDATA aw0 ka_EMPTY_ELEMENTDATA kaw0) (ad1 : Addr) (ad2 : Addr) (ad3 : Addr) (ad6 : Addr) (kc1 : ClassId) (h0 : Heap) (n0 : Nat) (Ol : Old Z n0 h0) (HE_ad1 : Exa Z h0 ad1 "java/util/ArrayList") (HF_ad1_AbstractList_modCount : Fld Z h0 ad1 "java/util/AbstractList" "modCount" "I" (.int (2 : Int32))) (HF_ad1_ArrayList_elementData : Fld Z h0 ad1 "java/util/ArrayList" "elementData" "[Ljava/lang/Object;" (.ref ad3)) (HF_ad1_ArrayList_size : Fld Z h0 ad1 "java/util/ArrayList" "size" "I" (.int (1 : Int32))) (HV_ad3 : Arv Z h0 ad3 kc1 (.object "java/lang/Object") (10 : Int32) [(.ref ad6), .null, .null, .null, .null, .null, .null, .null, .null, .null] .null) (HE_ad2 : Exa Z h0 ad2 "com/example/monarc/monarc/Variable") (nn_ad1 : n0 ≤ ad1) (nn_ad3 : n0 ≤ ad3) (ne_ad1_ad3 : ad1 ≠ ad3) (hO_ad3 : Ovr Z kc1 "java/lang/Object") :
    MetFree l y_10 (head1 (Jvm.Cond.code y_10 jdk_38_method_24_code 4 none :: ws) ({ frames := 0, cells := 0, slots := 0, locals := 0 } : Room)) (fun a_ U_ => a_ = #[(.ref ad1), (.ref ad2), (.ref ad3), (.int (1 : Int32))] ∧ Z.Warmed39 U_.vm ∧ U_.heap = h0) (fun _ _ _ _ _ => True) (fun _ U_ o_ V_ => ∃ v_ L_, o_ = .returned v_ ∧ Q_am10_2 Z a_EMPTY_ELEMENTDATA aw0 ka_EMPTY_ELEMENTDATA kaw0 ad1 ad2 ad3 ad6 kc1 h0 n0 v_ V_.heap L_ ∧ FrameEnd U_ o_ V_ L_ ({ frames := 0, cells := 0, slots := 0, locals := 0 } : Room).cells ({ frames := 0, cells := 0, slots := 0, locals := 0 } : Room).slots) := by
  refine MetFree.of_bodySF (plainFor_of_name pn_3) hisR ?_
  intro p e s m args below meth c s₁ Bd hml0 hP hK
  obtain ⟨rfl, hZ, hh⟩ := hP
  have hx := Bd.exec
  have hby := Bd.bytes
  have hml : c.maxLocals = 4 := hml0
  have hown : s.vm.findClass "java/util/ArrayList" = some m.cls := findClass_of_methodNamed Bd.named
  have hnm := (name_of_methodNamed Bd.named Bd.method).1
  have X0 : Stand p l e ({ frames := 0, cells := 0, slots := 0, locals := 0 } : Room) s m #[(.ref ad1), (.ref ad2), (.ref ad3), (.int (1 : Int32))] below meth c s₁ [] 0 0 := Stand.of_body Bd
  have e0 : s₁.heap = h0 := by rw [← hh, Bd.state]; rfl
  have N0 := Fr.nil n0
  have kp0 := Keep.refl h0 [ad1, ad3]
  show Go p e below (Fin1 s below (Q_am10_2 Z a_EMPTY_ELEMENTDATA aw0 ka_EMPTY_ELEMENTDATA kaw0 ad1 ad2 ad3 ad6 kc1 h0 n0) ({ frames := 0, cells := 0, slots := 0, locals := 0 } : Room).cells ({ frames := 0, cells := 0, slots := 0, locals := 0 } : Room).slots) _
  refine Go.step (fun t_ k_ => castTop (ef_am10_2 m ad1 ad2 ad3 (1 : Int32)) k_) ?_
  obtain ⟨Ea_EMPTY_ELEMENTDATA, Sa_EMPTY_ELEMENTDATA, Eaw0, Saw0, Aa_EMPTY_ELEMENTDATA, Aaw0⟩ := id HW
  show Go p e below _ (s₁.setTop (mkF m 0 #[.val (.ref ad1), .val (.ref ad2), .val (.ref ad3), .val (.int (1 : Int32))] []))
  refine gs.iloadN X0.here hx (hb hby d10_0) rfl ?_
  refine gs.aloadN X0.here hx (hb hby d10_1) rfl rfl ?_
  obtain ⟨cl1, Ar1, -, Sz1, Ng1, -, -⟩ := id HV_ad3
  refine Go.step (fun t_ k_ => X0.arraylength hx (by rw [e0]; exact Ar1.1) (State.isArrayOf_alike hZ.alike Ar1.2.1) (g := (mkF m 2 #[.val (.ref ad1), .val (.ref ad2), .val (.ref ad3), .val (.int (1 : Int32))] [(.ref ad3), (.int (1 : Int32))])) rfl rfl (hb hby d10_2) _ k_) ?_
  rw [len_of Sz1 Ng1]
  show Go p e below _ (s₁.setTop (mkF m 3 #[.val (.ref ad1), .val (.ref ad2), .val (.ref ad3), .val (.int (1 : Int32))] [(.int (10 : Int32)), (.int (1 : Int32))]))
  have hc3 : ¬ ((1 : Int32) = (10 : Int32)) := by decide
  refine gs.icmpYes 11 X0.here hx (hb hby d10_3) (feq hc3).2 rfl ?_
  refine gs.aloadN X0.here hx (hb hby d10_11) rfl rfl ?_
  refine gs.iloadN X0.here hx (hb hby d10_12) rfl ?_
  refine gs.aloadN X0.here hx (hb hby d10_13) rfl rfl ?_
  obtain ⟨cl2, Ar2, q2, Sz2, Ng2, Hs2, G2⟩ := id HV_ad3
  have hin2 : ¬ ((1 : Int32) < 0 ∨ cl2.slots.size ≤ ((1 : Int32)).toNatClampNeg) := inb_of Sz2 ⟨by decide, by decide⟩
  obtain ⟨T3, h3, X3, e3, W3, st3⟩ := stR X0 hx hZ e0 Ar2 (j := (1 : Int32)) hin2 rfl (Sto.ofV Ar2 q2 hO_ad3 (Ins.of_exa HE_ad2 (wd hw 99 rfl))) (g := (mkF m 14 #[.val (.ref ad1), .val (.ref ad2), .val (.ref ad3), .val (.int (1 : Int32))] [(.ref ad2), (.int (1 : Int32)), (.ref ad3)])) rfl rfl (hb hby d10_14)
  have N3 := Fr.snoc X3 N0 nn_ad3
  have old3 := Ol.wr W3 nn_ad3
  have kp3 := kp0.wr W3 (Or.inl (List.mem_of_getElem? (i := 1) rfl))
  have V3 : Arv Z h3 ad3 kc1 (.object "java/lang/Object") (10 : Int32) [(.ref ad6), (.ref ad2), .null, .null, .null, .null, .null, .null, .null, .null] .null := Arv.set Ar2 q2 Sz2 Ng2 Hs2 G2 rfl W3 1 rfl (Nat.le_of_ble_eq_true rfl)
  refine Go.step st3 ?_
  show Go p e below _ (T3.setTop (mkF m 15 #[.val (.ref ad1), .val (.ref ad2), .val (.ref ad3), .val (.int (1 : Int32))] []))
  refine gs.aloadN X3.here hx (hb hby d10_15) rfl rfl ?_
  refine gs.iloadN X3.here hx (hb hby d10_16) rfl ?_
  refine gs.iconst 1 X3.here hx (hb hby d10_17) rfl ?_
  refine gs.iadd X3.here hx (hb hby d10_18) ?_
  rw [show ((1 : Int32) + (1 : Int32)) = (2 : Int32) from by decide]
  have f4 := (HF_ad1_ArrayList_size.other W3 (Or.inl ne_ad1_ad3))
  have f5 := (HE_ad1.wr W3)
  obtain ⟨T6, h6, X6, e6, W6, st6⟩ := putF X3 hx hZ hown (host := "") (Or.inl (wd hw 76 rfl)) Via.refl e3 f4 f5 (Or.inl (wd hw 77 rfl)) (wd hw 20 rfl) (ty := .int) (by decide) rfl rfl (g := (mkF m 19 #[.val (.ref ad1), .val (.ref ad2), .val (.ref ad3), .val (.int (1 : Int32))] [(.int (2 : Int32)), (.ref ad1)])) rfl rfl (hb hby d10_19)
  have N6 := Fr.snoc X6 N3 nn_ad1
  have old6 := old3.wr W6 nn_ad1
  have kp6 := kp3.wr W6 (Or.inl (List.mem_of_getElem? (i := 0) rfl))
  have F6 := f4.same W6
  refine Go.step st6 ?_
  show Go p e below _ (T6.setTop (mkF m 22 #[.val (.ref ad1), .val (.ref ad2), .val (.ref ad3), .val (.int (1 : Int32))] []))
  have f7 := (f5.wr W6)
  have f8 := ((HF_ad1_AbstractList_modCount.other W3 (Or.inl ne_ad1_ad3)).other W6 (Or.inr (sn16 hw)))
  have f9 := ((HF_ad1_ArrayList_elementData.other W3 (Or.inl ne_ad1_ad3)).other W6 (Or.inr (sn17 hw)))
  have f10 := (V3.other W6 (Ne.symm ne_ad1_ad3))
  refine Go.retV X6 hx Bd.returns Bd.notSynchronized (hb hby d10_22) (by rw [e6]; exact ⟨rfl, N6, kp6, f7, f8, f9, F6, f10⟩) (by decide) (by decide)
theorem ef_am9_2 (m : MethodId) (x0 : Addr) (x1 : Addr)  : entryFrame m #[(.ref x0), (.ref x1)] 2 = mkF m 0 #[.val (.ref x0), .val (.ref x1)] [] := by first | (simp [entryFrame, mkF, argsToLocals, Value.category]; done) | rfl
def Q_am9_2 (Z : State) (a_EMPTY_ELEMENTDATA : Addr) (aw0 : Addr) (ka_EMPTY_ELEMENTDATA : ClassId) (kaw0 : ClassId) (ad1 : Addr) (ad2 : Addr) (ad5 : Addr) (ad6 : Addr) (kc1 : ClassId) (h0 : Heap) (n0 : Nat) (v : Option Value) (h : Heap) (L : List Loc) : Prop := v = some (.int (1 : Int32)) ∧ Fr n0 L ∧ Keep h0 h [ad1, ad5] ∧ (Exa Z h ad1 "java/util/ArrayList") ∧ (Fld Z h ad1 "java/util/AbstractList" "modCount" "I" (.int (2 : Int32))) ∧ (Fld Z h ad1 "java/util/ArrayList" "elementData" "[Ljava/lang/Object;" (.ref ad5)) ∧ (Fld Z h ad1 "java/util/ArrayList" "size" "I" (.int (2 : Int32))) ∧ (Arv Z h ad5 kc1 (.object "java/lang/Object") (10 : Int32) [(.ref ad6), (.ref ad2), .null, .null, .null, .null, .null, .null, .null, .null] .null)
set_option maxRecDepth 65536 in
set_option maxHeartbeats 40000000 in
theorem am9_2 (l : Launch) (Z : State) (a0 : Array Value) (hw : ∀ d ∈ tables_1, d.before a0 Z = true) (ws : List Jvm.Cond) (a_EMPTY_ELEMENTDATA : Addr) (aw0 : Addr) (ka_EMPTY_ELEMENTDATA : ClassId) (kaw0 : ClassId) (HW : Wd Z a_EMPTY_ELEMENTDATA aw0 ka_EMPTY_ELEMENTDATA kaw0) (ad1 : Addr) (ad2 : Addr) (ad5 : Addr) (ad6 : Addr) (kc1 : ClassId) (h0 : Heap) (n0 : Nat) (Ol : Old Z n0 h0) (HE_ad1 : Exa Z h0 ad1 "java/util/ArrayList") (HF_ad1_AbstractList_modCount : Fld Z h0 ad1 "java/util/AbstractList" "modCount" "I" (.int (1 : Int32))) (HF_ad1_ArrayList_elementData : Fld Z h0 ad1 "java/util/ArrayList" "elementData" "[Ljava/lang/Object;" (.ref ad5)) (HF_ad1_ArrayList_size : Fld Z h0 ad1 "java/util/ArrayList" "size" "I" (.int (1 : Int32))) (HV_ad5 : Arv Z h0 ad5 kc1 (.object "java/lang/Object") (10 : Int32) [(.ref ad6), .null, .null, .null, .null, .null, .null, .null, .null, .null] .null) (HE_ad2 : Exa Z h0 ad2 "com/example/monarc/monarc/Variable") (nn_ad1 : n0 ≤ ad1) (nn_ad5 : n0 ≤ ad5) (ne_ad1_ad5 : ad1 ≠ ad5) (hO_ad5 : Ovr Z kc1 "java/lang/Object") :
    MetFree l y_9 (head1 (Jvm.Cond.code y_9 jdk_38_method_25_code 2 (some .boolean) :: ws) ({ frames := 1, cells := 0, slots := 0, locals := 15 } : Room)) (fun a_ U_ => a_ = #[(.ref ad1), (.ref ad2)] ∧ Z.Warmed39 U_.vm ∧ U_.heap = h0) (fun _ _ _ _ _ => True) (fun _ U_ o_ V_ => ∃ v_ L_, o_ = .returned v_ ∧ Q_am9_2 Z a_EMPTY_ELEMENTDATA aw0 ka_EMPTY_ELEMENTDATA kaw0 ad1 ad2 ad5 ad6 kc1 h0 n0 v_ V_.heap L_ ∧ FrameEnd U_ o_ V_ L_ ({ frames := 1, cells := 0, slots := 0, locals := 15 } : Room).cells ({ frames := 1, cells := 0, slots := 0, locals := 15 } : Room).slots) := by
  refine MetFree.of_bodySF (plainFor_of_name pn_3) hisR ?_
  intro p e s m args below meth c s₁ Bd hml0 hP hK
  obtain ⟨rfl, hZ, hh⟩ := hP
  have hx := Bd.exec
  have hby := Bd.bytes
  have hml : c.maxLocals = 2 := hml0
  have hown : s.vm.findClass "java/util/ArrayList" = some m.cls := findClass_of_methodNamed Bd.named
  have hnm := (name_of_methodNamed Bd.named Bd.method).1
  have X0 : Stand p l e ({ frames := 1, cells := 0, slots := 0, locals := 15 } : Room) s m #[(.ref ad1), (.ref ad2)] below meth c s₁ [] 0 0 := Stand.of_body Bd
  have e0 : s₁.heap = h0 := by rw [← hh, Bd.state]; rfl
  have N0 := Fr.nil n0
  have kp0 := Keep.refl h0 [ad1, ad5]
  show Go p e below (Fin1 s below (Q_am9_2 Z a_EMPTY_ELEMENTDATA aw0 ka_EMPTY_ELEMENTDATA kaw0 ad1 ad2 ad5 ad6 kc1 h0 n0) ({ frames := 1, cells := 0, slots := 0, locals := 15 } : Room).cells ({ frames := 1, cells := 0, slots := 0, locals := 15 } : Room).slots) _
  refine Go.step (fun t_ k_ => castTop (ef_am9_2 m ad1 ad2) k_) ?_
  obtain ⟨Ea_EMPTY_ELEMENTDATA, Sa_EMPTY_ELEMENTDATA, Eaw0, Saw0, Aa_EMPTY_ELEMENTDATA, Aaw0⟩ := id HW
  show Go p e below _ (s₁.setTop (mkF m 0 #[.val (.ref ad1), .val (.ref ad2)] []))
  refine gs.aloadN X0.here hx (hb hby d9_0) rfl rfl ?_
  refine gs.dup X0.here hx (hb hby d9_1) rfl ?_
  refine gs.getF X0 hx hZ hown (wd hw 74 rfl) (Via.of (wd hw 75 rfl)) e0 HF_ad1_AbstractList_modCount (hb hby d9_2) fun T1 X1 e1 => ?_
  refine gs.iconst 1 X1.here hx (hb hby d9_5) rfl ?_
  refine gs.iadd X1.here hx (hb hby d9_6) ?_
  rw [show ((1 : Int32) + (1 : Int32)) = (2 : Int32) from by decide]
  obtain ⟨T2, h2, X2, e2, W2, st2⟩ := putF X1 hx hZ hown (host := "") (Or.inl (wd hw 74 rfl)) (Via.of (wd hw 75 rfl)) e1 HF_ad1_AbstractList_modCount HE_ad1 (Or.inl (wd hw 39 rfl)) (wd hw 20 rfl) (ty := .int) (by decide) rfl rfl (g := (mkF m 7 #[.val (.ref ad1), .val (.ref ad2)] [(.int (2 : Int32)), (.ref ad1)])) rfl rfl (hb hby d9_7)
  have N2 := Fr.snoc X2 N0 nn_ad1
  have old2 := Ol.wr W2 nn_ad1
  have kp2 := kp0.wr W2 (Or.inl (List.mem_of_getElem? (i := 0) rfl))
  have F2 := HF_ad1_AbstractList_modCount.same W2
  refine Go.step st2 ?_
  show Go p e below _ (T2.setTop (mkF m 10 #[.val (.ref ad1), .val (.ref ad2)] []))
  refine gs.aloadN X2.here hx (hb hby d9_10) rfl rfl ?_
  refine gs.aloadN X2.here hx (hb hby d9_11) rfl rfl ?_
  refine gs.aloadN X2.here hx (hb hby d9_12) rfl rfl ?_
  have f3 := (HF_ad1_ArrayList_elementData.other W2 (Or.inr (sn6 hw)))
  refine gs.getF X2 hx hZ hown (wd hw 41 rfl) Via.refl e2 f3 (hb hby d9_13) fun T4 X4 e4 => ?_
  refine gs.aloadN X4.here hx (hb hby d9_16) rfl rfl ?_
  have f5 := (HF_ad1_ArrayList_size.other W2 (Or.inr (sn7 hw)))
  refine gs.getF X4 hx hZ hown (wd hw 76 rfl) Via.refl e4 f5 (hb hby d9_17) fun T6 X6 e6 => ?_
  have f7 := (HE_ad1.wr W2)
  have f8 := (HV_ad5.other W2 (Ne.symm ne_ad1_ad5))
  have f9 := (HE_ad2.wr W2)
  obtain ⟨cq10, q10, q10'⟩ := f7.cell
  obtain ⟨_, _, ⟨T10, L10, k10, n10⟩, -, X10, ⟨Lc10, hQ10, l10, y10, z10⟩, st10⟩ := X6.privateBack hx (y := y_10) hown (mvT hZ (wd hw 78 rfl)) (mvT hZ (wd hw 79 rfl)) (mvT hZ (wd hw 81 rfl)) (Cond.privateMethod_at (mvP hZ (wd hw 80 rfl) (args := #[]))) (mvT hZ (wd hw 82 rfl)) (by decide) (backOf (W := 0) (am10_2 l Z a0 hw [] a_EMPTY_ELEMENTDATA aw0 ka_EMPTY_ELEMENTDATA kaw0 HW (ad1) (ad2) (ad5) (ad6) (kc1) h2 n0 old2 f7 F2 f3 f5 f8 f9 nn_ad1 nn_ad5 ne_ad1_ad5 hO_ad5) hZ (wd hw 82 rfl) (wd hw 21 rfl) (by decide) (by decide)) (g := (mkF m 20 #[.val (.ref ad1), .val (.ref ad2)] [(.int (1 : Int32)), (.ref ad5), (.ref ad2), (.ref ad1)])) rfl (by rw [hml]; rfl) (Steps.refl _) (a := ad1) (by rw [e6]; exact q10) q10' (argsL := [(.ref ad2), (.ref ad5), (.int (1 : Int32))]) (rest := []) (lenOf pd_7 rfl) rfl (by show 2 * 0 + _ ≤ _; exact Nat.le_of_eq rfl) (hb hby d9_20) (fun _ _ => ⟨rfl, e6, (by decide : 0 + 0 ≤ _), (by decide : 0 + 0 ≤ _)⟩)
  dsimp only [Pt.U, Pt.locs, Pt.cells, Pt.slots] at X10 l10 y10 z10 st10 hQ10
  subst l10 y10 z10
  obtain ⟨rfl, Nq10, K10, p10_0, p10_1, p10_2, p10_3, p10_4⟩ := hQ10
  have old10 := old2.keep K10 (allS nn_ad1 (allS nn_ad5 all0))
  have kp10 := kp2.trans K10 (allS (Or.inl (List.mem_of_getElem? (i := 0) rfl)) (allS (Or.inl (List.mem_of_getElem? (i := 1) rfl)) all0))
  have N10 := Fr.app N2 Nq10
  refine Go.step (fun t_ k_ => st10.trans k_) ?_
  show Go p e below _ (T10.setTop (mkF m 23 #[.val (.ref ad1), .val (.ref ad2)] []))
  refine gs.iconst 1 X10.here hx (hb hby d9_23) rfl ?_
  refine Go.retZ X10 hx (t := .boolean) Bd.returns (by simp) Bd.notSynchronized (hb hby d9_24) (by exact ⟨rfl, N10, kp10, p10_0, p10_1, p10_2, p10_3, p10_4⟩) (by decide) (by decide)
theorem d14_0 : decode prog_11_method_1_code 0 = .ok (.aload_n 0, 1) := by decide +kernel
theorem d14_1 : decode prog_11_method_1_code 1 = .ok (.invokespecial 3, 3) := by decide +kernel
theorem d14_4 : decode prog_11_method_1_code 4 = .ok (.aload_n 0, 1) := by decide +kernel
theorem d14_5 : decode prog_11_method_1_code 5 = .ok (.sipush 1024, 3) := by decide +kernel
theorem d14_8 : decode prog_11_method_1_code 8 = .ok (.newarray .long, 2) := by decide +kernel
theorem d14_10 : decode prog_11_method_1_code 10 = .ok (.putfield 9, 3) := by decide +kernel
theorem d14_13 : decode prog_11_method_1_code 13 = .ok (.aload_n 0, 1) := by decide +kernel
theorem d14_14 : decode prog_11_method_1_code 14 = .ok (.bipush 64, 2) := by decide +kernel
theorem d14_16 : decode prog_11_method_1_code 16 = .ok (.newarray .int, 2) := by decide +kernel
theorem d14_18 : decode prog_11_method_1_code 18 = .ok (.putfield 13, 3) := by decide +kernel
theorem sn18 {a0 : Array Value} {Z : State} (hw : ∀ d ∈ tables_1, d.before a0 Z = true) : Jvm.RoadKit.slotOf Z "com/example/monarc/monarc/Domains" "marks" "[I" ≠ Jvm.RoadKit.slotOf Z "com/example/monarc/monarc/Domains" "trail" "[J" := slot_ne (Or.inl (wd hw 113 rfl)) (Or.inl (wd hw 110 rfl)) (by decide) (t := (.array .int)) (t' := (.array .long)) (by decide) (by decide)
theorem d14_21 : decode prog_11_method_1_code 21 = .ok (.aload_n 1, 1) := by decide +kernel
theorem d14_22 : decode prog_11_method_1_code 22 = .ok (.invokeinterface 17 1, 5) := by decide +kernel
theorem d15_0 : decode jdk_38_method_8_code 0 = .ok (.aload_n 0, 1) := by decide +kernel
theorem d15_1 : decode jdk_38_method_8_code 1 = .ok (.getfield 48, 3) := by decide +kernel
theorem d15_4 : decode jdk_38_method_8_code 4 = .ok (.ireturn, 1) := by decide +kernel
theorem ef_am15_1 (m : MethodId) (x0 : Addr)  : entryFrame m #[(.ref x0)] 1 = mkF m 0 #[.val (.ref x0)] [] := by first | (simp [entryFrame, mkF, argsToLocals, Value.category]; done) | rfl
def Q_am15_1 (Z : State) (a_EMPTY_ELEMENTDATA : Addr) (aw0 : Addr) (ka_EMPTY_ELEMENTDATA : ClassId) (kaw0 : ClassId) (ad1 : Addr) (h0 : Heap) (n0 : Nat) (v : Option Value) (h : Heap) (L : List Loc) : Prop := v = some (.int (2 : Int32)) ∧ Fr n0 L ∧ h = h0
set_option maxRecDepth 65536 in
set_option maxHeartbeats 40000000 in
theorem am15_1 (l : Launch) (Z : State) (a0 : Array Value) (hw : ∀ d ∈ tables_1, d.before a0 Z = true) (ws : List Jvm.Cond) (a_EMPTY_ELEMENTDATA : Addr) (aw0 : Addr) (ka_EMPTY_ELEMENTDATA : ClassId) (kaw0 : ClassId) (HW : Wd Z a_EMPTY_ELEMENTDATA aw0 ka_EMPTY_ELEMENTDATA kaw0) (ad1 : Addr) (h0 : Heap) (n0 : Nat) (Ol : Old Z n0 h0) (HF_ad1_ArrayList_size : Fld Z h0 ad1 "java/util/ArrayList" "size" "I" (.int (2 : Int32))) :
    MetFree l y_15 (head1 (Jvm.Cond.code y_15 jdk_38_method_8_code 1 (some .int) :: ws) ({ frames := 0, cells := 0, slots := 0, locals := 0 } : Room)) (fun a_ U_ => a_ = #[(.ref ad1)] ∧ Z.Warmed39 U_.vm ∧ U_.heap = h0) (fun _ _ _ _ _ => True) (fun _ U_ o_ V_ => ∃ v_ L_, o_ = .returned v_ ∧ Q_am15_1 Z a_EMPTY_ELEMENTDATA aw0 ka_EMPTY_ELEMENTDATA kaw0 ad1 h0 n0 v_ V_.heap L_ ∧ FrameEnd U_ o_ V_ L_ ({ frames := 0, cells := 0, slots := 0, locals := 0 } : Room).cells ({ frames := 0, cells := 0, slots := 0, locals := 0 } : Room).slots) := by
  refine MetFree.of_bodySF (plainFor_of_name pn_3) hisR ?_
  intro p e s m args below meth c s₁ Bd hml0 hP hK
  obtain ⟨rfl, hZ, hh⟩ := hP
  have hx := Bd.exec
  have hby := Bd.bytes
  have hml : c.maxLocals = 1 := hml0
  have hown : s.vm.findClass "java/util/ArrayList" = some m.cls := findClass_of_methodNamed Bd.named
  have hnm := (name_of_methodNamed Bd.named Bd.method).1
  have X0 : Stand p l e ({ frames := 0, cells := 0, slots := 0, locals := 0 } : Room) s m #[(.ref ad1)] below meth c s₁ [] 0 0 := Stand.of_body Bd
  have e0 : s₁.heap = h0 := by rw [← hh, Bd.state]; rfl
  have N0 := Fr.nil n0
  have kp0 := Keep.refl h0 []
  show Go p e below (Fin1 s below (Q_am15_1 Z a_EMPTY_ELEMENTDATA aw0 ka_EMPTY_ELEMENTDATA kaw0 ad1 h0 n0) ({ frames := 0, cells := 0, slots := 0, locals := 0 } : Room).cells ({ frames := 0, cells := 0, slots := 0, locals := 0 } : Room).slots) _
  refine Go.step (fun t_ k_ => castTop (ef_am15_1 m ad1) k_) ?_
  obtain ⟨Ea_EMPTY_ELEMENTDATA, Sa_EMPTY_ELEMENTDATA, Eaw0, Saw0, Aa_EMPTY_ELEMENTDATA, Aaw0⟩ := id HW
  show Go p e below _ (s₁.setTop (mkF m 0 #[.val (.ref ad1)] []))
  refine gs.aloadN X0.here hx (hb hby d15_0) rfl rfl ?_
  refine gs.getF X0 hx hZ hown (wd hw 76 rfl) Via.refl e0 HF_ad1_ArrayList_size (hb hby d15_1) fun T1 X1 e1 => ?_
  refine Go.retI X1 hx Bd.returns Bd.notSynchronized (hb hby d15_4) (by rw [e1]; exact ⟨rfl, N0, rfl⟩) (by decide) (by decide)
theorem pd_9 : parseMethodDescriptor "()I" = some ⟨[], some .int⟩ := by decide +kernel
theorem d14_27 : decode prog_11_method_1_code 27 = .ok (.istore_n 2, 1) := by decide +kernel
theorem d14_28 : decode prog_11_method_1_code 28 = .ok (.aload_n 0, 1) := by decide +kernel
theorem d14_29 : decode prog_11_method_1_code 29 = .ok (.iload_n 2, 1) := by decide +kernel
theorem d14_30 : decode prog_11_method_1_code 30 = .ok (.anewarray 23, 3) := by decide +kernel
theorem d14_33 : decode prog_11_method_1_code 33 = .ok (.putfield 25, 3) := by decide +kernel
theorem sn19 {a0 : Array Value} {Z : State} (hw : ∀ d ∈ tables_1, d.before a0 Z = true) : Jvm.RoadKit.slotOf Z "com/example/monarc/monarc/Domains" "initial" "[Lcom/example/monarc/monarc/InitialDomain;" ≠ Jvm.RoadKit.slotOf Z "com/example/monarc/monarc/Domains" "trail" "[J" := slot_ne (Or.inr (wd hw 126 rfl)) (Or.inl (wd hw 110 rfl)) (by decide) (t := (.array (.object "com/example/monarc/monarc/InitialDomain"))) (t' := (.array .long)) (by decide) (by decide)
theorem sn20 {a0 : Array Value} {Z : State} (hw : ∀ d ∈ tables_1, d.before a0 Z = true) : Jvm.RoadKit.slotOf Z "com/example/monarc/monarc/Domains" "initial" "[Lcom/example/monarc/monarc/InitialDomain;" ≠ Jvm.RoadKit.slotOf Z "com/example/monarc/monarc/Domains" "marks" "[I" := slot_ne (Or.inr (wd hw 126 rfl)) (Or.inl (wd hw 113 rfl)) (by decide) (t := (.array (.object "com/example/monarc/monarc/InitialDomain"))) (t' := (.array .int)) (by decide) (by decide)
theorem d14_36 : decode prog_11_method_1_code 36 = .ok (.aload_n 0, 1) := by decide +kernel
theorem d14_37 : decode prog_11_method_1_code 37 = .ok (.iload_n 2, 1) := by decide +kernel
theorem d14_38 : decode prog_11_method_1_code 38 = .ok (.newarray .int, 2) := by decide +kernel
theorem d14_40 : decode prog_11_method_1_code 40 = .ok (.putfield 29, 3) := by decide +kernel
theorem sn21 {a0 : Array Value} {Z : State} (hw : ∀ d ∈ tables_1, d.before a0 Z = true) : Jvm.RoadKit.slotOf Z "com/example/monarc/monarc/Domains" "lower" "[I" ≠ Jvm.RoadKit.slotOf Z "com/example/monarc/monarc/Domains" "trail" "[J" := slot_ne (Or.inr (wd hw 128 rfl)) (Or.inl (wd hw 110 rfl)) (by decide) (t := (.array .int)) (t' := (.array .long)) (by decide) (by decide)
theorem sn22 {a0 : Array Value} {Z : State} (hw : ∀ d ∈ tables_1, d.before a0 Z = true) : Jvm.RoadKit.slotOf Z "com/example/monarc/monarc/Domains" "lower" "[I" ≠ Jvm.RoadKit.slotOf Z "com/example/monarc/monarc/Domains" "marks" "[I" := slot_ne (Or.inr (wd hw 128 rfl)) (Or.inl (wd hw 113 rfl)) (by decide) (t := (.array .int)) (t' := (.array .int)) (by decide) (by decide)
theorem sn23 {a0 : Array Value} {Z : State} (hw : ∀ d ∈ tables_1, d.before a0 Z = true) : Jvm.RoadKit.slotOf Z "com/example/monarc/monarc/Domains" "lower" "[I" ≠ Jvm.RoadKit.slotOf Z "com/example/monarc/monarc/Domains" "initial" "[Lcom/example/monarc/monarc/InitialDomain;" := slot_ne (Or.inr (wd hw 128 rfl)) (Or.inr (wd hw 126 rfl)) (by decide) (t := (.array .int)) (t' := (.array (.object "com/example/monarc/monarc/InitialDomain"))) (by decide) (by decide)
theorem d14_43 : decode prog_11_method_1_code 43 = .ok (.aload_n 0, 1) := by decide +kernel
theorem d14_44 : decode prog_11_method_1_code 44 = .ok (.iload_n 2, 1) := by decide +kernel
theorem d14_45 : decode prog_11_method_1_code 45 = .ok (.newarray .int, 2) := by decide +kernel
theorem d14_47 : decode prog_11_method_1_code 47 = .ok (.putfield 32, 3) := by decide +kernel
theorem sn24 {a0 : Array Value} {Z : State} (hw : ∀ d ∈ tables_1, d.before a0 Z = true) : Jvm.RoadKit.slotOf Z "com/example/monarc/monarc/Domains" "upper" "[I" ≠ Jvm.RoadKit.slotOf Z "com/example/monarc/monarc/Domains" "trail" "[J" := slot_ne (Or.inr (wd hw 130 rfl)) (Or.inl (wd hw 110 rfl)) (by decide) (t := (.array .int)) (t' := (.array .long)) (by decide) (by decide)
theorem sn25 {a0 : Array Value} {Z : State} (hw : ∀ d ∈ tables_1, d.before a0 Z = true) : Jvm.RoadKit.slotOf Z "com/example/monarc/monarc/Domains" "upper" "[I" ≠ Jvm.RoadKit.slotOf Z "com/example/monarc/monarc/Domains" "marks" "[I" := slot_ne (Or.inr (wd hw 130 rfl)) (Or.inl (wd hw 113 rfl)) (by decide) (t := (.array .int)) (t' := (.array .int)) (by decide) (by decide)
theorem sn26 {a0 : Array Value} {Z : State} (hw : ∀ d ∈ tables_1, d.before a0 Z = true) : Jvm.RoadKit.slotOf Z "com/example/monarc/monarc/Domains" "upper" "[I" ≠ Jvm.RoadKit.slotOf Z "com/example/monarc/monarc/Domains" "initial" "[Lcom/example/monarc/monarc/InitialDomain;" := slot_ne (Or.inr (wd hw 130 rfl)) (Or.inr (wd hw 126 rfl)) (by decide) (t := (.array .int)) (t' := (.array (.object "com/example/monarc/monarc/InitialDomain"))) (by decide) (by decide)
theorem sn27 {a0 : Array Value} {Z : State} (hw : ∀ d ∈ tables_1, d.before a0 Z = true) : Jvm.RoadKit.slotOf Z "com/example/monarc/monarc/Domains" "upper" "[I" ≠ Jvm.RoadKit.slotOf Z "com/example/monarc/monarc/Domains" "lower" "[I" := slot_ne (Or.inr (wd hw 130 rfl)) (Or.inr (wd hw 128 rfl)) (by decide) (t := (.array .int)) (t' := (.array .int)) (by decide) (by decide)
theorem d14_50 : decode prog_11_method_1_code 50 = .ok (.aload_n 0, 1) := by decide +kernel
theorem d14_51 : decode prog_11_method_1_code 51 = .ok (.iload_n 2, 1) := by decide +kernel
theorem d14_52 : decode prog_11_method_1_code 52 = .ok (.anewarray 35, 3) := by decide +kernel
theorem d14_55 : decode prog_11_method_1_code 55 = .ok (.putfield 36, 3) := by decide +kernel
theorem sn28 {a0 : Array Value} {Z : State} (hw : ∀ d ∈ tables_1, d.before a0 Z = true) : Jvm.RoadKit.slotOf Z "com/example/monarc/monarc/Domains" "holes" "[[J" ≠ Jvm.RoadKit.slotOf Z "com/example/monarc/monarc/Domains" "trail" "[J" := slot_ne (Or.inr (wd hw 134 rfl)) (Or.inl (wd hw 110 rfl)) (by decide) (t := (.array (.array .long))) (t' := (.array .long)) (by decide) (by decide)
theorem sn29 {a0 : Array Value} {Z : State} (hw : ∀ d ∈ tables_1, d.before a0 Z = true) : Jvm.RoadKit.slotOf Z "com/example/monarc/monarc/Domains" "holes" "[[J" ≠ Jvm.RoadKit.slotOf Z "com/example/monarc/monarc/Domains" "marks" "[I" := slot_ne (Or.inr (wd hw 134 rfl)) (Or.inl (wd hw 113 rfl)) (by decide) (t := (.array (.array .long))) (t' := (.array .int)) (by decide) (by decide)
theorem sn30 {a0 : Array Value} {Z : State} (hw : ∀ d ∈ tables_1, d.before a0 Z = true) : Jvm.RoadKit.slotOf Z "com/example/monarc/monarc/Domains" "holes" "[[J" ≠ Jvm.RoadKit.slotOf Z "com/example/monarc/monarc/Domains" "initial" "[Lcom/example/monarc/monarc/InitialDomain;" := slot_ne (Or.inr (wd hw 134 rfl)) (Or.inr (wd hw 126 rfl)) (by decide) (t := (.array (.array .long))) (t' := (.array (.object "com/example/monarc/monarc/InitialDomain"))) (by decide) (by decide)
theorem sn31 {a0 : Array Value} {Z : State} (hw : ∀ d ∈ tables_1, d.before a0 Z = true) : Jvm.RoadKit.slotOf Z "com/example/monarc/monarc/Domains" "holes" "[[J" ≠ Jvm.RoadKit.slotOf Z "com/example/monarc/monarc/Domains" "lower" "[I" := slot_ne (Or.inr (wd hw 134 rfl)) (Or.inr (wd hw 128 rfl)) (by decide) (t := (.array (.array .long))) (t' := (.array .int)) (by decide) (by decide)
theorem sn32 {a0 : Array Value} {Z : State} (hw : ∀ d ∈ tables_1, d.before a0 Z = true) : Jvm.RoadKit.slotOf Z "com/example/monarc/monarc/Domains" "holes" "[[J" ≠ Jvm.RoadKit.slotOf Z "com/example/monarc/monarc/Domains" "upper" "[I" := slot_ne (Or.inr (wd hw 134 rfl)) (Or.inr (wd hw 130 rfl)) (by decide) (t := (.array (.array .long))) (t' := (.array .int)) (by decide) (by decide)
theorem d14_58 : decode prog_11_method_1_code 58 = .ok (.aload_n 0, 1) := by decide +kernel
theorem d14_59 : decode prog_11_method_1_code 59 = .ok (.iload_n 2, 1) := by decide +kernel
theorem d14_60 : decode prog_11_method_1_code 60 = .ok (.newarray .int, 2) := by decide +kernel
theorem d14_62 : decode prog_11_method_1_code 62 = .ok (.putfield 40, 3) := by decide +kernel
theorem sn33 {a0 : Array Value} {Z : State} (hw : ∀ d ∈ tables_1, d.before a0 Z = true) : Jvm.RoadKit.slotOf Z "com/example/monarc/monarc/Domains" "sizes" "[I" ≠ Jvm.RoadKit.slotOf Z "com/example/monarc/monarc/Domains" "trail" "[J" := slot_ne (Or.inr (wd hw 136 rfl)) (Or.inl (wd hw 110 rfl)) (by decide) (t := (.array .int)) (t' := (.array .long)) (by decide) (by decide)
theorem sn34 {a0 : Array Value} {Z : State} (hw : ∀ d ∈ tables_1, d.before a0 Z = true) : Jvm.RoadKit.slotOf Z "com/example/monarc/monarc/Domains" "sizes" "[I" ≠ Jvm.RoadKit.slotOf Z "com/example/monarc/monarc/Domains" "marks" "[I" := slot_ne (Or.inr (wd hw 136 rfl)) (Or.inl (wd hw 113 rfl)) (by decide) (t := (.array .int)) (t' := (.array .int)) (by decide) (by decide)
theorem sn35 {a0 : Array Value} {Z : State} (hw : ∀ d ∈ tables_1, d.before a0 Z = true) : Jvm.RoadKit.slotOf Z "com/example/monarc/monarc/Domains" "sizes" "[I" ≠ Jvm.RoadKit.slotOf Z "com/example/monarc/monarc/Domains" "initial" "[Lcom/example/monarc/monarc/InitialDomain;" := slot_ne (Or.inr (wd hw 136 rfl)) (Or.inr (wd hw 126 rfl)) (by decide) (t := (.array .int)) (t' := (.array (.object "com/example/monarc/monarc/InitialDomain"))) (by decide) (by decide)
theorem sn36 {a0 : Array Value} {Z : State} (hw : ∀ d ∈ tables_1, d.before a0 Z = true) : Jvm.RoadKit.slotOf Z "com/example/monarc/monarc/Domains" "sizes" "[I" ≠ Jvm.RoadKit.slotOf Z "com/example/monarc/monarc/Domains" "lower" "[I" := slot_ne (Or.inr (wd hw 136 rfl)) (Or.inr (wd hw 128 rfl)) (by decide) (t := (.array .int)) (t' := (.array .int)) (by decide) (by decide)
theorem sn37 {a0 : Array Value} {Z : State} (hw : ∀ d ∈ tables_1, d.before a0 Z = true) : Jvm.RoadKit.slotOf Z "com/example/monarc/monarc/Domains" "sizes" "[I" ≠ Jvm.RoadKit.slotOf Z "com/example/monarc/monarc/Domains" "upper" "[I" := slot_ne (Or.inr (wd hw 136 rfl)) (Or.inr (wd hw 130 rfl)) (by decide) (t := (.array .int)) (t' := (.array .int)) (by decide) (by decide)
theorem sn38 {a0 : Array Value} {Z : State} (hw : ∀ d ∈ tables_1, d.before a0 Z = true) : Jvm.RoadKit.slotOf Z "com/example/monarc/monarc/Domains" "sizes" "[I" ≠ Jvm.RoadKit.slotOf Z "com/example/monarc/monarc/Domains" "holes" "[[J" := slot_ne (Or.inr (wd hw 136 rfl)) (Or.inr (wd hw 134 rfl)) (by decide) (t := (.array .int)) (t' := (.array (.array .long))) (by decide) (by decide)
theorem d14_65 : decode prog_11_method_1_code 65 = .ok (.iconst 0, 1) := by decide +kernel
theorem d14_66 : decode prog_11_method_1_code 66 = .ok (.istore_n 3, 1) := by decide +kernel
theorem d14_67 : decode prog_11_method_1_code 67 = .ok (.iload_n 3, 1) := by decide +kernel
theorem d14_68 : decode prog_11_method_1_code 68 = .ok (.iload_n 2, 1) := by decide +kernel
theorem d14_69 : decode prog_11_method_1_code 69 = .ok (.if_icmp .ge 81, 3) := by decide +kernel
theorem d14_72 : decode prog_11_method_1_code 72 = .ok (.aload_n 0, 1) := by decide +kernel
theorem d14_73 : decode prog_11_method_1_code 73 = .ok (.getfield 25, 3) := by decide +kernel
theorem sn39 {a0 : Array Value} {Z : State} (hw : ∀ d ∈ tables_1, d.before a0 Z = true) : Jvm.RoadKit.slotOf Z "com/example/monarc/monarc/Domains" "initial" "[Lcom/example/monarc/monarc/InitialDomain;" ≠ Jvm.RoadKit.slotOf Z "com/example/monarc/monarc/Domains" "lower" "[I" := slot_ne (Or.inr (wd hw 126 rfl)) (Or.inr (wd hw 128 rfl)) (by decide) (t := (.array (.object "com/example/monarc/monarc/InitialDomain"))) (t' := (.array .int)) (by decide) (by decide)
theorem sn40 {a0 : Array Value} {Z : State} (hw : ∀ d ∈ tables_1, d.before a0 Z = true) : Jvm.RoadKit.slotOf Z "com/example/monarc/monarc/Domains" "initial" "[Lcom/example/monarc/monarc/InitialDomain;" ≠ Jvm.RoadKit.slotOf Z "com/example/monarc/monarc/Domains" "upper" "[I" := slot_ne (Or.inr (wd hw 126 rfl)) (Or.inr (wd hw 130 rfl)) (by decide) (t := (.array (.object "com/example/monarc/monarc/InitialDomain"))) (t' := (.array .int)) (by decide) (by decide)
theorem sn41 {a0 : Array Value} {Z : State} (hw : ∀ d ∈ tables_1, d.before a0 Z = true) : Jvm.RoadKit.slotOf Z "com/example/monarc/monarc/Domains" "initial" "[Lcom/example/monarc/monarc/InitialDomain;" ≠ Jvm.RoadKit.slotOf Z "com/example/monarc/monarc/Domains" "holes" "[[J" := slot_ne (Or.inr (wd hw 126 rfl)) (Or.inr (wd hw 134 rfl)) (by decide) (t := (.array (.object "com/example/monarc/monarc/InitialDomain"))) (t' := (.array (.array .long))) (by decide) (by decide)
theorem sn42 {a0 : Array Value} {Z : State} (hw : ∀ d ∈ tables_1, d.before a0 Z = true) : Jvm.RoadKit.slotOf Z "com/example/monarc/monarc/Domains" "initial" "[Lcom/example/monarc/monarc/InitialDomain;" ≠ Jvm.RoadKit.slotOf Z "com/example/monarc/monarc/Domains" "sizes" "[I" := slot_ne (Or.inr (wd hw 126 rfl)) (Or.inr (wd hw 136 rfl)) (by decide) (t := (.array (.object "com/example/monarc/monarc/InitialDomain"))) (t' := (.array .int)) (by decide) (by decide)
theorem d14_76 : decode prog_11_method_1_code 76 = .ok (.iload_n 3, 1) := by decide +kernel
theorem d14_77 : decode prog_11_method_1_code 77 = .ok (.aload_n 1, 1) := by decide +kernel
theorem d14_78 : decode prog_11_method_1_code 78 = .ok (.iload_n 3, 1) := by decide +kernel
theorem d14_79 : decode prog_11_method_1_code 79 = .ok (.invokeinterface 43 2, 5) := by decide +kernel
theorem d16_0 : decode jdk_38_method_20_code 0 = .ok (.iload_n 1, 1) := by decide +kernel
theorem d16_1 : decode jdk_38_method_20_code 1 = .ok (.aload_n 0, 1) := by decide +kernel
theorem d16_2 : decode jdk_38_method_20_code 2 = .ok (.getfield 48, 3) := by decide +kernel
theorem d16_5 : decode jdk_38_method_20_code 5 = .ok (.invokestatic 118, 3) := by decide +kernel
theorem d17_0 : decode jdk_31_method_17_code 0 = .ok (.iload_n 0, 1) := by decide +kernel
theorem d17_1 : decode jdk_31_method_17_code 1 = .ok (.iload_n 1, 1) := by decide +kernel
theorem d17_2 : decode jdk_31_method_17_code 2 = .ok (.aconst_null, 1) := by decide +kernel
theorem d17_3 : decode jdk_31_method_17_code 3 = .ok (.invokestatic 105, 3) := by decide +kernel
theorem d18_0 : decode jdk_41_method_11_code 0 = .ok (.iload_n 0, 1) := by decide +kernel
theorem d18_1 : decode jdk_41_method_11_code 1 = .ok (.ifCond .lt 8, 3) := by decide +kernel
theorem d18_4 : decode jdk_41_method_11_code 4 = .ok (.iload_n 0, 1) := by decide +kernel
theorem d18_5 : decode jdk_41_method_11_code 5 = .ok (.iload_n 1, 1) := by decide +kernel
theorem d18_6 : decode jdk_41_method_11_code 6 = .ok (.if_icmp .lt 10, 3) := by decide +kernel
theorem d18_16 : decode jdk_41_method_11_code 16 = .ok (.iload_n 0, 1) := by decide +kernel
theorem d18_17 : decode jdk_41_method_11_code 17 = .ok (.ireturn, 1) := by decide +kernel
theorem pn_6 : plainName "jdk/internal/util/Preconditions" = true := by first | (simp [plainName, overriddenIn]; done) | decide +kernel
theorem ef_am18_1 (m : MethodId) (x0 : Int32) (x1 : Int32)  : entryFrame m #[(.int x0), (.int x1), .null] 3 = mkF m 0 #[.val (.int x0), .val (.int x1), .val .null] [] := by first | (simp [entryFrame, mkF, argsToLocals, Value.category]; done) | rfl
def Q_am18_1 (Z : State) (a_EMPTY_ELEMENTDATA : Addr) (aw0 : Addr) (ka_EMPTY_ELEMENTDATA : ClassId) (kaw0 : ClassId)  (h0 : Heap) (n0 : Nat) (v : Option Value) (h : Heap) (L : List Loc) : Prop := v = some (.int (0 : Int32)) ∧ Fr n0 L ∧ h = h0
set_option maxRecDepth 65536 in
set_option maxHeartbeats 40000000 in
theorem am18_1 (l : Launch) (Z : State) (a0 : Array Value) (hw : ∀ d ∈ tables_1, d.before a0 Z = true) (ws : List Jvm.Cond) (a_EMPTY_ELEMENTDATA : Addr) (aw0 : Addr) (ka_EMPTY_ELEMENTDATA : ClassId) (kaw0 : ClassId) (HW : Wd Z a_EMPTY_ELEMENTDATA aw0 ka_EMPTY_ELEMENTDATA kaw0)  (h0 : Heap) (n0 : Nat) (Ol : Old Z n0 h0)  :
    MetFree l y_18 (head1 (Jvm.Cond.code y_18 jdk_41_method_11_code 3 (some .int) :: ws) ({ frames := 0, cells := 0, slots := 0, locals := 0 } : Room)) (fun a_ U_ => a_ = #[(.int (0 : Int32)), (.int (2 : Int32)), .null] ∧ Z.Warmed39 U_.vm ∧ U_.heap = h0) (fun _ _ _ _ _ => True) (fun _ U_ o_ V_ => ∃ v_ L_, o_ = .returned v_ ∧ Q_am18_1 Z a_EMPTY_ELEMENTDATA aw0 ka_EMPTY_ELEMENTDATA kaw0  h0 n0 v_ V_.heap L_ ∧ FrameEnd U_ o_ V_ L_ ({ frames := 0, cells := 0, slots := 0, locals := 0 } : Room).cells ({ frames := 0, cells := 0, slots := 0, locals := 0 } : Room).slots) := by
  refine MetFree.of_bodySF (plainFor_of_name pn_6) hisR ?_
  intro p e s m args below meth c s₁ Bd hml0 hP hK
  obtain ⟨rfl, hZ, hh⟩ := hP
  have hx := Bd.exec
  have hby := Bd.bytes
  have hml : c.maxLocals = 3 := hml0
  have hown : s.vm.findClass "jdk/internal/util/Preconditions" = some m.cls := findClass_of_methodNamed Bd.named
  have hnm := (name_of_methodNamed Bd.named Bd.method).1
  have X0 : Stand p l e ({ frames := 0, cells := 0, slots := 0, locals := 0 } : Room) s m #[(.int (0 : Int32)), (.int (2 : Int32)), .null] below meth c s₁ [] 0 0 := Stand.of_body Bd
  have e0 : s₁.heap = h0 := by rw [← hh, Bd.state]; rfl
  have N0 := Fr.nil n0
  have kp0 := Keep.refl h0 []
  show Go p e below (Fin1 s below (Q_am18_1 Z a_EMPTY_ELEMENTDATA aw0 ka_EMPTY_ELEMENTDATA kaw0  h0 n0) ({ frames := 0, cells := 0, slots := 0, locals := 0 } : Room).cells ({ frames := 0, cells := 0, slots := 0, locals := 0 } : Room).slots) _
  refine Go.step (fun t_ k_ => castTop (ef_am18_1 m (0 : Int32) (2 : Int32)) k_) ?_
  obtain ⟨Ea_EMPTY_ELEMENTDATA, Sa_EMPTY_ELEMENTDATA, Eaw0, Saw0, Aa_EMPTY_ELEMENTDATA, Aaw0⟩ := id HW
  show Go p e below _ (s₁.setTop (mkF m 0 #[.val (.int (0 : Int32)), .val (.int (2 : Int32)), .val .null] []))
  refine gs.iloadN X0.here hx (hb hby d18_0) rfl ?_
  have hc1 : ¬ ((0 : Int32) < (0 : Int32)) := by decide
  refine gs.ifNo X0.here hx (hb hby d18_1) ((if0 _ _).trans (flt hc1).1) ?_
  refine gs.iloadN X0.here hx (hb hby d18_4) rfl ?_
  refine gs.iloadN X0.here hx (hb hby d18_5) rfl ?_
  have hc6 : (0 : Int32) < (2 : Int32) := by decide
  refine gs.icmpYes 16 X0.here hx (hb hby d18_6) (tlt hc6).1 rfl ?_
  refine gs.iloadN X0.here hx (hb hby d18_16) rfl ?_
  refine Go.retI X0 hx Bd.returns Bd.notSynchronized (hb hby d18_17) (by rw [e0]; exact ⟨rfl, N0, rfl⟩) (by decide) (by decide)
theorem pd_10 : parseMethodDescriptor "(IILjava/util/function/BiFunction;)I" = some ⟨[.int, .int, (.object "java/util/function/BiFunction")], some .int⟩ := by decide +kernel
theorem d17_6 : decode jdk_31_method_17_code 6 = .ok (.ireturn, 1) := by decide +kernel
theorem pn_7 : plainName "java/util/Objects" = true := by first | (simp [plainName, overriddenIn]; done) | decide +kernel
theorem ef_am17_1 (m : MethodId) (x0 : Int32) (x1 : Int32)  : entryFrame m #[(.int x0), (.int x1)] 2 = mkF m 0 #[.val (.int x0), .val (.int x1)] [] := by first | (simp [entryFrame, mkF, argsToLocals, Value.category]; done) | rfl
def Q_am17_1 (Z : State) (a_EMPTY_ELEMENTDATA : Addr) (aw0 : Addr) (ka_EMPTY_ELEMENTDATA : ClassId) (kaw0 : ClassId)  (h0 : Heap) (n0 : Nat) (v : Option Value) (h : Heap) (L : List Loc) : Prop := v = some (.int (0 : Int32)) ∧ Fr n0 L ∧ h = h0
set_option maxRecDepth 65536 in
set_option maxHeartbeats 40000000 in
theorem am17_1 (l : Launch) (Z : State) (a0 : Array Value) (hw : ∀ d ∈ tables_1, d.before a0 Z = true) (ws : List Jvm.Cond) (a_EMPTY_ELEMENTDATA : Addr) (aw0 : Addr) (ka_EMPTY_ELEMENTDATA : ClassId) (kaw0 : ClassId) (HW : Wd Z a_EMPTY_ELEMENTDATA aw0 ka_EMPTY_ELEMENTDATA kaw0)  (h0 : Heap) (n0 : Nat) (Ol : Old Z n0 h0)  :
    MetFree l y_17 (head1 (Jvm.Cond.code y_17 jdk_31_method_17_code 2 (some .int) :: ws) ({ frames := 1, cells := 0, slots := 0, locals := 14 } : Room)) (fun a_ U_ => a_ = #[(.int (0 : Int32)), (.int (2 : Int32))] ∧ Z.Warmed39 U_.vm ∧ U_.heap = h0) (fun _ _ _ _ _ => True) (fun _ U_ o_ V_ => ∃ v_ L_, o_ = .returned v_ ∧ Q_am17_1 Z a_EMPTY_ELEMENTDATA aw0 ka_EMPTY_ELEMENTDATA kaw0  h0 n0 v_ V_.heap L_ ∧ FrameEnd U_ o_ V_ L_ ({ frames := 1, cells := 0, slots := 0, locals := 14 } : Room).cells ({ frames := 1, cells := 0, slots := 0, locals := 14 } : Room).slots) := by
  refine MetFree.of_bodySF (plainFor_of_name pn_7) hisR ?_
  intro p e s m args below meth c s₁ Bd hml0 hP hK
  obtain ⟨rfl, hZ, hh⟩ := hP
  have hx := Bd.exec
  have hby := Bd.bytes
  have hml : c.maxLocals = 2 := hml0
  have hown : s.vm.findClass "java/util/Objects" = some m.cls := findClass_of_methodNamed Bd.named
  have hnm := (name_of_methodNamed Bd.named Bd.method).1
  have X0 : Stand p l e ({ frames := 1, cells := 0, slots := 0, locals := 14 } : Room) s m #[(.int (0 : Int32)), (.int (2 : Int32))] below meth c s₁ [] 0 0 := Stand.of_body Bd
  have e0 : s₁.heap = h0 := by rw [← hh, Bd.state]; rfl
  have N0 := Fr.nil n0
  have kp0 := Keep.refl h0 []
  show Go p e below (Fin1 s below (Q_am17_1 Z a_EMPTY_ELEMENTDATA aw0 ka_EMPTY_ELEMENTDATA kaw0  h0 n0) ({ frames := 1, cells := 0, slots := 0, locals := 14 } : Room).cells ({ frames := 1, cells := 0, slots := 0, locals := 14 } : Room).slots) _
  refine Go.step (fun t_ k_ => castTop (ef_am17_1 m (0 : Int32) (2 : Int32)) k_) ?_
  obtain ⟨Ea_EMPTY_ELEMENTDATA, Sa_EMPTY_ELEMENTDATA, Eaw0, Saw0, Aa_EMPTY_ELEMENTDATA, Aaw0⟩ := id HW
  show Go p e below _ (s₁.setTop (mkF m 0 #[.val (.int (0 : Int32)), .val (.int (2 : Int32))] []))
  refine gs.iloadN X0.here hx (hb hby d17_0) rfl ?_
  refine gs.iloadN X0.here hx (hb hby d17_1) rfl ?_
  refine gs.aconstNull X0.here hx (hb hby d17_2) ?_
  obtain ⟨_, _, ⟨T1, L1, k1, n1⟩, -, X1, ⟨Lc1, hQ1, l1, y1, z1⟩, st1⟩ := Jvm.LawKit.callS X0 hx (y := y_18) hown (mvT hZ (wd hw 149 rfl)) (mvT hZ (wd hw 150 rfl)) (mvT hZ (wd hw 151 rfl)) (mvT hZ (wd hw 152 rfl)) (by decide) (backOf (W := 0) (am18_1 l Z a0 hw [] a_EMPTY_ELEMENTDATA aw0 ka_EMPTY_ELEMENTDATA kaw0 HW  h0 n0 Ol ) hZ (wd hw 152 rfl) (wd hw 151 rfl) (by decide) (by decide)) (g := (mkF m 3 #[.val (.int (0 : Int32)), .val (.int (2 : Int32))] [.null, (.int (2 : Int32)), (.int (0 : Int32))])) rfl (by rw [hml]; rfl) (argsL := [(.int (0 : Int32)), (.int (2 : Int32)), .null]) (rest := []) (lenOf pd_10 rfl) rfl (by show 2 * 0 + _ ≤ _; exact Nat.le_of_eq rfl) (hb hby d17_3) (fun _ _ => ⟨rfl, e0, (by decide : 0 + 0 ≤ _), (by decide : 0 + 0 ≤ _)⟩)
  dsimp only [Pt.U, Pt.locs, Pt.cells, Pt.slots] at X1 l1 y1 z1 st1 hQ1
  subst l1 y1 z1
  obtain ⟨rfl, Nq1, e1⟩ := hQ1
  have N1 := Fr.app N0 Nq1
  refine Go.step st1 ?_
  show Go p e below _ (T1.setTop (mkF m 6 #[.val (.int (0 : Int32)), .val (.int (2 : Int32))] [(.int (0 : Int32))]))
  refine Go.retI X1 hx Bd.returns Bd.notSynchronized (hb hby d17_6) (by rw [e1]; exact ⟨rfl, N1, rfl⟩) (by decide) (by decide)
theorem d16_8 : decode jdk_38_method_20_code 8 = .ok (.pop, 1) := by decide +kernel
theorem d16_9 : decode jdk_38_method_20_code 9 = .ok (.aload_n 0, 1) := by decide +kernel
theorem d16_10 : decode jdk_38_method_20_code 10 = .ok (.iload_n 1, 1) := by decide +kernel
theorem d16_11 : decode jdk_38_method_20_code 11 = .ok (.invokevirtual 123, 3) := by decide +kernel
theorem d19_0 : decode jdk_38_method_18_code 0 = .ok (.aload_n 0, 1) := by decide +kernel
theorem d19_1 : decode jdk_38_method_18_code 1 = .ok (.getfield 9, 3) := by decide +kernel
theorem d19_4 : decode jdk_38_method_18_code 4 = .ok (.iload_n 1, 1) := by decide +kernel
theorem d19_5 : decode jdk_38_method_18_code 5 = .ok (.aaload, 1) := by decide +kernel
theorem d19_6 : decode jdk_38_method_18_code 6 = .ok (.areturn, 1) := by decide +kernel
theorem ef_am19_1 (m : MethodId) (x0 : Addr) (x1 : Int32)  : entryFrame m #[(.ref x0), (.int x1)] 2 = mkF m 0 #[.val (.ref x0), .val (.int x1)] [] := by first | (simp [entryFrame, mkF, argsToLocals, Value.category]; done) | rfl
def Q_am19_1 (Z : State) (a_EMPTY_ELEMENTDATA : Addr) (aw0 : Addr) (ka_EMPTY_ELEMENTDATA : ClassId) (kaw0 : ClassId) (ad1 : Addr) (ad4 : Addr) (ad5 : Addr) (kc1 : ClassId) (ad7 : Addr) (h0 : Heap) (n0 : Nat) (v : Option Value) (h : Heap) (L : List Loc) : Prop := v = some (.ref ad5) ∧ Fr n0 L ∧ h = h0
set_option maxRecDepth 65536 in
set_option maxHeartbeats 40000000 in
theorem am19_1 (l : Launch) (Z : State) (a0 : Array Value) (hw : ∀ d ∈ tables_1, d.before a0 Z = true) (ws : List Jvm.Cond) (a_EMPTY_ELEMENTDATA : Addr) (aw0 : Addr) (ka_EMPTY_ELEMENTDATA : ClassId) (kaw0 : ClassId) (HW : Wd Z a_EMPTY_ELEMENTDATA aw0 ka_EMPTY_ELEMENTDATA kaw0) (ad1 : Addr) (ad4 : Addr) (ad5 : Addr) (kc1 : ClassId) (ad7 : Addr) (h0 : Heap) (n0 : Nat) (Ol : Old Z n0 h0) (HF_ad1_ArrayList_elementData : Fld Z h0 ad1 "java/util/ArrayList" "elementData" "[Ljava/lang/Object;" (.ref ad4)) (HV_ad4 : Arv Z h0 ad4 kc1 (.object "java/lang/Object") (10 : Int32) [(.ref ad5), (.ref ad7), .null, .null, .null, .null, .null, .null, .null, .null] .null) (hO_ad4 : Ovr Z kc1 "java/lang/Object") :
    MetFree l y_19 (head1 (Jvm.Cond.code y_19 jdk_38_method_18_code 2 (some (.object "java/lang/Object")) :: ws) ({ frames := 0, cells := 0, slots := 0, locals := 0 } : Room)) (fun a_ U_ => a_ = #[(.ref ad1), (.int (0 : Int32))] ∧ Z.Warmed39 U_.vm ∧ U_.heap = h0) (fun _ _ _ _ _ => True) (fun _ U_ o_ V_ => ∃ v_ L_, o_ = .returned v_ ∧ Q_am19_1 Z a_EMPTY_ELEMENTDATA aw0 ka_EMPTY_ELEMENTDATA kaw0 ad1 ad4 ad5 kc1 ad7 h0 n0 v_ V_.heap L_ ∧ FrameEnd U_ o_ V_ L_ ({ frames := 0, cells := 0, slots := 0, locals := 0 } : Room).cells ({ frames := 0, cells := 0, slots := 0, locals := 0 } : Room).slots) := by
  refine MetFree.of_bodySF (plainFor_of_name pn_3) hisR ?_
  intro p e s m args below meth c s₁ Bd hml0 hP hK
  obtain ⟨rfl, hZ, hh⟩ := hP
  have hx := Bd.exec
  have hby := Bd.bytes
  have hml : c.maxLocals = 2 := hml0
  have hown : s.vm.findClass "java/util/ArrayList" = some m.cls := findClass_of_methodNamed Bd.named
  have hnm := (name_of_methodNamed Bd.named Bd.method).1
  have X0 : Stand p l e ({ frames := 0, cells := 0, slots := 0, locals := 0 } : Room) s m #[(.ref ad1), (.int (0 : Int32))] below meth c s₁ [] 0 0 := Stand.of_body Bd
  have e0 : s₁.heap = h0 := by rw [← hh, Bd.state]; rfl
  have N0 := Fr.nil n0
  have kp0 := Keep.refl h0 []
  show Go p e below (Fin1 s below (Q_am19_1 Z a_EMPTY_ELEMENTDATA aw0 ka_EMPTY_ELEMENTDATA kaw0 ad1 ad4 ad5 kc1 ad7 h0 n0) ({ frames := 0, cells := 0, slots := 0, locals := 0 } : Room).cells ({ frames := 0, cells := 0, slots := 0, locals := 0 } : Room).slots) _
  refine Go.step (fun t_ k_ => castTop (ef_am19_1 m ad1 (0 : Int32)) k_) ?_
  obtain ⟨Ea_EMPTY_ELEMENTDATA, Sa_EMPTY_ELEMENTDATA, Eaw0, Saw0, Aa_EMPTY_ELEMENTDATA, Aaw0⟩ := id HW
  show Go p e below _ (s₁.setTop (mkF m 0 #[.val (.ref ad1), .val (.int (0 : Int32))] []))
  refine gs.aloadN X0.here hx (hb hby d19_0) rfl rfl ?_
  refine gs.getF X0 hx hZ hown (wd hw 41 rfl) Via.refl e0 HF_ad1_ArrayList_elementData (hb hby d19_1) fun T1 X1 e1 => ?_
  refine gs.iloadN X1.here hx (hb hby d19_4) rfl ?_
  obtain ⟨cl2, Ar2, q2, Sz2, Ng2, Hs2, G2⟩ := id HV_ad4
  have hin2 : ¬ ((0 : Int32) < 0 ∨ cl2.slots.size ≤ ((0 : Int32)).toNatClampNeg) := inb_of Sz2 ⟨by decide, by decide⟩
  have hat2 : cl2.slots[((0 : Int32)).toNatClampNeg]? = some (.ref ad5) := Has.at Hs2 hin2 rfl
  refine Go.step (fun t_ k_ => X1.aaload hx (j := (0 : Int32)) (v := (.ref ad5)) (by rw [e1]; exact Ar2.1) (State.isArrayOf_alike hZ.alike Ar2.2.1) rfl Ar2.2.2 hin2 hat2 (g := (mkF m 5 #[.val (.ref ad1), .val (.int (0 : Int32))] [(.int (0 : Int32)), (.ref ad4)])) rfl rfl (hb hby d19_5) _ k_) ?_
  show Go p e below _ (T1.setTop (mkF m 6 #[.val (.ref ad1), .val (.int (0 : Int32))] [(.ref ad5)]))
  refine Go.retR X1 hx Bd.returns rfl rfl Bd.notSynchronized (hb hby d19_6) (by rw [e1]; exact ⟨rfl, N0, rfl⟩) (by decide) (by decide)
theorem pd_11 : parseMethodDescriptor "(I)Ljava/lang/Object;" = some ⟨[.int], some (.object "java/lang/Object")⟩ := by decide +kernel
theorem d16_14 : decode jdk_38_method_20_code 14 = .ok (.areturn, 1) := by decide +kernel
theorem ef_am16_1 (m : MethodId) (x0 : Addr) (x1 : Int32)  : entryFrame m #[(.ref x0), (.int x1)] 2 = mkF m 0 #[.val (.ref x0), .val (.int x1)] [] := by first | (simp [entryFrame, mkF, argsToLocals, Value.category]; done) | rfl
def Q_am16_1 (Z : State) (a_EMPTY_ELEMENTDATA : Addr) (aw0 : Addr) (ka_EMPTY_ELEMENTDATA : ClassId) (kaw0 : ClassId) (ad1 : Addr) (ad4 : Addr) (ad5 : Addr) (kc1 : ClassId) (ad7 : Addr) (h0 : Heap) (n0 : Nat) (v : Option Value) (h : Heap) (L : List Loc) : Prop := v = some (.ref ad5) ∧ Fr n0 L ∧ h = h0
set_option maxRecDepth 65536 in
set_option maxHeartbeats 40000000 in
theorem am16_1 (l : Launch) (Z : State) (a0 : Array Value) (hw : ∀ d ∈ tables_1, d.before a0 Z = true) (ws : List Jvm.Cond) (a_EMPTY_ELEMENTDATA : Addr) (aw0 : Addr) (ka_EMPTY_ELEMENTDATA : ClassId) (kaw0 : ClassId) (HW : Wd Z a_EMPTY_ELEMENTDATA aw0 ka_EMPTY_ELEMENTDATA kaw0) (ad1 : Addr) (ad4 : Addr) (ad5 : Addr) (kc1 : ClassId) (ad7 : Addr) (h0 : Heap) (n0 : Nat) (Ol : Old Z n0 h0) (HE_ad1 : Exa Z h0 ad1 "java/util/ArrayList") (HF_ad1_ArrayList_elementData : Fld Z h0 ad1 "java/util/ArrayList" "elementData" "[Ljava/lang/Object;" (.ref ad4)) (HF_ad1_ArrayList_size : Fld Z h0 ad1 "java/util/ArrayList" "size" "I" (.int (2 : Int32))) (HV_ad4 : Arv Z h0 ad4 kc1 (.object "java/lang/Object") (10 : Int32) [(.ref ad5), (.ref ad7), .null, .null, .null, .null, .null, .null, .null, .null] .null) (hO_ad4 : Ovr Z kc1 "java/lang/Object") :
    MetFree l y_16 (head1 (Jvm.Cond.code y_16 jdk_38_method_20_code 2 (some (.object "java/lang/Object")) :: ws) ({ frames := 2, cells := 0, slots := 0, locals := 27 } : Room)) (fun a_ U_ => a_ = #[(.ref ad1), (.int (0 : Int32))] ∧ Z.Warmed39 U_.vm ∧ U_.heap = h0) (fun _ _ _ _ _ => True) (fun _ U_ o_ V_ => ∃ v_ L_, o_ = .returned v_ ∧ Q_am16_1 Z a_EMPTY_ELEMENTDATA aw0 ka_EMPTY_ELEMENTDATA kaw0 ad1 ad4 ad5 kc1 ad7 h0 n0 v_ V_.heap L_ ∧ FrameEnd U_ o_ V_ L_ ({ frames := 2, cells := 0, slots := 0, locals := 27 } : Room).cells ({ frames := 2, cells := 0, slots := 0, locals := 27 } : Room).slots) := by
  refine MetFree.of_bodySF (plainFor_of_name pn_3) hisR ?_
  intro p e s m args below meth c s₁ Bd hml0 hP hK
  obtain ⟨rfl, hZ, hh⟩ := hP
  have hx := Bd.exec
  have hby := Bd.bytes
  have hml : c.maxLocals = 2 := hml0
  have hown : s.vm.findClass "java/util/ArrayList" = some m.cls := findClass_of_methodNamed Bd.named
  have hnm := (name_of_methodNamed Bd.named Bd.method).1
  have X0 : Stand p l e ({ frames := 2, cells := 0, slots := 0, locals := 27 } : Room) s m #[(.ref ad1), (.int (0 : Int32))] below meth c s₁ [] 0 0 := Stand.of_body Bd
  have e0 : s₁.heap = h0 := by rw [← hh, Bd.state]; rfl
  have N0 := Fr.nil n0
  have kp0 := Keep.refl h0 []
  show Go p e below (Fin1 s below (Q_am16_1 Z a_EMPTY_ELEMENTDATA aw0 ka_EMPTY_ELEMENTDATA kaw0 ad1 ad4 ad5 kc1 ad7 h0 n0) ({ frames := 2, cells := 0, slots := 0, locals := 27 } : Room).cells ({ frames := 2, cells := 0, slots := 0, locals := 27 } : Room).slots) _
  refine Go.step (fun t_ k_ => castTop (ef_am16_1 m ad1 (0 : Int32)) k_) ?_
  obtain ⟨Ea_EMPTY_ELEMENTDATA, Sa_EMPTY_ELEMENTDATA, Eaw0, Saw0, Aa_EMPTY_ELEMENTDATA, Aaw0⟩ := id HW
  show Go p e below _ (s₁.setTop (mkF m 0 #[.val (.ref ad1), .val (.int (0 : Int32))] []))
  refine gs.iloadN X0.here hx (hb hby d16_0) rfl ?_
  refine gs.aloadN X0.here hx (hb hby d16_1) rfl rfl ?_
  refine gs.getF X0 hx hZ hown (wd hw 76 rfl) Via.refl e0 HF_ad1_ArrayList_size (hb hby d16_2) fun T1 X1 e1 => ?_
  obtain ⟨_, _, ⟨T2, L2, k2, n2⟩, -, X2, ⟨Lc2, hQ2, l2, y2, z2⟩, st2⟩ := Jvm.LawKit.callS X1 hx (y := y_17) hown (mvT hZ (wd hw 145 rfl)) (mvT hZ (wd hw 146 rfl)) (mvT hZ (wd hw 147 rfl)) (mvT hZ (wd hw 148 rfl)) (by decide) (backOf (W := 0) (am17_1 l Z a0 hw [] a_EMPTY_ELEMENTDATA aw0 ka_EMPTY_ELEMENTDATA kaw0 HW  h0 n0 Ol ) hZ (wd hw 148 rfl) (wd hw 147 rfl) (by decide) (by decide)) (g := (mkF m 5 #[.val (.ref ad1), .val (.int (0 : Int32))] [(.int (2 : Int32)), (.int (0 : Int32))])) rfl (by rw [hml]; rfl) (argsL := [(.int (0 : Int32)), (.int (2 : Int32))]) (rest := []) (lenOf pd_4 rfl) rfl (by show 2 * 0 + _ ≤ _; exact Nat.le_of_eq rfl) (hb hby d16_5) (fun _ _ => ⟨rfl, e1, (by decide : 0 + 0 ≤ _), (by decide : 0 + 0 ≤ _)⟩)
  dsimp only [Pt.U, Pt.locs, Pt.cells, Pt.slots] at X2 l2 y2 z2 st2 hQ2
  subst l2 y2 z2
  obtain ⟨rfl, Nq2, e2⟩ := hQ2
  have N2 := Fr.app N0 Nq2
  refine Go.step st2 ?_
  show Go p e below _ (T2.setTop (mkF m 8 #[.val (.ref ad1), .val (.int (0 : Int32))] [(.int (0 : Int32))]))
  refine gs.pop X2.here hx (hb hby d16_8) rfl ?_
  refine gs.aloadN X2.here hx (hb hby d16_9) rfl rfl ?_
  refine gs.iloadN X2.here hx (hb hby d16_10) rfl ?_
  obtain ⟨cq3, kq3, q3a, q3b, q3c⟩ := isOf hZ e2 HE_ad1
  obtain ⟨_, _, ⟨T3, L3, k3, n3⟩, -, X3, ⟨Lc3, hQ3, l3, y3, z3⟩, st3⟩ := X2.virtualBack hx (y := y_19) (z := y_19) hown (mvT hZ (wd hw 153 rfl)) (mvT hZ (wd hw 154 rfl)) (notFace_of_selects (args := #[]) (mvT hZ (wd hw 156 rfl))) (mvT hZ (wd hw 156 rfl)) (mvT hZ (wd hw 155 rfl)) (by decide) (backOf (W := 0) (am19_1 l Z a0 hw [] a_EMPTY_ELEMENTDATA aw0 ka_EMPTY_ELEMENTDATA kaw0 HW (ad1) (ad4) (ad5) (kc1) (ad7) h0 n0 Ol HF_ad1_ArrayList_elementData HV_ad4 hO_ad4) hZ (wd hw 157 rfl) (wd hw 21 rfl) (by decide) (by decide)) q3a q3c (g := (mkF m 11 #[.val (.ref ad1), .val (.int (0 : Int32))] [(.int (0 : Int32)), (.ref ad1)])) rfl (by rw [hml]; rfl) (Steps.refl _) (argsL := [(.int (0 : Int32))]) (rest := []) (lenOf pd_11 rfl) rfl (by show 2 * 0 + _ ≤ _; exact Nat.le_of_eq rfl) (hb hby d16_11) (fun _ _ => ⟨rfl, e2, (by decide : 0 + 0 ≤ _), (by decide : 0 + 0 ≤ _)⟩)
  dsimp only [Pt.U, Pt.locs, Pt.cells, Pt.slots] at X3 l3 y3 z3 st3 hQ3
  subst l3 y3 z3
  obtain ⟨rfl, Nq3, e3⟩ := hQ3
  have N3 := Fr.app N2 Nq3
  refine Go.step (fun t_ k_ => st3.trans k_) ?_
  show Go p e below _ (T3.setTop (mkF m 14 #[.val (.ref ad1), .val (.int (0 : Int32))] [(.ref ad5)]))
  refine Go.retR X3 hx Bd.returns rfl rfl Bd.notSynchronized (hb hby d16_14) (by rw [e3]; exact ⟨rfl, N3, rfl⟩) (by decide) (by decide)
theorem d14_84 : decode prog_11_method_1_code 84 = .ok (.checkcast 47, 3) := by decide +kernel
theorem d14_87 : decode prog_11_method_1_code 87 = .ok (.invokevirtual 49, 3) := by decide +kernel
theorem d20_0 : decode prog_76_method_4_code 0 = .ok (.aload_n 0, 1) := by decide +kernel
theorem d20_1 : decode prog_76_method_4_code 1 = .ok (.getfield 17, 3) := by decide +kernel
theorem d20_4 : decode prog_76_method_4_code 4 = .ok (.areturn, 1) := by decide +kernel
theorem ef_am20_1 (m : MethodId) (x0 : Addr)  : entryFrame m #[(.ref x0)] 1 = mkF m 0 #[.val (.ref x0)] [] := by first | (simp [entryFrame, mkF, argsToLocals, Value.category]; done) | rfl
def Q_am20_1 (Z : State) (a_EMPTY_ELEMENTDATA : Addr) (aw0 : Addr) (ka_EMPTY_ELEMENTDATA : ClassId) (kaw0 : ClassId) (ad1 : Addr) (ad2 : Addr) (h0 : Heap) (n0 : Nat) (v : Option Value) (h : Heap) (L : List Loc) : Prop := v = some (.ref ad2) ∧ Fr n0 L ∧ h = h0
set_option maxRecDepth 65536 in
set_option maxHeartbeats 40000000 in
theorem am20_1 (l : Launch) (Z : State) (a0 : Array Value) (hw : ∀ d ∈ tables_1, d.before a0 Z = true) (ws : List Jvm.Cond) (a_EMPTY_ELEMENTDATA : Addr) (aw0 : Addr) (ka_EMPTY_ELEMENTDATA : ClassId) (kaw0 : ClassId) (HW : Wd Z a_EMPTY_ELEMENTDATA aw0 ka_EMPTY_ELEMENTDATA kaw0) (ad1 : Addr) (ad2 : Addr) (h0 : Heap) (n0 : Nat) (Ol : Old Z n0 h0) (HF_ad1_Variable_domain : Fld Z h0 ad1 "com/example/monarc/monarc/Variable" "domain" "Lcom/example/monarc/monarc/InitialDomain;" (.ref ad2)) :
    MetFree l y_20 (head1 (Jvm.Cond.code y_20 prog_76_method_4_code 1 (some (.object "com/example/monarc/monarc/InitialDomain")) :: ws) ({ frames := 0, cells := 0, slots := 0, locals := 0 } : Room)) (fun a_ U_ => a_ = #[(.ref ad1)] ∧ Z.Warmed39 U_.vm ∧ U_.heap = h0) (fun _ _ _ _ _ => True) (fun _ U_ o_ V_ => ∃ v_ L_, o_ = .returned v_ ∧ Q_am20_1 Z a_EMPTY_ELEMENTDATA aw0 ka_EMPTY_ELEMENTDATA kaw0 ad1 ad2 h0 n0 v_ V_.heap L_ ∧ FrameEnd U_ o_ V_ L_ ({ frames := 0, cells := 0, slots := 0, locals := 0 } : Room).cells ({ frames := 0, cells := 0, slots := 0, locals := 0 } : Room).slots) := by
  refine MetFree.of_bodySF (plainFor_of_name pn_5) hisR ?_
  intro p e s m args below meth c s₁ Bd hml0 hP hK
  obtain ⟨rfl, hZ, hh⟩ := hP
  have hx := Bd.exec
  have hby := Bd.bytes
  have hml : c.maxLocals = 1 := hml0
  have hown : s.vm.findClass "com/example/monarc/monarc/Variable" = some m.cls := findClass_of_methodNamed Bd.named
  have hnm := (name_of_methodNamed Bd.named Bd.method).1
  have X0 : Stand p l e ({ frames := 0, cells := 0, slots := 0, locals := 0 } : Room) s m #[(.ref ad1)] below meth c s₁ [] 0 0 := Stand.of_body Bd
  have e0 : s₁.heap = h0 := by rw [← hh, Bd.state]; rfl
  have N0 := Fr.nil n0
  have kp0 := Keep.refl h0 []
  show Go p e below (Fin1 s below (Q_am20_1 Z a_EMPTY_ELEMENTDATA aw0 ka_EMPTY_ELEMENTDATA kaw0 ad1 ad2 h0 n0) ({ frames := 0, cells := 0, slots := 0, locals := 0 } : Room).cells ({ frames := 0, cells := 0, slots := 0, locals := 0 } : Room).slots) _
  refine Go.step (fun t_ k_ => castTop (ef_am20_1 m ad1) k_) ?_
  obtain ⟨Ea_EMPTY_ELEMENTDATA, Sa_EMPTY_ELEMENTDATA, Eaw0, Saw0, Aa_EMPTY_ELEMENTDATA, Aaw0⟩ := id HW
  show Go p e below _ (s₁.setTop (mkF m 0 #[.val (.ref ad1)] []))
  refine gs.aloadN X0.here hx (hb hby d20_0) rfl rfl ?_
  refine gs.getF X0 hx hZ hown (wd hw 67 rfl) Via.refl e0 HF_ad1_Variable_domain (hb hby d20_1) fun T1 X1 e1 => ?_
  refine Go.retR X1 hx Bd.returns rfl rfl Bd.notSynchronized (hb hby d20_4) (by rw [e1]; exact ⟨rfl, N0, rfl⟩) (by decide) (by decide)
theorem pd_12 : parseMethodDescriptor "()Lcom/example/monarc/monarc/InitialDomain;" = some ⟨[], some (.object "com/example/monarc/monarc/InitialDomain")⟩ := by decide +kernel
theorem d14_90 : decode prog_11_method_1_code 90 = .ok (.aastore, 1) := by decide +kernel
theorem d14_91 : decode prog_11_method_1_code 91 = .ok (.aload_n 0, 1) := by decide +kernel
theorem d14_92 : decode prog_11_method_1_code 92 = .ok (.getfield 40, 3) := by decide +kernel
theorem d14_95 : decode prog_11_method_1_code 95 = .ok (.iload_n 3, 1) := by decide +kernel
theorem d14_96 : decode prog_11_method_1_code 96 = .ok (.aload_n 0, 1) := by decide +kernel
theorem d14_97 : decode prog_11_method_1_code 97 = .ok (.getfield 25, 3) := by decide +kernel
theorem d14_100 : decode prog_11_method_1_code 100 = .ok (.iload_n 3, 1) := by decide +kernel
theorem d14_101 : decode prog_11_method_1_code 101 = .ok (.aaload, 1) := by decide +kernel
theorem d14_102 : decode prog_11_method_1_code 102 = .ok (.invokevirtual 53, 3) := by decide +kernel
theorem d21_0 : decode prog_20_method_5_code 0 = .ok (.aload_n 0, 1) := by decide +kernel
theorem d21_1 : decode prog_20_method_5_code 1 = .ok (.getfield 24, 3) := by decide +kernel
theorem d21_4 : decode prog_20_method_5_code 4 = .ok (.ireturn, 1) := by decide +kernel
theorem ef_am21_1 (m : MethodId) (x0 : Addr)  : entryFrame m #[(.ref x0)] 1 = mkF m 0 #[.val (.ref x0)] [] := by first | (simp [entryFrame, mkF, argsToLocals, Value.category]; done) | rfl
def Q_am21_1 (Z : State) (a_EMPTY_ELEMENTDATA : Addr) (aw0 : Addr) (ka_EMPTY_ELEMENTDATA : ClassId) (kaw0 : ClassId) (ad1 : Addr) (h0 : Heap) (n0 : Nat) (v : Option Value) (h : Heap) (L : List Loc) : Prop := v = some (.int (200 : Int32)) ∧ Fr n0 L ∧ h = h0
set_option maxRecDepth 65536 in
set_option maxHeartbeats 40000000 in
theorem am21_1 (l : Launch) (Z : State) (a0 : Array Value) (hw : ∀ d ∈ tables_1, d.before a0 Z = true) (ws : List Jvm.Cond) (a_EMPTY_ELEMENTDATA : Addr) (aw0 : Addr) (ka_EMPTY_ELEMENTDATA : ClassId) (kaw0 : ClassId) (HW : Wd Z a_EMPTY_ELEMENTDATA aw0 ka_EMPTY_ELEMENTDATA kaw0) (ad1 : Addr) (h0 : Heap) (n0 : Nat) (Ol : Old Z n0 h0) (HF_ad1_InitialDomain_size : Fld Z h0 ad1 "com/example/monarc/monarc/InitialDomain" "size" "I" (.int (200 : Int32))) :
    MetFree l y_21 (head1 (Jvm.Cond.code y_21 prog_20_method_5_code 1 (some .int) :: ws) ({ frames := 0, cells := 0, slots := 0, locals := 0 } : Room)) (fun a_ U_ => a_ = #[(.ref ad1)] ∧ Z.Warmed39 U_.vm ∧ U_.heap = h0) (fun _ _ _ _ _ => True) (fun _ U_ o_ V_ => ∃ v_ L_, o_ = .returned v_ ∧ Q_am21_1 Z a_EMPTY_ELEMENTDATA aw0 ka_EMPTY_ELEMENTDATA kaw0 ad1 h0 n0 v_ V_.heap L_ ∧ FrameEnd U_ o_ V_ L_ ({ frames := 0, cells := 0, slots := 0, locals := 0 } : Room).cells ({ frames := 0, cells := 0, slots := 0, locals := 0 } : Room).slots) := by
  refine MetFree.of_bodySF (plainFor_of_name pn_0) hisR ?_
  intro p e s m args below meth c s₁ Bd hml0 hP hK
  obtain ⟨rfl, hZ, hh⟩ := hP
  have hx := Bd.exec
  have hby := Bd.bytes
  have hml : c.maxLocals = 1 := hml0
  have hown : s.vm.findClass "com/example/monarc/monarc/InitialDomain" = some m.cls := findClass_of_methodNamed Bd.named
  have hnm := (name_of_methodNamed Bd.named Bd.method).1
  have X0 : Stand p l e ({ frames := 0, cells := 0, slots := 0, locals := 0 } : Room) s m #[(.ref ad1)] below meth c s₁ [] 0 0 := Stand.of_body Bd
  have e0 : s₁.heap = h0 := by rw [← hh, Bd.state]; rfl
  have N0 := Fr.nil n0
  have kp0 := Keep.refl h0 []
  show Go p e below (Fin1 s below (Q_am21_1 Z a_EMPTY_ELEMENTDATA aw0 ka_EMPTY_ELEMENTDATA kaw0 ad1 h0 n0) ({ frames := 0, cells := 0, slots := 0, locals := 0 } : Room).cells ({ frames := 0, cells := 0, slots := 0, locals := 0 } : Room).slots) _
  refine Go.step (fun t_ k_ => castTop (ef_am21_1 m ad1) k_) ?_
  obtain ⟨Ea_EMPTY_ELEMENTDATA, Sa_EMPTY_ELEMENTDATA, Eaw0, Saw0, Aa_EMPTY_ELEMENTDATA, Aaw0⟩ := id HW
  show Go p e below _ (s₁.setTop (mkF m 0 #[.val (.ref ad1)] []))
  refine gs.aloadN X0.here hx (hb hby d21_0) rfl rfl ?_
  refine gs.getF X0 hx hZ hown (wd hw 15 rfl) Via.refl e0 HF_ad1_InitialDomain_size (hb hby d21_1) fun T1 X1 e1 => ?_
  refine Go.retI X1 hx Bd.returns Bd.notSynchronized (hb hby d21_4) (by rw [e1]; exact ⟨rfl, N0, rfl⟩) (by decide) (by decide)
theorem d14_105 : decode prog_11_method_1_code 105 = .ok (.iastore, 1) := by decide +kernel
theorem d14_106 : decode prog_11_method_1_code 106 = .ok (.aload_n 0, 1) := by decide +kernel
theorem d14_107 : decode prog_11_method_1_code 107 = .ok (.getfield 32, 3) := by decide +kernel
theorem sn43 {a0 : Array Value} {Z : State} (hw : ∀ d ∈ tables_1, d.before a0 Z = true) : Jvm.RoadKit.slotOf Z "com/example/monarc/monarc/Domains" "upper" "[I" ≠ Jvm.RoadKit.slotOf Z "com/example/monarc/monarc/Domains" "holes" "[[J" := slot_ne (Or.inr (wd hw 130 rfl)) (Or.inr (wd hw 134 rfl)) (by decide) (t := (.array .int)) (t' := (.array (.array .long))) (by decide) (by decide)
theorem sn44 {a0 : Array Value} {Z : State} (hw : ∀ d ∈ tables_1, d.before a0 Z = true) : Jvm.RoadKit.slotOf Z "com/example/monarc/monarc/Domains" "upper" "[I" ≠ Jvm.RoadKit.slotOf Z "com/example/monarc/monarc/Domains" "sizes" "[I" := slot_ne (Or.inr (wd hw 130 rfl)) (Or.inr (wd hw 136 rfl)) (by decide) (t := (.array .int)) (t' := (.array .int)) (by decide) (by decide)
theorem d14_110 : decode prog_11_method_1_code 110 = .ok (.iload_n 3, 1) := by decide +kernel
theorem d14_111 : decode prog_11_method_1_code 111 = .ok (.aload_n 0, 1) := by decide +kernel
theorem d14_112 : decode prog_11_method_1_code 112 = .ok (.getfield 40, 3) := by decide +kernel
theorem d14_115 : decode prog_11_method_1_code 115 = .ok (.iload_n 3, 1) := by decide +kernel
theorem d14_116 : decode prog_11_method_1_code 116 = .ok (.iaload, 1) := by decide +kernel
theorem d14_117 : decode prog_11_method_1_code 117 = .ok (.iconst 1, 1) := by decide +kernel
theorem d14_118 : decode prog_11_method_1_code 118 = .ok (.isub, 1) := by decide +kernel
theorem d14_119 : decode prog_11_method_1_code 119 = .ok (.iastore, 1) := by decide +kernel
theorem d14_120 : decode prog_11_method_1_code 120 = .ok (.aload_n 0, 1) := by decide +kernel
theorem d14_121 : decode prog_11_method_1_code 121 = .ok (.dup, 1) := by decide +kernel
theorem d14_122 : decode prog_11_method_1_code 122 = .ok (.getfield 54, 3) := by decide +kernel
theorem sn45 {a0 : Array Value} {Z : State} (hw : ∀ d ∈ tables_1, d.before a0 Z = true) : Jvm.RoadKit.slotOf Z "com/example/monarc/monarc/Domains" "withOneValue" "I" ≠ Jvm.RoadKit.slotOf Z "com/example/monarc/monarc/Domains" "trail" "[J" := slot_ne (Or.inl (wd hw 172 rfl)) (Or.inl (wd hw 110 rfl)) (by decide) (t := .int) (t' := (.array .long)) (by decide) (by decide)
theorem sn46 {a0 : Array Value} {Z : State} (hw : ∀ d ∈ tables_1, d.before a0 Z = true) : Jvm.RoadKit.slotOf Z "com/example/monarc/monarc/Domains" "withOneValue" "I" ≠ Jvm.RoadKit.slotOf Z "com/example/monarc/monarc/Domains" "marks" "[I" := slot_ne (Or.inl (wd hw 172 rfl)) (Or.inl (wd hw 113 rfl)) (by decide) (t := .int) (t' := (.array .int)) (by decide) (by decide)
theorem sn47 {a0 : Array Value} {Z : State} (hw : ∀ d ∈ tables_1, d.before a0 Z = true) : Jvm.RoadKit.slotOf Z "com/example/monarc/monarc/Domains" "withOneValue" "I" ≠ Jvm.RoadKit.slotOf Z "com/example/monarc/monarc/Domains" "initial" "[Lcom/example/monarc/monarc/InitialDomain;" := slot_ne (Or.inl (wd hw 172 rfl)) (Or.inr (wd hw 126 rfl)) (by decide) (t := .int) (t' := (.array (.object "com/example/monarc/monarc/InitialDomain"))) (by decide) (by decide)
theorem sn48 {a0 : Array Value} {Z : State} (hw : ∀ d ∈ tables_1, d.before a0 Z = true) : Jvm.RoadKit.slotOf Z "com/example/monarc/monarc/Domains" "withOneValue" "I" ≠ Jvm.RoadKit.slotOf Z "com/example/monarc/monarc/Domains" "lower" "[I" := slot_ne (Or.inl (wd hw 172 rfl)) (Or.inr (wd hw 128 rfl)) (by decide) (t := .int) (t' := (.array .int)) (by decide) (by decide)
theorem sn49 {a0 : Array Value} {Z : State} (hw : ∀ d ∈ tables_1, d.before a0 Z = true) : Jvm.RoadKit.slotOf Z "com/example/monarc/monarc/Domains" "withOneValue" "I" ≠ Jvm.RoadKit.slotOf Z "com/example/monarc/monarc/Domains" "upper" "[I" := slot_ne (Or.inl (wd hw 172 rfl)) (Or.inr (wd hw 130 rfl)) (by decide) (t := .int) (t' := (.array .int)) (by decide) (by decide)
theorem sn50 {a0 : Array Value} {Z : State} (hw : ∀ d ∈ tables_1, d.before a0 Z = true) : Jvm.RoadKit.slotOf Z "com/example/monarc/monarc/Domains" "withOneValue" "I" ≠ Jvm.RoadKit.slotOf Z "com/example/monarc/monarc/Domains" "holes" "[[J" := slot_ne (Or.inl (wd hw 172 rfl)) (Or.inr (wd hw 134 rfl)) (by decide) (t := .int) (t' := (.array (.array .long))) (by decide) (by decide)
theorem sn51 {a0 : Array Value} {Z : State} (hw : ∀ d ∈ tables_1, d.before a0 Z = true) : Jvm.RoadKit.slotOf Z "com/example/monarc/monarc/Domains" "withOneValue" "I" ≠ Jvm.RoadKit.slotOf Z "com/example/monarc/monarc/Domains" "sizes" "[I" := slot_ne (Or.inl (wd hw 172 rfl)) (Or.inr (wd hw 136 rfl)) (by decide) (t := .int) (t' := (.array .int)) (by decide) (by decide)
theorem d14_125 : decode prog_11_method_1_code 125 = .ok (.aload_n 0, 1) := by decide +kernel
theorem d14_126 : decode prog_11_method_1_code 126 = .ok (.getfield 40, 3) := by decide +kernel
theorem d14_129 : decode prog_11_method_1_code 129 = .ok (.iload_n 3, 1) := by decide +kernel
theorem d14_130 : decode prog_11_method_1_code 130 = .ok (.iaload, 1) := by decide +kernel
theorem d14_131 : decode prog_11_method_1_code 131 = .ok (.iconst 1, 1) := by decide +kernel
theorem d14_132 : decode prog_11_method_1_code 132 = .ok (.if_icmp .ne 7, 3) := by decide +kernel
theorem d14_139 : decode prog_11_method_1_code 139 = .ok (.iconst 0, 1) := by decide +kernel
theorem d14_140 : decode prog_11_method_1_code 140 = .ok (.iadd, 1) := by decide +kernel
theorem d14_141 : decode prog_11_method_1_code 141 = .ok (.putfield 54, 3) := by decide +kernel
theorem d14_144 : decode prog_11_method_1_code 144 = .ok (.iinc 3 1, 3) := by decide +kernel
theorem d14_147 : decode prog_11_method_1_code 147 = .ok (.goto (-80), 3) := by decide +kernel
theorem sn52 {a0 : Array Value} {Z : State} (hw : ∀ d ∈ tables_1, d.before a0 Z = true) : Jvm.RoadKit.slotOf Z "com/example/monarc/monarc/Domains" "initial" "[Lcom/example/monarc/monarc/InitialDomain;" ≠ Jvm.RoadKit.slotOf Z "com/example/monarc/monarc/Domains" "withOneValue" "I" := slot_ne (Or.inr (wd hw 126 rfl)) (Or.inl (wd hw 172 rfl)) (by decide) (t := (.array (.object "com/example/monarc/monarc/InitialDomain"))) (t' := .int) (by decide) (by decide)
theorem ef_am18_2 (m : MethodId) (x0 : Int32) (x1 : Int32)  : entryFrame m #[(.int x0), (.int x1), .null] 3 = mkF m 0 #[.val (.int x0), .val (.int x1), .val .null] [] := by first | (simp [entryFrame, mkF, argsToLocals, Value.category]; done) | rfl
def Q_am18_2 (Z : State) (a_EMPTY_ELEMENTDATA : Addr) (aw0 : Addr) (ka_EMPTY_ELEMENTDATA : ClassId) (kaw0 : ClassId)  (h0 : Heap) (n0 : Nat) (v : Option Value) (h : Heap) (L : List Loc) : Prop := v = some (.int (1 : Int32)) ∧ Fr n0 L ∧ h = h0
set_option maxRecDepth 65536 in
set_option maxHeartbeats 40000000 in
theorem am18_2 (l : Launch) (Z : State) (a0 : Array Value) (hw : ∀ d ∈ tables_1, d.before a0 Z = true) (ws : List Jvm.Cond) (a_EMPTY_ELEMENTDATA : Addr) (aw0 : Addr) (ka_EMPTY_ELEMENTDATA : ClassId) (kaw0 : ClassId) (HW : Wd Z a_EMPTY_ELEMENTDATA aw0 ka_EMPTY_ELEMENTDATA kaw0)  (h0 : Heap) (n0 : Nat) (Ol : Old Z n0 h0)  :
    MetFree l y_18 (head1 (Jvm.Cond.code y_18 jdk_41_method_11_code 3 (some .int) :: ws) ({ frames := 0, cells := 0, slots := 0, locals := 0 } : Room)) (fun a_ U_ => a_ = #[(.int (1 : Int32)), (.int (2 : Int32)), .null] ∧ Z.Warmed39 U_.vm ∧ U_.heap = h0) (fun _ _ _ _ _ => True) (fun _ U_ o_ V_ => ∃ v_ L_, o_ = .returned v_ ∧ Q_am18_2 Z a_EMPTY_ELEMENTDATA aw0 ka_EMPTY_ELEMENTDATA kaw0  h0 n0 v_ V_.heap L_ ∧ FrameEnd U_ o_ V_ L_ ({ frames := 0, cells := 0, slots := 0, locals := 0 } : Room).cells ({ frames := 0, cells := 0, slots := 0, locals := 0 } : Room).slots) := by
  refine MetFree.of_bodySF (plainFor_of_name pn_6) hisR ?_
  intro p e s m args below meth c s₁ Bd hml0 hP hK
  obtain ⟨rfl, hZ, hh⟩ := hP
  have hx := Bd.exec
  have hby := Bd.bytes
  have hml : c.maxLocals = 3 := hml0
  have hown : s.vm.findClass "jdk/internal/util/Preconditions" = some m.cls := findClass_of_methodNamed Bd.named
  have hnm := (name_of_methodNamed Bd.named Bd.method).1
  have X0 : Stand p l e ({ frames := 0, cells := 0, slots := 0, locals := 0 } : Room) s m #[(.int (1 : Int32)), (.int (2 : Int32)), .null] below meth c s₁ [] 0 0 := Stand.of_body Bd
  have e0 : s₁.heap = h0 := by rw [← hh, Bd.state]; rfl
  have N0 := Fr.nil n0
  have kp0 := Keep.refl h0 []
  show Go p e below (Fin1 s below (Q_am18_2 Z a_EMPTY_ELEMENTDATA aw0 ka_EMPTY_ELEMENTDATA kaw0  h0 n0) ({ frames := 0, cells := 0, slots := 0, locals := 0 } : Room).cells ({ frames := 0, cells := 0, slots := 0, locals := 0 } : Room).slots) _
  refine Go.step (fun t_ k_ => castTop (ef_am18_2 m (1 : Int32) (2 : Int32)) k_) ?_
  obtain ⟨Ea_EMPTY_ELEMENTDATA, Sa_EMPTY_ELEMENTDATA, Eaw0, Saw0, Aa_EMPTY_ELEMENTDATA, Aaw0⟩ := id HW
  show Go p e below _ (s₁.setTop (mkF m 0 #[.val (.int (1 : Int32)), .val (.int (2 : Int32)), .val .null] []))
  refine gs.iloadN X0.here hx (hb hby d18_0) rfl ?_
  have hc1 : ¬ ((1 : Int32) < (0 : Int32)) := by decide
  refine gs.ifNo X0.here hx (hb hby d18_1) ((if0 _ _).trans (flt hc1).1) ?_
  refine gs.iloadN X0.here hx (hb hby d18_4) rfl ?_
  refine gs.iloadN X0.here hx (hb hby d18_5) rfl ?_
  have hc6 : (1 : Int32) < (2 : Int32) := by decide
  refine gs.icmpYes 16 X0.here hx (hb hby d18_6) (tlt hc6).1 rfl ?_
  refine gs.iloadN X0.here hx (hb hby d18_16) rfl ?_
  refine Go.retI X0 hx Bd.returns Bd.notSynchronized (hb hby d18_17) (by rw [e0]; exact ⟨rfl, N0, rfl⟩) (by decide) (by decide)
theorem ef_am17_2 (m : MethodId) (x0 : Int32) (x1 : Int32)  : entryFrame m #[(.int x0), (.int x1)] 2 = mkF m 0 #[.val (.int x0), .val (.int x1)] [] := by first | (simp [entryFrame, mkF, argsToLocals, Value.category]; done) | rfl
def Q_am17_2 (Z : State) (a_EMPTY_ELEMENTDATA : Addr) (aw0 : Addr) (ka_EMPTY_ELEMENTDATA : ClassId) (kaw0 : ClassId)  (h0 : Heap) (n0 : Nat) (v : Option Value) (h : Heap) (L : List Loc) : Prop := v = some (.int (1 : Int32)) ∧ Fr n0 L ∧ h = h0
set_option maxRecDepth 65536 in
set_option maxHeartbeats 40000000 in
theorem am17_2 (l : Launch) (Z : State) (a0 : Array Value) (hw : ∀ d ∈ tables_1, d.before a0 Z = true) (ws : List Jvm.Cond) (a_EMPTY_ELEMENTDATA : Addr) (aw0 : Addr) (ka_EMPTY_ELEMENTDATA : ClassId) (kaw0 : ClassId) (HW : Wd Z a_EMPTY_ELEMENTDATA aw0 ka_EMPTY_ELEMENTDATA kaw0)  (h0 : Heap) (n0 : Nat) (Ol : Old Z n0 h0)  :
    MetFree l y_17 (head1 (Jvm.Cond.code y_17 jdk_31_method_17_code 2 (some .int) :: ws) ({ frames := 1, cells := 0, slots := 0, locals := 14 } : Room)) (fun a_ U_ => a_ = #[(.int (1 : Int32)), (.int (2 : Int32))] ∧ Z.Warmed39 U_.vm ∧ U_.heap = h0) (fun _ _ _ _ _ => True) (fun _ U_ o_ V_ => ∃ v_ L_, o_ = .returned v_ ∧ Q_am17_2 Z a_EMPTY_ELEMENTDATA aw0 ka_EMPTY_ELEMENTDATA kaw0  h0 n0 v_ V_.heap L_ ∧ FrameEnd U_ o_ V_ L_ ({ frames := 1, cells := 0, slots := 0, locals := 14 } : Room).cells ({ frames := 1, cells := 0, slots := 0, locals := 14 } : Room).slots) := by
  refine MetFree.of_bodySF (plainFor_of_name pn_7) hisR ?_
  intro p e s m args below meth c s₁ Bd hml0 hP hK
  obtain ⟨rfl, hZ, hh⟩ := hP
  have hx := Bd.exec
  have hby := Bd.bytes
  have hml : c.maxLocals = 2 := hml0
  have hown : s.vm.findClass "java/util/Objects" = some m.cls := findClass_of_methodNamed Bd.named
  have hnm := (name_of_methodNamed Bd.named Bd.method).1
  have X0 : Stand p l e ({ frames := 1, cells := 0, slots := 0, locals := 14 } : Room) s m #[(.int (1 : Int32)), (.int (2 : Int32))] below meth c s₁ [] 0 0 := Stand.of_body Bd
  have e0 : s₁.heap = h0 := by rw [← hh, Bd.state]; rfl
  have N0 := Fr.nil n0
  have kp0 := Keep.refl h0 []
  show Go p e below (Fin1 s below (Q_am17_2 Z a_EMPTY_ELEMENTDATA aw0 ka_EMPTY_ELEMENTDATA kaw0  h0 n0) ({ frames := 1, cells := 0, slots := 0, locals := 14 } : Room).cells ({ frames := 1, cells := 0, slots := 0, locals := 14 } : Room).slots) _
  refine Go.step (fun t_ k_ => castTop (ef_am17_2 m (1 : Int32) (2 : Int32)) k_) ?_
  obtain ⟨Ea_EMPTY_ELEMENTDATA, Sa_EMPTY_ELEMENTDATA, Eaw0, Saw0, Aa_EMPTY_ELEMENTDATA, Aaw0⟩ := id HW
  show Go p e below _ (s₁.setTop (mkF m 0 #[.val (.int (1 : Int32)), .val (.int (2 : Int32))] []))
  refine gs.iloadN X0.here hx (hb hby d17_0) rfl ?_
  refine gs.iloadN X0.here hx (hb hby d17_1) rfl ?_
  refine gs.aconstNull X0.here hx (hb hby d17_2) ?_
  obtain ⟨_, _, ⟨T1, L1, k1, n1⟩, -, X1, ⟨Lc1, hQ1, l1, y1, z1⟩, st1⟩ := Jvm.LawKit.callS X0 hx (y := y_18) hown (mvT hZ (wd hw 149 rfl)) (mvT hZ (wd hw 150 rfl)) (mvT hZ (wd hw 151 rfl)) (mvT hZ (wd hw 152 rfl)) (by decide) (backOf (W := 0) (am18_2 l Z a0 hw [] a_EMPTY_ELEMENTDATA aw0 ka_EMPTY_ELEMENTDATA kaw0 HW  h0 n0 Ol ) hZ (wd hw 152 rfl) (wd hw 151 rfl) (by decide) (by decide)) (g := (mkF m 3 #[.val (.int (1 : Int32)), .val (.int (2 : Int32))] [.null, (.int (2 : Int32)), (.int (1 : Int32))])) rfl (by rw [hml]; rfl) (argsL := [(.int (1 : Int32)), (.int (2 : Int32)), .null]) (rest := []) (lenOf pd_10 rfl) rfl (by show 2 * 0 + _ ≤ _; exact Nat.le_of_eq rfl) (hb hby d17_3) (fun _ _ => ⟨rfl, e0, (by decide : 0 + 0 ≤ _), (by decide : 0 + 0 ≤ _)⟩)
  dsimp only [Pt.U, Pt.locs, Pt.cells, Pt.slots] at X1 l1 y1 z1 st1 hQ1
  subst l1 y1 z1
  obtain ⟨rfl, Nq1, e1⟩ := hQ1
  have N1 := Fr.app N0 Nq1
  refine Go.step st1 ?_
  show Go p e below _ (T1.setTop (mkF m 6 #[.val (.int (1 : Int32)), .val (.int (2 : Int32))] [(.int (1 : Int32))]))
  refine Go.retI X1 hx Bd.returns Bd.notSynchronized (hb hby d17_6) (by rw [e1]; exact ⟨rfl, N1, rfl⟩) (by decide) (by decide)
theorem ef_am19_2 (m : MethodId) (x0 : Addr) (x1 : Int32)  : entryFrame m #[(.ref x0), (.int x1)] 2 = mkF m 0 #[.val (.ref x0), .val (.int x1)] [] := by first | (simp [entryFrame, mkF, argsToLocals, Value.category]; done) | rfl
def Q_am19_2 (Z : State) (a_EMPTY_ELEMENTDATA : Addr) (aw0 : Addr) (ka_EMPTY_ELEMENTDATA : ClassId) (kaw0 : ClassId) (ad1 : Addr) (ad4 : Addr) (ad5 : Addr) (kc1 : ClassId) (ad7 : Addr) (h0 : Heap) (n0 : Nat) (v : Option Value) (h : Heap) (L : List Loc) : Prop := v = some (.ref ad7) ∧ Fr n0 L ∧ h = h0
set_option maxRecDepth 65536 in
set_option maxHeartbeats 40000000 in
theorem am19_2 (l : Launch) (Z : State) (a0 : Array Value) (hw : ∀ d ∈ tables_1, d.before a0 Z = true) (ws : List Jvm.Cond) (a_EMPTY_ELEMENTDATA : Addr) (aw0 : Addr) (ka_EMPTY_ELEMENTDATA : ClassId) (kaw0 : ClassId) (HW : Wd Z a_EMPTY_ELEMENTDATA aw0 ka_EMPTY_ELEMENTDATA kaw0) (ad1 : Addr) (ad4 : Addr) (ad5 : Addr) (kc1 : ClassId) (ad7 : Addr) (h0 : Heap) (n0 : Nat) (Ol : Old Z n0 h0) (HF_ad1_ArrayList_elementData : Fld Z h0 ad1 "java/util/ArrayList" "elementData" "[Ljava/lang/Object;" (.ref ad4)) (HV_ad4 : Arv Z h0 ad4 kc1 (.object "java/lang/Object") (10 : Int32) [(.ref ad5), (.ref ad7), .null, .null, .null, .null, .null, .null, .null, .null] .null) (hO_ad4 : Ovr Z kc1 "java/lang/Object") :
    MetFree l y_19 (head1 (Jvm.Cond.code y_19 jdk_38_method_18_code 2 (some (.object "java/lang/Object")) :: ws) ({ frames := 0, cells := 0, slots := 0, locals := 0 } : Room)) (fun a_ U_ => a_ = #[(.ref ad1), (.int (1 : Int32))] ∧ Z.Warmed39 U_.vm ∧ U_.heap = h0) (fun _ _ _ _ _ => True) (fun _ U_ o_ V_ => ∃ v_ L_, o_ = .returned v_ ∧ Q_am19_2 Z a_EMPTY_ELEMENTDATA aw0 ka_EMPTY_ELEMENTDATA kaw0 ad1 ad4 ad5 kc1 ad7 h0 n0 v_ V_.heap L_ ∧ FrameEnd U_ o_ V_ L_ ({ frames := 0, cells := 0, slots := 0, locals := 0 } : Room).cells ({ frames := 0, cells := 0, slots := 0, locals := 0 } : Room).slots) := by
  refine MetFree.of_bodySF (plainFor_of_name pn_3) hisR ?_
  intro p e s m args below meth c s₁ Bd hml0 hP hK
  obtain ⟨rfl, hZ, hh⟩ := hP
  have hx := Bd.exec
  have hby := Bd.bytes
  have hml : c.maxLocals = 2 := hml0
  have hown : s.vm.findClass "java/util/ArrayList" = some m.cls := findClass_of_methodNamed Bd.named
  have hnm := (name_of_methodNamed Bd.named Bd.method).1
  have X0 : Stand p l e ({ frames := 0, cells := 0, slots := 0, locals := 0 } : Room) s m #[(.ref ad1), (.int (1 : Int32))] below meth c s₁ [] 0 0 := Stand.of_body Bd
  have e0 : s₁.heap = h0 := by rw [← hh, Bd.state]; rfl
  have N0 := Fr.nil n0
  have kp0 := Keep.refl h0 []
  show Go p e below (Fin1 s below (Q_am19_2 Z a_EMPTY_ELEMENTDATA aw0 ka_EMPTY_ELEMENTDATA kaw0 ad1 ad4 ad5 kc1 ad7 h0 n0) ({ frames := 0, cells := 0, slots := 0, locals := 0 } : Room).cells ({ frames := 0, cells := 0, slots := 0, locals := 0 } : Room).slots) _
  refine Go.step (fun t_ k_ => castTop (ef_am19_2 m ad1 (1 : Int32)) k_) ?_
  obtain ⟨Ea_EMPTY_ELEMENTDATA, Sa_EMPTY_ELEMENTDATA, Eaw0, Saw0, Aa_EMPTY_ELEMENTDATA, Aaw0⟩ := id HW
  show Go p e below _ (s₁.setTop (mkF m 0 #[.val (.ref ad1), .val (.int (1 : Int32))] []))
  refine gs.aloadN X0.here hx (hb hby d19_0) rfl rfl ?_
  refine gs.getF X0 hx hZ hown (wd hw 41 rfl) Via.refl e0 HF_ad1_ArrayList_elementData (hb hby d19_1) fun T1 X1 e1 => ?_
  refine gs.iloadN X1.here hx (hb hby d19_4) rfl ?_
  obtain ⟨cl2, Ar2, q2, Sz2, Ng2, Hs2, G2⟩ := id HV_ad4
  have hin2 : ¬ ((1 : Int32) < 0 ∨ cl2.slots.size ≤ ((1 : Int32)).toNatClampNeg) := inb_of Sz2 ⟨by decide, by decide⟩
  have hat2 : cl2.slots[((1 : Int32)).toNatClampNeg]? = some (.ref ad7) := Has.at Hs2 hin2 rfl
  refine Go.step (fun t_ k_ => X1.aaload hx (j := (1 : Int32)) (v := (.ref ad7)) (by rw [e1]; exact Ar2.1) (State.isArrayOf_alike hZ.alike Ar2.2.1) rfl Ar2.2.2 hin2 hat2 (g := (mkF m 5 #[.val (.ref ad1), .val (.int (1 : Int32))] [(.int (1 : Int32)), (.ref ad4)])) rfl rfl (hb hby d19_5) _ k_) ?_
  show Go p e below _ (T1.setTop (mkF m 6 #[.val (.ref ad1), .val (.int (1 : Int32))] [(.ref ad7)]))
  refine Go.retR X1 hx Bd.returns rfl rfl Bd.notSynchronized (hb hby d19_6) (by rw [e1]; exact ⟨rfl, N0, rfl⟩) (by decide) (by decide)
theorem ef_am16_2 (m : MethodId) (x0 : Addr) (x1 : Int32)  : entryFrame m #[(.ref x0), (.int x1)] 2 = mkF m 0 #[.val (.ref x0), .val (.int x1)] [] := by first | (simp [entryFrame, mkF, argsToLocals, Value.category]; done) | rfl
def Q_am16_2 (Z : State) (a_EMPTY_ELEMENTDATA : Addr) (aw0 : Addr) (ka_EMPTY_ELEMENTDATA : ClassId) (kaw0 : ClassId) (ad1 : Addr) (ad4 : Addr) (ad5 : Addr) (kc1 : ClassId) (ad7 : Addr) (h0 : Heap) (n0 : Nat) (v : Option Value) (h : Heap) (L : List Loc) : Prop := v = some (.ref ad7) ∧ Fr n0 L ∧ h = h0
set_option maxRecDepth 65536 in
set_option maxHeartbeats 40000000 in
theorem am16_2 (l : Launch) (Z : State) (a0 : Array Value) (hw : ∀ d ∈ tables_1, d.before a0 Z = true) (ws : List Jvm.Cond) (a_EMPTY_ELEMENTDATA : Addr) (aw0 : Addr) (ka_EMPTY_ELEMENTDATA : ClassId) (kaw0 : ClassId) (HW : Wd Z a_EMPTY_ELEMENTDATA aw0 ka_EMPTY_ELEMENTDATA kaw0) (ad1 : Addr) (ad4 : Addr) (ad5 : Addr) (kc1 : ClassId) (ad7 : Addr) (h0 : Heap) (n0 : Nat) (Ol : Old Z n0 h0) (HE_ad1 : Exa Z h0 ad1 "java/util/ArrayList") (HF_ad1_ArrayList_elementData : Fld Z h0 ad1 "java/util/ArrayList" "elementData" "[Ljava/lang/Object;" (.ref ad4)) (HF_ad1_ArrayList_size : Fld Z h0 ad1 "java/util/ArrayList" "size" "I" (.int (2 : Int32))) (HV_ad4 : Arv Z h0 ad4 kc1 (.object "java/lang/Object") (10 : Int32) [(.ref ad5), (.ref ad7), .null, .null, .null, .null, .null, .null, .null, .null] .null) (hO_ad4 : Ovr Z kc1 "java/lang/Object") :
    MetFree l y_16 (head1 (Jvm.Cond.code y_16 jdk_38_method_20_code 2 (some (.object "java/lang/Object")) :: ws) ({ frames := 2, cells := 0, slots := 0, locals := 27 } : Room)) (fun a_ U_ => a_ = #[(.ref ad1), (.int (1 : Int32))] ∧ Z.Warmed39 U_.vm ∧ U_.heap = h0) (fun _ _ _ _ _ => True) (fun _ U_ o_ V_ => ∃ v_ L_, o_ = .returned v_ ∧ Q_am16_2 Z a_EMPTY_ELEMENTDATA aw0 ka_EMPTY_ELEMENTDATA kaw0 ad1 ad4 ad5 kc1 ad7 h0 n0 v_ V_.heap L_ ∧ FrameEnd U_ o_ V_ L_ ({ frames := 2, cells := 0, slots := 0, locals := 27 } : Room).cells ({ frames := 2, cells := 0, slots := 0, locals := 27 } : Room).slots) := by
  refine MetFree.of_bodySF (plainFor_of_name pn_3) hisR ?_
  intro p e s m args below meth c s₁ Bd hml0 hP hK
  obtain ⟨rfl, hZ, hh⟩ := hP
  have hx := Bd.exec
  have hby := Bd.bytes
  have hml : c.maxLocals = 2 := hml0
  have hown : s.vm.findClass "java/util/ArrayList" = some m.cls := findClass_of_methodNamed Bd.named
  have hnm := (name_of_methodNamed Bd.named Bd.method).1
  have X0 : Stand p l e ({ frames := 2, cells := 0, slots := 0, locals := 27 } : Room) s m #[(.ref ad1), (.int (1 : Int32))] below meth c s₁ [] 0 0 := Stand.of_body Bd
  have e0 : s₁.heap = h0 := by rw [← hh, Bd.state]; rfl
  have N0 := Fr.nil n0
  have kp0 := Keep.refl h0 []
  show Go p e below (Fin1 s below (Q_am16_2 Z a_EMPTY_ELEMENTDATA aw0 ka_EMPTY_ELEMENTDATA kaw0 ad1 ad4 ad5 kc1 ad7 h0 n0) ({ frames := 2, cells := 0, slots := 0, locals := 27 } : Room).cells ({ frames := 2, cells := 0, slots := 0, locals := 27 } : Room).slots) _
  refine Go.step (fun t_ k_ => castTop (ef_am16_2 m ad1 (1 : Int32)) k_) ?_
  obtain ⟨Ea_EMPTY_ELEMENTDATA, Sa_EMPTY_ELEMENTDATA, Eaw0, Saw0, Aa_EMPTY_ELEMENTDATA, Aaw0⟩ := id HW
  show Go p e below _ (s₁.setTop (mkF m 0 #[.val (.ref ad1), .val (.int (1 : Int32))] []))
  refine gs.iloadN X0.here hx (hb hby d16_0) rfl ?_
  refine gs.aloadN X0.here hx (hb hby d16_1) rfl rfl ?_
  refine gs.getF X0 hx hZ hown (wd hw 76 rfl) Via.refl e0 HF_ad1_ArrayList_size (hb hby d16_2) fun T1 X1 e1 => ?_
  obtain ⟨_, _, ⟨T2, L2, k2, n2⟩, -, X2, ⟨Lc2, hQ2, l2, y2, z2⟩, st2⟩ := Jvm.LawKit.callS X1 hx (y := y_17) hown (mvT hZ (wd hw 145 rfl)) (mvT hZ (wd hw 146 rfl)) (mvT hZ (wd hw 147 rfl)) (mvT hZ (wd hw 148 rfl)) (by decide) (backOf (W := 0) (am17_2 l Z a0 hw [] a_EMPTY_ELEMENTDATA aw0 ka_EMPTY_ELEMENTDATA kaw0 HW  h0 n0 Ol ) hZ (wd hw 148 rfl) (wd hw 147 rfl) (by decide) (by decide)) (g := (mkF m 5 #[.val (.ref ad1), .val (.int (1 : Int32))] [(.int (2 : Int32)), (.int (1 : Int32))])) rfl (by rw [hml]; rfl) (argsL := [(.int (1 : Int32)), (.int (2 : Int32))]) (rest := []) (lenOf pd_4 rfl) rfl (by show 2 * 0 + _ ≤ _; exact Nat.le_of_eq rfl) (hb hby d16_5) (fun _ _ => ⟨rfl, e1, (by decide : 0 + 0 ≤ _), (by decide : 0 + 0 ≤ _)⟩)
  dsimp only [Pt.U, Pt.locs, Pt.cells, Pt.slots] at X2 l2 y2 z2 st2 hQ2
  subst l2 y2 z2
  obtain ⟨rfl, Nq2, e2⟩ := hQ2
  have N2 := Fr.app N0 Nq2
  refine Go.step st2 ?_
  show Go p e below _ (T2.setTop (mkF m 8 #[.val (.ref ad1), .val (.int (1 : Int32))] [(.int (1 : Int32))]))
  refine gs.pop X2.here hx (hb hby d16_8) rfl ?_
  refine gs.aloadN X2.here hx (hb hby d16_9) rfl rfl ?_
  refine gs.iloadN X2.here hx (hb hby d16_10) rfl ?_
  obtain ⟨cq3, kq3, q3a, q3b, q3c⟩ := isOf hZ e2 HE_ad1
  obtain ⟨_, _, ⟨T3, L3, k3, n3⟩, -, X3, ⟨Lc3, hQ3, l3, y3, z3⟩, st3⟩ := X2.virtualBack hx (y := y_19) (z := y_19) hown (mvT hZ (wd hw 153 rfl)) (mvT hZ (wd hw 154 rfl)) (notFace_of_selects (args := #[]) (mvT hZ (wd hw 156 rfl))) (mvT hZ (wd hw 156 rfl)) (mvT hZ (wd hw 155 rfl)) (by decide) (backOf (W := 0) (am19_2 l Z a0 hw [] a_EMPTY_ELEMENTDATA aw0 ka_EMPTY_ELEMENTDATA kaw0 HW (ad1) (ad4) (ad5) (kc1) (ad7) h0 n0 Ol HF_ad1_ArrayList_elementData HV_ad4 hO_ad4) hZ (wd hw 157 rfl) (wd hw 21 rfl) (by decide) (by decide)) q3a q3c (g := (mkF m 11 #[.val (.ref ad1), .val (.int (1 : Int32))] [(.int (1 : Int32)), (.ref ad1)])) rfl (by rw [hml]; rfl) (Steps.refl _) (argsL := [(.int (1 : Int32))]) (rest := []) (lenOf pd_11 rfl) rfl (by show 2 * 0 + _ ≤ _; exact Nat.le_of_eq rfl) (hb hby d16_11) (fun _ _ => ⟨rfl, e2, (by decide : 0 + 0 ≤ _), (by decide : 0 + 0 ≤ _)⟩)
  dsimp only [Pt.U, Pt.locs, Pt.cells, Pt.slots] at X3 l3 y3 z3 st3 hQ3
  subst l3 y3 z3
  obtain ⟨rfl, Nq3, e3⟩ := hQ3
  have N3 := Fr.app N2 Nq3
  refine Go.step (fun t_ k_ => st3.trans k_) ?_
  show Go p e below _ (T3.setTop (mkF m 14 #[.val (.ref ad1), .val (.int (1 : Int32))] [(.ref ad7)]))
  refine Go.retR X3 hx Bd.returns rfl rfl Bd.notSynchronized (hb hby d16_14) (by rw [e3]; exact ⟨rfl, N3, rfl⟩) (by decide) (by decide)
theorem sn53 {a0 : Array Value} {Z : State} (hw : ∀ d ∈ tables_1, d.before a0 Z = true) : Jvm.RoadKit.slotOf Z "com/example/monarc/monarc/Domains" "sizes" "[I" ≠ Jvm.RoadKit.slotOf Z "com/example/monarc/monarc/Domains" "withOneValue" "I" := slot_ne (Or.inr (wd hw 136 rfl)) (Or.inl (wd hw 172 rfl)) (by decide) (t := (.array .int)) (t' := .int) (by decide) (by decide)
theorem ef_am21_2 (m : MethodId) (x0 : Addr)  : entryFrame m #[(.ref x0)] 1 = mkF m 0 #[.val (.ref x0)] [] := by first | (simp [entryFrame, mkF, argsToLocals, Value.category]; done) | rfl
def Q_am21_2 (Z : State) (a_EMPTY_ELEMENTDATA : Addr) (aw0 : Addr) (ka_EMPTY_ELEMENTDATA : ClassId) (kaw0 : ClassId) (ad1 : Addr) (h0 : Heap) (n0 : Nat) (v : Option Value) (h : Heap) (L : List Loc) : Prop := v = some (.int (100 : Int32)) ∧ Fr n0 L ∧ h = h0
set_option maxRecDepth 65536 in
set_option maxHeartbeats 40000000 in
theorem am21_2 (l : Launch) (Z : State) (a0 : Array Value) (hw : ∀ d ∈ tables_1, d.before a0 Z = true) (ws : List Jvm.Cond) (a_EMPTY_ELEMENTDATA : Addr) (aw0 : Addr) (ka_EMPTY_ELEMENTDATA : ClassId) (kaw0 : ClassId) (HW : Wd Z a_EMPTY_ELEMENTDATA aw0 ka_EMPTY_ELEMENTDATA kaw0) (ad1 : Addr) (h0 : Heap) (n0 : Nat) (Ol : Old Z n0 h0) (HF_ad1_InitialDomain_size : Fld Z h0 ad1 "com/example/monarc/monarc/InitialDomain" "size" "I" (.int (100 : Int32))) :
    MetFree l y_21 (head1 (Jvm.Cond.code y_21 prog_20_method_5_code 1 (some .int) :: ws) ({ frames := 0, cells := 0, slots := 0, locals := 0 } : Room)) (fun a_ U_ => a_ = #[(.ref ad1)] ∧ Z.Warmed39 U_.vm ∧ U_.heap = h0) (fun _ _ _ _ _ => True) (fun _ U_ o_ V_ => ∃ v_ L_, o_ = .returned v_ ∧ Q_am21_2 Z a_EMPTY_ELEMENTDATA aw0 ka_EMPTY_ELEMENTDATA kaw0 ad1 h0 n0 v_ V_.heap L_ ∧ FrameEnd U_ o_ V_ L_ ({ frames := 0, cells := 0, slots := 0, locals := 0 } : Room).cells ({ frames := 0, cells := 0, slots := 0, locals := 0 } : Room).slots) := by
  refine MetFree.of_bodySF (plainFor_of_name pn_0) hisR ?_
  intro p e s m args below meth c s₁ Bd hml0 hP hK
  obtain ⟨rfl, hZ, hh⟩ := hP
  have hx := Bd.exec
  have hby := Bd.bytes
  have hml : c.maxLocals = 1 := hml0
  have hown : s.vm.findClass "com/example/monarc/monarc/InitialDomain" = some m.cls := findClass_of_methodNamed Bd.named
  have hnm := (name_of_methodNamed Bd.named Bd.method).1
  have X0 : Stand p l e ({ frames := 0, cells := 0, slots := 0, locals := 0 } : Room) s m #[(.ref ad1)] below meth c s₁ [] 0 0 := Stand.of_body Bd
  have e0 : s₁.heap = h0 := by rw [← hh, Bd.state]; rfl
  have N0 := Fr.nil n0
  have kp0 := Keep.refl h0 []
  show Go p e below (Fin1 s below (Q_am21_2 Z a_EMPTY_ELEMENTDATA aw0 ka_EMPTY_ELEMENTDATA kaw0 ad1 h0 n0) ({ frames := 0, cells := 0, slots := 0, locals := 0 } : Room).cells ({ frames := 0, cells := 0, slots := 0, locals := 0 } : Room).slots) _
  refine Go.step (fun t_ k_ => castTop (ef_am21_2 m ad1) k_) ?_
  obtain ⟨Ea_EMPTY_ELEMENTDATA, Sa_EMPTY_ELEMENTDATA, Eaw0, Saw0, Aa_EMPTY_ELEMENTDATA, Aaw0⟩ := id HW
  show Go p e below _ (s₁.setTop (mkF m 0 #[.val (.ref ad1)] []))
  refine gs.aloadN X0.here hx (hb hby d21_0) rfl rfl ?_
  refine gs.getF X0 hx hZ hown (wd hw 15 rfl) Via.refl e0 HF_ad1_InitialDomain_size (hb hby d21_1) fun T1 X1 e1 => ?_
  refine Go.retI X1 hx Bd.returns Bd.notSynchronized (hb hby d21_4) (by rw [e1]; exact ⟨rfl, N0, rfl⟩) (by decide) (by decide)
theorem sn54 {a0 : Array Value} {Z : State} (hw : ∀ d ∈ tables_1, d.before a0 Z = true) : Jvm.RoadKit.slotOf Z "com/example/monarc/monarc/Domains" "upper" "[I" ≠ Jvm.RoadKit.slotOf Z "com/example/monarc/monarc/Domains" "withOneValue" "I" := slot_ne (Or.inr (wd hw 130 rfl)) (Or.inl (wd hw 172 rfl)) (by decide) (t := (.array .int)) (t' := .int) (by decide) (by decide)
theorem d14_150 : decode prog_11_method_1_code 150 = .ok (.return_, 1) := by decide +kernel
theorem sn55 {a0 : Array Value} {Z : State} (hw : ∀ d ∈ tables_1, d.before a0 Z = true) : Jvm.RoadKit.slotOf Z "com/example/monarc/monarc/Domains" "holes" "[[J" ≠ Jvm.RoadKit.slotOf Z "com/example/monarc/monarc/Domains" "sizes" "[I" := slot_ne (Or.inr (wd hw 134 rfl)) (Or.inr (wd hw 136 rfl)) (by decide) (t := (.array (.array .long))) (t' := (.array .int)) (by decide) (by decide)
theorem sn56 {a0 : Array Value} {Z : State} (hw : ∀ d ∈ tables_1, d.before a0 Z = true) : Jvm.RoadKit.slotOf Z "com/example/monarc/monarc/Domains" "holes" "[[J" ≠ Jvm.RoadKit.slotOf Z "com/example/monarc/monarc/Domains" "withOneValue" "I" := slot_ne (Or.inr (wd hw 134 rfl)) (Or.inl (wd hw 172 rfl)) (by decide) (t := (.array (.array .long))) (t' := .int) (by decide) (by decide)
theorem sn57 {a0 : Array Value} {Z : State} (hw : ∀ d ∈ tables_1, d.before a0 Z = true) : Jvm.RoadKit.slotOf Z "com/example/monarc/monarc/Domains" "lower" "[I" ≠ Jvm.RoadKit.slotOf Z "com/example/monarc/monarc/Domains" "upper" "[I" := slot_ne (Or.inr (wd hw 128 rfl)) (Or.inr (wd hw 130 rfl)) (by decide) (t := (.array .int)) (t' := (.array .int)) (by decide) (by decide)
theorem sn58 {a0 : Array Value} {Z : State} (hw : ∀ d ∈ tables_1, d.before a0 Z = true) : Jvm.RoadKit.slotOf Z "com/example/monarc/monarc/Domains" "lower" "[I" ≠ Jvm.RoadKit.slotOf Z "com/example/monarc/monarc/Domains" "holes" "[[J" := slot_ne (Or.inr (wd hw 128 rfl)) (Or.inr (wd hw 134 rfl)) (by decide) (t := (.array .int)) (t' := (.array (.array .long))) (by decide) (by decide)
theorem sn59 {a0 : Array Value} {Z : State} (hw : ∀ d ∈ tables_1, d.before a0 Z = true) : Jvm.RoadKit.slotOf Z "com/example/monarc/monarc/Domains" "lower" "[I" ≠ Jvm.RoadKit.slotOf Z "com/example/monarc/monarc/Domains" "sizes" "[I" := slot_ne (Or.inr (wd hw 128 rfl)) (Or.inr (wd hw 136 rfl)) (by decide) (t := (.array .int)) (t' := (.array .int)) (by decide) (by decide)
theorem sn60 {a0 : Array Value} {Z : State} (hw : ∀ d ∈ tables_1, d.before a0 Z = true) : Jvm.RoadKit.slotOf Z "com/example/monarc/monarc/Domains" "lower" "[I" ≠ Jvm.RoadKit.slotOf Z "com/example/monarc/monarc/Domains" "withOneValue" "I" := slot_ne (Or.inr (wd hw 128 rfl)) (Or.inl (wd hw 172 rfl)) (by decide) (t := (.array .int)) (t' := .int) (by decide) (by decide)
theorem sn61 {a0 : Array Value} {Z : State} (hw : ∀ d ∈ tables_1, d.before a0 Z = true) : Jvm.RoadKit.slotOf Z "com/example/monarc/monarc/Domains" "marks" "[I" ≠ Jvm.RoadKit.slotOf Z "com/example/monarc/monarc/Domains" "initial" "[Lcom/example/monarc/monarc/InitialDomain;" := slot_ne (Or.inl (wd hw 113 rfl)) (Or.inr (wd hw 126 rfl)) (by decide) (t := (.array .int)) (t' := (.array (.object "com/example/monarc/monarc/InitialDomain"))) (by decide) (by decide)
theorem sn62 {a0 : Array Value} {Z : State} (hw : ∀ d ∈ tables_1, d.before a0 Z = true) : Jvm.RoadKit.slotOf Z "com/example/monarc/monarc/Domains" "marks" "[I" ≠ Jvm.RoadKit.slotOf Z "com/example/monarc/monarc/Domains" "lower" "[I" := slot_ne (Or.inl (wd hw 113 rfl)) (Or.inr (wd hw 128 rfl)) (by decide) (t := (.array .int)) (t' := (.array .int)) (by decide) (by decide)
theorem sn63 {a0 : Array Value} {Z : State} (hw : ∀ d ∈ tables_1, d.before a0 Z = true) : Jvm.RoadKit.slotOf Z "com/example/monarc/monarc/Domains" "marks" "[I" ≠ Jvm.RoadKit.slotOf Z "com/example/monarc/monarc/Domains" "upper" "[I" := slot_ne (Or.inl (wd hw 113 rfl)) (Or.inr (wd hw 130 rfl)) (by decide) (t := (.array .int)) (t' := (.array .int)) (by decide) (by decide)
theorem sn64 {a0 : Array Value} {Z : State} (hw : ∀ d ∈ tables_1, d.before a0 Z = true) : Jvm.RoadKit.slotOf Z "com/example/monarc/monarc/Domains" "marks" "[I" ≠ Jvm.RoadKit.slotOf Z "com/example/monarc/monarc/Domains" "holes" "[[J" := slot_ne (Or.inl (wd hw 113 rfl)) (Or.inr (wd hw 134 rfl)) (by decide) (t := (.array .int)) (t' := (.array (.array .long))) (by decide) (by decide)
theorem sn65 {a0 : Array Value} {Z : State} (hw : ∀ d ∈ tables_1, d.before a0 Z = true) : Jvm.RoadKit.slotOf Z "com/example/monarc/monarc/Domains" "marks" "[I" ≠ Jvm.RoadKit.slotOf Z "com/example/monarc/monarc/Domains" "sizes" "[I" := slot_ne (Or.inl (wd hw 113 rfl)) (Or.inr (wd hw 136 rfl)) (by decide) (t := (.array .int)) (t' := (.array .int)) (by decide) (by decide)
theorem sn66 {a0 : Array Value} {Z : State} (hw : ∀ d ∈ tables_1, d.before a0 Z = true) : Jvm.RoadKit.slotOf Z "com/example/monarc/monarc/Domains" "marks" "[I" ≠ Jvm.RoadKit.slotOf Z "com/example/monarc/monarc/Domains" "withOneValue" "I" := slot_ne (Or.inl (wd hw 113 rfl)) (Or.inl (wd hw 172 rfl)) (by decide) (t := (.array .int)) (t' := .int) (by decide) (by decide)
theorem sn67 {a0 : Array Value} {Z : State} (hw : ∀ d ∈ tables_1, d.before a0 Z = true) : Jvm.RoadKit.slotOf Z "com/example/monarc/monarc/Domains" "resized" "Ljava/util/function/IntConsumer;" ≠ Jvm.RoadKit.slotOf Z "com/example/monarc/monarc/Domains" "trail" "[J" := slot_ne (Or.inl (wd hw 227 rfl)) (Or.inl (wd hw 110 rfl)) (by decide) (t := (.object "java/util/function/IntConsumer")) (t' := (.array .long)) (by decide) (by decide)
theorem sn68 {a0 : Array Value} {Z : State} (hw : ∀ d ∈ tables_1, d.before a0 Z = true) : Jvm.RoadKit.slotOf Z "com/example/monarc/monarc/Domains" "resized" "Ljava/util/function/IntConsumer;" ≠ Jvm.RoadKit.slotOf Z "com/example/monarc/monarc/Domains" "marks" "[I" := slot_ne (Or.inl (wd hw 227 rfl)) (Or.inl (wd hw 113 rfl)) (by decide) (t := (.object "java/util/function/IntConsumer")) (t' := (.array .int)) (by decide) (by decide)
theorem sn69 {a0 : Array Value} {Z : State} (hw : ∀ d ∈ tables_1, d.before a0 Z = true) : Jvm.RoadKit.slotOf Z "com/example/monarc/monarc/Domains" "resized" "Ljava/util/function/IntConsumer;" ≠ Jvm.RoadKit.slotOf Z "com/example/monarc/monarc/Domains" "initial" "[Lcom/example/monarc/monarc/InitialDomain;" := slot_ne (Or.inl (wd hw 227 rfl)) (Or.inr (wd hw 126 rfl)) (by decide) (t := (.object "java/util/function/IntConsumer")) (t' := (.array (.object "com/example/monarc/monarc/InitialDomain"))) (by decide) (by decide)
theorem sn70 {a0 : Array Value} {Z : State} (hw : ∀ d ∈ tables_1, d.before a0 Z = true) : Jvm.RoadKit.slotOf Z "com/example/monarc/monarc/Domains" "resized" "Ljava/util/function/IntConsumer;" ≠ Jvm.RoadKit.slotOf Z "com/example/monarc/monarc/Domains" "lower" "[I" := slot_ne (Or.inl (wd hw 227 rfl)) (Or.inr (wd hw 128 rfl)) (by decide) (t := (.object "java/util/function/IntConsumer")) (t' := (.array .int)) (by decide) (by decide)
theorem sn71 {a0 : Array Value} {Z : State} (hw : ∀ d ∈ tables_1, d.before a0 Z = true) : Jvm.RoadKit.slotOf Z "com/example/monarc/monarc/Domains" "resized" "Ljava/util/function/IntConsumer;" ≠ Jvm.RoadKit.slotOf Z "com/example/monarc/monarc/Domains" "upper" "[I" := slot_ne (Or.inl (wd hw 227 rfl)) (Or.inr (wd hw 130 rfl)) (by decide) (t := (.object "java/util/function/IntConsumer")) (t' := (.array .int)) (by decide) (by decide)
theorem sn72 {a0 : Array Value} {Z : State} (hw : ∀ d ∈ tables_1, d.before a0 Z = true) : Jvm.RoadKit.slotOf Z "com/example/monarc/monarc/Domains" "resized" "Ljava/util/function/IntConsumer;" ≠ Jvm.RoadKit.slotOf Z "com/example/monarc/monarc/Domains" "holes" "[[J" := slot_ne (Or.inl (wd hw 227 rfl)) (Or.inr (wd hw 134 rfl)) (by decide) (t := (.object "java/util/function/IntConsumer")) (t' := (.array (.array .long))) (by decide) (by decide)
theorem sn73 {a0 : Array Value} {Z : State} (hw : ∀ d ∈ tables_1, d.before a0 Z = true) : Jvm.RoadKit.slotOf Z "com/example/monarc/monarc/Domains" "resized" "Ljava/util/function/IntConsumer;" ≠ Jvm.RoadKit.slotOf Z "com/example/monarc/monarc/Domains" "sizes" "[I" := slot_ne (Or.inl (wd hw 227 rfl)) (Or.inr (wd hw 136 rfl)) (by decide) (t := (.object "java/util/function/IntConsumer")) (t' := (.array .int)) (by decide) (by decide)
theorem sn74 {a0 : Array Value} {Z : State} (hw : ∀ d ∈ tables_1, d.before a0 Z = true) : Jvm.RoadKit.slotOf Z "com/example/monarc/monarc/Domains" "resized" "Ljava/util/function/IntConsumer;" ≠ Jvm.RoadKit.slotOf Z "com/example/monarc/monarc/Domains" "withOneValue" "I" := slot_ne (Or.inl (wd hw 227 rfl)) (Or.inl (wd hw 172 rfl)) (by decide) (t := (.object "java/util/function/IntConsumer")) (t' := .int) (by decide) (by decide)
theorem sn75 {a0 : Array Value} {Z : State} (hw : ∀ d ∈ tables_1, d.before a0 Z = true) : Jvm.RoadKit.slotOf Z "com/example/monarc/monarc/Domains" "trail" "[J" ≠ Jvm.RoadKit.slotOf Z "com/example/monarc/monarc/Domains" "marks" "[I" := slot_ne (Or.inl (wd hw 110 rfl)) (Or.inl (wd hw 113 rfl)) (by decide) (t := (.array .long)) (t' := (.array .int)) (by decide) (by decide)
theorem sn76 {a0 : Array Value} {Z : State} (hw : ∀ d ∈ tables_1, d.before a0 Z = true) : Jvm.RoadKit.slotOf Z "com/example/monarc/monarc/Domains" "trail" "[J" ≠ Jvm.RoadKit.slotOf Z "com/example/monarc/monarc/Domains" "initial" "[Lcom/example/monarc/monarc/InitialDomain;" := slot_ne (Or.inl (wd hw 110 rfl)) (Or.inr (wd hw 126 rfl)) (by decide) (t := (.array .long)) (t' := (.array (.object "com/example/monarc/monarc/InitialDomain"))) (by decide) (by decide)
theorem sn77 {a0 : Array Value} {Z : State} (hw : ∀ d ∈ tables_1, d.before a0 Z = true) : Jvm.RoadKit.slotOf Z "com/example/monarc/monarc/Domains" "trail" "[J" ≠ Jvm.RoadKit.slotOf Z "com/example/monarc/monarc/Domains" "lower" "[I" := slot_ne (Or.inl (wd hw 110 rfl)) (Or.inr (wd hw 128 rfl)) (by decide) (t := (.array .long)) (t' := (.array .int)) (by decide) (by decide)
theorem sn78 {a0 : Array Value} {Z : State} (hw : ∀ d ∈ tables_1, d.before a0 Z = true) : Jvm.RoadKit.slotOf Z "com/example/monarc/monarc/Domains" "trail" "[J" ≠ Jvm.RoadKit.slotOf Z "com/example/monarc/monarc/Domains" "upper" "[I" := slot_ne (Or.inl (wd hw 110 rfl)) (Or.inr (wd hw 130 rfl)) (by decide) (t := (.array .long)) (t' := (.array .int)) (by decide) (by decide)
theorem sn79 {a0 : Array Value} {Z : State} (hw : ∀ d ∈ tables_1, d.before a0 Z = true) : Jvm.RoadKit.slotOf Z "com/example/monarc/monarc/Domains" "trail" "[J" ≠ Jvm.RoadKit.slotOf Z "com/example/monarc/monarc/Domains" "holes" "[[J" := slot_ne (Or.inl (wd hw 110 rfl)) (Or.inr (wd hw 134 rfl)) (by decide) (t := (.array .long)) (t' := (.array (.array .long))) (by decide) (by decide)
theorem sn80 {a0 : Array Value} {Z : State} (hw : ∀ d ∈ tables_1, d.before a0 Z = true) : Jvm.RoadKit.slotOf Z "com/example/monarc/monarc/Domains" "trail" "[J" ≠ Jvm.RoadKit.slotOf Z "com/example/monarc/monarc/Domains" "sizes" "[I" := slot_ne (Or.inl (wd hw 110 rfl)) (Or.inr (wd hw 136 rfl)) (by decide) (t := (.array .long)) (t' := (.array .int)) (by decide) (by decide)
theorem sn81 {a0 : Array Value} {Z : State} (hw : ∀ d ∈ tables_1, d.before a0 Z = true) : Jvm.RoadKit.slotOf Z "com/example/monarc/monarc/Domains" "trail" "[J" ≠ Jvm.RoadKit.slotOf Z "com/example/monarc/monarc/Domains" "withOneValue" "I" := slot_ne (Or.inl (wd hw 110 rfl)) (Or.inl (wd hw 172 rfl)) (by decide) (t := (.array .long)) (t' := .int) (by decide) (by decide)
theorem sn82 {a0 : Array Value} {Z : State} (hw : ∀ d ∈ tables_1, d.before a0 Z = true) : Jvm.RoadKit.slotOf Z "com/example/monarc/monarc/Domains" "trailSize" "I" ≠ Jvm.RoadKit.slotOf Z "com/example/monarc/monarc/Domains" "trail" "[J" := slot_ne (Or.inl (wd hw 225 rfl)) (Or.inl (wd hw 110 rfl)) (by decide) (t := .int) (t' := (.array .long)) (by decide) (by decide)
theorem sn83 {a0 : Array Value} {Z : State} (hw : ∀ d ∈ tables_1, d.before a0 Z = true) : Jvm.RoadKit.slotOf Z "com/example/monarc/monarc/Domains" "trailSize" "I" ≠ Jvm.RoadKit.slotOf Z "com/example/monarc/monarc/Domains" "marks" "[I" := slot_ne (Or.inl (wd hw 225 rfl)) (Or.inl (wd hw 113 rfl)) (by decide) (t := .int) (t' := (.array .int)) (by decide) (by decide)
theorem sn84 {a0 : Array Value} {Z : State} (hw : ∀ d ∈ tables_1, d.before a0 Z = true) : Jvm.RoadKit.slotOf Z "com/example/monarc/monarc/Domains" "trailSize" "I" ≠ Jvm.RoadKit.slotOf Z "com/example/monarc/monarc/Domains" "initial" "[Lcom/example/monarc/monarc/InitialDomain;" := slot_ne (Or.inl (wd hw 225 rfl)) (Or.inr (wd hw 126 rfl)) (by decide) (t := .int) (t' := (.array (.object "com/example/monarc/monarc/InitialDomain"))) (by decide) (by decide)
theorem sn85 {a0 : Array Value} {Z : State} (hw : ∀ d ∈ tables_1, d.before a0 Z = true) : Jvm.RoadKit.slotOf Z "com/example/monarc/monarc/Domains" "trailSize" "I" ≠ Jvm.RoadKit.slotOf Z "com/example/monarc/monarc/Domains" "lower" "[I" := slot_ne (Or.inl (wd hw 225 rfl)) (Or.inr (wd hw 128 rfl)) (by decide) (t := .int) (t' := (.array .int)) (by decide) (by decide)
theorem sn86 {a0 : Array Value} {Z : State} (hw : ∀ d ∈ tables_1, d.before a0 Z = true) : Jvm.RoadKit.slotOf Z "com/example/monarc/monarc/Domains" "trailSize" "I" ≠ Jvm.RoadKit.slotOf Z "com/example/monarc/monarc/Domains" "upper" "[I" := slot_ne (Or.inl (wd hw 225 rfl)) (Or.inr (wd hw 130 rfl)) (by decide) (t := .int) (t' := (.array .int)) (by decide) (by decide)
theorem sn87 {a0 : Array Value} {Z : State} (hw : ∀ d ∈ tables_1, d.before a0 Z = true) : Jvm.RoadKit.slotOf Z "com/example/monarc/monarc/Domains" "trailSize" "I" ≠ Jvm.RoadKit.slotOf Z "com/example/monarc/monarc/Domains" "holes" "[[J" := slot_ne (Or.inl (wd hw 225 rfl)) (Or.inr (wd hw 134 rfl)) (by decide) (t := .int) (t' := (.array (.array .long))) (by decide) (by decide)
theorem sn88 {a0 : Array Value} {Z : State} (hw : ∀ d ∈ tables_1, d.before a0 Z = true) : Jvm.RoadKit.slotOf Z "com/example/monarc/monarc/Domains" "trailSize" "I" ≠ Jvm.RoadKit.slotOf Z "com/example/monarc/monarc/Domains" "sizes" "[I" := slot_ne (Or.inl (wd hw 225 rfl)) (Or.inr (wd hw 136 rfl)) (by decide) (t := .int) (t' := (.array .int)) (by decide) (by decide)
theorem sn89 {a0 : Array Value} {Z : State} (hw : ∀ d ∈ tables_1, d.before a0 Z = true) : Jvm.RoadKit.slotOf Z "com/example/monarc/monarc/Domains" "trailSize" "I" ≠ Jvm.RoadKit.slotOf Z "com/example/monarc/monarc/Domains" "withOneValue" "I" := slot_ne (Or.inl (wd hw 225 rfl)) (Or.inl (wd hw 172 rfl)) (by decide) (t := .int) (t' := .int) (by decide) (by decide)
theorem pn_8 : plainName "com/example/monarc/monarc/Domains" = true := by first | (simp [plainName, overriddenIn]; done) | decide +kernel
theorem ef_am14_1 (m : MethodId) (x0 : Addr) (x1 : Addr)  : entryFrame m #[(.ref x0), (.ref x1)] 4 = mkF m 0 #[.val (.ref x0), .val (.ref x1), .unset, .unset] [] := by first | (simp [entryFrame, mkF, argsToLocals, Value.category]; done) | rfl
def Q_am14_1 (Z : State) (a_EMPTY_ELEMENTDATA : Addr) (aw0 : Addr) (ka_EMPTY_ELEMENTDATA : ClassId) (kaw0 : ClassId) (ad1 : Addr) (ad2 : Addr) (ad3 : Addr) (ad4 : Addr) (ad5 : Addr) (ad6 : Addr) (kc1 : ClassId) (ad8 : Addr) (h0 : Heap) (n0 : Nat) (v : Option Value) (h : Heap) (L : List Loc) : Prop := ∃ fr1 : Addr, ∃ fr2 : Addr, ∃ fr3 : Addr, ∃ fr4 : Addr, ∃ fr5 : Addr, ∃ fr6 : Addr, ∃ fr7 : Addr, ∃ kx1 : ClassId, ∃ kx2 : ClassId, ∃ kx3 : ClassId, ∃ kx4 : ClassId, ∃ kx5 : ClassId, ∃ kx6 : ClassId, ∃ kx7 : ClassId, v = none ∧ h0.size ≤ fr1 ∧ h0.size ≤ fr2 ∧ h0.size ≤ fr3 ∧ h0.size ≤ fr4 ∧ h0.size ≤ fr5 ∧ h0.size ≤ fr6 ∧ h0.size ≤ fr7 ∧ fr1 ≠ fr2 ∧ fr1 ≠ fr3 ∧ fr1 ≠ fr4 ∧ fr1 ≠ fr5 ∧ fr1 ≠ fr6 ∧ fr1 ≠ fr7 ∧ fr2 ≠ fr3 ∧ fr2 ≠ fr4 ∧ fr2 ≠ fr5 ∧ fr2 ≠ fr6 ∧ fr2 ≠ fr7 ∧ fr3 ≠ fr4 ∧ fr3 ≠ fr5 ∧ fr3 ≠ fr6 ∧ fr3 ≠ fr7 ∧ fr4 ≠ fr5 ∧ fr4 ≠ fr6 ∧ fr4 ≠ fr7 ∧ fr5 ≠ fr6 ∧ fr5 ≠ fr7 ∧ fr6 ≠ fr7 ∧ Fr n0 L ∧ Keep h0 h [ad1] ∧ (Exa Z h ad1 "com/example/monarc/monarc/Domains") ∧ (Fld Z h ad1 "com/example/monarc/monarc/Domains" "holes" "[[J" (.ref fr1)) ∧ (Fld Z h ad1 "com/example/monarc/monarc/Domains" "initial" "[Lcom/example/monarc/monarc/InitialDomain;" (.ref fr2)) ∧ (Fld Z h ad1 "com/example/monarc/monarc/Domains" "lower" "[I" (.ref fr3)) ∧ (Fld Z h ad1 "com/example/monarc/monarc/Domains" "marks" "[I" (.ref fr4)) ∧ (Fld Z h ad1 "com/example/monarc/monarc/Domains" "resized" "Ljava/util/function/IntConsumer;" .null) ∧ (Fld Z h ad1 "com/example/monarc/monarc/Domains" "sizes" "[I" (.ref fr5)) ∧ (Fld Z h ad1 "com/example/monarc/monarc/Domains" "trail" "[J" (.ref fr6)) ∧ (Fld Z h ad1 "com/example/monarc/monarc/Domains" "trailSize" "I" (.int (0 : Int32))) ∧ (Fld Z h ad1 "com/example/monarc/monarc/Domains" "upper" "[I" (.ref fr7)) ∧ (Fld Z h ad1 "com/example/monarc/monarc/Domains" "withOneValue" "I" (.int (0 : Int32))) ∧ (Exa Z h fr1 "[[J") ∧ (Arv Z h fr1 kx1 (.array .long) (2 : Int32) [.null, .null] .null) ∧ (Arv Z h fr2 kx2 (.object "com/example/monarc/monarc/InitialDomain") (2 : Int32) [(.ref ad3), (.ref ad4)] .null) ∧ (Arv Z h fr3 kx3 .int (2 : Int32) [(.int (0 : Int32)), (.int (0 : Int32))] (.int (0 : Int32))) ∧ (Arv Z h fr4 kx4 .int (64 : Int32) [] (.int (0 : Int32))) ∧ (Arv Z h fr5 kx5 .int (2 : Int32) [(.int (200 : Int32)), (.int (100 : Int32))] (.int (0 : Int32))) ∧ (Exa Z h fr6 "[J") ∧ (Arv Z h fr6 kx6 .long (1024 : Int32) [] (.long (0 : Int64))) ∧ (Arv Z h fr7 kx7 .int (2 : Int32) [(.int (199 : Int32)), (.int (99 : Int32))] (.int (0 : Int32))) ∧ (OvrA Z kx1 .long "[J") ∧ (Ovr Z kx2 "com/example/monarc/monarc/InitialDomain")
set_option maxRecDepth 65536 in
set_option maxHeartbeats 40000000 in
theorem am14_1 (l : Launch) (Z : State) (a0 : Array Value) (hw : ∀ d ∈ tables_1, d.before a0 Z = true) (ws : List Jvm.Cond) (a_EMPTY_ELEMENTDATA : Addr) (aw0 : Addr) (ka_EMPTY_ELEMENTDATA : ClassId) (kaw0 : ClassId) (HW : Wd Z a_EMPTY_ELEMENTDATA aw0 ka_EMPTY_ELEMENTDATA kaw0) (ad1 : Addr) (ad2 : Addr) (ad3 : Addr) (ad4 : Addr) (ad5 : Addr) (ad6 : Addr) (kc1 : ClassId) (ad8 : Addr) (h0 : Heap) (n0 : Nat) (Ol : Old Z n0 h0) (HE_ad3 : Exa Z h0 ad3 "com/example/monarc/monarc/InitialDomain") (HF_ad3_InitialDomain_size : Fld Z h0 ad3 "com/example/monarc/monarc/InitialDomain" "size" "I" (.int (200 : Int32))) (HE_ad4 : Exa Z h0 ad4 "com/example/monarc/monarc/InitialDomain") (HF_ad4_InitialDomain_size : Fld Z h0 ad4 "com/example/monarc/monarc/InitialDomain" "size" "I" (.int (100 : Int32))) (HE_ad2 : Exa Z h0 ad2 "java/util/ArrayList") (HF_ad2_ArrayList_elementData : Fld Z h0 ad2 "java/util/ArrayList" "elementData" "[Ljava/lang/Object;" (.ref ad5)) (HF_ad2_ArrayList_size : Fld Z h0 ad2 "java/util/ArrayList" "size" "I" (.int (2 : Int32))) (HE_ad6 : Exa Z h0 ad6 "com/example/monarc/monarc/Variable") (HF_ad6_Variable_domain : Fld Z h0 ad6 "com/example/monarc/monarc/Variable" "domain" "Lcom/example/monarc/monarc/InitialDomain;" (.ref ad3)) (HV_ad5 : Arv Z h0 ad5 kc1 (.object "java/lang/Object") (10 : Int32) [(.ref ad6), (.ref ad8), .null, .null, .null, .null, .null, .null, .null, .null] .null) (HE_ad8 : Exa Z h0 ad8 "com/example/monarc/monarc/Variable") (HF_ad8_Variable_domain : Fld Z h0 ad8 "com/example/monarc/monarc/Variable" "domain" "Lcom/example/monarc/monarc/InitialDomain;" (.ref ad4)) (HE_ad1 : Exa Z h0 ad1 "com/example/monarc/monarc/Domains") (HF_ad1_Domains_trail : Fld Z h0 ad1 "com/example/monarc/monarc/Domains" "trail" "[J" .null) (HF_ad1_Domains_marks : Fld Z h0 ad1 "com/example/monarc/monarc/Domains" "marks" "[I" .null) (HF_ad1_Domains_initial : Fld Z h0 ad1 "com/example/monarc/monarc/Domains" "initial" "[Lcom/example/monarc/monarc/InitialDomain;" .null) (HF_ad1_Domains_lower : Fld Z h0 ad1 "com/example/monarc/monarc/Domains" "lower" "[I" .null) (HF_ad1_Domains_upper : Fld Z h0 ad1 "com/example/monarc/monarc/Domains" "upper" "[I" .null) (HF_ad1_Domains_holes : Fld Z h0 ad1 "com/example/monarc/monarc/Domains" "holes" "[[J" .null) (HF_ad1_Domains_sizes : Fld Z h0 ad1 "com/example/monarc/monarc/Domains" "sizes" "[I" .null) (HF_ad1_Domains_withOneValue : Fld Z h0 ad1 "com/example/monarc/monarc/Domains" "withOneValue" "I" (.int (0 : Int32))) (HF_ad1_Domains_trailSize : Fld Z h0 ad1 "com/example/monarc/monarc/Domains" "trailSize" "I" (.int (0 : Int32))) (HF_ad1_Domains_resized : Fld Z h0 ad1 "com/example/monarc/monarc/Domains" "resized" "Ljava/util/function/IntConsumer;" .null) (nn_ad1 : n0 ≤ ad1) (ne_ad1_ad2 : ad1 ≠ ad2) (ne_ad1_ad3 : ad1 ≠ ad3) (ne_ad1_ad4 : ad1 ≠ ad4) (ne_ad1_ad5 : ad1 ≠ ad5) (ne_ad1_ad6 : ad1 ≠ ad6) (ne_ad1_ad8 : ad1 ≠ ad8) (hO_ad5 : Ovr Z kc1 "java/lang/Object") :
    MetFree l y_14 (head1 (Jvm.Cond.code y_14 prog_11_method_1_code 4 none :: ws) ({ frames := 3, cells := 7, slots := 1098, locals := 42 } : Room)) (fun a_ U_ => a_ = #[(.ref ad1), (.ref ad2)] ∧ Z.Warmed39 U_.vm ∧ U_.heap = h0) (fun _ _ _ _ _ => True) (fun _ U_ o_ V_ => ∃ v_ L_, o_ = .returned v_ ∧ Q_am14_1 Z a_EMPTY_ELEMENTDATA aw0 ka_EMPTY_ELEMENTDATA kaw0 ad1 ad2 ad3 ad4 ad5 ad6 kc1 ad8 h0 n0 v_ V_.heap L_ ∧ FrameEnd U_ o_ V_ L_ ({ frames := 3, cells := 7, slots := 1098, locals := 42 } : Room).cells ({ frames := 3, cells := 7, slots := 1098, locals := 42 } : Room).slots) := by
  refine MetFree.of_bodySF (plainFor_of_name pn_8) hisR ?_
  intro p e s m args below meth c s₁ Bd hml0 hP hK
  obtain ⟨rfl, hZ, hh⟩ := hP
  have hx := Bd.exec
  have hby := Bd.bytes
  have hml : c.maxLocals = 4 := hml0
  have hown : s.vm.findClass "com/example/monarc/monarc/Domains" = some m.cls := findClass_of_methodNamed Bd.named
  have hnm := (name_of_methodNamed Bd.named Bd.method).1
  have X0 : Stand p l e ({ frames := 3, cells := 7, slots := 1098, locals := 42 } : Room) s m #[(.ref ad1), (.ref ad2)] below meth c s₁ [] 0 0 := Stand.of_body Bd
  have e0 : s₁.heap = h0 := by rw [← hh, Bd.state]; rfl
  have N0 := Fr.nil n0
  have kp0 := Keep.refl h0 [ad1]
  show Go p e below (Fin1 s below (Q_am14_1 Z a_EMPTY_ELEMENTDATA aw0 ka_EMPTY_ELEMENTDATA kaw0 ad1 ad2 ad3 ad4 ad5 ad6 kc1 ad8 h0 n0) ({ frames := 3, cells := 7, slots := 1098, locals := 42 } : Room).cells ({ frames := 3, cells := 7, slots := 1098, locals := 42 } : Room).slots) _
  refine Go.step (fun t_ k_ => castTop (ef_am14_1 m ad1 ad2) k_) ?_
  obtain ⟨Ea_EMPTY_ELEMENTDATA, Sa_EMPTY_ELEMENTDATA, Eaw0, Saw0, Aa_EMPTY_ELEMENTDATA, Aaw0⟩ := id HW
  show Go p e below _ (s₁.setTop (mkF m 0 #[.val (.ref ad1), .val (.ref ad2), .unset, .unset] []))
  refine gs.aloadN X0.here hx (hb hby d14_0) rfl rfl ?_
  obtain ⟨T1, X1, e1, st1⟩ := initO X0 hx hZ hown (wd hw 107 rfl) (wd hw 10 rfl) (wd hw 11 rfl) e0 (g := (mkF m 1 #[.val (.ref ad1), .val (.ref ad2), .unset, .unset] [(.ref ad1)])) rfl (by rw [hml]; rfl) rfl (hb hby d14_1) (by decide) (W := 0) (by show 2 * 0 + _ ≤ _; exact Nat.le_of_eq rfl) (by decide)
  refine Go.step st1 ?_
  show Go p e below _ (T1.setTop (mkF m 4 #[.val (.ref ad1), .val (.ref ad2), .unset, .unset] []))
  refine gs.aloadN X1.here hx (hb hby d14_4) rfl rfl ?_
  refine gs.sipush 1024 X1.here hx (hb hby d14_5) rfl ?_
  obtain ⟨T2, h2, k2, X2, e2, E2, A2, B2, st2⟩ := newPE X1 hx hZ (wd hw 108 rfl) e1 (g := (mkF m 8 #[.val (.ref ad1), .val (.ref ad2), .unset, .unset] [(.int (1024 : Int32)), (.ref ad1)])) rfl (hb hby d14_8) rfl (by decide) (cap := 1024) (by decide) (by decide) (by decide) (by decide) (ad := "[J") (by decide)
  obtain ⟨b2, g2⟩ : ∃ z, z = h0.size := ⟨_, rfl⟩
  rw [← g2] at A2 B2 st2
  have nn_b2 : n0 ≤ b2 := Nat.le_trans (old_z0 Ol) (Nat.le_of_eq g2.symm)
  have sz_b2 : h0.size ≤ b2 := Nat.le_trans kp0.1 (Nat.le_of_eq g2.symm)
  have old2 := Ol.ext E2
  have kp2 := kp0.ext E2
  have V2 : Arv Z h2 b2 k2 .long (1024 : Int32) [] (.long (0 : Int64)) := (Arv.new A2 (by decide)).pad (pad_rep [] (.long (0 : Int64)) 0)
  refine Go.step st2 ?_
  show Go p e below _ (T2.setTop (mkF m 10 #[.val (.ref ad1), .val (.ref ad2), .unset, .unset] [(.ref b2), (.ref ad1)]))
  have f3 := (HF_ad1_Domains_trail.ext E2)
  have f4 := (HE_ad1.ext E2)
  obtain ⟨T5, h5, X5, e5, W5, st5⟩ := putF X2 hx hZ hown (host := "") (Or.inl (wd hw 109 rfl)) Via.refl e2 f3 f4 (Or.inl (wd hw 110 rfl)) (wd hw 102 rfl) (ty := (.array .long)) (by decide) rfl rfl (g := (mkF m 10 #[.val (.ref ad1), .val (.ref ad2), .unset, .unset] [(.ref b2), (.ref ad1)])) rfl rfl (hb hby d14_10)
  have N5 := Fr.snoc X5 N0 nn_ad1
  have old5 := old2.wr W5 nn_ad1
  have kp5 := kp2.wr W5 (Or.inl (List.mem_of_getElem? (i := 0) rfl))
  have F5 := f3.same W5
  refine Go.step st5 ?_
  show Go p e below _ (T5.setTop (mkF m 13 #[.val (.ref ad1), .val (.ref ad2), .unset, .unset] []))
  refine gs.aloadN X5.here hx (hb hby d14_13) rfl rfl ?_
  refine gs.bipush 64 X5.here hx (hb hby d14_14) rfl ?_
  obtain ⟨T6, h6, k6, X6, e6, E6, A6, st6⟩ := newP X5 hx hZ (wd hw 111 rfl) e5 (g := (mkF m 16 #[.val (.ref ad1), .val (.ref ad2), .unset, .unset] [(.int (64 : Int32)), (.ref ad1)])) rfl (hb hby d14_16) rfl (by decide) (cap := 64) (by decide) (by decide) (by decide) (by decide)
  obtain ⟨b6, g6⟩ : ∃ z, z = h5.size := ⟨_, rfl⟩
  rw [← g6] at A6 st6
  have nn_b6 : n0 ≤ b6 := Nat.le_trans (old_z0 old5) (Nat.le_of_eq g6.symm)
  have sz_b6 : h0.size ≤ b6 := Nat.le_trans kp5.1 (Nat.le_of_eq g6.symm)
  have old6 := old5.ext E6
  have kp6 := kp5.ext E6
  have V6 : Arv Z h6 b6 k6 .int (64 : Int32) [] (.int (0 : Int32)) := (Arv.new A6 (by decide)).pad (pad_rep [] (.int (0 : Int32)) 0)
  refine Go.step st6 ?_
  show Go p e below _ (T6.setTop (mkF m 18 #[.val (.ref ad1), .val (.ref ad2), .unset, .unset] [(.ref b6), (.ref ad1)]))
  have f7 := (((HF_ad1_Domains_marks.ext E2).other W5 (Or.inr (sn18 hw))).ext E6)
  have f8 := ((f4.wr W5).ext E6)
  obtain ⟨T9, h9, X9, e9, W9, st9⟩ := putF X6 hx hZ hown (host := "") (Or.inl (wd hw 112 rfl)) Via.refl e6 f7 f8 (Or.inl (wd hw 113 rfl)) (wd hw 102 rfl) (ty := (.array .int)) (by decide) rfl rfl (g := (mkF m 18 #[.val (.ref ad1), .val (.ref ad2), .unset, .unset] [(.ref b6), (.ref ad1)])) rfl rfl (hb hby d14_18)
  have N9 := Fr.snoc X9 N5 nn_ad1
  have old9 := old6.wr W9 nn_ad1
  have kp9 := kp6.wr W9 (Or.inl (List.mem_of_getElem? (i := 0) rfl))
  have F9 := f7.same W9
  refine Go.step st9 ?_
  show Go p e below _ (T9.setTop (mkF m 21 #[.val (.ref ad1), .val (.ref ad2), .unset, .unset] []))
  refine gs.aloadN X9.here hx (hb hby d14_21) rfl rfl ?_
  have f10 := ((((HE_ad2.ext E2).wr W5).ext E6).wr W9)
  have f11 := ((((HF_ad2_ArrayList_size.ext E2).other W5 (Or.inl (Ne.symm ne_ad1_ad2))).ext E6).other W9 (Or.inl (Ne.symm ne_ad1_ad2)))
  obtain ⟨cq12, kq12, q12a, q12b, q12c⟩ := isOf hZ e9 f10
  obtain ⟨_, _, ⟨T12, L12, k12, n12⟩, -, X12, ⟨Lc12, hQ12, l12, y12, z12⟩, st12⟩ := X9.interfaceBack hx (xi := (⟨"java/util/List", "size", "()I"⟩ : MethodName)) (y := y_15) hown (mvT hZ (wd hw 114 rfl)) (mvT hZ (wd hw 115 rfl)) (mvT hZ (wd hw 116 rfl)) (mvT hZ (wd hw 117 rfl)) (mvT hZ (wd hw 118 rfl)) (mvT hZ (wd hw 119 rfl)) (mvT hZ (wd hw 120 rfl)) (mvT hZ (wd hw 121 rfl)) (by decide) (backOf (W := 0) (am15_1 l Z a0 hw [] a_EMPTY_ELEMENTDATA aw0 ka_EMPTY_ELEMENTDATA kaw0 HW (ad2) h9 n0 old9 f11) hZ (wd hw 122 rfl) (wd hw 21 rfl) (by decide) (by decide)) q12a q12b q12c (g := (mkF m 22 #[.val (.ref ad1), .val (.ref ad2), .unset, .unset] [(.ref ad2)])) rfl (by rw [hml]; rfl) (Steps.refl _) (argsL := []) (rest := []) (lenOf pd_9 rfl) rfl (by show 2 * 0 + _ ≤ _; exact Nat.le_of_eq rfl) (hb hby d14_22) (fun _ _ => ⟨rfl, e9, (by decide : 2 + 0 ≤ _), (by decide : 1088 + 0 ≤ _)⟩)
  dsimp only [Pt.U, Pt.locs, Pt.cells, Pt.slots] at X12 l12 y12 z12 st12 hQ12
  subst l12 y12 z12
  obtain ⟨rfl, Nq12, e12⟩ := hQ12
  have N12 := Fr.app N9 Nq12
  refine Go.step (fun t_ k_ => st12.trans k_) ?_
  show Go p e below _ (T12.setTop (mkF m 27 #[.val (.ref ad1), .val (.ref ad2), .unset, .unset] [(.int (2 : Int32))]))
  refine gs.istoreN X12.here hx (hb hby d14_27) (l' := #[.val (.ref ad1), .val (.ref ad2), .val (.int (2 : Int32)), .unset]) rfl ?_
  refine gs.aloadN X12.here hx (hb hby d14_28) rfl rfl ?_
  refine gs.iloadN X12.here hx (hb hby d14_29) rfl ?_
  obtain ⟨T13, h13, k13, X13, e13, E13, A13, O13, st13⟩ := newR X12 hx hZ hown (wd hw 123 rfl) (wd hw 124 rfl) e12 (g := (mkF m 30 #[.val (.ref ad1), .val (.ref ad2), .val (.int (2 : Int32)), .unset] [(.int (2 : Int32)), (.ref ad1)])) rfl (hb hby d14_30) rfl (by decide) (cap := 2) (by decide) (by decide) (by decide) (by decide)
  obtain ⟨b13, g13⟩ : ∃ z, z = h9.size := ⟨_, rfl⟩
  rw [← g13] at A13 st13
  have nn_b13 : n0 ≤ b13 := Nat.le_trans (old_z0 old9) (Nat.le_of_eq g13.symm)
  have sz_b13 : h0.size ≤ b13 := Nat.le_trans kp9.1 (Nat.le_of_eq g13.symm)
  have old13 := old9.ext E13
  have kp13 := kp9.ext E13
  have V13 : Arv Z h13 b13 k13 (.object "com/example/monarc/monarc/InitialDomain") (2 : Int32) [.null, .null] .null := (Arv.new A13 (by decide)).pad (pad_rep [] .null 2)
  refine Go.step st13 ?_
  show Go p e below _ (T13.setTop (mkF m 33 #[.val (.ref ad1), .val (.ref ad2), .val (.int (2 : Int32)), .unset] [(.ref b13), (.ref ad1)]))
  have f14 := (((((HF_ad1_Domains_initial.ext E2).other W5 (Or.inr (sn19 hw))).ext E6).other W9 (Or.inr (sn20 hw))).ext E13)
  have f15 := ((f8.wr W9).ext E13)
  obtain ⟨T16, h16, X16, e16, W16, st16⟩ := putF X13 hx hZ hown (host := "") (Or.inl (wd hw 125 rfl)) Via.refl e13 f14 f15 (Or.inr ⟨(wd hw 126 rfl), rfl, hnm⟩) (wd hw 102 rfl) (ty := (.array (.object "com/example/monarc/monarc/InitialDomain"))) (by decide) rfl rfl (g := (mkF m 33 #[.val (.ref ad1), .val (.ref ad2), .val (.int (2 : Int32)), .unset] [(.ref b13), (.ref ad1)])) rfl rfl (hb hby d14_33)
  have N16 := Fr.snoc X16 N12 nn_ad1
  have old16 := old13.wr W16 nn_ad1
  have kp16 := kp13.wr W16 (Or.inl (List.mem_of_getElem? (i := 0) rfl))
  have F16 := f14.same W16
  refine Go.step st16 ?_
  show Go p e below _ (T16.setTop (mkF m 36 #[.val (.ref ad1), .val (.ref ad2), .val (.int (2 : Int32)), .unset] []))
  refine gs.aloadN X16.here hx (hb hby d14_36) rfl rfl ?_
  refine gs.iloadN X16.here hx (hb hby d14_37) rfl ?_
  obtain ⟨T17, h17, k17, X17, e17, E17, A17, st17⟩ := newP X16 hx hZ (wd hw 111 rfl) e16 (g := (mkF m 38 #[.val (.ref ad1), .val (.ref ad2), .val (.int (2 : Int32)), .unset] [(.int (2 : Int32)), (.ref ad1)])) rfl (hb hby d14_38) rfl (by decide) (cap := 2) (by decide) (by decide) (by decide) (by decide)
  obtain ⟨b17, g17⟩ : ∃ z, z = h16.size := ⟨_, rfl⟩
  rw [← g17] at A17 st17
  have nn_b17 : n0 ≤ b17 := Nat.le_trans (old_z0 old16) (Nat.le_of_eq g17.symm)
  have sz_b17 : h0.size ≤ b17 := Nat.le_trans kp16.1 (Nat.le_of_eq g17.symm)
  have old17 := old16.ext E17
  have kp17 := kp16.ext E17
  have V17 : Arv Z h17 b17 k17 .int (2 : Int32) [(.int (0 : Int32)), (.int (0 : Int32))] (.int (0 : Int32)) := (Arv.new A17 (by decide)).pad (pad_rep [] (.int (0 : Int32)) 2)
  refine Go.step st17 ?_
  show Go p e below _ (T17.setTop (mkF m 40 #[.val (.ref ad1), .val (.ref ad2), .val (.int (2 : Int32)), .unset] [(.ref b17), (.ref ad1)]))
  have f18 := (((((((HF_ad1_Domains_lower.ext E2).other W5 (Or.inr (sn21 hw))).ext E6).other W9 (Or.inr (sn22 hw))).ext E13).other W16 (Or.inr (sn23 hw))).ext E17)
  have f19 := ((f15.wr W16).ext E17)
  obtain ⟨T20, h20, X20, e20, W20, st20⟩ := putF X17 hx hZ hown (host := "") (Or.inl (wd hw 127 rfl)) Via.refl e17 f18 f19 (Or.inr ⟨(wd hw 128 rfl), rfl, hnm⟩) (wd hw 102 rfl) (ty := (.array .int)) (by decide) rfl rfl (g := (mkF m 40 #[.val (.ref ad1), .val (.ref ad2), .val (.int (2 : Int32)), .unset] [(.ref b17), (.ref ad1)])) rfl rfl (hb hby d14_40)
  have N20 := Fr.snoc X20 N16 nn_ad1
  have old20 := old17.wr W20 nn_ad1
  have kp20 := kp17.wr W20 (Or.inl (List.mem_of_getElem? (i := 0) rfl))
  have F20 := f18.same W20
  refine Go.step st20 ?_
  show Go p e below _ (T20.setTop (mkF m 43 #[.val (.ref ad1), .val (.ref ad2), .val (.int (2 : Int32)), .unset] []))
  refine gs.aloadN X20.here hx (hb hby d14_43) rfl rfl ?_
  refine gs.iloadN X20.here hx (hb hby d14_44) rfl ?_
  obtain ⟨T21, h21, k21, X21, e21, E21, A21, st21⟩ := newP X20 hx hZ (wd hw 111 rfl) e20 (g := (mkF m 45 #[.val (.ref ad1), .val (.ref ad2), .val (.int (2 : Int32)), .unset] [(.int (2 : Int32)), (.ref ad1)])) rfl (hb hby d14_45) rfl (by decide) (cap := 2) (by decide) (by decide) (by decide) (by decide)
  obtain ⟨b21, g21⟩ : ∃ z, z = h20.size := ⟨_, rfl⟩
  rw [← g21] at A21 st21
  have nn_b21 : n0 ≤ b21 := Nat.le_trans (old_z0 old20) (Nat.le_of_eq g21.symm)
  have sz_b21 : h0.size ≤ b21 := Nat.le_trans kp20.1 (Nat.le_of_eq g21.symm)
  have old21 := old20.ext E21
  have kp21 := kp20.ext E21
  have V21 : Arv Z h21 b21 k21 .int (2 : Int32) [(.int (0 : Int32)), (.int (0 : Int32))] (.int (0 : Int32)) := (Arv.new A21 (by decide)).pad (pad_rep [] (.int (0 : Int32)) 2)
  refine Go.step st21 ?_
  show Go p e below _ (T21.setTop (mkF m 47 #[.val (.ref ad1), .val (.ref ad2), .val (.int (2 : Int32)), .unset] [(.ref b21), (.ref ad1)]))
  have f22 := (((((((((HF_ad1_Domains_upper.ext E2).other W5 (Or.inr (sn24 hw))).ext E6).other W9 (Or.inr (sn25 hw))).ext E13).other W16 (Or.inr (sn26 hw))).ext E17).other W20 (Or.inr (sn27 hw))).ext E21)
  have f23 := ((f19.wr W20).ext E21)
  obtain ⟨T24, h24, X24, e24, W24, st24⟩ := putF X21 hx hZ hown (host := "") (Or.inl (wd hw 129 rfl)) Via.refl e21 f22 f23 (Or.inr ⟨(wd hw 130 rfl), rfl, hnm⟩) (wd hw 102 rfl) (ty := (.array .int)) (by decide) rfl rfl (g := (mkF m 47 #[.val (.ref ad1), .val (.ref ad2), .val (.int (2 : Int32)), .unset] [(.ref b21), (.ref ad1)])) rfl rfl (hb hby d14_47)
  have N24 := Fr.snoc X24 N20 nn_ad1
  have old24 := old21.wr W24 nn_ad1
  have kp24 := kp21.wr W24 (Or.inl (List.mem_of_getElem? (i := 0) rfl))
  have F24 := f22.same W24
  refine Go.step st24 ?_
  show Go p e below _ (T24.setTop (mkF m 50 #[.val (.ref ad1), .val (.ref ad2), .val (.int (2 : Int32)), .unset] []))
  refine gs.aloadN X24.here hx (hb hby d14_50) rfl rfl ?_
  refine gs.iloadN X24.here hx (hb hby d14_51) rfl ?_
  obtain ⟨T25, h25, k25, X25, e25, E25, A25, B25, O25, st25⟩ := newRA X24 hx hZ (ty := .long) hown (by decide) (wd hw 131 rfl) (wd hw 132 rfl) e24 (g := (mkF m 52 #[.val (.ref ad1), .val (.ref ad2), .val (.int (2 : Int32)), .unset] [(.int (2 : Int32)), (.ref ad1)])) rfl (hb hby d14_52) rfl (by decide) (cap := 2) (by decide) (by decide) (by decide) (by decide) (ad := "[[J") (by decide)
  obtain ⟨b25, g25⟩ : ∃ z, z = h24.size := ⟨_, rfl⟩
  rw [← g25] at A25 B25 st25
  have nn_b25 : n0 ≤ b25 := Nat.le_trans (old_z0 old24) (Nat.le_of_eq g25.symm)
  have sz_b25 : h0.size ≤ b25 := Nat.le_trans kp24.1 (Nat.le_of_eq g25.symm)
  have old25 := old24.ext E25
  have kp25 := kp24.ext E25
  have V25 : Arv Z h25 b25 k25 (.array .long) (2 : Int32) [.null, .null] .null := (Arv.new A25 (by decide)).pad (pad_rep [] .null 2)
  refine Go.step st25 ?_
  show Go p e below _ (T25.setTop (mkF m 55 #[.val (.ref ad1), .val (.ref ad2), .val (.int (2 : Int32)), .unset] [(.ref b25), (.ref ad1)]))
  have f26 := (((((((((((HF_ad1_Domains_holes.ext E2).other W5 (Or.inr (sn28 hw))).ext E6).other W9 (Or.inr (sn29 hw))).ext E13).other W16 (Or.inr (sn30 hw))).ext E17).other W20 (Or.inr (sn31 hw))).ext E21).other W24 (Or.inr (sn32 hw))).ext E25)
  have f27 := ((f23.wr W24).ext E25)
  obtain ⟨T28, h28, X28, e28, W28, st28⟩ := putF X25 hx hZ hown (host := "") (Or.inl (wd hw 133 rfl)) Via.refl e25 f26 f27 (Or.inr ⟨(wd hw 134 rfl), rfl, hnm⟩) (wd hw 102 rfl) (ty := (.array (.array .long))) (by decide) rfl rfl (g := (mkF m 55 #[.val (.ref ad1), .val (.ref ad2), .val (.int (2 : Int32)), .unset] [(.ref b25), (.ref ad1)])) rfl rfl (hb hby d14_55)
  have N28 := Fr.snoc X28 N24 nn_ad1
  have old28 := old25.wr W28 nn_ad1
  have kp28 := kp25.wr W28 (Or.inl (List.mem_of_getElem? (i := 0) rfl))
  have F28 := f26.same W28
  refine Go.step st28 ?_
  show Go p e below _ (T28.setTop (mkF m 58 #[.val (.ref ad1), .val (.ref ad2), .val (.int (2 : Int32)), .unset] []))
  refine gs.aloadN X28.here hx (hb hby d14_58) rfl rfl ?_
  refine gs.iloadN X28.here hx (hb hby d14_59) rfl ?_
  obtain ⟨T29, h29, k29, X29, e29, E29, A29, st29⟩ := newP X28 hx hZ (wd hw 111 rfl) e28 (g := (mkF m 60 #[.val (.ref ad1), .val (.ref ad2), .val (.int (2 : Int32)), .unset] [(.int (2 : Int32)), (.ref ad1)])) rfl (hb hby d14_60) rfl (by decide) (cap := 2) (by decide) (by decide) (by decide) (by decide)
  obtain ⟨b29, g29⟩ : ∃ z, z = h28.size := ⟨_, rfl⟩
  rw [← g29] at A29 st29
  have nn_b29 : n0 ≤ b29 := Nat.le_trans (old_z0 old28) (Nat.le_of_eq g29.symm)
  have sz_b29 : h0.size ≤ b29 := Nat.le_trans kp28.1 (Nat.le_of_eq g29.symm)
  have old29 := old28.ext E29
  have kp29 := kp28.ext E29
  have V29 : Arv Z h29 b29 k29 .int (2 : Int32) [(.int (0 : Int32)), (.int (0 : Int32))] (.int (0 : Int32)) := (Arv.new A29 (by decide)).pad (pad_rep [] (.int (0 : Int32)) 2)
  refine Go.step st29 ?_
  show Go p e below _ (T29.setTop (mkF m 62 #[.val (.ref ad1), .val (.ref ad2), .val (.int (2 : Int32)), .unset] [(.ref b29), (.ref ad1)]))
  have f30 := (((((((((((((HF_ad1_Domains_sizes.ext E2).other W5 (Or.inr (sn33 hw))).ext E6).other W9 (Or.inr (sn34 hw))).ext E13).other W16 (Or.inr (sn35 hw))).ext E17).other W20 (Or.inr (sn36 hw))).ext E21).other W24 (Or.inr (sn37 hw))).ext E25).other W28 (Or.inr (sn38 hw))).ext E29)
  have f31 := ((f27.wr W28).ext E29)
  obtain ⟨T32, h32, X32, e32, W32, st32⟩ := putF X29 hx hZ hown (host := "") (Or.inl (wd hw 135 rfl)) Via.refl e29 f30 f31 (Or.inr ⟨(wd hw 136 rfl), rfl, hnm⟩) (wd hw 102 rfl) (ty := (.array .int)) (by decide) rfl rfl (g := (mkF m 62 #[.val (.ref ad1), .val (.ref ad2), .val (.int (2 : Int32)), .unset] [(.ref b29), (.ref ad1)])) rfl rfl (hb hby d14_62)
  have N32 := Fr.snoc X32 N28 nn_ad1
  have old32 := old29.wr W32 nn_ad1
  have kp32 := kp29.wr W32 (Or.inl (List.mem_of_getElem? (i := 0) rfl))
  have F32 := f30.same W32
  refine Go.step st32 ?_
  show Go p e below _ (T32.setTop (mkF m 65 #[.val (.ref ad1), .val (.ref ad2), .val (.int (2 : Int32)), .unset] []))
  refine gs.iconst 0 X32.here hx (hb hby d14_65) rfl ?_
  refine gs.istoreN X32.here hx (hb hby d14_66) (l' := #[.val (.ref ad1), .val (.ref ad2), .val (.int (2 : Int32)), .val (.int (0 : Int32))]) rfl ?_
  refine gs.iloadN X32.here hx (hb hby d14_67) rfl ?_
  refine gs.iloadN X32.here hx (hb hby d14_68) rfl ?_
  have hc69 : (0 : Int32) < (2 : Int32) := by decide
  refine gs.icmpNo X32.here hx (hb hby d14_69) (tlt hc69).2.1 ?_
  refine gs.aloadN X32.here hx (hb hby d14_72) rfl rfl ?_
  have f33 := ((((((((F16.ext E17).other W20 (Or.inr (sn39 hw))).ext E21).other W24 (Or.inr (sn40 hw))).ext E25).other W28 (Or.inr (sn41 hw))).ext E29).other W32 (Or.inr (sn42 hw)))
  refine gs.getF X32 hx hZ hown (wd hw 125 rfl) Via.refl e32 f33 (hb hby d14_73) fun T34 X34 e34 => ?_
  refine gs.iloadN X34.here hx (hb hby d14_76) rfl ?_
  refine gs.aloadN X34.here hx (hb hby d14_77) rfl rfl ?_
  refine gs.iloadN X34.here hx (hb hby d14_78) rfl ?_
  show Go p e below _ (T34.setTop (mkF m 79 _ _))
  have f35 := ((((((((((f10.ext E13).wr W16).ext E17).wr W20).ext E21).wr W24).ext E25).wr W28).ext E29).wr W32)
  have f36 := ((((((((((((((HF_ad2_ArrayList_elementData.ext E2).other W5 (Or.inl (Ne.symm ne_ad1_ad2))).ext E6).other W9 (Or.inl (Ne.symm ne_ad1_ad2))).ext E13).other W16 (Or.inl (Ne.symm ne_ad1_ad2))).ext E17).other W20 (Or.inl (Ne.symm ne_ad1_ad2))).ext E21).other W24 (Or.inl (Ne.symm ne_ad1_ad2))).ext E25).other W28 (Or.inl (Ne.symm ne_ad1_ad2))).ext E29).other W32 (Or.inl (Ne.symm ne_ad1_ad2)))
  have f37 := ((((((((((f11.ext E13).other W16 (Or.inl (Ne.symm ne_ad1_ad2))).ext E17).other W20 (Or.inl (Ne.symm ne_ad1_ad2))).ext E21).other W24 (Or.inl (Ne.symm ne_ad1_ad2))).ext E25).other W28 (Or.inl (Ne.symm ne_ad1_ad2))).ext E29).other W32 (Or.inl (Ne.symm ne_ad1_ad2)))
  have f38 := ((((((((((((((HV_ad5.ext E2).other W5 (Ne.symm ne_ad1_ad5)).ext E6).other W9 (Ne.symm ne_ad1_ad5)).ext E13).other W16 (Ne.symm ne_ad1_ad5)).ext E17).other W20 (Ne.symm ne_ad1_ad5)).ext E21).other W24 (Ne.symm ne_ad1_ad5)).ext E25).other W28 (Ne.symm ne_ad1_ad5)).ext E29).other W32 (Ne.symm ne_ad1_ad5))
  obtain ⟨cq39, kq39, q39a, q39b, q39c⟩ := isOf hZ e34 f35
  obtain ⟨_, _, ⟨T39, L39, k39, n39⟩, -, X39, ⟨Lc39, hQ39, l39, y39, z39⟩, st39⟩ := X34.interfaceBack hx (xi := (⟨"java/util/List", "get", "(I)Ljava/lang/Object;"⟩ : MethodName)) (y := y_16) hown (mvT hZ (wd hw 137 rfl)) (mvT hZ (wd hw 138 rfl)) (mvT hZ (wd hw 139 rfl)) (mvT hZ (wd hw 140 rfl)) (mvT hZ (wd hw 141 rfl)) (mvT hZ (wd hw 142 rfl)) (mvT hZ (wd hw 143 rfl)) (mvT hZ (wd hw 121 rfl)) (by decide) (backOf (W := 2) (am16_1 l Z a0 hw [] a_EMPTY_ELEMENTDATA aw0 ka_EMPTY_ELEMENTDATA kaw0 HW (ad2) (ad5) (ad6) (kc1) (ad8) h32 n0 old32 f35 f36 f37 f38 hO_ad5) hZ (wd hw 144 rfl) (wd hw 21 rfl) (by decide) (by decide)) q39a q39b q39c (g := (mkF m 79 #[.val (.ref ad1), .val (.ref ad2), .val (.int (2 : Int32)), .val (.int (0 : Int32))] [(.int (0 : Int32)), (.ref ad2), (.int (0 : Int32)), (.ref b13)])) rfl (by rw [hml]; rfl) (Steps.refl _) (argsL := [(.int (0 : Int32))]) (rest := [(.int (0 : Int32)), (.ref b13)]) (lenOf pd_11 rfl) rfl (by show 2 * 0 + _ ≤ _; exact Nat.le_of_eq rfl) (hb hby d14_79) (fun _ _ => ⟨rfl, e34, (by decide : 7 + 0 ≤ _), (by decide : 1098 + 0 ≤ _)⟩)
  dsimp only [Pt.U, Pt.locs, Pt.cells, Pt.slots] at X39 l39 y39 z39 st39 hQ39
  subst l39 y39 z39
  obtain ⟨rfl, Nq39, e39⟩ := hQ39
  have N39 := Fr.app N32 Nq39
  refine Go.step (fun t_ k_ => st39.trans k_) ?_
  show Go p e below _ (T39.setTop (mkF m 84 #[.val (.ref ad1), .val (.ref ad2), .val (.int (2 : Int32)), .val (.int (0 : Int32))] [(.ref ad6), (.int (0 : Int32)), (.ref b13)]))
  have f40 := ((((((((((((((HE_ad6.ext E2).wr W5).ext E6).wr W9).ext E13).wr W16).ext E17).wr W20).ext E21).wr W24).ext E25).wr W28).ext E29).wr W32)
  obtain ⟨T41, X41, e41, st41⟩ := castY X39 hx hZ hown (wd hw 158 rfl) e39 (Ins.self f40) (g := (mkF m 84 #[.val (.ref ad1), .val (.ref ad2), .val (.int (2 : Int32)), .val (.int (0 : Int32))] [(.ref ad6), (.int (0 : Int32)), (.ref b13)])) rfl rfl (hb hby d14_84)
  refine Go.step st41 ?_
  show Go p e below _ (T41.setTop (mkF m 87 #[.val (.ref ad1), .val (.ref ad2), .val (.int (2 : Int32)), .val (.int (0 : Int32))] [(.ref ad6), (.int (0 : Int32)), (.ref b13)]))
  have f42 := ((((((((((((((HF_ad6_Variable_domain.ext E2).other W5 (Or.inl (Ne.symm ne_ad1_ad6))).ext E6).other W9 (Or.inl (Ne.symm ne_ad1_ad6))).ext E13).other W16 (Or.inl (Ne.symm ne_ad1_ad6))).ext E17).other W20 (Or.inl (Ne.symm ne_ad1_ad6))).ext E21).other W24 (Or.inl (Ne.symm ne_ad1_ad6))).ext E25).other W28 (Or.inl (Ne.symm ne_ad1_ad6))).ext E29).other W32 (Or.inl (Ne.symm ne_ad1_ad6)))
  obtain ⟨cq43, kq43, q43a, q43b, q43c⟩ := isOf hZ e41 f40
  obtain ⟨_, _, ⟨T43, L43, k43, n43⟩, -, X43, ⟨Lc43, hQ43, l43, y43, z43⟩, st43⟩ := X41.virtualBack hx (y := y_20) (z := y_20) hown (mvT hZ (wd hw 160 rfl)) (mvT hZ (wd hw 161 rfl)) (notFace_of_selects (args := #[]) (mvT hZ (wd hw 163 rfl))) (mvT hZ (wd hw 163 rfl)) (mvT hZ (wd hw 162 rfl)) (by decide) (backOf (W := 2) (am20_1 l Z a0 hw [] a_EMPTY_ELEMENTDATA aw0 ka_EMPTY_ELEMENTDATA kaw0 HW (ad6) (ad3) h32 n0 old32 f42) hZ (wd hw 164 rfl) (wd hw 45 rfl) (by decide) (by decide)) q43a q43c (g := (mkF m 87 #[.val (.ref ad1), .val (.ref ad2), .val (.int (2 : Int32)), .val (.int (0 : Int32))] [(.ref ad6), (.int (0 : Int32)), (.ref b13)])) rfl (by rw [hml]; rfl) (Steps.refl _) (argsL := []) (rest := [(.int (0 : Int32)), (.ref b13)]) (lenOf pd_12 rfl) rfl (by show 2 * 0 + _ ≤ _; exact Nat.le_of_eq rfl) (hb hby d14_87) (fun _ _ => ⟨rfl, e41, (by decide : 7 + 0 ≤ _), (by decide : 1098 + 0 ≤ _)⟩)
  dsimp only [Pt.U, Pt.locs, Pt.cells, Pt.slots] at X43 l43 y43 z43 st43 hQ43
  subst l43 y43 z43
  obtain ⟨rfl, Nq43, e43⟩ := hQ43
  have N43 := Fr.app N39 Nq43
  refine Go.step (fun t_ k_ => st43.trans k_) ?_
  show Go p e below _ (T43.setTop (mkF m 90 #[.val (.ref ad1), .val (.ref ad2), .val (.int (2 : Int32)), .val (.int (0 : Int32))] [(.ref ad3), (.int (0 : Int32)), (.ref b13)]))
  have ne_ad1_b13 : ad1 ≠ b13 := Nat.ne_of_lt (Nat.lt_of_lt_of_le (f8.wr W9).lt (Nat.le_of_eq g13.symm))
  have f44 := (((((((((V13.other W16 (Ne.symm ne_ad1_b13)).ext E17).other W20 (Ne.symm ne_ad1_b13)).ext E21).other W24 (Ne.symm ne_ad1_b13)).ext E25).other W28 (Ne.symm ne_ad1_b13)).ext E29).other W32 (Ne.symm ne_ad1_b13))
  obtain ⟨cl45, Ar45, q45, Sz45, Ng45, Hs45, G45⟩ := id f44
  have hin45 : ¬ ((0 : Int32) < 0 ∨ cl45.slots.size ≤ ((0 : Int32)).toNatClampNeg) := inb_of Sz45 ⟨by decide, by decide⟩
  have f46 := ((((((((((((((HE_ad3.ext E2).wr W5).ext E6).wr W9).ext E13).wr W16).ext E17).wr W20).ext E21).wr W24).ext E25).wr W28).ext E29).wr W32)
  obtain ⟨T47, h47, X47, e47, W47, st47⟩ := stR X43 hx hZ e43 Ar45 (j := (0 : Int32)) hin45 rfl (Sto.ofV Ar45 q45 O13 (Ins.self f46)) (g := (mkF m 90 #[.val (.ref ad1), .val (.ref ad2), .val (.int (2 : Int32)), .val (.int (0 : Int32))] [(.ref ad3), (.int (0 : Int32)), (.ref b13)])) rfl rfl (hb hby d14_90)
  have N47 := Fr.snoc X47 N43 nn_b13
  have old47 := old32.wr W47 nn_b13
  have kp47 := kp32.wr W47 (Or.inr sz_b13)
  have V47 : Arv Z h47 b13 k13 (.object "com/example/monarc/monarc/InitialDomain") (2 : Int32) [(.ref ad3), .null] .null := Arv.set Ar45 q45 Sz45 Ng45 Hs45 G45 rfl W47 0 rfl (Nat.le_of_ble_eq_true rfl)
  refine Go.step st47 ?_
  show Go p e below _ (T47.setTop (mkF m 91 #[.val (.ref ad1), .val (.ref ad2), .val (.int (2 : Int32)), .val (.int (0 : Int32))] []))
  refine gs.aloadN X47.here hx (hb hby d14_91) rfl rfl ?_
  have f48 := (F32.other W47 (Or.inl ne_ad1_b13))
  refine gs.getF X47 hx hZ hown (wd hw 135 rfl) Via.refl e47 f48 (hb hby d14_92) fun T49 X49 e49 => ?_
  refine gs.iloadN X49.here hx (hb hby d14_95) rfl ?_
  refine gs.aloadN X49.here hx (hb hby d14_96) rfl rfl ?_
  have f50 := (f33.other W47 (Or.inl ne_ad1_b13))
  refine gs.getF X49 hx hZ hown (wd hw 125 rfl) Via.refl e49 f50 (hb hby d14_97) fun T51 X51 e51 => ?_
  refine gs.iloadN X51.here hx (hb hby d14_100) rfl ?_
  obtain ⟨cl52, Ar52, q52, Sz52, Ng52, Hs52, G52⟩ := id V47
  have hin52 : ¬ ((0 : Int32) < 0 ∨ cl52.slots.size ≤ ((0 : Int32)).toNatClampNeg) := inb_of Sz52 ⟨by decide, by decide⟩
  have hat52 : cl52.slots[((0 : Int32)).toNatClampNeg]? = some (.ref ad3) := Has.at Hs52 hin52 rfl
  refine Go.step (fun t_ k_ => X51.aaload hx (j := (0 : Int32)) (v := (.ref ad3)) (by rw [e51]; exact Ar52.1) (State.isArrayOf_alike hZ.alike Ar52.2.1) rfl Ar52.2.2 hin52 hat52 (g := (mkF m 101 #[.val (.ref ad1), .val (.ref ad2), .val (.int (2 : Int32)), .val (.int (0 : Int32))] [(.int (0 : Int32)), (.ref b13), (.int (0 : Int32)), (.ref b29)])) rfl rfl (hb hby d14_101) _ k_) ?_
  show Go p e below _ (T51.setTop (mkF m 102 #[.val (.ref ad1), .val (.ref ad2), .val (.int (2 : Int32)), .val (.int (0 : Int32))] [(.ref ad3), (.int (0 : Int32)), (.ref b29)]))
  have f53 := (f46.wr W47)
  have ne_ad3_b13 : ad3 ≠ b13 := Nat.ne_of_lt (Nat.lt_of_lt_of_le ((((HE_ad3.ext E2).wr W5).ext E6).wr W9).lt (Nat.le_of_eq g13.symm))
  have f54 := (((((((((((((((HF_ad3_InitialDomain_size.ext E2).other W5 (Or.inl (Ne.symm ne_ad1_ad3))).ext E6).other W9 (Or.inl (Ne.symm ne_ad1_ad3))).ext E13).other W16 (Or.inl (Ne.symm ne_ad1_ad3))).ext E17).other W20 (Or.inl (Ne.symm ne_ad1_ad3))).ext E21).other W24 (Or.inl (Ne.symm ne_ad1_ad3))).ext E25).other W28 (Or.inl (Ne.symm ne_ad1_ad3))).ext E29).other W32 (Or.inl (Ne.symm ne_ad1_ad3))).other W47 (Or.inl ne_ad3_b13))
  obtain ⟨cq55, kq55, q55a, q55b, q55c⟩ := isOf hZ e51 f53
  obtain ⟨_, _, ⟨T55, L55, k55, n55⟩, -, X55, ⟨Lc55, hQ55, l55, y55, z55⟩, st55⟩ := X51.virtualBack hx (y := y_21) (z := y_21) hown (mvT hZ (wd hw 166 rfl)) (mvT hZ (wd hw 167 rfl)) (notFace_of_selects (args := #[]) (mvT hZ (wd hw 169 rfl))) (mvT hZ (wd hw 169 rfl)) (mvT hZ (wd hw 168 rfl)) (by decide) (backOf (W := 2) (am21_1 l Z a0 hw [] a_EMPTY_ELEMENTDATA aw0 ka_EMPTY_ELEMENTDATA kaw0 HW (ad3) h47 n0 old47 f54) hZ (wd hw 170 rfl) (wd hw 2 rfl) (by decide) (by decide)) q55a q55c (g := (mkF m 102 #[.val (.ref ad1), .val (.ref ad2), .val (.int (2 : Int32)), .val (.int (0 : Int32))] [(.ref ad3), (.int (0 : Int32)), (.ref b29)])) rfl (by rw [hml]; rfl) (Steps.refl _) (argsL := []) (rest := [(.int (0 : Int32)), (.ref b29)]) (lenOf pd_9 rfl) rfl (by show 2 * 0 + _ ≤ _; exact Nat.le_of_eq rfl) (hb hby d14_102) (fun _ _ => ⟨rfl, e51, (by decide : 7 + 0 ≤ _), (by decide : 1098 + 0 ≤ _)⟩)
  dsimp only [Pt.U, Pt.locs, Pt.cells, Pt.slots] at X55 l55 y55 z55 st55 hQ55
  subst l55 y55 z55
  obtain ⟨rfl, Nq55, e55⟩ := hQ55
  have N55 := Fr.app N47 Nq55
  refine Go.step (fun t_ k_ => st55.trans k_) ?_
  show Go p e below _ (T55.setTop (mkF m 105 #[.val (.ref ad1), .val (.ref ad2), .val (.int (2 : Int32)), .val (.int (0 : Int32))] [(.int (200 : Int32)), (.int (0 : Int32)), (.ref b29)]))
  have ne_ad1_b29 : ad1 ≠ b29 := Nat.ne_of_lt (Nat.lt_of_lt_of_le (f27.wr W28).lt (Nat.le_of_eq g29.symm))
  have ne_b13_b29 : b13 ≠ b29 := Nat.ne_of_lt (Nat.lt_of_lt_of_le (((((((V13.other W16 (Ne.symm ne_ad1_b13)).ext E17).other W20 (Ne.symm ne_ad1_b13)).ext E21).other W24 (Ne.symm ne_ad1_b13)).ext E25).other W28 (Ne.symm ne_ad1_b13)).lt (Nat.le_of_eq g29.symm))
  have f56 := ((V29.other W32 (Ne.symm ne_ad1_b29)).other W47 (Ne.symm ne_b13_b29))
  obtain ⟨cl57, Ar57, q57, Sz57, Ng57, Hs57, G57⟩ := id f56
  have hin57 : ¬ ((0 : Int32) < 0 ∨ cl57.slots.size ≤ ((0 : Int32)).toNatClampNeg) := inb_of Sz57 ⟨by decide, by decide⟩
  obtain ⟨T58, h58, X58, e58, W58, st58⟩ := stI X55 hx hZ e55 Ar57 (j := (0 : Int32)) hin57 (g := (mkF m 105 #[.val (.ref ad1), .val (.ref ad2), .val (.int (2 : Int32)), .val (.int (0 : Int32))] [(.int (200 : Int32)), (.int (0 : Int32)), (.ref b29)])) rfl rfl (hb hby d14_105)
  have N58 := Fr.snoc X58 N55 nn_b29
  have old58 := old47.wr W58 nn_b29
  have kp58 := kp47.wr W58 (Or.inr sz_b29)
  have V58 : Arv Z h58 b29 k29 .int (2 : Int32) [(.int (200 : Int32)), (.int (0 : Int32))] (.int (0 : Int32)) := Arv.set Ar57 q57 Sz57 Ng57 Hs57 G57 rfl W58 0 rfl (Nat.le_of_ble_eq_true rfl)
  refine Go.step st58 ?_
  show Go p e below _ (T58.setTop (mkF m 106 #[.val (.ref ad1), .val (.ref ad2), .val (.int (2 : Int32)), .val (.int (0 : Int32))] []))
  refine gs.aloadN X58.here hx (hb hby d14_106) rfl rfl ?_
  have f59 := ((((((F24.ext E25).other W28 (Or.inr (sn43 hw))).ext E29).other W32 (Or.inr (sn44 hw))).other W47 (Or.inl ne_ad1_b13)).other W58 (Or.inl ne_ad1_b29))
  refine gs.getF X58 hx hZ hown (wd hw 129 rfl) Via.refl e58 f59 (hb hby d14_107) fun T60 X60 e60 => ?_
  refine gs.iloadN X60.here hx (hb hby d14_110) rfl ?_
  refine gs.aloadN X60.here hx (hb hby d14_111) rfl rfl ?_
  have f61 := (f48.other W58 (Or.inl ne_ad1_b29))
  refine gs.getF X60 hx hZ hown (wd hw 135 rfl) Via.refl e60 f61 (hb hby d14_112) fun T62 X62 e62 => ?_
  refine gs.iloadN X62.here hx (hb hby d14_115) rfl ?_
  obtain ⟨cl63, Ar63, q63, Sz63, Ng63, Hs63, G63⟩ := id V58
  have hin63 : ¬ ((0 : Int32) < 0 ∨ cl63.slots.size ≤ ((0 : Int32)).toNatClampNeg) := inb_of Sz63 ⟨by decide, by decide⟩
  have hat63 : cl63.slots[((0 : Int32)).toNatClampNeg]? = some (.int (200 : Int32)) := Has.at Hs63 hin63 rfl
  refine Go.step (fun t_ k_ => X62.iaload hx (j := (0 : Int32)) (v := (.int (200 : Int32))) (by rw [e62]; exact Ar63.1) (State.isArrayOf_alike hZ.alike Ar63.2.1) Ar63.2.2 hin63 hat63 (g := (mkF m 116 #[.val (.ref ad1), .val (.ref ad2), .val (.int (2 : Int32)), .val (.int (0 : Int32))] [(.int (0 : Int32)), (.ref b29), (.int (0 : Int32)), (.ref b21)])) rfl rfl (hb hby d14_116) _ k_) ?_
  show Go p e below _ (T62.setTop (mkF m 117 #[.val (.ref ad1), .val (.ref ad2), .val (.int (2 : Int32)), .val (.int (0 : Int32))] [(.int (200 : Int32)), (.int (0 : Int32)), (.ref b21)]))
  refine gs.iconst 1 X62.here hx (hb hby d14_117) rfl ?_
  refine gs.isub X62.here hx (hb hby d14_118) ?_
  rw [show ((200 : Int32) - (1 : Int32)) = (199 : Int32) from by decide]
  have ne_ad1_b21 : ad1 ≠ b21 := Nat.ne_of_lt (Nat.lt_of_lt_of_le (f19.wr W20).lt (Nat.le_of_eq g21.symm))
  have ne_b13_b21 : b13 ≠ b21 := Nat.ne_of_lt (Nat.lt_of_lt_of_le (((V13.other W16 (Ne.symm ne_ad1_b13)).ext E17).other W20 (Ne.symm ne_ad1_b13)).lt (Nat.le_of_eq g21.symm))
  have ne_b21_b29 : b21 ≠ b29 := Nat.ne_of_lt (Nat.lt_of_lt_of_le (((V21.other W24 (Ne.symm ne_ad1_b21)).ext E25).other W28 (Ne.symm ne_ad1_b21)).lt (Nat.le_of_eq g29.symm))
  have f64 := (((((((V21.other W24 (Ne.symm ne_ad1_b21)).ext E25).other W28 (Ne.symm ne_ad1_b21)).ext E29).other W32 (Ne.symm ne_ad1_b21)).other W47 (Ne.symm ne_b13_b21)).other W58 ne_b21_b29)
  obtain ⟨cl65, Ar65, q65, Sz65, Ng65, Hs65, G65⟩ := id f64
  have hin65 : ¬ ((0 : Int32) < 0 ∨ cl65.slots.size ≤ ((0 : Int32)).toNatClampNeg) := inb_of Sz65 ⟨by decide, by decide⟩
  obtain ⟨T66, h66, X66, e66, W66, st66⟩ := stI X62 hx hZ e62 Ar65 (j := (0 : Int32)) hin65 (g := (mkF m 119 #[.val (.ref ad1), .val (.ref ad2), .val (.int (2 : Int32)), .val (.int (0 : Int32))] [(.int (199 : Int32)), (.int (0 : Int32)), (.ref b21)])) rfl rfl (hb hby d14_119)
  have N66 := Fr.snoc X66 N58 nn_b21
  have old66 := old58.wr W66 nn_b21
  have kp66 := kp58.wr W66 (Or.inr sz_b21)
  have V66 : Arv Z h66 b21 k21 .int (2 : Int32) [(.int (199 : Int32)), (.int (0 : Int32))] (.int (0 : Int32)) := Arv.set Ar65 q65 Sz65 Ng65 Hs65 G65 rfl W66 0 rfl (Nat.le_of_ble_eq_true rfl)
  refine Go.step st66 ?_
  show Go p e below _ (T66.setTop (mkF m 120 #[.val (.ref ad1), .val (.ref ad2), .val (.int (2 : Int32)), .val (.int (0 : Int32))] []))
  refine gs.aloadN X66.here hx (hb hby d14_120) rfl rfl ?_
  refine gs.dup X66.here hx (hb hby d14_121) rfl ?_
  have f67 := (((((((((((((((((HF_ad1_Domains_withOneValue.ext E2).other W5 (Or.inr (sn45 hw))).ext E6).other W9 (Or.inr (sn46 hw))).ext E13).other W16 (Or.inr (sn47 hw))).ext E17).other W20 (Or.inr (sn48 hw))).ext E21).other W24 (Or.inr (sn49 hw))).ext E25).other W28 (Or.inr (sn50 hw))).ext E29).other W32 (Or.inr (sn51 hw))).other W47 (Or.inl ne_ad1_b13)).other W58 (Or.inl ne_ad1_b29)).other W66 (Or.inl ne_ad1_b21))
  refine gs.getF X66 hx hZ hown (wd hw 171 rfl) Via.refl e66 f67 (hb hby d14_122) fun T68 X68 e68 => ?_
  refine gs.aloadN X68.here hx (hb hby d14_125) rfl rfl ?_
  have f69 := (f61.other W66 (Or.inl ne_ad1_b21))
  refine gs.getF X68 hx hZ hown (wd hw 135 rfl) Via.refl e68 f69 (hb hby d14_126) fun T70 X70 e70 => ?_
  refine gs.iloadN X70.here hx (hb hby d14_129) rfl ?_
  have f71 := (V58.other W66 (Ne.symm ne_b21_b29))
  obtain ⟨cl72, Ar72, q72, Sz72, Ng72, Hs72, G72⟩ := id f71
  have hin72 : ¬ ((0 : Int32) < 0 ∨ cl72.slots.size ≤ ((0 : Int32)).toNatClampNeg) := inb_of Sz72 ⟨by decide, by decide⟩
  have hat72 : cl72.slots[((0 : Int32)).toNatClampNeg]? = some (.int (200 : Int32)) := Has.at Hs72 hin72 rfl
  refine Go.step (fun t_ k_ => X70.iaload hx (j := (0 : Int32)) (v := (.int (200 : Int32))) (by rw [e70]; exact Ar72.1) (State.isArrayOf_alike hZ.alike Ar72.2.1) Ar72.2.2 hin72 hat72 (g := (mkF m 130 #[.val (.ref ad1), .val (.ref ad2), .val (.int (2 : Int32)), .val (.int (0 : Int32))] [(.int (0 : Int32)), (.ref b29), (.int (0 : Int32)), (.ref ad1)])) rfl rfl (hb hby d14_130) _ k_) ?_
  show Go p e below _ (T70.setTop (mkF m 131 #[.val (.ref ad1), .val (.ref ad2), .val (.int (2 : Int32)), .val (.int (0 : Int32))] [(.int (200 : Int32)), (.int (0 : Int32)), (.ref ad1)]))
  refine gs.iconst 1 X70.here hx (hb hby d14_131) rfl ?_
  have hc132 : ¬ ((200 : Int32) = (1 : Int32)) := by decide
  refine gs.icmpYes 139 X70.here hx (hb hby d14_132) (feq hc132).2 rfl ?_
  refine gs.iconst 0 X70.here hx (hb hby d14_139) rfl ?_
  refine gs.iadd X70.here hx (hb hby d14_140) ?_
  rw [show ((0 : Int32) + (0 : Int32)) = (0 : Int32) from by decide]
  have f73 := ((((f31.wr W32).wr W47).wr W58).wr W66)
  obtain ⟨T74, h74, X74, e74, W74, st74⟩ := putF X70 hx hZ hown (host := "") (Or.inl (wd hw 171 rfl)) Via.refl e70 f67 f73 (Or.inl (wd hw 172 rfl)) (wd hw 102 rfl) (ty := .int) (by decide) rfl rfl (g := (mkF m 141 #[.val (.ref ad1), .val (.ref ad2), .val (.int (2 : Int32)), .val (.int (0 : Int32))] [(.int (0 : Int32)), (.ref ad1)])) rfl rfl (hb hby d14_141)
  have N74 := Fr.snoc X74 N66 nn_ad1
  have old74 := old66.wr W74 nn_ad1
  have kp74 := kp66.wr W74 (Or.inl (List.mem_of_getElem? (i := 0) rfl))
  have F74 := f67.same W74
  refine Go.step st74 ?_
  show Go p e below _ (T74.setTop (mkF m 144 #[.val (.ref ad1), .val (.ref ad2), .val (.int (2 : Int32)), .val (.int (0 : Int32))] []))
  refine Go.step (fun t_ k_ => XS.iinc X74.here hx rfl (hb hby d14_144) rfl (l' := #[.val (.ref ad1), .val (.ref ad2), .val (.int (2 : Int32)), .val (.int ((0 : Int32) + (1 : Int32)))]) rfl k_) ?_
  show Go p e below _ (T74.setTop (mkF m 147 #[.val (.ref ad1), .val (.ref ad2), .val (.int (2 : Int32)), .val (.int ((0 : Int32) + (1 : Int32)))] []))
  rw [show ((0 : Int32) + (1 : Int32)) = (1 : Int32) from by decide]
  refine gs.goto 67 X74.here hx (hb hby d14_147) rfl ?_
  refine gs.iloadN X74.here hx (hb hby d14_67) rfl ?_
  refine gs.iloadN X74.here hx (hb hby d14_68) rfl ?_
  have hc69_2 : (1 : Int32) < (2 : Int32) := by decide
  refine gs.icmpNo X74.here hx (hb hby d14_69) (tlt hc69_2).2.1 ?_
  refine gs.aloadN X74.here hx (hb hby d14_72) rfl rfl ?_
  have f75 := (((f50.other W58 (Or.inl ne_ad1_b29)).other W66 (Or.inl ne_ad1_b21)).other W74 (Or.inr (sn52 hw)))
  refine gs.getF X74 hx hZ hown (wd hw 125 rfl) Via.refl e74 f75 (hb hby d14_73) fun T76 X76 e76 => ?_
  refine gs.iloadN X76.here hx (hb hby d14_76) rfl ?_
  refine gs.aloadN X76.here hx (hb hby d14_77) rfl rfl ?_
  refine gs.iloadN X76.here hx (hb hby d14_78) rfl ?_
  have f77 := ((((f35.wr W47).wr W58).wr W66).wr W74)
  have ne_ad2_b13 : ad2 ≠ b13 := Nat.ne_of_lt (Nat.lt_of_lt_of_le f10.lt (Nat.le_of_eq g13.symm))
  have ne_ad2_b29 : ad2 ≠ b29 := Nat.ne_of_lt (Nat.lt_of_lt_of_le ((((((((f10.ext E13).wr W16).ext E17).wr W20).ext E21).wr W24).ext E25).wr W28).lt (Nat.le_of_eq g29.symm))
  have ne_ad2_b21 : ad2 ≠ b21 := Nat.ne_of_lt (Nat.lt_of_lt_of_le ((((f10.ext E13).wr W16).ext E17).wr W20).lt (Nat.le_of_eq g21.symm))
  have f78 := ((((f36.other W47 (Or.inl ne_ad2_b13)).other W58 (Or.inl ne_ad2_b29)).other W66 (Or.inl ne_ad2_b21)).other W74 (Or.inl (Ne.symm ne_ad1_ad2)))
  have f79 := ((((f37.other W47 (Or.inl ne_ad2_b13)).other W58 (Or.inl ne_ad2_b29)).other W66 (Or.inl ne_ad2_b21)).other W74 (Or.inl (Ne.symm ne_ad1_ad2)))
  have ne_ad5_b13 : ad5 ≠ b13 := Nat.ne_of_lt (Nat.lt_of_lt_of_le ((((HV_ad5.ext E2).other W5 (Ne.symm ne_ad1_ad5)).ext E6).other W9 (Ne.symm ne_ad1_ad5)).lt (Nat.le_of_eq g13.symm))
  have ne_ad5_b29 : ad5 ≠ b29 := Nat.ne_of_lt (Nat.lt_of_lt_of_le ((((((((((((HV_ad5.ext E2).other W5 (Ne.symm ne_ad1_ad5)).ext E6).other W9 (Ne.symm ne_ad1_ad5)).ext E13).other W16 (Ne.symm ne_ad1_ad5)).ext E17).other W20 (Ne.symm ne_ad1_ad5)).ext E21).other W24 (Ne.symm ne_ad1_ad5)).ext E25).other W28 (Ne.symm ne_ad1_ad5)).lt (Nat.le_of_eq g29.symm))
  have ne_ad5_b21 : ad5 ≠ b21 := Nat.ne_of_lt (Nat.lt_of_lt_of_le ((((((((HV_ad5.ext E2).other W5 (Ne.symm ne_ad1_ad5)).ext E6).other W9 (Ne.symm ne_ad1_ad5)).ext E13).other W16 (Ne.symm ne_ad1_ad5)).ext E17).other W20 (Ne.symm ne_ad1_ad5)).lt (Nat.le_of_eq g21.symm))
  have f80 := ((((f38.other W47 ne_ad5_b13).other W58 ne_ad5_b29).other W66 ne_ad5_b21).other W74 (Ne.symm ne_ad1_ad5))
  obtain ⟨cq81, kq81, q81a, q81b, q81c⟩ := isOf hZ e76 f77
  obtain ⟨_, _, ⟨T81, L81, k81, n81⟩, -, X81, ⟨Lc81, hQ81, l81, y81, z81⟩, st81⟩ := X76.interfaceBack hx (xi := (⟨"java/util/List", "get", "(I)Ljava/lang/Object;"⟩ : MethodName)) (y := y_16) hown (mvT hZ (wd hw 137 rfl)) (mvT hZ (wd hw 138 rfl)) (mvT hZ (wd hw 139 rfl)) (mvT hZ (wd hw 140 rfl)) (mvT hZ (wd hw 141 rfl)) (mvT hZ (wd hw 142 rfl)) (mvT hZ (wd hw 143 rfl)) (mvT hZ (wd hw 121 rfl)) (by decide) (backOf (W := 2) (am16_2 l Z a0 hw [] a_EMPTY_ELEMENTDATA aw0 ka_EMPTY_ELEMENTDATA kaw0 HW (ad2) (ad5) (ad6) (kc1) (ad8) h74 n0 old74 f77 f78 f79 f80 hO_ad5) hZ (wd hw 144 rfl) (wd hw 21 rfl) (by decide) (by decide)) q81a q81b q81c (g := (mkF m 79 #[.val (.ref ad1), .val (.ref ad2), .val (.int (2 : Int32)), .val (.int (1 : Int32))] [(.int (1 : Int32)), (.ref ad2), (.int (1 : Int32)), (.ref b13)])) rfl (by rw [hml]; rfl) (Steps.refl _) (argsL := [(.int (1 : Int32))]) (rest := [(.int (1 : Int32)), (.ref b13)]) (lenOf pd_11 rfl) rfl (by show 2 * 0 + _ ≤ _; exact Nat.le_of_eq rfl) (hb hby d14_79) (fun _ _ => ⟨rfl, e76, (by decide : 7 + 0 ≤ _), (by decide : 1098 + 0 ≤ _)⟩)
  dsimp only [Pt.U, Pt.locs, Pt.cells, Pt.slots] at X81 l81 y81 z81 st81 hQ81
  subst l81 y81 z81
  obtain ⟨rfl, Nq81, e81⟩ := hQ81
  have N81 := Fr.app N74 Nq81
  refine Go.step (fun t_ k_ => st81.trans k_) ?_
  show Go p e below _ (T81.setTop (mkF m 84 #[.val (.ref ad1), .val (.ref ad2), .val (.int (2 : Int32)), .val (.int (1 : Int32))] [(.ref ad8), (.int (1 : Int32)), (.ref b13)]))
  have f82 := ((((((((((((((((((HE_ad8.ext E2).wr W5).ext E6).wr W9).ext E13).wr W16).ext E17).wr W20).ext E21).wr W24).ext E25).wr W28).ext E29).wr W32).wr W47).wr W58).wr W66).wr W74)
  obtain ⟨T83, X83, e83, st83⟩ := castY X81 hx hZ hown (wd hw 158 rfl) e81 (Ins.self f82) (g := (mkF m 84 #[.val (.ref ad1), .val (.ref ad2), .val (.int (2 : Int32)), .val (.int (1 : Int32))] [(.ref ad8), (.int (1 : Int32)), (.ref b13)])) rfl rfl (hb hby d14_84)
  refine Go.step st83 ?_
  show Go p e below _ (T83.setTop (mkF m 87 #[.val (.ref ad1), .val (.ref ad2), .val (.int (2 : Int32)), .val (.int (1 : Int32))] [(.ref ad8), (.int (1 : Int32)), (.ref b13)]))
  have ne_ad8_b13 : ad8 ≠ b13 := Nat.ne_of_lt (Nat.lt_of_lt_of_le ((((HE_ad8.ext E2).wr W5).ext E6).wr W9).lt (Nat.le_of_eq g13.symm))
  have ne_ad8_b29 : ad8 ≠ b29 := Nat.ne_of_lt (Nat.lt_of_lt_of_le ((((((((((((HE_ad8.ext E2).wr W5).ext E6).wr W9).ext E13).wr W16).ext E17).wr W20).ext E21).wr W24).ext E25).wr W28).lt (Nat.le_of_eq g29.symm))
  have ne_ad8_b21 : ad8 ≠ b21 := Nat.ne_of_lt (Nat.lt_of_lt_of_le ((((((((HE_ad8.ext E2).wr W5).ext E6).wr W9).ext E13).wr W16).ext E17).wr W20).lt (Nat.le_of_eq g21.symm))
  have f84 := ((((((((((((((((((HF_ad8_Variable_domain.ext E2).other W5 (Or.inl (Ne.symm ne_ad1_ad8))).ext E6).other W9 (Or.inl (Ne.symm ne_ad1_ad8))).ext E13).other W16 (Or.inl (Ne.symm ne_ad1_ad8))).ext E17).other W20 (Or.inl (Ne.symm ne_ad1_ad8))).ext E21).other W24 (Or.inl (Ne.symm ne_ad1_ad8))).ext E25).other W28 (Or.inl (Ne.symm ne_ad1_ad8))).ext E29).other W32 (Or.inl (Ne.symm ne_ad1_ad8))).other W47 (Or.inl ne_ad8_b13)).other W58 (Or.inl ne_ad8_b29)).other W66 (Or.inl ne_ad8_b21)).other W74 (Or.inl (Ne.symm ne_ad1_ad8)))
  obtain ⟨cq85, kq85, q85a, q85b, q85c⟩ := isOf hZ e83 f82
  obtain ⟨_, _, ⟨T85, L85, k85, n85⟩, -, X85, ⟨Lc85, hQ85, l85, y85, z85⟩, st85⟩ := X83.virtualBack hx (y := y_20) (z := y_20) hown (mvT hZ (wd hw 160 rfl)) (mvT hZ (wd hw 161 rfl)) (notFace_of_selects (args := #[]) (mvT hZ (wd hw 163 rfl))) (mvT hZ (wd hw 163 rfl)) (mvT hZ (wd hw 162 rfl)) (by decide) (backOf (W := 2) (am20_1 l Z a0 hw [] a_EMPTY_ELEMENTDATA aw0 ka_EMPTY_ELEMENTDATA kaw0 HW (ad8) (ad4) h74 n0 old74 f84) hZ (wd hw 164 rfl) (wd hw 45 rfl) (by decide) (by decide)) q85a q85c (g := (mkF m 87 #[.val (.ref ad1), .val (.ref ad2), .val (.int (2 : Int32)), .val (.int (1 : Int32))] [(.ref ad8), (.int (1 : Int32)), (.ref b13)])) rfl (by rw [hml]; rfl) (Steps.refl _) (argsL := []) (rest := [(.int (1 : Int32)), (.ref b13)]) (lenOf pd_12 rfl) rfl (by show 2 * 0 + _ ≤ _; exact Nat.le_of_eq rfl) (hb hby d14_87) (fun _ _ => ⟨rfl, e83, (by decide : 7 + 0 ≤ _), (by decide : 1098 + 0 ≤ _)⟩)
  dsimp only [Pt.U, Pt.locs, Pt.cells, Pt.slots] at X85 l85 y85 z85 st85 hQ85
  subst l85 y85 z85
  obtain ⟨rfl, Nq85, e85⟩ := hQ85
  have N85 := Fr.app N81 Nq85
  refine Go.step (fun t_ k_ => st85.trans k_) ?_
  show Go p e below _ (T85.setTop (mkF m 90 #[.val (.ref ad1), .val (.ref ad2), .val (.int (2 : Int32)), .val (.int (1 : Int32))] [(.ref ad4), (.int (1 : Int32)), (.ref b13)]))
  have f86 := (((V47.other W58 ne_b13_b29).other W66 ne_b13_b21).other W74 (Ne.symm ne_ad1_b13))
  obtain ⟨cl87, Ar87, q87, Sz87, Ng87, Hs87, G87⟩ := id f86
  have hin87 : ¬ ((1 : Int32) < 0 ∨ cl87.slots.size ≤ ((1 : Int32)).toNatClampNeg) := inb_of Sz87 ⟨by decide, by decide⟩
  have f88 := ((((((((((((((((((HE_ad4.ext E2).wr W5).ext E6).wr W9).ext E13).wr W16).ext E17).wr W20).ext E21).wr W24).ext E25).wr W28).ext E29).wr W32).wr W47).wr W58).wr W66).wr W74)
  obtain ⟨T89, h89, X89, e89, W89, st89⟩ := stR X85 hx hZ e85 Ar87 (j := (1 : Int32)) hin87 rfl (Sto.ofV Ar87 q87 O13 (Ins.self f88)) (g := (mkF m 90 #[.val (.ref ad1), .val (.ref ad2), .val (.int (2 : Int32)), .val (.int (1 : Int32))] [(.ref ad4), (.int (1 : Int32)), (.ref b13)])) rfl rfl (hb hby d14_90)
  have N89 := Fr.snoc X89 N85 nn_b13
  have old89 := old74.wr W89 nn_b13
  have kp89 := kp74.wr W89 (Or.inr sz_b13)
  have V89 : Arv Z h89 b13 k13 (.object "com/example/monarc/monarc/InitialDomain") (2 : Int32) [(.ref ad3), (.ref ad4)] .null := Arv.set Ar87 q87 Sz87 Ng87 Hs87 G87 rfl W89 1 rfl (Nat.le_of_ble_eq_true rfl)
  refine Go.step st89 ?_
  show Go p e below _ (T89.setTop (mkF m 91 #[.val (.ref ad1), .val (.ref ad2), .val (.int (2 : Int32)), .val (.int (1 : Int32))] []))
  refine gs.aloadN X89.here hx (hb hby d14_91) rfl rfl ?_
  have f90 := ((f69.other W74 (Or.inr (sn53 hw))).other W89 (Or.inl ne_ad1_b13))
  refine gs.getF X89 hx hZ hown (wd hw 135 rfl) Via.refl e89 f90 (hb hby d14_92) fun T91 X91 e91 => ?_
  refine gs.iloadN X91.here hx (hb hby d14_95) rfl ?_
  refine gs.aloadN X91.here hx (hb hby d14_96) rfl rfl ?_
  have f92 := (f75.other W89 (Or.inl ne_ad1_b13))
  refine gs.getF X91 hx hZ hown (wd hw 125 rfl) Via.refl e91 f92 (hb hby d14_97) fun T93 X93 e93 => ?_
  refine gs.iloadN X93.here hx (hb hby d14_100) rfl ?_
  obtain ⟨cl94, Ar94, q94, Sz94, Ng94, Hs94, G94⟩ := id V89
  have hin94 : ¬ ((1 : Int32) < 0 ∨ cl94.slots.size ≤ ((1 : Int32)).toNatClampNeg) := inb_of Sz94 ⟨by decide, by decide⟩
  have hat94 : cl94.slots[((1 : Int32)).toNatClampNeg]? = some (.ref ad4) := Has.at Hs94 hin94 rfl
  refine Go.step (fun t_ k_ => X93.aaload hx (j := (1 : Int32)) (v := (.ref ad4)) (by rw [e93]; exact Ar94.1) (State.isArrayOf_alike hZ.alike Ar94.2.1) rfl Ar94.2.2 hin94 hat94 (g := (mkF m 101 #[.val (.ref ad1), .val (.ref ad2), .val (.int (2 : Int32)), .val (.int (1 : Int32))] [(.int (1 : Int32)), (.ref b13), (.int (1 : Int32)), (.ref b29)])) rfl rfl (hb hby d14_101) _ k_) ?_
  show Go p e below _ (T93.setTop (mkF m 102 #[.val (.ref ad1), .val (.ref ad2), .val (.int (2 : Int32)), .val (.int (1 : Int32))] [(.ref ad4), (.int (1 : Int32)), (.ref b29)]))
  have f95 := (f88.wr W89)
  have ne_ad4_b13 : ad4 ≠ b13 := Nat.ne_of_lt (Nat.lt_of_lt_of_le ((((HE_ad4.ext E2).wr W5).ext E6).wr W9).lt (Nat.le_of_eq g13.symm))
  have ne_ad4_b29 : ad4 ≠ b29 := Nat.ne_of_lt (Nat.lt_of_lt_of_le ((((((((((((HE_ad4.ext E2).wr W5).ext E6).wr W9).ext E13).wr W16).ext E17).wr W20).ext E21).wr W24).ext E25).wr W28).lt (Nat.le_of_eq g29.symm))
  have ne_ad4_b21 : ad4 ≠ b21 := Nat.ne_of_lt (Nat.lt_of_lt_of_le ((((((((HE_ad4.ext E2).wr W5).ext E6).wr W9).ext E13).wr W16).ext E17).wr W20).lt (Nat.le_of_eq g21.symm))
  have f96 := (((((((((((((((((((HF_ad4_InitialDomain_size.ext E2).other W5 (Or.inl (Ne.symm ne_ad1_ad4))).ext E6).other W9 (Or.inl (Ne.symm ne_ad1_ad4))).ext E13).other W16 (Or.inl (Ne.symm ne_ad1_ad4))).ext E17).other W20 (Or.inl (Ne.symm ne_ad1_ad4))).ext E21).other W24 (Or.inl (Ne.symm ne_ad1_ad4))).ext E25).other W28 (Or.inl (Ne.symm ne_ad1_ad4))).ext E29).other W32 (Or.inl (Ne.symm ne_ad1_ad4))).other W47 (Or.inl ne_ad4_b13)).other W58 (Or.inl ne_ad4_b29)).other W66 (Or.inl ne_ad4_b21)).other W74 (Or.inl (Ne.symm ne_ad1_ad4))).other W89 (Or.inl ne_ad4_b13))
  obtain ⟨cq97, kq97, q97a, q97b, q97c⟩ := isOf hZ e93 f95
  obtain ⟨_, _, ⟨T97, L97, k97, n97⟩, -, X97, ⟨Lc97, hQ97, l97, y97, z97⟩, st97⟩ := X93.virtualBack hx (y := y_21) (z := y_21) hown (mvT hZ (wd hw 166 rfl)) (mvT hZ (wd hw 167 rfl)) (notFace_of_selects (args := #[]) (mvT hZ (wd hw 169 rfl))) (mvT hZ (wd hw 169 rfl)) (mvT hZ (wd hw 168 rfl)) (by decide) (backOf (W := 2) (am21_2 l Z a0 hw [] a_EMPTY_ELEMENTDATA aw0 ka_EMPTY_ELEMENTDATA kaw0 HW (ad4) h89 n0 old89 f96) hZ (wd hw 170 rfl) (wd hw 2 rfl) (by decide) (by decide)) q97a q97c (g := (mkF m 102 #[.val (.ref ad1), .val (.ref ad2), .val (.int (2 : Int32)), .val (.int (1 : Int32))] [(.ref ad4), (.int (1 : Int32)), (.ref b29)])) rfl (by rw [hml]; rfl) (Steps.refl _) (argsL := []) (rest := [(.int (1 : Int32)), (.ref b29)]) (lenOf pd_9 rfl) rfl (by show 2 * 0 + _ ≤ _; exact Nat.le_of_eq rfl) (hb hby d14_102) (fun _ _ => ⟨rfl, e93, (by decide : 7 + 0 ≤ _), (by decide : 1098 + 0 ≤ _)⟩)
  dsimp only [Pt.U, Pt.locs, Pt.cells, Pt.slots] at X97 l97 y97 z97 st97 hQ97
  subst l97 y97 z97
  obtain ⟨rfl, Nq97, e97⟩ := hQ97
  have N97 := Fr.app N89 Nq97
  refine Go.step (fun t_ k_ => st97.trans k_) ?_
  show Go p e below _ (T97.setTop (mkF m 105 #[.val (.ref ad1), .val (.ref ad2), .val (.int (2 : Int32)), .val (.int (1 : Int32))] [(.int (100 : Int32)), (.int (1 : Int32)), (.ref b29)]))
  have f98 := ((f71.other W74 (Ne.symm ne_ad1_b29)).other W89 (Ne.symm ne_b13_b29))
  obtain ⟨cl99, Ar99, q99, Sz99, Ng99, Hs99, G99⟩ := id f98
  have hin99 : ¬ ((1 : Int32) < 0 ∨ cl99.slots.size ≤ ((1 : Int32)).toNatClampNeg) := inb_of Sz99 ⟨by decide, by decide⟩
  obtain ⟨T100, h100, X100, e100, W100, st100⟩ := stI X97 hx hZ e97 Ar99 (j := (1 : Int32)) hin99 (g := (mkF m 105 #[.val (.ref ad1), .val (.ref ad2), .val (.int (2 : Int32)), .val (.int (1 : Int32))] [(.int (100 : Int32)), (.int (1 : Int32)), (.ref b29)])) rfl rfl (hb hby d14_105)
  have N100 := Fr.snoc X100 N97 nn_b29
  have old100 := old89.wr W100 nn_b29
  have kp100 := kp89.wr W100 (Or.inr sz_b29)
  have V100 : Arv Z h100 b29 k29 .int (2 : Int32) [(.int (200 : Int32)), (.int (100 : Int32))] (.int (0 : Int32)) := Arv.set Ar99 q99 Sz99 Ng99 Hs99 G99 rfl W100 1 rfl (Nat.le_of_ble_eq_true rfl)
  refine Go.step st100 ?_
  show Go p e below _ (T100.setTop (mkF m 106 #[.val (.ref ad1), .val (.ref ad2), .val (.int (2 : Int32)), .val (.int (1 : Int32))] []))
  refine gs.aloadN X100.here hx (hb hby d14_106) rfl rfl ?_
  have f101 := ((((f59.other W66 (Or.inl ne_ad1_b21)).other W74 (Or.inr (sn54 hw))).other W89 (Or.inl ne_ad1_b13)).other W100 (Or.inl ne_ad1_b29))
  refine gs.getF X100 hx hZ hown (wd hw 129 rfl) Via.refl e100 f101 (hb hby d14_107) fun T102 X102 e102 => ?_
  refine gs.iloadN X102.here hx (hb hby d14_110) rfl ?_
  refine gs.aloadN X102.here hx (hb hby d14_111) rfl rfl ?_
  have f103 := (f90.other W100 (Or.inl ne_ad1_b29))
  refine gs.getF X102 hx hZ hown (wd hw 135 rfl) Via.refl e102 f103 (hb hby d14_112) fun T104 X104 e104 => ?_
  refine gs.iloadN X104.here hx (hb hby d14_115) rfl ?_
  obtain ⟨cl105, Ar105, q105, Sz105, Ng105, Hs105, G105⟩ := id V100
  have hin105 : ¬ ((1 : Int32) < 0 ∨ cl105.slots.size ≤ ((1 : Int32)).toNatClampNeg) := inb_of Sz105 ⟨by decide, by decide⟩
  have hat105 : cl105.slots[((1 : Int32)).toNatClampNeg]? = some (.int (100 : Int32)) := Has.at Hs105 hin105 rfl
  refine Go.step (fun t_ k_ => X104.iaload hx (j := (1 : Int32)) (v := (.int (100 : Int32))) (by rw [e104]; exact Ar105.1) (State.isArrayOf_alike hZ.alike Ar105.2.1) Ar105.2.2 hin105 hat105 (g := (mkF m 116 #[.val (.ref ad1), .val (.ref ad2), .val (.int (2 : Int32)), .val (.int (1 : Int32))] [(.int (1 : Int32)), (.ref b29), (.int (1 : Int32)), (.ref b21)])) rfl rfl (hb hby d14_116) _ k_) ?_
  show Go p e below _ (T104.setTop (mkF m 117 #[.val (.ref ad1), .val (.ref ad2), .val (.int (2 : Int32)), .val (.int (1 : Int32))] [(.int (100 : Int32)), (.int (1 : Int32)), (.ref b21)]))
  refine gs.iconst 1 X104.here hx (hb hby d14_117) rfl ?_
  refine gs.isub X104.here hx (hb hby d14_118) ?_
  rw [show ((100 : Int32) - (1 : Int32)) = (99 : Int32) from by decide]
  have f106 := (((V66.other W74 (Ne.symm ne_ad1_b21)).other W89 (Ne.symm ne_b13_b21)).other W100 ne_b21_b29)
  obtain ⟨cl107, Ar107, q107, Sz107, Ng107, Hs107, G107⟩ := id f106
  have hin107 : ¬ ((1 : Int32) < 0 ∨ cl107.slots.size ≤ ((1 : Int32)).toNatClampNeg) := inb_of Sz107 ⟨by decide, by decide⟩
  obtain ⟨T108, h108, X108, e108, W108, st108⟩ := stI X104 hx hZ e104 Ar107 (j := (1 : Int32)) hin107 (g := (mkF m 119 #[.val (.ref ad1), .val (.ref ad2), .val (.int (2 : Int32)), .val (.int (1 : Int32))] [(.int (99 : Int32)), (.int (1 : Int32)), (.ref b21)])) rfl rfl (hb hby d14_119)
  have N108 := Fr.snoc X108 N100 nn_b21
  have old108 := old100.wr W108 nn_b21
  have kp108 := kp100.wr W108 (Or.inr sz_b21)
  have V108 : Arv Z h108 b21 k21 .int (2 : Int32) [(.int (199 : Int32)), (.int (99 : Int32))] (.int (0 : Int32)) := Arv.set Ar107 q107 Sz107 Ng107 Hs107 G107 rfl W108 1 rfl (Nat.le_of_ble_eq_true rfl)
  refine Go.step st108 ?_
  show Go p e below _ (T108.setTop (mkF m 120 #[.val (.ref ad1), .val (.ref ad2), .val (.int (2 : Int32)), .val (.int (1 : Int32))] []))
  refine gs.aloadN X108.here hx (hb hby d14_120) rfl rfl ?_
  refine gs.dup X108.here hx (hb hby d14_121) rfl ?_
  have f109 := (((F74.other W89 (Or.inl ne_ad1_b13)).other W100 (Or.inl ne_ad1_b29)).other W108 (Or.inl ne_ad1_b21))
  refine gs.getF X108 hx hZ hown (wd hw 171 rfl) Via.refl e108 f109 (hb hby d14_122) fun T110 X110 e110 => ?_
  refine gs.aloadN X110.here hx (hb hby d14_125) rfl rfl ?_
  have f111 := (f103.other W108 (Or.inl ne_ad1_b21))
  refine gs.getF X110 hx hZ hown (wd hw 135 rfl) Via.refl e110 f111 (hb hby d14_126) fun T112 X112 e112 => ?_
  refine gs.iloadN X112.here hx (hb hby d14_129) rfl ?_
  have f113 := (V100.other W108 (Ne.symm ne_b21_b29))
  obtain ⟨cl114, Ar114, q114, Sz114, Ng114, Hs114, G114⟩ := id f113
  have hin114 : ¬ ((1 : Int32) < 0 ∨ cl114.slots.size ≤ ((1 : Int32)).toNatClampNeg) := inb_of Sz114 ⟨by decide, by decide⟩
  have hat114 : cl114.slots[((1 : Int32)).toNatClampNeg]? = some (.int (100 : Int32)) := Has.at Hs114 hin114 rfl
  refine Go.step (fun t_ k_ => X112.iaload hx (j := (1 : Int32)) (v := (.int (100 : Int32))) (by rw [e112]; exact Ar114.1) (State.isArrayOf_alike hZ.alike Ar114.2.1) Ar114.2.2 hin114 hat114 (g := (mkF m 130 #[.val (.ref ad1), .val (.ref ad2), .val (.int (2 : Int32)), .val (.int (1 : Int32))] [(.int (1 : Int32)), (.ref b29), (.int (0 : Int32)), (.ref ad1)])) rfl rfl (hb hby d14_130) _ k_) ?_
  show Go p e below _ (T112.setTop (mkF m 131 #[.val (.ref ad1), .val (.ref ad2), .val (.int (2 : Int32)), .val (.int (1 : Int32))] [(.int (100 : Int32)), (.int (0 : Int32)), (.ref ad1)]))
  refine gs.iconst 1 X112.here hx (hb hby d14_131) rfl ?_
  have hc132_2 : ¬ ((100 : Int32) = (1 : Int32)) := by decide
  refine gs.icmpYes 139 X112.here hx (hb hby d14_132) (feq hc132_2).2 rfl ?_
  refine gs.iconst 0 X112.here hx (hb hby d14_139) rfl ?_
  refine gs.iadd X112.here hx (hb hby d14_140) ?_
  rw [show ((0 : Int32) + (0 : Int32)) = (0 : Int32) from by decide]
  have f115 := ((((f73.wr W74).wr W89).wr W100).wr W108)
  obtain ⟨T116, h116, X116, e116, W116, st116⟩ := putF X112 hx hZ hown (host := "") (Or.inl (wd hw 171 rfl)) Via.refl e112 f109 f115 (Or.inl (wd hw 172 rfl)) (wd hw 102 rfl) (ty := .int) (by decide) rfl rfl (g := (mkF m 141 #[.val (.ref ad1), .val (.ref ad2), .val (.int (2 : Int32)), .val (.int (1 : Int32))] [(.int (0 : Int32)), (.ref ad1)])) rfl rfl (hb hby d14_141)
  have N116 := Fr.snoc X116 N108 nn_ad1
  have old116 := old108.wr W116 nn_ad1
  have kp116 := kp108.wr W116 (Or.inl (List.mem_of_getElem? (i := 0) rfl))
  have F116 := f109.same W116
  refine Go.step st116 ?_
  show Go p e below _ (T116.setTop (mkF m 144 #[.val (.ref ad1), .val (.ref ad2), .val (.int (2 : Int32)), .val (.int (1 : Int32))] []))
  refine Go.step (fun t_ k_ => XS.iinc X116.here hx rfl (hb hby d14_144) rfl (l' := #[.val (.ref ad1), .val (.ref ad2), .val (.int (2 : Int32)), .val (.int ((1 : Int32) + (1 : Int32)))]) rfl k_) ?_
  show Go p e below _ (T116.setTop (mkF m 147 #[.val (.ref ad1), .val (.ref ad2), .val (.int (2 : Int32)), .val (.int ((1 : Int32) + (1 : Int32)))] []))
  rw [show ((1 : Int32) + (1 : Int32)) = (2 : Int32) from by decide]
  refine gs.goto 67 X116.here hx (hb hby d14_147) rfl ?_
  refine gs.iloadN X116.here hx (hb hby d14_67) rfl ?_
  refine gs.iloadN X116.here hx (hb hby d14_68) rfl ?_
  have hc69_3 : ¬ ((2 : Int32) < (2 : Int32)) := by decide
  refine gs.icmpYes 150 X116.here hx (hb hby d14_69) (flt hc69_3).2.1 rfl ?_
  have ne_b13_b25 : b13 ≠ b25 := Nat.ne_of_lt (Nat.lt_of_lt_of_le (((((V13.other W16 (Ne.symm ne_ad1_b13)).ext E17).other W20 (Ne.symm ne_ad1_b13)).ext E21).other W24 (Ne.symm ne_ad1_b13)).lt (Nat.le_of_eq g25.symm))
  have ne_ad1_b17 : ad1 ≠ b17 := Nat.ne_of_lt (Nat.lt_of_lt_of_le (f15.wr W16).lt (Nat.le_of_eq g17.symm))
  have ne_b17_b25 : b17 ≠ b25 := Nat.ne_of_lt (Nat.lt_of_lt_of_le (((V17.other W20 (Ne.symm ne_ad1_b17)).ext E21).other W24 (Ne.symm ne_ad1_b17)).lt (Nat.le_of_eq g25.symm))
  have ne_ad1_b6 : ad1 ≠ b6 := Nat.ne_of_lt (Nat.lt_of_lt_of_le (f4.wr W5).lt (Nat.le_of_eq g6.symm))
  have ne_b6_b25 : b6 ≠ b25 := Nat.ne_of_lt (Nat.lt_of_lt_of_le (((((((V6.other W9 (Ne.symm ne_ad1_b6)).ext E13).other W16 (Ne.symm ne_ad1_b6)).ext E17).other W20 (Ne.symm ne_ad1_b6)).ext E21).other W24 (Ne.symm ne_ad1_b6)).lt (Nat.le_of_eq g25.symm))
  have ne_b25_b29 : b25 ≠ b29 := Nat.ne_of_lt (Nat.lt_of_lt_of_le (B25.wr W28).lt (Nat.le_of_eq g29.symm))
  have ne_b2_b25 : b2 ≠ b25 := Nat.ne_of_lt (Nat.lt_of_lt_of_le (((((((((B2.wr W5).ext E6).wr W9).ext E13).wr W16).ext E17).wr W20).ext E21).wr W24).lt (Nat.le_of_eq g25.symm))
  have ne_b21_b25 : b21 ≠ b25 := Nat.ne_of_lt (Nat.lt_of_lt_of_le (V21.other W24 (Ne.symm ne_ad1_b21)).lt (Nat.le_of_eq g25.symm))
  have ne_b13_b17 : b13 ≠ b17 := Nat.ne_of_lt (Nat.lt_of_lt_of_le (V13.other W16 (Ne.symm ne_ad1_b13)).lt (Nat.le_of_eq g17.symm))
  have ne_b6_b13 : b6 ≠ b13 := Nat.ne_of_lt (Nat.lt_of_lt_of_le (V6.other W9 (Ne.symm ne_ad1_b6)).lt (Nat.le_of_eq g13.symm))
  have ne_b2_b13 : b2 ≠ b13 := Nat.ne_of_lt (Nat.lt_of_lt_of_le (((B2.wr W5).ext E6).wr W9).lt (Nat.le_of_eq g13.symm))
  have ne_b6_b17 : b6 ≠ b17 := Nat.ne_of_lt (Nat.lt_of_lt_of_le (((V6.other W9 (Ne.symm ne_ad1_b6)).ext E13).other W16 (Ne.symm ne_ad1_b6)).lt (Nat.le_of_eq g17.symm))
  have ne_b17_b29 : b17 ≠ b29 := Nat.ne_of_lt (Nat.lt_of_lt_of_le (((((V17.other W20 (Ne.symm ne_ad1_b17)).ext E21).other W24 (Ne.symm ne_ad1_b17)).ext E25).other W28 (Ne.symm ne_ad1_b17)).lt (Nat.le_of_eq g29.symm))
  have ne_b2_b17 : b2 ≠ b17 := Nat.ne_of_lt (Nat.lt_of_lt_of_le (((((B2.wr W5).ext E6).wr W9).ext E13).wr W16).lt (Nat.le_of_eq g17.symm))
  have ne_b17_b21 : b17 ≠ b21 := Nat.ne_of_lt (Nat.lt_of_lt_of_le (V17.other W20 (Ne.symm ne_ad1_b17)).lt (Nat.le_of_eq g21.symm))
  have ne_b6_b29 : b6 ≠ b29 := Nat.ne_of_lt (Nat.lt_of_lt_of_le (((((((((V6.other W9 (Ne.symm ne_ad1_b6)).ext E13).other W16 (Ne.symm ne_ad1_b6)).ext E17).other W20 (Ne.symm ne_ad1_b6)).ext E21).other W24 (Ne.symm ne_ad1_b6)).ext E25).other W28 (Ne.symm ne_ad1_b6)).lt (Nat.le_of_eq g29.symm))
  have ne_b2_b6 : b2 ≠ b6 := Nat.ne_of_lt (Nat.lt_of_lt_of_le (B2.wr W5).lt (Nat.le_of_eq g6.symm))
  have ne_b6_b21 : b6 ≠ b21 := Nat.ne_of_lt (Nat.lt_of_lt_of_le (((((V6.other W9 (Ne.symm ne_ad1_b6)).ext E13).other W16 (Ne.symm ne_ad1_b6)).ext E17).other W20 (Ne.symm ne_ad1_b6)).lt (Nat.le_of_eq g21.symm))
  have ne_b2_b29 : b2 ≠ b29 := Nat.ne_of_lt (Nat.lt_of_lt_of_le (((((((((((B2.wr W5).ext E6).wr W9).ext E13).wr W16).ext E17).wr W20).ext E21).wr W24).ext E25).wr W28).lt (Nat.le_of_eq g29.symm))
  have ne_b2_b21 : b2 ≠ b21 := Nat.ne_of_lt (Nat.lt_of_lt_of_le (((((((B2.wr W5).ext E6).wr W9).ext E13).wr W16).ext E17).wr W20).lt (Nat.le_of_eq g21.symm))
  have f117 := (f115.wr W116)
  have f118 := ((((((((((F28.ext E29).other W32 (Or.inr (sn55 hw))).other W47 (Or.inl ne_ad1_b13)).other W58 (Or.inl ne_ad1_b29)).other W66 (Or.inl ne_ad1_b21)).other W74 (Or.inr (sn56 hw))).other W89 (Or.inl ne_ad1_b13)).other W100 (Or.inl ne_ad1_b29)).other W108 (Or.inl ne_ad1_b21)).other W116 (Or.inr (sn56 hw)))
  have f119 := (((f92.other W100 (Or.inl ne_ad1_b29)).other W108 (Or.inl ne_ad1_b21)).other W116 (Or.inr (sn52 hw)))
  have f120 := ((((((((((((((F20.ext E21).other W24 (Or.inr (sn57 hw))).ext E25).other W28 (Or.inr (sn58 hw))).ext E29).other W32 (Or.inr (sn59 hw))).other W47 (Or.inl ne_ad1_b13)).other W58 (Or.inl ne_ad1_b29)).other W66 (Or.inl ne_ad1_b21)).other W74 (Or.inr (sn60 hw))).other W89 (Or.inl ne_ad1_b13)).other W100 (Or.inl ne_ad1_b29)).other W108 (Or.inl ne_ad1_b21)).other W116 (Or.inr (sn60 hw)))
  have f121 := ((((((((((((((((((F9.ext E13).other W16 (Or.inr (sn61 hw))).ext E17).other W20 (Or.inr (sn62 hw))).ext E21).other W24 (Or.inr (sn63 hw))).ext E25).other W28 (Or.inr (sn64 hw))).ext E29).other W32 (Or.inr (sn65 hw))).other W47 (Or.inl ne_ad1_b13)).other W58 (Or.inl ne_ad1_b29)).other W66 (Or.inl ne_ad1_b21)).other W74 (Or.inr (sn66 hw))).other W89 (Or.inl ne_ad1_b13)).other W100 (Or.inl ne_ad1_b29)).other W108 (Or.inl ne_ad1_b21)).other W116 (Or.inr (sn66 hw)))
  have f122 := ((((((((((((((((((((((HF_ad1_Domains_resized.ext E2).other W5 (Or.inr (sn67 hw))).ext E6).other W9 (Or.inr (sn68 hw))).ext E13).other W16 (Or.inr (sn69 hw))).ext E17).other W20 (Or.inr (sn70 hw))).ext E21).other W24 (Or.inr (sn71 hw))).ext E25).other W28 (Or.inr (sn72 hw))).ext E29).other W32 (Or.inr (sn73 hw))).other W47 (Or.inl ne_ad1_b13)).other W58 (Or.inl ne_ad1_b29)).other W66 (Or.inl ne_ad1_b21)).other W74 (Or.inr (sn74 hw))).other W89 (Or.inl ne_ad1_b13)).other W100 (Or.inl ne_ad1_b29)).other W108 (Or.inl ne_ad1_b21)).other W116 (Or.inr (sn74 hw)))
  have f123 := (f111.other W116 (Or.inr (sn53 hw)))
  have f124 := ((((((((((((((((((((F5.ext E6).other W9 (Or.inr (sn75 hw))).ext E13).other W16 (Or.inr (sn76 hw))).ext E17).other W20 (Or.inr (sn77 hw))).ext E21).other W24 (Or.inr (sn78 hw))).ext E25).other W28 (Or.inr (sn79 hw))).ext E29).other W32 (Or.inr (sn80 hw))).other W47 (Or.inl ne_ad1_b13)).other W58 (Or.inl ne_ad1_b29)).other W66 (Or.inl ne_ad1_b21)).other W74 (Or.inr (sn81 hw))).other W89 (Or.inl ne_ad1_b13)).other W100 (Or.inl ne_ad1_b29)).other W108 (Or.inl ne_ad1_b21)).other W116 (Or.inr (sn81 hw)))
  have f125 := ((((((((((((((((((((((HF_ad1_Domains_trailSize.ext E2).other W5 (Or.inr (sn82 hw))).ext E6).other W9 (Or.inr (sn83 hw))).ext E13).other W16 (Or.inr (sn84 hw))).ext E17).other W20 (Or.inr (sn85 hw))).ext E21).other W24 (Or.inr (sn86 hw))).ext E25).other W28 (Or.inr (sn87 hw))).ext E29).other W32 (Or.inr (sn88 hw))).other W47 (Or.inl ne_ad1_b13)).other W58 (Or.inl ne_ad1_b29)).other W66 (Or.inl ne_ad1_b21)).other W74 (Or.inr (sn89 hw))).other W89 (Or.inl ne_ad1_b13)).other W100 (Or.inl ne_ad1_b29)).other W108 (Or.inl ne_ad1_b21)).other W116 (Or.inr (sn89 hw)))
  have f126 := ((f101.other W108 (Or.inl ne_ad1_b21)).other W116 (Or.inr (sn54 hw)))
  have f127 := (((((((((((B25.wr W28).ext E29).wr W32).wr W47).wr W58).wr W66).wr W74).wr W89).wr W100).wr W108).wr W116)
  have ne_ad1_b25 : ad1 ≠ b25 := Nat.ne_of_lt (Nat.lt_of_lt_of_le (f23.wr W24).lt (Nat.le_of_eq g25.symm))
  have f128 := (((((((((((V25.other W28 (Ne.symm ne_ad1_b25)).ext E29).other W32 (Ne.symm ne_ad1_b25)).other W47 (Ne.symm ne_b13_b25)).other W58 ne_b25_b29).other W66 (Ne.symm ne_b21_b25)).other W74 (Ne.symm ne_ad1_b25)).other W89 (Ne.symm ne_b13_b25)).other W100 ne_b25_b29).other W108 (Ne.symm ne_b21_b25)).other W116 (Ne.symm ne_ad1_b25))
  have f129 := (((V89.other W100 ne_b13_b29).other W108 ne_b13_b21).other W116 (Ne.symm ne_ad1_b13))
  have f130 := (((((((((((((((V17.other W20 (Ne.symm ne_ad1_b17)).ext E21).other W24 (Ne.symm ne_ad1_b17)).ext E25).other W28 (Ne.symm ne_ad1_b17)).ext E29).other W32 (Ne.symm ne_ad1_b17)).other W47 (Ne.symm ne_b13_b17)).other W58 ne_b17_b29).other W66 ne_b17_b21).other W74 (Ne.symm ne_ad1_b17)).other W89 (Ne.symm ne_b13_b17)).other W100 ne_b17_b29).other W108 ne_b17_b21).other W116 (Ne.symm ne_ad1_b17))
  have f131 := (((((((((((((((((((V6.other W9 (Ne.symm ne_ad1_b6)).ext E13).other W16 (Ne.symm ne_ad1_b6)).ext E17).other W20 (Ne.symm ne_ad1_b6)).ext E21).other W24 (Ne.symm ne_ad1_b6)).ext E25).other W28 (Ne.symm ne_ad1_b6)).ext E29).other W32 (Ne.symm ne_ad1_b6)).other W47 ne_b6_b13).other W58 ne_b6_b29).other W66 ne_b6_b21).other W74 (Ne.symm ne_ad1_b6)).other W89 ne_b6_b13).other W100 ne_b6_b29).other W108 ne_b6_b21).other W116 (Ne.symm ne_ad1_b6))
  have f132 := (f113.other W116 (Ne.symm ne_ad1_b29))
  have f133 := (((((((((((((((((((((B2.wr W5).ext E6).wr W9).ext E13).wr W16).ext E17).wr W20).ext E21).wr W24).ext E25).wr W28).ext E29).wr W32).wr W47).wr W58).wr W66).wr W74).wr W89).wr W100).wr W108).wr W116)
  have ne_ad1_b2 : ad1 ≠ b2 := Nat.ne_of_lt (Nat.lt_of_lt_of_le HE_ad1.lt (Nat.le_of_eq g2.symm))
  have f134 := (((((((((((((((((((((V2.other W5 (Ne.symm ne_ad1_b2)).ext E6).other W9 (Ne.symm ne_ad1_b2)).ext E13).other W16 (Ne.symm ne_ad1_b2)).ext E17).other W20 (Ne.symm ne_ad1_b2)).ext E21).other W24 (Ne.symm ne_ad1_b2)).ext E25).other W28 (Ne.symm ne_ad1_b2)).ext E29).other W32 (Ne.symm ne_ad1_b2)).other W47 ne_b2_b13).other W58 ne_b2_b29).other W66 ne_b2_b21).other W74 (Ne.symm ne_ad1_b2)).other W89 ne_b2_b13).other W100 ne_b2_b29).other W108 ne_b2_b21).other W116 (Ne.symm ne_ad1_b2))
  have f135 := (V108.other W116 (Ne.symm ne_ad1_b21))
  refine Go.retV X116 hx Bd.returns Bd.notSynchronized (hb hby d14_150) (by rw [e116]; exact ⟨b25, b13, b17, b6, b29, b2, b21, k25, k13, k17, k6, k29, k2, k21, rfl, sz_b25, sz_b13, sz_b17, sz_b6, sz_b29, sz_b2, sz_b21, (Ne.symm ne_b13_b25), (Ne.symm ne_b17_b25), (Ne.symm ne_b6_b25), ne_b25_b29, (Ne.symm ne_b2_b25), (Ne.symm ne_b21_b25), ne_b13_b17, (Ne.symm ne_b6_b13), ne_b13_b29, (Ne.symm ne_b2_b13), ne_b13_b21, (Ne.symm ne_b6_b17), ne_b17_b29, (Ne.symm ne_b2_b17), ne_b17_b21, ne_b6_b29, (Ne.symm ne_b2_b6), ne_b6_b21, (Ne.symm ne_b2_b29), (Ne.symm ne_b21_b29), ne_b2_b21, N116, kp116, f117, f118, f119, f120, f121, f122, f123, f124, f125, f126, F116, f127, f128, f129, f130, f131, f132, f133, f134, f135, O25, O13⟩) (by decide) (by decide)
theorem pd_13 : parseMethodDescriptor "(Ljava/util/List;)V" = some ⟨[(.object "java/util/List")], none⟩ := by decide +kernel
theorem d22_0 : decode prog_11_method_20_code 0 = .ok (.aload_n 0, 1) := by decide +kernel
theorem d22_1 : decode prog_11_method_20_code 1 = .ok (.getfield 25, 3) := by decide +kernel
theorem d22_4 : decode prog_11_method_20_code 4 = .ok (.iload_n 1, 1) := by decide +kernel
theorem d22_5 : decode prog_11_method_20_code 5 = .ok (.aaload, 1) := by decide +kernel
theorem d22_6 : decode prog_11_method_20_code 6 = .ok (.lload_n 2, 1) := by decide +kernel
theorem d22_7 : decode prog_11_method_20_code 7 = .ok (.invokevirtual 137, 3) := by decide +kernel
theorem d23_0 : decode prog_20_method_8_code 0 = .ok (.ldc2_w 72, 3) := by decide +kernel
theorem d23_3 : decode prog_20_method_8_code 3 = .ok (.lload_n 1, 1) := by decide +kernel
theorem d23_4 : decode prog_20_method_8_code 4 = .ok (.ldc2_w 74, 3) := by decide +kernel
theorem d23_7 : decode prog_20_method_8_code 7 = .ok (.invokestatic 76, 3) := by decide +kernel
theorem pd_14 : parseMethodDescriptor "(JJ)J" = some ⟨[.long, .long], some .long⟩ := by decide +kernel
theorem d23_10 : decode prog_20_method_8_code 10 = .ok (.invokestatic 82, 3) := by decide +kernel
theorem d23_13 : decode prog_20_method_8_code 13 = .ok (.lstore_n 3, 1) := by decide +kernel
theorem d23_14 : decode prog_20_method_8_code 14 = .ok (.aload_n 0, 1) := by decide +kernel
theorem d23_15 : decode prog_20_method_8_code 15 = .ok (.getfield 27, 3) := by decide +kernel
theorem d23_18 : decode prog_20_method_8_code 18 = .ok (.ifnonnull 24, 3) := by decide +kernel
theorem d23_21 : decode prog_20_method_8_code 21 = .ok (.aload_n 0, 1) := by decide +kernel
theorem d23_22 : decode prog_20_method_8_code 22 = .ok (.getfield 24, 3) := by decide +kernel
theorem d23_25 : decode prog_20_method_8_code 25 = .ok (.i2l, 1) := by decide +kernel
theorem d23_26 : decode prog_20_method_8_code 26 = .ok (.lconst 0, 1) := by decide +kernel
theorem d23_27 : decode prog_20_method_8_code 27 = .ok (.lload_n 3, 1) := by decide +kernel
theorem d23_28 : decode prog_20_method_8_code 28 = .ok (.aload_n 0, 1) := by decide +kernel
theorem d23_29 : decode prog_20_method_8_code 29 = .ok (.getfield 20, 3) := by decide +kernel
theorem d23_32 : decode prog_20_method_8_code 32 = .ok (.i2l, 1) := by decide +kernel
theorem d23_33 : decode prog_20_method_8_code 33 = .ok (.lsub, 1) := by decide +kernel
theorem d23_34 : decode prog_20_method_8_code 34 = .ok (.invokestatic 82, 3) := by decide +kernel
theorem d23_37 : decode prog_20_method_8_code 37 = .ok (.invokestatic 76, 3) := by decide +kernel
theorem d23_40 : decode prog_20_method_8_code 40 = .ok (.l2i, 1) := by decide +kernel
theorem d23_41 : decode prog_20_method_8_code 41 = .ok (.ireturn, 1) := by decide +kernel
theorem ef_am23_1 (m : MethodId) (x0 : Addr) (x1 : Int64)  : entryFrame m #[(.ref x0), (.long x1)] 6 = mkF m 0 #[.val (.ref x0), .val (.long x1), .second, .unset, .unset, .unset] [] := by first | (simp [entryFrame, mkF, argsToLocals, Value.category]; done) | rfl
def Q_am23_1 (Z : State) (a_EMPTY_ELEMENTDATA : Addr) (aw0 : Addr) (ka_EMPTY_ELEMENTDATA : ClassId) (kaw0 : ClassId) (ad1 : Addr) (lv1 : Int64) (h0 : Heap) (n0 : Nat) (v : Option Value) (h : Heap) (L : List Loc) : Prop := v = some (.int (lv1.toInt32)) ∧ Fr n0 L ∧ h = h0
set_option maxRecDepth 65536 in
set_option maxHeartbeats 40000000 in
theorem am23_1 (l : Launch) (Z : State) (a0 : Array Value) (hw : ∀ d ∈ tables_1, d.before a0 Z = true) (ws : List Jvm.Cond) (a_EMPTY_ELEMENTDATA : Addr) (aw0 : Addr) (ka_EMPTY_ELEMENTDATA : ClassId) (kaw0 : ClassId) (HW : Wd Z a_EMPTY_ELEMENTDATA aw0 ka_EMPTY_ELEMENTDATA kaw0) (ad1 : Addr) (lv1 : Int64) (h0 : Heap) (n0 : Nat) (Ol : Old Z n0 h0) (HF_ad1_InitialDomain_lowest : Fld Z h0 ad1 "com/example/monarc/monarc/InitialDomain" "lowest" "I" (.int (0 : Int32))) (HF_ad1_InitialDomain_size : Fld Z h0 ad1 "com/example/monarc/monarc/InitialDomain" "size" "I" (.int (200 : Int32))) (HF_ad1_InitialDomain_values : Fld Z h0 ad1 "com/example/monarc/monarc/InitialDomain" "values" "[I" .null) (eq0 : ((mnL (200 : Int64) (mxL (0 : Int64) ((mxL (-2147483648 : Int64) (mnL lv1 (2147483648 : Int64))) - (0 : Int64)))).toInt32) = (lv1.toInt32)) :
    MetFree l y_23 (head1 (Jvm.Cond.code y_23 prog_20_method_8_code 6 (some .int) :: ws) ({ frames := 1, cells := 0, slots := 0, locals := 17 } : Room)) (fun a_ U_ => a_ = #[(.ref ad1), (.long lv1)] ∧ Z.Warmed39 U_.vm ∧ U_.heap = h0) (fun _ _ _ _ _ => True) (fun _ U_ o_ V_ => ∃ v_ L_, o_ = .returned v_ ∧ Q_am23_1 Z a_EMPTY_ELEMENTDATA aw0 ka_EMPTY_ELEMENTDATA kaw0 ad1 lv1 h0 n0 v_ V_.heap L_ ∧ FrameEnd U_ o_ V_ L_ ({ frames := 1, cells := 0, slots := 0, locals := 17 } : Room).cells ({ frames := 1, cells := 0, slots := 0, locals := 17 } : Room).slots) := by
  refine MetFree.of_bodySF (plainFor_of_name pn_0) hisR ?_
  intro p e s m args below meth c s₁ Bd hml0 hP hK
  obtain ⟨rfl, hZ, hh⟩ := hP
  have hx := Bd.exec
  have hby := Bd.bytes
  have hml : c.maxLocals = 6 := hml0
  have hown : s.vm.findClass "com/example/monarc/monarc/InitialDomain" = some m.cls := findClass_of_methodNamed Bd.named
  have hnm := (name_of_methodNamed Bd.named Bd.method).1
  have X0 : Stand p l e ({ frames := 1, cells := 0, slots := 0, locals := 17 } : Room) s m #[(.ref ad1), (.long lv1)] below meth c s₁ [] 0 0 := Stand.of_body Bd
  have e0 : s₁.heap = h0 := by rw [← hh, Bd.state]; rfl
  have N0 := Fr.nil n0
  have kp0 := Keep.refl h0 []
  show Go p e below (Fin1 s below (Q_am23_1 Z a_EMPTY_ELEMENTDATA aw0 ka_EMPTY_ELEMENTDATA kaw0 ad1 lv1 h0 n0) ({ frames := 1, cells := 0, slots := 0, locals := 17 } : Room).cells ({ frames := 1, cells := 0, slots := 0, locals := 17 } : Room).slots) _
  refine Go.step (fun t_ k_ => castTop (ef_am23_1 m ad1 lv1) k_) ?_
  obtain ⟨Ea_EMPTY_ELEMENTDATA, Sa_EMPTY_ELEMENTDATA, Eaw0, Saw0, Aa_EMPTY_ELEMENTDATA, Aaw0⟩ := id HW
  show Go p e below _ (s₁.setTop (mkF m 0 #[.val (.ref ad1), .val (.long lv1), .second, .unset, .unset, .unset] []))
  refine Go.step (fun t_ k_ => X0.ldc2Long hx hown (mvT hZ (wd hw 183 rfl)) (g := (mkF m 0 #[.val (.ref ad1), .val (.long lv1), .second, .unset, .unset, .unset] [])) rfl (hb hby d23_0) _ k_) ?_
  show Go p e below _ (s₁.setTop (mkF m 3 #[.val (.ref ad1), .val (.long lv1), .second, .unset, .unset, .unset] [(.long (-2147483648 : Int64))]))
  refine gs.lloadN X0.here hx (hb hby d23_3) rfl ?_
  refine Go.step (fun t_ k_ => X0.ldc2Long hx hown (mvT hZ (wd hw 184 rfl)) (g := (mkF m 4 #[.val (.ref ad1), .val (.long lv1), .second, .unset, .unset, .unset] [(.long lv1), (.long (-2147483648 : Int64))])) rfl (hb hby d23_4) _ k_) ?_
  show Go p e below _ (s₁.setTop (mkF m 7 #[.val (.ref ad1), .val (.long lv1), .second, .unset, .unset, .unset] [(.long (2147483648 : Int64)), (.long lv1), (.long (-2147483648 : Int64))]))
  obtain ⟨_, _, ⟨T1, L1, k1, n1⟩, -, X1, ⟨Lc1, hQ1, l1, y1, z1⟩, st1⟩ := Jvm.LawKit.callS X0 hx (y := y_24) hown (mvT hZ (wd hw 185 rfl)) (mvT hZ (wd hw 186 rfl)) (mvT hZ (wd hw 95 rfl)) (mvT hZ (wd hw 187 rfl)) (by decide) (backOf (W := 2) (rm24 l Z a0 hw [] a_EMPTY_ELEMENTDATA aw0 ka_EMPTY_ELEMENTDATA kaw0 HW lv1 (2147483648 : Int64) (mnL lv1 (2147483648 : Int64)) h0 n0 Ol rfl) hZ (wd hw 187 rfl) (wd hw 95 rfl) (by decide) (by decide)) (g := (mkF m 7 #[.val (.ref ad1), .val (.long lv1), .second, .unset, .unset, .unset] [(.long (2147483648 : Int64)), (.long lv1), (.long (-2147483648 : Int64))])) rfl (by rw [hml]; rfl) (argsL := [(.long lv1), (.long (2147483648 : Int64))]) (rest := [(.long (-2147483648 : Int64))]) (lenOf pd_14 rfl) rfl (by show 2 * 0 + _ ≤ _; exact Nat.le_of_eq rfl) (hb hby d23_7) (fun _ _ => ⟨rfl, e0, (by decide : 0 + 0 ≤ _), (by decide : 0 + 0 ≤ _)⟩)
  dsimp only [Pt.U, Pt.locs, Pt.cells, Pt.slots] at X1 l1 y1 z1 st1 hQ1
  subst l1 y1 z1
  obtain ⟨rfl, Nq1, e1⟩ := hQ1
  have N1 := Fr.app N0 Nq1
  refine Go.step st1 ?_
  show Go p e below _ (T1.setTop (mkF m 10 #[.val (.ref ad1), .val (.long lv1), .second, .unset, .unset, .unset] [(.long (mnL lv1 (2147483648 : Int64))), (.long (-2147483648 : Int64))]))
  obtain ⟨_, _, ⟨T2, L2, k2, n2⟩, -, X2, ⟨Lc2, hQ2, l2, y2, z2⟩, st2⟩ := Jvm.LawKit.callS X1 hx (y := y_25) hown (mvT hZ (wd hw 188 rfl)) (mvT hZ (wd hw 189 rfl)) (mvT hZ (wd hw 95 rfl)) (mvT hZ (wd hw 190 rfl)) (by decide) (backOf (W := 0) (rm25 l Z a0 hw [] a_EMPTY_ELEMENTDATA aw0 ka_EMPTY_ELEMENTDATA kaw0 HW (-2147483648 : Int64) (mnL lv1 (2147483648 : Int64)) (mxL (-2147483648 : Int64) (mnL lv1 (2147483648 : Int64))) h0 n0 Ol rfl) hZ (wd hw 190 rfl) (wd hw 95 rfl) (by decide) (by decide)) (g := (mkF m 10 #[.val (.ref ad1), .val (.long lv1), .second, .unset, .unset, .unset] [(.long (mnL lv1 (2147483648 : Int64))), (.long (-2147483648 : Int64))])) rfl (by rw [hml]; rfl) (argsL := [(.long (-2147483648 : Int64)), (.long (mnL lv1 (2147483648 : Int64)))]) (rest := []) (lenOf pd_14 rfl) rfl (by show 2 * 0 + _ ≤ _; exact Nat.le_of_eq rfl) (hb hby d23_10) (fun _ _ => ⟨rfl, e1, (by decide : 0 + 0 ≤ _), (by decide : 0 + 0 ≤ _)⟩)
  dsimp only [Pt.U, Pt.locs, Pt.cells, Pt.slots] at X2 l2 y2 z2 st2 hQ2
  subst l2 y2 z2
  obtain ⟨rfl, Nq2, e2⟩ := hQ2
  have N2 := Fr.app N1 Nq2
  refine Go.step st2 ?_
  show Go p e below _ (T2.setTop (mkF m 13 #[.val (.ref ad1), .val (.long lv1), .second, .unset, .unset, .unset] [(.long (mxL (-2147483648 : Int64) (mnL lv1 (2147483648 : Int64))))]))
  refine gs.lstoreN X2.here hx (hb hby d23_13) (l' := #[.val (.ref ad1), .val (.long lv1), .second, .val (.long (mxL (-2147483648 : Int64) (mnL lv1 (2147483648 : Int64)))), .second, .unset]) rfl ?_
  refine gs.aloadN X2.here hx (hb hby d23_14) rfl rfl ?_
  refine gs.getF X2 hx hZ hown (wd hw 17 rfl) Via.refl e2 HF_ad1_InitialDomain_values (hb hby d23_15) fun T3 X3 e3 => ?_
  refine Go.step (fun t_ k_ => XS.ifnonnullNo X3.here hx rfl (hb hby d23_18) rfl k_) ?_
  show Go p e below _ (T3.setTop (mkF m 21 #[.val (.ref ad1), .val (.long lv1), .second, .val (.long (mxL (-2147483648 : Int64) (mnL lv1 (2147483648 : Int64)))), .second, .unset] []))
  refine gs.aloadN X3.here hx (hb hby d23_21) rfl rfl ?_
  refine gs.getF X3 hx hZ hown (wd hw 15 rfl) Via.refl e3 HF_ad1_InitialDomain_size (hb hby d23_22) fun T4 X4 e4 => ?_
  refine Go.step (fun t_ k_ => XS.i2l X4.here hx rfl (hb hby d23_25) rfl k_) ?_
  show Go p e below _ (T4.setTop (mkF m 26 #[.val (.ref ad1), .val (.long lv1), .second, .val (.long (mxL (-2147483648 : Int64) (mnL lv1 (2147483648 : Int64)))), .second, .unset] [(.long ((200 : Int32).toInt64))]))
  rw [show ((200 : Int32).toInt64) = (200 : Int64) from by decide]
  refine Go.step (fun t_ k_ => XS.lconst X4.here hx rfl (hb hby d23_26) k_) ?_
  show Go p e below _ (T4.setTop (mkF m 27 #[.val (.ref ad1), .val (.long lv1), .second, .val (.long (mxL (-2147483648 : Int64) (mnL lv1 (2147483648 : Int64)))), .second, .unset] [(.long (0 : Int64)), (.long (200 : Int64))]))
  refine gs.lloadN X4.here hx (hb hby d23_27) rfl ?_
  refine gs.aloadN X4.here hx (hb hby d23_28) rfl rfl ?_
  refine gs.getF X4 hx hZ hown (wd hw 13 rfl) Via.refl e4 HF_ad1_InitialDomain_lowest (hb hby d23_29) fun T5 X5 e5 => ?_
  refine Go.step (fun t_ k_ => XS.i2l X5.here hx rfl (hb hby d23_32) rfl k_) ?_
  show Go p e below _ (T5.setTop (mkF m 33 #[.val (.ref ad1), .val (.long lv1), .second, .val (.long (mxL (-2147483648 : Int64) (mnL lv1 (2147483648 : Int64)))), .second, .unset] [(.long ((0 : Int32).toInt64)), (.long (mxL (-2147483648 : Int64) (mnL lv1 (2147483648 : Int64)))), (.long (0 : Int64)), (.long (200 : Int64))]))
  rw [show ((0 : Int32).toInt64) = (0 : Int64) from by decide]
  refine gs.lsub X5.here hx (hb hby d23_33) ?_
  obtain ⟨_, _, ⟨T6, L6, k6, n6⟩, -, X6, ⟨Lc6, hQ6, l6, y6, z6⟩, st6⟩ := Jvm.LawKit.callS X5 hx (y := y_25) hown (mvT hZ (wd hw 188 rfl)) (mvT hZ (wd hw 189 rfl)) (mvT hZ (wd hw 95 rfl)) (mvT hZ (wd hw 190 rfl)) (by decide) (backOf (W := 2) (rm25 l Z a0 hw [] a_EMPTY_ELEMENTDATA aw0 ka_EMPTY_ELEMENTDATA kaw0 HW (0 : Int64) ((mxL (-2147483648 : Int64) (mnL lv1 (2147483648 : Int64))) - (0 : Int64)) (mxL (0 : Int64) ((mxL (-2147483648 : Int64) (mnL lv1 (2147483648 : Int64))) - (0 : Int64))) h0 n0 Ol rfl) hZ (wd hw 190 rfl) (wd hw 95 rfl) (by decide) (by decide)) (g := (mkF m 34 #[.val (.ref ad1), .val (.long lv1), .second, .val (.long (mxL (-2147483648 : Int64) (mnL lv1 (2147483648 : Int64)))), .second, .unset] [(.long ((mxL (-2147483648 : Int64) (mnL lv1 (2147483648 : Int64))) - (0 : Int64))), (.long (0 : Int64)), (.long (200 : Int64))])) rfl (by rw [hml]; rfl) (argsL := [(.long (0 : Int64)), (.long ((mxL (-2147483648 : Int64) (mnL lv1 (2147483648 : Int64))) - (0 : Int64)))]) (rest := [(.long (200 : Int64))]) (lenOf pd_14 rfl) rfl (by show 2 * 0 + _ ≤ _; exact Nat.le_of_eq rfl) (hb hby d23_34) (fun _ _ => ⟨rfl, e5, (by decide : 0 + 0 ≤ _), (by decide : 0 + 0 ≤ _)⟩)
  dsimp only [Pt.U, Pt.locs, Pt.cells, Pt.slots] at X6 l6 y6 z6 st6 hQ6
  subst l6 y6 z6
  obtain ⟨rfl, Nq6, e6⟩ := hQ6
  have N6 := Fr.app N2 Nq6
  refine Go.step st6 ?_
  show Go p e below _ (T6.setTop (mkF m 37 #[.val (.ref ad1), .val (.long lv1), .second, .val (.long (mxL (-2147483648 : Int64) (mnL lv1 (2147483648 : Int64)))), .second, .unset] [(.long (mxL (0 : Int64) ((mxL (-2147483648 : Int64) (mnL lv1 (2147483648 : Int64))) - (0 : Int64)))), (.long (200 : Int64))]))
  obtain ⟨_, _, ⟨T7, L7, k7, n7⟩, -, X7, ⟨Lc7, hQ7, l7, y7, z7⟩, st7⟩ := Jvm.LawKit.callS X6 hx (y := y_24) hown (mvT hZ (wd hw 185 rfl)) (mvT hZ (wd hw 186 rfl)) (mvT hZ (wd hw 95 rfl)) (mvT hZ (wd hw 187 rfl)) (by decide) (backOf (W := 0) (rm24 l Z a0 hw [] a_EMPTY_ELEMENTDATA aw0 ka_EMPTY_ELEMENTDATA kaw0 HW (200 : Int64) (mxL (0 : Int64) ((mxL (-2147483648 : Int64) (mnL lv1 (2147483648 : Int64))) - (0 : Int64))) (mnL (200 : Int64) (mxL (0 : Int64) ((mxL (-2147483648 : Int64) (mnL lv1 (2147483648 : Int64))) - (0 : Int64)))) h0 n0 Ol rfl) hZ (wd hw 187 rfl) (wd hw 95 rfl) (by decide) (by decide)) (g := (mkF m 37 #[.val (.ref ad1), .val (.long lv1), .second, .val (.long (mxL (-2147483648 : Int64) (mnL lv1 (2147483648 : Int64)))), .second, .unset] [(.long (mxL (0 : Int64) ((mxL (-2147483648 : Int64) (mnL lv1 (2147483648 : Int64))) - (0 : Int64)))), (.long (200 : Int64))])) rfl (by rw [hml]; rfl) (argsL := [(.long (200 : Int64)), (.long (mxL (0 : Int64) ((mxL (-2147483648 : Int64) (mnL lv1 (2147483648 : Int64))) - (0 : Int64))))]) (rest := []) (lenOf pd_14 rfl) rfl (by show 2 * 0 + _ ≤ _; exact Nat.le_of_eq rfl) (hb hby d23_37) (fun _ _ => ⟨rfl, e6, (by decide : 0 + 0 ≤ _), (by decide : 0 + 0 ≤ _)⟩)
  dsimp only [Pt.U, Pt.locs, Pt.cells, Pt.slots] at X7 l7 y7 z7 st7 hQ7
  subst l7 y7 z7
  obtain ⟨rfl, Nq7, e7⟩ := hQ7
  have N7 := Fr.app N6 Nq7
  refine Go.step st7 ?_
  show Go p e below _ (T7.setTop (mkF m 40 #[.val (.ref ad1), .val (.long lv1), .second, .val (.long (mxL (-2147483648 : Int64) (mnL lv1 (2147483648 : Int64)))), .second, .unset] [(.long (mnL (200 : Int64) (mxL (0 : Int64) ((mxL (-2147483648 : Int64) (mnL lv1 (2147483648 : Int64))) - (0 : Int64)))))]))
  refine Go.step (fun t_ k_ => XS.l2i X7.here hx rfl (hb hby d23_40) rfl k_) ?_
  show Go p e below _ (T7.setTop (mkF m 41 #[.val (.ref ad1), .val (.long lv1), .second, .val (.long (mxL (-2147483648 : Int64) (mnL lv1 (2147483648 : Int64)))), .second, .unset] [(.int ((mnL (200 : Int64) (mxL (0 : Int64) ((mxL (-2147483648 : Int64) (mnL lv1 (2147483648 : Int64))) - (0 : Int64)))).toInt32))]))
  rw [show ((mnL (200 : Int64) (mxL (0 : Int64) ((mxL (-2147483648 : Int64) (mnL lv1 (2147483648 : Int64))) - (0 : Int64)))).toInt32) = (lv1.toInt32) from eq0]
  refine Go.retI X7 hx Bd.returns Bd.notSynchronized (hb hby d23_41) (by rw [e7]; exact ⟨rfl, N7, rfl⟩) (by decide) (by decide)
theorem pd_15 : parseMethodDescriptor "(J)I" = some ⟨[.long], some .int⟩ := by decide +kernel
theorem d22_10 : decode prog_11_method_20_code 10 = .ok (.istore 4, 2) := by decide +kernel
theorem d22_12 : decode prog_11_method_20_code 12 = .ok (.aload_n 0, 1) := by decide +kernel
theorem d22_13 : decode prog_11_method_20_code 13 = .ok (.getfield 40, 3) := by decide +kernel
theorem d22_16 : decode prog_11_method_20_code 16 = .ok (.iload_n 1, 1) := by decide +kernel
theorem d22_17 : decode prog_11_method_20_code 17 = .ok (.iaload, 1) := by decide +kernel
theorem d22_18 : decode prog_11_method_20_code 18 = .ok (.ifCond .le 21, 3) := by decide +kernel
theorem d22_21 : decode prog_11_method_20_code 21 = .ok (.iload 4, 2) := by decide +kernel
theorem d22_23 : decode prog_11_method_20_code 23 = .ok (.aload_n 0, 1) := by decide +kernel
theorem d22_24 : decode prog_11_method_20_code 24 = .ok (.getfield 29, 3) := by decide +kernel
theorem d22_27 : decode prog_11_method_20_code 27 = .ok (.iload_n 1, 1) := by decide +kernel
theorem d22_28 : decode prog_11_method_20_code 28 = .ok (.iaload, 1) := by decide +kernel
theorem d22_29 : decode prog_11_method_20_code 29 = .ok (.if_icmp .le 10, 3) := by decide +kernel
theorem d22_32 : decode prog_11_method_20_code 32 = .ok (.aload_n 0, 1) := by decide +kernel
theorem d22_33 : decode prog_11_method_20_code 33 = .ok (.iload_n 1, 1) := by decide +kernel
theorem d22_34 : decode prog_11_method_20_code 34 = .ok (.iload 4, 2) := by decide +kernel
theorem d22_36 : decode prog_11_method_20_code 36 = .ok (.invokevirtual 117, 3) := by decide +kernel
theorem d34_0 : decode prog_11_method_23_code 0 = .ok (.iload_n 2, 1) := by decide +kernel
theorem d34_1 : decode prog_11_method_23_code 1 = .ok (.aload_n 0, 1) := by decide +kernel
theorem d34_2 : decode prog_11_method_23_code 2 = .ok (.getfield 32, 3) := by decide +kernel
theorem d34_5 : decode prog_11_method_23_code 5 = .ok (.iload_n 1, 1) := by decide +kernel
theorem d34_6 : decode prog_11_method_23_code 6 = .ok (.iaload, 1) := by decide +kernel
theorem d34_7 : decode prog_11_method_23_code 7 = .ok (.if_icmp .le 14, 3) := by decide +kernel
theorem d34_21 : decode prog_11_method_23_code 21 = .ok (.aload_n 0, 1) := by decide +kernel
theorem d34_22 : decode prog_11_method_23_code 22 = .ok (.iload_n 1, 1) := by decide +kernel
theorem d34_23 : decode prog_11_method_23_code 23 = .ok (.iload_n 2, 1) := by decide +kernel
theorem d34_24 : decode prog_11_method_23_code 24 = .ok (.invokevirtual 84, 3) := by decide +kernel
theorem d35_0 : decode prog_11_method_14_code 0 = .ok (.iload_n 2, 1) := by decide +kernel
theorem d35_1 : decode prog_11_method_14_code 1 = .ok (.aload_n 0, 1) := by decide +kernel
theorem d35_2 : decode prog_11_method_14_code 2 = .ok (.getfield 32, 3) := by decide +kernel
theorem d35_5 : decode prog_11_method_14_code 5 = .ok (.iload_n 1, 1) := by decide +kernel
theorem d35_6 : decode prog_11_method_14_code 6 = .ok (.iaload, 1) := by decide +kernel
theorem d35_7 : decode prog_11_method_14_code 7 = .ok (.if_icmp .le 5, 3) := by decide +kernel
theorem d35_12 : decode prog_11_method_14_code 12 = .ok (.aload_n 0, 1) := by decide +kernel
theorem d35_13 : decode prog_11_method_14_code 13 = .ok (.getfield 36, 3) := by decide +kernel
theorem d35_16 : decode prog_11_method_14_code 16 = .ok (.iload_n 1, 1) := by decide +kernel
theorem d35_17 : decode prog_11_method_14_code 17 = .ok (.aaload, 1) := by decide +kernel
theorem d35_18 : decode prog_11_method_14_code 18 = .ok (.astore_n 3, 1) := by decide +kernel
theorem d35_19 : decode prog_11_method_14_code 19 = .ok (.aload_n 3, 1) := by decide +kernel
theorem d35_20 : decode prog_11_method_14_code 20 = .ok (.ifnonnull 5, 3) := by decide +kernel
theorem d35_23 : decode prog_11_method_14_code 23 = .ok (.iload_n 2, 1) := by decide +kernel
theorem d35_24 : decode prog_11_method_14_code 24 = .ok (.ireturn, 1) := by decide +kernel
theorem ef_am35_1 (m : MethodId) (x0 : Addr) (x1 : Int32) (x2 : Int32)  : entryFrame m #[(.ref x0), (.int x1), (.int x2)] 7 = mkF m 0 #[.val (.ref x0), .val (.int x1), .val (.int x2), .unset, .unset, .unset, .unset] [] := by first | (simp [entryFrame, mkF, argsToLocals, Value.category]; done) | rfl
def Q_am35_1 (Z : State) (a_EMPTY_ELEMENTDATA : Addr) (aw0 : Addr) (ka_EMPTY_ELEMENTDATA : ClassId) (kaw0 : ClassId) (ad1 : Addr) (iv1 : Int32) (ad8 : Addr) (ad9 : Addr) (kc1 : ClassId) (kc6 : ClassId) (h0 : Heap) (n0 : Nat) (v : Option Value) (h : Heap) (L : List Loc) : Prop := v = some (.int iv1) ∧ Fr n0 L ∧ h = h0
set_option maxRecDepth 65536 in
set_option maxHeartbeats 40000000 in
theorem am35_1 (l : Launch) (Z : State) (a0 : Array Value) (hw : ∀ d ∈ tables_1, d.before a0 Z = true) (ws : List Jvm.Cond) (a_EMPTY_ELEMENTDATA : Addr) (aw0 : Addr) (ka_EMPTY_ELEMENTDATA : ClassId) (kaw0 : ClassId) (HW : Wd Z a_EMPTY_ELEMENTDATA aw0 ka_EMPTY_ELEMENTDATA kaw0) (ad1 : Addr) (iv1 : Int32) (ad8 : Addr) (ad9 : Addr) (kc1 : ClassId) (kc6 : ClassId) (h0 : Heap) (n0 : Nat) (Ol : Old Z n0 h0) (HF_ad1_Domains_upper : Fld Z h0 ad1 "com/example/monarc/monarc/Domains" "upper" "[I" (.ref ad8)) (HF_ad1_Domains_holes : Fld Z h0 ad1 "com/example/monarc/monarc/Domains" "holes" "[[J" (.ref ad9)) (HV_ad9 : Arv Z h0 ad9 kc1 (.array .long) (2 : Int32) [.null, .null] .null) (HV_ad8 : Arv Z h0 ad8 kc6 .int (2 : Int32) [(.int (199 : Int32)), (.int (99 : Int32))] (.int (0 : Int32))) (as0 : ¬ ((199 : Int32) < iv1)) (hO_ad9 : OvrA Z kc1 .long "[J") :
    MetFree l y_35 (head1 (Jvm.Cond.code y_35 prog_11_method_14_code 7 (some .int) :: ws) ({ frames := 0, cells := 0, slots := 0, locals := 0 } : Room)) (fun a_ U_ => a_ = #[(.ref ad1), (.int (0 : Int32)), (.int iv1)] ∧ Z.Warmed39 U_.vm ∧ U_.heap = h0) (fun _ _ _ _ _ => True) (fun _ U_ o_ V_ => ∃ v_ L_, o_ = .returned v_ ∧ Q_am35_1 Z a_EMPTY_ELEMENTDATA aw0 ka_EMPTY_ELEMENTDATA kaw0 ad1 iv1 ad8 ad9 kc1 kc6 h0 n0 v_ V_.heap L_ ∧ FrameEnd U_ o_ V_ L_ ({ frames := 0, cells := 0, slots := 0, locals := 0 } : Room).cells ({ frames := 0, cells := 0, slots := 0, locals := 0 } : Room).slots) := by
  refine MetFree.of_bodySF (plainFor_of_name pn_8) hisR ?_
  intro p e s m args below meth c s₁ Bd hml0 hP hK
  obtain ⟨rfl, hZ, hh⟩ := hP
  have hx := Bd.exec
  have hby := Bd.bytes
  have hml : c.maxLocals = 7 := hml0
  have hown : s.vm.findClass "com/example/monarc/monarc/Domains" = some m.cls := findClass_of_methodNamed Bd.named
  have hnm := (name_of_methodNamed Bd.named Bd.method).1
  have X0 : Stand p l e ({ frames := 0, cells := 0, slots := 0, locals := 0 } : Room) s m #[(.ref ad1), (.int (0 : Int32)), (.int iv1)] below meth c s₁ [] 0 0 := Stand.of_body Bd
  have e0 : s₁.heap = h0 := by rw [← hh, Bd.state]; rfl
  have N0 := Fr.nil n0
  have kp0 := Keep.refl h0 []
  show Go p e below (Fin1 s below (Q_am35_1 Z a_EMPTY_ELEMENTDATA aw0 ka_EMPTY_ELEMENTDATA kaw0 ad1 iv1 ad8 ad9 kc1 kc6 h0 n0) ({ frames := 0, cells := 0, slots := 0, locals := 0 } : Room).cells ({ frames := 0, cells := 0, slots := 0, locals := 0 } : Room).slots) _
  refine Go.step (fun t_ k_ => castTop (ef_am35_1 m ad1 (0 : Int32) iv1) k_) ?_
  obtain ⟨Ea_EMPTY_ELEMENTDATA, Sa_EMPTY_ELEMENTDATA, Eaw0, Saw0, Aa_EMPTY_ELEMENTDATA, Aaw0⟩ := id HW
  show Go p e below _ (s₁.setTop (mkF m 0 #[.val (.ref ad1), .val (.int (0 : Int32)), .val (.int iv1), .unset, .unset, .unset, .unset] []))
  refine gs.iloadN X0.here hx (hb hby d35_0) rfl ?_
  refine gs.aloadN X0.here hx (hb hby d35_1) rfl rfl ?_
  refine gs.getF X0 hx hZ hown (wd hw 129 rfl) Via.refl e0 HF_ad1_Domains_upper (hb hby d35_2) fun T1 X1 e1 => ?_
  refine gs.iloadN X1.here hx (hb hby d35_5) rfl ?_
  obtain ⟨cl2, Ar2, q2, Sz2, Ng2, Hs2, G2⟩ := id HV_ad8
  have hin2 : ¬ ((0 : Int32) < 0 ∨ cl2.slots.size ≤ ((0 : Int32)).toNatClampNeg) := inb_of Sz2 ⟨by decide, by decide⟩
  have hat2 : cl2.slots[((0 : Int32)).toNatClampNeg]? = some (.int (199 : Int32)) := Has.at Hs2 hin2 rfl
  refine Go.step (fun t_ k_ => X1.iaload hx (j := (0 : Int32)) (v := (.int (199 : Int32))) (by rw [e1]; exact Ar2.1) (State.isArrayOf_alike hZ.alike Ar2.2.1) Ar2.2.2 hin2 hat2 (g := (mkF m 6 #[.val (.ref ad1), .val (.int (0 : Int32)), .val (.int iv1), .unset, .unset, .unset, .unset] [(.int (0 : Int32)), (.ref ad8), (.int iv1)])) rfl rfl (hb hby d35_6) _ k_) ?_
  show Go p e below _ (T1.setTop (mkF m 7 #[.val (.ref ad1), .val (.int (0 : Int32)), .val (.int iv1), .unset, .unset, .unset, .unset] [(.int (199 : Int32)), (.int iv1)]))
  have hc7 : ¬ ((199 : Int32) < iv1) := as0
  refine gs.icmpYes 12 X1.here hx (hb hby d35_7) (flt hc7).2.2.2 rfl ?_
  refine gs.aloadN X1.here hx (hb hby d35_12) rfl rfl ?_
  refine gs.getF X1 hx hZ hown (wd hw 133 rfl) Via.refl e1 HF_ad1_Domains_holes (hb hby d35_13) fun T3 X3 e3 => ?_
  refine gs.iloadN X3.here hx (hb hby d35_16) rfl ?_
  obtain ⟨cl4, Ar4, q4, Sz4, Ng4, Hs4, G4⟩ := id HV_ad9
  have hin4 : ¬ ((0 : Int32) < 0 ∨ cl4.slots.size ≤ ((0 : Int32)).toNatClampNeg) := inb_of Sz4 ⟨by decide, by decide⟩
  have hat4 : cl4.slots[((0 : Int32)).toNatClampNeg]? = some .null := Has.at Hs4 hin4 rfl
  refine Go.step (fun t_ k_ => X3.aaload hx (j := (0 : Int32)) (v := .null) (by rw [e3]; exact Ar4.1) (State.isArrayOf_alike hZ.alike Ar4.2.1) rfl Ar4.2.2 hin4 hat4 (g := (mkF m 17 #[.val (.ref ad1), .val (.int (0 : Int32)), .val (.int iv1), .unset, .unset, .unset, .unset] [(.int (0 : Int32)), (.ref ad9)])) rfl rfl (hb hby d35_17) _ k_) ?_
  show Go p e below _ (T3.setTop (mkF m 18 #[.val (.ref ad1), .val (.int (0 : Int32)), .val (.int iv1), .unset, .unset, .unset, .unset] [.null]))
  refine gs.astoreN X3.here hx (hb hby d35_18) rfl (l' := #[.val (.ref ad1), .val (.int (0 : Int32)), .val (.int iv1), .val .null, .unset, .unset, .unset]) rfl ?_
  refine gs.aloadN X3.here hx (hb hby d35_19) rfl rfl ?_
  refine Go.step (fun t_ k_ => XS.ifnonnullNo X3.here hx rfl (hb hby d35_20) rfl k_) ?_
  show Go p e below _ (T3.setTop (mkF m 23 #[.val (.ref ad1), .val (.int (0 : Int32)), .val (.int iv1), .val .null, .unset, .unset, .unset] []))
  refine gs.iloadN X3.here hx (hb hby d35_23) rfl ?_
  refine Go.retI X3 hx Bd.returns Bd.notSynchronized (hb hby d35_24) (by rw [e3]; exact ⟨rfl, N0, rfl⟩) (by decide) (by decide)
theorem d34_27 : decode prog_11_method_23_code 27 = .ok (.istore_n 3, 1) := by decide +kernel
theorem d34_28 : decode prog_11_method_23_code 28 = .ok (.aload_n 0, 1) := by decide +kernel
theorem d34_29 : decode prog_11_method_23_code 29 = .ok (.getfield 29, 3) := by decide +kernel
theorem d34_32 : decode prog_11_method_23_code 32 = .ok (.iload_n 1, 1) := by decide +kernel
theorem d34_33 : decode prog_11_method_23_code 33 = .ok (.iaload, 1) := by decide +kernel
theorem d34_34 : decode prog_11_method_23_code 34 = .ok (.istore 4, 2) := by decide +kernel
theorem d34_36 : decode prog_11_method_23_code 36 = .ok (.aload_n 0, 1) := by decide +kernel
theorem d34_37 : decode prog_11_method_23_code 37 = .ok (.iload_n 1, 1) := by decide +kernel
theorem d34_38 : decode prog_11_method_23_code 38 = .ok (.aload_n 0, 1) := by decide +kernel
theorem d34_39 : decode prog_11_method_23_code 39 = .ok (.getfield 40, 3) := by decide +kernel
theorem d34_42 : decode prog_11_method_23_code 42 = .ok (.iload_n 1, 1) := by decide +kernel
theorem d34_43 : decode prog_11_method_23_code 43 = .ok (.iaload, 1) := by decide +kernel
theorem d34_44 : decode prog_11_method_23_code 44 = .ok (.aload_n 0, 1) := by decide +kernel
theorem d34_45 : decode prog_11_method_23_code 45 = .ok (.iload_n 1, 1) := by decide +kernel
theorem d34_46 : decode prog_11_method_23_code 46 = .ok (.iload 4, 2) := by decide +kernel
theorem d34_48 : decode prog_11_method_23_code 48 = .ok (.iload_n 3, 1) := by decide +kernel
theorem d34_49 : decode prog_11_method_23_code 49 = .ok (.invokevirtual 143, 3) := by decide +kernel
theorem d30_0 : decode prog_11_method_16_code 0 = .ok (.aload_n 0, 1) := by decide +kernel
theorem d30_1 : decode prog_11_method_16_code 1 = .ok (.getfield 36, 3) := by decide +kernel
theorem d30_4 : decode prog_11_method_16_code 4 = .ok (.iload_n 1, 1) := by decide +kernel
theorem d30_5 : decode prog_11_method_16_code 5 = .ok (.aaload, 1) := by decide +kernel
theorem d30_6 : decode prog_11_method_16_code 6 = .ok (.astore 4, 2) := by decide +kernel
theorem d30_8 : decode prog_11_method_16_code 8 = .ok (.aload 4, 2) := by decide +kernel
theorem d30_10 : decode prog_11_method_16_code 10 = .ok (.ifnull 8, 3) := by decide +kernel
theorem d30_18 : decode prog_11_method_16_code 18 = .ok (.iconst 0, 1) := by decide +kernel
theorem d30_19 : decode prog_11_method_16_code 19 = .ok (.iload_n 3, 1) := by decide +kernel
theorem d30_20 : decode prog_11_method_16_code 20 = .ok (.iload_n 2, 1) := by decide +kernel
theorem d30_21 : decode prog_11_method_16_code 21 = .ok (.isub, 1) := by decide +kernel
theorem d30_22 : decode prog_11_method_16_code 22 = .ok (.invokestatic 71, 3) := by decide +kernel
theorem d30_25 : decode prog_11_method_16_code 25 = .ok (.ireturn, 1) := by decide +kernel
theorem ef_am30_1 (m : MethodId) (x0 : Addr) (x1 : Int32) (x2 : Int32) (x3 : Int32)  : entryFrame m #[(.ref x0), (.int x1), (.int x2), (.int x3)] 13 = mkF m 0 #[.val (.ref x0), .val (.int x1), .val (.int x2), .val (.int x3), .unset, .unset, .unset, .unset, .unset, .unset, .unset, .unset, .unset] [] := by first | (simp [entryFrame, mkF, argsToLocals, Value.category]; done) | rfl
def Q_am30_1 (Z : State) (a_EMPTY_ELEMENTDATA : Addr) (aw0 : Addr) (ka_EMPTY_ELEMENTDATA : ClassId) (kaw0 : ClassId) (ad1 : Addr) (iv1 : Int32) (ad9 : Addr) (kc1 : ClassId) (h0 : Heap) (n0 : Nat) (v : Option Value) (h : Heap) (L : List Loc) : Prop := v = some (.int iv1) ∧ Fr n0 L ∧ h = h0
set_option maxRecDepth 65536 in
set_option maxHeartbeats 40000000 in
theorem am30_1 (l : Launch) (Z : State) (a0 : Array Value) (hw : ∀ d ∈ tables_1, d.before a0 Z = true) (ws : List Jvm.Cond) (a_EMPTY_ELEMENTDATA : Addr) (aw0 : Addr) (ka_EMPTY_ELEMENTDATA : ClassId) (kaw0 : ClassId) (HW : Wd Z a_EMPTY_ELEMENTDATA aw0 ka_EMPTY_ELEMENTDATA kaw0) (ad1 : Addr) (iv1 : Int32) (ad9 : Addr) (kc1 : ClassId) (h0 : Heap) (n0 : Nat) (Ol : Old Z n0 h0) (HF_ad1_Domains_holes : Fld Z h0 ad1 "com/example/monarc/monarc/Domains" "holes" "[[J" (.ref ad9)) (HV_ad9 : Arv Z h0 ad9 kc1 (.array .long) (2 : Int32) [.null, .null] .null) (eq0 : (mxI (0 : Int32) (iv1 - (0 : Int32))) = iv1) (hO_ad9 : OvrA Z kc1 .long "[J") :
    MetFree l y_30 (head1 (Jvm.Cond.code y_30 prog_11_method_16_code 13 (some .int) :: ws) ({ frames := 1, cells := 0, slots := 0, locals := 13 } : Room)) (fun a_ U_ => a_ = #[(.ref ad1), (.int (0 : Int32)), (.int (0 : Int32)), (.int iv1)] ∧ Z.Warmed39 U_.vm ∧ U_.heap = h0) (fun _ _ _ _ _ => True) (fun _ U_ o_ V_ => ∃ v_ L_, o_ = .returned v_ ∧ Q_am30_1 Z a_EMPTY_ELEMENTDATA aw0 ka_EMPTY_ELEMENTDATA kaw0 ad1 iv1 ad9 kc1 h0 n0 v_ V_.heap L_ ∧ FrameEnd U_ o_ V_ L_ ({ frames := 1, cells := 0, slots := 0, locals := 13 } : Room).cells ({ frames := 1, cells := 0, slots := 0, locals := 13 } : Room).slots) := by
  refine MetFree.of_bodySF (plainFor_of_name pn_8) hisR ?_
  intro p e s m args below meth c s₁ Bd hml0 hP hK
  obtain ⟨rfl, hZ, hh⟩ := hP
  have hx := Bd.exec
  have hby := Bd.bytes
  have hml : c.maxLocals = 13 := hml0
  have hown : s.vm.findClass "com/example/monarc/monarc/Domains" = some m.cls := findClass_of_methodNamed Bd.named
  have hnm := (name_of_methodNamed Bd.named Bd.method).1
  have X0 : Stand p l e ({ frames := 1, cells := 0, slots := 0, locals := 13 } : Room) s m #[(.ref ad1), (.int (0 : Int32)), (.int (0 : Int32)), (.int iv1)] below meth c s₁ [] 0 0 := Stand.of_body Bd
  have e0 : s₁.heap = h0 := by rw [← hh, Bd.state]; rfl
  have N0 := Fr.nil n0
  have kp0 := Keep.refl h0 []
  show Go p e below (Fin1 s below (Q_am30_1 Z a_EMPTY_ELEMENTDATA aw0 ka_EMPTY_ELEMENTDATA kaw0 ad1 iv1 ad9 kc1 h0 n0) ({ frames := 1, cells := 0, slots := 0, locals := 13 } : Room).cells ({ frames := 1, cells := 0, slots := 0, locals := 13 } : Room).slots) _
  refine Go.step (fun t_ k_ => castTop (ef_am30_1 m ad1 (0 : Int32) (0 : Int32) iv1) k_) ?_
  obtain ⟨Ea_EMPTY_ELEMENTDATA, Sa_EMPTY_ELEMENTDATA, Eaw0, Saw0, Aa_EMPTY_ELEMENTDATA, Aaw0⟩ := id HW
  show Go p e below _ (s₁.setTop (mkF m 0 #[.val (.ref ad1), .val (.int (0 : Int32)), .val (.int (0 : Int32)), .val (.int iv1), .unset, .unset, .unset, .unset, .unset, .unset, .unset, .unset, .unset] []))
  refine gs.aloadN X0.here hx (hb hby d30_0) rfl rfl ?_
  refine gs.getF X0 hx hZ hown (wd hw 133 rfl) Via.refl e0 HF_ad1_Domains_holes (hb hby d30_1) fun T1 X1 e1 => ?_
  refine gs.iloadN X1.here hx (hb hby d30_4) rfl ?_
  obtain ⟨cl2, Ar2, q2, Sz2, Ng2, Hs2, G2⟩ := id HV_ad9
  have hin2 : ¬ ((0 : Int32) < 0 ∨ cl2.slots.size ≤ ((0 : Int32)).toNatClampNeg) := inb_of Sz2 ⟨by decide, by decide⟩
  have hat2 : cl2.slots[((0 : Int32)).toNatClampNeg]? = some .null := Has.at Hs2 hin2 rfl
  refine Go.step (fun t_ k_ => X1.aaload hx (j := (0 : Int32)) (v := .null) (by rw [e1]; exact Ar2.1) (State.isArrayOf_alike hZ.alike Ar2.2.1) rfl Ar2.2.2 hin2 hat2 (g := (mkF m 5 #[.val (.ref ad1), .val (.int (0 : Int32)), .val (.int (0 : Int32)), .val (.int iv1), .unset, .unset, .unset, .unset, .unset, .unset, .unset, .unset, .unset] [(.int (0 : Int32)), (.ref ad9)])) rfl rfl (hb hby d30_5) _ k_) ?_
  show Go p e below _ (T1.setTop (mkF m 6 #[.val (.ref ad1), .val (.int (0 : Int32)), .val (.int (0 : Int32)), .val (.int iv1), .unset, .unset, .unset, .unset, .unset, .unset, .unset, .unset, .unset] [.null]))
  refine gs.astore X1.here hx (hb hby d30_6) rfl (l' := #[.val (.ref ad1), .val (.int (0 : Int32)), .val (.int (0 : Int32)), .val (.int iv1), .val .null, .unset, .unset, .unset, .unset, .unset, .unset, .unset, .unset]) rfl ?_
  refine gs.aload X1.here hx (hb hby d30_8) rfl rfl ?_
  refine Go.step (fun t_ k_ => XS.ifnullYes X1.here hx rfl (pc0 := 10) (pc' := 18) rfl (hb hby d30_10) rfl (by decide) (by decide) k_) ?_
  show Go p e below _ (T1.setTop (mkF m 18 #[.val (.ref ad1), .val (.int (0 : Int32)), .val (.int (0 : Int32)), .val (.int iv1), .val .null, .unset, .unset, .unset, .unset, .unset, .unset, .unset, .unset] []))
  refine gs.iconst 0 X1.here hx (hb hby d30_18) rfl ?_
  refine gs.iloadN X1.here hx (hb hby d30_19) rfl ?_
  refine gs.iloadN X1.here hx (hb hby d30_20) rfl ?_
  refine gs.isub X1.here hx (hb hby d30_21) ?_
  obtain ⟨_, _, ⟨T3, L3, k3, n3⟩, -, X3, ⟨Lc3, hQ3, l3, y3, z3⟩, st3⟩ := Jvm.LawKit.callS X1 hx (y := y_13) hown (mvT hZ (wd hw 215 rfl)) (mvT hZ (wd hw 94 rfl)) (mvT hZ (wd hw 95 rfl)) (mvT hZ (wd hw 96 rfl)) (by decide) (backOf (W := 0) (rm13 l Z a0 hw [] a_EMPTY_ELEMENTDATA aw0 ka_EMPTY_ELEMENTDATA kaw0 HW (0 : Int32) (iv1 - (0 : Int32)) (mxI (0 : Int32) (iv1 - (0 : Int32))) h0 n0 Ol rfl) hZ (wd hw 96 rfl) (wd hw 95 rfl) (by decide) (by decide)) (g := (mkF m 22 #[.val (.ref ad1), .val (.int (0 : Int32)), .val (.int (0 : Int32)), .val (.int iv1), .val .null, .unset, .unset, .unset, .unset, .unset, .unset, .unset, .unset] [(.int (iv1 - (0 : Int32))), (.int (0 : Int32))])) rfl (by rw [hml]; rfl) (argsL := [(.int (0 : Int32)), (.int (iv1 - (0 : Int32)))]) (rest := []) (lenOf pd_4 rfl) rfl (by show 2 * 0 + _ ≤ _; exact Nat.le_of_eq rfl) (hb hby d30_22) (fun _ _ => ⟨rfl, e1, (by decide : 0 + 0 ≤ _), (by decide : 0 + 0 ≤ _)⟩)
  dsimp only [Pt.U, Pt.locs, Pt.cells, Pt.slots] at X3 l3 y3 z3 st3 hQ3
  subst l3 y3 z3
  obtain ⟨rfl, Nq3, e3⟩ := hQ3
  have N3 := Fr.app N0 Nq3
  refine Go.step st3 ?_
  show Go p e below _ (T3.setTop (mkF m 25 #[.val (.ref ad1), .val (.int (0 : Int32)), .val (.int (0 : Int32)), .val (.int iv1), .val .null, .unset, .unset, .unset, .unset, .unset, .unset, .unset, .unset] [(.int (mxI (0 : Int32) (iv1 - (0 : Int32))))]))
  rw [show (mxI (0 : Int32) (iv1 - (0 : Int32))) = iv1 from eq0]
  refine Go.retI X3 hx Bd.returns Bd.notSynchronized (hb hby d30_25) (by rw [e3]; exact ⟨rfl, N3, rfl⟩) (by decide) (by decide)
theorem pd_16 : parseMethodDescriptor "(III)I" = some ⟨[.int, .int, .int], some .int⟩ := by decide +kernel
theorem d34_52 : decode prog_11_method_23_code 52 = .ok (.isub, 1) := by decide +kernel
theorem d34_53 : decode prog_11_method_23_code 53 = .ok (.invokevirtual 130, 3) := by decide +kernel
theorem d31_0 : decode prog_11_method_25_code 0 = .ok (.aload_n 0, 1) := by decide +kernel
theorem d31_1 : decode prog_11_method_25_code 1 = .ok (.dup, 1) := by decide +kernel
theorem d31_2 : decode prog_11_method_25_code 2 = .ok (.getfield 54, 3) := by decide +kernel
theorem d31_5 : decode prog_11_method_25_code 5 = .ok (.iload_n 2, 1) := by decide +kernel
theorem d31_6 : decode prog_11_method_25_code 6 = .ok (.iconst 1, 1) := by decide +kernel
theorem d31_15 : decode prog_11_method_25_code 15 = .ok (.aload_n 0, 1) := by decide +kernel
theorem d31_16 : decode prog_11_method_25_code 16 = .ok (.getfield 40, 3) := by decide +kernel
theorem d31_19 : decode prog_11_method_25_code 19 = .ok (.iload_n 1, 1) := by decide +kernel
theorem d31_20 : decode prog_11_method_25_code 20 = .ok (.iaload, 1) := by decide +kernel
theorem d31_21 : decode prog_11_method_25_code 21 = .ok (.iconst 1, 1) := by decide +kernel
theorem d31_22 : decode prog_11_method_25_code 22 = .ok (.if_icmp .ne 7, 3) := by decide +kernel
theorem d31_29 : decode prog_11_method_25_code 29 = .ok (.iconst 0, 1) := by decide +kernel
theorem d31_30 : decode prog_11_method_25_code 30 = .ok (.isub, 1) := by decide +kernel
theorem d31_31 : decode prog_11_method_25_code 31 = .ok (.iadd, 1) := by decide +kernel
theorem d31_32 : decode prog_11_method_25_code 32 = .ok (.putfield 54, 3) := by decide +kernel
theorem d31_35 : decode prog_11_method_25_code 35 = .ok (.aload_n 0, 1) := by decide +kernel
theorem d31_36 : decode prog_11_method_25_code 36 = .ok (.getfield 40, 3) := by decide +kernel
theorem d31_39 : decode prog_11_method_25_code 39 = .ok (.iload_n 1, 1) := by decide +kernel
theorem d31_40 : decode prog_11_method_25_code 40 = .ok (.iload_n 2, 1) := by decide +kernel
theorem d31_41 : decode prog_11_method_25_code 41 = .ok (.iastore, 1) := by decide +kernel
theorem d31_42 : decode prog_11_method_25_code 42 = .ok (.return_, 1) := by decide +kernel
theorem d31_7 : decode prog_11_method_25_code 7 = .ok (.if_icmp .ne 7, 3) := by decide +kernel
theorem d31_10 : decode prog_11_method_25_code 10 = .ok (.iconst 1, 1) := by decide +kernel
theorem d31_11 : decode prog_11_method_25_code 11 = .ok (.goto 4, 3) := by decide +kernel
theorem d31_14 : decode prog_11_method_25_code 14 = .ok (.iconst 0, 1) := by decide +kernel
theorem ef_am31_1 (m : MethodId) (x0 : Addr) (x1 : Int32) (x2 : Int32)  : entryFrame m #[(.ref x0), (.int x1), (.int x2)] 3 = mkF m 0 #[.val (.ref x0), .val (.int x1), .val (.int x2)] [] := by first | (simp [entryFrame, mkF, argsToLocals, Value.category]; done) | rfl
def Q_am31_1 (Z : State) (a_EMPTY_ELEMENTDATA : Addr) (aw0 : Addr) (ka_EMPTY_ELEMENTDATA : ClassId) (kaw0 : ClassId) (ad1 : Addr) (iv1 : Int32) (ad4 : Addr) (ad5 : Addr) (ad6 : Addr) (ad7 : Addr) (ad8 : Addr) (ad9 : Addr) (ad10 : Addr) (iv2 : Int32) (iv3 : Int32) (kc5 : ClassId) (h0 : Heap) (n0 : Nat) (v : Option Value) (h : Heap) (L : List Loc) : Prop := ∃ ex1 : Int32, v = none ∧ Fr n0 L ∧ Keep h0 h [ad1, ad10] ∧ (Exa Z h ad1 "com/example/monarc/monarc/Domains") ∧ (Fld Z h ad1 "com/example/monarc/monarc/Domains" "holes" "[[J" (.ref ad9)) ∧ (Fld Z h ad1 "com/example/monarc/monarc/Domains" "initial" "[Lcom/example/monarc/monarc/InitialDomain;" (.ref ad6)) ∧ (Fld Z h ad1 "com/example/monarc/monarc/Domains" "lower" "[I" (.ref ad7)) ∧ (Fld Z h ad1 "com/example/monarc/monarc/Domains" "marks" "[I" (.ref ad5)) ∧ (Fld Z h ad1 "com/example/monarc/monarc/Domains" "resized" "Ljava/util/function/IntConsumer;" .null) ∧ (Fld Z h ad1 "com/example/monarc/monarc/Domains" "sizes" "[I" (.ref ad10)) ∧ (Fld Z h ad1 "com/example/monarc/monarc/Domains" "trail" "[J" (.ref ad4)) ∧ (Fld Z h ad1 "com/example/monarc/monarc/Domains" "trailSize" "I" (.int iv3)) ∧ (Fld Z h ad1 "com/example/monarc/monarc/Domains" "upper" "[I" (.ref ad8)) ∧ (Fld Z h ad1 "com/example/monarc/monarc/Domains" "withOneValue" "I" (.int ex1)) ∧ (Arv Z h ad10 kc5 .int (2 : Int32) [(.int iv1), (.int (100 : Int32))] (.int (0 : Int32)))
set_option maxRecDepth 65536 in
set_option maxHeartbeats 40000000 in
theorem am31_1 (l : Launch) (Z : State) (a0 : Array Value) (hw : ∀ d ∈ tables_1, d.before a0 Z = true) (ws : List Jvm.Cond) (a_EMPTY_ELEMENTDATA : Addr) (aw0 : Addr) (ka_EMPTY_ELEMENTDATA : ClassId) (kaw0 : ClassId) (HW : Wd Z a_EMPTY_ELEMENTDATA aw0 ka_EMPTY_ELEMENTDATA kaw0) (ad1 : Addr) (iv1 : Int32) (ad4 : Addr) (ad5 : Addr) (ad6 : Addr) (ad7 : Addr) (ad8 : Addr) (ad9 : Addr) (ad10 : Addr) (iv2 : Int32) (iv3 : Int32) (kc5 : ClassId) (h0 : Heap) (n0 : Nat) (Ol : Old Z n0 h0) (HE_ad1 : Exa Z h0 ad1 "com/example/monarc/monarc/Domains") (HF_ad1_Domains_trail : Fld Z h0 ad1 "com/example/monarc/monarc/Domains" "trail" "[J" (.ref ad4)) (HF_ad1_Domains_marks : Fld Z h0 ad1 "com/example/monarc/monarc/Domains" "marks" "[I" (.ref ad5)) (HF_ad1_Domains_initial : Fld Z h0 ad1 "com/example/monarc/monarc/Domains" "initial" "[Lcom/example/monarc/monarc/InitialDomain;" (.ref ad6)) (HF_ad1_Domains_lower : Fld Z h0 ad1 "com/example/monarc/monarc/Domains" "lower" "[I" (.ref ad7)) (HF_ad1_Domains_upper : Fld Z h0 ad1 "com/example/monarc/monarc/Domains" "upper" "[I" (.ref ad8)) (HF_ad1_Domains_holes : Fld Z h0 ad1 "com/example/monarc/monarc/Domains" "holes" "[[J" (.ref ad9)) (HF_ad1_Domains_sizes : Fld Z h0 ad1 "com/example/monarc/monarc/Domains" "sizes" "[I" (.ref ad10)) (HF_ad1_Domains_withOneValue : Fld Z h0 ad1 "com/example/monarc/monarc/Domains" "withOneValue" "I" (.int iv2)) (HF_ad1_Domains_trailSize : Fld Z h0 ad1 "com/example/monarc/monarc/Domains" "trailSize" "I" (.int iv3)) (HF_ad1_Domains_resized : Fld Z h0 ad1 "com/example/monarc/monarc/Domains" "resized" "Ljava/util/function/IntConsumer;" .null) (HV_ad10 : Arv Z h0 ad10 kc5 .int (2 : Int32) [(.int (200 : Int32)), (.int (100 : Int32))] (.int (0 : Int32))) (nn_ad1 : n0 ≤ ad1) (nn_ad10 : n0 ≤ ad10) (ne_ad1_ad10 : ad1 ≠ ad10) :
    MetFree l y_31 (head1 (Jvm.Cond.code y_31 prog_11_method_25_code 3 none :: ws) ({ frames := 0, cells := 0, slots := 0, locals := 0 } : Room)) (fun a_ U_ => a_ = #[(.ref ad1), (.int (0 : Int32)), (.int iv1)] ∧ Z.Warmed39 U_.vm ∧ U_.heap = h0) (fun _ _ _ _ _ => True) (fun _ U_ o_ V_ => ∃ v_ L_, o_ = .returned v_ ∧ Q_am31_1 Z a_EMPTY_ELEMENTDATA aw0 ka_EMPTY_ELEMENTDATA kaw0 ad1 iv1 ad4 ad5 ad6 ad7 ad8 ad9 ad10 iv2 iv3 kc5 h0 n0 v_ V_.heap L_ ∧ FrameEnd U_ o_ V_ L_ ({ frames := 0, cells := 0, slots := 0, locals := 0 } : Room).cells ({ frames := 0, cells := 0, slots := 0, locals := 0 } : Room).slots) := by
  refine MetFree.of_bodySF (plainFor_of_name pn_8) hisR ?_
  intro p e s m args below meth c s₁ Bd hml0 hP hK
  obtain ⟨rfl, hZ, hh⟩ := hP
  have hx := Bd.exec
  have hby := Bd.bytes
  have hml : c.maxLocals = 3 := hml0
  have hown : s.vm.findClass "com/example/monarc/monarc/Domains" = some m.cls := findClass_of_methodNamed Bd.named
  have hnm := (name_of_methodNamed Bd.named Bd.method).1
  have X0 : Stand p l e ({ frames := 0, cells := 0, slots := 0, locals := 0 } : Room) s m #[(.ref ad1), (.int (0 : Int32)), (.int iv1)] below meth c s₁ [] 0 0 := Stand.of_body Bd
  have e0 : s₁.heap = h0 := by rw [← hh, Bd.state]; rfl
  have N0 := Fr.nil n0
  have kp0 := Keep.refl h0 [ad1, ad10]
  show Go p e below (Fin1 s below (Q_am31_1 Z a_EMPTY_ELEMENTDATA aw0 ka_EMPTY_ELEMENTDATA kaw0 ad1 iv1 ad4 ad5 ad6 ad7 ad8 ad9 ad10 iv2 iv3 kc5 h0 n0) ({ frames := 0, cells := 0, slots := 0, locals := 0 } : Room).cells ({ frames := 0, cells := 0, slots := 0, locals := 0 } : Room).slots) _
  refine Go.step (fun t_ k_ => castTop (ef_am31_1 m ad1 (0 : Int32) iv1) k_) ?_
  obtain ⟨Ea_EMPTY_ELEMENTDATA, Sa_EMPTY_ELEMENTDATA, Eaw0, Saw0, Aa_EMPTY_ELEMENTDATA, Aaw0⟩ := id HW
  show Go p e below _ (s₁.setTop (mkF m 0 #[.val (.ref ad1), .val (.int (0 : Int32)), .val (.int iv1)] []))
  refine gs.aloadN X0.here hx (hb hby d31_0) rfl rfl ?_
  refine gs.dup X0.here hx (hb hby d31_1) rfl ?_
  refine gs.getF X0 hx hZ hown (wd hw 171 rfl) Via.refl e0 HF_ad1_Domains_withOneValue (hb hby d31_2) fun T1 X1 e1 => ?_
  refine gs.iloadN X1.here hx (hb hby d31_5) rfl ?_
  refine gs.iconst 1 X1.here hx (hb hby d31_6) rfl ?_
  have J2 : ∀ z_2 : Int32, Go p e below (Fin1 s below (Q_am31_1 Z a_EMPTY_ELEMENTDATA aw0 ka_EMPTY_ELEMENTDATA kaw0 ad1 iv1 ad4 ad5 ad6 ad7 ad8 ad9 ad10 iv2 iv3 kc5 h0 n0) ({ frames := 0, cells := 0, slots := 0, locals := 0 } : Room).cells ({ frames := 0, cells := 0, slots := 0, locals := 0 } : Room).slots) (T1.setTop (mkF m 15 #[.val (.ref ad1), .val (.int (0 : Int32)), .val (.int iv1)] [(.int z_2), (.int iv2), (.ref ad1)])) := by
    intro z_2
    refine gs.aloadN X1.here hx (hb hby d31_15) rfl rfl ?_
    refine gs.getF X1 hx hZ hown (wd hw 135 rfl) Via.refl e1 HF_ad1_Domains_sizes (hb hby d31_16) fun T3 X3 e3 => ?_
    refine gs.iloadN X3.here hx (hb hby d31_19) rfl ?_
    obtain ⟨cl4, Ar4, q4, Sz4, Ng4, Hs4, G4⟩ := id HV_ad10
    have hin4 : ¬ ((0 : Int32) < 0 ∨ cl4.slots.size ≤ ((0 : Int32)).toNatClampNeg) := inb_of Sz4 ⟨by decide, by decide⟩
    have hat4 : cl4.slots[((0 : Int32)).toNatClampNeg]? = some (.int (200 : Int32)) := Has.at Hs4 hin4 rfl
    refine Go.step (fun t_ k_ => X3.iaload hx (j := (0 : Int32)) (v := (.int (200 : Int32))) (by rw [e3]; exact Ar4.1) (State.isArrayOf_alike hZ.alike Ar4.2.1) Ar4.2.2 hin4 hat4 (g := (mkF m 20 #[.val (.ref ad1), .val (.int (0 : Int32)), .val (.int iv1)] [(.int (0 : Int32)), (.ref ad10), (.int z_2), (.int iv2), (.ref ad1)])) rfl rfl (hb hby d31_20) _ k_) ?_
    show Go p e below _ (T3.setTop (mkF m 21 #[.val (.ref ad1), .val (.int (0 : Int32)), .val (.int iv1)] [(.int (200 : Int32)), (.int z_2), (.int iv2), (.ref ad1)]))
    refine gs.iconst 1 X3.here hx (hb hby d31_21) rfl ?_
    have hc22 : ¬ ((200 : Int32) = (1 : Int32)) := by decide
    refine gs.icmpYes 29 X3.here hx (hb hby d31_22) (feq hc22).2 rfl ?_
    refine gs.iconst 0 X3.here hx (hb hby d31_29) rfl ?_
    refine gs.isub X3.here hx (hb hby d31_30) ?_
    refine gs.iadd X3.here hx (hb hby d31_31) ?_
    obtain ⟨T5, h5, X5, e5, W5, st5⟩ := putF X3 hx hZ hown (host := "") (Or.inl (wd hw 171 rfl)) Via.refl e3 HF_ad1_Domains_withOneValue HE_ad1 (Or.inl (wd hw 172 rfl)) (wd hw 102 rfl) (ty := .int) (by decide) rfl rfl (g := (mkF m 32 #[.val (.ref ad1), .val (.int (0 : Int32)), .val (.int iv1)] [(.int (iv2 + (z_2 - (0 : Int32)))), (.ref ad1)])) rfl rfl (hb hby d31_32)
    have N5 := Fr.snoc X5 N0 nn_ad1
    have old5 := Ol.wr W5 nn_ad1
    have kp5 := kp0.wr W5 (Or.inl (List.mem_of_getElem? (i := 0) rfl))
    have F5 := HF_ad1_Domains_withOneValue.same W5
    refine Go.step st5 ?_
    show Go p e below _ (T5.setTop (mkF m 35 #[.val (.ref ad1), .val (.int (0 : Int32)), .val (.int iv1)] []))
    refine gs.aloadN X5.here hx (hb hby d31_35) rfl rfl ?_
    have f6 := (HF_ad1_Domains_sizes.other W5 (Or.inr (sn53 hw)))
    refine gs.getF X5 hx hZ hown (wd hw 135 rfl) Via.refl e5 f6 (hb hby d31_36) fun T7 X7 e7 => ?_
    refine gs.iloadN X7.here hx (hb hby d31_39) rfl ?_
    refine gs.iloadN X7.here hx (hb hby d31_40) rfl ?_
    have f8 := (HV_ad10.other W5 (Ne.symm ne_ad1_ad10))
    obtain ⟨cl9, Ar9, q9, Sz9, Ng9, Hs9, G9⟩ := id f8
    have hin9 : ¬ ((0 : Int32) < 0 ∨ cl9.slots.size ≤ ((0 : Int32)).toNatClampNeg) := inb_of Sz9 ⟨by decide, by decide⟩
    obtain ⟨T10, h10, X10, e10, W10, st10⟩ := stI X7 hx hZ e7 Ar9 (j := (0 : Int32)) hin9 (g := (mkF m 41 #[.val (.ref ad1), .val (.int (0 : Int32)), .val (.int iv1)] [(.int iv1), (.int (0 : Int32)), (.ref ad10)])) rfl rfl (hb hby d31_41)
    have N10 := Fr.snoc X10 N5 nn_ad10
    have old10 := old5.wr W10 nn_ad10
    have kp10 := kp5.wr W10 (Or.inl (List.mem_of_getElem? (i := 1) rfl))
    have V10 : Arv Z h10 ad10 kc5 .int (2 : Int32) [(.int iv1), (.int (100 : Int32))] (.int (0 : Int32)) := Arv.set Ar9 q9 Sz9 Ng9 Hs9 G9 rfl W10 0 rfl (Nat.le_of_ble_eq_true rfl)
    refine Go.step st10 ?_
    show Go p e below _ (T10.setTop (mkF m 42 #[.val (.ref ad1), .val (.int (0 : Int32)), .val (.int iv1)] []))
    have f11 := ((HE_ad1.wr W5).wr W10)
    have f12 := ((HF_ad1_Domains_holes.other W5 (Or.inr (sn56 hw))).other W10 (Or.inl ne_ad1_ad10))
    have f13 := ((HF_ad1_Domains_initial.other W5 (Or.inr (sn52 hw))).other W10 (Or.inl ne_ad1_ad10))
    have f14 := ((HF_ad1_Domains_lower.other W5 (Or.inr (sn60 hw))).other W10 (Or.inl ne_ad1_ad10))
    have f15 := ((HF_ad1_Domains_marks.other W5 (Or.inr (sn66 hw))).other W10 (Or.inl ne_ad1_ad10))
    have f16 := ((HF_ad1_Domains_resized.other W5 (Or.inr (sn74 hw))).other W10 (Or.inl ne_ad1_ad10))
    have f17 := (f6.other W10 (Or.inl ne_ad1_ad10))
    have f18 := ((HF_ad1_Domains_trail.other W5 (Or.inr (sn81 hw))).other W10 (Or.inl ne_ad1_ad10))
    have f19 := ((HF_ad1_Domains_trailSize.other W5 (Or.inr (sn89 hw))).other W10 (Or.inl ne_ad1_ad10))
    have f20 := ((HF_ad1_Domains_upper.other W5 (Or.inr (sn54 hw))).other W10 (Or.inl ne_ad1_ad10))
    have f21 := (F5.other W10 (Or.inl ne_ad1_ad10))
    refine Go.retV X10 hx Bd.returns Bd.notSynchronized (hb hby d31_42) (by rw [e10]; exact ⟨((iv2 + (z_2 - (0 : Int32)))), rfl, N10, kp10, f11, f12, f13, f14, f15, f16, f17, f18, f19, f20, f21, V10⟩) (by decide) (by decide)
  by_cases hc7 : iv1 = (1 : Int32)
  case pos =>
    refine gs.icmpNo X1.here hx (hb hby d31_7) (teq hc7).2 ?_
    refine gs.iconst 1 X1.here hx (hb hby d31_10) rfl ?_
    refine gs.goto 15 X1.here hx (hb hby d31_11) rfl ?_
    exact J2 _
  case neg =>
    refine gs.icmpYes 14 X1.here hx (hb hby d31_7) (feq hc7).2 rfl ?_
    refine gs.iconst 0 X1.here hx (hb hby d31_14) rfl ?_
    exact J2 _
theorem pd_17 : parseMethodDescriptor "(II)V" = some ⟨[.int, .int], none⟩ := by decide +kernel
theorem d34_56 : decode prog_11_method_23_code 56 = .ok (.aload_n 0, 1) := by decide +kernel
theorem d34_57 : decode prog_11_method_23_code 57 = .ok (.getfield 29, 3) := by decide +kernel
theorem d34_60 : decode prog_11_method_23_code 60 = .ok (.iload_n 1, 1) := by decide +kernel
theorem d34_61 : decode prog_11_method_23_code 61 = .ok (.iload_n 3, 1) := by decide +kernel
theorem d34_62 : decode prog_11_method_23_code 62 = .ok (.iastore, 1) := by decide +kernel
theorem d34_63 : decode prog_11_method_23_code 63 = .ok (.aload_n 0, 1) := by decide +kernel
theorem d34_64 : decode prog_11_method_23_code 64 = .ok (.iload_n 1, 1) := by decide +kernel
theorem d34_65 : decode prog_11_method_23_code 65 = .ok (.iconst 1, 1) := by decide +kernel
theorem d34_66 : decode prog_11_method_23_code 66 = .ok (.iload 4, 2) := by decide +kernel
theorem d34_68 : decode prog_11_method_23_code 68 = .ok (.invokevirtual 133, 3) := by decide +kernel
theorem d32_0 : decode prog_11_method_26_code 0 = .ok (.aload_n 0, 1) := by decide +kernel
theorem d32_1 : decode prog_11_method_26_code 1 = .ok (.getfield 147, 3) := by decide +kernel
theorem d32_4 : decode prog_11_method_26_code 4 = .ok (.aload_n 0, 1) := by decide +kernel
theorem d32_5 : decode prog_11_method_26_code 5 = .ok (.getfield 9, 3) := by decide +kernel
theorem d32_8 : decode prog_11_method_26_code 8 = .ok (.arraylength, 1) := by decide +kernel
theorem d32_9 : decode prog_11_method_26_code 9 = .ok (.if_icmp .ne 20, 3) := by decide +kernel
theorem d32_29 : decode prog_11_method_26_code 29 = .ok (.aload_n 0, 1) := by decide +kernel
theorem d32_30 : decode prog_11_method_26_code 30 = .ok (.getfield 9, 3) := by decide +kernel
theorem d32_33 : decode prog_11_method_26_code 33 = .ok (.aload_n 0, 1) := by decide +kernel
theorem d32_34 : decode prog_11_method_26_code 34 = .ok (.dup, 1) := by decide +kernel
theorem d32_35 : decode prog_11_method_26_code 35 = .ok (.getfield 147, 3) := by decide +kernel
theorem d32_38 : decode prog_11_method_26_code 38 = .ok (.dup_x1, 1) := by decide +kernel
theorem d32_39 : decode prog_11_method_26_code 39 = .ok (.iconst 1, 1) := by decide +kernel
theorem d32_40 : decode prog_11_method_26_code 40 = .ok (.iadd, 1) := by decide +kernel
theorem d32_41 : decode prog_11_method_26_code 41 = .ok (.putfield 147, 3) := by decide +kernel
theorem d32_44 : decode prog_11_method_26_code 44 = .ok (.iload_n 1, 1) := by decide +kernel
theorem d32_45 : decode prog_11_method_26_code 45 = .ok (.i2l, 1) := by decide +kernel
theorem d32_46 : decode prog_11_method_26_code 46 = .ok (.bipush 32, 2) := by decide +kernel
theorem d32_48 : decode prog_11_method_26_code 48 = .ok (.lshl, 1) := by decide +kernel
theorem d32_49 : decode prog_11_method_26_code 49 = .ok (.iload_n 2, 1) := by decide +kernel
theorem d32_50 : decode prog_11_method_26_code 50 = .ok (.i2l, 1) := by decide +kernel
theorem d32_51 : decode prog_11_method_26_code 51 = .ok (.bipush 30, 2) := by decide +kernel
theorem d32_53 : decode prog_11_method_26_code 53 = .ok (.lshl, 1) := by decide +kernel
theorem d32_54 : decode prog_11_method_26_code 54 = .ok (.lor, 1) := by decide +kernel
theorem d32_55 : decode prog_11_method_26_code 55 = .ok (.iload_n 3, 1) := by decide +kernel
theorem d32_56 : decode prog_11_method_26_code 56 = .ok (.i2l, 1) := by decide +kernel
theorem d32_57 : decode prog_11_method_26_code 57 = .ok (.lor, 1) := by decide +kernel
theorem d32_58 : decode prog_11_method_26_code 58 = .ok (.lastore, 1) := by decide +kernel
theorem d32_59 : decode prog_11_method_26_code 59 = .ok (.aload_n 0, 1) := by decide +kernel
theorem d32_60 : decode prog_11_method_26_code 60 = .ok (.getfield 104, 3) := by decide +kernel
theorem sn90 {a0 : Array Value} {Z : State} (hw : ∀ d ∈ tables_1, d.before a0 Z = true) : Jvm.RoadKit.slotOf Z "com/example/monarc/monarc/Domains" "resized" "Ljava/util/function/IntConsumer;" ≠ Jvm.RoadKit.slotOf Z "com/example/monarc/monarc/Domains" "trailSize" "I" := slot_ne (Or.inl (wd hw 227 rfl)) (Or.inl (wd hw 225 rfl)) (by decide) (t := (.object "java/util/function/IntConsumer")) (t' := .int) (by decide) (by decide)
theorem d32_63 : decode prog_11_method_26_code 63 = .ok (.ifnull 13, 3) := by decide +kernel
theorem d32_76 : decode prog_11_method_26_code 76 = .ok (.return_, 1) := by decide +kernel
theorem sn91 {a0 : Array Value} {Z : State} (hw : ∀ d ∈ tables_1, d.before a0 Z = true) : Jvm.RoadKit.slotOf Z "com/example/monarc/monarc/Domains" "holes" "[[J" ≠ Jvm.RoadKit.slotOf Z "com/example/monarc/monarc/Domains" "trailSize" "I" := slot_ne (Or.inr (wd hw 134 rfl)) (Or.inl (wd hw 225 rfl)) (by decide) (t := (.array (.array .long))) (t' := .int) (by decide) (by decide)
theorem sn92 {a0 : Array Value} {Z : State} (hw : ∀ d ∈ tables_1, d.before a0 Z = true) : Jvm.RoadKit.slotOf Z "com/example/monarc/monarc/Domains" "initial" "[Lcom/example/monarc/monarc/InitialDomain;" ≠ Jvm.RoadKit.slotOf Z "com/example/monarc/monarc/Domains" "trailSize" "I" := slot_ne (Or.inr (wd hw 126 rfl)) (Or.inl (wd hw 225 rfl)) (by decide) (t := (.array (.object "com/example/monarc/monarc/InitialDomain"))) (t' := .int) (by decide) (by decide)
theorem sn93 {a0 : Array Value} {Z : State} (hw : ∀ d ∈ tables_1, d.before a0 Z = true) : Jvm.RoadKit.slotOf Z "com/example/monarc/monarc/Domains" "lower" "[I" ≠ Jvm.RoadKit.slotOf Z "com/example/monarc/monarc/Domains" "trailSize" "I" := slot_ne (Or.inr (wd hw 128 rfl)) (Or.inl (wd hw 225 rfl)) (by decide) (t := (.array .int)) (t' := .int) (by decide) (by decide)
theorem sn94 {a0 : Array Value} {Z : State} (hw : ∀ d ∈ tables_1, d.before a0 Z = true) : Jvm.RoadKit.slotOf Z "com/example/monarc/monarc/Domains" "marks" "[I" ≠ Jvm.RoadKit.slotOf Z "com/example/monarc/monarc/Domains" "trailSize" "I" := slot_ne (Or.inl (wd hw 113 rfl)) (Or.inl (wd hw 225 rfl)) (by decide) (t := (.array .int)) (t' := .int) (by decide) (by decide)
theorem sn95 {a0 : Array Value} {Z : State} (hw : ∀ d ∈ tables_1, d.before a0 Z = true) : Jvm.RoadKit.slotOf Z "com/example/monarc/monarc/Domains" "sizes" "[I" ≠ Jvm.RoadKit.slotOf Z "com/example/monarc/monarc/Domains" "trailSize" "I" := slot_ne (Or.inr (wd hw 136 rfl)) (Or.inl (wd hw 225 rfl)) (by decide) (t := (.array .int)) (t' := .int) (by decide) (by decide)
theorem sn96 {a0 : Array Value} {Z : State} (hw : ∀ d ∈ tables_1, d.before a0 Z = true) : Jvm.RoadKit.slotOf Z "com/example/monarc/monarc/Domains" "trail" "[J" ≠ Jvm.RoadKit.slotOf Z "com/example/monarc/monarc/Domains" "trailSize" "I" := slot_ne (Or.inl (wd hw 110 rfl)) (Or.inl (wd hw 225 rfl)) (by decide) (t := (.array .long)) (t' := .int) (by decide) (by decide)
theorem sn97 {a0 : Array Value} {Z : State} (hw : ∀ d ∈ tables_1, d.before a0 Z = true) : Jvm.RoadKit.slotOf Z "com/example/monarc/monarc/Domains" "upper" "[I" ≠ Jvm.RoadKit.slotOf Z "com/example/monarc/monarc/Domains" "trailSize" "I" := slot_ne (Or.inr (wd hw 130 rfl)) (Or.inl (wd hw 225 rfl)) (by decide) (t := (.array .int)) (t' := .int) (by decide) (by decide)
theorem sn98 {a0 : Array Value} {Z : State} (hw : ∀ d ∈ tables_1, d.before a0 Z = true) : Jvm.RoadKit.slotOf Z "com/example/monarc/monarc/Domains" "withOneValue" "I" ≠ Jvm.RoadKit.slotOf Z "com/example/monarc/monarc/Domains" "trailSize" "I" := slot_ne (Or.inl (wd hw 172 rfl)) (Or.inl (wd hw 225 rfl)) (by decide) (t := .int) (t' := .int) (by decide) (by decide)
theorem ef_am32_1 (m : MethodId) (x0 : Addr) (x1 : Int32) (x2 : Int32) (x3 : Int32)  : entryFrame m #[(.ref x0), (.int x1), (.int x2), (.int x3)] 4 = mkF m 0 #[.val (.ref x0), .val (.int x1), .val (.int x2), .val (.int x3)] [] := by first | (simp [entryFrame, mkF, argsToLocals, Value.category]; done) | rfl
def Q_am32_1 (Z : State) (a_EMPTY_ELEMENTDATA : Addr) (aw0 : Addr) (ka_EMPTY_ELEMENTDATA : ClassId) (kaw0 : ClassId) (ad1 : Addr) (ad4 : Addr) (ad5 : Addr) (ad6 : Addr) (ad7 : Addr) (ad8 : Addr) (ad9 : Addr) (ad10 : Addr) (iv1 : Int32) (iv2 : Int32) (kc7 : ClassId) (fv5 : Nat → Int64) (h0 : Heap) (n0 : Nat) (v : Option Value) (h : Heap) (L : List Loc) : Prop := v = none ∧ Fr n0 L ∧ Keep h0 h [ad1, ad4] ∧ (Exa Z h ad1 "com/example/monarc/monarc/Domains") ∧ (Fld Z h ad1 "com/example/monarc/monarc/Domains" "holes" "[[J" (.ref ad9)) ∧ (Fld Z h ad1 "com/example/monarc/monarc/Domains" "initial" "[Lcom/example/monarc/monarc/InitialDomain;" (.ref ad6)) ∧ (Fld Z h ad1 "com/example/monarc/monarc/Domains" "lower" "[I" (.ref ad7)) ∧ (Fld Z h ad1 "com/example/monarc/monarc/Domains" "marks" "[I" (.ref ad5)) ∧ (Fld Z h ad1 "com/example/monarc/monarc/Domains" "resized" "Ljava/util/function/IntConsumer;" .null) ∧ (Fld Z h ad1 "com/example/monarc/monarc/Domains" "sizes" "[I" (.ref ad10)) ∧ (Fld Z h ad1 "com/example/monarc/monarc/Domains" "trail" "[J" (.ref ad4)) ∧ (Fld Z h ad1 "com/example/monarc/monarc/Domains" "trailSize" "I" (.int (iv2 + (1 : Int32)))) ∧ (Fld Z h ad1 "com/example/monarc/monarc/Domains" "upper" "[I" (.ref ad8)) ∧ (Fld Z h ad1 "com/example/monarc/monarc/Domains" "withOneValue" "I" (.int iv1)) ∧ (Exa Z h ad4 "[J") ∧ (Arf Z h ad4 kc7 (1024 : Int32) (fun i => if i = (iv2).toNatClampNeg then ((((0 : Int64) <<< ((32 : Int32) &&& 0x3f).toInt64) ||| ((1 : Int64) <<< ((30 : Int32) &&& 0x3f).toInt64)) ||| (0 : Int64)) else fv5 i))
set_option maxRecDepth 65536 in
set_option maxHeartbeats 40000000 in
theorem am32_1 (l : Launch) (Z : State) (a0 : Array Value) (hw : ∀ d ∈ tables_1, d.before a0 Z = true) (ws : List Jvm.Cond) (a_EMPTY_ELEMENTDATA : Addr) (aw0 : Addr) (ka_EMPTY_ELEMENTDATA : ClassId) (kaw0 : ClassId) (HW : Wd Z a_EMPTY_ELEMENTDATA aw0 ka_EMPTY_ELEMENTDATA kaw0) (ad1 : Addr) (ad4 : Addr) (ad5 : Addr) (ad6 : Addr) (ad7 : Addr) (ad8 : Addr) (ad9 : Addr) (ad10 : Addr) (iv1 : Int32) (iv2 : Int32) (kc7 : ClassId) (fv5 : Nat → Int64) (h0 : Heap) (n0 : Nat) (Ol : Old Z n0 h0) (HE_ad1 : Exa Z h0 ad1 "com/example/monarc/monarc/Domains") (HF_ad1_Domains_trail : Fld Z h0 ad1 "com/example/monarc/monarc/Domains" "trail" "[J" (.ref ad4)) (HF_ad1_Domains_marks : Fld Z h0 ad1 "com/example/monarc/monarc/Domains" "marks" "[I" (.ref ad5)) (HF_ad1_Domains_initial : Fld Z h0 ad1 "com/example/monarc/monarc/Domains" "initial" "[Lcom/example/monarc/monarc/InitialDomain;" (.ref ad6)) (HF_ad1_Domains_lower : Fld Z h0 ad1 "com/example/monarc/monarc/Domains" "lower" "[I" (.ref ad7)) (HF_ad1_Domains_upper : Fld Z h0 ad1 "com/example/monarc/monarc/Domains" "upper" "[I" (.ref ad8)) (HF_ad1_Domains_holes : Fld Z h0 ad1 "com/example/monarc/monarc/Domains" "holes" "[[J" (.ref ad9)) (HF_ad1_Domains_sizes : Fld Z h0 ad1 "com/example/monarc/monarc/Domains" "sizes" "[I" (.ref ad10)) (HF_ad1_Domains_withOneValue : Fld Z h0 ad1 "com/example/monarc/monarc/Domains" "withOneValue" "I" (.int iv1)) (HF_ad1_Domains_trailSize : Fld Z h0 ad1 "com/example/monarc/monarc/Domains" "trailSize" "I" (.int iv2)) (HF_ad1_Domains_resized : Fld Z h0 ad1 "com/example/monarc/monarc/Domains" "resized" "Ljava/util/function/IntConsumer;" .null) (HE_ad4 : Exa Z h0 ad4 "[J") (HG_ad4 : Arf Z h0 ad4 kc7 (1024 : Int32) fv5) (nn_ad1 : n0 ≤ ad1) (nn_ad4 : n0 ≤ ad4) (ne_ad1_ad4 : ad1 ≠ ad4) (as0 : 0 ≤ (iv2).toInt ∧ (iv2).toInt < ((1024 : Int32)).toInt) (as1 : ¬ (iv2 = (1024 : Int32))) :
    MetFree l y_32 (head1 (Jvm.Cond.code y_32 prog_11_method_26_code 4 none :: ws) ({ frames := 0, cells := 0, slots := 0, locals := 0 } : Room)) (fun a_ U_ => a_ = #[(.ref ad1), (.int (0 : Int32)), (.int (1 : Int32)), (.int (0 : Int32))] ∧ Z.Warmed39 U_.vm ∧ U_.heap = h0) (fun _ _ _ _ _ => True) (fun _ U_ o_ V_ => ∃ v_ L_, o_ = .returned v_ ∧ Q_am32_1 Z a_EMPTY_ELEMENTDATA aw0 ka_EMPTY_ELEMENTDATA kaw0 ad1 ad4 ad5 ad6 ad7 ad8 ad9 ad10 iv1 iv2 kc7 fv5 h0 n0 v_ V_.heap L_ ∧ FrameEnd U_ o_ V_ L_ ({ frames := 0, cells := 0, slots := 0, locals := 0 } : Room).cells ({ frames := 0, cells := 0, slots := 0, locals := 0 } : Room).slots) := by
  refine MetFree.of_bodySF (plainFor_of_name pn_8) hisR ?_
  intro p e s m args below meth c s₁ Bd hml0 hP hK
  obtain ⟨rfl, hZ, hh⟩ := hP
  have hx := Bd.exec
  have hby := Bd.bytes
  have hml : c.maxLocals = 4 := hml0
  have hown : s.vm.findClass "com/example/monarc/monarc/Domains" = some m.cls := findClass_of_methodNamed Bd.named
  have hnm := (name_of_methodNamed Bd.named Bd.method).1
  have X0 : Stand p l e ({ frames := 0, cells := 0, slots := 0, locals := 0 } : Room) s m #[(.ref ad1), (.int (0 : Int32)), (.int (1 : Int32)), (.int (0 : Int32))] below meth c s₁ [] 0 0 := Stand.of_body Bd
  have e0 : s₁.heap = h0 := by rw [← hh, Bd.state]; rfl
  have N0 := Fr.nil n0
  have kp0 := Keep.refl h0 [ad1, ad4]
  show Go p e below (Fin1 s below (Q_am32_1 Z a_EMPTY_ELEMENTDATA aw0 ka_EMPTY_ELEMENTDATA kaw0 ad1 ad4 ad5 ad6 ad7 ad8 ad9 ad10 iv1 iv2 kc7 fv5 h0 n0) ({ frames := 0, cells := 0, slots := 0, locals := 0 } : Room).cells ({ frames := 0, cells := 0, slots := 0, locals := 0 } : Room).slots) _
  refine Go.step (fun t_ k_ => castTop (ef_am32_1 m ad1 (0 : Int32) (1 : Int32) (0 : Int32)) k_) ?_
  obtain ⟨Ea_EMPTY_ELEMENTDATA, Sa_EMPTY_ELEMENTDATA, Eaw0, Saw0, Aa_EMPTY_ELEMENTDATA, Aaw0⟩ := id HW
  show Go p e below _ (s₁.setTop (mkF m 0 #[.val (.ref ad1), .val (.int (0 : Int32)), .val (.int (1 : Int32)), .val (.int (0 : Int32))] []))
  refine gs.aloadN X0.here hx (hb hby d32_0) rfl rfl ?_
  refine gs.getF X0 hx hZ hown (wd hw 224 rfl) Via.refl e0 HF_ad1_Domains_trailSize (hb hby d32_1) fun T1 X1 e1 => ?_
  refine gs.aloadN X1.here hx (hb hby d32_4) rfl rfl ?_
  refine gs.getF X1 hx hZ hown (wd hw 109 rfl) Via.refl e1 HF_ad1_Domains_trail (hb hby d32_5) fun T2 X2 e2 => ?_
  obtain ⟨cl3, Ar3, -, Sz3, Ng3, -⟩ := id HG_ad4
  refine Go.step (fun t_ k_ => X2.arraylength hx (by rw [e2]; exact Ar3.1) (State.isArrayOf_alike hZ.alike Ar3.2.1) (g := (mkF m 8 #[.val (.ref ad1), .val (.int (0 : Int32)), .val (.int (1 : Int32)), .val (.int (0 : Int32))] [(.ref ad4), (.int iv2)])) rfl rfl (hb hby d32_8) _ k_) ?_
  rw [len_of Sz3 Ng3]
  show Go p e below _ (T2.setTop (mkF m 9 #[.val (.ref ad1), .val (.int (0 : Int32)), .val (.int (1 : Int32)), .val (.int (0 : Int32))] [(.int (1024 : Int32)), (.int iv2)]))
  have hc9 : ¬ (iv2 = (1024 : Int32)) := as1
  refine gs.icmpYes 29 X2.here hx (hb hby d32_9) (feq hc9).2 rfl ?_
  refine gs.aloadN X2.here hx (hb hby d32_29) rfl rfl ?_
  refine gs.getF X2 hx hZ hown (wd hw 109 rfl) Via.refl e2 HF_ad1_Domains_trail (hb hby d32_30) fun T4 X4 e4 => ?_
  refine gs.aloadN X4.here hx (hb hby d32_33) rfl rfl ?_
  refine gs.dup X4.here hx (hb hby d32_34) rfl ?_
  refine gs.getF X4 hx hZ hown (wd hw 224 rfl) Via.refl e4 HF_ad1_Domains_trailSize (hb hby d32_35) fun T5 X5 e5 => ?_
  refine Go.step (fun t_ k_ => XS.dupX1 X5.here hx rfl (hb hby d32_38) rfl rfl rfl k_) ?_
  show Go p e below _ (T5.setTop (mkF m 39 #[.val (.ref ad1), .val (.int (0 : Int32)), .val (.int (1 : Int32)), .val (.int (0 : Int32))] [(.int iv2), (.ref ad1), (.int iv2), (.ref ad4)]))
  refine gs.iconst 1 X5.here hx (hb hby d32_39) rfl ?_
  refine gs.iadd X5.here hx (hb hby d32_40) ?_
  obtain ⟨T6, h6, X6, e6, W6, st6⟩ := putF X5 hx hZ hown (host := "") (Or.inl (wd hw 224 rfl)) Via.refl e5 HF_ad1_Domains_trailSize HE_ad1 (Or.inl (wd hw 225 rfl)) (wd hw 102 rfl) (ty := .int) (by decide) rfl rfl (g := (mkF m 41 #[.val (.ref ad1), .val (.int (0 : Int32)), .val (.int (1 : Int32)), .val (.int (0 : Int32))] [(.int (iv2 + (1 : Int32))), (.ref ad1), (.int iv2), (.ref ad4)])) rfl rfl (hb hby d32_41)
  have N6 := Fr.snoc X6 N0 nn_ad1
  have old6 := Ol.wr W6 nn_ad1
  have kp6 := kp0.wr W6 (Or.inl (List.mem_of_getElem? (i := 0) rfl))
  have F6 := HF_ad1_Domains_trailSize.same W6
  refine Go.step st6 ?_
  show Go p e below _ (T6.setTop (mkF m 44 #[.val (.ref ad1), .val (.int (0 : Int32)), .val (.int (1 : Int32)), .val (.int (0 : Int32))] [(.int iv2), (.ref ad4)]))
  refine gs.iloadN X6.here hx (hb hby d32_44) rfl ?_
  refine Go.step (fun t_ k_ => XS.i2l X6.here hx rfl (hb hby d32_45) rfl k_) ?_
  show Go p e below _ (T6.setTop (mkF m 46 #[.val (.ref ad1), .val (.int (0 : Int32)), .val (.int (1 : Int32)), .val (.int (0 : Int32))] [(.long ((0 : Int32).toInt64)), (.int iv2), (.ref ad4)]))
  rw [show ((0 : Int32).toInt64) = (0 : Int64) from by decide]
  refine gs.bipush 32 X6.here hx (hb hby d32_46) rfl ?_
  refine Go.step (fun t_ k_ => XS.lshl X6.here hx rfl (hb hby d32_48) rfl k_) ?_
  show Go p e below _ (T6.setTop (mkF m 49 #[.val (.ref ad1), .val (.int (0 : Int32)), .val (.int (1 : Int32)), .val (.int (0 : Int32))] [(.long ((0 : Int64) <<< ((32 : Int32) &&& 0x3f).toInt64)), (.int iv2), (.ref ad4)]))
  refine gs.iloadN X6.here hx (hb hby d32_49) rfl ?_
  refine Go.step (fun t_ k_ => XS.i2l X6.here hx rfl (hb hby d32_50) rfl k_) ?_
  show Go p e below _ (T6.setTop (mkF m 51 #[.val (.ref ad1), .val (.int (0 : Int32)), .val (.int (1 : Int32)), .val (.int (0 : Int32))] [(.long ((1 : Int32).toInt64)), (.long ((0 : Int64) <<< ((32 : Int32) &&& 0x3f).toInt64)), (.int iv2), (.ref ad4)]))
  rw [show ((1 : Int32).toInt64) = (1 : Int64) from by decide]
  refine gs.bipush 30 X6.here hx (hb hby d32_51) rfl ?_
  refine Go.step (fun t_ k_ => XS.lshl X6.here hx rfl (hb hby d32_53) rfl k_) ?_
  show Go p e below _ (T6.setTop (mkF m 54 #[.val (.ref ad1), .val (.int (0 : Int32)), .val (.int (1 : Int32)), .val (.int (0 : Int32))] [(.long ((1 : Int64) <<< ((30 : Int32) &&& 0x3f).toInt64)), (.long ((0 : Int64) <<< ((32 : Int32) &&& 0x3f).toInt64)), (.int iv2), (.ref ad4)]))
  refine gs.lor X6.here hx (hb hby d32_54) ?_
  refine gs.iloadN X6.here hx (hb hby d32_55) rfl ?_
  refine Go.step (fun t_ k_ => XS.i2l X6.here hx rfl (hb hby d32_56) rfl k_) ?_
  show Go p e below _ (T6.setTop (mkF m 57 #[.val (.ref ad1), .val (.int (0 : Int32)), .val (.int (1 : Int32)), .val (.int (0 : Int32))] [(.long ((0 : Int32).toInt64)), (.long (((0 : Int64) <<< ((32 : Int32) &&& 0x3f).toInt64) ||| ((1 : Int64) <<< ((30 : Int32) &&& 0x3f).toInt64))), (.int iv2), (.ref ad4)]))
  rw [show ((0 : Int32).toInt64) = (0 : Int64) from by decide]
  refine gs.lor X6.here hx (hb hby d32_57) ?_
  have f7 := (HG_ad4.other W6 (Ne.symm ne_ad1_ad4))
  obtain ⟨cl8, Ar8, q8, Sz8, Ng8, Hs8⟩ := id f7
  have hin8 : ¬ (iv2 < 0 ∨ cl8.slots.size ≤ (iv2).toNatClampNeg) := inb_of Sz8 (inb_int as0)
  obtain ⟨T9, h9, X9, e9, W9, st9⟩ := stJ X6 hx hZ e6 Ar8 (j := iv2) hin8 (g := (mkF m 58 #[.val (.ref ad1), .val (.int (0 : Int32)), .val (.int (1 : Int32)), .val (.int (0 : Int32))] [(.long ((((0 : Int64) <<< ((32 : Int32) &&& 0x3f).toInt64) ||| ((1 : Int64) <<< ((30 : Int32) &&& 0x3f).toInt64)) ||| (0 : Int64))), (.int iv2), (.ref ad4)])) rfl rfl (hb hby d32_58)
  have N9 := Fr.snoc X9 N6 nn_ad4
  have old9 := old6.wr W9 nn_ad4
  have kp9 := kp6.wr W9 (Or.inl (List.mem_of_getElem? (i := 1) rfl))
  have V9 : Arf Z h9 ad4 kc7 (1024 : Int32) (fun i => if i = (iv2).toNatClampNeg then ((((0 : Int64) <<< ((32 : Int32) &&& 0x3f).toInt64) ||| ((1 : Int64) <<< ((30 : Int32) &&& 0x3f).toInt64)) ||| (0 : Int64)) else fv5 i) := Arf.set Ar8 q8 Sz8 Ng8 Hs8 W9
  refine Go.step st9 ?_
  show Go p e below _ (T9.setTop (mkF m 59 #[.val (.ref ad1), .val (.int (0 : Int32)), .val (.int (1 : Int32)), .val (.int (0 : Int32))] []))
  refine gs.aloadN X9.here hx (hb hby d32_59) rfl rfl ?_
  have f10 := ((HF_ad1_Domains_resized.other W6 (Or.inr (sn90 hw))).other W9 (Or.inl ne_ad1_ad4))
  refine gs.getF X9 hx hZ hown (wd hw 226 rfl) Via.refl e9 f10 (hb hby d32_60) fun T11 X11 e11 => ?_
  refine Go.step (fun t_ k_ => XS.ifnullYes X11.here hx rfl (pc0 := 63) (pc' := 76) rfl (hb hby d32_63) rfl (by decide) (by decide) k_) ?_
  show Go p e below _ (T11.setTop (mkF m 76 #[.val (.ref ad1), .val (.int (0 : Int32)), .val (.int (1 : Int32)), .val (.int (0 : Int32))] []))
  have f12 := ((HE_ad1.wr W6).wr W9)
  have f13 := ((HF_ad1_Domains_holes.other W6 (Or.inr (sn91 hw))).other W9 (Or.inl ne_ad1_ad4))
  have f14 := ((HF_ad1_Domains_initial.other W6 (Or.inr (sn92 hw))).other W9 (Or.inl ne_ad1_ad4))
  have f15 := ((HF_ad1_Domains_lower.other W6 (Or.inr (sn93 hw))).other W9 (Or.inl ne_ad1_ad4))
  have f16 := ((HF_ad1_Domains_marks.other W6 (Or.inr (sn94 hw))).other W9 (Or.inl ne_ad1_ad4))
  have f17 := ((HF_ad1_Domains_sizes.other W6 (Or.inr (sn95 hw))).other W9 (Or.inl ne_ad1_ad4))
  have f18 := ((HF_ad1_Domains_trail.other W6 (Or.inr (sn96 hw))).other W9 (Or.inl ne_ad1_ad4))
  have f19 := (F6.other W9 (Or.inl ne_ad1_ad4))
  have f20 := ((HF_ad1_Domains_upper.other W6 (Or.inr (sn97 hw))).other W9 (Or.inl ne_ad1_ad4))
  have f21 := ((HF_ad1_Domains_withOneValue.other W6 (Or.inr (sn98 hw))).other W9 (Or.inl ne_ad1_ad4))
  have f22 := ((HE_ad4.wr W6).wr W9)
  refine Go.retV X11 hx Bd.returns Bd.notSynchronized (hb hby d32_76) (by rw [e11]; exact ⟨rfl, N9, kp9, f12, f13, f14, f15, f16, f10, f17, f18, f19, f20, f21, f22, V9⟩) (by decide) (by decide)
theorem pd_18 : parseMethodDescriptor "(III)V" = some ⟨[.int, .int, .int], none⟩ := by decide +kernel
theorem d34_71 : decode prog_11_method_23_code 71 = .ok (.return_, 1) := by decide +kernel
theorem ef_am34_1 (m : MethodId) (x0 : Addr) (x1 : Int32) (x2 : Int32)  : entryFrame m #[(.ref x0), (.int x1), (.int x2)] 5 = mkF m 0 #[.val (.ref x0), .val (.int x1), .val (.int x2), .unset, .unset] [] := by first | (simp [entryFrame, mkF, argsToLocals, Value.category]; done) | rfl
def Q_am34_1 (Z : State) (a_EMPTY_ELEMENTDATA : Addr) (aw0 : Addr) (ka_EMPTY_ELEMENTDATA : ClassId) (kaw0 : ClassId) (ad1 : Addr) (iv1 : Int32) (ad4 : Addr) (ad5 : Addr) (ad6 : Addr) (ad7 : Addr) (ad8 : Addr) (ad9 : Addr) (ad10 : Addr) (iv2 : Int32) (iv3 : Int32) (kc1 : ClassId) (kc3 : ClassId) (kc5 : ClassId) (kc6 : ClassId) (kc7 : ClassId) (fv4 : Nat → Int64) (h0 : Heap) (n0 : Nat) (v : Option Value) (h : Heap) (L : List Loc) : Prop := ∃ ex1 : Int32, v = none ∧ Fr n0 L ∧ Keep h0 h [ad1, ad10, ad4, ad7] ∧ (Exa Z h ad1 "com/example/monarc/monarc/Domains") ∧ (Fld Z h ad1 "com/example/monarc/monarc/Domains" "holes" "[[J" (.ref ad9)) ∧ (Fld Z h ad1 "com/example/monarc/monarc/Domains" "initial" "[Lcom/example/monarc/monarc/InitialDomain;" (.ref ad6)) ∧ (Fld Z h ad1 "com/example/monarc/monarc/Domains" "lower" "[I" (.ref ad7)) ∧ (Fld Z h ad1 "com/example/monarc/monarc/Domains" "marks" "[I" (.ref ad5)) ∧ (Fld Z h ad1 "com/example/monarc/monarc/Domains" "resized" "Ljava/util/function/IntConsumer;" .null) ∧ (Fld Z h ad1 "com/example/monarc/monarc/Domains" "sizes" "[I" (.ref ad10)) ∧ (Fld Z h ad1 "com/example/monarc/monarc/Domains" "trail" "[J" (.ref ad4)) ∧ (Fld Z h ad1 "com/example/monarc/monarc/Domains" "trailSize" "I" (.int (iv3 + (1 : Int32)))) ∧ (Fld Z h ad1 "com/example/monarc/monarc/Domains" "upper" "[I" (.ref ad8)) ∧ (Fld Z h ad1 "com/example/monarc/monarc/Domains" "withOneValue" "I" (.int ex1)) ∧ (Arv Z h ad10 kc5 .int (2 : Int32) [(.int ((200 : Int32) - iv1)), (.int (100 : Int32))] (.int (0 : Int32))) ∧ (Exa Z h ad4 "[J") ∧ (Arf Z h ad4 kc7 (1024 : Int32) (fun i => if i = (iv3).toNatClampNeg then ((((0 : Int64) <<< ((32 : Int32) &&& 0x3f).toInt64) ||| ((1 : Int64) <<< ((30 : Int32) &&& 0x3f).toInt64)) ||| (0 : Int64)) else fv4 i)) ∧ (Arv Z h ad7 kc3 .int (2 : Int32) [(.int iv1), (.int (0 : Int32))] (.int (0 : Int32)))
set_option maxRecDepth 65536 in
set_option maxHeartbeats 40000000 in
theorem am34_1 (l : Launch) (Z : State) (a0 : Array Value) (hw : ∀ d ∈ tables_1, d.before a0 Z = true) (ws : List Jvm.Cond) (a_EMPTY_ELEMENTDATA : Addr) (aw0 : Addr) (ka_EMPTY_ELEMENTDATA : ClassId) (kaw0 : ClassId) (HW : Wd Z a_EMPTY_ELEMENTDATA aw0 ka_EMPTY_ELEMENTDATA kaw0) (ad1 : Addr) (iv1 : Int32) (ad4 : Addr) (ad5 : Addr) (ad6 : Addr) (ad7 : Addr) (ad8 : Addr) (ad9 : Addr) (ad10 : Addr) (iv2 : Int32) (iv3 : Int32) (kc1 : ClassId) (kc3 : ClassId) (kc5 : ClassId) (kc6 : ClassId) (kc7 : ClassId) (fv4 : Nat → Int64) (h0 : Heap) (n0 : Nat) (Ol : Old Z n0 h0) (HE_ad1 : Exa Z h0 ad1 "com/example/monarc/monarc/Domains") (HF_ad1_Domains_trail : Fld Z h0 ad1 "com/example/monarc/monarc/Domains" "trail" "[J" (.ref ad4)) (HF_ad1_Domains_marks : Fld Z h0 ad1 "com/example/monarc/monarc/Domains" "marks" "[I" (.ref ad5)) (HF_ad1_Domains_initial : Fld Z h0 ad1 "com/example/monarc/monarc/Domains" "initial" "[Lcom/example/monarc/monarc/InitialDomain;" (.ref ad6)) (HF_ad1_Domains_lower : Fld Z h0 ad1 "com/example/monarc/monarc/Domains" "lower" "[I" (.ref ad7)) (HF_ad1_Domains_upper : Fld Z h0 ad1 "com/example/monarc/monarc/Domains" "upper" "[I" (.ref ad8)) (HF_ad1_Domains_holes : Fld Z h0 ad1 "com/example/monarc/monarc/Domains" "holes" "[[J" (.ref ad9)) (HF_ad1_Domains_sizes : Fld Z h0 ad1 "com/example/monarc/monarc/Domains" "sizes" "[I" (.ref ad10)) (HF_ad1_Domains_withOneValue : Fld Z h0 ad1 "com/example/monarc/monarc/Domains" "withOneValue" "I" (.int iv2)) (HF_ad1_Domains_trailSize : Fld Z h0 ad1 "com/example/monarc/monarc/Domains" "trailSize" "I" (.int iv3)) (HF_ad1_Domains_resized : Fld Z h0 ad1 "com/example/monarc/monarc/Domains" "resized" "Ljava/util/function/IntConsumer;" .null) (HV_ad9 : Arv Z h0 ad9 kc1 (.array .long) (2 : Int32) [.null, .null] .null) (HV_ad7 : Arv Z h0 ad7 kc3 .int (2 : Int32) [(.int (0 : Int32)), (.int (0 : Int32))] (.int (0 : Int32))) (HV_ad10 : Arv Z h0 ad10 kc5 .int (2 : Int32) [(.int (200 : Int32)), (.int (100 : Int32))] (.int (0 : Int32))) (HE_ad4 : Exa Z h0 ad4 "[J") (HV_ad8 : Arv Z h0 ad8 kc6 .int (2 : Int32) [(.int (199 : Int32)), (.int (99 : Int32))] (.int (0 : Int32))) (HG_ad4 : Arf Z h0 ad4 kc7 (1024 : Int32) fv4) (nn_ad1 : n0 ≤ ad1) (nn_ad10 : n0 ≤ ad10) (nn_ad4 : n0 ≤ ad4) (nn_ad7 : n0 ≤ ad7) (ne_ad1_ad10 : ad1 ≠ ad10) (ne_ad1_ad4 : ad1 ≠ ad4) (ne_ad1_ad7 : ad1 ≠ ad7) (ne_ad10_ad4 : ad10 ≠ ad4) (ne_ad10_ad7 : ad10 ≠ ad7) (ne_ad4_ad7 : ad4 ≠ ad7) (as0 : ¬ ((199 : Int32) < iv1)) (as1 : 0 ≤ (iv3).toInt ∧ (iv3).toInt < ((1024 : Int32)).toInt) (as2 : ¬ (iv3 = (1024 : Int32))) (eq0 : (mxI (0 : Int32) (iv1 - (0 : Int32))) = iv1) (hO_ad9 : OvrA Z kc1 .long "[J") :
    MetFree l y_34 (head1 (Jvm.Cond.code y_34 prog_11_method_23_code 5 none :: ws) ({ frames := 2, cells := 0, slots := 0, locals := 40 } : Room)) (fun a_ U_ => a_ = #[(.ref ad1), (.int (0 : Int32)), (.int iv1)] ∧ Z.Warmed39 U_.vm ∧ U_.heap = h0) (fun _ _ _ _ _ => True) (fun _ U_ o_ V_ => ∃ v_ L_, o_ = .returned v_ ∧ Q_am34_1 Z a_EMPTY_ELEMENTDATA aw0 ka_EMPTY_ELEMENTDATA kaw0 ad1 iv1 ad4 ad5 ad6 ad7 ad8 ad9 ad10 iv2 iv3 kc1 kc3 kc5 kc6 kc7 fv4 h0 n0 v_ V_.heap L_ ∧ FrameEnd U_ o_ V_ L_ ({ frames := 2, cells := 0, slots := 0, locals := 40 } : Room).cells ({ frames := 2, cells := 0, slots := 0, locals := 40 } : Room).slots) := by
  refine MetFree.of_bodySF (plainFor_of_name pn_8) hisR ?_
  intro p e s m args below meth c s₁ Bd hml0 hP hK
  obtain ⟨rfl, hZ, hh⟩ := hP
  have hx := Bd.exec
  have hby := Bd.bytes
  have hml : c.maxLocals = 5 := hml0
  have hown : s.vm.findClass "com/example/monarc/monarc/Domains" = some m.cls := findClass_of_methodNamed Bd.named
  have hnm := (name_of_methodNamed Bd.named Bd.method).1
  have X0 : Stand p l e ({ frames := 2, cells := 0, slots := 0, locals := 40 } : Room) s m #[(.ref ad1), (.int (0 : Int32)), (.int iv1)] below meth c s₁ [] 0 0 := Stand.of_body Bd
  have e0 : s₁.heap = h0 := by rw [← hh, Bd.state]; rfl
  have N0 := Fr.nil n0
  have kp0 := Keep.refl h0 [ad1, ad10, ad4, ad7]
  show Go p e below (Fin1 s below (Q_am34_1 Z a_EMPTY_ELEMENTDATA aw0 ka_EMPTY_ELEMENTDATA kaw0 ad1 iv1 ad4 ad5 ad6 ad7 ad8 ad9 ad10 iv2 iv3 kc1 kc3 kc5 kc6 kc7 fv4 h0 n0) ({ frames := 2, cells := 0, slots := 0, locals := 40 } : Room).cells ({ frames := 2, cells := 0, slots := 0, locals := 40 } : Room).slots) _
  refine Go.step (fun t_ k_ => castTop (ef_am34_1 m ad1 (0 : Int32) iv1) k_) ?_
  obtain ⟨Ea_EMPTY_ELEMENTDATA, Sa_EMPTY_ELEMENTDATA, Eaw0, Saw0, Aa_EMPTY_ELEMENTDATA, Aaw0⟩ := id HW
  show Go p e below _ (s₁.setTop (mkF m 0 #[.val (.ref ad1), .val (.int (0 : Int32)), .val (.int iv1), .unset, .unset] []))
  refine gs.iloadN X0.here hx (hb hby d34_0) rfl ?_
  refine gs.aloadN X0.here hx (hb hby d34_1) rfl rfl ?_
  refine gs.getF X0 hx hZ hown (wd hw 129 rfl) Via.refl e0 HF_ad1_Domains_upper (hb hby d34_2) fun T1 X1 e1 => ?_
  refine gs.iloadN X1.here hx (hb hby d34_5) rfl ?_
  obtain ⟨cl2, Ar2, q2, Sz2, Ng2, Hs2, G2⟩ := id HV_ad8
  have hin2 : ¬ ((0 : Int32) < 0 ∨ cl2.slots.size ≤ ((0 : Int32)).toNatClampNeg) := inb_of Sz2 ⟨by decide, by decide⟩
  have hat2 : cl2.slots[((0 : Int32)).toNatClampNeg]? = some (.int (199 : Int32)) := Has.at Hs2 hin2 rfl
  refine Go.step (fun t_ k_ => X1.iaload hx (j := (0 : Int32)) (v := (.int (199 : Int32))) (by rw [e1]; exact Ar2.1) (State.isArrayOf_alike hZ.alike Ar2.2.1) Ar2.2.2 hin2 hat2 (g := (mkF m 6 #[.val (.ref ad1), .val (.int (0 : Int32)), .val (.int iv1), .unset, .unset] [(.int (0 : Int32)), (.ref ad8), (.int iv1)])) rfl rfl (hb hby d34_6) _ k_) ?_
  show Go p e below _ (T1.setTop (mkF m 7 #[.val (.ref ad1), .val (.int (0 : Int32)), .val (.int iv1), .unset, .unset] [(.int (199 : Int32)), (.int iv1)]))
  have hc7 : ¬ ((199 : Int32) < iv1) := as0
  refine gs.icmpYes 21 X1.here hx (hb hby d34_7) (flt hc7).2.2.2 rfl ?_
  refine gs.aloadN X1.here hx (hb hby d34_21) rfl rfl ?_
  refine gs.iloadN X1.here hx (hb hby d34_22) rfl ?_
  refine gs.iloadN X1.here hx (hb hby d34_23) rfl ?_
  obtain ⟨cq3, q3, q3'⟩ := HE_ad1.cell
  obtain ⟨_, _, ⟨T3, L3, k3, n3⟩, -, X3, ⟨Lc3, hQ3, l3, y3, z3⟩, st3⟩ := X1.privateBack hx (y := y_35) hown (mvT hZ (wd hw 238 rfl)) (mvT hZ (wd hw 239 rfl)) (sel_priv hZ (wd hw 102 rfl) (wd hw 240 rfl) (wd hw 239 rfl) (by decide)) (Cond.privateMethod_at (mvP hZ (wd hw 240 rfl) (args := #[]))) (mvT hZ (wd hw 241 rfl)) (by decide) (backOf (W := 0) (am35_1 l Z a0 hw [] a_EMPTY_ELEMENTDATA aw0 ka_EMPTY_ELEMENTDATA kaw0 HW (ad1) (iv1) (ad8) (ad9) (kc1) (kc6) h0 n0 Ol HF_ad1_Domains_upper HF_ad1_Domains_holes HV_ad9 HV_ad8 as0 hO_ad9) hZ (wd hw 241 rfl) (wd hw 103 rfl) (by decide) (by decide)) (g := (mkF m 24 #[.val (.ref ad1), .val (.int (0 : Int32)), .val (.int iv1), .unset, .unset] [(.int iv1), (.int (0 : Int32)), (.ref ad1)])) rfl (by rw [hml]; rfl) (Steps.refl _) (a := ad1) (by rw [e1]; exact q3) q3' (argsL := [(.int (0 : Int32)), (.int iv1)]) (rest := []) (lenOf pd_4 rfl) rfl (by show 2 * 0 + _ ≤ _; exact Nat.le_of_eq rfl) (hb hby d34_24) (fun _ _ => ⟨rfl, e1, (by decide : 0 + 0 ≤ _), (by decide : 0 + 0 ≤ _)⟩)
  dsimp only [Pt.U, Pt.locs, Pt.cells, Pt.slots] at X3 l3 y3 z3 st3 hQ3
  subst l3 y3 z3
  obtain ⟨rfl, Nq3, e3⟩ := hQ3
  have N3 := Fr.app N0 Nq3
  refine Go.step (fun t_ k_ => st3.trans k_) ?_
  show Go p e below _ (T3.setTop (mkF m 27 #[.val (.ref ad1), .val (.int (0 : Int32)), .val (.int iv1), .unset, .unset] [(.int iv1)]))
  refine gs.istoreN X3.here hx (hb hby d34_27) (l' := #[.val (.ref ad1), .val (.int (0 : Int32)), .val (.int iv1), .val (.int iv1), .unset]) rfl ?_
  refine gs.aloadN X3.here hx (hb hby d34_28) rfl rfl ?_
  refine gs.getF X3 hx hZ hown (wd hw 127 rfl) Via.refl e3 HF_ad1_Domains_lower (hb hby d34_29) fun T4 X4 e4 => ?_
  refine gs.iloadN X4.here hx (hb hby d34_32) rfl ?_
  obtain ⟨cl5, Ar5, q5, Sz5, Ng5, Hs5, G5⟩ := id HV_ad7
  have hin5 : ¬ ((0 : Int32) < 0 ∨ cl5.slots.size ≤ ((0 : Int32)).toNatClampNeg) := inb_of Sz5 ⟨by decide, by decide⟩
  have hat5 : cl5.slots[((0 : Int32)).toNatClampNeg]? = some (.int (0 : Int32)) := Has.at Hs5 hin5 rfl
  refine Go.step (fun t_ k_ => X4.iaload hx (j := (0 : Int32)) (v := (.int (0 : Int32))) (by rw [e4]; exact Ar5.1) (State.isArrayOf_alike hZ.alike Ar5.2.1) Ar5.2.2 hin5 hat5 (g := (mkF m 33 #[.val (.ref ad1), .val (.int (0 : Int32)), .val (.int iv1), .val (.int iv1), .unset] [(.int (0 : Int32)), (.ref ad7)])) rfl rfl (hb hby d34_33) _ k_) ?_
  show Go p e below _ (T4.setTop (mkF m 34 #[.val (.ref ad1), .val (.int (0 : Int32)), .val (.int iv1), .val (.int iv1), .unset] [(.int (0 : Int32))]))
  refine gs.istore X4.here hx (hb hby d34_34) (l' := #[.val (.ref ad1), .val (.int (0 : Int32)), .val (.int iv1), .val (.int iv1), .val (.int (0 : Int32))]) rfl ?_
  refine gs.aloadN X4.here hx (hb hby d34_36) rfl rfl ?_
  refine gs.iloadN X4.here hx (hb hby d34_37) rfl ?_
  refine gs.aloadN X4.here hx (hb hby d34_38) rfl rfl ?_
  refine gs.getF X4 hx hZ hown (wd hw 135 rfl) Via.refl e4 HF_ad1_Domains_sizes (hb hby d34_39) fun T6 X6 e6 => ?_
  refine gs.iloadN X6.here hx (hb hby d34_42) rfl ?_
  obtain ⟨cl7, Ar7, q7, Sz7, Ng7, Hs7, G7⟩ := id HV_ad10
  have hin7 : ¬ ((0 : Int32) < 0 ∨ cl7.slots.size ≤ ((0 : Int32)).toNatClampNeg) := inb_of Sz7 ⟨by decide, by decide⟩
  have hat7 : cl7.slots[((0 : Int32)).toNatClampNeg]? = some (.int (200 : Int32)) := Has.at Hs7 hin7 rfl
  refine Go.step (fun t_ k_ => X6.iaload hx (j := (0 : Int32)) (v := (.int (200 : Int32))) (by rw [e6]; exact Ar7.1) (State.isArrayOf_alike hZ.alike Ar7.2.1) Ar7.2.2 hin7 hat7 (g := (mkF m 43 #[.val (.ref ad1), .val (.int (0 : Int32)), .val (.int iv1), .val (.int iv1), .val (.int (0 : Int32))] [(.int (0 : Int32)), (.ref ad10), (.int (0 : Int32)), (.ref ad1)])) rfl rfl (hb hby d34_43) _ k_) ?_
  show Go p e below _ (T6.setTop (mkF m 44 #[.val (.ref ad1), .val (.int (0 : Int32)), .val (.int iv1), .val (.int iv1), .val (.int (0 : Int32))] [(.int (200 : Int32)), (.int (0 : Int32)), (.ref ad1)]))
  refine gs.aloadN X6.here hx (hb hby d34_44) rfl rfl ?_
  refine gs.iloadN X6.here hx (hb hby d34_45) rfl ?_
  refine gs.iload X6.here hx (hb hby d34_46) rfl ?_
  refine gs.iloadN X6.here hx (hb hby d34_48) rfl ?_
  obtain ⟨cq8, q8, q8'⟩ := HE_ad1.cell
  obtain ⟨_, _, ⟨T8, L8, k8, n8⟩, -, X8, ⟨Lc8, hQ8, l8, y8, z8⟩, st8⟩ := X6.privateBack hx (y := y_30) hown (mvT hZ (wd hw 211 rfl)) (mvT hZ (wd hw 212 rfl)) (sel_priv hZ (wd hw 102 rfl) (wd hw 213 rfl) (wd hw 212 rfl) (by decide)) (Cond.privateMethod_at (mvP hZ (wd hw 213 rfl) (args := #[]))) (mvT hZ (wd hw 214 rfl)) (by decide) (backOf (W := 3) (am30_1 l Z a0 hw [] a_EMPTY_ELEMENTDATA aw0 ka_EMPTY_ELEMENTDATA kaw0 HW (ad1) (iv1) (ad9) (kc1) h0 n0 Ol HF_ad1_Domains_holes HV_ad9 eq0 hO_ad9) hZ (wd hw 214 rfl) (wd hw 103 rfl) (by decide) (by decide)) (g := (mkF m 49 #[.val (.ref ad1), .val (.int (0 : Int32)), .val (.int iv1), .val (.int iv1), .val (.int (0 : Int32))] [(.int iv1), (.int (0 : Int32)), (.int (0 : Int32)), (.ref ad1), (.int (200 : Int32)), (.int (0 : Int32)), (.ref ad1)])) rfl (by rw [hml]; rfl) (Steps.refl _) (a := ad1) (by rw [e6]; exact q8) q8' (argsL := [(.int (0 : Int32)), (.int (0 : Int32)), (.int iv1)]) (rest := [(.int (200 : Int32)), (.int (0 : Int32)), (.ref ad1)]) (lenOf pd_16 rfl) rfl (by show 2 * 0 + _ ≤ _; exact Nat.le_of_eq rfl) (hb hby d34_49) (fun _ _ => ⟨rfl, e6, (by decide : 0 + 0 ≤ _), (by decide : 0 + 0 ≤ _)⟩)
  dsimp only [Pt.U, Pt.locs, Pt.cells, Pt.slots] at X8 l8 y8 z8 st8 hQ8
  subst l8 y8 z8
  obtain ⟨rfl, Nq8, e8⟩ := hQ8
  have N8 := Fr.app N3 Nq8
  refine Go.step (fun t_ k_ => st8.trans k_) ?_
  show Go p e below _ (T8.setTop (mkF m 52 #[.val (.ref ad1), .val (.int (0 : Int32)), .val (.int iv1), .val (.int iv1), .val (.int (0 : Int32))] [(.int iv1), (.int (200 : Int32)), (.int (0 : Int32)), (.ref ad1)]))
  refine gs.isub X8.here hx (hb hby d34_52) ?_
  obtain ⟨cq9, q9, q9'⟩ := HE_ad1.cell
  obtain ⟨_, _, ⟨T9, L9, k9, n9⟩, -, X9, ⟨Lc9, hQ9, l9, y9, z9⟩, st9⟩ := X8.privateBack hx (y := y_31) hown (mvT hZ (wd hw 216 rfl)) (mvT hZ (wd hw 217 rfl)) (sel_priv hZ (wd hw 102 rfl) (wd hw 218 rfl) (wd hw 217 rfl) (by decide)) (Cond.privateMethod_at (mvP hZ (wd hw 218 rfl) (args := #[]))) (mvT hZ (wd hw 219 rfl)) (by decide) (backOf (W := 0) (am31_1 l Z a0 hw [] a_EMPTY_ELEMENTDATA aw0 ka_EMPTY_ELEMENTDATA kaw0 HW (ad1) (((200 : Int32) - iv1)) (ad4) (ad5) (ad6) (ad7) (ad8) (ad9) (ad10) (iv2) (iv3) (kc5) h0 n0 Ol HE_ad1 HF_ad1_Domains_trail HF_ad1_Domains_marks HF_ad1_Domains_initial HF_ad1_Domains_lower HF_ad1_Domains_upper HF_ad1_Domains_holes HF_ad1_Domains_sizes HF_ad1_Domains_withOneValue HF_ad1_Domains_trailSize HF_ad1_Domains_resized HV_ad10 nn_ad1 nn_ad10 ne_ad1_ad10) hZ (wd hw 219 rfl) (wd hw 103 rfl) (by decide) (by decide)) (g := (mkF m 53 #[.val (.ref ad1), .val (.int (0 : Int32)), .val (.int iv1), .val (.int iv1), .val (.int (0 : Int32))] [(.int ((200 : Int32) - iv1)), (.int (0 : Int32)), (.ref ad1)])) rfl (by rw [hml]; rfl) (Steps.refl _) (a := ad1) (by rw [e8]; exact q9) q9' (argsL := [(.int (0 : Int32)), (.int ((200 : Int32) - iv1))]) (rest := []) (lenOf pd_17 rfl) rfl (by show 2 * 0 + _ ≤ _; exact Nat.le_of_eq rfl) (hb hby d34_53) (fun _ _ => ⟨rfl, e8, (by decide : 0 + 0 ≤ _), (by decide : 0 + 0 ≤ _)⟩)
  dsimp only [Pt.U, Pt.locs, Pt.cells, Pt.slots] at X9 l9 y9 z9 st9 hQ9
  subst l9 y9 z9
  obtain ⟨ex9_0, rfl, Nq9, K9, p9_0, p9_1, p9_2, p9_3, p9_4, p9_5, p9_6, p9_7, p9_8, p9_9, p9_10, p9_11⟩ := hQ9
  have old9 := Ol.keep K9 (allS nn_ad1 (allS nn_ad10 all0))
  have kp9 := kp0.trans K9 (allS (Or.inl (List.mem_of_getElem? (i := 0) rfl)) (allS (Or.inl (List.mem_of_getElem? (i := 1) rfl)) all0))
  have N9 := Fr.app N8 Nq9
  refine Go.step (fun t_ k_ => st9.trans k_) ?_
  show Go p e below _ (T9.setTop (mkF m 56 #[.val (.ref ad1), .val (.int (0 : Int32)), .val (.int iv1), .val (.int iv1), .val (.int (0 : Int32))] []))
  refine gs.aloadN X9.here hx (hb hby d34_56) rfl rfl ?_
  refine gs.getF X9 hx hZ hown (wd hw 127 rfl) Via.refl rfl p9_3 (hb hby d34_57) fun T10 X10 e10 => ?_
  refine gs.iloadN X10.here hx (hb hby d34_60) rfl ?_
  refine gs.iloadN X10.here hx (hb hby d34_61) rfl ?_
  have f11 := (HV_ad7.keep K9 (ninS (Ne.symm ne_ad1_ad7) (ninS (Ne.symm ne_ad10_ad7) nin0)))
  obtain ⟨cl12, Ar12, q12, Sz12, Ng12, Hs12, G12⟩ := id f11
  have hin12 : ¬ ((0 : Int32) < 0 ∨ cl12.slots.size ≤ ((0 : Int32)).toNatClampNeg) := inb_of Sz12 ⟨by decide, by decide⟩
  obtain ⟨T13, h13, X13, e13, W13, st13⟩ := stI X10 hx hZ e10 Ar12 (j := (0 : Int32)) hin12 (g := (mkF m 62 #[.val (.ref ad1), .val (.int (0 : Int32)), .val (.int iv1), .val (.int iv1), .val (.int (0 : Int32))] [(.int iv1), (.int (0 : Int32)), (.ref ad7)])) rfl rfl (hb hby d34_62)
  have N13 := Fr.snoc X13 N9 nn_ad7
  have old13 := old9.wr W13 nn_ad7
  have kp13 := kp9.wr W13 (Or.inl (List.mem_of_getElem? (i := 3) rfl))
  have V13 : Arv Z h13 ad7 kc3 .int (2 : Int32) [(.int iv1), (.int (0 : Int32))] (.int (0 : Int32)) := Arv.set Ar12 q12 Sz12 Ng12 Hs12 G12 rfl W13 0 rfl (Nat.le_of_ble_eq_true rfl)
  refine Go.step st13 ?_
  show Go p e below _ (T13.setTop (mkF m 63 #[.val (.ref ad1), .val (.int (0 : Int32)), .val (.int iv1), .val (.int iv1), .val (.int (0 : Int32))] []))
  refine gs.aloadN X13.here hx (hb hby d34_63) rfl rfl ?_
  refine gs.iloadN X13.here hx (hb hby d34_64) rfl ?_
  refine gs.iconst 1 X13.here hx (hb hby d34_65) rfl ?_
  refine gs.iload X13.here hx (hb hby d34_66) rfl ?_
  have f14 := (p9_0.wr W13)
  have f15 := (p9_7.other W13 (Or.inl ne_ad1_ad7))
  have f16 := (p9_4.other W13 (Or.inl ne_ad1_ad7))
  have f17 := (p9_2.other W13 (Or.inl ne_ad1_ad7))
  have f18 := (p9_3.other W13 (Or.inl ne_ad1_ad7))
  have f19 := (p9_9.other W13 (Or.inl ne_ad1_ad7))
  have f20 := (p9_1.other W13 (Or.inl ne_ad1_ad7))
  have f21 := (p9_6.other W13 (Or.inl ne_ad1_ad7))
  have f22 := (p9_10.other W13 (Or.inl ne_ad1_ad7))
  have f23 := (p9_8.other W13 (Or.inl ne_ad1_ad7))
  have f24 := (p9_5.other W13 (Or.inl ne_ad1_ad7))
  have f25 := ((HE_ad4.keep K9).wr W13)
  have f26 := ((HG_ad4.keep K9 (ninS (Ne.symm ne_ad1_ad4) (ninS (Ne.symm ne_ad10_ad4) nin0))).other W13 ne_ad4_ad7)
  obtain ⟨cq27, q27, q27'⟩ := f14.cell
  obtain ⟨_, _, ⟨T27, L27, k27, n27⟩, -, X27, ⟨Lc27, hQ27, l27, y27, z27⟩, st27⟩ := X13.privateBack hx (y := y_32) hown (mvT hZ (wd hw 220 rfl)) (mvT hZ (wd hw 221 rfl)) (sel_priv hZ (wd hw 102 rfl) (wd hw 222 rfl) (wd hw 221 rfl) (by decide)) (Cond.privateMethod_at (mvP hZ (wd hw 222 rfl) (args := #[]))) (mvT hZ (wd hw 223 rfl)) (by decide) (backOf (W := 0) (am32_1 l Z a0 hw [] a_EMPTY_ELEMENTDATA aw0 ka_EMPTY_ELEMENTDATA kaw0 HW (ad1) (ad4) (ad5) (ad6) (ad7) (ad8) (ad9) (ad10) (ex9_0) (iv3) (kc7) (fv4) h13 n0 old13 f14 f15 f16 f17 f18 f19 f20 f21 f22 f23 f24 f25 f26 nn_ad1 nn_ad4 ne_ad1_ad4 as1 as2) hZ (wd hw 223 rfl) (wd hw 103 rfl) (by decide) (by decide)) (g := (mkF m 68 #[.val (.ref ad1), .val (.int (0 : Int32)), .val (.int iv1), .val (.int iv1), .val (.int (0 : Int32))] [(.int (0 : Int32)), (.int (1 : Int32)), (.int (0 : Int32)), (.ref ad1)])) rfl (by rw [hml]; rfl) (Steps.refl _) (a := ad1) (by rw [e13]; exact q27) q27' (argsL := [(.int (0 : Int32)), (.int (1 : Int32)), (.int (0 : Int32))]) (rest := []) (lenOf pd_18 rfl) rfl (by show 2 * 0 + _ ≤ _; exact Nat.le_of_eq rfl) (hb hby d34_68) (fun _ _ => ⟨rfl, e13, (by decide : 0 + 0 ≤ _), (by decide : 0 + 0 ≤ _)⟩)
  dsimp only [Pt.U, Pt.locs, Pt.cells, Pt.slots] at X27 l27 y27 z27 st27 hQ27
  subst l27 y27 z27
  obtain ⟨rfl, Nq27, K27, p27_0, p27_1, p27_2, p27_3, p27_4, p27_5, p27_6, p27_7, p27_8, p27_9, p27_10, p27_11, p27_12⟩ := hQ27
  have old27 := old13.keep K27 (allS nn_ad1 (allS nn_ad4 all0))
  have kp27 := kp13.trans K27 (allS (Or.inl (List.mem_of_getElem? (i := 0) rfl)) (allS (Or.inl (List.mem_of_getElem? (i := 2) rfl)) all0))
  have N27 := Fr.app N13 Nq27
  refine Go.step (fun t_ k_ => st27.trans k_) ?_
  show Go p e below _ (T27.setTop (mkF m 71 #[.val (.ref ad1), .val (.int (0 : Int32)), .val (.int iv1), .val (.int iv1), .val (.int (0 : Int32))] []))
  have f28 := ((p9_11.other W13 ne_ad10_ad7).keep K27 (ninS (Ne.symm ne_ad1_ad10) (ninS ne_ad10_ad4 nin0)))
  have f29 := (V13.keep K27 (ninS (Ne.symm ne_ad1_ad7) (ninS (Ne.symm ne_ad4_ad7) nin0)))
  refine Go.retV X27 hx Bd.returns Bd.notSynchronized (hb hby d34_71) (by exact ⟨(ex9_0), rfl, N27, kp27, p27_0, p27_1, p27_2, p27_3, p27_4, p27_5, p27_6, p27_7, p27_8, p27_9, p27_10, f28, p27_11, p27_12, f29⟩) (by decide) (by decide)
theorem d22_39 : decode prog_11_method_20_code 39 = .ok (.return_, 1) := by decide +kernel
theorem ef_am22_1 (m : MethodId) (x0 : Addr) (x1 : Int32) (x2 : Int64)  : entryFrame m #[(.ref x0), (.int x1), (.long x2)] 5 = mkF m 0 #[.val (.ref x0), .val (.int x1), .val (.long x2), .second, .unset] [] := by first | (simp [entryFrame, mkF, argsToLocals, Value.category]; done) | rfl
def Q_am22_1 (Z : State) (a_EMPTY_ELEMENTDATA : Addr) (aw0 : Addr) (ka_EMPTY_ELEMENTDATA : ClassId) (kaw0 : ClassId) (ad1 : Addr) (lv1 : Int64) (ad2 : Addr) (ad3 : Addr) (ad4 : Addr) (ad5 : Addr) (ad6 : Addr) (ad7 : Addr) (ad8 : Addr) (ad9 : Addr) (ad10 : Addr) (iv2 : Int32) (iv3 : Int32) (kc1 : ClassId) (kc2 : ClassId) (kc3 : ClassId) (kc5 : ClassId) (kc6 : ClassId) (kc7 : ClassId) (fv4 : Nat → Int64) (h0 : Heap) (n0 : Nat) (v : Option Value) (h : Heap) (L : List Loc) : Prop := ∃ ex1 : Int32, v = none ∧ Fr n0 L ∧ Keep h0 h [ad1, ad10, ad4, ad7] ∧ (Exa Z h ad1 "com/example/monarc/monarc/Domains") ∧ (Fld Z h ad1 "com/example/monarc/monarc/Domains" "holes" "[[J" (.ref ad9)) ∧ (Fld Z h ad1 "com/example/monarc/monarc/Domains" "initial" "[Lcom/example/monarc/monarc/InitialDomain;" (.ref ad6)) ∧ (Fld Z h ad1 "com/example/monarc/monarc/Domains" "lower" "[I" (.ref ad7)) ∧ (Fld Z h ad1 "com/example/monarc/monarc/Domains" "marks" "[I" (.ref ad5)) ∧ (Fld Z h ad1 "com/example/monarc/monarc/Domains" "resized" "Ljava/util/function/IntConsumer;" .null) ∧ (Fld Z h ad1 "com/example/monarc/monarc/Domains" "sizes" "[I" (.ref ad10)) ∧ (Fld Z h ad1 "com/example/monarc/monarc/Domains" "trail" "[J" (.ref ad4)) ∧ (Fld Z h ad1 "com/example/monarc/monarc/Domains" "trailSize" "I" (.int (iv3 + (1 : Int32)))) ∧ (Fld Z h ad1 "com/example/monarc/monarc/Domains" "upper" "[I" (.ref ad8)) ∧ (Fld Z h ad1 "com/example/monarc/monarc/Domains" "withOneValue" "I" (.int ex1)) ∧ (Arv Z h ad10 kc5 .int (2 : Int32) [(.int ((200 : Int32) - (lv1.toInt32))), (.int (100 : Int32))] (.int (0 : Int32))) ∧ (Exa Z h ad4 "[J") ∧ (Arf Z h ad4 kc7 (1024 : Int32) (fun i => if i = (iv3).toNatClampNeg then ((((0 : Int64) <<< ((32 : Int32) &&& 0x3f).toInt64) ||| ((1 : Int64) <<< ((30 : Int32) &&& 0x3f).toInt64)) ||| (0 : Int64)) else fv4 i)) ∧ (Arv Z h ad7 kc3 .int (2 : Int32) [(.int (lv1.toInt32)), (.int (0 : Int32))] (.int (0 : Int32)))
set_option maxRecDepth 65536 in
set_option maxHeartbeats 40000000 in
theorem am22_1 (l : Launch) (Z : State) (a0 : Array Value) (hw : ∀ d ∈ tables_1, d.before a0 Z = true) (ws : List Jvm.Cond) (a_EMPTY_ELEMENTDATA : Addr) (aw0 : Addr) (ka_EMPTY_ELEMENTDATA : ClassId) (kaw0 : ClassId) (HW : Wd Z a_EMPTY_ELEMENTDATA aw0 ka_EMPTY_ELEMENTDATA kaw0) (ad1 : Addr) (lv1 : Int64) (ad2 : Addr) (ad3 : Addr) (ad4 : Addr) (ad5 : Addr) (ad6 : Addr) (ad7 : Addr) (ad8 : Addr) (ad9 : Addr) (ad10 : Addr) (iv2 : Int32) (iv3 : Int32) (kc1 : ClassId) (kc2 : ClassId) (kc3 : ClassId) (kc5 : ClassId) (kc6 : ClassId) (kc7 : ClassId) (fv4 : Nat → Int64) (h0 : Heap) (n0 : Nat) (Ol : Old Z n0 h0) (HE_ad2 : Exa Z h0 ad2 "com/example/monarc/monarc/InitialDomain") (HF_ad2_InitialDomain_lowest : Fld Z h0 ad2 "com/example/monarc/monarc/InitialDomain" "lowest" "I" (.int (0 : Int32))) (HF_ad2_InitialDomain_size : Fld Z h0 ad2 "com/example/monarc/monarc/InitialDomain" "size" "I" (.int (200 : Int32))) (HF_ad2_InitialDomain_values : Fld Z h0 ad2 "com/example/monarc/monarc/InitialDomain" "values" "[I" .null) (HE_ad1 : Exa Z h0 ad1 "com/example/monarc/monarc/Domains") (HF_ad1_Domains_trail : Fld Z h0 ad1 "com/example/monarc/monarc/Domains" "trail" "[J" (.ref ad4)) (HF_ad1_Domains_marks : Fld Z h0 ad1 "com/example/monarc/monarc/Domains" "marks" "[I" (.ref ad5)) (HF_ad1_Domains_initial : Fld Z h0 ad1 "com/example/monarc/monarc/Domains" "initial" "[Lcom/example/monarc/monarc/InitialDomain;" (.ref ad6)) (HF_ad1_Domains_lower : Fld Z h0 ad1 "com/example/monarc/monarc/Domains" "lower" "[I" (.ref ad7)) (HF_ad1_Domains_upper : Fld Z h0 ad1 "com/example/monarc/monarc/Domains" "upper" "[I" (.ref ad8)) (HF_ad1_Domains_holes : Fld Z h0 ad1 "com/example/monarc/monarc/Domains" "holes" "[[J" (.ref ad9)) (HF_ad1_Domains_sizes : Fld Z h0 ad1 "com/example/monarc/monarc/Domains" "sizes" "[I" (.ref ad10)) (HF_ad1_Domains_withOneValue : Fld Z h0 ad1 "com/example/monarc/monarc/Domains" "withOneValue" "I" (.int iv2)) (HF_ad1_Domains_trailSize : Fld Z h0 ad1 "com/example/monarc/monarc/Domains" "trailSize" "I" (.int iv3)) (HF_ad1_Domains_resized : Fld Z h0 ad1 "com/example/monarc/monarc/Domains" "resized" "Ljava/util/function/IntConsumer;" .null) (HV_ad9 : Arv Z h0 ad9 kc1 (.array .long) (2 : Int32) [.null, .null] .null) (HV_ad6 : Arv Z h0 ad6 kc2 (.object "com/example/monarc/monarc/InitialDomain") (2 : Int32) [(.ref ad2), (.ref ad3)] .null) (HV_ad7 : Arv Z h0 ad7 kc3 .int (2 : Int32) [(.int (0 : Int32)), (.int (0 : Int32))] (.int (0 : Int32))) (HV_ad10 : Arv Z h0 ad10 kc5 .int (2 : Int32) [(.int (200 : Int32)), (.int (100 : Int32))] (.int (0 : Int32))) (HE_ad4 : Exa Z h0 ad4 "[J") (HV_ad8 : Arv Z h0 ad8 kc6 .int (2 : Int32) [(.int (199 : Int32)), (.int (99 : Int32))] (.int (0 : Int32))) (HG_ad4 : Arf Z h0 ad4 kc7 (1024 : Int32) fv4) (nn_ad1 : n0 ≤ ad1) (nn_ad10 : n0 ≤ ad10) (nn_ad4 : n0 ≤ ad4) (nn_ad7 : n0 ≤ ad7) (ne_ad1_ad10 : ad1 ≠ ad10) (ne_ad1_ad4 : ad1 ≠ ad4) (ne_ad1_ad7 : ad1 ≠ ad7) (ne_ad10_ad4 : ad10 ≠ ad4) (ne_ad10_ad7 : ad10 ≠ ad7) (ne_ad4_ad7 : ad4 ≠ ad7) (as0 : (0 : Int32) < (lv1.toInt32)) (as1 : ¬ ((199 : Int32) < (lv1.toInt32))) (as2 : 0 ≤ (iv3).toInt ∧ (iv3).toInt < ((1024 : Int32)).toInt) (as3 : ¬ (iv3 = (1024 : Int32))) (eq0 : ((mnL (200 : Int64) (mxL (0 : Int64) ((mxL (-2147483648 : Int64) (mnL lv1 (2147483648 : Int64))) - (0 : Int64)))).toInt32) = (lv1.toInt32)) (eq1 : (mxI (0 : Int32) ((lv1.toInt32) - (0 : Int32))) = (lv1.toInt32)) (hO_ad9 : OvrA Z kc1 .long "[J") (hO_ad6 : Ovr Z kc2 "com/example/monarc/monarc/InitialDomain") :
    MetFree l y_22 (head1 (Jvm.Cond.code y_22 prog_11_method_20_code 5 none :: ws) ({ frames := 3, cells := 0, slots := 0, locals := 56 } : Room)) (fun a_ U_ => a_ = #[(.ref ad1), (.int (0 : Int32)), (.long lv1)] ∧ Z.Warmed39 U_.vm ∧ U_.heap = h0) (fun _ _ _ _ _ => True) (fun _ U_ o_ V_ => ∃ v_ L_, o_ = .returned v_ ∧ Q_am22_1 Z a_EMPTY_ELEMENTDATA aw0 ka_EMPTY_ELEMENTDATA kaw0 ad1 lv1 ad2 ad3 ad4 ad5 ad6 ad7 ad8 ad9 ad10 iv2 iv3 kc1 kc2 kc3 kc5 kc6 kc7 fv4 h0 n0 v_ V_.heap L_ ∧ FrameEnd U_ o_ V_ L_ ({ frames := 3, cells := 0, slots := 0, locals := 56 } : Room).cells ({ frames := 3, cells := 0, slots := 0, locals := 56 } : Room).slots) := by
  refine MetFree.of_bodySF (plainFor_of_name pn_8) hisR ?_
  intro p e s m args below meth c s₁ Bd hml0 hP hK
  obtain ⟨rfl, hZ, hh⟩ := hP
  have hx := Bd.exec
  have hby := Bd.bytes
  have hml : c.maxLocals = 5 := hml0
  have hown : s.vm.findClass "com/example/monarc/monarc/Domains" = some m.cls := findClass_of_methodNamed Bd.named
  have hnm := (name_of_methodNamed Bd.named Bd.method).1
  have X0 : Stand p l e ({ frames := 3, cells := 0, slots := 0, locals := 56 } : Room) s m #[(.ref ad1), (.int (0 : Int32)), (.long lv1)] below meth c s₁ [] 0 0 := Stand.of_body Bd
  have e0 : s₁.heap = h0 := by rw [← hh, Bd.state]; rfl
  have N0 := Fr.nil n0
  have kp0 := Keep.refl h0 [ad1, ad10, ad4, ad7]
  show Go p e below (Fin1 s below (Q_am22_1 Z a_EMPTY_ELEMENTDATA aw0 ka_EMPTY_ELEMENTDATA kaw0 ad1 lv1 ad2 ad3 ad4 ad5 ad6 ad7 ad8 ad9 ad10 iv2 iv3 kc1 kc2 kc3 kc5 kc6 kc7 fv4 h0 n0) ({ frames := 3, cells := 0, slots := 0, locals := 56 } : Room).cells ({ frames := 3, cells := 0, slots := 0, locals := 56 } : Room).slots) _
  refine Go.step (fun t_ k_ => castTop (ef_am22_1 m ad1 (0 : Int32) lv1) k_) ?_
  obtain ⟨Ea_EMPTY_ELEMENTDATA, Sa_EMPTY_ELEMENTDATA, Eaw0, Saw0, Aa_EMPTY_ELEMENTDATA, Aaw0⟩ := id HW
  show Go p e below _ (s₁.setTop (mkF m 0 #[.val (.ref ad1), .val (.int (0 : Int32)), .val (.long lv1), .second, .unset] []))
  refine gs.aloadN X0.here hx (hb hby d22_0) rfl rfl ?_
  refine gs.getF X0 hx hZ hown (wd hw 125 rfl) Via.refl e0 HF_ad1_Domains_initial (hb hby d22_1) fun T1 X1 e1 => ?_
  refine gs.iloadN X1.here hx (hb hby d22_4) rfl ?_
  obtain ⟨cl2, Ar2, q2, Sz2, Ng2, Hs2, G2⟩ := id HV_ad6
  have hin2 : ¬ ((0 : Int32) < 0 ∨ cl2.slots.size ≤ ((0 : Int32)).toNatClampNeg) := inb_of Sz2 ⟨by decide, by decide⟩
  have hat2 : cl2.slots[((0 : Int32)).toNatClampNeg]? = some (.ref ad2) := Has.at Hs2 hin2 rfl
  refine Go.step (fun t_ k_ => X1.aaload hx (j := (0 : Int32)) (v := (.ref ad2)) (by rw [e1]; exact Ar2.1) (State.isArrayOf_alike hZ.alike Ar2.2.1) rfl Ar2.2.2 hin2 hat2 (g := (mkF m 5 #[.val (.ref ad1), .val (.int (0 : Int32)), .val (.long lv1), .second, .unset] [(.int (0 : Int32)), (.ref ad6)])) rfl rfl (hb hby d22_5) _ k_) ?_
  show Go p e below _ (T1.setTop (mkF m 6 #[.val (.ref ad1), .val (.int (0 : Int32)), .val (.long lv1), .second, .unset] [(.ref ad2)]))
  refine gs.lloadN X1.here hx (hb hby d22_6) rfl ?_
  obtain ⟨cq3, kq3, q3a, q3b, q3c⟩ := isOf hZ e1 HE_ad2
  obtain ⟨_, _, ⟨T3, L3, k3, n3⟩, -, X3, ⟨Lc3, hQ3, l3, y3, z3⟩, st3⟩ := X1.virtualBack hx (y := y_23) (z := y_23) hown (mvT hZ (wd hw 178 rfl)) (mvT hZ (wd hw 179 rfl)) (notFace_of_selects (args := #[]) (mvT hZ (wd hw 181 rfl))) (mvT hZ (wd hw 181 rfl)) (mvT hZ (wd hw 180 rfl)) (by decide) (backOf (W := 0) (am23_1 l Z a0 hw [] a_EMPTY_ELEMENTDATA aw0 ka_EMPTY_ELEMENTDATA kaw0 HW (ad2) (lv1) h0 n0 Ol HF_ad2_InitialDomain_lowest HF_ad2_InitialDomain_size HF_ad2_InitialDomain_values eq0) hZ (wd hw 182 rfl) (wd hw 2 rfl) (by decide) (by decide)) q3a q3c (g := (mkF m 7 #[.val (.ref ad1), .val (.int (0 : Int32)), .val (.long lv1), .second, .unset] [(.long lv1), (.ref ad2)])) rfl (by rw [hml]; rfl) (Steps.refl _) (argsL := [(.long lv1)]) (rest := []) (lenOf pd_15 rfl) rfl (by show 2 * 0 + _ ≤ _; exact Nat.le_of_eq rfl) (hb hby d22_7) (fun _ _ => ⟨rfl, e1, (by decide : 0 + 0 ≤ _), (by decide : 0 + 0 ≤ _)⟩)
  dsimp only [Pt.U, Pt.locs, Pt.cells, Pt.slots] at X3 l3 y3 z3 st3 hQ3
  subst l3 y3 z3
  obtain ⟨rfl, Nq3, e3⟩ := hQ3
  have N3 := Fr.app N0 Nq3
  refine Go.step (fun t_ k_ => st3.trans k_) ?_
  show Go p e below _ (T3.setTop (mkF m 10 #[.val (.ref ad1), .val (.int (0 : Int32)), .val (.long lv1), .second, .unset] [(.int (lv1.toInt32))]))
  refine gs.istore X3.here hx (hb hby d22_10) (l' := #[.val (.ref ad1), .val (.int (0 : Int32)), .val (.long lv1), .second, .val (.int (lv1.toInt32))]) rfl ?_
  refine gs.aloadN X3.here hx (hb hby d22_12) rfl rfl ?_
  refine gs.getF X3 hx hZ hown (wd hw 135 rfl) Via.refl e3 HF_ad1_Domains_sizes (hb hby d22_13) fun T4 X4 e4 => ?_
  refine gs.iloadN X4.here hx (hb hby d22_16) rfl ?_
  obtain ⟨cl5, Ar5, q5, Sz5, Ng5, Hs5, G5⟩ := id HV_ad10
  have hin5 : ¬ ((0 : Int32) < 0 ∨ cl5.slots.size ≤ ((0 : Int32)).toNatClampNeg) := inb_of Sz5 ⟨by decide, by decide⟩
  have hat5 : cl5.slots[((0 : Int32)).toNatClampNeg]? = some (.int (200 : Int32)) := Has.at Hs5 hin5 rfl
  refine Go.step (fun t_ k_ => X4.iaload hx (j := (0 : Int32)) (v := (.int (200 : Int32))) (by rw [e4]; exact Ar5.1) (State.isArrayOf_alike hZ.alike Ar5.2.1) Ar5.2.2 hin5 hat5 (g := (mkF m 17 #[.val (.ref ad1), .val (.int (0 : Int32)), .val (.long lv1), .second, .val (.int (lv1.toInt32))] [(.int (0 : Int32)), (.ref ad10)])) rfl rfl (hb hby d22_17) _ k_) ?_
  show Go p e below _ (T4.setTop (mkF m 18 #[.val (.ref ad1), .val (.int (0 : Int32)), .val (.long lv1), .second, .val (.int (lv1.toInt32))] [(.int (200 : Int32))]))
  have hc18 : (0 : Int32) < (200 : Int32) := by decide
  refine gs.ifNo X4.here hx (hb hby d22_18) ((if0 _ _).trans (tlt hc18).2.2.2) ?_
  refine gs.iload X4.here hx (hb hby d22_21) rfl ?_
  refine gs.aloadN X4.here hx (hb hby d22_23) rfl rfl ?_
  refine gs.getF X4 hx hZ hown (wd hw 127 rfl) Via.refl e4 HF_ad1_Domains_lower (hb hby d22_24) fun T6 X6 e6 => ?_
  refine gs.iloadN X6.here hx (hb hby d22_27) rfl ?_
  obtain ⟨cl7, Ar7, q7, Sz7, Ng7, Hs7, G7⟩ := id HV_ad7
  have hin7 : ¬ ((0 : Int32) < 0 ∨ cl7.slots.size ≤ ((0 : Int32)).toNatClampNeg) := inb_of Sz7 ⟨by decide, by decide⟩
  have hat7 : cl7.slots[((0 : Int32)).toNatClampNeg]? = some (.int (0 : Int32)) := Has.at Hs7 hin7 rfl
  refine Go.step (fun t_ k_ => X6.iaload hx (j := (0 : Int32)) (v := (.int (0 : Int32))) (by rw [e6]; exact Ar7.1) (State.isArrayOf_alike hZ.alike Ar7.2.1) Ar7.2.2 hin7 hat7 (g := (mkF m 28 #[.val (.ref ad1), .val (.int (0 : Int32)), .val (.long lv1), .second, .val (.int (lv1.toInt32))] [(.int (0 : Int32)), (.ref ad7), (.int (lv1.toInt32))])) rfl rfl (hb hby d22_28) _ k_) ?_
  show Go p e below _ (T6.setTop (mkF m 29 #[.val (.ref ad1), .val (.int (0 : Int32)), .val (.long lv1), .second, .val (.int (lv1.toInt32))] [(.int (0 : Int32)), (.int (lv1.toInt32))]))
  have hc29 : (0 : Int32) < (lv1.toInt32) := as0
  refine gs.icmpNo X6.here hx (hb hby d22_29) (tlt hc29).2.2.2 ?_
  refine gs.aloadN X6.here hx (hb hby d22_32) rfl rfl ?_
  refine gs.iloadN X6.here hx (hb hby d22_33) rfl ?_
  refine gs.iload X6.here hx (hb hby d22_34) rfl ?_
  obtain ⟨cq8, q8, q8'⟩ := HE_ad1.cell
  obtain ⟨_, _, ⟨T8, L8, k8, n8⟩, -, X8, ⟨Lc8, hQ8, l8, y8, z8⟩, st8⟩ := X6.privateBack hx (y := y_34) hown (mvT hZ (wd hw 234 rfl)) (mvT hZ (wd hw 235 rfl)) (sel_priv hZ (wd hw 102 rfl) (wd hw 236 rfl) (wd hw 235 rfl) (by decide)) (Cond.privateMethod_at (mvP hZ (wd hw 236 rfl) (args := #[]))) (mvT hZ (wd hw 237 rfl)) (by decide) (backOf (W := 0) (am34_1 l Z a0 hw [] a_EMPTY_ELEMENTDATA aw0 ka_EMPTY_ELEMENTDATA kaw0 HW (ad1) ((lv1.toInt32)) (ad4) (ad5) (ad6) (ad7) (ad8) (ad9) (ad10) (iv2) (iv3) (kc1) (kc3) (kc5) (kc6) (kc7) (fv4) h0 n0 Ol HE_ad1 HF_ad1_Domains_trail HF_ad1_Domains_marks HF_ad1_Domains_initial HF_ad1_Domains_lower HF_ad1_Domains_upper HF_ad1_Domains_holes HF_ad1_Domains_sizes HF_ad1_Domains_withOneValue HF_ad1_Domains_trailSize HF_ad1_Domains_resized HV_ad9 HV_ad7 HV_ad10 HE_ad4 HV_ad8 HG_ad4 nn_ad1 nn_ad10 nn_ad4 nn_ad7 ne_ad1_ad10 ne_ad1_ad4 ne_ad1_ad7 ne_ad10_ad4 ne_ad10_ad7 ne_ad4_ad7 as1 as2 as3 eq1 hO_ad9) hZ (wd hw 237 rfl) (wd hw 103 rfl) (by decide) (by decide)) (g := (mkF m 36 #[.val (.ref ad1), .val (.int (0 : Int32)), .val (.long lv1), .second, .val (.int (lv1.toInt32))] [(.int (lv1.toInt32)), (.int (0 : Int32)), (.ref ad1)])) rfl (by rw [hml]; rfl) (Steps.refl _) (a := ad1) (by rw [e6]; exact q8) q8' (argsL := [(.int (0 : Int32)), (.int (lv1.toInt32))]) (rest := []) (lenOf pd_17 rfl) rfl (by show 2 * 0 + _ ≤ _; exact Nat.le_of_eq rfl) (hb hby d22_36) (fun _ _ => ⟨rfl, e6, (by decide : 0 + 0 ≤ _), (by decide : 0 + 0 ≤ _)⟩)
  dsimp only [Pt.U, Pt.locs, Pt.cells, Pt.slots] at X8 l8 y8 z8 st8 hQ8
  subst l8 y8 z8
  obtain ⟨ex8_0, rfl, Nq8, K8, p8_0, p8_1, p8_2, p8_3, p8_4, p8_5, p8_6, p8_7, p8_8, p8_9, p8_10, p8_11, p8_12, p8_13, p8_14⟩ := hQ8
  have old8 := Ol.keep K8 (allS nn_ad1 (allS nn_ad10 (allS nn_ad4 (allS nn_ad7 all0))))
  have kp8 := kp0.trans K8 (allS (Or.inl (List.mem_of_getElem? (i := 0) rfl)) (allS (Or.inl (List.mem_of_getElem? (i := 1) rfl)) (allS (Or.inl (List.mem_of_getElem? (i := 2) rfl)) (allS (Or.inl (List.mem_of_getElem? (i := 3) rfl)) all0))))
  have N8 := Fr.app N3 Nq8
  refine Go.step (fun t_ k_ => st8.trans k_) ?_
  show Go p e below _ (T8.setTop (mkF m 39 #[.val (.ref ad1), .val (.int (0 : Int32)), .val (.long lv1), .second, .val (.int (lv1.toInt32))] []))
  refine Go.retV X8 hx Bd.returns Bd.notSynchronized (hb hby d22_39) (by exact ⟨(ex8_0), rfl, N8, kp8, p8_0, p8_1, p8_2, p8_3, p8_4, p8_5, p8_6, p8_7, p8_8, p8_9, p8_10, p8_11, p8_12, p8_13, p8_14⟩) (by decide) (by decide)
theorem pd_19 : parseMethodDescriptor "(IJ)V" = some ⟨[.int, .long], none⟩ := by decide +kernel
theorem d26_0 : decode prog_11_method_21_code 0 = .ok (.aload_n 0, 1) := by decide +kernel
theorem d26_1 : decode prog_11_method_21_code 1 = .ok (.getfield 25, 3) := by decide +kernel
theorem d26_4 : decode prog_11_method_21_code 4 = .ok (.iload_n 1, 1) := by decide +kernel
theorem d26_5 : decode prog_11_method_21_code 5 = .ok (.aaload, 1) := by decide +kernel
theorem d26_6 : decode prog_11_method_21_code 6 = .ok (.lload_n 2, 1) := by decide +kernel
theorem d26_7 : decode prog_11_method_21_code 7 = .ok (.invokevirtual 140, 3) := by decide +kernel
theorem d27_0 : decode prog_20_method_9_code 0 = .ok (.aload_n 0, 1) := by decide +kernel
theorem d27_1 : decode prog_20_method_9_code 1 = .ok (.lload_n 1, 1) := by decide +kernel
theorem d27_2 : decode prog_20_method_9_code 2 = .ok (.ldc2_w 85, 3) := by decide +kernel
theorem d27_5 : decode prog_20_method_9_code 5 = .ok (.invokestatic 76, 3) := by decide +kernel
theorem d27_8 : decode prog_20_method_9_code 8 = .ok (.lconst 1, 1) := by decide +kernel
theorem d27_9 : decode prog_20_method_9_code 9 = .ok (.ladd, 1) := by decide +kernel
theorem d27_10 : decode prog_20_method_9_code 10 = .ok (.invokevirtual 87, 3) := by decide +kernel
theorem ef_am23_2 (m : MethodId) (x0 : Addr) (x1 : Int64)  : entryFrame m #[(.ref x0), (.long x1)] 6 = mkF m 0 #[.val (.ref x0), .val (.long x1), .second, .unset, .unset, .unset] [] := by first | (simp [entryFrame, mkF, argsToLocals, Value.category]; done) | rfl
def Q_am23_2 (Z : State) (a_EMPTY_ELEMENTDATA : Addr) (aw0 : Addr) (ka_EMPTY_ELEMENTDATA : ClassId) (kaw0 : ClassId) (ad1 : Addr) (lv1 : Int64) (h0 : Heap) (n0 : Nat) (v : Option Value) (h : Heap) (L : List Loc) : Prop := v = some (.int ((mnL (200 : Int64) (mxL (0 : Int64) ((mxL (-2147483648 : Int64) (mnL lv1 (2147483648 : Int64))) - (0 : Int64)))).toInt32)) ∧ Fr n0 L ∧ h = h0
set_option maxRecDepth 65536 in
set_option maxHeartbeats 40000000 in
theorem am23_2 (l : Launch) (Z : State) (a0 : Array Value) (hw : ∀ d ∈ tables_1, d.before a0 Z = true) (ws : List Jvm.Cond) (a_EMPTY_ELEMENTDATA : Addr) (aw0 : Addr) (ka_EMPTY_ELEMENTDATA : ClassId) (kaw0 : ClassId) (HW : Wd Z a_EMPTY_ELEMENTDATA aw0 ka_EMPTY_ELEMENTDATA kaw0) (ad1 : Addr) (lv1 : Int64) (h0 : Heap) (n0 : Nat) (Ol : Old Z n0 h0) (HF_ad1_InitialDomain_lowest : Fld Z h0 ad1 "com/example/monarc/monarc/InitialDomain" "lowest" "I" (.int (0 : Int32))) (HF_ad1_InitialDomain_size : Fld Z h0 ad1 "com/example/monarc/monarc/InitialDomain" "size" "I" (.int (200 : Int32))) (HF_ad1_InitialDomain_values : Fld Z h0 ad1 "com/example/monarc/monarc/InitialDomain" "values" "[I" .null) :
    MetFree l y_23 (head1 (Jvm.Cond.code y_23 prog_20_method_8_code 6 (some .int) :: ws) ({ frames := 1, cells := 0, slots := 0, locals := 17 } : Room)) (fun a_ U_ => a_ = #[(.ref ad1), (.long lv1)] ∧ Z.Warmed39 U_.vm ∧ U_.heap = h0) (fun _ _ _ _ _ => True) (fun _ U_ o_ V_ => ∃ v_ L_, o_ = .returned v_ ∧ Q_am23_2 Z a_EMPTY_ELEMENTDATA aw0 ka_EMPTY_ELEMENTDATA kaw0 ad1 lv1 h0 n0 v_ V_.heap L_ ∧ FrameEnd U_ o_ V_ L_ ({ frames := 1, cells := 0, slots := 0, locals := 17 } : Room).cells ({ frames := 1, cells := 0, slots := 0, locals := 17 } : Room).slots) := by
  refine MetFree.of_bodySF (plainFor_of_name pn_0) hisR ?_
  intro p e s m args below meth c s₁ Bd hml0 hP hK
  obtain ⟨rfl, hZ, hh⟩ := hP
  have hx := Bd.exec
  have hby := Bd.bytes
  have hml : c.maxLocals = 6 := hml0
  have hown : s.vm.findClass "com/example/monarc/monarc/InitialDomain" = some m.cls := findClass_of_methodNamed Bd.named
  have hnm := (name_of_methodNamed Bd.named Bd.method).1
  have X0 : Stand p l e ({ frames := 1, cells := 0, slots := 0, locals := 17 } : Room) s m #[(.ref ad1), (.long lv1)] below meth c s₁ [] 0 0 := Stand.of_body Bd
  have e0 : s₁.heap = h0 := by rw [← hh, Bd.state]; rfl
  have N0 := Fr.nil n0
  have kp0 := Keep.refl h0 []
  show Go p e below (Fin1 s below (Q_am23_2 Z a_EMPTY_ELEMENTDATA aw0 ka_EMPTY_ELEMENTDATA kaw0 ad1 lv1 h0 n0) ({ frames := 1, cells := 0, slots := 0, locals := 17 } : Room).cells ({ frames := 1, cells := 0, slots := 0, locals := 17 } : Room).slots) _
  refine Go.step (fun t_ k_ => castTop (ef_am23_2 m ad1 lv1) k_) ?_
  obtain ⟨Ea_EMPTY_ELEMENTDATA, Sa_EMPTY_ELEMENTDATA, Eaw0, Saw0, Aa_EMPTY_ELEMENTDATA, Aaw0⟩ := id HW
  show Go p e below _ (s₁.setTop (mkF m 0 #[.val (.ref ad1), .val (.long lv1), .second, .unset, .unset, .unset] []))
  refine Go.step (fun t_ k_ => X0.ldc2Long hx hown (mvT hZ (wd hw 183 rfl)) (g := (mkF m 0 #[.val (.ref ad1), .val (.long lv1), .second, .unset, .unset, .unset] [])) rfl (hb hby d23_0) _ k_) ?_
  show Go p e below _ (s₁.setTop (mkF m 3 #[.val (.ref ad1), .val (.long lv1), .second, .unset, .unset, .unset] [(.long (-2147483648 : Int64))]))
  refine gs.lloadN X0.here hx (hb hby d23_3) rfl ?_
  refine Go.step (fun t_ k_ => X0.ldc2Long hx hown (mvT hZ (wd hw 184 rfl)) (g := (mkF m 4 #[.val (.ref ad1), .val (.long lv1), .second, .unset, .unset, .unset] [(.long lv1), (.long (-2147483648 : Int64))])) rfl (hb hby d23_4) _ k_) ?_
  show Go p e below _ (s₁.setTop (mkF m 7 #[.val (.ref ad1), .val (.long lv1), .second, .unset, .unset, .unset] [(.long (2147483648 : Int64)), (.long lv1), (.long (-2147483648 : Int64))]))
  obtain ⟨_, _, ⟨T1, L1, k1, n1⟩, -, X1, ⟨Lc1, hQ1, l1, y1, z1⟩, st1⟩ := Jvm.LawKit.callS X0 hx (y := y_24) hown (mvT hZ (wd hw 185 rfl)) (mvT hZ (wd hw 186 rfl)) (mvT hZ (wd hw 95 rfl)) (mvT hZ (wd hw 187 rfl)) (by decide) (backOf (W := 2) (rm24 l Z a0 hw [] a_EMPTY_ELEMENTDATA aw0 ka_EMPTY_ELEMENTDATA kaw0 HW lv1 (2147483648 : Int64) (mnL lv1 (2147483648 : Int64)) h0 n0 Ol rfl) hZ (wd hw 187 rfl) (wd hw 95 rfl) (by decide) (by decide)) (g := (mkF m 7 #[.val (.ref ad1), .val (.long lv1), .second, .unset, .unset, .unset] [(.long (2147483648 : Int64)), (.long lv1), (.long (-2147483648 : Int64))])) rfl (by rw [hml]; rfl) (argsL := [(.long lv1), (.long (2147483648 : Int64))]) (rest := [(.long (-2147483648 : Int64))]) (lenOf pd_14 rfl) rfl (by show 2 * 0 + _ ≤ _; exact Nat.le_of_eq rfl) (hb hby d23_7) (fun _ _ => ⟨rfl, e0, (by decide : 0 + 0 ≤ _), (by decide : 0 + 0 ≤ _)⟩)
  dsimp only [Pt.U, Pt.locs, Pt.cells, Pt.slots] at X1 l1 y1 z1 st1 hQ1
  subst l1 y1 z1
  obtain ⟨rfl, Nq1, e1⟩ := hQ1
  have N1 := Fr.app N0 Nq1
  refine Go.step st1 ?_
  show Go p e below _ (T1.setTop (mkF m 10 #[.val (.ref ad1), .val (.long lv1), .second, .unset, .unset, .unset] [(.long (mnL lv1 (2147483648 : Int64))), (.long (-2147483648 : Int64))]))
  obtain ⟨_, _, ⟨T2, L2, k2, n2⟩, -, X2, ⟨Lc2, hQ2, l2, y2, z2⟩, st2⟩ := Jvm.LawKit.callS X1 hx (y := y_25) hown (mvT hZ (wd hw 188 rfl)) (mvT hZ (wd hw 189 rfl)) (mvT hZ (wd hw 95 rfl)) (mvT hZ (wd hw 190 rfl)) (by decide) (backOf (W := 0) (rm25 l Z a0 hw [] a_EMPTY_ELEMENTDATA aw0 ka_EMPTY_ELEMENTDATA kaw0 HW (-2147483648 : Int64) (mnL lv1 (2147483648 : Int64)) (mxL (-2147483648 : Int64) (mnL lv1 (2147483648 : Int64))) h0 n0 Ol rfl) hZ (wd hw 190 rfl) (wd hw 95 rfl) (by decide) (by decide)) (g := (mkF m 10 #[.val (.ref ad1), .val (.long lv1), .second, .unset, .unset, .unset] [(.long (mnL lv1 (2147483648 : Int64))), (.long (-2147483648 : Int64))])) rfl (by rw [hml]; rfl) (argsL := [(.long (-2147483648 : Int64)), (.long (mnL lv1 (2147483648 : Int64)))]) (rest := []) (lenOf pd_14 rfl) rfl (by show 2 * 0 + _ ≤ _; exact Nat.le_of_eq rfl) (hb hby d23_10) (fun _ _ => ⟨rfl, e1, (by decide : 0 + 0 ≤ _), (by decide : 0 + 0 ≤ _)⟩)
  dsimp only [Pt.U, Pt.locs, Pt.cells, Pt.slots] at X2 l2 y2 z2 st2 hQ2
  subst l2 y2 z2
  obtain ⟨rfl, Nq2, e2⟩ := hQ2
  have N2 := Fr.app N1 Nq2
  refine Go.step st2 ?_
  show Go p e below _ (T2.setTop (mkF m 13 #[.val (.ref ad1), .val (.long lv1), .second, .unset, .unset, .unset] [(.long (mxL (-2147483648 : Int64) (mnL lv1 (2147483648 : Int64))))]))
  refine gs.lstoreN X2.here hx (hb hby d23_13) (l' := #[.val (.ref ad1), .val (.long lv1), .second, .val (.long (mxL (-2147483648 : Int64) (mnL lv1 (2147483648 : Int64)))), .second, .unset]) rfl ?_
  refine gs.aloadN X2.here hx (hb hby d23_14) rfl rfl ?_
  refine gs.getF X2 hx hZ hown (wd hw 17 rfl) Via.refl e2 HF_ad1_InitialDomain_values (hb hby d23_15) fun T3 X3 e3 => ?_
  refine Go.step (fun t_ k_ => XS.ifnonnullNo X3.here hx rfl (hb hby d23_18) rfl k_) ?_
  show Go p e below _ (T3.setTop (mkF m 21 #[.val (.ref ad1), .val (.long lv1), .second, .val (.long (mxL (-2147483648 : Int64) (mnL lv1 (2147483648 : Int64)))), .second, .unset] []))
  refine gs.aloadN X3.here hx (hb hby d23_21) rfl rfl ?_
  refine gs.getF X3 hx hZ hown (wd hw 15 rfl) Via.refl e3 HF_ad1_InitialDomain_size (hb hby d23_22) fun T4 X4 e4 => ?_
  refine Go.step (fun t_ k_ => XS.i2l X4.here hx rfl (hb hby d23_25) rfl k_) ?_
  show Go p e below _ (T4.setTop (mkF m 26 #[.val (.ref ad1), .val (.long lv1), .second, .val (.long (mxL (-2147483648 : Int64) (mnL lv1 (2147483648 : Int64)))), .second, .unset] [(.long ((200 : Int32).toInt64))]))
  rw [show ((200 : Int32).toInt64) = (200 : Int64) from by decide]
  refine Go.step (fun t_ k_ => XS.lconst X4.here hx rfl (hb hby d23_26) k_) ?_
  show Go p e below _ (T4.setTop (mkF m 27 #[.val (.ref ad1), .val (.long lv1), .second, .val (.long (mxL (-2147483648 : Int64) (mnL lv1 (2147483648 : Int64)))), .second, .unset] [(.long (0 : Int64)), (.long (200 : Int64))]))
  refine gs.lloadN X4.here hx (hb hby d23_27) rfl ?_
  refine gs.aloadN X4.here hx (hb hby d23_28) rfl rfl ?_
  refine gs.getF X4 hx hZ hown (wd hw 13 rfl) Via.refl e4 HF_ad1_InitialDomain_lowest (hb hby d23_29) fun T5 X5 e5 => ?_
  refine Go.step (fun t_ k_ => XS.i2l X5.here hx rfl (hb hby d23_32) rfl k_) ?_
  show Go p e below _ (T5.setTop (mkF m 33 #[.val (.ref ad1), .val (.long lv1), .second, .val (.long (mxL (-2147483648 : Int64) (mnL lv1 (2147483648 : Int64)))), .second, .unset] [(.long ((0 : Int32).toInt64)), (.long (mxL (-2147483648 : Int64) (mnL lv1 (2147483648 : Int64)))), (.long (0 : Int64)), (.long (200 : Int64))]))
  rw [show ((0 : Int32).toInt64) = (0 : Int64) from by decide]
  refine gs.lsub X5.here hx (hb hby d23_33) ?_
  obtain ⟨_, _, ⟨T6, L6, k6, n6⟩, -, X6, ⟨Lc6, hQ6, l6, y6, z6⟩, st6⟩ := Jvm.LawKit.callS X5 hx (y := y_25) hown (mvT hZ (wd hw 188 rfl)) (mvT hZ (wd hw 189 rfl)) (mvT hZ (wd hw 95 rfl)) (mvT hZ (wd hw 190 rfl)) (by decide) (backOf (W := 2) (rm25 l Z a0 hw [] a_EMPTY_ELEMENTDATA aw0 ka_EMPTY_ELEMENTDATA kaw0 HW (0 : Int64) ((mxL (-2147483648 : Int64) (mnL lv1 (2147483648 : Int64))) - (0 : Int64)) (mxL (0 : Int64) ((mxL (-2147483648 : Int64) (mnL lv1 (2147483648 : Int64))) - (0 : Int64))) h0 n0 Ol rfl) hZ (wd hw 190 rfl) (wd hw 95 rfl) (by decide) (by decide)) (g := (mkF m 34 #[.val (.ref ad1), .val (.long lv1), .second, .val (.long (mxL (-2147483648 : Int64) (mnL lv1 (2147483648 : Int64)))), .second, .unset] [(.long ((mxL (-2147483648 : Int64) (mnL lv1 (2147483648 : Int64))) - (0 : Int64))), (.long (0 : Int64)), (.long (200 : Int64))])) rfl (by rw [hml]; rfl) (argsL := [(.long (0 : Int64)), (.long ((mxL (-2147483648 : Int64) (mnL lv1 (2147483648 : Int64))) - (0 : Int64)))]) (rest := [(.long (200 : Int64))]) (lenOf pd_14 rfl) rfl (by show 2 * 0 + _ ≤ _; exact Nat.le_of_eq rfl) (hb hby d23_34) (fun _ _ => ⟨rfl, e5, (by decide : 0 + 0 ≤ _), (by decide : 0 + 0 ≤ _)⟩)
  dsimp only [Pt.U, Pt.locs, Pt.cells, Pt.slots] at X6 l6 y6 z6 st6 hQ6
  subst l6 y6 z6
  obtain ⟨rfl, Nq6, e6⟩ := hQ6
  have N6 := Fr.app N2 Nq6
  refine Go.step st6 ?_
  show Go p e below _ (T6.setTop (mkF m 37 #[.val (.ref ad1), .val (.long lv1), .second, .val (.long (mxL (-2147483648 : Int64) (mnL lv1 (2147483648 : Int64)))), .second, .unset] [(.long (mxL (0 : Int64) ((mxL (-2147483648 : Int64) (mnL lv1 (2147483648 : Int64))) - (0 : Int64)))), (.long (200 : Int64))]))
  obtain ⟨_, _, ⟨T7, L7, k7, n7⟩, -, X7, ⟨Lc7, hQ7, l7, y7, z7⟩, st7⟩ := Jvm.LawKit.callS X6 hx (y := y_24) hown (mvT hZ (wd hw 185 rfl)) (mvT hZ (wd hw 186 rfl)) (mvT hZ (wd hw 95 rfl)) (mvT hZ (wd hw 187 rfl)) (by decide) (backOf (W := 0) (rm24 l Z a0 hw [] a_EMPTY_ELEMENTDATA aw0 ka_EMPTY_ELEMENTDATA kaw0 HW (200 : Int64) (mxL (0 : Int64) ((mxL (-2147483648 : Int64) (mnL lv1 (2147483648 : Int64))) - (0 : Int64))) (mnL (200 : Int64) (mxL (0 : Int64) ((mxL (-2147483648 : Int64) (mnL lv1 (2147483648 : Int64))) - (0 : Int64)))) h0 n0 Ol rfl) hZ (wd hw 187 rfl) (wd hw 95 rfl) (by decide) (by decide)) (g := (mkF m 37 #[.val (.ref ad1), .val (.long lv1), .second, .val (.long (mxL (-2147483648 : Int64) (mnL lv1 (2147483648 : Int64)))), .second, .unset] [(.long (mxL (0 : Int64) ((mxL (-2147483648 : Int64) (mnL lv1 (2147483648 : Int64))) - (0 : Int64)))), (.long (200 : Int64))])) rfl (by rw [hml]; rfl) (argsL := [(.long (200 : Int64)), (.long (mxL (0 : Int64) ((mxL (-2147483648 : Int64) (mnL lv1 (2147483648 : Int64))) - (0 : Int64))))]) (rest := []) (lenOf pd_14 rfl) rfl (by show 2 * 0 + _ ≤ _; exact Nat.le_of_eq rfl) (hb hby d23_37) (fun _ _ => ⟨rfl, e6, (by decide : 0 + 0 ≤ _), (by decide : 0 + 0 ≤ _)⟩)
  dsimp only [Pt.U, Pt.locs, Pt.cells, Pt.slots] at X7 l7 y7 z7 st7 hQ7
  subst l7 y7 z7
  obtain ⟨rfl, Nq7, e7⟩ := hQ7
  have N7 := Fr.app N6 Nq7
  refine Go.step st7 ?_
  show Go p e below _ (T7.setTop (mkF m 40 #[.val (.ref ad1), .val (.long lv1), .second, .val (.long (mxL (-2147483648 : Int64) (mnL lv1 (2147483648 : Int64)))), .second, .unset] [(.long (mnL (200 : Int64) (mxL (0 : Int64) ((mxL (-2147483648 : Int64) (mnL lv1 (2147483648 : Int64))) - (0 : Int64)))))]))
  refine Go.step (fun t_ k_ => XS.l2i X7.here hx rfl (hb hby d23_40) rfl k_) ?_
  show Go p e below _ (T7.setTop (mkF m 41 #[.val (.ref ad1), .val (.long lv1), .second, .val (.long (mxL (-2147483648 : Int64) (mnL lv1 (2147483648 : Int64)))), .second, .unset] [(.int ((mnL (200 : Int64) (mxL (0 : Int64) ((mxL (-2147483648 : Int64) (mnL lv1 (2147483648 : Int64))) - (0 : Int64)))).toInt32))]))
  refine Go.retI X7 hx Bd.returns Bd.notSynchronized (hb hby d23_41) (by rw [e7]; exact ⟨rfl, N7, rfl⟩) (by decide) (by decide)
theorem d27_13 : decode prog_20_method_9_code 13 = .ok (.iconst 1, 1) := by decide +kernel
theorem d27_14 : decode prog_20_method_9_code 14 = .ok (.isub, 1) := by decide +kernel
theorem d27_15 : decode prog_20_method_9_code 15 = .ok (.ireturn, 1) := by decide +kernel
theorem ef_am27_1 (m : MethodId) (x0 : Addr) (x1 : Int64)  : entryFrame m #[(.ref x0), (.long x1)] 3 = mkF m 0 #[.val (.ref x0), .val (.long x1), .second] [] := by first | (simp [entryFrame, mkF, argsToLocals, Value.category]; done) | rfl
def Q_am27_1 (Z : State) (a_EMPTY_ELEMENTDATA : Addr) (aw0 : Addr) (ka_EMPTY_ELEMENTDATA : ClassId) (kaw0 : ClassId) (ad1 : Addr) (lv1 : Int64) (h0 : Heap) (n0 : Nat) (v : Option Value) (h : Heap) (L : List Loc) : Prop := v = some (.int (lv1.toInt32)) ∧ Fr n0 L ∧ h = h0
set_option maxRecDepth 65536 in
set_option maxHeartbeats 40000000 in
theorem am27_1 (l : Launch) (Z : State) (a0 : Array Value) (hw : ∀ d ∈ tables_1, d.before a0 Z = true) (ws : List Jvm.Cond) (a_EMPTY_ELEMENTDATA : Addr) (aw0 : Addr) (ka_EMPTY_ELEMENTDATA : ClassId) (kaw0 : ClassId) (HW : Wd Z a_EMPTY_ELEMENTDATA aw0 ka_EMPTY_ELEMENTDATA kaw0) (ad1 : Addr) (lv1 : Int64) (h0 : Heap) (n0 : Nat) (Ol : Old Z n0 h0) (HE_ad1 : Exa Z h0 ad1 "com/example/monarc/monarc/InitialDomain") (HF_ad1_InitialDomain_lowest : Fld Z h0 ad1 "com/example/monarc/monarc/InitialDomain" "lowest" "I" (.int (0 : Int32))) (HF_ad1_InitialDomain_size : Fld Z h0 ad1 "com/example/monarc/monarc/InitialDomain" "size" "I" (.int (200 : Int32))) (HF_ad1_InitialDomain_values : Fld Z h0 ad1 "com/example/monarc/monarc/InitialDomain" "values" "[I" .null) (eq0 : (((mnL (200 : Int64) (mxL (0 : Int64) ((mxL (-2147483648 : Int64) (mnL ((mnL lv1 (2147483647 : Int64)) + (1 : Int64)) (2147483648 : Int64))) - (0 : Int64)))).toInt32) - (1 : Int32)) = (lv1.toInt32)) :
    MetFree l y_27 (head1 (Jvm.Cond.code y_27 prog_20_method_9_code 3 (some .int) :: ws) ({ frames := 2, cells := 0, slots := 0, locals := 34 } : Room)) (fun a_ U_ => a_ = #[(.ref ad1), (.long lv1)] ∧ Z.Warmed39 U_.vm ∧ U_.heap = h0) (fun _ _ _ _ _ => True) (fun _ U_ o_ V_ => ∃ v_ L_, o_ = .returned v_ ∧ Q_am27_1 Z a_EMPTY_ELEMENTDATA aw0 ka_EMPTY_ELEMENTDATA kaw0 ad1 lv1 h0 n0 v_ V_.heap L_ ∧ FrameEnd U_ o_ V_ L_ ({ frames := 2, cells := 0, slots := 0, locals := 34 } : Room).cells ({ frames := 2, cells := 0, slots := 0, locals := 34 } : Room).slots) := by
  refine MetFree.of_bodySF (plainFor_of_name pn_0) hisR ?_
  intro p e s m args below meth c s₁ Bd hml0 hP hK
  obtain ⟨rfl, hZ, hh⟩ := hP
  have hx := Bd.exec
  have hby := Bd.bytes
  have hml : c.maxLocals = 3 := hml0
  have hown : s.vm.findClass "com/example/monarc/monarc/InitialDomain" = some m.cls := findClass_of_methodNamed Bd.named
  have hnm := (name_of_methodNamed Bd.named Bd.method).1
  have X0 : Stand p l e ({ frames := 2, cells := 0, slots := 0, locals := 34 } : Room) s m #[(.ref ad1), (.long lv1)] below meth c s₁ [] 0 0 := Stand.of_body Bd
  have e0 : s₁.heap = h0 := by rw [← hh, Bd.state]; rfl
  have N0 := Fr.nil n0
  have kp0 := Keep.refl h0 []
  show Go p e below (Fin1 s below (Q_am27_1 Z a_EMPTY_ELEMENTDATA aw0 ka_EMPTY_ELEMENTDATA kaw0 ad1 lv1 h0 n0) ({ frames := 2, cells := 0, slots := 0, locals := 34 } : Room).cells ({ frames := 2, cells := 0, slots := 0, locals := 34 } : Room).slots) _
  refine Go.step (fun t_ k_ => castTop (ef_am27_1 m ad1 lv1) k_) ?_
  obtain ⟨Ea_EMPTY_ELEMENTDATA, Sa_EMPTY_ELEMENTDATA, Eaw0, Saw0, Aa_EMPTY_ELEMENTDATA, Aaw0⟩ := id HW
  show Go p e below _ (s₁.setTop (mkF m 0 #[.val (.ref ad1), .val (.long lv1), .second] []))
  refine gs.aloadN X0.here hx (hb hby d27_0) rfl rfl ?_
  refine gs.lloadN X0.here hx (hb hby d27_1) rfl ?_
  refine Go.step (fun t_ k_ => X0.ldc2Long hx hown (mvT hZ (wd hw 201 rfl)) (g := (mkF m 2 #[.val (.ref ad1), .val (.long lv1), .second] [(.long lv1), (.ref ad1)])) rfl (hb hby d27_2) _ k_) ?_
  show Go p e below _ (s₁.setTop (mkF m 5 #[.val (.ref ad1), .val (.long lv1), .second] [(.long (2147483647 : Int64)), (.long lv1), (.ref ad1)]))
  obtain ⟨_, _, ⟨T1, L1, k1, n1⟩, -, X1, ⟨Lc1, hQ1, l1, y1, z1⟩, st1⟩ := Jvm.LawKit.callS X0 hx (y := y_24) hown (mvT hZ (wd hw 185 rfl)) (mvT hZ (wd hw 186 rfl)) (mvT hZ (wd hw 95 rfl)) (mvT hZ (wd hw 187 rfl)) (by decide) (backOf (W := 1) (rm24 l Z a0 hw [] a_EMPTY_ELEMENTDATA aw0 ka_EMPTY_ELEMENTDATA kaw0 HW lv1 (2147483647 : Int64) (mnL lv1 (2147483647 : Int64)) h0 n0 Ol rfl) hZ (wd hw 187 rfl) (wd hw 95 rfl) (by decide) (by decide)) (g := (mkF m 5 #[.val (.ref ad1), .val (.long lv1), .second] [(.long (2147483647 : Int64)), (.long lv1), (.ref ad1)])) rfl (by rw [hml]; rfl) (argsL := [(.long lv1), (.long (2147483647 : Int64))]) (rest := [(.ref ad1)]) (lenOf pd_14 rfl) rfl (by show 2 * 0 + _ ≤ _; exact Nat.le_of_eq rfl) (hb hby d27_5) (fun _ _ => ⟨rfl, e0, (by decide : 0 + 0 ≤ _), (by decide : 0 + 0 ≤ _)⟩)
  dsimp only [Pt.U, Pt.locs, Pt.cells, Pt.slots] at X1 l1 y1 z1 st1 hQ1
  subst l1 y1 z1
  obtain ⟨rfl, Nq1, e1⟩ := hQ1
  have N1 := Fr.app N0 Nq1
  refine Go.step st1 ?_
  show Go p e below _ (T1.setTop (mkF m 8 #[.val (.ref ad1), .val (.long lv1), .second] [(.long (mnL lv1 (2147483647 : Int64))), (.ref ad1)]))
  refine Go.step (fun t_ k_ => XS.lconst X1.here hx rfl (hb hby d27_8) k_) ?_
  show Go p e below _ (T1.setTop (mkF m 9 #[.val (.ref ad1), .val (.long lv1), .second] [(.long (1 : Int64)), (.long (mnL lv1 (2147483647 : Int64))), (.ref ad1)]))
  refine gs.ladd X1.here hx (hb hby d27_9) ?_
  obtain ⟨cq2, kq2, q2a, q2b, q2c⟩ := isOf hZ e1 HE_ad1
  obtain ⟨_, _, ⟨T2, L2, k2, n2⟩, -, X2, ⟨Lc2, hQ2, l2, y2, z2⟩, st2⟩ := X1.virtualBack hx (y := y_23) (z := y_23) hown (mvT hZ (wd hw 202 rfl)) (mvT hZ (wd hw 179 rfl)) (notFace_of_selects (args := #[]) (mvT hZ (wd hw 181 rfl))) (mvT hZ (wd hw 181 rfl)) (mvT hZ (wd hw 180 rfl)) (by decide) (backOf (W := 0) (am23_2 l Z a0 hw [] a_EMPTY_ELEMENTDATA aw0 ka_EMPTY_ELEMENTDATA kaw0 HW (ad1) (((mnL lv1 (2147483647 : Int64)) + (1 : Int64))) h0 n0 Ol HF_ad1_InitialDomain_lowest HF_ad1_InitialDomain_size HF_ad1_InitialDomain_values) hZ (wd hw 182 rfl) (wd hw 2 rfl) (by decide) (by decide)) q2a q2c (g := (mkF m 10 #[.val (.ref ad1), .val (.long lv1), .second] [(.long ((mnL lv1 (2147483647 : Int64)) + (1 : Int64))), (.ref ad1)])) rfl (by rw [hml]; rfl) (Steps.refl _) (argsL := [(.long ((mnL lv1 (2147483647 : Int64)) + (1 : Int64)))]) (rest := []) (lenOf pd_15 rfl) rfl (by show 2 * 0 + _ ≤ _; exact Nat.le_of_eq rfl) (hb hby d27_10) (fun _ _ => ⟨rfl, e1, (by decide : 0 + 0 ≤ _), (by decide : 0 + 0 ≤ _)⟩)
  dsimp only [Pt.U, Pt.locs, Pt.cells, Pt.slots] at X2 l2 y2 z2 st2 hQ2
  subst l2 y2 z2
  obtain ⟨rfl, Nq2, e2⟩ := hQ2
  have N2 := Fr.app N1 Nq2
  refine Go.step (fun t_ k_ => st2.trans k_) ?_
  show Go p e below _ (T2.setTop (mkF m 13 #[.val (.ref ad1), .val (.long lv1), .second] [(.int ((mnL (200 : Int64) (mxL (0 : Int64) ((mxL (-2147483648 : Int64) (mnL ((mnL lv1 (2147483647 : Int64)) + (1 : Int64)) (2147483648 : Int64))) - (0 : Int64)))).toInt32))]))
  refine gs.iconst 1 X2.here hx (hb hby d27_13) rfl ?_
  refine gs.isub X2.here hx (hb hby d27_14) ?_
  rw [show (((mnL (200 : Int64) (mxL (0 : Int64) ((mxL (-2147483648 : Int64) (mnL ((mnL lv1 (2147483647 : Int64)) + (1 : Int64)) (2147483648 : Int64))) - (0 : Int64)))).toInt32) - (1 : Int32)) = (lv1.toInt32) from eq0]
  refine Go.retI X2 hx Bd.returns Bd.notSynchronized (hb hby d27_15) (by rw [e2]; exact ⟨rfl, N2, rfl⟩) (by decide) (by decide)
theorem d26_10 : decode prog_11_method_21_code 10 = .ok (.istore 4, 2) := by decide +kernel
theorem d26_12 : decode prog_11_method_21_code 12 = .ok (.aload_n 0, 1) := by decide +kernel
theorem d26_13 : decode prog_11_method_21_code 13 = .ok (.getfield 40, 3) := by decide +kernel
theorem d26_16 : decode prog_11_method_21_code 16 = .ok (.iload_n 1, 1) := by decide +kernel
theorem d26_17 : decode prog_11_method_21_code 17 = .ok (.iaload, 1) := by decide +kernel
theorem d26_18 : decode prog_11_method_21_code 18 = .ok (.ifCond .le 21, 3) := by decide +kernel
theorem d26_21 : decode prog_11_method_21_code 21 = .ok (.iload 4, 2) := by decide +kernel
theorem d26_23 : decode prog_11_method_21_code 23 = .ok (.aload_n 0, 1) := by decide +kernel
theorem d26_24 : decode prog_11_method_21_code 24 = .ok (.getfield 32, 3) := by decide +kernel
theorem d26_27 : decode prog_11_method_21_code 27 = .ok (.iload_n 1, 1) := by decide +kernel
theorem d26_28 : decode prog_11_method_21_code 28 = .ok (.iaload, 1) := by decide +kernel
theorem d26_29 : decode prog_11_method_21_code 29 = .ok (.if_icmp .ge 10, 3) := by decide +kernel
theorem d26_32 : decode prog_11_method_21_code 32 = .ok (.aload_n 0, 1) := by decide +kernel
theorem d26_33 : decode prog_11_method_21_code 33 = .ok (.iload_n 1, 1) := by decide +kernel
theorem d26_34 : decode prog_11_method_21_code 34 = .ok (.iload 4, 2) := by decide +kernel
theorem d26_36 : decode prog_11_method_21_code 36 = .ok (.invokevirtual 121, 3) := by decide +kernel
theorem d28_0 : decode prog_11_method_24_code 0 = .ok (.iload_n 2, 1) := by decide +kernel
theorem d28_1 : decode prog_11_method_24_code 1 = .ok (.aload_n 0, 1) := by decide +kernel
theorem d28_2 : decode prog_11_method_24_code 2 = .ok (.getfield 29, 3) := by decide +kernel
theorem d28_5 : decode prog_11_method_24_code 5 = .ok (.iload_n 1, 1) := by decide +kernel
theorem d28_6 : decode prog_11_method_24_code 6 = .ok (.iaload, 1) := by decide +kernel
theorem d28_7 : decode prog_11_method_24_code 7 = .ok (.if_icmp .ge 14, 3) := by decide +kernel
theorem d28_21 : decode prog_11_method_24_code 21 = .ok (.aload_n 0, 1) := by decide +kernel
theorem d28_22 : decode prog_11_method_24_code 22 = .ok (.iload_n 1, 1) := by decide +kernel
theorem d28_23 : decode prog_11_method_24_code 23 = .ok (.iload_n 2, 1) := by decide +kernel
theorem d28_24 : decode prog_11_method_24_code 24 = .ok (.invokevirtual 89, 3) := by decide +kernel
theorem d29_0 : decode prog_11_method_15_code 0 = .ok (.iload_n 2, 1) := by decide +kernel
theorem d29_1 : decode prog_11_method_15_code 1 = .ok (.aload_n 0, 1) := by decide +kernel
theorem d29_2 : decode prog_11_method_15_code 2 = .ok (.getfield 29, 3) := by decide +kernel
theorem d29_5 : decode prog_11_method_15_code 5 = .ok (.iload_n 1, 1) := by decide +kernel
theorem d29_6 : decode prog_11_method_15_code 6 = .ok (.iaload, 1) := by decide +kernel
theorem d29_7 : decode prog_11_method_15_code 7 = .ok (.if_icmp .ge 5, 3) := by decide +kernel
theorem d29_12 : decode prog_11_method_15_code 12 = .ok (.aload_n 0, 1) := by decide +kernel
theorem d29_13 : decode prog_11_method_15_code 13 = .ok (.getfield 36, 3) := by decide +kernel
theorem d29_16 : decode prog_11_method_15_code 16 = .ok (.iload_n 1, 1) := by decide +kernel
theorem d29_17 : decode prog_11_method_15_code 17 = .ok (.aaload, 1) := by decide +kernel
theorem d29_18 : decode prog_11_method_15_code 18 = .ok (.astore_n 3, 1) := by decide +kernel
theorem d29_19 : decode prog_11_method_15_code 19 = .ok (.aload_n 3, 1) := by decide +kernel
theorem d29_20 : decode prog_11_method_15_code 20 = .ok (.ifnonnull 5, 3) := by decide +kernel
theorem d29_23 : decode prog_11_method_15_code 23 = .ok (.iload_n 2, 1) := by decide +kernel
theorem d29_24 : decode prog_11_method_15_code 24 = .ok (.ireturn, 1) := by decide +kernel
theorem ef_am29_1 (m : MethodId) (x0 : Addr) (x1 : Int32) (x2 : Int32)  : entryFrame m #[(.ref x0), (.int x1), (.int x2)] 7 = mkF m 0 #[.val (.ref x0), .val (.int x1), .val (.int x2), .unset, .unset, .unset, .unset] [] := by first | (simp [entryFrame, mkF, argsToLocals, Value.category]; done) | rfl
def Q_am29_1 (Z : State) (a_EMPTY_ELEMENTDATA : Addr) (aw0 : Addr) (ka_EMPTY_ELEMENTDATA : ClassId) (kaw0 : ClassId) (ad1 : Addr) (iv1 : Int32) (ad7 : Addr) (ad9 : Addr) (kc1 : ClassId) (kc3 : ClassId) (iv4 : Int32) (h0 : Heap) (n0 : Nat) (v : Option Value) (h : Heap) (L : List Loc) : Prop := v = some (.int iv1) ∧ Fr n0 L ∧ h = h0
set_option maxRecDepth 65536 in
set_option maxHeartbeats 40000000 in
theorem am29_1 (l : Launch) (Z : State) (a0 : Array Value) (hw : ∀ d ∈ tables_1, d.before a0 Z = true) (ws : List Jvm.Cond) (a_EMPTY_ELEMENTDATA : Addr) (aw0 : Addr) (ka_EMPTY_ELEMENTDATA : ClassId) (kaw0 : ClassId) (HW : Wd Z a_EMPTY_ELEMENTDATA aw0 ka_EMPTY_ELEMENTDATA kaw0) (ad1 : Addr) (iv1 : Int32) (ad7 : Addr) (ad9 : Addr) (kc1 : ClassId) (kc3 : ClassId) (iv4 : Int32) (h0 : Heap) (n0 : Nat) (Ol : Old Z n0 h0) (HF_ad1_Domains_lower : Fld Z h0 ad1 "com/example/monarc/monarc/Domains" "lower" "[I" (.ref ad7)) (HF_ad1_Domains_holes : Fld Z h0 ad1 "com/example/monarc/monarc/Domains" "holes" "[[J" (.ref ad9)) (HV_ad9 : Arv Z h0 ad9 kc1 (.array .long) (2 : Int32) [.null, .null] .null) (HV_ad7 : Arv Z h0 ad7 kc3 .int (2 : Int32) [(.int iv4), (.int (0 : Int32))] (.int (0 : Int32))) (as0 : ¬ (iv1 < iv4)) (hO_ad9 : OvrA Z kc1 .long "[J") :
    MetFree l y_29 (head1 (Jvm.Cond.code y_29 prog_11_method_15_code 7 (some .int) :: ws) ({ frames := 0, cells := 0, slots := 0, locals := 0 } : Room)) (fun a_ U_ => a_ = #[(.ref ad1), (.int (0 : Int32)), (.int iv1)] ∧ Z.Warmed39 U_.vm ∧ U_.heap = h0) (fun _ _ _ _ _ => True) (fun _ U_ o_ V_ => ∃ v_ L_, o_ = .returned v_ ∧ Q_am29_1 Z a_EMPTY_ELEMENTDATA aw0 ka_EMPTY_ELEMENTDATA kaw0 ad1 iv1 ad7 ad9 kc1 kc3 iv4 h0 n0 v_ V_.heap L_ ∧ FrameEnd U_ o_ V_ L_ ({ frames := 0, cells := 0, slots := 0, locals := 0 } : Room).cells ({ frames := 0, cells := 0, slots := 0, locals := 0 } : Room).slots) := by
  refine MetFree.of_bodySF (plainFor_of_name pn_8) hisR ?_
  intro p e s m args below meth c s₁ Bd hml0 hP hK
  obtain ⟨rfl, hZ, hh⟩ := hP
  have hx := Bd.exec
  have hby := Bd.bytes
  have hml : c.maxLocals = 7 := hml0
  have hown : s.vm.findClass "com/example/monarc/monarc/Domains" = some m.cls := findClass_of_methodNamed Bd.named
  have hnm := (name_of_methodNamed Bd.named Bd.method).1
  have X0 : Stand p l e ({ frames := 0, cells := 0, slots := 0, locals := 0 } : Room) s m #[(.ref ad1), (.int (0 : Int32)), (.int iv1)] below meth c s₁ [] 0 0 := Stand.of_body Bd
  have e0 : s₁.heap = h0 := by rw [← hh, Bd.state]; rfl
  have N0 := Fr.nil n0
  have kp0 := Keep.refl h0 []
  show Go p e below (Fin1 s below (Q_am29_1 Z a_EMPTY_ELEMENTDATA aw0 ka_EMPTY_ELEMENTDATA kaw0 ad1 iv1 ad7 ad9 kc1 kc3 iv4 h0 n0) ({ frames := 0, cells := 0, slots := 0, locals := 0 } : Room).cells ({ frames := 0, cells := 0, slots := 0, locals := 0 } : Room).slots) _
  refine Go.step (fun t_ k_ => castTop (ef_am29_1 m ad1 (0 : Int32) iv1) k_) ?_
  obtain ⟨Ea_EMPTY_ELEMENTDATA, Sa_EMPTY_ELEMENTDATA, Eaw0, Saw0, Aa_EMPTY_ELEMENTDATA, Aaw0⟩ := id HW
  show Go p e below _ (s₁.setTop (mkF m 0 #[.val (.ref ad1), .val (.int (0 : Int32)), .val (.int iv1), .unset, .unset, .unset, .unset] []))
  refine gs.iloadN X0.here hx (hb hby d29_0) rfl ?_
  refine gs.aloadN X0.here hx (hb hby d29_1) rfl rfl ?_
  refine gs.getF X0 hx hZ hown (wd hw 127 rfl) Via.refl e0 HF_ad1_Domains_lower (hb hby d29_2) fun T1 X1 e1 => ?_
  refine gs.iloadN X1.here hx (hb hby d29_5) rfl ?_
  obtain ⟨cl2, Ar2, q2, Sz2, Ng2, Hs2, G2⟩ := id HV_ad7
  have hin2 : ¬ ((0 : Int32) < 0 ∨ cl2.slots.size ≤ ((0 : Int32)).toNatClampNeg) := inb_of Sz2 ⟨by decide, by decide⟩
  have hat2 : cl2.slots[((0 : Int32)).toNatClampNeg]? = some (.int iv4) := Has.at Hs2 hin2 rfl
  refine Go.step (fun t_ k_ => X1.iaload hx (j := (0 : Int32)) (v := (.int iv4)) (by rw [e1]; exact Ar2.1) (State.isArrayOf_alike hZ.alike Ar2.2.1) Ar2.2.2 hin2 hat2 (g := (mkF m 6 #[.val (.ref ad1), .val (.int (0 : Int32)), .val (.int iv1), .unset, .unset, .unset, .unset] [(.int (0 : Int32)), (.ref ad7), (.int iv1)])) rfl rfl (hb hby d29_6) _ k_) ?_
  show Go p e below _ (T1.setTop (mkF m 7 #[.val (.ref ad1), .val (.int (0 : Int32)), .val (.int iv1), .unset, .unset, .unset, .unset] [(.int iv4), (.int iv1)]))
  have hc7 : ¬ (iv1 < iv4) := as0
  refine gs.icmpYes 12 X1.here hx (hb hby d29_7) (flt hc7).2.1 rfl ?_
  refine gs.aloadN X1.here hx (hb hby d29_12) rfl rfl ?_
  refine gs.getF X1 hx hZ hown (wd hw 133 rfl) Via.refl e1 HF_ad1_Domains_holes (hb hby d29_13) fun T3 X3 e3 => ?_
  refine gs.iloadN X3.here hx (hb hby d29_16) rfl ?_
  obtain ⟨cl4, Ar4, q4, Sz4, Ng4, Hs4, G4⟩ := id HV_ad9
  have hin4 : ¬ ((0 : Int32) < 0 ∨ cl4.slots.size ≤ ((0 : Int32)).toNatClampNeg) := inb_of Sz4 ⟨by decide, by decide⟩
  have hat4 : cl4.slots[((0 : Int32)).toNatClampNeg]? = some .null := Has.at Hs4 hin4 rfl
  refine Go.step (fun t_ k_ => X3.aaload hx (j := (0 : Int32)) (v := .null) (by rw [e3]; exact Ar4.1) (State.isArrayOf_alike hZ.alike Ar4.2.1) rfl Ar4.2.2 hin4 hat4 (g := (mkF m 17 #[.val (.ref ad1), .val (.int (0 : Int32)), .val (.int iv1), .unset, .unset, .unset, .unset] [(.int (0 : Int32)), (.ref ad9)])) rfl rfl (hb hby d29_17) _ k_) ?_
  show Go p e below _ (T3.setTop (mkF m 18 #[.val (.ref ad1), .val (.int (0 : Int32)), .val (.int iv1), .unset, .unset, .unset, .unset] [.null]))
  refine gs.astoreN X3.here hx (hb hby d29_18) rfl (l' := #[.val (.ref ad1), .val (.int (0 : Int32)), .val (.int iv1), .val .null, .unset, .unset, .unset]) rfl ?_
  refine gs.aloadN X3.here hx (hb hby d29_19) rfl rfl ?_
  refine Go.step (fun t_ k_ => XS.ifnonnullNo X3.here hx rfl (hb hby d29_20) rfl k_) ?_
  show Go p e below _ (T3.setTop (mkF m 23 #[.val (.ref ad1), .val (.int (0 : Int32)), .val (.int iv1), .val .null, .unset, .unset, .unset] []))
  refine gs.iloadN X3.here hx (hb hby d29_23) rfl ?_
  refine Go.retI X3 hx Bd.returns Bd.notSynchronized (hb hby d29_24) (by rw [e3]; exact ⟨rfl, N0, rfl⟩) (by decide) (by decide)
theorem d28_27 : decode prog_11_method_24_code 27 = .ok (.istore_n 3, 1) := by decide +kernel
theorem d28_28 : decode prog_11_method_24_code 28 = .ok (.aload_n 0, 1) := by decide +kernel
theorem d28_29 : decode prog_11_method_24_code 29 = .ok (.getfield 32, 3) := by decide +kernel
theorem d28_32 : decode prog_11_method_24_code 32 = .ok (.iload_n 1, 1) := by decide +kernel
theorem d28_33 : decode prog_11_method_24_code 33 = .ok (.iaload, 1) := by decide +kernel
theorem d28_34 : decode prog_11_method_24_code 34 = .ok (.istore 4, 2) := by decide +kernel
theorem d28_36 : decode prog_11_method_24_code 36 = .ok (.aload_n 0, 1) := by decide +kernel
theorem d28_37 : decode prog_11_method_24_code 37 = .ok (.iload_n 1, 1) := by decide +kernel
theorem d28_38 : decode prog_11_method_24_code 38 = .ok (.aload_n 0, 1) := by decide +kernel
theorem d28_39 : decode prog_11_method_24_code 39 = .ok (.getfield 40, 3) := by decide +kernel
theorem d28_42 : decode prog_11_method_24_code 42 = .ok (.iload_n 1, 1) := by decide +kernel
theorem d28_43 : decode prog_11_method_24_code 43 = .ok (.iaload, 1) := by decide +kernel
theorem d28_44 : decode prog_11_method_24_code 44 = .ok (.aload_n 0, 1) := by decide +kernel
theorem d28_45 : decode prog_11_method_24_code 45 = .ok (.iload_n 1, 1) := by decide +kernel
theorem d28_46 : decode prog_11_method_24_code 46 = .ok (.iload_n 3, 1) := by decide +kernel
theorem d28_47 : decode prog_11_method_24_code 47 = .ok (.iconst 1, 1) := by decide +kernel
theorem d28_48 : decode prog_11_method_24_code 48 = .ok (.iadd, 1) := by decide +kernel
theorem d28_49 : decode prog_11_method_24_code 49 = .ok (.iload 4, 2) := by decide +kernel
theorem d28_51 : decode prog_11_method_24_code 51 = .ok (.iconst 1, 1) := by decide +kernel
theorem d28_52 : decode prog_11_method_24_code 52 = .ok (.iadd, 1) := by decide +kernel
theorem d28_53 : decode prog_11_method_24_code 53 = .ok (.invokevirtual 143, 3) := by decide +kernel
theorem ef_am30_2 (m : MethodId) (x0 : Addr) (x1 : Int32) (x2 : Int32) (x3 : Int32)  : entryFrame m #[(.ref x0), (.int x1), (.int x2), (.int x3)] 13 = mkF m 0 #[.val (.ref x0), .val (.int x1), .val (.int x2), .val (.int x3), .unset, .unset, .unset, .unset, .unset, .unset, .unset, .unset, .unset] [] := by first | (simp [entryFrame, mkF, argsToLocals, Value.category]; done) | rfl
def Q_am30_2 (Z : State) (a_EMPTY_ELEMENTDATA : Addr) (aw0 : Addr) (ka_EMPTY_ELEMENTDATA : ClassId) (kaw0 : ClassId) (ad1 : Addr) (iv1 : Int32) (ad9 : Addr) (kc1 : ClassId) (h0 : Heap) (n0 : Nat) (v : Option Value) (h : Heap) (L : List Loc) : Prop := v = some (.int (mxI (0 : Int32) ((200 : Int32) - iv1))) ∧ Fr n0 L ∧ h = h0
set_option maxRecDepth 65536 in
set_option maxHeartbeats 40000000 in
theorem am30_2 (l : Launch) (Z : State) (a0 : Array Value) (hw : ∀ d ∈ tables_1, d.before a0 Z = true) (ws : List Jvm.Cond) (a_EMPTY_ELEMENTDATA : Addr) (aw0 : Addr) (ka_EMPTY_ELEMENTDATA : ClassId) (kaw0 : ClassId) (HW : Wd Z a_EMPTY_ELEMENTDATA aw0 ka_EMPTY_ELEMENTDATA kaw0) (ad1 : Addr) (iv1 : Int32) (ad9 : Addr) (kc1 : ClassId) (h0 : Heap) (n0 : Nat) (Ol : Old Z n0 h0) (HF_ad1_Domains_holes : Fld Z h0 ad1 "com/example/monarc/monarc/Domains" "holes" "[[J" (.ref ad9)) (HV_ad9 : Arv Z h0 ad9 kc1 (.array .long) (2 : Int32) [.null, .null] .null) (hO_ad9 : OvrA Z kc1 .long "[J") :
    MetFree l y_30 (head1 (Jvm.Cond.code y_30 prog_11_method_16_code 13 (some .int) :: ws) ({ frames := 1, cells := 0, slots := 0, locals := 13 } : Room)) (fun a_ U_ => a_ = #[(.ref ad1), (.int (0 : Int32)), (.int iv1), (.int (200 : Int32))] ∧ Z.Warmed39 U_.vm ∧ U_.heap = h0) (fun _ _ _ _ _ => True) (fun _ U_ o_ V_ => ∃ v_ L_, o_ = .returned v_ ∧ Q_am30_2 Z a_EMPTY_ELEMENTDATA aw0 ka_EMPTY_ELEMENTDATA kaw0 ad1 iv1 ad9 kc1 h0 n0 v_ V_.heap L_ ∧ FrameEnd U_ o_ V_ L_ ({ frames := 1, cells := 0, slots := 0, locals := 13 } : Room).cells ({ frames := 1, cells := 0, slots := 0, locals := 13 } : Room).slots) := by
  refine MetFree.of_bodySF (plainFor_of_name pn_8) hisR ?_
  intro p e s m args below meth c s₁ Bd hml0 hP hK
  obtain ⟨rfl, hZ, hh⟩ := hP
  have hx := Bd.exec
  have hby := Bd.bytes
  have hml : c.maxLocals = 13 := hml0
  have hown : s.vm.findClass "com/example/monarc/monarc/Domains" = some m.cls := findClass_of_methodNamed Bd.named
  have hnm := (name_of_methodNamed Bd.named Bd.method).1
  have X0 : Stand p l e ({ frames := 1, cells := 0, slots := 0, locals := 13 } : Room) s m #[(.ref ad1), (.int (0 : Int32)), (.int iv1), (.int (200 : Int32))] below meth c s₁ [] 0 0 := Stand.of_body Bd
  have e0 : s₁.heap = h0 := by rw [← hh, Bd.state]; rfl
  have N0 := Fr.nil n0
  have kp0 := Keep.refl h0 []
  show Go p e below (Fin1 s below (Q_am30_2 Z a_EMPTY_ELEMENTDATA aw0 ka_EMPTY_ELEMENTDATA kaw0 ad1 iv1 ad9 kc1 h0 n0) ({ frames := 1, cells := 0, slots := 0, locals := 13 } : Room).cells ({ frames := 1, cells := 0, slots := 0, locals := 13 } : Room).slots) _
  refine Go.step (fun t_ k_ => castTop (ef_am30_2 m ad1 (0 : Int32) iv1 (200 : Int32)) k_) ?_
  obtain ⟨Ea_EMPTY_ELEMENTDATA, Sa_EMPTY_ELEMENTDATA, Eaw0, Saw0, Aa_EMPTY_ELEMENTDATA, Aaw0⟩ := id HW
  show Go p e below _ (s₁.setTop (mkF m 0 #[.val (.ref ad1), .val (.int (0 : Int32)), .val (.int iv1), .val (.int (200 : Int32)), .unset, .unset, .unset, .unset, .unset, .unset, .unset, .unset, .unset] []))
  refine gs.aloadN X0.here hx (hb hby d30_0) rfl rfl ?_
  refine gs.getF X0 hx hZ hown (wd hw 133 rfl) Via.refl e0 HF_ad1_Domains_holes (hb hby d30_1) fun T1 X1 e1 => ?_
  refine gs.iloadN X1.here hx (hb hby d30_4) rfl ?_
  obtain ⟨cl2, Ar2, q2, Sz2, Ng2, Hs2, G2⟩ := id HV_ad9
  have hin2 : ¬ ((0 : Int32) < 0 ∨ cl2.slots.size ≤ ((0 : Int32)).toNatClampNeg) := inb_of Sz2 ⟨by decide, by decide⟩
  have hat2 : cl2.slots[((0 : Int32)).toNatClampNeg]? = some .null := Has.at Hs2 hin2 rfl
  refine Go.step (fun t_ k_ => X1.aaload hx (j := (0 : Int32)) (v := .null) (by rw [e1]; exact Ar2.1) (State.isArrayOf_alike hZ.alike Ar2.2.1) rfl Ar2.2.2 hin2 hat2 (g := (mkF m 5 #[.val (.ref ad1), .val (.int (0 : Int32)), .val (.int iv1), .val (.int (200 : Int32)), .unset, .unset, .unset, .unset, .unset, .unset, .unset, .unset, .unset] [(.int (0 : Int32)), (.ref ad9)])) rfl rfl (hb hby d30_5) _ k_) ?_
  show Go p e below _ (T1.setTop (mkF m 6 #[.val (.ref ad1), .val (.int (0 : Int32)), .val (.int iv1), .val (.int (200 : Int32)), .unset, .unset, .unset, .unset, .unset, .unset, .unset, .unset, .unset] [.null]))
  refine gs.astore X1.here hx (hb hby d30_6) rfl (l' := #[.val (.ref ad1), .val (.int (0 : Int32)), .val (.int iv1), .val (.int (200 : Int32)), .val .null, .unset, .unset, .unset, .unset, .unset, .unset, .unset, .unset]) rfl ?_
  refine gs.aload X1.here hx (hb hby d30_8) rfl rfl ?_
  refine Go.step (fun t_ k_ => XS.ifnullYes X1.here hx rfl (pc0 := 10) (pc' := 18) rfl (hb hby d30_10) rfl (by decide) (by decide) k_) ?_
  show Go p e below _ (T1.setTop (mkF m 18 #[.val (.ref ad1), .val (.int (0 : Int32)), .val (.int iv1), .val (.int (200 : Int32)), .val .null, .unset, .unset, .unset, .unset, .unset, .unset, .unset, .unset] []))
  refine gs.iconst 0 X1.here hx (hb hby d30_18) rfl ?_
  refine gs.iloadN X1.here hx (hb hby d30_19) rfl ?_
  refine gs.iloadN X1.here hx (hb hby d30_20) rfl ?_
  refine gs.isub X1.here hx (hb hby d30_21) ?_
  obtain ⟨_, _, ⟨T3, L3, k3, n3⟩, -, X3, ⟨Lc3, hQ3, l3, y3, z3⟩, st3⟩ := Jvm.LawKit.callS X1 hx (y := y_13) hown (mvT hZ (wd hw 215 rfl)) (mvT hZ (wd hw 94 rfl)) (mvT hZ (wd hw 95 rfl)) (mvT hZ (wd hw 96 rfl)) (by decide) (backOf (W := 0) (rm13 l Z a0 hw [] a_EMPTY_ELEMENTDATA aw0 ka_EMPTY_ELEMENTDATA kaw0 HW (0 : Int32) ((200 : Int32) - iv1) (mxI (0 : Int32) ((200 : Int32) - iv1)) h0 n0 Ol rfl) hZ (wd hw 96 rfl) (wd hw 95 rfl) (by decide) (by decide)) (g := (mkF m 22 #[.val (.ref ad1), .val (.int (0 : Int32)), .val (.int iv1), .val (.int (200 : Int32)), .val .null, .unset, .unset, .unset, .unset, .unset, .unset, .unset, .unset] [(.int ((200 : Int32) - iv1)), (.int (0 : Int32))])) rfl (by rw [hml]; rfl) (argsL := [(.int (0 : Int32)), (.int ((200 : Int32) - iv1))]) (rest := []) (lenOf pd_4 rfl) rfl (by show 2 * 0 + _ ≤ _; exact Nat.le_of_eq rfl) (hb hby d30_22) (fun _ _ => ⟨rfl, e1, (by decide : 0 + 0 ≤ _), (by decide : 0 + 0 ≤ _)⟩)
  dsimp only [Pt.U, Pt.locs, Pt.cells, Pt.slots] at X3 l3 y3 z3 st3 hQ3
  subst l3 y3 z3
  obtain ⟨rfl, Nq3, e3⟩ := hQ3
  have N3 := Fr.app N0 Nq3
  refine Go.step st3 ?_
  show Go p e below _ (T3.setTop (mkF m 25 #[.val (.ref ad1), .val (.int (0 : Int32)), .val (.int iv1), .val (.int (200 : Int32)), .val .null, .unset, .unset, .unset, .unset, .unset, .unset, .unset, .unset] [(.int (mxI (0 : Int32) ((200 : Int32) - iv1)))]))
  refine Go.retI X3 hx Bd.returns Bd.notSynchronized (hb hby d30_25) (by rw [e3]; exact ⟨rfl, N3, rfl⟩) (by decide) (by decide)
theorem d28_56 : decode prog_11_method_24_code 56 = .ok (.isub, 1) := by decide +kernel
theorem d28_57 : decode prog_11_method_24_code 57 = .ok (.invokevirtual 130, 3) := by decide +kernel
theorem d31_25 : decode prog_11_method_25_code 25 = .ok (.iconst 1, 1) := by decide +kernel
theorem d31_26 : decode prog_11_method_25_code 26 = .ok (.goto 4, 3) := by decide +kernel
theorem ef_am31_2 (m : MethodId) (x0 : Addr) (x1 : Int32) (x2 : Int32)  : entryFrame m #[(.ref x0), (.int x1), (.int x2)] 3 = mkF m 0 #[.val (.ref x0), .val (.int x1), .val (.int x2)] [] := by first | (simp [entryFrame, mkF, argsToLocals, Value.category]; done) | rfl
def Q_am31_2 (Z : State) (a_EMPTY_ELEMENTDATA : Addr) (aw0 : Addr) (ka_EMPTY_ELEMENTDATA : ClassId) (kaw0 : ClassId) (ad1 : Addr) (iv1 : Int32) (ad4 : Addr) (ad5 : Addr) (ad6 : Addr) (ad7 : Addr) (ad8 : Addr) (ad9 : Addr) (ad10 : Addr) (iv2 : Int32) (iv3 : Int32) (kc5 : ClassId) (iv5 : Int32) (h0 : Heap) (n0 : Nat) (v : Option Value) (h : Heap) (L : List Loc) : Prop := ∃ ex1 : Int32, v = none ∧ Fr n0 L ∧ Keep h0 h [ad1, ad10] ∧ (Exa Z h ad1 "com/example/monarc/monarc/Domains") ∧ (Fld Z h ad1 "com/example/monarc/monarc/Domains" "holes" "[[J" (.ref ad9)) ∧ (Fld Z h ad1 "com/example/monarc/monarc/Domains" "initial" "[Lcom/example/monarc/monarc/InitialDomain;" (.ref ad6)) ∧ (Fld Z h ad1 "com/example/monarc/monarc/Domains" "lower" "[I" (.ref ad7)) ∧ (Fld Z h ad1 "com/example/monarc/monarc/Domains" "marks" "[I" (.ref ad5)) ∧ (Fld Z h ad1 "com/example/monarc/monarc/Domains" "resized" "Ljava/util/function/IntConsumer;" .null) ∧ (Fld Z h ad1 "com/example/monarc/monarc/Domains" "sizes" "[I" (.ref ad10)) ∧ (Fld Z h ad1 "com/example/monarc/monarc/Domains" "trail" "[J" (.ref ad4)) ∧ (Fld Z h ad1 "com/example/monarc/monarc/Domains" "trailSize" "I" (.int iv3)) ∧ (Fld Z h ad1 "com/example/monarc/monarc/Domains" "upper" "[I" (.ref ad8)) ∧ (Fld Z h ad1 "com/example/monarc/monarc/Domains" "withOneValue" "I" (.int ex1)) ∧ (Arv Z h ad10 kc5 .int (2 : Int32) [(.int iv1), (.int (100 : Int32))] (.int (0 : Int32)))
set_option maxRecDepth 65536 in
set_option maxHeartbeats 40000000 in
theorem am31_2 (l : Launch) (Z : State) (a0 : Array Value) (hw : ∀ d ∈ tables_1, d.before a0 Z = true) (ws : List Jvm.Cond) (a_EMPTY_ELEMENTDATA : Addr) (aw0 : Addr) (ka_EMPTY_ELEMENTDATA : ClassId) (kaw0 : ClassId) (HW : Wd Z a_EMPTY_ELEMENTDATA aw0 ka_EMPTY_ELEMENTDATA kaw0) (ad1 : Addr) (iv1 : Int32) (ad4 : Addr) (ad5 : Addr) (ad6 : Addr) (ad7 : Addr) (ad8 : Addr) (ad9 : Addr) (ad10 : Addr) (iv2 : Int32) (iv3 : Int32) (kc5 : ClassId) (iv5 : Int32) (h0 : Heap) (n0 : Nat) (Ol : Old Z n0 h0) (HE_ad1 : Exa Z h0 ad1 "com/example/monarc/monarc/Domains") (HF_ad1_Domains_trail : Fld Z h0 ad1 "com/example/monarc/monarc/Domains" "trail" "[J" (.ref ad4)) (HF_ad1_Domains_marks : Fld Z h0 ad1 "com/example/monarc/monarc/Domains" "marks" "[I" (.ref ad5)) (HF_ad1_Domains_initial : Fld Z h0 ad1 "com/example/monarc/monarc/Domains" "initial" "[Lcom/example/monarc/monarc/InitialDomain;" (.ref ad6)) (HF_ad1_Domains_lower : Fld Z h0 ad1 "com/example/monarc/monarc/Domains" "lower" "[I" (.ref ad7)) (HF_ad1_Domains_upper : Fld Z h0 ad1 "com/example/monarc/monarc/Domains" "upper" "[I" (.ref ad8)) (HF_ad1_Domains_holes : Fld Z h0 ad1 "com/example/monarc/monarc/Domains" "holes" "[[J" (.ref ad9)) (HF_ad1_Domains_sizes : Fld Z h0 ad1 "com/example/monarc/monarc/Domains" "sizes" "[I" (.ref ad10)) (HF_ad1_Domains_withOneValue : Fld Z h0 ad1 "com/example/monarc/monarc/Domains" "withOneValue" "I" (.int iv2)) (HF_ad1_Domains_trailSize : Fld Z h0 ad1 "com/example/monarc/monarc/Domains" "trailSize" "I" (.int iv3)) (HF_ad1_Domains_resized : Fld Z h0 ad1 "com/example/monarc/monarc/Domains" "resized" "Ljava/util/function/IntConsumer;" .null) (HV_ad10 : Arv Z h0 ad10 kc5 .int (2 : Int32) [(.int iv5), (.int (100 : Int32))] (.int (0 : Int32))) (nn_ad1 : n0 ≤ ad1) (nn_ad10 : n0 ≤ ad10) (ne_ad1_ad10 : ad1 ≠ ad10) :
    MetFree l y_31 (head1 (Jvm.Cond.code y_31 prog_11_method_25_code 3 none :: ws) ({ frames := 0, cells := 0, slots := 0, locals := 0 } : Room)) (fun a_ U_ => a_ = #[(.ref ad1), (.int (0 : Int32)), (.int iv1)] ∧ Z.Warmed39 U_.vm ∧ U_.heap = h0) (fun _ _ _ _ _ => True) (fun _ U_ o_ V_ => ∃ v_ L_, o_ = .returned v_ ∧ Q_am31_2 Z a_EMPTY_ELEMENTDATA aw0 ka_EMPTY_ELEMENTDATA kaw0 ad1 iv1 ad4 ad5 ad6 ad7 ad8 ad9 ad10 iv2 iv3 kc5 iv5 h0 n0 v_ V_.heap L_ ∧ FrameEnd U_ o_ V_ L_ ({ frames := 0, cells := 0, slots := 0, locals := 0 } : Room).cells ({ frames := 0, cells := 0, slots := 0, locals := 0 } : Room).slots) := by
  refine MetFree.of_bodySF (plainFor_of_name pn_8) hisR ?_
  intro p e s m args below meth c s₁ Bd hml0 hP hK
  obtain ⟨rfl, hZ, hh⟩ := hP
  have hx := Bd.exec
  have hby := Bd.bytes
  have hml : c.maxLocals = 3 := hml0
  have hown : s.vm.findClass "com/example/monarc/monarc/Domains" = some m.cls := findClass_of_methodNamed Bd.named
  have hnm := (name_of_methodNamed Bd.named Bd.method).1
  have X0 : Stand p l e ({ frames := 0, cells := 0, slots := 0, locals := 0 } : Room) s m #[(.ref ad1), (.int (0 : Int32)), (.int iv1)] below meth c s₁ [] 0 0 := Stand.of_body Bd
  have e0 : s₁.heap = h0 := by rw [← hh, Bd.state]; rfl
  have N0 := Fr.nil n0
  have kp0 := Keep.refl h0 [ad1, ad10]
  show Go p e below (Fin1 s below (Q_am31_2 Z a_EMPTY_ELEMENTDATA aw0 ka_EMPTY_ELEMENTDATA kaw0 ad1 iv1 ad4 ad5 ad6 ad7 ad8 ad9 ad10 iv2 iv3 kc5 iv5 h0 n0) ({ frames := 0, cells := 0, slots := 0, locals := 0 } : Room).cells ({ frames := 0, cells := 0, slots := 0, locals := 0 } : Room).slots) _
  refine Go.step (fun t_ k_ => castTop (ef_am31_2 m ad1 (0 : Int32) iv1) k_) ?_
  obtain ⟨Ea_EMPTY_ELEMENTDATA, Sa_EMPTY_ELEMENTDATA, Eaw0, Saw0, Aa_EMPTY_ELEMENTDATA, Aaw0⟩ := id HW
  show Go p e below _ (s₁.setTop (mkF m 0 #[.val (.ref ad1), .val (.int (0 : Int32)), .val (.int iv1)] []))
  refine gs.aloadN X0.here hx (hb hby d31_0) rfl rfl ?_
  refine gs.dup X0.here hx (hb hby d31_1) rfl ?_
  refine gs.getF X0 hx hZ hown (wd hw 171 rfl) Via.refl e0 HF_ad1_Domains_withOneValue (hb hby d31_2) fun T1 X1 e1 => ?_
  refine gs.iloadN X1.here hx (hb hby d31_5) rfl ?_
  refine gs.iconst 1 X1.here hx (hb hby d31_6) rfl ?_
  have J2 : ∀ z_2 : Int32, Go p e below (Fin1 s below (Q_am31_2 Z a_EMPTY_ELEMENTDATA aw0 ka_EMPTY_ELEMENTDATA kaw0 ad1 iv1 ad4 ad5 ad6 ad7 ad8 ad9 ad10 iv2 iv3 kc5 iv5 h0 n0) ({ frames := 0, cells := 0, slots := 0, locals := 0 } : Room).cells ({ frames := 0, cells := 0, slots := 0, locals := 0 } : Room).slots) (T1.setTop (mkF m 15 #[.val (.ref ad1), .val (.int (0 : Int32)), .val (.int iv1)] [(.int z_2), (.int iv2), (.ref ad1)])) := by
    intro z_2
    refine gs.aloadN X1.here hx (hb hby d31_15) rfl rfl ?_
    refine gs.getF X1 hx hZ hown (wd hw 135 rfl) Via.refl e1 HF_ad1_Domains_sizes (hb hby d31_16) fun T3 X3 e3 => ?_
    refine gs.iloadN X3.here hx (hb hby d31_19) rfl ?_
    obtain ⟨cl4, Ar4, q4, Sz4, Ng4, Hs4, G4⟩ := id HV_ad10
    have hin4 : ¬ ((0 : Int32) < 0 ∨ cl4.slots.size ≤ ((0 : Int32)).toNatClampNeg) := inb_of Sz4 ⟨by decide, by decide⟩
    have hat4 : cl4.slots[((0 : Int32)).toNatClampNeg]? = some (.int iv5) := Has.at Hs4 hin4 rfl
    refine Go.step (fun t_ k_ => X3.iaload hx (j := (0 : Int32)) (v := (.int iv5)) (by rw [e3]; exact Ar4.1) (State.isArrayOf_alike hZ.alike Ar4.2.1) Ar4.2.2 hin4 hat4 (g := (mkF m 20 #[.val (.ref ad1), .val (.int (0 : Int32)), .val (.int iv1)] [(.int (0 : Int32)), (.ref ad10), (.int z_2), (.int iv2), (.ref ad1)])) rfl rfl (hb hby d31_20) _ k_) ?_
    show Go p e below _ (T3.setTop (mkF m 21 #[.val (.ref ad1), .val (.int (0 : Int32)), .val (.int iv1)] [(.int iv5), (.int z_2), (.int iv2), (.ref ad1)]))
    refine gs.iconst 1 X3.here hx (hb hby d31_21) rfl ?_
    have J5 : ∀ z_5 : Int32, Go p e below (Fin1 s below (Q_am31_2 Z a_EMPTY_ELEMENTDATA aw0 ka_EMPTY_ELEMENTDATA kaw0 ad1 iv1 ad4 ad5 ad6 ad7 ad8 ad9 ad10 iv2 iv3 kc5 iv5 h0 n0) ({ frames := 0, cells := 0, slots := 0, locals := 0 } : Room).cells ({ frames := 0, cells := 0, slots := 0, locals := 0 } : Room).slots) (T3.setTop (mkF m 30 #[.val (.ref ad1), .val (.int (0 : Int32)), .val (.int iv1)] [(.int z_5), (.int z_2), (.int iv2), (.ref ad1)])) := by
      intro z_5
      refine gs.isub X3.here hx (hb hby d31_30) ?_
      refine gs.iadd X3.here hx (hb hby d31_31) ?_
      obtain ⟨T6, h6, X6, e6, W6, st6⟩ := putF X3 hx hZ hown (host := "") (Or.inl (wd hw 171 rfl)) Via.refl e3 HF_ad1_Domains_withOneValue HE_ad1 (Or.inl (wd hw 172 rfl)) (wd hw 102 rfl) (ty := .int) (by decide) rfl rfl (g := (mkF m 32 #[.val (.ref ad1), .val (.int (0 : Int32)), .val (.int iv1)] [(.int (iv2 + (z_2 - z_5))), (.ref ad1)])) rfl rfl (hb hby d31_32)
      have N6 := Fr.snoc X6 N0 nn_ad1
      have old6 := Ol.wr W6 nn_ad1
      have kp6 := kp0.wr W6 (Or.inl (List.mem_of_getElem? (i := 0) rfl))
      have F6 := HF_ad1_Domains_withOneValue.same W6
      refine Go.step st6 ?_
      show Go p e below _ (T6.setTop (mkF m 35 #[.val (.ref ad1), .val (.int (0 : Int32)), .val (.int iv1)] []))
      refine gs.aloadN X6.here hx (hb hby d31_35) rfl rfl ?_
      have f7 := (HF_ad1_Domains_sizes.other W6 (Or.inr (sn53 hw)))
      refine gs.getF X6 hx hZ hown (wd hw 135 rfl) Via.refl e6 f7 (hb hby d31_36) fun T8 X8 e8 => ?_
      refine gs.iloadN X8.here hx (hb hby d31_39) rfl ?_
      refine gs.iloadN X8.here hx (hb hby d31_40) rfl ?_
      have f9 := (HV_ad10.other W6 (Ne.symm ne_ad1_ad10))
      obtain ⟨cl10, Ar10, q10, Sz10, Ng10, Hs10, G10⟩ := id f9
      have hin10 : ¬ ((0 : Int32) < 0 ∨ cl10.slots.size ≤ ((0 : Int32)).toNatClampNeg) := inb_of Sz10 ⟨by decide, by decide⟩
      obtain ⟨T11, h11, X11, e11, W11, st11⟩ := stI X8 hx hZ e8 Ar10 (j := (0 : Int32)) hin10 (g := (mkF m 41 #[.val (.ref ad1), .val (.int (0 : Int32)), .val (.int iv1)] [(.int iv1), (.int (0 : Int32)), (.ref ad10)])) rfl rfl (hb hby d31_41)
      have N11 := Fr.snoc X11 N6 nn_ad10
      have old11 := old6.wr W11 nn_ad10
      have kp11 := kp6.wr W11 (Or.inl (List.mem_of_getElem? (i := 1) rfl))
      have V11 : Arv Z h11 ad10 kc5 .int (2 : Int32) [(.int iv1), (.int (100 : Int32))] (.int (0 : Int32)) := Arv.set Ar10 q10 Sz10 Ng10 Hs10 G10 rfl W11 0 rfl (Nat.le_of_ble_eq_true rfl)
      refine Go.step st11 ?_
      show Go p e below _ (T11.setTop (mkF m 42 #[.val (.ref ad1), .val (.int (0 : Int32)), .val (.int iv1)] []))
      have f12 := ((HE_ad1.wr W6).wr W11)
      have f13 := ((HF_ad1_Domains_holes.other W6 (Or.inr (sn56 hw))).other W11 (Or.inl ne_ad1_ad10))
      have f14 := ((HF_ad1_Domains_initial.other W6 (Or.inr (sn52 hw))).other W11 (Or.inl ne_ad1_ad10))
      have f15 := ((HF_ad1_Domains_lower.other W6 (Or.inr (sn60 hw))).other W11 (Or.inl ne_ad1_ad10))
      have f16 := ((HF_ad1_Domains_marks.other W6 (Or.inr (sn66 hw))).other W11 (Or.inl ne_ad1_ad10))
      have f17 := ((HF_ad1_Domains_resized.other W6 (Or.inr (sn74 hw))).other W11 (Or.inl ne_ad1_ad10))
      have f18 := (f7.other W11 (Or.inl ne_ad1_ad10))
      have f19 := ((HF_ad1_Domains_trail.other W6 (Or.inr (sn81 hw))).other W11 (Or.inl ne_ad1_ad10))
      have f20 := ((HF_ad1_Domains_trailSize.other W6 (Or.inr (sn89 hw))).other W11 (Or.inl ne_ad1_ad10))
      have f21 := ((HF_ad1_Domains_upper.other W6 (Or.inr (sn54 hw))).other W11 (Or.inl ne_ad1_ad10))
      have f22 := (F6.other W11 (Or.inl ne_ad1_ad10))
      refine Go.retV X11 hx Bd.returns Bd.notSynchronized (hb hby d31_42) (by rw [e11]; exact ⟨((iv2 + (z_2 - z_5))), rfl, N11, kp11, f12, f13, f14, f15, f16, f17, f18, f19, f20, f21, f22, V11⟩) (by decide) (by decide)
    by_cases hc22 : iv5 = (1 : Int32)
    case pos =>
      refine gs.icmpNo X3.here hx (hb hby d31_22) (teq hc22).2 ?_
      refine gs.iconst 1 X3.here hx (hb hby d31_25) rfl ?_
      refine gs.goto 30 X3.here hx (hb hby d31_26) rfl ?_
      exact J5 _
    case neg =>
      refine gs.icmpYes 29 X3.here hx (hb hby d31_22) (feq hc22).2 rfl ?_
      refine gs.iconst 0 X3.here hx (hb hby d31_29) rfl ?_
      exact J5 _
  by_cases hc7 : iv1 = (1 : Int32)
  case pos =>
    refine gs.icmpNo X1.here hx (hb hby d31_7) (teq hc7).2 ?_
    refine gs.iconst 1 X1.here hx (hb hby d31_10) rfl ?_
    refine gs.goto 15 X1.here hx (hb hby d31_11) rfl ?_
    exact J2 _
  case neg =>
    refine gs.icmpYes 14 X1.here hx (hb hby d31_7) (feq hc7).2 rfl ?_
    refine gs.iconst 0 X1.here hx (hb hby d31_14) rfl ?_
    exact J2 _
theorem d28_60 : decode prog_11_method_24_code 60 = .ok (.aload_n 0, 1) := by decide +kernel
theorem d28_61 : decode prog_11_method_24_code 61 = .ok (.getfield 32, 3) := by decide +kernel
theorem d28_64 : decode prog_11_method_24_code 64 = .ok (.iload_n 1, 1) := by decide +kernel
theorem d28_65 : decode prog_11_method_24_code 65 = .ok (.iload_n 3, 1) := by decide +kernel
theorem d28_66 : decode prog_11_method_24_code 66 = .ok (.iastore, 1) := by decide +kernel
theorem d28_67 : decode prog_11_method_24_code 67 = .ok (.aload_n 0, 1) := by decide +kernel
theorem d28_68 : decode prog_11_method_24_code 68 = .ok (.iload_n 1, 1) := by decide +kernel
theorem d28_69 : decode prog_11_method_24_code 69 = .ok (.iconst 2, 1) := by decide +kernel
theorem d28_70 : decode prog_11_method_24_code 70 = .ok (.iload 4, 2) := by decide +kernel
theorem d28_72 : decode prog_11_method_24_code 72 = .ok (.invokevirtual 133, 3) := by decide +kernel
theorem ef_am32_2 (m : MethodId) (x0 : Addr) (x1 : Int32) (x2 : Int32) (x3 : Int32)  : entryFrame m #[(.ref x0), (.int x1), (.int x2), (.int x3)] 4 = mkF m 0 #[.val (.ref x0), .val (.int x1), .val (.int x2), .val (.int x3)] [] := by first | (simp [entryFrame, mkF, argsToLocals, Value.category]; done) | rfl
def Q_am32_2 (Z : State) (a_EMPTY_ELEMENTDATA : Addr) (aw0 : Addr) (ka_EMPTY_ELEMENTDATA : ClassId) (kaw0 : ClassId) (ad1 : Addr) (ad4 : Addr) (ad5 : Addr) (ad6 : Addr) (ad7 : Addr) (ad8 : Addr) (ad9 : Addr) (ad10 : Addr) (iv1 : Int32) (iv2 : Int32) (kc7 : ClassId) (fv6 : Nat → Int64) (h0 : Heap) (n0 : Nat) (v : Option Value) (h : Heap) (L : List Loc) : Prop := v = none ∧ Fr n0 L ∧ Keep h0 h [ad1, ad4] ∧ (Exa Z h ad1 "com/example/monarc/monarc/Domains") ∧ (Fld Z h ad1 "com/example/monarc/monarc/Domains" "holes" "[[J" (.ref ad9)) ∧ (Fld Z h ad1 "com/example/monarc/monarc/Domains" "initial" "[Lcom/example/monarc/monarc/InitialDomain;" (.ref ad6)) ∧ (Fld Z h ad1 "com/example/monarc/monarc/Domains" "lower" "[I" (.ref ad7)) ∧ (Fld Z h ad1 "com/example/monarc/monarc/Domains" "marks" "[I" (.ref ad5)) ∧ (Fld Z h ad1 "com/example/monarc/monarc/Domains" "resized" "Ljava/util/function/IntConsumer;" .null) ∧ (Fld Z h ad1 "com/example/monarc/monarc/Domains" "sizes" "[I" (.ref ad10)) ∧ (Fld Z h ad1 "com/example/monarc/monarc/Domains" "trail" "[J" (.ref ad4)) ∧ (Fld Z h ad1 "com/example/monarc/monarc/Domains" "trailSize" "I" (.int (iv2 + (1 : Int32)))) ∧ (Fld Z h ad1 "com/example/monarc/monarc/Domains" "upper" "[I" (.ref ad8)) ∧ (Fld Z h ad1 "com/example/monarc/monarc/Domains" "withOneValue" "I" (.int iv1)) ∧ (Exa Z h ad4 "[J") ∧ (Arf Z h ad4 kc7 (1024 : Int32) (fun i => if i = (iv2).toNatClampNeg then ((((0 : Int64) <<< ((32 : Int32) &&& 0x3f).toInt64) ||| ((2 : Int64) <<< ((30 : Int32) &&& 0x3f).toInt64)) ||| (199 : Int64)) else fv6 i))
set_option maxRecDepth 65536 in
set_option maxHeartbeats 40000000 in
theorem am32_2 (l : Launch) (Z : State) (a0 : Array Value) (hw : ∀ d ∈ tables_1, d.before a0 Z = true) (ws : List Jvm.Cond) (a_EMPTY_ELEMENTDATA : Addr) (aw0 : Addr) (ka_EMPTY_ELEMENTDATA : ClassId) (kaw0 : ClassId) (HW : Wd Z a_EMPTY_ELEMENTDATA aw0 ka_EMPTY_ELEMENTDATA kaw0) (ad1 : Addr) (ad4 : Addr) (ad5 : Addr) (ad6 : Addr) (ad7 : Addr) (ad8 : Addr) (ad9 : Addr) (ad10 : Addr) (iv1 : Int32) (iv2 : Int32) (kc7 : ClassId) (fv6 : Nat → Int64) (h0 : Heap) (n0 : Nat) (Ol : Old Z n0 h0) (HE_ad1 : Exa Z h0 ad1 "com/example/monarc/monarc/Domains") (HF_ad1_Domains_trail : Fld Z h0 ad1 "com/example/monarc/monarc/Domains" "trail" "[J" (.ref ad4)) (HF_ad1_Domains_marks : Fld Z h0 ad1 "com/example/monarc/monarc/Domains" "marks" "[I" (.ref ad5)) (HF_ad1_Domains_initial : Fld Z h0 ad1 "com/example/monarc/monarc/Domains" "initial" "[Lcom/example/monarc/monarc/InitialDomain;" (.ref ad6)) (HF_ad1_Domains_lower : Fld Z h0 ad1 "com/example/monarc/monarc/Domains" "lower" "[I" (.ref ad7)) (HF_ad1_Domains_upper : Fld Z h0 ad1 "com/example/monarc/monarc/Domains" "upper" "[I" (.ref ad8)) (HF_ad1_Domains_holes : Fld Z h0 ad1 "com/example/monarc/monarc/Domains" "holes" "[[J" (.ref ad9)) (HF_ad1_Domains_sizes : Fld Z h0 ad1 "com/example/monarc/monarc/Domains" "sizes" "[I" (.ref ad10)) (HF_ad1_Domains_withOneValue : Fld Z h0 ad1 "com/example/monarc/monarc/Domains" "withOneValue" "I" (.int iv1)) (HF_ad1_Domains_trailSize : Fld Z h0 ad1 "com/example/monarc/monarc/Domains" "trailSize" "I" (.int iv2)) (HF_ad1_Domains_resized : Fld Z h0 ad1 "com/example/monarc/monarc/Domains" "resized" "Ljava/util/function/IntConsumer;" .null) (HE_ad4 : Exa Z h0 ad4 "[J") (HG_ad4 : Arf Z h0 ad4 kc7 (1024 : Int32) fv6) (nn_ad1 : n0 ≤ ad1) (nn_ad4 : n0 ≤ ad4) (ne_ad1_ad4 : ad1 ≠ ad4) (as0 : 0 ≤ (iv2).toInt ∧ (iv2).toInt < ((1024 : Int32)).toInt) (as1 : ¬ (iv2 = (1024 : Int32))) :
    MetFree l y_32 (head1 (Jvm.Cond.code y_32 prog_11_method_26_code 4 none :: ws) ({ frames := 0, cells := 0, slots := 0, locals := 0 } : Room)) (fun a_ U_ => a_ = #[(.ref ad1), (.int (0 : Int32)), (.int (2 : Int32)), (.int (199 : Int32))] ∧ Z.Warmed39 U_.vm ∧ U_.heap = h0) (fun _ _ _ _ _ => True) (fun _ U_ o_ V_ => ∃ v_ L_, o_ = .returned v_ ∧ Q_am32_2 Z a_EMPTY_ELEMENTDATA aw0 ka_EMPTY_ELEMENTDATA kaw0 ad1 ad4 ad5 ad6 ad7 ad8 ad9 ad10 iv1 iv2 kc7 fv6 h0 n0 v_ V_.heap L_ ∧ FrameEnd U_ o_ V_ L_ ({ frames := 0, cells := 0, slots := 0, locals := 0 } : Room).cells ({ frames := 0, cells := 0, slots := 0, locals := 0 } : Room).slots) := by
  refine MetFree.of_bodySF (plainFor_of_name pn_8) hisR ?_
  intro p e s m args below meth c s₁ Bd hml0 hP hK
  obtain ⟨rfl, hZ, hh⟩ := hP
  have hx := Bd.exec
  have hby := Bd.bytes
  have hml : c.maxLocals = 4 := hml0
  have hown : s.vm.findClass "com/example/monarc/monarc/Domains" = some m.cls := findClass_of_methodNamed Bd.named
  have hnm := (name_of_methodNamed Bd.named Bd.method).1
  have X0 : Stand p l e ({ frames := 0, cells := 0, slots := 0, locals := 0 } : Room) s m #[(.ref ad1), (.int (0 : Int32)), (.int (2 : Int32)), (.int (199 : Int32))] below meth c s₁ [] 0 0 := Stand.of_body Bd
  have e0 : s₁.heap = h0 := by rw [← hh, Bd.state]; rfl
  have N0 := Fr.nil n0
  have kp0 := Keep.refl h0 [ad1, ad4]
  show Go p e below (Fin1 s below (Q_am32_2 Z a_EMPTY_ELEMENTDATA aw0 ka_EMPTY_ELEMENTDATA kaw0 ad1 ad4 ad5 ad6 ad7 ad8 ad9 ad10 iv1 iv2 kc7 fv6 h0 n0) ({ frames := 0, cells := 0, slots := 0, locals := 0 } : Room).cells ({ frames := 0, cells := 0, slots := 0, locals := 0 } : Room).slots) _
  refine Go.step (fun t_ k_ => castTop (ef_am32_2 m ad1 (0 : Int32) (2 : Int32) (199 : Int32)) k_) ?_
  obtain ⟨Ea_EMPTY_ELEMENTDATA, Sa_EMPTY_ELEMENTDATA, Eaw0, Saw0, Aa_EMPTY_ELEMENTDATA, Aaw0⟩ := id HW
  show Go p e below _ (s₁.setTop (mkF m 0 #[.val (.ref ad1), .val (.int (0 : Int32)), .val (.int (2 : Int32)), .val (.int (199 : Int32))] []))
  refine gs.aloadN X0.here hx (hb hby d32_0) rfl rfl ?_
  refine gs.getF X0 hx hZ hown (wd hw 224 rfl) Via.refl e0 HF_ad1_Domains_trailSize (hb hby d32_1) fun T1 X1 e1 => ?_
  refine gs.aloadN X1.here hx (hb hby d32_4) rfl rfl ?_
  refine gs.getF X1 hx hZ hown (wd hw 109 rfl) Via.refl e1 HF_ad1_Domains_trail (hb hby d32_5) fun T2 X2 e2 => ?_
  obtain ⟨cl3, Ar3, -, Sz3, Ng3, -⟩ := id HG_ad4
  refine Go.step (fun t_ k_ => X2.arraylength hx (by rw [e2]; exact Ar3.1) (State.isArrayOf_alike hZ.alike Ar3.2.1) (g := (mkF m 8 #[.val (.ref ad1), .val (.int (0 : Int32)), .val (.int (2 : Int32)), .val (.int (199 : Int32))] [(.ref ad4), (.int iv2)])) rfl rfl (hb hby d32_8) _ k_) ?_
  rw [len_of Sz3 Ng3]
  show Go p e below _ (T2.setTop (mkF m 9 #[.val (.ref ad1), .val (.int (0 : Int32)), .val (.int (2 : Int32)), .val (.int (199 : Int32))] [(.int (1024 : Int32)), (.int iv2)]))
  have hc9 : ¬ (iv2 = (1024 : Int32)) := as1
  refine gs.icmpYes 29 X2.here hx (hb hby d32_9) (feq hc9).2 rfl ?_
  refine gs.aloadN X2.here hx (hb hby d32_29) rfl rfl ?_
  refine gs.getF X2 hx hZ hown (wd hw 109 rfl) Via.refl e2 HF_ad1_Domains_trail (hb hby d32_30) fun T4 X4 e4 => ?_
  refine gs.aloadN X4.here hx (hb hby d32_33) rfl rfl ?_
  refine gs.dup X4.here hx (hb hby d32_34) rfl ?_
  refine gs.getF X4 hx hZ hown (wd hw 224 rfl) Via.refl e4 HF_ad1_Domains_trailSize (hb hby d32_35) fun T5 X5 e5 => ?_
  refine Go.step (fun t_ k_ => XS.dupX1 X5.here hx rfl (hb hby d32_38) rfl rfl rfl k_) ?_
  show Go p e below _ (T5.setTop (mkF m 39 #[.val (.ref ad1), .val (.int (0 : Int32)), .val (.int (2 : Int32)), .val (.int (199 : Int32))] [(.int iv2), (.ref ad1), (.int iv2), (.ref ad4)]))
  refine gs.iconst 1 X5.here hx (hb hby d32_39) rfl ?_
  refine gs.iadd X5.here hx (hb hby d32_40) ?_
  obtain ⟨T6, h6, X6, e6, W6, st6⟩ := putF X5 hx hZ hown (host := "") (Or.inl (wd hw 224 rfl)) Via.refl e5 HF_ad1_Domains_trailSize HE_ad1 (Or.inl (wd hw 225 rfl)) (wd hw 102 rfl) (ty := .int) (by decide) rfl rfl (g := (mkF m 41 #[.val (.ref ad1), .val (.int (0 : Int32)), .val (.int (2 : Int32)), .val (.int (199 : Int32))] [(.int (iv2 + (1 : Int32))), (.ref ad1), (.int iv2), (.ref ad4)])) rfl rfl (hb hby d32_41)
  have N6 := Fr.snoc X6 N0 nn_ad1
  have old6 := Ol.wr W6 nn_ad1
  have kp6 := kp0.wr W6 (Or.inl (List.mem_of_getElem? (i := 0) rfl))
  have F6 := HF_ad1_Domains_trailSize.same W6
  refine Go.step st6 ?_
  show Go p e below _ (T6.setTop (mkF m 44 #[.val (.ref ad1), .val (.int (0 : Int32)), .val (.int (2 : Int32)), .val (.int (199 : Int32))] [(.int iv2), (.ref ad4)]))
  refine gs.iloadN X6.here hx (hb hby d32_44) rfl ?_
  refine Go.step (fun t_ k_ => XS.i2l X6.here hx rfl (hb hby d32_45) rfl k_) ?_
  show Go p e below _ (T6.setTop (mkF m 46 #[.val (.ref ad1), .val (.int (0 : Int32)), .val (.int (2 : Int32)), .val (.int (199 : Int32))] [(.long ((0 : Int32).toInt64)), (.int iv2), (.ref ad4)]))
  rw [show ((0 : Int32).toInt64) = (0 : Int64) from by decide]
  refine gs.bipush 32 X6.here hx (hb hby d32_46) rfl ?_
  refine Go.step (fun t_ k_ => XS.lshl X6.here hx rfl (hb hby d32_48) rfl k_) ?_
  show Go p e below _ (T6.setTop (mkF m 49 #[.val (.ref ad1), .val (.int (0 : Int32)), .val (.int (2 : Int32)), .val (.int (199 : Int32))] [(.long ((0 : Int64) <<< ((32 : Int32) &&& 0x3f).toInt64)), (.int iv2), (.ref ad4)]))
  refine gs.iloadN X6.here hx (hb hby d32_49) rfl ?_
  refine Go.step (fun t_ k_ => XS.i2l X6.here hx rfl (hb hby d32_50) rfl k_) ?_
  show Go p e below _ (T6.setTop (mkF m 51 #[.val (.ref ad1), .val (.int (0 : Int32)), .val (.int (2 : Int32)), .val (.int (199 : Int32))] [(.long ((2 : Int32).toInt64)), (.long ((0 : Int64) <<< ((32 : Int32) &&& 0x3f).toInt64)), (.int iv2), (.ref ad4)]))
  rw [show ((2 : Int32).toInt64) = (2 : Int64) from by decide]
  refine gs.bipush 30 X6.here hx (hb hby d32_51) rfl ?_
  refine Go.step (fun t_ k_ => XS.lshl X6.here hx rfl (hb hby d32_53) rfl k_) ?_
  show Go p e below _ (T6.setTop (mkF m 54 #[.val (.ref ad1), .val (.int (0 : Int32)), .val (.int (2 : Int32)), .val (.int (199 : Int32))] [(.long ((2 : Int64) <<< ((30 : Int32) &&& 0x3f).toInt64)), (.long ((0 : Int64) <<< ((32 : Int32) &&& 0x3f).toInt64)), (.int iv2), (.ref ad4)]))
  refine gs.lor X6.here hx (hb hby d32_54) ?_
  refine gs.iloadN X6.here hx (hb hby d32_55) rfl ?_
  refine Go.step (fun t_ k_ => XS.i2l X6.here hx rfl (hb hby d32_56) rfl k_) ?_
  show Go p e below _ (T6.setTop (mkF m 57 #[.val (.ref ad1), .val (.int (0 : Int32)), .val (.int (2 : Int32)), .val (.int (199 : Int32))] [(.long ((199 : Int32).toInt64)), (.long (((0 : Int64) <<< ((32 : Int32) &&& 0x3f).toInt64) ||| ((2 : Int64) <<< ((30 : Int32) &&& 0x3f).toInt64))), (.int iv2), (.ref ad4)]))
  rw [show ((199 : Int32).toInt64) = (199 : Int64) from by decide]
  refine gs.lor X6.here hx (hb hby d32_57) ?_
  have f7 := (HG_ad4.other W6 (Ne.symm ne_ad1_ad4))
  obtain ⟨cl8, Ar8, q8, Sz8, Ng8, Hs8⟩ := id f7
  have hin8 : ¬ (iv2 < 0 ∨ cl8.slots.size ≤ (iv2).toNatClampNeg) := inb_of Sz8 (inb_int as0)
  obtain ⟨T9, h9, X9, e9, W9, st9⟩ := stJ X6 hx hZ e6 Ar8 (j := iv2) hin8 (g := (mkF m 58 #[.val (.ref ad1), .val (.int (0 : Int32)), .val (.int (2 : Int32)), .val (.int (199 : Int32))] [(.long ((((0 : Int64) <<< ((32 : Int32) &&& 0x3f).toInt64) ||| ((2 : Int64) <<< ((30 : Int32) &&& 0x3f).toInt64)) ||| (199 : Int64))), (.int iv2), (.ref ad4)])) rfl rfl (hb hby d32_58)
  have N9 := Fr.snoc X9 N6 nn_ad4
  have old9 := old6.wr W9 nn_ad4
  have kp9 := kp6.wr W9 (Or.inl (List.mem_of_getElem? (i := 1) rfl))
  have V9 : Arf Z h9 ad4 kc7 (1024 : Int32) (fun i => if i = (iv2).toNatClampNeg then ((((0 : Int64) <<< ((32 : Int32) &&& 0x3f).toInt64) ||| ((2 : Int64) <<< ((30 : Int32) &&& 0x3f).toInt64)) ||| (199 : Int64)) else fv6 i) := Arf.set Ar8 q8 Sz8 Ng8 Hs8 W9
  refine Go.step st9 ?_
  show Go p e below _ (T9.setTop (mkF m 59 #[.val (.ref ad1), .val (.int (0 : Int32)), .val (.int (2 : Int32)), .val (.int (199 : Int32))] []))
  refine gs.aloadN X9.here hx (hb hby d32_59) rfl rfl ?_
  have f10 := ((HF_ad1_Domains_resized.other W6 (Or.inr (sn90 hw))).other W9 (Or.inl ne_ad1_ad4))
  refine gs.getF X9 hx hZ hown (wd hw 226 rfl) Via.refl e9 f10 (hb hby d32_60) fun T11 X11 e11 => ?_
  refine Go.step (fun t_ k_ => XS.ifnullYes X11.here hx rfl (pc0 := 63) (pc' := 76) rfl (hb hby d32_63) rfl (by decide) (by decide) k_) ?_
  show Go p e below _ (T11.setTop (mkF m 76 #[.val (.ref ad1), .val (.int (0 : Int32)), .val (.int (2 : Int32)), .val (.int (199 : Int32))] []))
  have f12 := ((HE_ad1.wr W6).wr W9)
  have f13 := ((HF_ad1_Domains_holes.other W6 (Or.inr (sn91 hw))).other W9 (Or.inl ne_ad1_ad4))
  have f14 := ((HF_ad1_Domains_initial.other W6 (Or.inr (sn92 hw))).other W9 (Or.inl ne_ad1_ad4))
  have f15 := ((HF_ad1_Domains_lower.other W6 (Or.inr (sn93 hw))).other W9 (Or.inl ne_ad1_ad4))
  have f16 := ((HF_ad1_Domains_marks.other W6 (Or.inr (sn94 hw))).other W9 (Or.inl ne_ad1_ad4))
  have f17 := ((HF_ad1_Domains_sizes.other W6 (Or.inr (sn95 hw))).other W9 (Or.inl ne_ad1_ad4))
  have f18 := ((HF_ad1_Domains_trail.other W6 (Or.inr (sn96 hw))).other W9 (Or.inl ne_ad1_ad4))
  have f19 := (F6.other W9 (Or.inl ne_ad1_ad4))
  have f20 := ((HF_ad1_Domains_upper.other W6 (Or.inr (sn97 hw))).other W9 (Or.inl ne_ad1_ad4))
  have f21 := ((HF_ad1_Domains_withOneValue.other W6 (Or.inr (sn98 hw))).other W9 (Or.inl ne_ad1_ad4))
  have f22 := ((HE_ad4.wr W6).wr W9)
  refine Go.retV X11 hx Bd.returns Bd.notSynchronized (hb hby d32_76) (by rw [e11]; exact ⟨rfl, N9, kp9, f12, f13, f14, f15, f16, f10, f17, f18, f19, f20, f21, f22, V9⟩) (by decide) (by decide)
theorem d28_75 : decode prog_11_method_24_code 75 = .ok (.return_, 1) := by decide +kernel
theorem ef_am28_1 (m : MethodId) (x0 : Addr) (x1 : Int32) (x2 : Int32)  : entryFrame m #[(.ref x0), (.int x1), (.int x2)] 5 = mkF m 0 #[.val (.ref x0), .val (.int x1), .val (.int x2), .unset, .unset] [] := by first | (simp [entryFrame, mkF, argsToLocals, Value.category]; done) | rfl
def Q_am28_1 (Z : State) (a_EMPTY_ELEMENTDATA : Addr) (aw0 : Addr) (ka_EMPTY_ELEMENTDATA : ClassId) (kaw0 : ClassId) (ad1 : Addr) (iv1 : Int32) (ad4 : Addr) (ad5 : Addr) (ad6 : Addr) (ad7 : Addr) (ad8 : Addr) (ad9 : Addr) (ad10 : Addr) (iv2 : Int32) (iv3 : Int32) (kc1 : ClassId) (kc3 : ClassId) (iv4 : Int32) (kc5 : ClassId) (iv5 : Int32) (kc6 : ClassId) (kc7 : ClassId) (fv6 : Nat → Int64) (h0 : Heap) (n0 : Nat) (v : Option Value) (h : Heap) (L : List Loc) : Prop := ∃ ex1 : Int32, v = none ∧ Fr n0 L ∧ Keep h0 h [ad1, ad10, ad4, ad8] ∧ (Exa Z h ad1 "com/example/monarc/monarc/Domains") ∧ (Fld Z h ad1 "com/example/monarc/monarc/Domains" "holes" "[[J" (.ref ad9)) ∧ (Fld Z h ad1 "com/example/monarc/monarc/Domains" "initial" "[Lcom/example/monarc/monarc/InitialDomain;" (.ref ad6)) ∧ (Fld Z h ad1 "com/example/monarc/monarc/Domains" "lower" "[I" (.ref ad7)) ∧ (Fld Z h ad1 "com/example/monarc/monarc/Domains" "marks" "[I" (.ref ad5)) ∧ (Fld Z h ad1 "com/example/monarc/monarc/Domains" "resized" "Ljava/util/function/IntConsumer;" .null) ∧ (Fld Z h ad1 "com/example/monarc/monarc/Domains" "sizes" "[I" (.ref ad10)) ∧ (Fld Z h ad1 "com/example/monarc/monarc/Domains" "trail" "[J" (.ref ad4)) ∧ (Fld Z h ad1 "com/example/monarc/monarc/Domains" "trailSize" "I" (.int (iv3 + (1 : Int32)))) ∧ (Fld Z h ad1 "com/example/monarc/monarc/Domains" "upper" "[I" (.ref ad8)) ∧ (Fld Z h ad1 "com/example/monarc/monarc/Domains" "withOneValue" "I" (.int ex1)) ∧ (Arv Z h ad10 kc5 .int (2 : Int32) [(.int (iv5 - (mxI (0 : Int32) ((200 : Int32) - (iv1 + (1 : Int32)))))), (.int (100 : Int32))] (.int (0 : Int32))) ∧ (Exa Z h ad4 "[J") ∧ (Arf Z h ad4 kc7 (1024 : Int32) (fun i => if i = (iv3).toNatClampNeg then ((((0 : Int64) <<< ((32 : Int32) &&& 0x3f).toInt64) ||| ((2 : Int64) <<< ((30 : Int32) &&& 0x3f).toInt64)) ||| (199 : Int64)) else fv6 i)) ∧ (Arv Z h ad8 kc6 .int (2 : Int32) [(.int iv1), (.int (99 : Int32))] (.int (0 : Int32)))
set_option maxRecDepth 65536 in
set_option maxHeartbeats 40000000 in
theorem am28_1 (l : Launch) (Z : State) (a0 : Array Value) (hw : ∀ d ∈ tables_1, d.before a0 Z = true) (ws : List Jvm.Cond) (a_EMPTY_ELEMENTDATA : Addr) (aw0 : Addr) (ka_EMPTY_ELEMENTDATA : ClassId) (kaw0 : ClassId) (HW : Wd Z a_EMPTY_ELEMENTDATA aw0 ka_EMPTY_ELEMENTDATA kaw0) (ad1 : Addr) (iv1 : Int32) (ad4 : Addr) (ad5 : Addr) (ad6 : Addr) (ad7 : Addr) (ad8 : Addr) (ad9 : Addr) (ad10 : Addr) (iv2 : Int32) (iv3 : Int32) (kc1 : ClassId) (kc3 : ClassId) (iv4 : Int32) (kc5 : ClassId) (iv5 : Int32) (kc6 : ClassId) (kc7 : ClassId) (fv6 : Nat → Int64) (h0 : Heap) (n0 : Nat) (Ol : Old Z n0 h0) (HE_ad1 : Exa Z h0 ad1 "com/example/monarc/monarc/Domains") (HF_ad1_Domains_trail : Fld Z h0 ad1 "com/example/monarc/monarc/Domains" "trail" "[J" (.ref ad4)) (HF_ad1_Domains_marks : Fld Z h0 ad1 "com/example/monarc/monarc/Domains" "marks" "[I" (.ref ad5)) (HF_ad1_Domains_initial : Fld Z h0 ad1 "com/example/monarc/monarc/Domains" "initial" "[Lcom/example/monarc/monarc/InitialDomain;" (.ref ad6)) (HF_ad1_Domains_lower : Fld Z h0 ad1 "com/example/monarc/monarc/Domains" "lower" "[I" (.ref ad7)) (HF_ad1_Domains_upper : Fld Z h0 ad1 "com/example/monarc/monarc/Domains" "upper" "[I" (.ref ad8)) (HF_ad1_Domains_holes : Fld Z h0 ad1 "com/example/monarc/monarc/Domains" "holes" "[[J" (.ref ad9)) (HF_ad1_Domains_sizes : Fld Z h0 ad1 "com/example/monarc/monarc/Domains" "sizes" "[I" (.ref ad10)) (HF_ad1_Domains_withOneValue : Fld Z h0 ad1 "com/example/monarc/monarc/Domains" "withOneValue" "I" (.int iv2)) (HF_ad1_Domains_trailSize : Fld Z h0 ad1 "com/example/monarc/monarc/Domains" "trailSize" "I" (.int iv3)) (HF_ad1_Domains_resized : Fld Z h0 ad1 "com/example/monarc/monarc/Domains" "resized" "Ljava/util/function/IntConsumer;" .null) (HV_ad9 : Arv Z h0 ad9 kc1 (.array .long) (2 : Int32) [.null, .null] .null) (HV_ad7 : Arv Z h0 ad7 kc3 .int (2 : Int32) [(.int iv4), (.int (0 : Int32))] (.int (0 : Int32))) (HV_ad10 : Arv Z h0 ad10 kc5 .int (2 : Int32) [(.int iv5), (.int (100 : Int32))] (.int (0 : Int32))) (HE_ad4 : Exa Z h0 ad4 "[J") (HV_ad8 : Arv Z h0 ad8 kc6 .int (2 : Int32) [(.int (199 : Int32)), (.int (99 : Int32))] (.int (0 : Int32))) (HG_ad4 : Arf Z h0 ad4 kc7 (1024 : Int32) fv6) (nn_ad1 : n0 ≤ ad1) (nn_ad10 : n0 ≤ ad10) (nn_ad4 : n0 ≤ ad4) (nn_ad8 : n0 ≤ ad8) (ne_ad1_ad10 : ad1 ≠ ad10) (ne_ad1_ad4 : ad1 ≠ ad4) (ne_ad1_ad8 : ad1 ≠ ad8) (ne_ad10_ad4 : ad10 ≠ ad4) (ne_ad10_ad8 : ad10 ≠ ad8) (ne_ad4_ad8 : ad4 ≠ ad8) (as0 : 0 ≤ (iv3).toInt ∧ (iv3).toInt < ((1024 : Int32)).toInt) (as1 : ¬ (iv1 < iv4)) (as2 : ¬ (iv3 = (1024 : Int32))) (hO_ad9 : OvrA Z kc1 .long "[J") :
    MetFree l y_28 (head1 (Jvm.Cond.code y_28 prog_11_method_24_code 5 none :: ws) ({ frames := 2, cells := 0, slots := 0, locals := 40 } : Room)) (fun a_ U_ => a_ = #[(.ref ad1), (.int (0 : Int32)), (.int iv1)] ∧ Z.Warmed39 U_.vm ∧ U_.heap = h0) (fun _ _ _ _ _ => True) (fun _ U_ o_ V_ => ∃ v_ L_, o_ = .returned v_ ∧ Q_am28_1 Z a_EMPTY_ELEMENTDATA aw0 ka_EMPTY_ELEMENTDATA kaw0 ad1 iv1 ad4 ad5 ad6 ad7 ad8 ad9 ad10 iv2 iv3 kc1 kc3 iv4 kc5 iv5 kc6 kc7 fv6 h0 n0 v_ V_.heap L_ ∧ FrameEnd U_ o_ V_ L_ ({ frames := 2, cells := 0, slots := 0, locals := 40 } : Room).cells ({ frames := 2, cells := 0, slots := 0, locals := 40 } : Room).slots) := by
  refine MetFree.of_bodySF (plainFor_of_name pn_8) hisR ?_
  intro p e s m args below meth c s₁ Bd hml0 hP hK
  obtain ⟨rfl, hZ, hh⟩ := hP
  have hx := Bd.exec
  have hby := Bd.bytes
  have hml : c.maxLocals = 5 := hml0
  have hown : s.vm.findClass "com/example/monarc/monarc/Domains" = some m.cls := findClass_of_methodNamed Bd.named
  have hnm := (name_of_methodNamed Bd.named Bd.method).1
  have X0 : Stand p l e ({ frames := 2, cells := 0, slots := 0, locals := 40 } : Room) s m #[(.ref ad1), (.int (0 : Int32)), (.int iv1)] below meth c s₁ [] 0 0 := Stand.of_body Bd
  have e0 : s₁.heap = h0 := by rw [← hh, Bd.state]; rfl
  have N0 := Fr.nil n0
  have kp0 := Keep.refl h0 [ad1, ad10, ad4, ad8]
  show Go p e below (Fin1 s below (Q_am28_1 Z a_EMPTY_ELEMENTDATA aw0 ka_EMPTY_ELEMENTDATA kaw0 ad1 iv1 ad4 ad5 ad6 ad7 ad8 ad9 ad10 iv2 iv3 kc1 kc3 iv4 kc5 iv5 kc6 kc7 fv6 h0 n0) ({ frames := 2, cells := 0, slots := 0, locals := 40 } : Room).cells ({ frames := 2, cells := 0, slots := 0, locals := 40 } : Room).slots) _
  refine Go.step (fun t_ k_ => castTop (ef_am28_1 m ad1 (0 : Int32) iv1) k_) ?_
  obtain ⟨Ea_EMPTY_ELEMENTDATA, Sa_EMPTY_ELEMENTDATA, Eaw0, Saw0, Aa_EMPTY_ELEMENTDATA, Aaw0⟩ := id HW
  show Go p e below _ (s₁.setTop (mkF m 0 #[.val (.ref ad1), .val (.int (0 : Int32)), .val (.int iv1), .unset, .unset] []))
  refine gs.iloadN X0.here hx (hb hby d28_0) rfl ?_
  refine gs.aloadN X0.here hx (hb hby d28_1) rfl rfl ?_
  refine gs.getF X0 hx hZ hown (wd hw 127 rfl) Via.refl e0 HF_ad1_Domains_lower (hb hby d28_2) fun T1 X1 e1 => ?_
  refine gs.iloadN X1.here hx (hb hby d28_5) rfl ?_
  obtain ⟨cl2, Ar2, q2, Sz2, Ng2, Hs2, G2⟩ := id HV_ad7
  have hin2 : ¬ ((0 : Int32) < 0 ∨ cl2.slots.size ≤ ((0 : Int32)).toNatClampNeg) := inb_of Sz2 ⟨by decide, by decide⟩
  have hat2 : cl2.slots[((0 : Int32)).toNatClampNeg]? = some (.int iv4) := Has.at Hs2 hin2 rfl
  refine Go.step (fun t_ k_ => X1.iaload hx (j := (0 : Int32)) (v := (.int iv4)) (by rw [e1]; exact Ar2.1) (State.isArrayOf_alike hZ.alike Ar2.2.1) Ar2.2.2 hin2 hat2 (g := (mkF m 6 #[.val (.ref ad1), .val (.int (0 : Int32)), .val (.int iv1), .unset, .unset] [(.int (0 : Int32)), (.ref ad7), (.int iv1)])) rfl rfl (hb hby d28_6) _ k_) ?_
  show Go p e below _ (T1.setTop (mkF m 7 #[.val (.ref ad1), .val (.int (0 : Int32)), .val (.int iv1), .unset, .unset] [(.int iv4), (.int iv1)]))
  have hc7 : ¬ (iv1 < iv4) := as1
  refine gs.icmpYes 21 X1.here hx (hb hby d28_7) (flt hc7).2.1 rfl ?_
  refine gs.aloadN X1.here hx (hb hby d28_21) rfl rfl ?_
  refine gs.iloadN X1.here hx (hb hby d28_22) rfl ?_
  refine gs.iloadN X1.here hx (hb hby d28_23) rfl ?_
  obtain ⟨cq3, q3, q3'⟩ := HE_ad1.cell
  obtain ⟨_, _, ⟨T3, L3, k3, n3⟩, -, X3, ⟨Lc3, hQ3, l3, y3, z3⟩, st3⟩ := X1.privateBack hx (y := y_29) hown (mvT hZ (wd hw 207 rfl)) (mvT hZ (wd hw 208 rfl)) (sel_priv hZ (wd hw 102 rfl) (wd hw 209 rfl) (wd hw 208 rfl) (by decide)) (Cond.privateMethod_at (mvP hZ (wd hw 209 rfl) (args := #[]))) (mvT hZ (wd hw 210 rfl)) (by decide) (backOf (W := 0) (am29_1 l Z a0 hw [] a_EMPTY_ELEMENTDATA aw0 ka_EMPTY_ELEMENTDATA kaw0 HW (ad1) (iv1) (ad7) (ad9) (kc1) (kc3) (iv4) h0 n0 Ol HF_ad1_Domains_lower HF_ad1_Domains_holes HV_ad9 HV_ad7 as1 hO_ad9) hZ (wd hw 210 rfl) (wd hw 103 rfl) (by decide) (by decide)) (g := (mkF m 24 #[.val (.ref ad1), .val (.int (0 : Int32)), .val (.int iv1), .unset, .unset] [(.int iv1), (.int (0 : Int32)), (.ref ad1)])) rfl (by rw [hml]; rfl) (Steps.refl _) (a := ad1) (by rw [e1]; exact q3) q3' (argsL := [(.int (0 : Int32)), (.int iv1)]) (rest := []) (lenOf pd_4 rfl) rfl (by show 2 * 0 + _ ≤ _; exact Nat.le_of_eq rfl) (hb hby d28_24) (fun _ _ => ⟨rfl, e1, (by decide : 0 + 0 ≤ _), (by decide : 0 + 0 ≤ _)⟩)
  dsimp only [Pt.U, Pt.locs, Pt.cells, Pt.slots] at X3 l3 y3 z3 st3 hQ3
  subst l3 y3 z3
  obtain ⟨rfl, Nq3, e3⟩ := hQ3
  have N3 := Fr.app N0 Nq3
  refine Go.step (fun t_ k_ => st3.trans k_) ?_
  show Go p e below _ (T3.setTop (mkF m 27 #[.val (.ref ad1), .val (.int (0 : Int32)), .val (.int iv1), .unset, .unset] [(.int iv1)]))
  refine gs.istoreN X3.here hx (hb hby d28_27) (l' := #[.val (.ref ad1), .val (.int (0 : Int32)), .val (.int iv1), .val (.int iv1), .unset]) rfl ?_
  refine gs.aloadN X3.here hx (hb hby d28_28) rfl rfl ?_
  refine gs.getF X3 hx hZ hown (wd hw 129 rfl) Via.refl e3 HF_ad1_Domains_upper (hb hby d28_29) fun T4 X4 e4 => ?_
  refine gs.iloadN X4.here hx (hb hby d28_32) rfl ?_
  obtain ⟨cl5, Ar5, q5, Sz5, Ng5, Hs5, G5⟩ := id HV_ad8
  have hin5 : ¬ ((0 : Int32) < 0 ∨ cl5.slots.size ≤ ((0 : Int32)).toNatClampNeg) := inb_of Sz5 ⟨by decide, by decide⟩
  have hat5 : cl5.slots[((0 : Int32)).toNatClampNeg]? = some (.int (199 : Int32)) := Has.at Hs5 hin5 rfl
  refine Go.step (fun t_ k_ => X4.iaload hx (j := (0 : Int32)) (v := (.int (199 : Int32))) (by rw [e4]; exact Ar5.1) (State.isArrayOf_alike hZ.alike Ar5.2.1) Ar5.2.2 hin5 hat5 (g := (mkF m 33 #[.val (.ref ad1), .val (.int (0 : Int32)), .val (.int iv1), .val (.int iv1), .unset] [(.int (0 : Int32)), (.ref ad8)])) rfl rfl (hb hby d28_33) _ k_) ?_
  show Go p e below _ (T4.setTop (mkF m 34 #[.val (.ref ad1), .val (.int (0 : Int32)), .val (.int iv1), .val (.int iv1), .unset] [(.int (199 : Int32))]))
  refine gs.istore X4.here hx (hb hby d28_34) (l' := #[.val (.ref ad1), .val (.int (0 : Int32)), .val (.int iv1), .val (.int iv1), .val (.int (199 : Int32))]) rfl ?_
  refine gs.aloadN X4.here hx (hb hby d28_36) rfl rfl ?_
  refine gs.iloadN X4.here hx (hb hby d28_37) rfl ?_
  refine gs.aloadN X4.here hx (hb hby d28_38) rfl rfl ?_
  refine gs.getF X4 hx hZ hown (wd hw 135 rfl) Via.refl e4 HF_ad1_Domains_sizes (hb hby d28_39) fun T6 X6 e6 => ?_
  refine gs.iloadN X6.here hx (hb hby d28_42) rfl ?_
  obtain ⟨cl7, Ar7, q7, Sz7, Ng7, Hs7, G7⟩ := id HV_ad10
  have hin7 : ¬ ((0 : Int32) < 0 ∨ cl7.slots.size ≤ ((0 : Int32)).toNatClampNeg) := inb_of Sz7 ⟨by decide, by decide⟩
  have hat7 : cl7.slots[((0 : Int32)).toNatClampNeg]? = some (.int iv5) := Has.at Hs7 hin7 rfl
  refine Go.step (fun t_ k_ => X6.iaload hx (j := (0 : Int32)) (v := (.int iv5)) (by rw [e6]; exact Ar7.1) (State.isArrayOf_alike hZ.alike Ar7.2.1) Ar7.2.2 hin7 hat7 (g := (mkF m 43 #[.val (.ref ad1), .val (.int (0 : Int32)), .val (.int iv1), .val (.int iv1), .val (.int (199 : Int32))] [(.int (0 : Int32)), (.ref ad10), (.int (0 : Int32)), (.ref ad1)])) rfl rfl (hb hby d28_43) _ k_) ?_
  show Go p e below _ (T6.setTop (mkF m 44 #[.val (.ref ad1), .val (.int (0 : Int32)), .val (.int iv1), .val (.int iv1), .val (.int (199 : Int32))] [(.int iv5), (.int (0 : Int32)), (.ref ad1)]))
  refine gs.aloadN X6.here hx (hb hby d28_44) rfl rfl ?_
  refine gs.iloadN X6.here hx (hb hby d28_45) rfl ?_
  refine gs.iloadN X6.here hx (hb hby d28_46) rfl ?_
  refine gs.iconst 1 X6.here hx (hb hby d28_47) rfl ?_
  refine gs.iadd X6.here hx (hb hby d28_48) ?_
  refine gs.iload X6.here hx (hb hby d28_49) rfl ?_
  refine gs.iconst 1 X6.here hx (hb hby d28_51) rfl ?_
  refine gs.iadd X6.here hx (hb hby d28_52) ?_
  rw [show ((199 : Int32) + (1 : Int32)) = (200 : Int32) from by decide]
  obtain ⟨cq8, q8, q8'⟩ := HE_ad1.cell
  obtain ⟨_, _, ⟨T8, L8, k8, n8⟩, -, X8, ⟨Lc8, hQ8, l8, y8, z8⟩, st8⟩ := X6.privateBack hx (y := y_30) hown (mvT hZ (wd hw 211 rfl)) (mvT hZ (wd hw 212 rfl)) (sel_priv hZ (wd hw 102 rfl) (wd hw 213 rfl) (wd hw 212 rfl) (by decide)) (Cond.privateMethod_at (mvP hZ (wd hw 213 rfl) (args := #[]))) (mvT hZ (wd hw 214 rfl)) (by decide) (backOf (W := 3) (am30_2 l Z a0 hw [] a_EMPTY_ELEMENTDATA aw0 ka_EMPTY_ELEMENTDATA kaw0 HW (ad1) ((iv1 + (1 : Int32))) (ad9) (kc1) h0 n0 Ol HF_ad1_Domains_holes HV_ad9 hO_ad9) hZ (wd hw 214 rfl) (wd hw 103 rfl) (by decide) (by decide)) (g := (mkF m 53 #[.val (.ref ad1), .val (.int (0 : Int32)), .val (.int iv1), .val (.int iv1), .val (.int (199 : Int32))] [(.int (200 : Int32)), (.int (iv1 + (1 : Int32))), (.int (0 : Int32)), (.ref ad1), (.int iv5), (.int (0 : Int32)), (.ref ad1)])) rfl (by rw [hml]; rfl) (Steps.refl _) (a := ad1) (by rw [e6]; exact q8) q8' (argsL := [(.int (0 : Int32)), (.int (iv1 + (1 : Int32))), (.int (200 : Int32))]) (rest := [(.int iv5), (.int (0 : Int32)), (.ref ad1)]) (lenOf pd_16 rfl) rfl (by show 2 * 0 + _ ≤ _; exact Nat.le_of_eq rfl) (hb hby d28_53) (fun _ _ => ⟨rfl, e6, (by decide : 0 + 0 ≤ _), (by decide : 0 + 0 ≤ _)⟩)
  dsimp only [Pt.U, Pt.locs, Pt.cells, Pt.slots] at X8 l8 y8 z8 st8 hQ8
  subst l8 y8 z8
  obtain ⟨rfl, Nq8, e8⟩ := hQ8
  have N8 := Fr.app N3 Nq8
  refine Go.step (fun t_ k_ => st8.trans k_) ?_
  show Go p e below _ (T8.setTop (mkF m 56 #[.val (.ref ad1), .val (.int (0 : Int32)), .val (.int iv1), .val (.int iv1), .val (.int (199 : Int32))] [(.int (mxI (0 : Int32) ((200 : Int32) - (iv1 + (1 : Int32))))), (.int iv5), (.int (0 : Int32)), (.ref ad1)]))
  refine gs.isub X8.here hx (hb hby d28_56) ?_
  obtain ⟨cq9, q9, q9'⟩ := HE_ad1.cell
  obtain ⟨_, _, ⟨T9, L9, k9, n9⟩, -, X9, ⟨Lc9, hQ9, l9, y9, z9⟩, st9⟩ := X8.privateBack hx (y := y_31) hown (mvT hZ (wd hw 216 rfl)) (mvT hZ (wd hw 217 rfl)) (sel_priv hZ (wd hw 102 rfl) (wd hw 218 rfl) (wd hw 217 rfl) (by decide)) (Cond.privateMethod_at (mvP hZ (wd hw 218 rfl) (args := #[]))) (mvT hZ (wd hw 219 rfl)) (by decide) (backOf (W := 0) (am31_2 l Z a0 hw [] a_EMPTY_ELEMENTDATA aw0 ka_EMPTY_ELEMENTDATA kaw0 HW (ad1) ((iv5 - (mxI (0 : Int32) ((200 : Int32) - (iv1 + (1 : Int32)))))) (ad4) (ad5) (ad6) (ad7) (ad8) (ad9) (ad10) (iv2) (iv3) (kc5) (iv5) h0 n0 Ol HE_ad1 HF_ad1_Domains_trail HF_ad1_Domains_marks HF_ad1_Domains_initial HF_ad1_Domains_lower HF_ad1_Domains_upper HF_ad1_Domains_holes HF_ad1_Domains_sizes HF_ad1_Domains_withOneValue HF_ad1_Domains_trailSize HF_ad1_Domains_resized HV_ad10 nn_ad1 nn_ad10 ne_ad1_ad10) hZ (wd hw 219 rfl) (wd hw 103 rfl) (by decide) (by decide)) (g := (mkF m 57 #[.val (.ref ad1), .val (.int (0 : Int32)), .val (.int iv1), .val (.int iv1), .val (.int (199 : Int32))] [(.int (iv5 - (mxI (0 : Int32) ((200 : Int32) - (iv1 + (1 : Int32)))))), (.int (0 : Int32)), (.ref ad1)])) rfl (by rw [hml]; rfl) (Steps.refl _) (a := ad1) (by rw [e8]; exact q9) q9' (argsL := [(.int (0 : Int32)), (.int (iv5 - (mxI (0 : Int32) ((200 : Int32) - (iv1 + (1 : Int32))))))]) (rest := []) (lenOf pd_17 rfl) rfl (by show 2 * 0 + _ ≤ _; exact Nat.le_of_eq rfl) (hb hby d28_57) (fun _ _ => ⟨rfl, e8, (by decide : 0 + 0 ≤ _), (by decide : 0 + 0 ≤ _)⟩)
  dsimp only [Pt.U, Pt.locs, Pt.cells, Pt.slots] at X9 l9 y9 z9 st9 hQ9
  subst l9 y9 z9
  obtain ⟨ex9_0, rfl, Nq9, K9, p9_0, p9_1, p9_2, p9_3, p9_4, p9_5, p9_6, p9_7, p9_8, p9_9, p9_10, p9_11⟩ := hQ9
  have old9 := Ol.keep K9 (allS nn_ad1 (allS nn_ad10 all0))
  have kp9 := kp0.trans K9 (allS (Or.inl (List.mem_of_getElem? (i := 0) rfl)) (allS (Or.inl (List.mem_of_getElem? (i := 1) rfl)) all0))
  have N9 := Fr.app N8 Nq9
  refine Go.step (fun t_ k_ => st9.trans k_) ?_
  show Go p e below _ (T9.setTop (mkF m 60 #[.val (.ref ad1), .val (.int (0 : Int32)), .val (.int iv1), .val (.int iv1), .val (.int (199 : Int32))] []))
  refine gs.aloadN X9.here hx (hb hby d28_60) rfl rfl ?_
  show Go p e below _ (T9.setTop (mkF m 61 _ _))
  refine gs.getF X9 hx hZ hown (wd hw 129 rfl) Via.refl rfl p9_9 (hb hby d28_61) fun T10 X10 e10 => ?_
  refine gs.iloadN X10.here hx (hb hby d28_64) rfl ?_
  refine gs.iloadN X10.here hx (hb hby d28_65) rfl ?_
  have f11 := (HV_ad8.keep K9 (ninS (Ne.symm ne_ad1_ad8) (ninS (Ne.symm ne_ad10_ad8) nin0)))
  obtain ⟨cl12, Ar12, q12, Sz12, Ng12, Hs12, G12⟩ := id f11
  have hin12 : ¬ ((0 : Int32) < 0 ∨ cl12.slots.size ≤ ((0 : Int32)).toNatClampNeg) := inb_of Sz12 ⟨by decide, by decide⟩
  obtain ⟨T13, h13, X13, e13, W13, st13⟩ := stI X10 hx hZ e10 Ar12 (j := (0 : Int32)) hin12 (g := (mkF m 66 #[.val (.ref ad1), .val (.int (0 : Int32)), .val (.int iv1), .val (.int iv1), .val (.int (199 : Int32))] [(.int iv1), (.int (0 : Int32)), (.ref ad8)])) rfl rfl (hb hby d28_66)
  have N13 := Fr.snoc X13 N9 nn_ad8
  have old13 := old9.wr W13 nn_ad8
  have kp13 := kp9.wr W13 (Or.inl (List.mem_of_getElem? (i := 3) rfl))
  have V13 : Arv Z h13 ad8 kc6 .int (2 : Int32) [(.int iv1), (.int (99 : Int32))] (.int (0 : Int32)) := Arv.set Ar12 q12 Sz12 Ng12 Hs12 G12 rfl W13 0 rfl (Nat.le_of_ble_eq_true rfl)
  refine Go.step st13 ?_
  show Go p e below _ (T13.setTop (mkF m 67 #[.val (.ref ad1), .val (.int (0 : Int32)), .val (.int iv1), .val (.int iv1), .val (.int (199 : Int32))] []))
  refine gs.aloadN X13.here hx (hb hby d28_67) rfl rfl ?_
  refine gs.iloadN X13.here hx (hb hby d28_68) rfl ?_
  refine gs.iconst 2 X13.here hx (hb hby d28_69) rfl ?_
  refine gs.iload X13.here hx (hb hby d28_70) rfl ?_
  have f14 := (p9_0.wr W13)
  have f15 := (p9_7.other W13 (Or.inl ne_ad1_ad8))
  have f16 := (p9_4.other W13 (Or.inl ne_ad1_ad8))
  have f17 := (p9_2.other W13 (Or.inl ne_ad1_ad8))
  have f18 := (p9_3.other W13 (Or.inl ne_ad1_ad8))
  have f19 := (p9_9.other W13 (Or.inl ne_ad1_ad8))
  have f20 := (p9_1.other W13 (Or.inl ne_ad1_ad8))
  have f21 := (p9_6.other W13 (Or.inl ne_ad1_ad8))
  have f22 := (p9_10.other W13 (Or.inl ne_ad1_ad8))
  have f23 := (p9_8.other W13 (Or.inl ne_ad1_ad8))
  have f24 := (p9_5.other W13 (Or.inl ne_ad1_ad8))
  have f25 := ((HE_ad4.keep K9).wr W13)
  have f26 := ((HG_ad4.keep K9 (ninS (Ne.symm ne_ad1_ad4) (ninS (Ne.symm ne_ad10_ad4) nin0))).other W13 ne_ad4_ad8)
  obtain ⟨cq27, q27, q27'⟩ := f14.cell
  obtain ⟨_, _, ⟨T27, L27, k27, n27⟩, -, X27, ⟨Lc27, hQ27, l27, y27, z27⟩, st27⟩ := X13.privateBack hx (y := y_32) hown (mvT hZ (wd hw 220 rfl)) (mvT hZ (wd hw 221 rfl)) (sel_priv hZ (wd hw 102 rfl) (wd hw 222 rfl) (wd hw 221 rfl) (by decide)) (Cond.privateMethod_at (mvP hZ (wd hw 222 rfl) (args := #[]))) (mvT hZ (wd hw 223 rfl)) (by decide) (backOf (W := 0) (am32_2 l Z a0 hw [] a_EMPTY_ELEMENTDATA aw0 ka_EMPTY_ELEMENTDATA kaw0 HW (ad1) (ad4) (ad5) (ad6) (ad7) (ad8) (ad9) (ad10) (ex9_0) (iv3) (kc7) (fv6) h13 n0 old13 f14 f15 f16 f17 f18 f19 f20 f21 f22 f23 f24 f25 f26 nn_ad1 nn_ad4 ne_ad1_ad4 as0 as2) hZ (wd hw 223 rfl) (wd hw 103 rfl) (by decide) (by decide)) (g := (mkF m 72 #[.val (.ref ad1), .val (.int (0 : Int32)), .val (.int iv1), .val (.int iv1), .val (.int (199 : Int32))] [(.int (199 : Int32)), (.int (2 : Int32)), (.int (0 : Int32)), (.ref ad1)])) rfl (by rw [hml]; rfl) (Steps.refl _) (a := ad1) (by rw [e13]; exact q27) q27' (argsL := [(.int (0 : Int32)), (.int (2 : Int32)), (.int (199 : Int32))]) (rest := []) (lenOf pd_18 rfl) rfl (by show 2 * 0 + _ ≤ _; exact Nat.le_of_eq rfl) (hb hby d28_72) (fun _ _ => ⟨rfl, e13, (by decide : 0 + 0 ≤ _), (by decide : 0 + 0 ≤ _)⟩)
  dsimp only [Pt.U, Pt.locs, Pt.cells, Pt.slots] at X27 l27 y27 z27 st27 hQ27
  subst l27 y27 z27
  obtain ⟨rfl, Nq27, K27, p27_0, p27_1, p27_2, p27_3, p27_4, p27_5, p27_6, p27_7, p27_8, p27_9, p27_10, p27_11, p27_12⟩ := hQ27
  have old27 := old13.keep K27 (allS nn_ad1 (allS nn_ad4 all0))
  have kp27 := kp13.trans K27 (allS (Or.inl (List.mem_of_getElem? (i := 0) rfl)) (allS (Or.inl (List.mem_of_getElem? (i := 2) rfl)) all0))
  have N27 := Fr.app N13 Nq27
  refine Go.step (fun t_ k_ => st27.trans k_) ?_
  show Go p e below _ (T27.setTop (mkF m 75 #[.val (.ref ad1), .val (.int (0 : Int32)), .val (.int iv1), .val (.int iv1), .val (.int (199 : Int32))] []))
  have f28 := ((p9_11.other W13 ne_ad10_ad8).keep K27 (ninS (Ne.symm ne_ad1_ad10) (ninS ne_ad10_ad4 nin0)))
  have f29 := (V13.keep K27 (ninS (Ne.symm ne_ad1_ad8) (ninS (Ne.symm ne_ad4_ad8) nin0)))
  refine Go.retV X27 hx Bd.returns Bd.notSynchronized (hb hby d28_75) (by exact ⟨(ex9_0), rfl, N27, kp27, p27_0, p27_1, p27_2, p27_3, p27_4, p27_5, p27_6, p27_7, p27_8, p27_9, p27_10, f28, p27_11, p27_12, f29⟩) (by decide) (by decide)
theorem d26_39 : decode prog_11_method_21_code 39 = .ok (.return_, 1) := by decide +kernel
theorem ef_am26_1 (m : MethodId) (x0 : Addr) (x1 : Int32) (x2 : Int64)  : entryFrame m #[(.ref x0), (.int x1), (.long x2)] 5 = mkF m 0 #[.val (.ref x0), .val (.int x1), .val (.long x2), .second, .unset] [] := by first | (simp [entryFrame, mkF, argsToLocals, Value.category]; done) | rfl
def Q_am26_1 (Z : State) (a_EMPTY_ELEMENTDATA : Addr) (aw0 : Addr) (ka_EMPTY_ELEMENTDATA : ClassId) (kaw0 : ClassId) (ad1 : Addr) (lv1 : Int64) (ad2 : Addr) (ad3 : Addr) (ad4 : Addr) (ad5 : Addr) (ad6 : Addr) (ad7 : Addr) (ad8 : Addr) (ad9 : Addr) (ad10 : Addr) (iv2 : Int32) (iv3 : Int32) (kc1 : ClassId) (kc2 : ClassId) (kc3 : ClassId) (iv4 : Int32) (kc5 : ClassId) (iv5 : Int32) (kc6 : ClassId) (kc7 : ClassId) (fv6 : Nat → Int64) (h0 : Heap) (n0 : Nat) (v : Option Value) (h : Heap) (L : List Loc) : Prop := ∃ ex1 : Int32, v = none ∧ Fr n0 L ∧ Keep h0 h [ad1, ad10, ad4, ad8] ∧ (Exa Z h ad1 "com/example/monarc/monarc/Domains") ∧ (Fld Z h ad1 "com/example/monarc/monarc/Domains" "holes" "[[J" (.ref ad9)) ∧ (Fld Z h ad1 "com/example/monarc/monarc/Domains" "initial" "[Lcom/example/monarc/monarc/InitialDomain;" (.ref ad6)) ∧ (Fld Z h ad1 "com/example/monarc/monarc/Domains" "lower" "[I" (.ref ad7)) ∧ (Fld Z h ad1 "com/example/monarc/monarc/Domains" "marks" "[I" (.ref ad5)) ∧ (Fld Z h ad1 "com/example/monarc/monarc/Domains" "resized" "Ljava/util/function/IntConsumer;" .null) ∧ (Fld Z h ad1 "com/example/monarc/monarc/Domains" "sizes" "[I" (.ref ad10)) ∧ (Fld Z h ad1 "com/example/monarc/monarc/Domains" "trail" "[J" (.ref ad4)) ∧ (Fld Z h ad1 "com/example/monarc/monarc/Domains" "trailSize" "I" (.int (iv3 + (1 : Int32)))) ∧ (Fld Z h ad1 "com/example/monarc/monarc/Domains" "upper" "[I" (.ref ad8)) ∧ (Fld Z h ad1 "com/example/monarc/monarc/Domains" "withOneValue" "I" (.int ex1)) ∧ (Arv Z h ad10 kc5 .int (2 : Int32) [(.int (iv5 - (mxI (0 : Int32) ((200 : Int32) - ((lv1.toInt32) + (1 : Int32)))))), (.int (100 : Int32))] (.int (0 : Int32))) ∧ (Exa Z h ad4 "[J") ∧ (Arf Z h ad4 kc7 (1024 : Int32) (fun i => if i = (iv3).toNatClampNeg then ((((0 : Int64) <<< ((32 : Int32) &&& 0x3f).toInt64) ||| ((2 : Int64) <<< ((30 : Int32) &&& 0x3f).toInt64)) ||| (199 : Int64)) else fv6 i)) ∧ (Arv Z h ad8 kc6 .int (2 : Int32) [(.int (lv1.toInt32)), (.int (99 : Int32))] (.int (0 : Int32)))
set_option maxRecDepth 65536 in
set_option maxHeartbeats 40000000 in
theorem am26_1 (l : Launch) (Z : State) (a0 : Array Value) (hw : ∀ d ∈ tables_1, d.before a0 Z = true) (ws : List Jvm.Cond) (a_EMPTY_ELEMENTDATA : Addr) (aw0 : Addr) (ka_EMPTY_ELEMENTDATA : ClassId) (kaw0 : ClassId) (HW : Wd Z a_EMPTY_ELEMENTDATA aw0 ka_EMPTY_ELEMENTDATA kaw0) (ad1 : Addr) (lv1 : Int64) (ad2 : Addr) (ad3 : Addr) (ad4 : Addr) (ad5 : Addr) (ad6 : Addr) (ad7 : Addr) (ad8 : Addr) (ad9 : Addr) (ad10 : Addr) (iv2 : Int32) (iv3 : Int32) (kc1 : ClassId) (kc2 : ClassId) (kc3 : ClassId) (iv4 : Int32) (kc5 : ClassId) (iv5 : Int32) (kc6 : ClassId) (kc7 : ClassId) (fv6 : Nat → Int64) (h0 : Heap) (n0 : Nat) (Ol : Old Z n0 h0) (HE_ad2 : Exa Z h0 ad2 "com/example/monarc/monarc/InitialDomain") (HF_ad2_InitialDomain_lowest : Fld Z h0 ad2 "com/example/monarc/monarc/InitialDomain" "lowest" "I" (.int (0 : Int32))) (HF_ad2_InitialDomain_size : Fld Z h0 ad2 "com/example/monarc/monarc/InitialDomain" "size" "I" (.int (200 : Int32))) (HF_ad2_InitialDomain_values : Fld Z h0 ad2 "com/example/monarc/monarc/InitialDomain" "values" "[I" .null) (HE_ad1 : Exa Z h0 ad1 "com/example/monarc/monarc/Domains") (HF_ad1_Domains_trail : Fld Z h0 ad1 "com/example/monarc/monarc/Domains" "trail" "[J" (.ref ad4)) (HF_ad1_Domains_marks : Fld Z h0 ad1 "com/example/monarc/monarc/Domains" "marks" "[I" (.ref ad5)) (HF_ad1_Domains_initial : Fld Z h0 ad1 "com/example/monarc/monarc/Domains" "initial" "[Lcom/example/monarc/monarc/InitialDomain;" (.ref ad6)) (HF_ad1_Domains_lower : Fld Z h0 ad1 "com/example/monarc/monarc/Domains" "lower" "[I" (.ref ad7)) (HF_ad1_Domains_upper : Fld Z h0 ad1 "com/example/monarc/monarc/Domains" "upper" "[I" (.ref ad8)) (HF_ad1_Domains_holes : Fld Z h0 ad1 "com/example/monarc/monarc/Domains" "holes" "[[J" (.ref ad9)) (HF_ad1_Domains_sizes : Fld Z h0 ad1 "com/example/monarc/monarc/Domains" "sizes" "[I" (.ref ad10)) (HF_ad1_Domains_withOneValue : Fld Z h0 ad1 "com/example/monarc/monarc/Domains" "withOneValue" "I" (.int iv2)) (HF_ad1_Domains_trailSize : Fld Z h0 ad1 "com/example/monarc/monarc/Domains" "trailSize" "I" (.int iv3)) (HF_ad1_Domains_resized : Fld Z h0 ad1 "com/example/monarc/monarc/Domains" "resized" "Ljava/util/function/IntConsumer;" .null) (HV_ad9 : Arv Z h0 ad9 kc1 (.array .long) (2 : Int32) [.null, .null] .null) (HV_ad6 : Arv Z h0 ad6 kc2 (.object "com/example/monarc/monarc/InitialDomain") (2 : Int32) [(.ref ad2), (.ref ad3)] .null) (HV_ad7 : Arv Z h0 ad7 kc3 .int (2 : Int32) [(.int iv4), (.int (0 : Int32))] (.int (0 : Int32))) (HV_ad10 : Arv Z h0 ad10 kc5 .int (2 : Int32) [(.int iv5), (.int (100 : Int32))] (.int (0 : Int32))) (HE_ad4 : Exa Z h0 ad4 "[J") (HV_ad8 : Arv Z h0 ad8 kc6 .int (2 : Int32) [(.int (199 : Int32)), (.int (99 : Int32))] (.int (0 : Int32))) (HG_ad4 : Arf Z h0 ad4 kc7 (1024 : Int32) fv6) (nn_ad1 : n0 ≤ ad1) (nn_ad10 : n0 ≤ ad10) (nn_ad4 : n0 ≤ ad4) (nn_ad8 : n0 ≤ ad8) (ne_ad1_ad10 : ad1 ≠ ad10) (ne_ad1_ad4 : ad1 ≠ ad4) (ne_ad1_ad8 : ad1 ≠ ad8) (ne_ad10_ad4 : ad10 ≠ ad4) (ne_ad10_ad8 : ad10 ≠ ad8) (ne_ad4_ad8 : ad4 ≠ ad8) (as0 : (0 : Int32) < iv5) (as1 : (lv1.toInt32) < (199 : Int32)) (as2 : ¬ ((lv1.toInt32) < iv4)) (as3 : 0 ≤ (iv3).toInt ∧ (iv3).toInt < ((1024 : Int32)).toInt) (as4 : ¬ (iv3 = (1024 : Int32))) (eq0 : (((mnL (200 : Int64) (mxL (0 : Int64) ((mxL (-2147483648 : Int64) (mnL ((mnL lv1 (2147483647 : Int64)) + (1 : Int64)) (2147483648 : Int64))) - (0 : Int64)))).toInt32) - (1 : Int32)) = (lv1.toInt32)) (hO_ad9 : OvrA Z kc1 .long "[J") (hO_ad6 : Ovr Z kc2 "com/example/monarc/monarc/InitialDomain") :
    MetFree l y_26 (head1 (Jvm.Cond.code y_26 prog_11_method_21_code 5 none :: ws) ({ frames := 3, cells := 0, slots := 0, locals := 56 } : Room)) (fun a_ U_ => a_ = #[(.ref ad1), (.int (0 : Int32)), (.long lv1)] ∧ Z.Warmed39 U_.vm ∧ U_.heap = h0) (fun _ _ _ _ _ => True) (fun _ U_ o_ V_ => ∃ v_ L_, o_ = .returned v_ ∧ Q_am26_1 Z a_EMPTY_ELEMENTDATA aw0 ka_EMPTY_ELEMENTDATA kaw0 ad1 lv1 ad2 ad3 ad4 ad5 ad6 ad7 ad8 ad9 ad10 iv2 iv3 kc1 kc2 kc3 iv4 kc5 iv5 kc6 kc7 fv6 h0 n0 v_ V_.heap L_ ∧ FrameEnd U_ o_ V_ L_ ({ frames := 3, cells := 0, slots := 0, locals := 56 } : Room).cells ({ frames := 3, cells := 0, slots := 0, locals := 56 } : Room).slots) := by
  refine MetFree.of_bodySF (plainFor_of_name pn_8) hisR ?_
  intro p e s m args below meth c s₁ Bd hml0 hP hK
  obtain ⟨rfl, hZ, hh⟩ := hP
  have hx := Bd.exec
  have hby := Bd.bytes
  have hml : c.maxLocals = 5 := hml0
  have hown : s.vm.findClass "com/example/monarc/monarc/Domains" = some m.cls := findClass_of_methodNamed Bd.named
  have hnm := (name_of_methodNamed Bd.named Bd.method).1
  have X0 : Stand p l e ({ frames := 3, cells := 0, slots := 0, locals := 56 } : Room) s m #[(.ref ad1), (.int (0 : Int32)), (.long lv1)] below meth c s₁ [] 0 0 := Stand.of_body Bd
  have e0 : s₁.heap = h0 := by rw [← hh, Bd.state]; rfl
  have N0 := Fr.nil n0
  have kp0 := Keep.refl h0 [ad1, ad10, ad4, ad8]
  show Go p e below (Fin1 s below (Q_am26_1 Z a_EMPTY_ELEMENTDATA aw0 ka_EMPTY_ELEMENTDATA kaw0 ad1 lv1 ad2 ad3 ad4 ad5 ad6 ad7 ad8 ad9 ad10 iv2 iv3 kc1 kc2 kc3 iv4 kc5 iv5 kc6 kc7 fv6 h0 n0) ({ frames := 3, cells := 0, slots := 0, locals := 56 } : Room).cells ({ frames := 3, cells := 0, slots := 0, locals := 56 } : Room).slots) _
  refine Go.step (fun t_ k_ => castTop (ef_am26_1 m ad1 (0 : Int32) lv1) k_) ?_
  obtain ⟨Ea_EMPTY_ELEMENTDATA, Sa_EMPTY_ELEMENTDATA, Eaw0, Saw0, Aa_EMPTY_ELEMENTDATA, Aaw0⟩ := id HW
  show Go p e below _ (s₁.setTop (mkF m 0 #[.val (.ref ad1), .val (.int (0 : Int32)), .val (.long lv1), .second, .unset] []))
  refine gs.aloadN X0.here hx (hb hby d26_0) rfl rfl ?_
  refine gs.getF X0 hx hZ hown (wd hw 125 rfl) Via.refl e0 HF_ad1_Domains_initial (hb hby d26_1) fun T1 X1 e1 => ?_
  refine gs.iloadN X1.here hx (hb hby d26_4) rfl ?_
  obtain ⟨cl2, Ar2, q2, Sz2, Ng2, Hs2, G2⟩ := id HV_ad6
  have hin2 : ¬ ((0 : Int32) < 0 ∨ cl2.slots.size ≤ ((0 : Int32)).toNatClampNeg) := inb_of Sz2 ⟨by decide, by decide⟩
  have hat2 : cl2.slots[((0 : Int32)).toNatClampNeg]? = some (.ref ad2) := Has.at Hs2 hin2 rfl
  refine Go.step (fun t_ k_ => X1.aaload hx (j := (0 : Int32)) (v := (.ref ad2)) (by rw [e1]; exact Ar2.1) (State.isArrayOf_alike hZ.alike Ar2.2.1) rfl Ar2.2.2 hin2 hat2 (g := (mkF m 5 #[.val (.ref ad1), .val (.int (0 : Int32)), .val (.long lv1), .second, .unset] [(.int (0 : Int32)), (.ref ad6)])) rfl rfl (hb hby d26_5) _ k_) ?_
  show Go p e below _ (T1.setTop (mkF m 6 #[.val (.ref ad1), .val (.int (0 : Int32)), .val (.long lv1), .second, .unset] [(.ref ad2)]))
  refine gs.lloadN X1.here hx (hb hby d26_6) rfl ?_
  obtain ⟨cq3, kq3, q3a, q3b, q3c⟩ := isOf hZ e1 HE_ad2
  obtain ⟨_, _, ⟨T3, L3, k3, n3⟩, -, X3, ⟨Lc3, hQ3, l3, y3, z3⟩, st3⟩ := X1.virtualBack hx (y := y_27) (z := y_27) hown (mvT hZ (wd hw 196 rfl)) (mvT hZ (wd hw 197 rfl)) (notFace_of_selects (args := #[]) (mvT hZ (wd hw 199 rfl))) (mvT hZ (wd hw 199 rfl)) (mvT hZ (wd hw 198 rfl)) (by decide) (backOf (W := 0) (am27_1 l Z a0 hw [] a_EMPTY_ELEMENTDATA aw0 ka_EMPTY_ELEMENTDATA kaw0 HW (ad2) (lv1) h0 n0 Ol HE_ad2 HF_ad2_InitialDomain_lowest HF_ad2_InitialDomain_size HF_ad2_InitialDomain_values eq0) hZ (wd hw 200 rfl) (wd hw 2 rfl) (by decide) (by decide)) q3a q3c (g := (mkF m 7 #[.val (.ref ad1), .val (.int (0 : Int32)), .val (.long lv1), .second, .unset] [(.long lv1), (.ref ad2)])) rfl (by rw [hml]; rfl) (Steps.refl _) (argsL := [(.long lv1)]) (rest := []) (lenOf pd_15 rfl) rfl (by show 2 * 0 + _ ≤ _; exact Nat.le_of_eq rfl) (hb hby d26_7) (fun _ _ => ⟨rfl, e1, (by decide : 0 + 0 ≤ _), (by decide : 0 + 0 ≤ _)⟩)
  dsimp only [Pt.U, Pt.locs, Pt.cells, Pt.slots] at X3 l3 y3 z3 st3 hQ3
  subst l3 y3 z3
  obtain ⟨rfl, Nq3, e3⟩ := hQ3
  have N3 := Fr.app N0 Nq3
  refine Go.step (fun t_ k_ => st3.trans k_) ?_
  show Go p e below _ (T3.setTop (mkF m 10 #[.val (.ref ad1), .val (.int (0 : Int32)), .val (.long lv1), .second, .unset] [(.int (lv1.toInt32))]))
  refine gs.istore X3.here hx (hb hby d26_10) (l' := #[.val (.ref ad1), .val (.int (0 : Int32)), .val (.long lv1), .second, .val (.int (lv1.toInt32))]) rfl ?_
  refine gs.aloadN X3.here hx (hb hby d26_12) rfl rfl ?_
  refine gs.getF X3 hx hZ hown (wd hw 135 rfl) Via.refl e3 HF_ad1_Domains_sizes (hb hby d26_13) fun T4 X4 e4 => ?_
  refine gs.iloadN X4.here hx (hb hby d26_16) rfl ?_
  obtain ⟨cl5, Ar5, q5, Sz5, Ng5, Hs5, G5⟩ := id HV_ad10
  have hin5 : ¬ ((0 : Int32) < 0 ∨ cl5.slots.size ≤ ((0 : Int32)).toNatClampNeg) := inb_of Sz5 ⟨by decide, by decide⟩
  have hat5 : cl5.slots[((0 : Int32)).toNatClampNeg]? = some (.int iv5) := Has.at Hs5 hin5 rfl
  refine Go.step (fun t_ k_ => X4.iaload hx (j := (0 : Int32)) (v := (.int iv5)) (by rw [e4]; exact Ar5.1) (State.isArrayOf_alike hZ.alike Ar5.2.1) Ar5.2.2 hin5 hat5 (g := (mkF m 17 #[.val (.ref ad1), .val (.int (0 : Int32)), .val (.long lv1), .second, .val (.int (lv1.toInt32))] [(.int (0 : Int32)), (.ref ad10)])) rfl rfl (hb hby d26_17) _ k_) ?_
  show Go p e below _ (T4.setTop (mkF m 18 #[.val (.ref ad1), .val (.int (0 : Int32)), .val (.long lv1), .second, .val (.int (lv1.toInt32))] [(.int iv5)]))
  have hc18 : (0 : Int32) < iv5 := as0
  refine gs.ifNo X4.here hx (hb hby d26_18) ((if0 _ _).trans (tlt hc18).2.2.2) ?_
  refine gs.iload X4.here hx (hb hby d26_21) rfl ?_
  refine gs.aloadN X4.here hx (hb hby d26_23) rfl rfl ?_
  refine gs.getF X4 hx hZ hown (wd hw 129 rfl) Via.refl e4 HF_ad1_Domains_upper (hb hby d26_24) fun T6 X6 e6 => ?_
  refine gs.iloadN X6.here hx (hb hby d26_27) rfl ?_
  obtain ⟨cl7, Ar7, q7, Sz7, Ng7, Hs7, G7⟩ := id HV_ad8
  have hin7 : ¬ ((0 : Int32) < 0 ∨ cl7.slots.size ≤ ((0 : Int32)).toNatClampNeg) := inb_of Sz7 ⟨by decide, by decide⟩
  have hat7 : cl7.slots[((0 : Int32)).toNatClampNeg]? = some (.int (199 : Int32)) := Has.at Hs7 hin7 rfl
  refine Go.step (fun t_ k_ => X6.iaload hx (j := (0 : Int32)) (v := (.int (199 : Int32))) (by rw [e6]; exact Ar7.1) (State.isArrayOf_alike hZ.alike Ar7.2.1) Ar7.2.2 hin7 hat7 (g := (mkF m 28 #[.val (.ref ad1), .val (.int (0 : Int32)), .val (.long lv1), .second, .val (.int (lv1.toInt32))] [(.int (0 : Int32)), (.ref ad8), (.int (lv1.toInt32))])) rfl rfl (hb hby d26_28) _ k_) ?_
  show Go p e below _ (T6.setTop (mkF m 29 #[.val (.ref ad1), .val (.int (0 : Int32)), .val (.long lv1), .second, .val (.int (lv1.toInt32))] [(.int (199 : Int32)), (.int (lv1.toInt32))]))
  have hc29 : (lv1.toInt32) < (199 : Int32) := as1
  refine gs.icmpNo X6.here hx (hb hby d26_29) (tlt hc29).2.1 ?_
  refine gs.aloadN X6.here hx (hb hby d26_32) rfl rfl ?_
  refine gs.iloadN X6.here hx (hb hby d26_33) rfl ?_
  refine gs.iload X6.here hx (hb hby d26_34) rfl ?_
  obtain ⟨cq8, q8, q8'⟩ := HE_ad1.cell
  obtain ⟨_, _, ⟨T8, L8, k8, n8⟩, -, X8, ⟨Lc8, hQ8, l8, y8, z8⟩, st8⟩ := X6.privateBack hx (y := y_28) hown (mvT hZ (wd hw 203 rfl)) (mvT hZ (wd hw 204 rfl)) (sel_priv hZ (wd hw 102 rfl) (wd hw 205 rfl) (wd hw 204 rfl) (by decide)) (Cond.privateMethod_at (mvP hZ (wd hw 205 rfl) (args := #[]))) (mvT hZ (wd hw 206 rfl)) (by decide) (backOf (W := 0) (am28_1 l Z a0 hw [] a_EMPTY_ELEMENTDATA aw0 ka_EMPTY_ELEMENTDATA kaw0 HW (ad1) ((lv1.toInt32)) (ad4) (ad5) (ad6) (ad7) (ad8) (ad9) (ad10) (iv2) (iv3) (kc1) (kc3) (iv4) (kc5) (iv5) (kc6) (kc7) (fv6) h0 n0 Ol HE_ad1 HF_ad1_Domains_trail HF_ad1_Domains_marks HF_ad1_Domains_initial HF_ad1_Domains_lower HF_ad1_Domains_upper HF_ad1_Domains_holes HF_ad1_Domains_sizes HF_ad1_Domains_withOneValue HF_ad1_Domains_trailSize HF_ad1_Domains_resized HV_ad9 HV_ad7 HV_ad10 HE_ad4 HV_ad8 HG_ad4 nn_ad1 nn_ad10 nn_ad4 nn_ad8 ne_ad1_ad10 ne_ad1_ad4 ne_ad1_ad8 ne_ad10_ad4 ne_ad10_ad8 ne_ad4_ad8 as3 as2 as4 hO_ad9) hZ (wd hw 206 rfl) (wd hw 103 rfl) (by decide) (by decide)) (g := (mkF m 36 #[.val (.ref ad1), .val (.int (0 : Int32)), .val (.long lv1), .second, .val (.int (lv1.toInt32))] [(.int (lv1.toInt32)), (.int (0 : Int32)), (.ref ad1)])) rfl (by rw [hml]; rfl) (Steps.refl _) (a := ad1) (by rw [e6]; exact q8) q8' (argsL := [(.int (0 : Int32)), (.int (lv1.toInt32))]) (rest := []) (lenOf pd_17 rfl) rfl (by show 2 * 0 + _ ≤ _; exact Nat.le_of_eq rfl) (hb hby d26_36) (fun _ _ => ⟨rfl, e6, (by decide : 0 + 0 ≤ _), (by decide : 0 + 0 ≤ _)⟩)
  dsimp only [Pt.U, Pt.locs, Pt.cells, Pt.slots] at X8 l8 y8 z8 st8 hQ8
  subst l8 y8 z8
  obtain ⟨ex8_0, rfl, Nq8, K8, p8_0, p8_1, p8_2, p8_3, p8_4, p8_5, p8_6, p8_7, p8_8, p8_9, p8_10, p8_11, p8_12, p8_13, p8_14⟩ := hQ8
  have old8 := Ol.keep K8 (allS nn_ad1 (allS nn_ad10 (allS nn_ad4 (allS nn_ad8 all0))))
  have kp8 := kp0.trans K8 (allS (Or.inl (List.mem_of_getElem? (i := 0) rfl)) (allS (Or.inl (List.mem_of_getElem? (i := 1) rfl)) (allS (Or.inl (List.mem_of_getElem? (i := 2) rfl)) (allS (Or.inl (List.mem_of_getElem? (i := 3) rfl)) all0))))
  have N8 := Fr.app N3 Nq8
  refine Go.step (fun t_ k_ => st8.trans k_) ?_
  show Go p e below _ (T8.setTop (mkF m 39 #[.val (.ref ad1), .val (.int (0 : Int32)), .val (.long lv1), .second, .val (.int (lv1.toInt32))] []))
  refine Go.retV X8 hx Bd.returns Bd.notSynchronized (hb hby d26_39) (by exact ⟨(ex8_0), rfl, N8, kp8, p8_0, p8_1, p8_2, p8_3, p8_4, p8_5, p8_6, p8_7, p8_8, p8_9, p8_10, p8_11, p8_12, p8_13, p8_14⟩) (by decide) (by decide)
theorem d33_0 : decode prog_11_method_8_code 0 = .ok (.aload_n 0, 1) := by decide +kernel
theorem d33_1 : decode prog_11_method_8_code 1 = .ok (.getfield 29, 3) := by decide +kernel
theorem d33_4 : decode prog_11_method_8_code 4 = .ok (.iload_n 1, 1) := by decide +kernel
theorem d33_5 : decode prog_11_method_8_code 5 = .ok (.iaload, 1) := by decide +kernel
theorem d33_6 : decode prog_11_method_8_code 6 = .ok (.iload_n 2, 1) := by decide +kernel
theorem d33_7 : decode prog_11_method_8_code 7 = .ok (.if_icmp .gt 46, 3) := by decide +kernel
theorem d33_53 : decode prog_11_method_8_code 53 = .ok (.iconst 0, 1) := by decide +kernel
theorem d33_54 : decode prog_11_method_8_code 54 = .ok (.ireturn, 1) := by decide +kernel
theorem ef_am33_1 (m : MethodId) (x0 : Addr) (x1 : Int32) (x2 : Int32)  : entryFrame m #[(.ref x0), (.int x1), (.int x2)] 3 = mkF m 0 #[.val (.ref x0), .val (.int x1), .val (.int x2)] [] := by first | (simp [entryFrame, mkF, argsToLocals, Value.category]; done) | rfl
def Q_am33_1 (Z : State) (a_EMPTY_ELEMENTDATA : Addr) (aw0 : Addr) (ka_EMPTY_ELEMENTDATA : ClassId) (kaw0 : ClassId) (ad1 : Addr) (iv1 : Int32) (ad7 : Addr) (kc3 : ClassId) (iv4 : Int32) (h0 : Heap) (n0 : Nat) (v : Option Value) (h : Heap) (L : List Loc) : Prop := v = some (.int (0 : Int32)) ∧ Fr n0 L ∧ h = h0
set_option maxRecDepth 65536 in
set_option maxHeartbeats 40000000 in
theorem am33_1 (l : Launch) (Z : State) (a0 : Array Value) (hw : ∀ d ∈ tables_1, d.before a0 Z = true) (ws : List Jvm.Cond) (a_EMPTY_ELEMENTDATA : Addr) (aw0 : Addr) (ka_EMPTY_ELEMENTDATA : ClassId) (kaw0 : ClassId) (HW : Wd Z a_EMPTY_ELEMENTDATA aw0 ka_EMPTY_ELEMENTDATA kaw0) (ad1 : Addr) (iv1 : Int32) (ad7 : Addr) (kc3 : ClassId) (iv4 : Int32) (h0 : Heap) (n0 : Nat) (Ol : Old Z n0 h0) (HF_ad1_Domains_lower : Fld Z h0 ad1 "com/example/monarc/monarc/Domains" "lower" "[I" (.ref ad7)) (HV_ad7 : Arv Z h0 ad7 kc3 .int (2 : Int32) [(.int iv4), (.int (0 : Int32))] (.int (0 : Int32))) (as0 : iv1 < iv4) :
    MetFree l y_33 (head1 (Jvm.Cond.code y_33 prog_11_method_8_code 3 (some .boolean) :: ws) ({ frames := 0, cells := 0, slots := 0, locals := 0 } : Room)) (fun a_ U_ => a_ = #[(.ref ad1), (.int (0 : Int32)), (.int iv1)] ∧ Z.Warmed39 U_.vm ∧ U_.heap = h0) (fun _ _ _ _ _ => True) (fun _ U_ o_ V_ => ∃ v_ L_, o_ = .returned v_ ∧ Q_am33_1 Z a_EMPTY_ELEMENTDATA aw0 ka_EMPTY_ELEMENTDATA kaw0 ad1 iv1 ad7 kc3 iv4 h0 n0 v_ V_.heap L_ ∧ FrameEnd U_ o_ V_ L_ ({ frames := 0, cells := 0, slots := 0, locals := 0 } : Room).cells ({ frames := 0, cells := 0, slots := 0, locals := 0 } : Room).slots) := by
  refine MetFree.of_bodySF (plainFor_of_name pn_8) hisR ?_
  intro p e s m args below meth c s₁ Bd hml0 hP hK
  obtain ⟨rfl, hZ, hh⟩ := hP
  have hx := Bd.exec
  have hby := Bd.bytes
  have hml : c.maxLocals = 3 := hml0
  have hown : s.vm.findClass "com/example/monarc/monarc/Domains" = some m.cls := findClass_of_methodNamed Bd.named
  have hnm := (name_of_methodNamed Bd.named Bd.method).1
  have X0 : Stand p l e ({ frames := 0, cells := 0, slots := 0, locals := 0 } : Room) s m #[(.ref ad1), (.int (0 : Int32)), (.int iv1)] below meth c s₁ [] 0 0 := Stand.of_body Bd
  have e0 : s₁.heap = h0 := by rw [← hh, Bd.state]; rfl
  have N0 := Fr.nil n0
  have kp0 := Keep.refl h0 []
  show Go p e below (Fin1 s below (Q_am33_1 Z a_EMPTY_ELEMENTDATA aw0 ka_EMPTY_ELEMENTDATA kaw0 ad1 iv1 ad7 kc3 iv4 h0 n0) ({ frames := 0, cells := 0, slots := 0, locals := 0 } : Room).cells ({ frames := 0, cells := 0, slots := 0, locals := 0 } : Room).slots) _
  refine Go.step (fun t_ k_ => castTop (ef_am33_1 m ad1 (0 : Int32) iv1) k_) ?_
  obtain ⟨Ea_EMPTY_ELEMENTDATA, Sa_EMPTY_ELEMENTDATA, Eaw0, Saw0, Aa_EMPTY_ELEMENTDATA, Aaw0⟩ := id HW
  show Go p e below _ (s₁.setTop (mkF m 0 #[.val (.ref ad1), .val (.int (0 : Int32)), .val (.int iv1)] []))
  refine gs.aloadN X0.here hx (hb hby d33_0) rfl rfl ?_
  refine gs.getF X0 hx hZ hown (wd hw 127 rfl) Via.refl e0 HF_ad1_Domains_lower (hb hby d33_1) fun T1 X1 e1 => ?_
  refine gs.iloadN X1.here hx (hb hby d33_4) rfl ?_
  obtain ⟨cl2, Ar2, q2, Sz2, Ng2, Hs2, G2⟩ := id HV_ad7
  have hin2 : ¬ ((0 : Int32) < 0 ∨ cl2.slots.size ≤ ((0 : Int32)).toNatClampNeg) := inb_of Sz2 ⟨by decide, by decide⟩
  have hat2 : cl2.slots[((0 : Int32)).toNatClampNeg]? = some (.int iv4) := Has.at Hs2 hin2 rfl
  refine Go.step (fun t_ k_ => X1.iaload hx (j := (0 : Int32)) (v := (.int iv4)) (by rw [e1]; exact Ar2.1) (State.isArrayOf_alike hZ.alike Ar2.2.1) Ar2.2.2 hin2 hat2 (g := (mkF m 5 #[.val (.ref ad1), .val (.int (0 : Int32)), .val (.int iv1)] [(.int (0 : Int32)), (.ref ad7)])) rfl rfl (hb hby d33_5) _ k_) ?_
  show Go p e below _ (T1.setTop (mkF m 6 #[.val (.ref ad1), .val (.int (0 : Int32)), .val (.int iv1)] [(.int iv4)]))
  refine gs.iloadN X1.here hx (hb hby d33_6) rfl ?_
  have hc7 : iv1 < iv4 := as0
  refine gs.icmpYes 53 X1.here hx (hb hby d33_7) (tlt hc7).2.2.1 rfl ?_
  refine gs.iconst 0 X1.here hx (hb hby d33_53) rfl ?_
  refine Go.retZ X1 hx (t := .boolean) Bd.returns (by simp) Bd.notSynchronized (hb hby d33_54) (by rw [e1]; exact ⟨rfl, N0, rfl⟩) (by decide) (by decide)
theorem pd_20 : parseMethodDescriptor "(II)Z" = some ⟨[.int, .int], some .boolean⟩ := by decide +kernel
theorem d33_10 : decode prog_11_method_8_code 10 = .ok (.iload_n 2, 1) := by decide +kernel
theorem d33_11 : decode prog_11_method_8_code 11 = .ok (.aload_n 0, 1) := by decide +kernel
theorem d33_12 : decode prog_11_method_8_code 12 = .ok (.getfield 32, 3) := by decide +kernel
theorem d33_15 : decode prog_11_method_8_code 15 = .ok (.iload_n 1, 1) := by decide +kernel
theorem d33_16 : decode prog_11_method_8_code 16 = .ok (.iaload, 1) := by decide +kernel
theorem d33_17 : decode prog_11_method_8_code 17 = .ok (.if_icmp .gt 36, 3) := by decide +kernel
theorem ef_am33_2 (m : MethodId) (x0 : Addr) (x1 : Int32) (x2 : Int32)  : entryFrame m #[(.ref x0), (.int x1), (.int x2)] 3 = mkF m 0 #[.val (.ref x0), .val (.int x1), .val (.int x2)] [] := by first | (simp [entryFrame, mkF, argsToLocals, Value.category]; done) | rfl
def Q_am33_2 (Z : State) (a_EMPTY_ELEMENTDATA : Addr) (aw0 : Addr) (ka_EMPTY_ELEMENTDATA : ClassId) (kaw0 : ClassId) (ad1 : Addr) (iv1 : Int32) (ad7 : Addr) (ad8 : Addr) (kc3 : ClassId) (iv4 : Int32) (kc6 : ClassId) (iv6 : Int32) (h0 : Heap) (n0 : Nat) (v : Option Value) (h : Heap) (L : List Loc) : Prop := v = some (.int (0 : Int32)) ∧ Fr n0 L ∧ h = h0
set_option maxRecDepth 65536 in
set_option maxHeartbeats 40000000 in
theorem am33_2 (l : Launch) (Z : State) (a0 : Array Value) (hw : ∀ d ∈ tables_1, d.before a0 Z = true) (ws : List Jvm.Cond) (a_EMPTY_ELEMENTDATA : Addr) (aw0 : Addr) (ka_EMPTY_ELEMENTDATA : ClassId) (kaw0 : ClassId) (HW : Wd Z a_EMPTY_ELEMENTDATA aw0 ka_EMPTY_ELEMENTDATA kaw0) (ad1 : Addr) (iv1 : Int32) (ad7 : Addr) (ad8 : Addr) (kc3 : ClassId) (iv4 : Int32) (kc6 : ClassId) (iv6 : Int32) (h0 : Heap) (n0 : Nat) (Ol : Old Z n0 h0) (HF_ad1_Domains_lower : Fld Z h0 ad1 "com/example/monarc/monarc/Domains" "lower" "[I" (.ref ad7)) (HF_ad1_Domains_upper : Fld Z h0 ad1 "com/example/monarc/monarc/Domains" "upper" "[I" (.ref ad8)) (HV_ad7 : Arv Z h0 ad7 kc3 .int (2 : Int32) [(.int iv4), (.int (0 : Int32))] (.int (0 : Int32))) (HV_ad8 : Arv Z h0 ad8 kc6 .int (2 : Int32) [(.int iv6), (.int (99 : Int32))] (.int (0 : Int32))) (as0 : ¬ (iv1 < iv4)) (as1 : iv6 < iv1) :
    MetFree l y_33 (head1 (Jvm.Cond.code y_33 prog_11_method_8_code 3 (some .boolean) :: ws) ({ frames := 0, cells := 0, slots := 0, locals := 0 } : Room)) (fun a_ U_ => a_ = #[(.ref ad1), (.int (0 : Int32)), (.int iv1)] ∧ Z.Warmed39 U_.vm ∧ U_.heap = h0) (fun _ _ _ _ _ => True) (fun _ U_ o_ V_ => ∃ v_ L_, o_ = .returned v_ ∧ Q_am33_2 Z a_EMPTY_ELEMENTDATA aw0 ka_EMPTY_ELEMENTDATA kaw0 ad1 iv1 ad7 ad8 kc3 iv4 kc6 iv6 h0 n0 v_ V_.heap L_ ∧ FrameEnd U_ o_ V_ L_ ({ frames := 0, cells := 0, slots := 0, locals := 0 } : Room).cells ({ frames := 0, cells := 0, slots := 0, locals := 0 } : Room).slots) := by
  refine MetFree.of_bodySF (plainFor_of_name pn_8) hisR ?_
  intro p e s m args below meth c s₁ Bd hml0 hP hK
  obtain ⟨rfl, hZ, hh⟩ := hP
  have hx := Bd.exec
  have hby := Bd.bytes
  have hml : c.maxLocals = 3 := hml0
  have hown : s.vm.findClass "com/example/monarc/monarc/Domains" = some m.cls := findClass_of_methodNamed Bd.named
  have hnm := (name_of_methodNamed Bd.named Bd.method).1
  have X0 : Stand p l e ({ frames := 0, cells := 0, slots := 0, locals := 0 } : Room) s m #[(.ref ad1), (.int (0 : Int32)), (.int iv1)] below meth c s₁ [] 0 0 := Stand.of_body Bd
  have e0 : s₁.heap = h0 := by rw [← hh, Bd.state]; rfl
  have N0 := Fr.nil n0
  have kp0 := Keep.refl h0 []
  show Go p e below (Fin1 s below (Q_am33_2 Z a_EMPTY_ELEMENTDATA aw0 ka_EMPTY_ELEMENTDATA kaw0 ad1 iv1 ad7 ad8 kc3 iv4 kc6 iv6 h0 n0) ({ frames := 0, cells := 0, slots := 0, locals := 0 } : Room).cells ({ frames := 0, cells := 0, slots := 0, locals := 0 } : Room).slots) _
  refine Go.step (fun t_ k_ => castTop (ef_am33_2 m ad1 (0 : Int32) iv1) k_) ?_
  obtain ⟨Ea_EMPTY_ELEMENTDATA, Sa_EMPTY_ELEMENTDATA, Eaw0, Saw0, Aa_EMPTY_ELEMENTDATA, Aaw0⟩ := id HW
  show Go p e below _ (s₁.setTop (mkF m 0 #[.val (.ref ad1), .val (.int (0 : Int32)), .val (.int iv1)] []))
  refine gs.aloadN X0.here hx (hb hby d33_0) rfl rfl ?_
  refine gs.getF X0 hx hZ hown (wd hw 127 rfl) Via.refl e0 HF_ad1_Domains_lower (hb hby d33_1) fun T1 X1 e1 => ?_
  refine gs.iloadN X1.here hx (hb hby d33_4) rfl ?_
  obtain ⟨cl2, Ar2, q2, Sz2, Ng2, Hs2, G2⟩ := id HV_ad7
  have hin2 : ¬ ((0 : Int32) < 0 ∨ cl2.slots.size ≤ ((0 : Int32)).toNatClampNeg) := inb_of Sz2 ⟨by decide, by decide⟩
  have hat2 : cl2.slots[((0 : Int32)).toNatClampNeg]? = some (.int iv4) := Has.at Hs2 hin2 rfl
  refine Go.step (fun t_ k_ => X1.iaload hx (j := (0 : Int32)) (v := (.int iv4)) (by rw [e1]; exact Ar2.1) (State.isArrayOf_alike hZ.alike Ar2.2.1) Ar2.2.2 hin2 hat2 (g := (mkF m 5 #[.val (.ref ad1), .val (.int (0 : Int32)), .val (.int iv1)] [(.int (0 : Int32)), (.ref ad7)])) rfl rfl (hb hby d33_5) _ k_) ?_
  show Go p e below _ (T1.setTop (mkF m 6 #[.val (.ref ad1), .val (.int (0 : Int32)), .val (.int iv1)] [(.int iv4)]))
  refine gs.iloadN X1.here hx (hb hby d33_6) rfl ?_
  have hc7 : ¬ (iv1 < iv4) := as0
  refine gs.icmpNo X1.here hx (hb hby d33_7) (flt hc7).2.2.1 ?_
  refine gs.iloadN X1.here hx (hb hby d33_10) rfl ?_
  refine gs.aloadN X1.here hx (hb hby d33_11) rfl rfl ?_
  refine gs.getF X1 hx hZ hown (wd hw 129 rfl) Via.refl e1 HF_ad1_Domains_upper (hb hby d33_12) fun T3 X3 e3 => ?_
  refine gs.iloadN X3.here hx (hb hby d33_15) rfl ?_
  obtain ⟨cl4, Ar4, q4, Sz4, Ng4, Hs4, G4⟩ := id HV_ad8
  have hin4 : ¬ ((0 : Int32) < 0 ∨ cl4.slots.size ≤ ((0 : Int32)).toNatClampNeg) := inb_of Sz4 ⟨by decide, by decide⟩
  have hat4 : cl4.slots[((0 : Int32)).toNatClampNeg]? = some (.int iv6) := Has.at Hs4 hin4 rfl
  refine Go.step (fun t_ k_ => X3.iaload hx (j := (0 : Int32)) (v := (.int iv6)) (by rw [e3]; exact Ar4.1) (State.isArrayOf_alike hZ.alike Ar4.2.1) Ar4.2.2 hin4 hat4 (g := (mkF m 16 #[.val (.ref ad1), .val (.int (0 : Int32)), .val (.int iv1)] [(.int (0 : Int32)), (.ref ad8), (.int iv1)])) rfl rfl (hb hby d33_16) _ k_) ?_
  show Go p e below _ (T3.setTop (mkF m 17 #[.val (.ref ad1), .val (.int (0 : Int32)), .val (.int iv1)] [(.int iv6), (.int iv1)]))
  have hc17 : iv6 < iv1 := as1
  refine gs.icmpYes 53 X3.here hx (hb hby d33_17) (tlt hc17).2.2.1 rfl ?_
  refine gs.iconst 0 X3.here hx (hb hby d33_53) rfl ?_
  refine Go.retZ X3 hx (t := .boolean) Bd.returns (by simp) Bd.notSynchronized (hb hby d33_54) (by rw [e3]; exact ⟨rfl, N0, rfl⟩) (by decide) (by decide)
theorem d33_20 : decode prog_11_method_8_code 20 = .ok (.aload_n 0, 1) := by decide +kernel
theorem d33_21 : decode prog_11_method_8_code 21 = .ok (.getfield 36, 3) := by decide +kernel
theorem d33_24 : decode prog_11_method_8_code 24 = .ok (.iload_n 1, 1) := by decide +kernel
theorem d33_25 : decode prog_11_method_8_code 25 = .ok (.aaload, 1) := by decide +kernel
theorem d33_26 : decode prog_11_method_8_code 26 = .ok (.ifnull 23, 3) := by decide +kernel
theorem d33_49 : decode prog_11_method_8_code 49 = .ok (.iconst 1, 1) := by decide +kernel
theorem d33_50 : decode prog_11_method_8_code 50 = .ok (.goto 4, 3) := by decide +kernel
theorem ef_am33_3 (m : MethodId) (x0 : Addr) (x1 : Int32) (x2 : Int32)  : entryFrame m #[(.ref x0), (.int x1), (.int x2)] 3 = mkF m 0 #[.val (.ref x0), .val (.int x1), .val (.int x2)] [] := by first | (simp [entryFrame, mkF, argsToLocals, Value.category]; done) | rfl
def Q_am33_3 (Z : State) (a_EMPTY_ELEMENTDATA : Addr) (aw0 : Addr) (ka_EMPTY_ELEMENTDATA : ClassId) (kaw0 : ClassId) (ad1 : Addr) (iv1 : Int32) (ad7 : Addr) (ad8 : Addr) (ad9 : Addr) (kc1 : ClassId) (kc3 : ClassId) (iv4 : Int32) (kc6 : ClassId) (iv6 : Int32) (h0 : Heap) (n0 : Nat) (v : Option Value) (h : Heap) (L : List Loc) : Prop := v = some (.int (1 : Int32)) ∧ Fr n0 L ∧ h = h0
set_option maxRecDepth 65536 in
set_option maxHeartbeats 40000000 in
theorem am33_3 (l : Launch) (Z : State) (a0 : Array Value) (hw : ∀ d ∈ tables_1, d.before a0 Z = true) (ws : List Jvm.Cond) (a_EMPTY_ELEMENTDATA : Addr) (aw0 : Addr) (ka_EMPTY_ELEMENTDATA : ClassId) (kaw0 : ClassId) (HW : Wd Z a_EMPTY_ELEMENTDATA aw0 ka_EMPTY_ELEMENTDATA kaw0) (ad1 : Addr) (iv1 : Int32) (ad7 : Addr) (ad8 : Addr) (ad9 : Addr) (kc1 : ClassId) (kc3 : ClassId) (iv4 : Int32) (kc6 : ClassId) (iv6 : Int32) (h0 : Heap) (n0 : Nat) (Ol : Old Z n0 h0) (HF_ad1_Domains_lower : Fld Z h0 ad1 "com/example/monarc/monarc/Domains" "lower" "[I" (.ref ad7)) (HF_ad1_Domains_upper : Fld Z h0 ad1 "com/example/monarc/monarc/Domains" "upper" "[I" (.ref ad8)) (HF_ad1_Domains_holes : Fld Z h0 ad1 "com/example/monarc/monarc/Domains" "holes" "[[J" (.ref ad9)) (HV_ad9 : Arv Z h0 ad9 kc1 (.array .long) (2 : Int32) [.null, .null] .null) (HV_ad7 : Arv Z h0 ad7 kc3 .int (2 : Int32) [(.int iv4), (.int (0 : Int32))] (.int (0 : Int32))) (HV_ad8 : Arv Z h0 ad8 kc6 .int (2 : Int32) [(.int iv6), (.int (99 : Int32))] (.int (0 : Int32))) (as0 : ¬ (iv1 < iv4)) (as1 : ¬ (iv6 < iv1)) (hO_ad9 : OvrA Z kc1 .long "[J") :
    MetFree l y_33 (head1 (Jvm.Cond.code y_33 prog_11_method_8_code 3 (some .boolean) :: ws) ({ frames := 0, cells := 0, slots := 0, locals := 0 } : Room)) (fun a_ U_ => a_ = #[(.ref ad1), (.int (0 : Int32)), (.int iv1)] ∧ Z.Warmed39 U_.vm ∧ U_.heap = h0) (fun _ _ _ _ _ => True) (fun _ U_ o_ V_ => ∃ v_ L_, o_ = .returned v_ ∧ Q_am33_3 Z a_EMPTY_ELEMENTDATA aw0 ka_EMPTY_ELEMENTDATA kaw0 ad1 iv1 ad7 ad8 ad9 kc1 kc3 iv4 kc6 iv6 h0 n0 v_ V_.heap L_ ∧ FrameEnd U_ o_ V_ L_ ({ frames := 0, cells := 0, slots := 0, locals := 0 } : Room).cells ({ frames := 0, cells := 0, slots := 0, locals := 0 } : Room).slots) := by
  refine MetFree.of_bodySF (plainFor_of_name pn_8) hisR ?_
  intro p e s m args below meth c s₁ Bd hml0 hP hK
  obtain ⟨rfl, hZ, hh⟩ := hP
  have hx := Bd.exec
  have hby := Bd.bytes
  have hml : c.maxLocals = 3 := hml0
  have hown : s.vm.findClass "com/example/monarc/monarc/Domains" = some m.cls := findClass_of_methodNamed Bd.named
  have hnm := (name_of_methodNamed Bd.named Bd.method).1
  have X0 : Stand p l e ({ frames := 0, cells := 0, slots := 0, locals := 0 } : Room) s m #[(.ref ad1), (.int (0 : Int32)), (.int iv1)] below meth c s₁ [] 0 0 := Stand.of_body Bd
  have e0 : s₁.heap = h0 := by rw [← hh, Bd.state]; rfl
  have N0 := Fr.nil n0
  have kp0 := Keep.refl h0 []
  show Go p e below (Fin1 s below (Q_am33_3 Z a_EMPTY_ELEMENTDATA aw0 ka_EMPTY_ELEMENTDATA kaw0 ad1 iv1 ad7 ad8 ad9 kc1 kc3 iv4 kc6 iv6 h0 n0) ({ frames := 0, cells := 0, slots := 0, locals := 0 } : Room).cells ({ frames := 0, cells := 0, slots := 0, locals := 0 } : Room).slots) _
  refine Go.step (fun t_ k_ => castTop (ef_am33_3 m ad1 (0 : Int32) iv1) k_) ?_
  obtain ⟨Ea_EMPTY_ELEMENTDATA, Sa_EMPTY_ELEMENTDATA, Eaw0, Saw0, Aa_EMPTY_ELEMENTDATA, Aaw0⟩ := id HW
  show Go p e below _ (s₁.setTop (mkF m 0 #[.val (.ref ad1), .val (.int (0 : Int32)), .val (.int iv1)] []))
  refine gs.aloadN X0.here hx (hb hby d33_0) rfl rfl ?_
  refine gs.getF X0 hx hZ hown (wd hw 127 rfl) Via.refl e0 HF_ad1_Domains_lower (hb hby d33_1) fun T1 X1 e1 => ?_
  refine gs.iloadN X1.here hx (hb hby d33_4) rfl ?_
  obtain ⟨cl2, Ar2, q2, Sz2, Ng2, Hs2, G2⟩ := id HV_ad7
  have hin2 : ¬ ((0 : Int32) < 0 ∨ cl2.slots.size ≤ ((0 : Int32)).toNatClampNeg) := inb_of Sz2 ⟨by decide, by decide⟩
  have hat2 : cl2.slots[((0 : Int32)).toNatClampNeg]? = some (.int iv4) := Has.at Hs2 hin2 rfl
  refine Go.step (fun t_ k_ => X1.iaload hx (j := (0 : Int32)) (v := (.int iv4)) (by rw [e1]; exact Ar2.1) (State.isArrayOf_alike hZ.alike Ar2.2.1) Ar2.2.2 hin2 hat2 (g := (mkF m 5 #[.val (.ref ad1), .val (.int (0 : Int32)), .val (.int iv1)] [(.int (0 : Int32)), (.ref ad7)])) rfl rfl (hb hby d33_5) _ k_) ?_
  show Go p e below _ (T1.setTop (mkF m 6 #[.val (.ref ad1), .val (.int (0 : Int32)), .val (.int iv1)] [(.int iv4)]))
  refine gs.iloadN X1.here hx (hb hby d33_6) rfl ?_
  have hc7 : ¬ (iv1 < iv4) := as0
  refine gs.icmpNo X1.here hx (hb hby d33_7) (flt hc7).2.2.1 ?_
  refine gs.iloadN X1.here hx (hb hby d33_10) rfl ?_
  refine gs.aloadN X1.here hx (hb hby d33_11) rfl rfl ?_
  refine gs.getF X1 hx hZ hown (wd hw 129 rfl) Via.refl e1 HF_ad1_Domains_upper (hb hby d33_12) fun T3 X3 e3 => ?_
  refine gs.iloadN X3.here hx (hb hby d33_15) rfl ?_
  obtain ⟨cl4, Ar4, q4, Sz4, Ng4, Hs4, G4⟩ := id HV_ad8
  have hin4 : ¬ ((0 : Int32) < 0 ∨ cl4.slots.size ≤ ((0 : Int32)).toNatClampNeg) := inb_of Sz4 ⟨by decide, by decide⟩
  have hat4 : cl4.slots[((0 : Int32)).toNatClampNeg]? = some (.int iv6) := Has.at Hs4 hin4 rfl
  refine Go.step (fun t_ k_ => X3.iaload hx (j := (0 : Int32)) (v := (.int iv6)) (by rw [e3]; exact Ar4.1) (State.isArrayOf_alike hZ.alike Ar4.2.1) Ar4.2.2 hin4 hat4 (g := (mkF m 16 #[.val (.ref ad1), .val (.int (0 : Int32)), .val (.int iv1)] [(.int (0 : Int32)), (.ref ad8), (.int iv1)])) rfl rfl (hb hby d33_16) _ k_) ?_
  show Go p e below _ (T3.setTop (mkF m 17 #[.val (.ref ad1), .val (.int (0 : Int32)), .val (.int iv1)] [(.int iv6), (.int iv1)]))
  have hc17 : ¬ (iv6 < iv1) := as1
  refine gs.icmpNo X3.here hx (hb hby d33_17) (flt hc17).2.2.1 ?_
  refine gs.aloadN X3.here hx (hb hby d33_20) rfl rfl ?_
  refine gs.getF X3 hx hZ hown (wd hw 133 rfl) Via.refl e3 HF_ad1_Domains_holes (hb hby d33_21) fun T5 X5 e5 => ?_
  refine gs.iloadN X5.here hx (hb hby d33_24) rfl ?_
  obtain ⟨cl6, Ar6, q6, Sz6, Ng6, Hs6, G6⟩ := id HV_ad9
  have hin6 : ¬ ((0 : Int32) < 0 ∨ cl6.slots.size ≤ ((0 : Int32)).toNatClampNeg) := inb_of Sz6 ⟨by decide, by decide⟩
  have hat6 : cl6.slots[((0 : Int32)).toNatClampNeg]? = some .null := Has.at Hs6 hin6 rfl
  refine Go.step (fun t_ k_ => X5.aaload hx (j := (0 : Int32)) (v := .null) (by rw [e5]; exact Ar6.1) (State.isArrayOf_alike hZ.alike Ar6.2.1) rfl Ar6.2.2 hin6 hat6 (g := (mkF m 25 #[.val (.ref ad1), .val (.int (0 : Int32)), .val (.int iv1)] [(.int (0 : Int32)), (.ref ad9)])) rfl rfl (hb hby d33_25) _ k_) ?_
  show Go p e below _ (T5.setTop (mkF m 26 #[.val (.ref ad1), .val (.int (0 : Int32)), .val (.int iv1)] [.null]))
  refine Go.step (fun t_ k_ => XS.ifnullYes X5.here hx rfl (pc0 := 26) (pc' := 49) rfl (hb hby d33_26) rfl (by decide) (by decide) k_) ?_
  show Go p e below _ (T5.setTop (mkF m 49 #[.val (.ref ad1), .val (.int (0 : Int32)), .val (.int iv1)] []))
  refine gs.iconst 1 X5.here hx (hb hby d33_49) rfl ?_
  refine gs.goto 54 X5.here hx (hb hby d33_50) rfl ?_
  refine Go.retZ X5 hx (t := .boolean) Bd.returns (by simp) Bd.notSynchronized (hb hby d33_54) (by rw [e5]; exact ⟨rfl, N0, rfl⟩) (by decide) (by decide)
theorem ef_am33_4 (m : MethodId) (x0 : Addr) (x1 : Int32) (x2 : Int32)  : entryFrame m #[(.ref x0), (.int x1), (.int x2)] 3 = mkF m 0 #[.val (.ref x0), .val (.int x1), .val (.int x2)] [] := by first | (simp [entryFrame, mkF, argsToLocals, Value.category]; done) | rfl
def Q_am33_4 (Z : State) (a_EMPTY_ELEMENTDATA : Addr) (aw0 : Addr) (ka_EMPTY_ELEMENTDATA : ClassId) (kaw0 : ClassId) (ad1 : Addr) (iv1 : Int32) (ad7 : Addr) (kc3 : ClassId) (iv4 : Int32) (h0 : Heap) (n0 : Nat) (v : Option Value) (h : Heap) (L : List Loc) : Prop := v = some (.int (0 : Int32)) ∧ Fr n0 L ∧ h = h0
set_option maxRecDepth 65536 in
set_option maxHeartbeats 40000000 in
theorem am33_4 (l : Launch) (Z : State) (a0 : Array Value) (hw : ∀ d ∈ tables_1, d.before a0 Z = true) (ws : List Jvm.Cond) (a_EMPTY_ELEMENTDATA : Addr) (aw0 : Addr) (ka_EMPTY_ELEMENTDATA : ClassId) (kaw0 : ClassId) (HW : Wd Z a_EMPTY_ELEMENTDATA aw0 ka_EMPTY_ELEMENTDATA kaw0) (ad1 : Addr) (iv1 : Int32) (ad7 : Addr) (kc3 : ClassId) (iv4 : Int32) (h0 : Heap) (n0 : Nat) (Ol : Old Z n0 h0) (HF_ad1_Domains_lower : Fld Z h0 ad1 "com/example/monarc/monarc/Domains" "lower" "[I" (.ref ad7)) (HV_ad7 : Arv Z h0 ad7 kc3 .int (2 : Int32) [(.int iv4), (.int (0 : Int32))] (.int (0 : Int32))) (as0 : iv1 < (0 : Int32)) :
    MetFree l y_33 (head1 (Jvm.Cond.code y_33 prog_11_method_8_code 3 (some .boolean) :: ws) ({ frames := 0, cells := 0, slots := 0, locals := 0 } : Room)) (fun a_ U_ => a_ = #[(.ref ad1), (.int (1 : Int32)), (.int iv1)] ∧ Z.Warmed39 U_.vm ∧ U_.heap = h0) (fun _ _ _ _ _ => True) (fun _ U_ o_ V_ => ∃ v_ L_, o_ = .returned v_ ∧ Q_am33_4 Z a_EMPTY_ELEMENTDATA aw0 ka_EMPTY_ELEMENTDATA kaw0 ad1 iv1 ad7 kc3 iv4 h0 n0 v_ V_.heap L_ ∧ FrameEnd U_ o_ V_ L_ ({ frames := 0, cells := 0, slots := 0, locals := 0 } : Room).cells ({ frames := 0, cells := 0, slots := 0, locals := 0 } : Room).slots) := by
  refine MetFree.of_bodySF (plainFor_of_name pn_8) hisR ?_
  intro p e s m args below meth c s₁ Bd hml0 hP hK
  obtain ⟨rfl, hZ, hh⟩ := hP
  have hx := Bd.exec
  have hby := Bd.bytes
  have hml : c.maxLocals = 3 := hml0
  have hown : s.vm.findClass "com/example/monarc/monarc/Domains" = some m.cls := findClass_of_methodNamed Bd.named
  have hnm := (name_of_methodNamed Bd.named Bd.method).1
  have X0 : Stand p l e ({ frames := 0, cells := 0, slots := 0, locals := 0 } : Room) s m #[(.ref ad1), (.int (1 : Int32)), (.int iv1)] below meth c s₁ [] 0 0 := Stand.of_body Bd
  have e0 : s₁.heap = h0 := by rw [← hh, Bd.state]; rfl
  have N0 := Fr.nil n0
  have kp0 := Keep.refl h0 []
  show Go p e below (Fin1 s below (Q_am33_4 Z a_EMPTY_ELEMENTDATA aw0 ka_EMPTY_ELEMENTDATA kaw0 ad1 iv1 ad7 kc3 iv4 h0 n0) ({ frames := 0, cells := 0, slots := 0, locals := 0 } : Room).cells ({ frames := 0, cells := 0, slots := 0, locals := 0 } : Room).slots) _
  refine Go.step (fun t_ k_ => castTop (ef_am33_4 m ad1 (1 : Int32) iv1) k_) ?_
  obtain ⟨Ea_EMPTY_ELEMENTDATA, Sa_EMPTY_ELEMENTDATA, Eaw0, Saw0, Aa_EMPTY_ELEMENTDATA, Aaw0⟩ := id HW
  show Go p e below _ (s₁.setTop (mkF m 0 #[.val (.ref ad1), .val (.int (1 : Int32)), .val (.int iv1)] []))
  refine gs.aloadN X0.here hx (hb hby d33_0) rfl rfl ?_
  refine gs.getF X0 hx hZ hown (wd hw 127 rfl) Via.refl e0 HF_ad1_Domains_lower (hb hby d33_1) fun T1 X1 e1 => ?_
  refine gs.iloadN X1.here hx (hb hby d33_4) rfl ?_
  obtain ⟨cl2, Ar2, q2, Sz2, Ng2, Hs2, G2⟩ := id HV_ad7
  have hin2 : ¬ ((1 : Int32) < 0 ∨ cl2.slots.size ≤ ((1 : Int32)).toNatClampNeg) := inb_of Sz2 ⟨by decide, by decide⟩
  have hat2 : cl2.slots[((1 : Int32)).toNatClampNeg]? = some (.int (0 : Int32)) := Has.at Hs2 hin2 rfl
  refine Go.step (fun t_ k_ => X1.iaload hx (j := (1 : Int32)) (v := (.int (0 : Int32))) (by rw [e1]; exact Ar2.1) (State.isArrayOf_alike hZ.alike Ar2.2.1) Ar2.2.2 hin2 hat2 (g := (mkF m 5 #[.val (.ref ad1), .val (.int (1 : Int32)), .val (.int iv1)] [(.int (1 : Int32)), (.ref ad7)])) rfl rfl (hb hby d33_5) _ k_) ?_
  show Go p e below _ (T1.setTop (mkF m 6 #[.val (.ref ad1), .val (.int (1 : Int32)), .val (.int iv1)] [(.int (0 : Int32))]))
  refine gs.iloadN X1.here hx (hb hby d33_6) rfl ?_
  have hc7 : iv1 < (0 : Int32) := as0
  refine gs.icmpYes 53 X1.here hx (hb hby d33_7) (tlt hc7).2.2.1 rfl ?_
  refine gs.iconst 0 X1.here hx (hb hby d33_53) rfl ?_
  refine Go.retZ X1 hx (t := .boolean) Bd.returns (by simp) Bd.notSynchronized (hb hby d33_54) (by rw [e1]; exact ⟨rfl, N0, rfl⟩) (by decide) (by decide)
theorem ef_am33_5 (m : MethodId) (x0 : Addr) (x1 : Int32) (x2 : Int32)  : entryFrame m #[(.ref x0), (.int x1), (.int x2)] 3 = mkF m 0 #[.val (.ref x0), .val (.int x1), .val (.int x2)] [] := by first | (simp [entryFrame, mkF, argsToLocals, Value.category]; done) | rfl
def Q_am33_5 (Z : State) (a_EMPTY_ELEMENTDATA : Addr) (aw0 : Addr) (ka_EMPTY_ELEMENTDATA : ClassId) (kaw0 : ClassId) (ad1 : Addr) (iv1 : Int32) (ad7 : Addr) (ad8 : Addr) (kc3 : ClassId) (iv4 : Int32) (kc6 : ClassId) (iv6 : Int32) (h0 : Heap) (n0 : Nat) (v : Option Value) (h : Heap) (L : List Loc) : Prop := v = some (.int (0 : Int32)) ∧ Fr n0 L ∧ h = h0
set_option maxRecDepth 65536 in
set_option maxHeartbeats 40000000 in
theorem am33_5 (l : Launch) (Z : State) (a0 : Array Value) (hw : ∀ d ∈ tables_1, d.before a0 Z = true) (ws : List Jvm.Cond) (a_EMPTY_ELEMENTDATA : Addr) (aw0 : Addr) (ka_EMPTY_ELEMENTDATA : ClassId) (kaw0 : ClassId) (HW : Wd Z a_EMPTY_ELEMENTDATA aw0 ka_EMPTY_ELEMENTDATA kaw0) (ad1 : Addr) (iv1 : Int32) (ad7 : Addr) (ad8 : Addr) (kc3 : ClassId) (iv4 : Int32) (kc6 : ClassId) (iv6 : Int32) (h0 : Heap) (n0 : Nat) (Ol : Old Z n0 h0) (HF_ad1_Domains_lower : Fld Z h0 ad1 "com/example/monarc/monarc/Domains" "lower" "[I" (.ref ad7)) (HF_ad1_Domains_upper : Fld Z h0 ad1 "com/example/monarc/monarc/Domains" "upper" "[I" (.ref ad8)) (HV_ad7 : Arv Z h0 ad7 kc3 .int (2 : Int32) [(.int iv4), (.int (0 : Int32))] (.int (0 : Int32))) (HV_ad8 : Arv Z h0 ad8 kc6 .int (2 : Int32) [(.int iv6), (.int (99 : Int32))] (.int (0 : Int32))) (as0 : (99 : Int32) < iv1) (as1 : ¬ (iv1 < (0 : Int32))) :
    MetFree l y_33 (head1 (Jvm.Cond.code y_33 prog_11_method_8_code 3 (some .boolean) :: ws) ({ frames := 0, cells := 0, slots := 0, locals := 0 } : Room)) (fun a_ U_ => a_ = #[(.ref ad1), (.int (1 : Int32)), (.int iv1)] ∧ Z.Warmed39 U_.vm ∧ U_.heap = h0) (fun _ _ _ _ _ => True) (fun _ U_ o_ V_ => ∃ v_ L_, o_ = .returned v_ ∧ Q_am33_5 Z a_EMPTY_ELEMENTDATA aw0 ka_EMPTY_ELEMENTDATA kaw0 ad1 iv1 ad7 ad8 kc3 iv4 kc6 iv6 h0 n0 v_ V_.heap L_ ∧ FrameEnd U_ o_ V_ L_ ({ frames := 0, cells := 0, slots := 0, locals := 0 } : Room).cells ({ frames := 0, cells := 0, slots := 0, locals := 0 } : Room).slots) := by
  refine MetFree.of_bodySF (plainFor_of_name pn_8) hisR ?_
  intro p e s m args below meth c s₁ Bd hml0 hP hK
  obtain ⟨rfl, hZ, hh⟩ := hP
  have hx := Bd.exec
  have hby := Bd.bytes
  have hml : c.maxLocals = 3 := hml0
  have hown : s.vm.findClass "com/example/monarc/monarc/Domains" = some m.cls := findClass_of_methodNamed Bd.named
  have hnm := (name_of_methodNamed Bd.named Bd.method).1
  have X0 : Stand p l e ({ frames := 0, cells := 0, slots := 0, locals := 0 } : Room) s m #[(.ref ad1), (.int (1 : Int32)), (.int iv1)] below meth c s₁ [] 0 0 := Stand.of_body Bd
  have e0 : s₁.heap = h0 := by rw [← hh, Bd.state]; rfl
  have N0 := Fr.nil n0
  have kp0 := Keep.refl h0 []
  show Go p e below (Fin1 s below (Q_am33_5 Z a_EMPTY_ELEMENTDATA aw0 ka_EMPTY_ELEMENTDATA kaw0 ad1 iv1 ad7 ad8 kc3 iv4 kc6 iv6 h0 n0) ({ frames := 0, cells := 0, slots := 0, locals := 0 } : Room).cells ({ frames := 0, cells := 0, slots := 0, locals := 0 } : Room).slots) _
  refine Go.step (fun t_ k_ => castTop (ef_am33_5 m ad1 (1 : Int32) iv1) k_) ?_
  obtain ⟨Ea_EMPTY_ELEMENTDATA, Sa_EMPTY_ELEMENTDATA, Eaw0, Saw0, Aa_EMPTY_ELEMENTDATA, Aaw0⟩ := id HW
  show Go p e below _ (s₁.setTop (mkF m 0 #[.val (.ref ad1), .val (.int (1 : Int32)), .val (.int iv1)] []))
  refine gs.aloadN X0.here hx (hb hby d33_0) rfl rfl ?_
  refine gs.getF X0 hx hZ hown (wd hw 127 rfl) Via.refl e0 HF_ad1_Domains_lower (hb hby d33_1) fun T1 X1 e1 => ?_
  refine gs.iloadN X1.here hx (hb hby d33_4) rfl ?_
  obtain ⟨cl2, Ar2, q2, Sz2, Ng2, Hs2, G2⟩ := id HV_ad7
  have hin2 : ¬ ((1 : Int32) < 0 ∨ cl2.slots.size ≤ ((1 : Int32)).toNatClampNeg) := inb_of Sz2 ⟨by decide, by decide⟩
  have hat2 : cl2.slots[((1 : Int32)).toNatClampNeg]? = some (.int (0 : Int32)) := Has.at Hs2 hin2 rfl
  refine Go.step (fun t_ k_ => X1.iaload hx (j := (1 : Int32)) (v := (.int (0 : Int32))) (by rw [e1]; exact Ar2.1) (State.isArrayOf_alike hZ.alike Ar2.2.1) Ar2.2.2 hin2 hat2 (g := (mkF m 5 #[.val (.ref ad1), .val (.int (1 : Int32)), .val (.int iv1)] [(.int (1 : Int32)), (.ref ad7)])) rfl rfl (hb hby d33_5) _ k_) ?_
  show Go p e below _ (T1.setTop (mkF m 6 #[.val (.ref ad1), .val (.int (1 : Int32)), .val (.int iv1)] [(.int (0 : Int32))]))
  refine gs.iloadN X1.here hx (hb hby d33_6) rfl ?_
  have hc7 : ¬ (iv1 < (0 : Int32)) := as1
  refine gs.icmpNo X1.here hx (hb hby d33_7) (flt hc7).2.2.1 ?_
  refine gs.iloadN X1.here hx (hb hby d33_10) rfl ?_
  refine gs.aloadN X1.here hx (hb hby d33_11) rfl rfl ?_
  refine gs.getF X1 hx hZ hown (wd hw 129 rfl) Via.refl e1 HF_ad1_Domains_upper (hb hby d33_12) fun T3 X3 e3 => ?_
  refine gs.iloadN X3.here hx (hb hby d33_15) rfl ?_
  obtain ⟨cl4, Ar4, q4, Sz4, Ng4, Hs4, G4⟩ := id HV_ad8
  have hin4 : ¬ ((1 : Int32) < 0 ∨ cl4.slots.size ≤ ((1 : Int32)).toNatClampNeg) := inb_of Sz4 ⟨by decide, by decide⟩
  have hat4 : cl4.slots[((1 : Int32)).toNatClampNeg]? = some (.int (99 : Int32)) := Has.at Hs4 hin4 rfl
  refine Go.step (fun t_ k_ => X3.iaload hx (j := (1 : Int32)) (v := (.int (99 : Int32))) (by rw [e3]; exact Ar4.1) (State.isArrayOf_alike hZ.alike Ar4.2.1) Ar4.2.2 hin4 hat4 (g := (mkF m 16 #[.val (.ref ad1), .val (.int (1 : Int32)), .val (.int iv1)] [(.int (1 : Int32)), (.ref ad8), (.int iv1)])) rfl rfl (hb hby d33_16) _ k_) ?_
  show Go p e below _ (T3.setTop (mkF m 17 #[.val (.ref ad1), .val (.int (1 : Int32)), .val (.int iv1)] [(.int (99 : Int32)), (.int iv1)]))
  have hc17 : (99 : Int32) < iv1 := as0
  refine gs.icmpYes 53 X3.here hx (hb hby d33_17) (tlt hc17).2.2.1 rfl ?_
  refine gs.iconst 0 X3.here hx (hb hby d33_53) rfl ?_
  refine Go.retZ X3 hx (t := .boolean) Bd.returns (by simp) Bd.notSynchronized (hb hby d33_54) (by rw [e3]; exact ⟨rfl, N0, rfl⟩) (by decide) (by decide)
theorem ef_am33_6 (m : MethodId) (x0 : Addr) (x1 : Int32) (x2 : Int32)  : entryFrame m #[(.ref x0), (.int x1), (.int x2)] 3 = mkF m 0 #[.val (.ref x0), .val (.int x1), .val (.int x2)] [] := by first | (simp [entryFrame, mkF, argsToLocals, Value.category]; done) | rfl
def Q_am33_6 (Z : State) (a_EMPTY_ELEMENTDATA : Addr) (aw0 : Addr) (ka_EMPTY_ELEMENTDATA : ClassId) (kaw0 : ClassId) (ad1 : Addr) (iv1 : Int32) (ad7 : Addr) (ad8 : Addr) (ad9 : Addr) (kc1 : ClassId) (kc3 : ClassId) (iv4 : Int32) (kc6 : ClassId) (iv6 : Int32) (h0 : Heap) (n0 : Nat) (v : Option Value) (h : Heap) (L : List Loc) : Prop := v = some (.int (1 : Int32)) ∧ Fr n0 L ∧ h = h0
set_option maxRecDepth 65536 in
set_option maxHeartbeats 40000000 in
theorem am33_6 (l : Launch) (Z : State) (a0 : Array Value) (hw : ∀ d ∈ tables_1, d.before a0 Z = true) (ws : List Jvm.Cond) (a_EMPTY_ELEMENTDATA : Addr) (aw0 : Addr) (ka_EMPTY_ELEMENTDATA : ClassId) (kaw0 : ClassId) (HW : Wd Z a_EMPTY_ELEMENTDATA aw0 ka_EMPTY_ELEMENTDATA kaw0) (ad1 : Addr) (iv1 : Int32) (ad7 : Addr) (ad8 : Addr) (ad9 : Addr) (kc1 : ClassId) (kc3 : ClassId) (iv4 : Int32) (kc6 : ClassId) (iv6 : Int32) (h0 : Heap) (n0 : Nat) (Ol : Old Z n0 h0) (HF_ad1_Domains_lower : Fld Z h0 ad1 "com/example/monarc/monarc/Domains" "lower" "[I" (.ref ad7)) (HF_ad1_Domains_upper : Fld Z h0 ad1 "com/example/monarc/monarc/Domains" "upper" "[I" (.ref ad8)) (HF_ad1_Domains_holes : Fld Z h0 ad1 "com/example/monarc/monarc/Domains" "holes" "[[J" (.ref ad9)) (HV_ad9 : Arv Z h0 ad9 kc1 (.array .long) (2 : Int32) [.null, .null] .null) (HV_ad7 : Arv Z h0 ad7 kc3 .int (2 : Int32) [(.int iv4), (.int (0 : Int32))] (.int (0 : Int32))) (HV_ad8 : Arv Z h0 ad8 kc6 .int (2 : Int32) [(.int iv6), (.int (99 : Int32))] (.int (0 : Int32))) (as0 : ¬ ((99 : Int32) < iv1)) (as1 : ¬ (iv1 < (0 : Int32))) (hO_ad9 : OvrA Z kc1 .long "[J") :
    MetFree l y_33 (head1 (Jvm.Cond.code y_33 prog_11_method_8_code 3 (some .boolean) :: ws) ({ frames := 0, cells := 0, slots := 0, locals := 0 } : Room)) (fun a_ U_ => a_ = #[(.ref ad1), (.int (1 : Int32)), (.int iv1)] ∧ Z.Warmed39 U_.vm ∧ U_.heap = h0) (fun _ _ _ _ _ => True) (fun _ U_ o_ V_ => ∃ v_ L_, o_ = .returned v_ ∧ Q_am33_6 Z a_EMPTY_ELEMENTDATA aw0 ka_EMPTY_ELEMENTDATA kaw0 ad1 iv1 ad7 ad8 ad9 kc1 kc3 iv4 kc6 iv6 h0 n0 v_ V_.heap L_ ∧ FrameEnd U_ o_ V_ L_ ({ frames := 0, cells := 0, slots := 0, locals := 0 } : Room).cells ({ frames := 0, cells := 0, slots := 0, locals := 0 } : Room).slots) := by
  refine MetFree.of_bodySF (plainFor_of_name pn_8) hisR ?_
  intro p e s m args below meth c s₁ Bd hml0 hP hK
  obtain ⟨rfl, hZ, hh⟩ := hP
  have hx := Bd.exec
  have hby := Bd.bytes
  have hml : c.maxLocals = 3 := hml0
  have hown : s.vm.findClass "com/example/monarc/monarc/Domains" = some m.cls := findClass_of_methodNamed Bd.named
  have hnm := (name_of_methodNamed Bd.named Bd.method).1
  have X0 : Stand p l e ({ frames := 0, cells := 0, slots := 0, locals := 0 } : Room) s m #[(.ref ad1), (.int (1 : Int32)), (.int iv1)] below meth c s₁ [] 0 0 := Stand.of_body Bd
  have e0 : s₁.heap = h0 := by rw [← hh, Bd.state]; rfl
  have N0 := Fr.nil n0
  have kp0 := Keep.refl h0 []
  show Go p e below (Fin1 s below (Q_am33_6 Z a_EMPTY_ELEMENTDATA aw0 ka_EMPTY_ELEMENTDATA kaw0 ad1 iv1 ad7 ad8 ad9 kc1 kc3 iv4 kc6 iv6 h0 n0) ({ frames := 0, cells := 0, slots := 0, locals := 0 } : Room).cells ({ frames := 0, cells := 0, slots := 0, locals := 0 } : Room).slots) _
  refine Go.step (fun t_ k_ => castTop (ef_am33_6 m ad1 (1 : Int32) iv1) k_) ?_
  obtain ⟨Ea_EMPTY_ELEMENTDATA, Sa_EMPTY_ELEMENTDATA, Eaw0, Saw0, Aa_EMPTY_ELEMENTDATA, Aaw0⟩ := id HW
  show Go p e below _ (s₁.setTop (mkF m 0 #[.val (.ref ad1), .val (.int (1 : Int32)), .val (.int iv1)] []))
  refine gs.aloadN X0.here hx (hb hby d33_0) rfl rfl ?_
  refine gs.getF X0 hx hZ hown (wd hw 127 rfl) Via.refl e0 HF_ad1_Domains_lower (hb hby d33_1) fun T1 X1 e1 => ?_
  refine gs.iloadN X1.here hx (hb hby d33_4) rfl ?_
  obtain ⟨cl2, Ar2, q2, Sz2, Ng2, Hs2, G2⟩ := id HV_ad7
  have hin2 : ¬ ((1 : Int32) < 0 ∨ cl2.slots.size ≤ ((1 : Int32)).toNatClampNeg) := inb_of Sz2 ⟨by decide, by decide⟩
  have hat2 : cl2.slots[((1 : Int32)).toNatClampNeg]? = some (.int (0 : Int32)) := Has.at Hs2 hin2 rfl
  refine Go.step (fun t_ k_ => X1.iaload hx (j := (1 : Int32)) (v := (.int (0 : Int32))) (by rw [e1]; exact Ar2.1) (State.isArrayOf_alike hZ.alike Ar2.2.1) Ar2.2.2 hin2 hat2 (g := (mkF m 5 #[.val (.ref ad1), .val (.int (1 : Int32)), .val (.int iv1)] [(.int (1 : Int32)), (.ref ad7)])) rfl rfl (hb hby d33_5) _ k_) ?_
  show Go p e below _ (T1.setTop (mkF m 6 #[.val (.ref ad1), .val (.int (1 : Int32)), .val (.int iv1)] [(.int (0 : Int32))]))
  refine gs.iloadN X1.here hx (hb hby d33_6) rfl ?_
  have hc7 : ¬ (iv1 < (0 : Int32)) := as1
  refine gs.icmpNo X1.here hx (hb hby d33_7) (flt hc7).2.2.1 ?_
  refine gs.iloadN X1.here hx (hb hby d33_10) rfl ?_
  refine gs.aloadN X1.here hx (hb hby d33_11) rfl rfl ?_
  refine gs.getF X1 hx hZ hown (wd hw 129 rfl) Via.refl e1 HF_ad1_Domains_upper (hb hby d33_12) fun T3 X3 e3 => ?_
  refine gs.iloadN X3.here hx (hb hby d33_15) rfl ?_
  obtain ⟨cl4, Ar4, q4, Sz4, Ng4, Hs4, G4⟩ := id HV_ad8
  have hin4 : ¬ ((1 : Int32) < 0 ∨ cl4.slots.size ≤ ((1 : Int32)).toNatClampNeg) := inb_of Sz4 ⟨by decide, by decide⟩
  have hat4 : cl4.slots[((1 : Int32)).toNatClampNeg]? = some (.int (99 : Int32)) := Has.at Hs4 hin4 rfl
  refine Go.step (fun t_ k_ => X3.iaload hx (j := (1 : Int32)) (v := (.int (99 : Int32))) (by rw [e3]; exact Ar4.1) (State.isArrayOf_alike hZ.alike Ar4.2.1) Ar4.2.2 hin4 hat4 (g := (mkF m 16 #[.val (.ref ad1), .val (.int (1 : Int32)), .val (.int iv1)] [(.int (1 : Int32)), (.ref ad8), (.int iv1)])) rfl rfl (hb hby d33_16) _ k_) ?_
  show Go p e below _ (T3.setTop (mkF m 17 #[.val (.ref ad1), .val (.int (1 : Int32)), .val (.int iv1)] [(.int (99 : Int32)), (.int iv1)]))
  have hc17 : ¬ ((99 : Int32) < iv1) := as0
  refine gs.icmpNo X3.here hx (hb hby d33_17) (flt hc17).2.2.1 ?_
  refine gs.aloadN X3.here hx (hb hby d33_20) rfl rfl ?_
  refine gs.getF X3 hx hZ hown (wd hw 133 rfl) Via.refl e3 HF_ad1_Domains_holes (hb hby d33_21) fun T5 X5 e5 => ?_
  refine gs.iloadN X5.here hx (hb hby d33_24) rfl ?_
  obtain ⟨cl6, Ar6, q6, Sz6, Ng6, Hs6, G6⟩ := id HV_ad9
  have hin6 : ¬ ((1 : Int32) < 0 ∨ cl6.slots.size ≤ ((1 : Int32)).toNatClampNeg) := inb_of Sz6 ⟨by decide, by decide⟩
  have hat6 : cl6.slots[((1 : Int32)).toNatClampNeg]? = some .null := Has.at Hs6 hin6 rfl
  refine Go.step (fun t_ k_ => X5.aaload hx (j := (1 : Int32)) (v := .null) (by rw [e5]; exact Ar6.1) (State.isArrayOf_alike hZ.alike Ar6.2.1) rfl Ar6.2.2 hin6 hat6 (g := (mkF m 25 #[.val (.ref ad1), .val (.int (1 : Int32)), .val (.int iv1)] [(.int (1 : Int32)), (.ref ad9)])) rfl rfl (hb hby d33_25) _ k_) ?_
  show Go p e below _ (T5.setTop (mkF m 26 #[.val (.ref ad1), .val (.int (1 : Int32)), .val (.int iv1)] [.null]))
  refine Go.step (fun t_ k_ => XS.ifnullYes X5.here hx rfl (pc0 := 26) (pc' := 49) rfl (hb hby d33_26) rfl (by decide) (by decide) k_) ?_
  show Go p e below _ (T5.setTop (mkF m 49 #[.val (.ref ad1), .val (.int (1 : Int32)), .val (.int iv1)] []))
  refine gs.iconst 1 X5.here hx (hb hby d33_49) rfl ?_
  refine gs.goto 54 X5.here hx (hb hby d33_50) rfl ?_
  refine Go.retZ X5 hx (t := .boolean) Bd.returns (by simp) Bd.notSynchronized (hb hby d33_54) (by rw [e5]; exact ⟨rfl, N0, rfl⟩) (by decide) (by decide)
theorem d36_0 : decode prog_11_method_19_code 0 = .ok (.iload_n 2, 1) := by decide +kernel
theorem d36_1 : decode prog_11_method_19_code 1 = .ok (.aload_n 0, 1) := by decide +kernel
theorem d36_2 : decode prog_11_method_19_code 2 = .ok (.getfield 29, 3) := by decide +kernel
theorem d36_5 : decode prog_11_method_19_code 5 = .ok (.iload_n 1, 1) := by decide +kernel
theorem d36_6 : decode prog_11_method_19_code 6 = .ok (.iaload, 1) := by decide +kernel
theorem d36_7 : decode prog_11_method_19_code 7 = .ok (.if_icmp .ne 14, 3) := by decide +kernel
theorem d36_21 : decode prog_11_method_19_code 21 = .ok (.iload_n 2, 1) := by decide +kernel
theorem d36_22 : decode prog_11_method_19_code 22 = .ok (.aload_n 0, 1) := by decide +kernel
theorem d36_23 : decode prog_11_method_19_code 23 = .ok (.getfield 32, 3) := by decide +kernel
theorem d36_26 : decode prog_11_method_19_code 26 = .ok (.iload_n 1, 1) := by decide +kernel
theorem d36_27 : decode prog_11_method_19_code 27 = .ok (.iaload, 1) := by decide +kernel
theorem d36_28 : decode prog_11_method_19_code 28 = .ok (.if_icmp .ne 14, 3) := by decide +kernel
theorem d36_42 : decode prog_11_method_19_code 42 = .ok (.aload_n 0, 1) := by decide +kernel
theorem d36_43 : decode prog_11_method_19_code 43 = .ok (.getfield 36, 3) := by decide +kernel
theorem d36_46 : decode prog_11_method_19_code 46 = .ok (.iload_n 1, 1) := by decide +kernel
theorem d36_47 : decode prog_11_method_19_code 47 = .ok (.aaload, 1) := by decide +kernel
theorem d36_48 : decode prog_11_method_19_code 48 = .ok (.ifnonnull 38, 3) := by decide +kernel
theorem d36_51 : decode prog_11_method_19_code 51 = .ok (.aload_n 0, 1) := by decide +kernel
theorem d36_52 : decode prog_11_method_19_code 52 = .ok (.getfield 36, 3) := by decide +kernel
theorem d36_55 : decode prog_11_method_19_code 55 = .ok (.iload_n 1, 1) := by decide +kernel
theorem d36_56 : decode prog_11_method_19_code 56 = .ok (.aload_n 0, 1) := by decide +kernel
theorem d36_57 : decode prog_11_method_19_code 57 = .ok (.getfield 25, 3) := by decide +kernel
theorem d36_60 : decode prog_11_method_19_code 60 = .ok (.iload_n 1, 1) := by decide +kernel
theorem d36_61 : decode prog_11_method_19_code 61 = .ok (.aaload, 1) := by decide +kernel
theorem d36_62 : decode prog_11_method_19_code 62 = .ok (.invokevirtual 53, 3) := by decide +kernel
theorem d36_65 : decode prog_11_method_19_code 65 = .ok (.bipush 63, 2) := by decide +kernel
theorem d36_67 : decode prog_11_method_19_code 67 = .ok (.iadd, 1) := by decide +kernel
theorem d36_68 : decode prog_11_method_19_code 68 = .ok (.bipush 6, 2) := by decide +kernel
theorem d36_70 : decode prog_11_method_19_code 70 = .ok (.iushr, 1) := by decide +kernel
theorem d36_71 : decode prog_11_method_19_code 71 = .ok (.newarray .long, 2) := by decide +kernel
theorem d36_73 : decode prog_11_method_19_code 73 = .ok (.aastore, 1) := by decide +kernel
theorem d36_74 : decode prog_11_method_19_code 74 = .ok (.aload_n 0, 1) := by decide +kernel
theorem d36_75 : decode prog_11_method_19_code 75 = .ok (.getfield 36, 3) := by decide +kernel
theorem d36_78 : decode prog_11_method_19_code 78 = .ok (.iload_n 1, 1) := by decide +kernel
theorem d36_79 : decode prog_11_method_19_code 79 = .ok (.aaload, 1) := by decide +kernel
theorem d36_80 : decode prog_11_method_19_code 80 = .ok (.ldc2_w 82, 3) := by decide +kernel
theorem d36_83 : decode prog_11_method_19_code 83 = .ok (.invokestatic 124, 3) := by decide +kernel
theorem d37_0 : decode jdk_65_method_101_code 0 = .ok (.iconst 0, 1) := by decide +kernel
theorem d37_1 : decode jdk_65_method_101_code 1 = .ok (.istore_n 3, 1) := by decide +kernel
theorem d37_2 : decode jdk_65_method_101_code 2 = .ok (.aload_n 0, 1) := by decide +kernel
theorem d37_3 : decode jdk_65_method_101_code 3 = .ok (.arraylength, 1) := by decide +kernel
theorem d37_4 : decode jdk_65_method_101_code 4 = .ok (.istore 4, 2) := by decide +kernel
theorem d37_6 : decode jdk_65_method_101_code 6 = .ok (.iload_n 3, 1) := by decide +kernel
theorem d37_7 : decode jdk_65_method_101_code 7 = .ok (.iload 4, 2) := by decide +kernel
theorem d37_9 : decode jdk_65_method_101_code 9 = .ok (.if_icmp .ge 13, 3) := by decide +kernel
theorem d37_12 : decode jdk_65_method_101_code 12 = .ok (.aload_n 0, 1) := by decide +kernel
theorem d37_13 : decode jdk_65_method_101_code 13 = .ok (.iload_n 3, 1) := by decide +kernel
theorem d37_14 : decode jdk_65_method_101_code 14 = .ok (.lload_n 1, 1) := by decide +kernel
theorem d37_15 : decode jdk_65_method_101_code 15 = .ok (.lastore, 1) := by decide +kernel
theorem d37_16 : decode jdk_65_method_101_code 16 = .ok (.iinc 3 1, 3) := by decide +kernel
theorem d37_19 : decode jdk_65_method_101_code 19 = .ok (.goto (-13), 3) := by decide +kernel
theorem d37_22 : decode jdk_65_method_101_code 22 = .ok (.return_, 1) := by decide +kernel
theorem pn_9 : plainName "java/util/Arrays" = true := by first | (simp [plainName, overriddenIn]; done) | decide +kernel
theorem ef_am37_1 (m : MethodId) (x0 : Addr) (x1 : Int64)  : entryFrame m #[(.ref x0), (.long x1)] 5 = mkF m 0 #[.val (.ref x0), .val (.long x1), .second, .unset, .unset] [] := by first | (simp [entryFrame, mkF, argsToLocals, Value.category]; done) | rfl
def Q_am37_1 (Z : State) (a_EMPTY_ELEMENTDATA : Addr) (aw0 : Addr) (ka_EMPTY_ELEMENTDATA : ClassId) (kaw0 : ClassId) (ad1 : Addr) (kc1 : ClassId) (h0 : Heap) (n0 : Nat) (v : Option Value) (h : Heap) (L : List Loc) : Prop := v = none ∧ Fr n0 L ∧ Keep h0 h [ad1] ∧ (Exa Z h ad1 "[J") ∧ (Arv Z h ad1 kc1 .long (4 : Int32) [(.long (-1 : Int64)), (.long (-1 : Int64)), (.long (-1 : Int64)), (.long (-1 : Int64))] (.long (0 : Int64)))
set_option maxRecDepth 65536 in
set_option maxHeartbeats 40000000 in
theorem am37_1 (l : Launch) (Z : State) (a0 : Array Value) (hw : ∀ d ∈ tables_1, d.before a0 Z = true) (ws : List Jvm.Cond) (a_EMPTY_ELEMENTDATA : Addr) (aw0 : Addr) (ka_EMPTY_ELEMENTDATA : ClassId) (kaw0 : ClassId) (HW : Wd Z a_EMPTY_ELEMENTDATA aw0 ka_EMPTY_ELEMENTDATA kaw0) (ad1 : Addr) (kc1 : ClassId) (h0 : Heap) (n0 : Nat) (Ol : Old Z n0 h0) (HE_ad1 : Exa Z h0 ad1 "[J") (HV_ad1 : Arv Z h0 ad1 kc1 .long (4 : Int32) [(.long (0 : Int64)), (.long (0 : Int64)), (.long (0 : Int64)), (.long (0 : Int64))] (.long (0 : Int64))) (nn_ad1 : n0 ≤ ad1) :
    MetFree l y_37 (head1 (Jvm.Cond.code y_37 jdk_65_method_101_code 5 none :: ws) ({ frames := 0, cells := 0, slots := 0, locals := 0 } : Room)) (fun a_ U_ => a_ = #[(.ref ad1), (.long (-1 : Int64))] ∧ Z.Warmed39 U_.vm ∧ U_.heap = h0) (fun _ _ _ _ _ => True) (fun _ U_ o_ V_ => ∃ v_ L_, o_ = .returned v_ ∧ Q_am37_1 Z a_EMPTY_ELEMENTDATA aw0 ka_EMPTY_ELEMENTDATA kaw0 ad1 kc1 h0 n0 v_ V_.heap L_ ∧ FrameEnd U_ o_ V_ L_ ({ frames := 0, cells := 0, slots := 0, locals := 0 } : Room).cells ({ frames := 0, cells := 0, slots := 0, locals := 0 } : Room).slots) := by
  refine MetFree.of_bodySF (plainFor_of_name pn_9) hisR ?_
  intro p e s m args below meth c s₁ Bd hml0 hP hK
  obtain ⟨rfl, hZ, hh⟩ := hP
  have hx := Bd.exec
  have hby := Bd.bytes
  have hml : c.maxLocals = 5 := hml0
  have hown : s.vm.findClass "java/util/Arrays" = some m.cls := findClass_of_methodNamed Bd.named
  have hnm := (name_of_methodNamed Bd.named Bd.method).1
  have X0 : Stand p l e ({ frames := 0, cells := 0, slots := 0, locals := 0 } : Room) s m #[(.ref ad1), (.long (-1 : Int64))] below meth c s₁ [] 0 0 := Stand.of_body Bd
  have e0 : s₁.heap = h0 := by rw [← hh, Bd.state]; rfl
  have N0 := Fr.nil n0
  have kp0 := Keep.refl h0 [ad1]
  show Go p e below (Fin1 s below (Q_am37_1 Z a_EMPTY_ELEMENTDATA aw0 ka_EMPTY_ELEMENTDATA kaw0 ad1 kc1 h0 n0) ({ frames := 0, cells := 0, slots := 0, locals := 0 } : Room).cells ({ frames := 0, cells := 0, slots := 0, locals := 0 } : Room).slots) _
  refine Go.step (fun t_ k_ => castTop (ef_am37_1 m ad1 (-1 : Int64)) k_) ?_
  obtain ⟨Ea_EMPTY_ELEMENTDATA, Sa_EMPTY_ELEMENTDATA, Eaw0, Saw0, Aa_EMPTY_ELEMENTDATA, Aaw0⟩ := id HW
  show Go p e below _ (s₁.setTop (mkF m 0 #[.val (.ref ad1), .val (.long (-1 : Int64)), .second, .unset, .unset] []))
  refine gs.iconst 0 X0.here hx (hb hby d37_0) rfl ?_
  refine gs.istoreN X0.here hx (hb hby d37_1) (l' := #[.val (.ref ad1), .val (.long (-1 : Int64)), .second, .val (.int (0 : Int32)), .unset]) rfl ?_
  refine gs.aloadN X0.here hx (hb hby d37_2) rfl rfl ?_
  obtain ⟨cl1, Ar1, -, Sz1, Ng1, -, -⟩ := id HV_ad1
  refine Go.step (fun t_ k_ => X0.arraylength hx (by rw [e0]; exact Ar1.1) (State.isArrayOf_alike hZ.alike Ar1.2.1) (g := (mkF m 3 #[.val (.ref ad1), .val (.long (-1 : Int64)), .second, .val (.int (0 : Int32)), .unset] [(.ref ad1)])) rfl rfl (hb hby d37_3) _ k_) ?_
  rw [len_of Sz1 Ng1]
  show Go p e below _ (s₁.setTop (mkF m 4 #[.val (.ref ad1), .val (.long (-1 : Int64)), .second, .val (.int (0 : Int32)), .unset] [(.int (4 : Int32))]))
  refine gs.istore X0.here hx (hb hby d37_4) (l' := #[.val (.ref ad1), .val (.long (-1 : Int64)), .second, .val (.int (0 : Int32)), .val (.int (4 : Int32))]) rfl ?_
  refine gs.iloadN X0.here hx (hb hby d37_6) rfl ?_
  refine gs.iload X0.here hx (hb hby d37_7) rfl ?_
  have hc9 : (0 : Int32) < (4 : Int32) := by decide
  refine gs.icmpNo X0.here hx (hb hby d37_9) (tlt hc9).2.1 ?_
  refine gs.aloadN X0.here hx (hb hby d37_12) rfl rfl ?_
  refine gs.iloadN X0.here hx (hb hby d37_13) rfl ?_
  refine gs.lloadN X0.here hx (hb hby d37_14) rfl ?_
  show Go p e below _ (s₁.setTop (mkF m 15 _ _))
  obtain ⟨cl2, Ar2, q2, Sz2, Ng2, Hs2, G2⟩ := id HV_ad1
  have hin2 : ¬ ((0 : Int32) < 0 ∨ cl2.slots.size ≤ ((0 : Int32)).toNatClampNeg) := inb_of Sz2 ⟨by decide, by decide⟩
  obtain ⟨T3, h3, X3, e3, W3, st3⟩ := stJ X0 hx hZ e0 Ar2 (j := (0 : Int32)) hin2 (g := (mkF m 15 #[.val (.ref ad1), .val (.long (-1 : Int64)), .second, .val (.int (0 : Int32)), .val (.int (4 : Int32))] [(.long (-1 : Int64)), (.int (0 : Int32)), (.ref ad1)])) rfl rfl (hb hby d37_15)
  have N3 := Fr.snoc X3 N0 nn_ad1
  have old3 := Ol.wr W3 nn_ad1
  have kp3 := kp0.wr W3 (Or.inl (List.mem_of_getElem? (i := 0) rfl))
  have V3 : Arv Z h3 ad1 kc1 .long (4 : Int32) [(.long (-1 : Int64)), (.long (0 : Int64)), (.long (0 : Int64)), (.long (0 : Int64))] (.long (0 : Int64)) := Arv.set Ar2 q2 Sz2 Ng2 Hs2 G2 rfl W3 0 rfl (Nat.le_of_ble_eq_true rfl)
  refine Go.step st3 ?_
  show Go p e below _ (T3.setTop (mkF m 16 #[.val (.ref ad1), .val (.long (-1 : Int64)), .second, .val (.int (0 : Int32)), .val (.int (4 : Int32))] []))
  refine Go.step (fun t_ k_ => XS.iinc X3.here hx rfl (hb hby d37_16) rfl (l' := #[.val (.ref ad1), .val (.long (-1 : Int64)), .second, .val (.int ((0 : Int32) + (1 : Int32))), .val (.int (4 : Int32))]) rfl k_) ?_
  show Go p e below _ (T3.setTop (mkF m 19 #[.val (.ref ad1), .val (.long (-1 : Int64)), .second, .val (.int ((0 : Int32) + (1 : Int32))), .val (.int (4 : Int32))] []))
  rw [show ((0 : Int32) + (1 : Int32)) = (1 : Int32) from by decide]
  refine gs.goto 6 X3.here hx (hb hby d37_19) rfl ?_
  refine gs.iloadN X3.here hx (hb hby d37_6) rfl ?_
  refine gs.iload X3.here hx (hb hby d37_7) rfl ?_
  have hc9_2 : (1 : Int32) < (4 : Int32) := by decide
  refine gs.icmpNo X3.here hx (hb hby d37_9) (tlt hc9_2).2.1 ?_
  refine gs.aloadN X3.here hx (hb hby d37_12) rfl rfl ?_
  refine gs.iloadN X3.here hx (hb hby d37_13) rfl ?_
  refine gs.lloadN X3.here hx (hb hby d37_14) rfl ?_
  obtain ⟨cl4, Ar4, q4, Sz4, Ng4, Hs4, G4⟩ := id V3
  have hin4 : ¬ ((1 : Int32) < 0 ∨ cl4.slots.size ≤ ((1 : Int32)).toNatClampNeg) := inb_of Sz4 ⟨by decide, by decide⟩
  obtain ⟨T5, h5, X5, e5, W5, st5⟩ := stJ X3 hx hZ e3 Ar4 (j := (1 : Int32)) hin4 (g := (mkF m 15 #[.val (.ref ad1), .val (.long (-1 : Int64)), .second, .val (.int (1 : Int32)), .val (.int (4 : Int32))] [(.long (-1 : Int64)), (.int (1 : Int32)), (.ref ad1)])) rfl rfl (hb hby d37_15)
  have N5 := Fr.snoc X5 N3 nn_ad1
  have old5 := old3.wr W5 nn_ad1
  have kp5 := kp3.wr W5 (Or.inl (List.mem_of_getElem? (i := 0) rfl))
  have V5 : Arv Z h5 ad1 kc1 .long (4 : Int32) [(.long (-1 : Int64)), (.long (-1 : Int64)), (.long (0 : Int64)), (.long (0 : Int64))] (.long (0 : Int64)) := Arv.set Ar4 q4 Sz4 Ng4 Hs4 G4 rfl W5 1 rfl (Nat.le_of_ble_eq_true rfl)
  refine Go.step st5 ?_
  show Go p e below _ (T5.setTop (mkF m 16 #[.val (.ref ad1), .val (.long (-1 : Int64)), .second, .val (.int (1 : Int32)), .val (.int (4 : Int32))] []))
  refine Go.step (fun t_ k_ => XS.iinc X5.here hx rfl (hb hby d37_16) rfl (l' := #[.val (.ref ad1), .val (.long (-1 : Int64)), .second, .val (.int ((1 : Int32) + (1 : Int32))), .val (.int (4 : Int32))]) rfl k_) ?_
  show Go p e below _ (T5.setTop (mkF m 19 #[.val (.ref ad1), .val (.long (-1 : Int64)), .second, .val (.int ((1 : Int32) + (1 : Int32))), .val (.int (4 : Int32))] []))
  rw [show ((1 : Int32) + (1 : Int32)) = (2 : Int32) from by decide]
  refine gs.goto 6 X5.here hx (hb hby d37_19) rfl ?_
  refine gs.iloadN X5.here hx (hb hby d37_6) rfl ?_
  refine gs.iload X5.here hx (hb hby d37_7) rfl ?_
  have hc9_3 : (2 : Int32) < (4 : Int32) := by decide
  refine gs.icmpNo X5.here hx (hb hby d37_9) (tlt hc9_3).2.1 ?_
  refine gs.aloadN X5.here hx (hb hby d37_12) rfl rfl ?_
  refine gs.iloadN X5.here hx (hb hby d37_13) rfl ?_
  refine gs.lloadN X5.here hx (hb hby d37_14) rfl ?_
  obtain ⟨cl6, Ar6, q6, Sz6, Ng6, Hs6, G6⟩ := id V5
  have hin6 : ¬ ((2 : Int32) < 0 ∨ cl6.slots.size ≤ ((2 : Int32)).toNatClampNeg) := inb_of Sz6 ⟨by decide, by decide⟩
  obtain ⟨T7, h7, X7, e7, W7, st7⟩ := stJ X5 hx hZ e5 Ar6 (j := (2 : Int32)) hin6 (g := (mkF m 15 #[.val (.ref ad1), .val (.long (-1 : Int64)), .second, .val (.int (2 : Int32)), .val (.int (4 : Int32))] [(.long (-1 : Int64)), (.int (2 : Int32)), (.ref ad1)])) rfl rfl (hb hby d37_15)
  have N7 := Fr.snoc X7 N5 nn_ad1
  have old7 := old5.wr W7 nn_ad1
  have kp7 := kp5.wr W7 (Or.inl (List.mem_of_getElem? (i := 0) rfl))
  have V7 : Arv Z h7 ad1 kc1 .long (4 : Int32) [(.long (-1 : Int64)), (.long (-1 : Int64)), (.long (-1 : Int64)), (.long (0 : Int64))] (.long (0 : Int64)) := Arv.set Ar6 q6 Sz6 Ng6 Hs6 G6 rfl W7 2 rfl (Nat.le_of_ble_eq_true rfl)
  refine Go.step st7 ?_
  show Go p e below _ (T7.setTop (mkF m 16 #[.val (.ref ad1), .val (.long (-1 : Int64)), .second, .val (.int (2 : Int32)), .val (.int (4 : Int32))] []))
  refine Go.step (fun t_ k_ => XS.iinc X7.here hx rfl (hb hby d37_16) rfl (l' := #[.val (.ref ad1), .val (.long (-1 : Int64)), .second, .val (.int ((2 : Int32) + (1 : Int32))), .val (.int (4 : Int32))]) rfl k_) ?_
  show Go p e below _ (T7.setTop (mkF m 19 #[.val (.ref ad1), .val (.long (-1 : Int64)), .second, .val (.int ((2 : Int32) + (1 : Int32))), .val (.int (4 : Int32))] []))
  rw [show ((2 : Int32) + (1 : Int32)) = (3 : Int32) from by decide]
  refine gs.goto 6 X7.here hx (hb hby d37_19) rfl ?_
  refine gs.iloadN X7.here hx (hb hby d37_6) rfl ?_
  refine gs.iload X7.here hx (hb hby d37_7) rfl ?_
  have hc9_4 : (3 : Int32) < (4 : Int32) := by decide
  refine gs.icmpNo X7.here hx (hb hby d37_9) (tlt hc9_4).2.1 ?_
  refine gs.aloadN X7.here hx (hb hby d37_12) rfl rfl ?_
  refine gs.iloadN X7.here hx (hb hby d37_13) rfl ?_
  refine gs.lloadN X7.here hx (hb hby d37_14) rfl ?_
  obtain ⟨cl8, Ar8, q8, Sz8, Ng8, Hs8, G8⟩ := id V7
  have hin8 : ¬ ((3 : Int32) < 0 ∨ cl8.slots.size ≤ ((3 : Int32)).toNatClampNeg) := inb_of Sz8 ⟨by decide, by decide⟩
  obtain ⟨T9, h9, X9, e9, W9, st9⟩ := stJ X7 hx hZ e7 Ar8 (j := (3 : Int32)) hin8 (g := (mkF m 15 #[.val (.ref ad1), .val (.long (-1 : Int64)), .second, .val (.int (3 : Int32)), .val (.int (4 : Int32))] [(.long (-1 : Int64)), (.int (3 : Int32)), (.ref ad1)])) rfl rfl (hb hby d37_15)
  have N9 := Fr.snoc X9 N7 nn_ad1
  have old9 := old7.wr W9 nn_ad1
  have kp9 := kp7.wr W9 (Or.inl (List.mem_of_getElem? (i := 0) rfl))
  have V9 : Arv Z h9 ad1 kc1 .long (4 : Int32) [(.long (-1 : Int64)), (.long (-1 : Int64)), (.long (-1 : Int64)), (.long (-1 : Int64))] (.long (0 : Int64)) := Arv.set Ar8 q8 Sz8 Ng8 Hs8 G8 rfl W9 3 rfl (Nat.le_of_ble_eq_true rfl)
  refine Go.step st9 ?_
  show Go p e below _ (T9.setTop (mkF m 16 #[.val (.ref ad1), .val (.long (-1 : Int64)), .second, .val (.int (3 : Int32)), .val (.int (4 : Int32))] []))
  refine Go.step (fun t_ k_ => XS.iinc X9.here hx rfl (hb hby d37_16) rfl (l' := #[.val (.ref ad1), .val (.long (-1 : Int64)), .second, .val (.int ((3 : Int32) + (1 : Int32))), .val (.int (4 : Int32))]) rfl k_) ?_
  show Go p e below _ (T9.setTop (mkF m 19 #[.val (.ref ad1), .val (.long (-1 : Int64)), .second, .val (.int ((3 : Int32) + (1 : Int32))), .val (.int (4 : Int32))] []))
  rw [show ((3 : Int32) + (1 : Int32)) = (4 : Int32) from by decide]
  refine gs.goto 6 X9.here hx (hb hby d37_19) rfl ?_
  refine gs.iloadN X9.here hx (hb hby d37_6) rfl ?_
  refine gs.iload X9.here hx (hb hby d37_7) rfl ?_
  have hc9_5 : ¬ ((4 : Int32) < (4 : Int32)) := by decide
  refine gs.icmpYes 22 X9.here hx (hb hby d37_9) (flt hc9_5).2.1 rfl ?_
  have f10 := ((((HE_ad1.wr W3).wr W5).wr W7).wr W9)
  refine Go.retV X9 hx Bd.returns Bd.notSynchronized (hb hby d37_22) (by rw [e9]; exact ⟨rfl, N9, kp9, f10, V9⟩) (by decide) (by decide)
theorem pd_21 : parseMethodDescriptor "([JJ)V" = some ⟨[(.array .long), .long], none⟩ := by decide +kernel
theorem d36_86 : decode prog_11_method_19_code 86 = .ok (.aload_n 0, 1) := by decide +kernel
theorem d36_87 : decode prog_11_method_19_code 87 = .ok (.getfield 36, 3) := by decide +kernel
theorem d36_90 : decode prog_11_method_19_code 90 = .ok (.iload_n 1, 1) := by decide +kernel
theorem d36_91 : decode prog_11_method_19_code 91 = .ok (.aaload, 1) := by decide +kernel
theorem d36_92 : decode prog_11_method_19_code 92 = .ok (.iload_n 2, 1) := by decide +kernel
theorem d36_93 : decode prog_11_method_19_code 93 = .ok (.bipush 6, 2) := by decide +kernel
theorem d36_95 : decode prog_11_method_19_code 95 = .ok (.iushr, 1) := by decide +kernel
theorem d36_96 : decode prog_11_method_19_code 96 = .ok (.dup2, 1) := by decide +kernel
theorem d36_97 : decode prog_11_method_19_code 97 = .ok (.laload, 1) := by decide +kernel
theorem d36_98 : decode prog_11_method_19_code 98 = .ok (.lconst 1, 1) := by decide +kernel
theorem d36_99 : decode prog_11_method_19_code 99 = .ok (.iload_n 2, 1) := by decide +kernel
theorem d36_100 : decode prog_11_method_19_code 100 = .ok (.lshl, 1) := by decide +kernel
theorem d36_101 : decode prog_11_method_19_code 101 = .ok (.ldc2_w 82, 3) := by decide +kernel
theorem d36_104 : decode prog_11_method_19_code 104 = .ok (.lxor, 1) := by decide +kernel
theorem d36_105 : decode prog_11_method_19_code 105 = .ok (.land, 1) := by decide +kernel
theorem d36_106 : decode prog_11_method_19_code 106 = .ok (.lastore, 1) := by decide +kernel
theorem d36_107 : decode prog_11_method_19_code 107 = .ok (.aload_n 0, 1) := by decide +kernel
theorem d36_108 : decode prog_11_method_19_code 108 = .ok (.iload_n 1, 1) := by decide +kernel
theorem d36_109 : decode prog_11_method_19_code 109 = .ok (.aload_n 0, 1) := by decide +kernel
theorem d36_110 : decode prog_11_method_19_code 110 = .ok (.getfield 40, 3) := by decide +kernel
theorem d36_113 : decode prog_11_method_19_code 113 = .ok (.iload_n 1, 1) := by decide +kernel
theorem d36_114 : decode prog_11_method_19_code 114 = .ok (.iaload, 1) := by decide +kernel
theorem d36_115 : decode prog_11_method_19_code 115 = .ok (.iconst 1, 1) := by decide +kernel
theorem d36_116 : decode prog_11_method_19_code 116 = .ok (.isub, 1) := by decide +kernel
theorem d36_117 : decode prog_11_method_19_code 117 = .ok (.invokevirtual 130, 3) := by decide +kernel
theorem d36_120 : decode prog_11_method_19_code 120 = .ok (.aload_n 0, 1) := by decide +kernel
theorem d36_121 : decode prog_11_method_19_code 121 = .ok (.iload_n 1, 1) := by decide +kernel
theorem d36_122 : decode prog_11_method_19_code 122 = .ok (.iconst 0, 1) := by decide +kernel
theorem d36_123 : decode prog_11_method_19_code 123 = .ok (.iload_n 2, 1) := by decide +kernel
theorem d36_124 : decode prog_11_method_19_code 124 = .ok (.invokevirtual 133, 3) := by decide +kernel
theorem ef_am32_3 (m : MethodId) (x0 : Addr) (x1 : Int32) (x2 : Int32) (x3 : Int32)  : entryFrame m #[(.ref x0), (.int x1), (.int x2), (.int x3)] 4 = mkF m 0 #[.val (.ref x0), .val (.int x1), .val (.int x2), .val (.int x3)] [] := by first | (simp [entryFrame, mkF, argsToLocals, Value.category]; done) | rfl
def Q_am32_3 (Z : State) (a_EMPTY_ELEMENTDATA : Addr) (aw0 : Addr) (ka_EMPTY_ELEMENTDATA : ClassId) (kaw0 : ClassId) (ad1 : Addr) (iv1 : Int32) (ad4 : Addr) (ad5 : Addr) (ad6 : Addr) (ad7 : Addr) (ad8 : Addr) (ad9 : Addr) (ad10 : Addr) (iv2 : Int32) (iv3 : Int32) (kc7 : ClassId) (fv7 : Nat → Int64) (h0 : Heap) (n0 : Nat) (v : Option Value) (h : Heap) (L : List Loc) : Prop := v = none ∧ Fr n0 L ∧ Keep h0 h [ad1, ad4] ∧ (Exa Z h ad1 "com/example/monarc/monarc/Domains") ∧ (Fld Z h ad1 "com/example/monarc/monarc/Domains" "holes" "[[J" (.ref ad9)) ∧ (Fld Z h ad1 "com/example/monarc/monarc/Domains" "initial" "[Lcom/example/monarc/monarc/InitialDomain;" (.ref ad6)) ∧ (Fld Z h ad1 "com/example/monarc/monarc/Domains" "lower" "[I" (.ref ad7)) ∧ (Fld Z h ad1 "com/example/monarc/monarc/Domains" "marks" "[I" (.ref ad5)) ∧ (Fld Z h ad1 "com/example/monarc/monarc/Domains" "resized" "Ljava/util/function/IntConsumer;" .null) ∧ (Fld Z h ad1 "com/example/monarc/monarc/Domains" "sizes" "[I" (.ref ad10)) ∧ (Fld Z h ad1 "com/example/monarc/monarc/Domains" "trail" "[J" (.ref ad4)) ∧ (Fld Z h ad1 "com/example/monarc/monarc/Domains" "trailSize" "I" (.int (iv3 + (1 : Int32)))) ∧ (Fld Z h ad1 "com/example/monarc/monarc/Domains" "upper" "[I" (.ref ad8)) ∧ (Fld Z h ad1 "com/example/monarc/monarc/Domains" "withOneValue" "I" (.int iv2)) ∧ (Exa Z h ad4 "[J") ∧ (Arf Z h ad4 kc7 (1024 : Int32) (fun i => if i = (iv3).toNatClampNeg then ((((0 : Int64) <<< ((32 : Int32) &&& 0x3f).toInt64) ||| ((0 : Int64) <<< ((30 : Int32) &&& 0x3f).toInt64)) ||| (iv1.toInt64)) else fv7 i))
set_option maxRecDepth 65536 in
set_option maxHeartbeats 40000000 in
theorem am32_3 (l : Launch) (Z : State) (a0 : Array Value) (hw : ∀ d ∈ tables_1, d.before a0 Z = true) (ws : List Jvm.Cond) (a_EMPTY_ELEMENTDATA : Addr) (aw0 : Addr) (ka_EMPTY_ELEMENTDATA : ClassId) (kaw0 : ClassId) (HW : Wd Z a_EMPTY_ELEMENTDATA aw0 ka_EMPTY_ELEMENTDATA kaw0) (ad1 : Addr) (iv1 : Int32) (ad4 : Addr) (ad5 : Addr) (ad6 : Addr) (ad7 : Addr) (ad8 : Addr) (ad9 : Addr) (ad10 : Addr) (iv2 : Int32) (iv3 : Int32) (kc7 : ClassId) (fv7 : Nat → Int64) (h0 : Heap) (n0 : Nat) (Ol : Old Z n0 h0) (HE_ad1 : Exa Z h0 ad1 "com/example/monarc/monarc/Domains") (HF_ad1_Domains_trail : Fld Z h0 ad1 "com/example/monarc/monarc/Domains" "trail" "[J" (.ref ad4)) (HF_ad1_Domains_marks : Fld Z h0 ad1 "com/example/monarc/monarc/Domains" "marks" "[I" (.ref ad5)) (HF_ad1_Domains_initial : Fld Z h0 ad1 "com/example/monarc/monarc/Domains" "initial" "[Lcom/example/monarc/monarc/InitialDomain;" (.ref ad6)) (HF_ad1_Domains_lower : Fld Z h0 ad1 "com/example/monarc/monarc/Domains" "lower" "[I" (.ref ad7)) (HF_ad1_Domains_upper : Fld Z h0 ad1 "com/example/monarc/monarc/Domains" "upper" "[I" (.ref ad8)) (HF_ad1_Domains_holes : Fld Z h0 ad1 "com/example/monarc/monarc/Domains" "holes" "[[J" (.ref ad9)) (HF_ad1_Domains_sizes : Fld Z h0 ad1 "com/example/monarc/monarc/Domains" "sizes" "[I" (.ref ad10)) (HF_ad1_Domains_withOneValue : Fld Z h0 ad1 "com/example/monarc/monarc/Domains" "withOneValue" "I" (.int iv2)) (HF_ad1_Domains_trailSize : Fld Z h0 ad1 "com/example/monarc/monarc/Domains" "trailSize" "I" (.int iv3)) (HF_ad1_Domains_resized : Fld Z h0 ad1 "com/example/monarc/monarc/Domains" "resized" "Ljava/util/function/IntConsumer;" .null) (HE_ad4 : Exa Z h0 ad4 "[J") (HG_ad4 : Arf Z h0 ad4 kc7 (1024 : Int32) fv7) (nn_ad1 : n0 ≤ ad1) (nn_ad4 : n0 ≤ ad4) (ne_ad1_ad4 : ad1 ≠ ad4) (as0 : 0 ≤ (iv3).toInt ∧ (iv3).toInt < ((1024 : Int32)).toInt) (as1 : ¬ (iv3 = (1024 : Int32))) :
    MetFree l y_32 (head1 (Jvm.Cond.code y_32 prog_11_method_26_code 4 none :: ws) ({ frames := 0, cells := 0, slots := 0, locals := 0 } : Room)) (fun a_ U_ => a_ = #[(.ref ad1), (.int (0 : Int32)), (.int (0 : Int32)), (.int iv1)] ∧ Z.Warmed39 U_.vm ∧ U_.heap = h0) (fun _ _ _ _ _ => True) (fun _ U_ o_ V_ => ∃ v_ L_, o_ = .returned v_ ∧ Q_am32_3 Z a_EMPTY_ELEMENTDATA aw0 ka_EMPTY_ELEMENTDATA kaw0 ad1 iv1 ad4 ad5 ad6 ad7 ad8 ad9 ad10 iv2 iv3 kc7 fv7 h0 n0 v_ V_.heap L_ ∧ FrameEnd U_ o_ V_ L_ ({ frames := 0, cells := 0, slots := 0, locals := 0 } : Room).cells ({ frames := 0, cells := 0, slots := 0, locals := 0 } : Room).slots) := by
  refine MetFree.of_bodySF (plainFor_of_name pn_8) hisR ?_
  intro p e s m args below meth c s₁ Bd hml0 hP hK
  obtain ⟨rfl, hZ, hh⟩ := hP
  have hx := Bd.exec
  have hby := Bd.bytes
  have hml : c.maxLocals = 4 := hml0
  have hown : s.vm.findClass "com/example/monarc/monarc/Domains" = some m.cls := findClass_of_methodNamed Bd.named
  have hnm := (name_of_methodNamed Bd.named Bd.method).1
  have X0 : Stand p l e ({ frames := 0, cells := 0, slots := 0, locals := 0 } : Room) s m #[(.ref ad1), (.int (0 : Int32)), (.int (0 : Int32)), (.int iv1)] below meth c s₁ [] 0 0 := Stand.of_body Bd
  have e0 : s₁.heap = h0 := by rw [← hh, Bd.state]; rfl
  have N0 := Fr.nil n0
  have kp0 := Keep.refl h0 [ad1, ad4]
  show Go p e below (Fin1 s below (Q_am32_3 Z a_EMPTY_ELEMENTDATA aw0 ka_EMPTY_ELEMENTDATA kaw0 ad1 iv1 ad4 ad5 ad6 ad7 ad8 ad9 ad10 iv2 iv3 kc7 fv7 h0 n0) ({ frames := 0, cells := 0, slots := 0, locals := 0 } : Room).cells ({ frames := 0, cells := 0, slots := 0, locals := 0 } : Room).slots) _
  refine Go.step (fun t_ k_ => castTop (ef_am32_3 m ad1 (0 : Int32) (0 : Int32) iv1) k_) ?_
  obtain ⟨Ea_EMPTY_ELEMENTDATA, Sa_EMPTY_ELEMENTDATA, Eaw0, Saw0, Aa_EMPTY_ELEMENTDATA, Aaw0⟩ := id HW
  show Go p e below _ (s₁.setTop (mkF m 0 #[.val (.ref ad1), .val (.int (0 : Int32)), .val (.int (0 : Int32)), .val (.int iv1)] []))
  refine gs.aloadN X0.here hx (hb hby d32_0) rfl rfl ?_
  refine gs.getF X0 hx hZ hown (wd hw 224 rfl) Via.refl e0 HF_ad1_Domains_trailSize (hb hby d32_1) fun T1 X1 e1 => ?_
  refine gs.aloadN X1.here hx (hb hby d32_4) rfl rfl ?_
  refine gs.getF X1 hx hZ hown (wd hw 109 rfl) Via.refl e1 HF_ad1_Domains_trail (hb hby d32_5) fun T2 X2 e2 => ?_
  obtain ⟨cl3, Ar3, -, Sz3, Ng3, -⟩ := id HG_ad4
  refine Go.step (fun t_ k_ => X2.arraylength hx (by rw [e2]; exact Ar3.1) (State.isArrayOf_alike hZ.alike Ar3.2.1) (g := (mkF m 8 #[.val (.ref ad1), .val (.int (0 : Int32)), .val (.int (0 : Int32)), .val (.int iv1)] [(.ref ad4), (.int iv3)])) rfl rfl (hb hby d32_8) _ k_) ?_
  rw [len_of Sz3 Ng3]
  show Go p e below _ (T2.setTop (mkF m 9 #[.val (.ref ad1), .val (.int (0 : Int32)), .val (.int (0 : Int32)), .val (.int iv1)] [(.int (1024 : Int32)), (.int iv3)]))
  have hc9 : ¬ (iv3 = (1024 : Int32)) := as1
  refine gs.icmpYes 29 X2.here hx (hb hby d32_9) (feq hc9).2 rfl ?_
  refine gs.aloadN X2.here hx (hb hby d32_29) rfl rfl ?_
  refine gs.getF X2 hx hZ hown (wd hw 109 rfl) Via.refl e2 HF_ad1_Domains_trail (hb hby d32_30) fun T4 X4 e4 => ?_
  refine gs.aloadN X4.here hx (hb hby d32_33) rfl rfl ?_
  refine gs.dup X4.here hx (hb hby d32_34) rfl ?_
  refine gs.getF X4 hx hZ hown (wd hw 224 rfl) Via.refl e4 HF_ad1_Domains_trailSize (hb hby d32_35) fun T5 X5 e5 => ?_
  refine Go.step (fun t_ k_ => XS.dupX1 X5.here hx rfl (hb hby d32_38) rfl rfl rfl k_) ?_
  show Go p e below _ (T5.setTop (mkF m 39 #[.val (.ref ad1), .val (.int (0 : Int32)), .val (.int (0 : Int32)), .val (.int iv1)] [(.int iv3), (.ref ad1), (.int iv3), (.ref ad4)]))
  refine gs.iconst 1 X5.here hx (hb hby d32_39) rfl ?_
  refine gs.iadd X5.here hx (hb hby d32_40) ?_
  obtain ⟨T6, h6, X6, e6, W6, st6⟩ := putF X5 hx hZ hown (host := "") (Or.inl (wd hw 224 rfl)) Via.refl e5 HF_ad1_Domains_trailSize HE_ad1 (Or.inl (wd hw 225 rfl)) (wd hw 102 rfl) (ty := .int) (by decide) rfl rfl (g := (mkF m 41 #[.val (.ref ad1), .val (.int (0 : Int32)), .val (.int (0 : Int32)), .val (.int iv1)] [(.int (iv3 + (1 : Int32))), (.ref ad1), (.int iv3), (.ref ad4)])) rfl rfl (hb hby d32_41)
  have N6 := Fr.snoc X6 N0 nn_ad1
  have old6 := Ol.wr W6 nn_ad1
  have kp6 := kp0.wr W6 (Or.inl (List.mem_of_getElem? (i := 0) rfl))
  have F6 := HF_ad1_Domains_trailSize.same W6
  refine Go.step st6 ?_
  show Go p e below _ (T6.setTop (mkF m 44 #[.val (.ref ad1), .val (.int (0 : Int32)), .val (.int (0 : Int32)), .val (.int iv1)] [(.int iv3), (.ref ad4)]))
  refine gs.iloadN X6.here hx (hb hby d32_44) rfl ?_
  refine Go.step (fun t_ k_ => XS.i2l X6.here hx rfl (hb hby d32_45) rfl k_) ?_
  show Go p e below _ (T6.setTop (mkF m 46 #[.val (.ref ad1), .val (.int (0 : Int32)), .val (.int (0 : Int32)), .val (.int iv1)] [(.long ((0 : Int32).toInt64)), (.int iv3), (.ref ad4)]))
  rw [show ((0 : Int32).toInt64) = (0 : Int64) from by decide]
  refine gs.bipush 32 X6.here hx (hb hby d32_46) rfl ?_
  refine Go.step (fun t_ k_ => XS.lshl X6.here hx rfl (hb hby d32_48) rfl k_) ?_
  show Go p e below _ (T6.setTop (mkF m 49 #[.val (.ref ad1), .val (.int (0 : Int32)), .val (.int (0 : Int32)), .val (.int iv1)] [(.long ((0 : Int64) <<< ((32 : Int32) &&& 0x3f).toInt64)), (.int iv3), (.ref ad4)]))
  refine gs.iloadN X6.here hx (hb hby d32_49) rfl ?_
  refine Go.step (fun t_ k_ => XS.i2l X6.here hx rfl (hb hby d32_50) rfl k_) ?_
  show Go p e below _ (T6.setTop (mkF m 51 #[.val (.ref ad1), .val (.int (0 : Int32)), .val (.int (0 : Int32)), .val (.int iv1)] [(.long ((0 : Int32).toInt64)), (.long ((0 : Int64) <<< ((32 : Int32) &&& 0x3f).toInt64)), (.int iv3), (.ref ad4)]))
  rw [show ((0 : Int32).toInt64) = (0 : Int64) from by decide]
  refine gs.bipush 30 X6.here hx (hb hby d32_51) rfl ?_
  refine Go.step (fun t_ k_ => XS.lshl X6.here hx rfl (hb hby d32_53) rfl k_) ?_
  show Go p e below _ (T6.setTop (mkF m 54 #[.val (.ref ad1), .val (.int (0 : Int32)), .val (.int (0 : Int32)), .val (.int iv1)] [(.long ((0 : Int64) <<< ((30 : Int32) &&& 0x3f).toInt64)), (.long ((0 : Int64) <<< ((32 : Int32) &&& 0x3f).toInt64)), (.int iv3), (.ref ad4)]))
  refine gs.lor X6.here hx (hb hby d32_54) ?_
  refine gs.iloadN X6.here hx (hb hby d32_55) rfl ?_
  refine Go.step (fun t_ k_ => XS.i2l X6.here hx rfl (hb hby d32_56) rfl k_) ?_
  show Go p e below _ (T6.setTop (mkF m 57 #[.val (.ref ad1), .val (.int (0 : Int32)), .val (.int (0 : Int32)), .val (.int iv1)] [(.long (iv1.toInt64)), (.long (((0 : Int64) <<< ((32 : Int32) &&& 0x3f).toInt64) ||| ((0 : Int64) <<< ((30 : Int32) &&& 0x3f).toInt64))), (.int iv3), (.ref ad4)]))
  refine gs.lor X6.here hx (hb hby d32_57) ?_
  have f7 := (HG_ad4.other W6 (Ne.symm ne_ad1_ad4))
  obtain ⟨cl8, Ar8, q8, Sz8, Ng8, Hs8⟩ := id f7
  have hin8 : ¬ (iv3 < 0 ∨ cl8.slots.size ≤ (iv3).toNatClampNeg) := inb_of Sz8 (inb_int as0)
  obtain ⟨T9, h9, X9, e9, W9, st9⟩ := stJ X6 hx hZ e6 Ar8 (j := iv3) hin8 (g := (mkF m 58 #[.val (.ref ad1), .val (.int (0 : Int32)), .val (.int (0 : Int32)), .val (.int iv1)] [(.long ((((0 : Int64) <<< ((32 : Int32) &&& 0x3f).toInt64) ||| ((0 : Int64) <<< ((30 : Int32) &&& 0x3f).toInt64)) ||| (iv1.toInt64))), (.int iv3), (.ref ad4)])) rfl rfl (hb hby d32_58)
  have N9 := Fr.snoc X9 N6 nn_ad4
  have old9 := old6.wr W9 nn_ad4
  have kp9 := kp6.wr W9 (Or.inl (List.mem_of_getElem? (i := 1) rfl))
  have V9 : Arf Z h9 ad4 kc7 (1024 : Int32) (fun i => if i = (iv3).toNatClampNeg then ((((0 : Int64) <<< ((32 : Int32) &&& 0x3f).toInt64) ||| ((0 : Int64) <<< ((30 : Int32) &&& 0x3f).toInt64)) ||| (iv1.toInt64)) else fv7 i) := Arf.set Ar8 q8 Sz8 Ng8 Hs8 W9
  refine Go.step st9 ?_
  show Go p e below _ (T9.setTop (mkF m 59 #[.val (.ref ad1), .val (.int (0 : Int32)), .val (.int (0 : Int32)), .val (.int iv1)] []))
  refine gs.aloadN X9.here hx (hb hby d32_59) rfl rfl ?_
  have f10 := ((HF_ad1_Domains_resized.other W6 (Or.inr (sn90 hw))).other W9 (Or.inl ne_ad1_ad4))
  refine gs.getF X9 hx hZ hown (wd hw 226 rfl) Via.refl e9 f10 (hb hby d32_60) fun T11 X11 e11 => ?_
  refine Go.step (fun t_ k_ => XS.ifnullYes X11.here hx rfl (pc0 := 63) (pc' := 76) rfl (hb hby d32_63) rfl (by decide) (by decide) k_) ?_
  show Go p e below _ (T11.setTop (mkF m 76 #[.val (.ref ad1), .val (.int (0 : Int32)), .val (.int (0 : Int32)), .val (.int iv1)] []))
  have f12 := ((HE_ad1.wr W6).wr W9)
  have f13 := ((HF_ad1_Domains_holes.other W6 (Or.inr (sn91 hw))).other W9 (Or.inl ne_ad1_ad4))
  have f14 := ((HF_ad1_Domains_initial.other W6 (Or.inr (sn92 hw))).other W9 (Or.inl ne_ad1_ad4))
  have f15 := ((HF_ad1_Domains_lower.other W6 (Or.inr (sn93 hw))).other W9 (Or.inl ne_ad1_ad4))
  have f16 := ((HF_ad1_Domains_marks.other W6 (Or.inr (sn94 hw))).other W9 (Or.inl ne_ad1_ad4))
  have f17 := ((HF_ad1_Domains_sizes.other W6 (Or.inr (sn95 hw))).other W9 (Or.inl ne_ad1_ad4))
  have f18 := ((HF_ad1_Domains_trail.other W6 (Or.inr (sn96 hw))).other W9 (Or.inl ne_ad1_ad4))
  have f19 := (F6.other W9 (Or.inl ne_ad1_ad4))
  have f20 := ((HF_ad1_Domains_upper.other W6 (Or.inr (sn97 hw))).other W9 (Or.inl ne_ad1_ad4))
  have f21 := ((HF_ad1_Domains_withOneValue.other W6 (Or.inr (sn98 hw))).other W9 (Or.inl ne_ad1_ad4))
  have f22 := ((HE_ad4.wr W6).wr W9)
  refine Go.retV X11 hx Bd.returns Bd.notSynchronized (hb hby d32_76) (by rw [e11]; exact ⟨rfl, N9, kp9, f12, f13, f14, f15, f16, f10, f17, f18, f19, f20, f21, f22, V9⟩) (by decide) (by decide)
theorem d36_127 : decode prog_11_method_19_code 127 = .ok (.return_, 1) := by decide +kernel
theorem ef_am36_1 (m : MethodId) (x0 : Addr) (x1 : Int32) (x2 : Int32)  : entryFrame m #[(.ref x0), (.int x1), (.int x2)] 3 = mkF m 0 #[.val (.ref x0), .val (.int x1), .val (.int x2)] [] := by first | (simp [entryFrame, mkF, argsToLocals, Value.category]; done) | rfl
def Q_am36_1 (Z : State) (a_EMPTY_ELEMENTDATA : Addr) (aw0 : Addr) (ka_EMPTY_ELEMENTDATA : ClassId) (kaw0 : ClassId) (ad1 : Addr) (iv1 : Int32) (ad2 : Addr) (ad3 : Addr) (ad4 : Addr) (ad5 : Addr) (ad6 : Addr) (ad7 : Addr) (ad8 : Addr) (ad9 : Addr) (ad10 : Addr) (iv2 : Int32) (iv3 : Int32) (kc1 : ClassId) (kc2 : ClassId) (kc3 : ClassId) (iv4 : Int32) (kc5 : ClassId) (iv5 : Int32) (kc6 : ClassId) (iv6 : Int32) (kc7 : ClassId) (fv7 : Nat → Int64) (h0 : Heap) (n0 : Nat) (v : Option Value) (h : Heap) (L : List Loc) : Prop := ∃ fr1 : Addr, ∃ kx1 : ClassId, ∃ ex1 : Int32, v = none ∧ h0.size ≤ fr1 ∧ Fr n0 L ∧ Keep h0 h [ad1, ad10, ad4, ad9] ∧ (Exa Z h ad1 "com/example/monarc/monarc/Domains") ∧ (Fld Z h ad1 "com/example/monarc/monarc/Domains" "holes" "[[J" (.ref ad9)) ∧ (Fld Z h ad1 "com/example/monarc/monarc/Domains" "initial" "[Lcom/example/monarc/monarc/InitialDomain;" (.ref ad6)) ∧ (Fld Z h ad1 "com/example/monarc/monarc/Domains" "lower" "[I" (.ref ad7)) ∧ (Fld Z h ad1 "com/example/monarc/monarc/Domains" "marks" "[I" (.ref ad5)) ∧ (Fld Z h ad1 "com/example/monarc/monarc/Domains" "resized" "Ljava/util/function/IntConsumer;" .null) ∧ (Fld Z h ad1 "com/example/monarc/monarc/Domains" "sizes" "[I" (.ref ad10)) ∧ (Fld Z h ad1 "com/example/monarc/monarc/Domains" "trail" "[J" (.ref ad4)) ∧ (Fld Z h ad1 "com/example/monarc/monarc/Domains" "trailSize" "I" (.int (iv3 + (1 : Int32)))) ∧ (Fld Z h ad1 "com/example/monarc/monarc/Domains" "upper" "[I" (.ref ad8)) ∧ (Fld Z h ad1 "com/example/monarc/monarc/Domains" "withOneValue" "I" (.int ex1)) ∧ (Arv Z h ad10 kc5 .int (2 : Int32) [(.int (iv5 - (1 : Int32))), (.int (100 : Int32))] (.int (0 : Int32))) ∧ (Exa Z h ad4 "[J") ∧ (Arf Z h ad4 kc7 (1024 : Int32) (fun i => if i = (iv3).toNatClampNeg then ((((0 : Int64) <<< ((32 : Int32) &&& 0x3f).toInt64) ||| ((0 : Int64) <<< ((30 : Int32) &&& 0x3f).toInt64)) ||| (iv1.toInt64)) else fv7 i)) ∧ (Exa Z h ad9 "[[J") ∧ (Arv Z h ad9 kc1 (.array .long) (2 : Int32) [(.ref fr1), .null] .null) ∧ (Exa Z h fr1 "[J") ∧ (Arf Z h fr1 kx1 (4 : Int32) (fun i => if i = (((iv1.toUInt32 >>> ((6 : Int32) &&& 31).toUInt32).toInt32)).toNatClampNeg then ((-1 : Int64) &&& (((1 : Int64) <<< (iv1 &&& 0x3f).toInt64) ^^^ (-1 : Int64))) else (fun _ => (-1 : Int64)) i))
set_option maxRecDepth 65536 in
set_option maxHeartbeats 40000000 in
theorem am36_1 (l : Launch) (Z : State) (a0 : Array Value) (hw : ∀ d ∈ tables_1, d.before a0 Z = true) (ws : List Jvm.Cond) (a_EMPTY_ELEMENTDATA : Addr) (aw0 : Addr) (ka_EMPTY_ELEMENTDATA : ClassId) (kaw0 : ClassId) (HW : Wd Z a_EMPTY_ELEMENTDATA aw0 ka_EMPTY_ELEMENTDATA kaw0) (ad1 : Addr) (iv1 : Int32) (ad2 : Addr) (ad3 : Addr) (ad4 : Addr) (ad5 : Addr) (ad6 : Addr) (ad7 : Addr) (ad8 : Addr) (ad9 : Addr) (ad10 : Addr) (iv2 : Int32) (iv3 : Int32) (kc1 : ClassId) (kc2 : ClassId) (kc3 : ClassId) (iv4 : Int32) (kc5 : ClassId) (iv5 : Int32) (kc6 : ClassId) (iv6 : Int32) (kc7 : ClassId) (fv7 : Nat → Int64) (h0 : Heap) (n0 : Nat) (Ol : Old Z n0 h0) (HE_ad2 : Exa Z h0 ad2 "com/example/monarc/monarc/InitialDomain") (HF_ad2_InitialDomain_size : Fld Z h0 ad2 "com/example/monarc/monarc/InitialDomain" "size" "I" (.int (200 : Int32))) (HE_ad1 : Exa Z h0 ad1 "com/example/monarc/monarc/Domains") (HF_ad1_Domains_trail : Fld Z h0 ad1 "com/example/monarc/monarc/Domains" "trail" "[J" (.ref ad4)) (HF_ad1_Domains_marks : Fld Z h0 ad1 "com/example/monarc/monarc/Domains" "marks" "[I" (.ref ad5)) (HF_ad1_Domains_initial : Fld Z h0 ad1 "com/example/monarc/monarc/Domains" "initial" "[Lcom/example/monarc/monarc/InitialDomain;" (.ref ad6)) (HF_ad1_Domains_lower : Fld Z h0 ad1 "com/example/monarc/monarc/Domains" "lower" "[I" (.ref ad7)) (HF_ad1_Domains_upper : Fld Z h0 ad1 "com/example/monarc/monarc/Domains" "upper" "[I" (.ref ad8)) (HF_ad1_Domains_holes : Fld Z h0 ad1 "com/example/monarc/monarc/Domains" "holes" "[[J" (.ref ad9)) (HF_ad1_Domains_sizes : Fld Z h0 ad1 "com/example/monarc/monarc/Domains" "sizes" "[I" (.ref ad10)) (HF_ad1_Domains_withOneValue : Fld Z h0 ad1 "com/example/monarc/monarc/Domains" "withOneValue" "I" (.int iv2)) (HF_ad1_Domains_trailSize : Fld Z h0 ad1 "com/example/monarc/monarc/Domains" "trailSize" "I" (.int iv3)) (HF_ad1_Domains_resized : Fld Z h0 ad1 "com/example/monarc/monarc/Domains" "resized" "Ljava/util/function/IntConsumer;" .null) (HE_ad9 : Exa Z h0 ad9 "[[J") (HV_ad9 : Arv Z h0 ad9 kc1 (.array .long) (2 : Int32) [.null, .null] .null) (HV_ad6 : Arv Z h0 ad6 kc2 (.object "com/example/monarc/monarc/InitialDomain") (2 : Int32) [(.ref ad2), (.ref ad3)] .null) (HV_ad7 : Arv Z h0 ad7 kc3 .int (2 : Int32) [(.int iv4), (.int (0 : Int32))] (.int (0 : Int32))) (HV_ad10 : Arv Z h0 ad10 kc5 .int (2 : Int32) [(.int iv5), (.int (100 : Int32))] (.int (0 : Int32))) (HE_ad4 : Exa Z h0 ad4 "[J") (HV_ad8 : Arv Z h0 ad8 kc6 .int (2 : Int32) [(.int iv6), (.int (99 : Int32))] (.int (0 : Int32))) (HG_ad4 : Arf Z h0 ad4 kc7 (1024 : Int32) fv7) (nn_ad1 : n0 ≤ ad1) (nn_ad10 : n0 ≤ ad10) (nn_ad4 : n0 ≤ ad4) (nn_ad9 : n0 ≤ ad9) (ne_ad1_ad10 : ad1 ≠ ad10) (ne_ad1_ad4 : ad1 ≠ ad4) (ne_ad1_ad9 : ad1 ≠ ad9) (ne_ad10_ad4 : ad10 ≠ ad4) (ne_ad10_ad9 : ad10 ≠ ad9) (ne_ad4_ad9 : ad4 ≠ ad9) (as0 : 0 ≤ (((iv1.toUInt32 >>> ((6 : Int32) &&& 31).toUInt32).toInt32)).toInt ∧ (((iv1.toUInt32 >>> ((6 : Int32) &&& 31).toUInt32).toInt32)).toInt < ((4 : Int32)).toInt) (as1 : 0 ≤ (iv3).toInt ∧ (iv3).toInt < ((1024 : Int32)).toInt) (as2 : ¬ (iv1 = iv4)) (as3 : ¬ (iv1 = iv6)) (as4 : ¬ (iv3 = (1024 : Int32))) (hO_ad9 : OvrA Z kc1 .long "[J") (hO_ad6 : Ovr Z kc2 "com/example/monarc/monarc/InitialDomain") :
    MetFree l y_36 (head1 (Jvm.Cond.code y_36 prog_11_method_19_code 3 none :: ws) ({ frames := 1, cells := 1, slots := 4, locals := 16 } : Room)) (fun a_ U_ => a_ = #[(.ref ad1), (.int (0 : Int32)), (.int iv1)] ∧ Z.Warmed39 U_.vm ∧ U_.heap = h0) (fun _ _ _ _ _ => True) (fun _ U_ o_ V_ => ∃ v_ L_, o_ = .returned v_ ∧ Q_am36_1 Z a_EMPTY_ELEMENTDATA aw0 ka_EMPTY_ELEMENTDATA kaw0 ad1 iv1 ad2 ad3 ad4 ad5 ad6 ad7 ad8 ad9 ad10 iv2 iv3 kc1 kc2 kc3 iv4 kc5 iv5 kc6 iv6 kc7 fv7 h0 n0 v_ V_.heap L_ ∧ FrameEnd U_ o_ V_ L_ ({ frames := 1, cells := 1, slots := 4, locals := 16 } : Room).cells ({ frames := 1, cells := 1, slots := 4, locals := 16 } : Room).slots) := by
  refine MetFree.of_bodySF (plainFor_of_name pn_8) hisR ?_
  intro p e s m args below meth c s₁ Bd hml0 hP hK
  obtain ⟨rfl, hZ, hh⟩ := hP
  have hx := Bd.exec
  have hby := Bd.bytes
  have hml : c.maxLocals = 3 := hml0
  have hown : s.vm.findClass "com/example/monarc/monarc/Domains" = some m.cls := findClass_of_methodNamed Bd.named
  have hnm := (name_of_methodNamed Bd.named Bd.method).1
  have X0 : Stand p l e ({ frames := 1, cells := 1, slots := 4, locals := 16 } : Room) s m #[(.ref ad1), (.int (0 : Int32)), (.int iv1)] below meth c s₁ [] 0 0 := Stand.of_body Bd
  have e0 : s₁.heap = h0 := by rw [← hh, Bd.state]; rfl
  have N0 := Fr.nil n0
  have kp0 := Keep.refl h0 [ad1, ad10, ad4, ad9]
  show Go p e below (Fin1 s below (Q_am36_1 Z a_EMPTY_ELEMENTDATA aw0 ka_EMPTY_ELEMENTDATA kaw0 ad1 iv1 ad2 ad3 ad4 ad5 ad6 ad7 ad8 ad9 ad10 iv2 iv3 kc1 kc2 kc3 iv4 kc5 iv5 kc6 iv6 kc7 fv7 h0 n0) ({ frames := 1, cells := 1, slots := 4, locals := 16 } : Room).cells ({ frames := 1, cells := 1, slots := 4, locals := 16 } : Room).slots) _
  refine Go.step (fun t_ k_ => castTop (ef_am36_1 m ad1 (0 : Int32) iv1) k_) ?_
  obtain ⟨Ea_EMPTY_ELEMENTDATA, Sa_EMPTY_ELEMENTDATA, Eaw0, Saw0, Aa_EMPTY_ELEMENTDATA, Aaw0⟩ := id HW
  show Go p e below _ (s₁.setTop (mkF m 0 #[.val (.ref ad1), .val (.int (0 : Int32)), .val (.int iv1)] []))
  refine gs.iloadN X0.here hx (hb hby d36_0) rfl ?_
  refine gs.aloadN X0.here hx (hb hby d36_1) rfl rfl ?_
  refine gs.getF X0 hx hZ hown (wd hw 127 rfl) Via.refl e0 HF_ad1_Domains_lower (hb hby d36_2) fun T1 X1 e1 => ?_
  refine gs.iloadN X1.here hx (hb hby d36_5) rfl ?_
  obtain ⟨cl2, Ar2, q2, Sz2, Ng2, Hs2, G2⟩ := id HV_ad7
  have hin2 : ¬ ((0 : Int32) < 0 ∨ cl2.slots.size ≤ ((0 : Int32)).toNatClampNeg) := inb_of Sz2 ⟨by decide, by decide⟩
  have hat2 : cl2.slots[((0 : Int32)).toNatClampNeg]? = some (.int iv4) := Has.at Hs2 hin2 rfl
  refine Go.step (fun t_ k_ => X1.iaload hx (j := (0 : Int32)) (v := (.int iv4)) (by rw [e1]; exact Ar2.1) (State.isArrayOf_alike hZ.alike Ar2.2.1) Ar2.2.2 hin2 hat2 (g := (mkF m 6 #[.val (.ref ad1), .val (.int (0 : Int32)), .val (.int iv1)] [(.int (0 : Int32)), (.ref ad7), (.int iv1)])) rfl rfl (hb hby d36_6) _ k_) ?_
  show Go p e below _ (T1.setTop (mkF m 7 #[.val (.ref ad1), .val (.int (0 : Int32)), .val (.int iv1)] [(.int iv4), (.int iv1)]))
  have hc7 : ¬ (iv1 = iv4) := as2
  refine gs.icmpYes 21 X1.here hx (hb hby d36_7) (feq hc7).2 rfl ?_
  refine gs.iloadN X1.here hx (hb hby d36_21) rfl ?_
  refine gs.aloadN X1.here hx (hb hby d36_22) rfl rfl ?_
  refine gs.getF X1 hx hZ hown (wd hw 129 rfl) Via.refl e1 HF_ad1_Domains_upper (hb hby d36_23) fun T3 X3 e3 => ?_
  refine gs.iloadN X3.here hx (hb hby d36_26) rfl ?_
  obtain ⟨cl4, Ar4, q4, Sz4, Ng4, Hs4, G4⟩ := id HV_ad8
  have hin4 : ¬ ((0 : Int32) < 0 ∨ cl4.slots.size ≤ ((0 : Int32)).toNatClampNeg) := inb_of Sz4 ⟨by decide, by decide⟩
  have hat4 : cl4.slots[((0 : Int32)).toNatClampNeg]? = some (.int iv6) := Has.at Hs4 hin4 rfl
  refine Go.step (fun t_ k_ => X3.iaload hx (j := (0 : Int32)) (v := (.int iv6)) (by rw [e3]; exact Ar4.1) (State.isArrayOf_alike hZ.alike Ar4.2.1) Ar4.2.2 hin4 hat4 (g := (mkF m 27 #[.val (.ref ad1), .val (.int (0 : Int32)), .val (.int iv1)] [(.int (0 : Int32)), (.ref ad8), (.int iv1)])) rfl rfl (hb hby d36_27) _ k_) ?_
  show Go p e below _ (T3.setTop (mkF m 28 #[.val (.ref ad1), .val (.int (0 : Int32)), .val (.int iv1)] [(.int iv6), (.int iv1)]))
  have hc28 : ¬ (iv1 = iv6) := as3
  refine gs.icmpYes 42 X3.here hx (hb hby d36_28) (feq hc28).2 rfl ?_
  refine gs.aloadN X3.here hx (hb hby d36_42) rfl rfl ?_
  refine gs.getF X3 hx hZ hown (wd hw 133 rfl) Via.refl e3 HF_ad1_Domains_holes (hb hby d36_43) fun T5 X5 e5 => ?_
  refine gs.iloadN X5.here hx (hb hby d36_46) rfl ?_
  obtain ⟨cl6, Ar6, q6, Sz6, Ng6, Hs6, G6⟩ := id HV_ad9
  have hin6 : ¬ ((0 : Int32) < 0 ∨ cl6.slots.size ≤ ((0 : Int32)).toNatClampNeg) := inb_of Sz6 ⟨by decide, by decide⟩
  have hat6 : cl6.slots[((0 : Int32)).toNatClampNeg]? = some .null := Has.at Hs6 hin6 rfl
  refine Go.step (fun t_ k_ => X5.aaload hx (j := (0 : Int32)) (v := .null) (by rw [e5]; exact Ar6.1) (State.isArrayOf_alike hZ.alike Ar6.2.1) rfl Ar6.2.2 hin6 hat6 (g := (mkF m 47 #[.val (.ref ad1), .val (.int (0 : Int32)), .val (.int iv1)] [(.int (0 : Int32)), (.ref ad9)])) rfl rfl (hb hby d36_47) _ k_) ?_
  show Go p e below _ (T5.setTop (mkF m 48 #[.val (.ref ad1), .val (.int (0 : Int32)), .val (.int iv1)] [.null]))
  refine Go.step (fun t_ k_ => XS.ifnonnullNo X5.here hx rfl (hb hby d36_48) rfl k_) ?_
  show Go p e below _ (T5.setTop (mkF m 51 #[.val (.ref ad1), .val (.int (0 : Int32)), .val (.int iv1)] []))
  refine gs.aloadN X5.here hx (hb hby d36_51) rfl rfl ?_
  refine gs.getF X5 hx hZ hown (wd hw 133 rfl) Via.refl e5 HF_ad1_Domains_holes (hb hby d36_52) fun T7 X7 e7 => ?_
  refine gs.iloadN X7.here hx (hb hby d36_55) rfl ?_
  refine gs.aloadN X7.here hx (hb hby d36_56) rfl rfl ?_
  refine gs.getF X7 hx hZ hown (wd hw 125 rfl) Via.refl e7 HF_ad1_Domains_initial (hb hby d36_57) fun T8 X8 e8 => ?_
  refine gs.iloadN X8.here hx (hb hby d36_60) rfl ?_
  obtain ⟨cl9, Ar9, q9, Sz9, Ng9, Hs9, G9⟩ := id HV_ad6
  have hin9 : ¬ ((0 : Int32) < 0 ∨ cl9.slots.size ≤ ((0 : Int32)).toNatClampNeg) := inb_of Sz9 ⟨by decide, by decide⟩
  have hat9 : cl9.slots[((0 : Int32)).toNatClampNeg]? = some (.ref ad2) := Has.at Hs9 hin9 rfl
  refine Go.step (fun t_ k_ => X8.aaload hx (j := (0 : Int32)) (v := (.ref ad2)) (by rw [e8]; exact Ar9.1) (State.isArrayOf_alike hZ.alike Ar9.2.1) rfl Ar9.2.2 hin9 hat9 (g := (mkF m 61 #[.val (.ref ad1), .val (.int (0 : Int32)), .val (.int iv1)] [(.int (0 : Int32)), (.ref ad6), (.int (0 : Int32)), (.ref ad9)])) rfl rfl (hb hby d36_61) _ k_) ?_
  show Go p e below _ (T8.setTop (mkF m 62 #[.val (.ref ad1), .val (.int (0 : Int32)), .val (.int iv1)] [(.ref ad2), (.int (0 : Int32)), (.ref ad9)]))
  obtain ⟨cq10, kq10, q10a, q10b, q10c⟩ := isOf hZ e8 HE_ad2
  obtain ⟨_, _, ⟨T10, L10, k10, n10⟩, -, X10, ⟨Lc10, hQ10, l10, y10, z10⟩, st10⟩ := X8.virtualBack hx (y := y_21) (z := y_21) hown (mvT hZ (wd hw 166 rfl)) (mvT hZ (wd hw 167 rfl)) (notFace_of_selects (args := #[]) (mvT hZ (wd hw 169 rfl))) (mvT hZ (wd hw 169 rfl)) (mvT hZ (wd hw 168 rfl)) (by decide) (backOf (W := 2) (am21_1 l Z a0 hw [] a_EMPTY_ELEMENTDATA aw0 ka_EMPTY_ELEMENTDATA kaw0 HW (ad2) h0 n0 Ol HF_ad2_InitialDomain_size) hZ (wd hw 170 rfl) (wd hw 2 rfl) (by decide) (by decide)) q10a q10c (g := (mkF m 62 #[.val (.ref ad1), .val (.int (0 : Int32)), .val (.int iv1)] [(.ref ad2), (.int (0 : Int32)), (.ref ad9)])) rfl (by rw [hml]; rfl) (Steps.refl _) (argsL := []) (rest := [(.int (0 : Int32)), (.ref ad9)]) (lenOf pd_9 rfl) rfl (by show 2 * 0 + _ ≤ _; exact Nat.le_of_eq rfl) (hb hby d36_62) (fun _ _ => ⟨rfl, e8, (by decide : 0 + 0 ≤ _), (by decide : 0 + 0 ≤ _)⟩)
  dsimp only [Pt.U, Pt.locs, Pt.cells, Pt.slots] at X10 l10 y10 z10 st10 hQ10
  subst l10 y10 z10
  obtain ⟨rfl, Nq10, e10⟩ := hQ10
  have N10 := Fr.app N0 Nq10
  refine Go.step (fun t_ k_ => st10.trans k_) ?_
  show Go p e below _ (T10.setTop (mkF m 65 #[.val (.ref ad1), .val (.int (0 : Int32)), .val (.int iv1)] [(.int (200 : Int32)), (.int (0 : Int32)), (.ref ad9)]))
  refine gs.bipush 63 X10.here hx (hb hby d36_65) rfl ?_
  refine gs.iadd X10.here hx (hb hby d36_67) ?_
  rw [show ((200 : Int32) + (63 : Int32)) = (263 : Int32) from by decide]
  refine gs.bipush 6 X10.here hx (hb hby d36_68) rfl ?_
  refine Go.step (fun t_ k_ => XS.iushr X10.here hx rfl (hb hby d36_70) rfl k_) ?_
  show Go p e below _ (T10.setTop (mkF m 71 #[.val (.ref ad1), .val (.int (0 : Int32)), .val (.int iv1)] [(.int (((263 : Int32).toUInt32 >>> ((6 : Int32) &&& 31).toUInt32).toInt32)), (.int (0 : Int32)), (.ref ad9)]))
  rw [show (((263 : Int32).toUInt32 >>> ((6 : Int32) &&& 31).toUInt32).toInt32) = (4 : Int32) from by decide]
  obtain ⟨T11, h11, k11, X11, e11, E11, A11, B11, st11⟩ := newPE X10 hx hZ (wd hw 108 rfl) e10 (g := (mkF m 71 #[.val (.ref ad1), .val (.int (0 : Int32)), .val (.int iv1)] [(.int (4 : Int32)), (.int (0 : Int32)), (.ref ad9)])) rfl (hb hby d36_71) rfl (by decide) (cap := 4) (by decide) (by decide) (by decide) (by decide) (ad := "[J") (by decide)
  obtain ⟨b11, g11⟩ : ∃ z, z = h0.size := ⟨_, rfl⟩
  rw [← g11] at A11 B11 st11
  have nn_b11 : n0 ≤ b11 := Nat.le_trans (old_z0 Ol) (Nat.le_of_eq g11.symm)
  have sz_b11 : h0.size ≤ b11 := Nat.le_trans kp0.1 (Nat.le_of_eq g11.symm)
  have old11 := Ol.ext E11
  have kp11 := kp0.ext E11
  have V11 : Arv Z h11 b11 k11 .long (4 : Int32) [(.long (0 : Int64)), (.long (0 : Int64)), (.long (0 : Int64)), (.long (0 : Int64))] (.long (0 : Int64)) := (Arv.new A11 (by decide)).pad (pad_rep [] (.long (0 : Int64)) 4)
  refine Go.step st11 ?_
  show Go p e below _ (T11.setTop (mkF m 73 #[.val (.ref ad1), .val (.int (0 : Int32)), .val (.int iv1)] [(.ref b11), (.int (0 : Int32)), (.ref ad9)]))
  have f12 := (HV_ad9.ext E11)
  obtain ⟨cl13, Ar13, q13, Sz13, Ng13, Hs13, G13⟩ := id f12
  have hin13 : ¬ ((0 : Int32) < 0 ∨ cl13.slots.size ≤ ((0 : Int32)).toNatClampNeg) := inb_of Sz13 ⟨by decide, by decide⟩
  obtain ⟨T14, h14, X14, e14, W14, st14⟩ := stR X11 hx hZ e11 Ar13 (j := (0 : Int32)) hin13 rfl (Sto.ofVA Ar13 q13 hO_ad9 (Ins.self B11)) (g := (mkF m 73 #[.val (.ref ad1), .val (.int (0 : Int32)), .val (.int iv1)] [(.ref b11), (.int (0 : Int32)), (.ref ad9)])) rfl rfl (hb hby d36_73)
  have N14 := Fr.snoc X14 N10 nn_ad9
  have old14 := old11.wr W14 nn_ad9
  have kp14 := kp11.wr W14 (Or.inl (List.mem_of_getElem? (i := 3) rfl))
  have V14 : Arv Z h14 ad9 kc1 (.array .long) (2 : Int32) [(.ref b11), .null] .null := Arv.set Ar13 q13 Sz13 Ng13 Hs13 G13 rfl W14 0 rfl (Nat.le_of_ble_eq_true rfl)
  refine Go.step st14 ?_
  show Go p e below _ (T14.setTop (mkF m 74 #[.val (.ref ad1), .val (.int (0 : Int32)), .val (.int iv1)] []))
  refine gs.aloadN X14.here hx (hb hby d36_74) rfl rfl ?_
  have f15 := ((HF_ad1_Domains_holes.ext E11).other W14 (Or.inl ne_ad1_ad9))
  refine gs.getF X14 hx hZ hown (wd hw 133 rfl) Via.refl e14 f15 (hb hby d36_75) fun T16 X16 e16 => ?_
  refine gs.iloadN X16.here hx (hb hby d36_78) rfl ?_
  obtain ⟨cl17, Ar17, q17, Sz17, Ng17, Hs17, G17⟩ := id V14
  have hin17 : ¬ ((0 : Int32) < 0 ∨ cl17.slots.size ≤ ((0 : Int32)).toNatClampNeg) := inb_of Sz17 ⟨by decide, by decide⟩
  have hat17 : cl17.slots[((0 : Int32)).toNatClampNeg]? = some (.ref b11) := Has.at Hs17 hin17 rfl
  refine Go.step (fun t_ k_ => X16.aaload hx (j := (0 : Int32)) (v := (.ref b11)) (by rw [e16]; exact Ar17.1) (State.isArrayOf_alike hZ.alike Ar17.2.1) rfl Ar17.2.2 hin17 hat17 (g := (mkF m 79 #[.val (.ref ad1), .val (.int (0 : Int32)), .val (.int iv1)] [(.int (0 : Int32)), (.ref ad9)])) rfl rfl (hb hby d36_79) _ k_) ?_
  show Go p e below _ (T16.setTop (mkF m 80 #[.val (.ref ad1), .val (.int (0 : Int32)), .val (.int iv1)] [(.ref b11)]))
  refine Go.step (fun t_ k_ => X16.ldc2Long hx hown (mvT hZ (wd hw 248 rfl)) (g := (mkF m 80 #[.val (.ref ad1), .val (.int (0 : Int32)), .val (.int iv1)] [(.ref b11)])) rfl (hb hby d36_80) _ k_) ?_
  show Go p e below _ (T16.setTop (mkF m 83 #[.val (.ref ad1), .val (.int (0 : Int32)), .val (.int iv1)] [(.long (-1 : Int64)), (.ref b11)]))
  have f18 := (B11.wr W14)
  have ne_ad9_b11 : ad9 ≠ b11 := Nat.ne_of_lt (Nat.lt_of_lt_of_le HE_ad9.lt (Nat.le_of_eq g11.symm))
  have f19 := (V11.other W14 (Ne.symm ne_ad9_b11))
  obtain ⟨_, _, ⟨T20, L20, k20, n20⟩, -, X20, ⟨Lc20, hQ20, l20, y20, z20⟩, st20⟩ := Jvm.LawKit.callS X16 hx (y := y_37) hown (mvT hZ (wd hw 249 rfl)) (mvT hZ (wd hw 250 rfl)) (mvT hZ (wd hw 251 rfl)) (mvT hZ (wd hw 252 rfl)) (by decide) (backOf (W := 0) (am37_1 l Z a0 hw [] a_EMPTY_ELEMENTDATA aw0 ka_EMPTY_ELEMENTDATA kaw0 HW (b11) (k11) h14 n0 old14 f18 f19 nn_b11) hZ (wd hw 252 rfl) (wd hw 251 rfl) (by decide) (by decide)) (g := (mkF m 83 #[.val (.ref ad1), .val (.int (0 : Int32)), .val (.int iv1)] [(.long (-1 : Int64)), (.ref b11)])) rfl (by rw [hml]; rfl) (argsL := [(.ref b11), (.long (-1 : Int64))]) (rest := []) (lenOf pd_21 rfl) rfl (by show 2 * 0 + _ ≤ _; exact Nat.le_of_eq rfl) (hb hby d36_83) (fun _ _ => ⟨rfl, e16, (by decide : 1 + 0 ≤ _), (by decide : 4 + 0 ≤ _)⟩)
  dsimp only [Pt.U, Pt.locs, Pt.cells, Pt.slots] at X20 l20 y20 z20 st20 hQ20
  subst l20 y20 z20
  obtain ⟨rfl, Nq20, K20, p20_0, p20_1⟩ := hQ20
  have old20 := old14.keep K20 (allS nn_b11 all0)
  have kp20 := kp14.trans K20 (allS (Or.inr sz_b11) all0)
  have N20 := Fr.app N14 Nq20
  refine Go.step st20 ?_
  show Go p e below _ (T20.setTop (mkF m 86 #[.val (.ref ad1), .val (.int (0 : Int32)), .val (.int iv1)] []))
  have g21_f : Arf Z T20.heap b11 k11 (4 : Int32) (fun _ => (-1 : Int64)) := Arf.of_list p20_1 (by intro i hi; have h4 : i < 4 := hi; rcases i with _ | _ | _ | _ | i <;> first | rfl | omega)
  refine gs.aloadN X20.here hx (hb hby d36_86) rfl rfl ?_
  have ne_ad1_b11 : ad1 ≠ b11 := Nat.ne_of_lt (Nat.lt_of_lt_of_le HE_ad1.lt (Nat.le_of_eq g11.symm))
  have f22 := (f15.keep K20 (ninS ne_ad1_b11 nin0))
  refine gs.getF X20 hx hZ hown (wd hw 133 rfl) Via.refl rfl f22 (hb hby d36_87) fun T23 X23 e23 => ?_
  refine gs.iloadN X23.here hx (hb hby d36_90) rfl ?_
  have f24 := (V14.keep K20 (ninS ne_ad9_b11 nin0))
  obtain ⟨cl25, Ar25, q25, Sz25, Ng25, Hs25, G25⟩ := id f24
  have hin25 : ¬ ((0 : Int32) < 0 ∨ cl25.slots.size ≤ ((0 : Int32)).toNatClampNeg) := inb_of Sz25 ⟨by decide, by decide⟩
  have hat25 : cl25.slots[((0 : Int32)).toNatClampNeg]? = some (.ref b11) := Has.at Hs25 hin25 rfl
  refine Go.step (fun t_ k_ => X23.aaload hx (j := (0 : Int32)) (v := (.ref b11)) (by rw [e23]; exact Ar25.1) (State.isArrayOf_alike hZ.alike Ar25.2.1) rfl Ar25.2.2 hin25 hat25 (g := (mkF m 91 #[.val (.ref ad1), .val (.int (0 : Int32)), .val (.int iv1)] [(.int (0 : Int32)), (.ref ad9)])) rfl rfl (hb hby d36_91) _ k_) ?_
  show Go p e below _ (T23.setTop (mkF m 92 #[.val (.ref ad1), .val (.int (0 : Int32)), .val (.int iv1)] [(.ref b11)]))
  refine gs.iloadN X23.here hx (hb hby d36_92) rfl ?_
  refine gs.bipush 6 X23.here hx (hb hby d36_93) rfl ?_
  refine Go.step (fun t_ k_ => XS.iushr X23.here hx rfl (hb hby d36_95) rfl k_) ?_
  show Go p e below _ (T23.setTop (mkF m 96 #[.val (.ref ad1), .val (.int (0 : Int32)), .val (.int iv1)] [(.int ((iv1.toUInt32 >>> ((6 : Int32) &&& 31).toUInt32).toInt32)), (.ref b11)]))
  refine gs.dup2 X23.here hx (hb hby d36_96) rfl rfl ?_
  obtain ⟨cl26, Ar26, q26, Sz26, Ng26, Hs26⟩ := id g21_f
  have hin26 : ¬ (((iv1.toUInt32 >>> ((6 : Int32) &&& 31).toUInt32).toInt32) < 0 ∨ cl26.slots.size ≤ (((iv1.toUInt32 >>> ((6 : Int32) &&& 31).toUInt32).toInt32)).toNatClampNeg) := inb_of Sz26 (inb_int as0)
  have hat26 : cl26.slots[(((iv1.toUInt32 >>> ((6 : Int32) &&& 31).toUInt32).toInt32)).toNatClampNeg]? = some (.long ((fun _ => (-1 : Int64)) (((iv1.toUInt32 >>> ((6 : Int32) &&& 31).toUInt32).toInt32)).toNatClampNeg)) := Hs26 _ (lt_of_in hin26)
  refine Go.step (fun t_ k_ => X23.laload hx (j := ((iv1.toUInt32 >>> ((6 : Int32) &&& 31).toUInt32).toInt32)) (v := (.long ((fun _ => (-1 : Int64)) (((iv1.toUInt32 >>> ((6 : Int32) &&& 31).toUInt32).toInt32)).toNatClampNeg))) (by rw [e23]; exact Ar26.1) (State.isArrayOf_alike hZ.alike Ar26.2.1) Ar26.2.2 hin26 hat26 (g := (mkF m 97 #[.val (.ref ad1), .val (.int (0 : Int32)), .val (.int iv1)] [(.int ((iv1.toUInt32 >>> ((6 : Int32) &&& 31).toUInt32).toInt32)), (.ref b11), (.int ((iv1.toUInt32 >>> ((6 : Int32) &&& 31).toUInt32).toInt32)), (.ref b11)])) rfl rfl (hb hby d36_97) _ k_) ?_
  show Go p e below _ (T23.setTop (mkF m 98 #[.val (.ref ad1), .val (.int (0 : Int32)), .val (.int iv1)] [(.long ((fun _ => (-1 : Int64)) (((iv1.toUInt32 >>> ((6 : Int32) &&& 31).toUInt32).toInt32)).toNatClampNeg)), (.int ((iv1.toUInt32 >>> ((6 : Int32) &&& 31).toUInt32).toInt32)), (.ref b11)]))
  show Go p e below _ (T23.setTop (mkF m 98 #[.val (.ref ad1), .val (.int (0 : Int32)), .val (.int iv1)] [(.long ((fun _ => (-1 : Int64)) (((iv1.toUInt32 >>> ((6 : Int32) &&& 31).toUInt32).toInt32)).toNatClampNeg)), (.int ((iv1.toUInt32 >>> ((6 : Int32) &&& 31).toUInt32).toInt32)), (.ref b11)]))
  show Go p e below _ (T23.setTop (mkF m 98 #[.val (.ref ad1), .val (.int (0 : Int32)), .val (.int iv1)] [(.long (-1 : Int64)), (.int ((iv1.toUInt32 >>> ((6 : Int32) &&& 31).toUInt32).toInt32)), (.ref b11)]))
  refine Go.step (fun t_ k_ => XS.lconst X23.here hx rfl (hb hby d36_98) k_) ?_
  show Go p e below _ (T23.setTop (mkF m 99 #[.val (.ref ad1), .val (.int (0 : Int32)), .val (.int iv1)] [(.long (1 : Int64)), (.long (-1 : Int64)), (.int ((iv1.toUInt32 >>> ((6 : Int32) &&& 31).toUInt32).toInt32)), (.ref b11)]))
  refine gs.iloadN X23.here hx (hb hby d36_99) rfl ?_
  refine Go.step (fun t_ k_ => XS.lshl X23.here hx rfl (hb hby d36_100) rfl k_) ?_
  show Go p e below _ (T23.setTop (mkF m 101 #[.val (.ref ad1), .val (.int (0 : Int32)), .val (.int iv1)] [(.long ((1 : Int64) <<< (iv1 &&& 0x3f).toInt64)), (.long (-1 : Int64)), (.int ((iv1.toUInt32 >>> ((6 : Int32) &&& 31).toUInt32).toInt32)), (.ref b11)]))
  refine Go.step (fun t_ k_ => X23.ldc2Long hx hown (mvT hZ (wd hw 248 rfl)) (g := (mkF m 101 #[.val (.ref ad1), .val (.int (0 : Int32)), .val (.int iv1)] [(.long ((1 : Int64) <<< (iv1 &&& 0x3f).toInt64)), (.long (-1 : Int64)), (.int ((iv1.toUInt32 >>> ((6 : Int32) &&& 31).toUInt32).toInt32)), (.ref b11)])) rfl (hb hby d36_101) _ k_) ?_
  show Go p e below _ (T23.setTop (mkF m 104 #[.val (.ref ad1), .val (.int (0 : Int32)), .val (.int iv1)] [(.long (-1 : Int64)), (.long ((1 : Int64) <<< (iv1 &&& 0x3f).toInt64)), (.long (-1 : Int64)), (.int ((iv1.toUInt32 >>> ((6 : Int32) &&& 31).toUInt32).toInt32)), (.ref b11)]))
  refine gs.lxor X23.here hx (hb hby d36_104) ?_
  refine gs.land X23.here hx (hb hby d36_105) ?_
  obtain ⟨cl27, Ar27, q27, Sz27, Ng27, Hs27⟩ := id g21_f
  have hin27 : ¬ (((iv1.toUInt32 >>> ((6 : Int32) &&& 31).toUInt32).toInt32) < 0 ∨ cl27.slots.size ≤ (((iv1.toUInt32 >>> ((6 : Int32) &&& 31).toUInt32).toInt32)).toNatClampNeg) := inb_of Sz27 (inb_int as0)
  obtain ⟨T28, h28, X28, e28, W28, st28⟩ := stJ X23 hx hZ e23 Ar27 (j := ((iv1.toUInt32 >>> ((6 : Int32) &&& 31).toUInt32).toInt32)) hin27 (g := (mkF m 106 #[.val (.ref ad1), .val (.int (0 : Int32)), .val (.int iv1)] [(.long ((-1 : Int64) &&& (((1 : Int64) <<< (iv1 &&& 0x3f).toInt64) ^^^ (-1 : Int64)))), (.int ((iv1.toUInt32 >>> ((6 : Int32) &&& 31).toUInt32).toInt32)), (.ref b11)])) rfl rfl (hb hby d36_106)
  have N28 := Fr.snoc X28 N20 nn_b11
  have old28 := old20.wr W28 nn_b11
  have kp28 := kp20.wr W28 (Or.inr sz_b11)
  have V28 : Arf Z h28 b11 k11 (4 : Int32) (fun i => if i = (((iv1.toUInt32 >>> ((6 : Int32) &&& 31).toUInt32).toInt32)).toNatClampNeg then ((-1 : Int64) &&& (((1 : Int64) <<< (iv1 &&& 0x3f).toInt64) ^^^ (-1 : Int64))) else (fun _ => (-1 : Int64)) i) := Arf.set Ar27 q27 Sz27 Ng27 Hs27 W28
  refine Go.step st28 ?_
  show Go p e below _ (T28.setTop (mkF m 107 #[.val (.ref ad1), .val (.int (0 : Int32)), .val (.int iv1)] []))
  refine gs.aloadN X28.here hx (hb hby d36_107) rfl rfl ?_
  refine gs.iloadN X28.here hx (hb hby d36_108) rfl ?_
  refine gs.aloadN X28.here hx (hb hby d36_109) rfl rfl ?_
  have f29 := ((((HF_ad1_Domains_sizes.ext E11).other W14 (Or.inl ne_ad1_ad9)).keep K20 (ninS ne_ad1_b11 nin0)).other W28 (Or.inl ne_ad1_b11))
  refine gs.getF X28 hx hZ hown (wd hw 135 rfl) Via.refl e28 f29 (hb hby d36_110) fun T30 X30 e30 => ?_
  refine gs.iloadN X30.here hx (hb hby d36_113) rfl ?_
  have ne_ad10_b11 : ad10 ≠ b11 := Nat.ne_of_lt (Nat.lt_of_lt_of_le HV_ad10.lt (Nat.le_of_eq g11.symm))
  have f31 := ((((HV_ad10.ext E11).other W14 ne_ad10_ad9).keep K20 (ninS ne_ad10_b11 nin0)).other W28 ne_ad10_b11)
  obtain ⟨cl32, Ar32, q32, Sz32, Ng32, Hs32, G32⟩ := id f31
  have hin32 : ¬ ((0 : Int32) < 0 ∨ cl32.slots.size ≤ ((0 : Int32)).toNatClampNeg) := inb_of Sz32 ⟨by decide, by decide⟩
  have hat32 : cl32.slots[((0 : Int32)).toNatClampNeg]? = some (.int iv5) := Has.at Hs32 hin32 rfl
  refine Go.step (fun t_ k_ => X30.iaload hx (j := (0 : Int32)) (v := (.int iv5)) (by rw [e30]; exact Ar32.1) (State.isArrayOf_alike hZ.alike Ar32.2.1) Ar32.2.2 hin32 hat32 (g := (mkF m 114 #[.val (.ref ad1), .val (.int (0 : Int32)), .val (.int iv1)] [(.int (0 : Int32)), (.ref ad10), (.int (0 : Int32)), (.ref ad1)])) rfl rfl (hb hby d36_114) _ k_) ?_
  show Go p e below _ (T30.setTop (mkF m 115 #[.val (.ref ad1), .val (.int (0 : Int32)), .val (.int iv1)] [(.int iv5), (.int (0 : Int32)), (.ref ad1)]))
  refine gs.iconst 1 X30.here hx (hb hby d36_115) rfl ?_
  refine gs.isub X30.here hx (hb hby d36_116) ?_
  have f33 := ((((HE_ad1.ext E11).wr W14).keep K20).wr W28)
  have f34 := ((((HF_ad1_Domains_trail.ext E11).other W14 (Or.inl ne_ad1_ad9)).keep K20 (ninS ne_ad1_b11 nin0)).other W28 (Or.inl ne_ad1_b11))
  have f35 := ((((HF_ad1_Domains_marks.ext E11).other W14 (Or.inl ne_ad1_ad9)).keep K20 (ninS ne_ad1_b11 nin0)).other W28 (Or.inl ne_ad1_b11))
  have f36 := ((((HF_ad1_Domains_initial.ext E11).other W14 (Or.inl ne_ad1_ad9)).keep K20 (ninS ne_ad1_b11 nin0)).other W28 (Or.inl ne_ad1_b11))
  have f37 := ((((HF_ad1_Domains_lower.ext E11).other W14 (Or.inl ne_ad1_ad9)).keep K20 (ninS ne_ad1_b11 nin0)).other W28 (Or.inl ne_ad1_b11))
  have f38 := ((((HF_ad1_Domains_upper.ext E11).other W14 (Or.inl ne_ad1_ad9)).keep K20 (ninS ne_ad1_b11 nin0)).other W28 (Or.inl ne_ad1_b11))
  have f39 := (f22.other W28 (Or.inl ne_ad1_b11))
  have f40 := ((((HF_ad1_Domains_withOneValue.ext E11).other W14 (Or.inl ne_ad1_ad9)).keep K20 (ninS ne_ad1_b11 nin0)).other W28 (Or.inl ne_ad1_b11))
  have f41 := ((((HF_ad1_Domains_trailSize.ext E11).other W14 (Or.inl ne_ad1_ad9)).keep K20 (ninS ne_ad1_b11 nin0)).other W28 (Or.inl ne_ad1_b11))
  have f42 := ((((HF_ad1_Domains_resized.ext E11).other W14 (Or.inl ne_ad1_ad9)).keep K20 (ninS ne_ad1_b11 nin0)).other W28 (Or.inl ne_ad1_b11))
  obtain ⟨cq43, q43, q43'⟩ := f33.cell
  obtain ⟨_, _, ⟨T43, L43, k43, n43⟩, -, X43, ⟨Lc43, hQ43, l43, y43, z43⟩, st43⟩ := X30.privateBack hx (y := y_31) hown (mvT hZ (wd hw 216 rfl)) (mvT hZ (wd hw 217 rfl)) (sel_priv hZ (wd hw 102 rfl) (wd hw 218 rfl) (wd hw 217 rfl) (by decide)) (Cond.privateMethod_at (mvP hZ (wd hw 218 rfl) (args := #[]))) (mvT hZ (wd hw 219 rfl)) (by decide) (backOf (W := 0) (am31_2 l Z a0 hw [] a_EMPTY_ELEMENTDATA aw0 ka_EMPTY_ELEMENTDATA kaw0 HW (ad1) ((iv5 - (1 : Int32))) (ad4) (ad5) (ad6) (ad7) (ad8) (ad9) (ad10) (iv2) (iv3) (kc5) (iv5) h28 n0 old28 f33 f34 f35 f36 f37 f38 f39 f29 f40 f41 f42 f31 nn_ad1 nn_ad10 ne_ad1_ad10) hZ (wd hw 219 rfl) (wd hw 103 rfl) (by decide) (by decide)) (g := (mkF m 117 #[.val (.ref ad1), .val (.int (0 : Int32)), .val (.int iv1)] [(.int (iv5 - (1 : Int32))), (.int (0 : Int32)), (.ref ad1)])) rfl (by rw [hml]; rfl) (Steps.refl _) (a := ad1) (by rw [e30]; exact q43) q43' (argsL := [(.int (0 : Int32)), (.int (iv5 - (1 : Int32)))]) (rest := []) (lenOf pd_17 rfl) rfl (by show 2 * 0 + _ ≤ _; exact Nat.le_of_eq rfl) (hb hby d36_117) (fun _ _ => ⟨rfl, e30, (by decide : 1 + 0 ≤ _), (by decide : 4 + 0 ≤ _)⟩)
  dsimp only [Pt.U, Pt.locs, Pt.cells, Pt.slots] at X43 l43 y43 z43 st43 hQ43
  subst l43 y43 z43
  obtain ⟨ex43_0, rfl, Nq43, K43, p43_0, p43_1, p43_2, p43_3, p43_4, p43_5, p43_6, p43_7, p43_8, p43_9, p43_10, p43_11⟩ := hQ43
  have old43 := old28.keep K43 (allS nn_ad1 (allS nn_ad10 all0))
  have kp43 := kp28.trans K43 (allS (Or.inl (List.mem_of_getElem? (i := 0) rfl)) (allS (Or.inl (List.mem_of_getElem? (i := 1) rfl)) all0))
  have N43 := Fr.app N28 Nq43
  refine Go.step (fun t_ k_ => st43.trans k_) ?_
  show Go p e below _ (T43.setTop (mkF m 120 #[.val (.ref ad1), .val (.int (0 : Int32)), .val (.int iv1)] []))
  refine gs.aloadN X43.here hx (hb hby d36_120) rfl rfl ?_
  refine gs.iloadN X43.here hx (hb hby d36_121) rfl ?_
  refine gs.iconst 0 X43.here hx (hb hby d36_122) rfl ?_
  refine gs.iloadN X43.here hx (hb hby d36_123) rfl ?_
  have f44 := (((((HE_ad4.ext E11).wr W14).keep K20).wr W28).keep K43)
  have ne_ad4_b11 : ad4 ≠ b11 := Nat.ne_of_lt (Nat.lt_of_lt_of_le HE_ad4.lt (Nat.le_of_eq g11.symm))
  have f45 := (((((HG_ad4.ext E11).other W14 ne_ad4_ad9).keep K20 (ninS ne_ad4_b11 nin0)).other W28 ne_ad4_b11).keep K43 (ninS (Ne.symm ne_ad1_ad4) (ninS (Ne.symm ne_ad10_ad4) nin0)))
  obtain ⟨cq46, q46, q46'⟩ := p43_0.cell
  obtain ⟨_, _, ⟨T46, L46, k46, n46⟩, -, X46, ⟨Lc46, hQ46, l46, y46, z46⟩, st46⟩ := X43.privateBack hx (y := y_32) hown (mvT hZ (wd hw 220 rfl)) (mvT hZ (wd hw 221 rfl)) (sel_priv hZ (wd hw 102 rfl) (wd hw 222 rfl) (wd hw 221 rfl) (by decide)) (Cond.privateMethod_at (mvP hZ (wd hw 222 rfl) (args := #[]))) (mvT hZ (wd hw 223 rfl)) (by decide) (backOf (W := 0) (am32_3 l Z a0 hw [] a_EMPTY_ELEMENTDATA aw0 ka_EMPTY_ELEMENTDATA kaw0 HW (ad1) (iv1) (ad4) (ad5) (ad6) (ad7) (ad8) (ad9) (ad10) (ex43_0) (iv3) (kc7) (fv7) T43.heap n0 old43 p43_0 p43_7 p43_4 p43_2 p43_3 p43_9 p43_1 p43_6 p43_10 p43_8 p43_5 f44 f45 nn_ad1 nn_ad4 ne_ad1_ad4 as1 as4) hZ (wd hw 223 rfl) (wd hw 103 rfl) (by decide) (by decide)) (g := (mkF m 124 #[.val (.ref ad1), .val (.int (0 : Int32)), .val (.int iv1)] [(.int iv1), (.int (0 : Int32)), (.int (0 : Int32)), (.ref ad1)])) rfl (by rw [hml]; rfl) (Steps.refl _) (a := ad1) q46 q46' (argsL := [(.int (0 : Int32)), (.int (0 : Int32)), (.int iv1)]) (rest := []) (lenOf pd_18 rfl) rfl (by show 2 * 0 + _ ≤ _; exact Nat.le_of_eq rfl) (hb hby d36_124) (fun _ _ => ⟨rfl, rfl, (by decide : 1 + 0 ≤ _), (by decide : 4 + 0 ≤ _)⟩)
  dsimp only [Pt.U, Pt.locs, Pt.cells, Pt.slots] at X46 l46 y46 z46 st46 hQ46
  subst l46 y46 z46
  obtain ⟨rfl, Nq46, K46, p46_0, p46_1, p46_2, p46_3, p46_4, p46_5, p46_6, p46_7, p46_8, p46_9, p46_10, p46_11, p46_12⟩ := hQ46
  have old46 := old43.keep K46 (allS nn_ad1 (allS nn_ad4 all0))
  have kp46 := kp43.trans K46 (allS (Or.inl (List.mem_of_getElem? (i := 0) rfl)) (allS (Or.inl (List.mem_of_getElem? (i := 2) rfl)) all0))
  have N46 := Fr.app N43 Nq46
  refine Go.step (fun t_ k_ => st46.trans k_) ?_
  show Go p e below _ (T46.setTop (mkF m 127 #[.val (.ref ad1), .val (.int (0 : Int32)), .val (.int iv1)] []))
  have f47 := (p43_11.keep K46 (ninS (Ne.symm ne_ad1_ad10) (ninS ne_ad10_ad4 nin0)))
  have f48 := ((((((HE_ad9.ext E11).wr W14).keep K20).wr W28).keep K43).keep K46)
  have f49 := (((f24.other W28 ne_ad9_b11).keep K43 (ninS (Ne.symm ne_ad1_ad9) (ninS (Ne.symm ne_ad10_ad9) nin0))).keep K46 (ninS (Ne.symm ne_ad1_ad9) (ninS (Ne.symm ne_ad4_ad9) nin0)))
  have f50 := (((p20_0.wr W28).keep K43).keep K46)
  have f51 := ((V28.keep K43 (ninS (Ne.symm ne_ad1_b11) (ninS (Ne.symm ne_ad10_b11) nin0))).keep K46 (ninS (Ne.symm ne_ad1_b11) (ninS (Ne.symm ne_ad4_b11) nin0)))
  refine Go.retV X46 hx Bd.returns Bd.notSynchronized (hb hby d36_127) (by exact ⟨b11, k11, (ex43_0), rfl, sz_b11, N46, kp46, p46_0, p46_1, p46_2, p46_3, p46_4, p46_5, p46_6, p46_7, p46_8, p46_9, p46_10, f47, p46_11, p46_12, f48, f49, f50, f51⟩) (by decide) (by decide)
theorem d33_29 : decode prog_11_method_8_code 29 = .ok (.aload_n 0, 1) := by decide +kernel
theorem d33_30 : decode prog_11_method_8_code 30 = .ok (.getfield 36, 3) := by decide +kernel
theorem d33_33 : decode prog_11_method_8_code 33 = .ok (.iload_n 1, 1) := by decide +kernel
theorem d33_34 : decode prog_11_method_8_code 34 = .ok (.aaload, 1) := by decide +kernel
theorem d33_35 : decode prog_11_method_8_code 35 = .ok (.iload_n 2, 1) := by decide +kernel
theorem d33_36 : decode prog_11_method_8_code 36 = .ok (.bipush 6, 2) := by decide +kernel
theorem d33_38 : decode prog_11_method_8_code 38 = .ok (.iushr, 1) := by decide +kernel
theorem d33_39 : decode prog_11_method_8_code 39 = .ok (.laload, 1) := by decide +kernel
theorem d33_40 : decode prog_11_method_8_code 40 = .ok (.lconst 1, 1) := by decide +kernel
theorem d33_41 : decode prog_11_method_8_code 41 = .ok (.iload_n 2, 1) := by decide +kernel
theorem d33_42 : decode prog_11_method_8_code 42 = .ok (.lshl, 1) := by decide +kernel
theorem d33_43 : decode prog_11_method_8_code 43 = .ok (.land, 1) := by decide +kernel
theorem d33_44 : decode prog_11_method_8_code 44 = .ok (.lconst 0, 1) := by decide +kernel
theorem d33_45 : decode prog_11_method_8_code 45 = .ok (.lcmp, 1) := by decide +kernel
theorem d33_46 : decode prog_11_method_8_code 46 = .ok (.ifCond .eq 7, 3) := by decide +kernel
theorem ef_am33_7 (m : MethodId) (x0 : Addr) (x1 : Int32) (x2 : Int32)  : entryFrame m #[(.ref x0), (.int x1), (.int x2)] 3 = mkF m 0 #[.val (.ref x0), .val (.int x1), .val (.int x2)] [] := by first | (simp [entryFrame, mkF, argsToLocals, Value.category]; done) | rfl
def Q_am33_7 (Z : State) (a_EMPTY_ELEMENTDATA : Addr) (aw0 : Addr) (ka_EMPTY_ELEMENTDATA : ClassId) (kaw0 : ClassId) (ad1 : Addr) (iv1 : Int32) (ad7 : Addr) (ad8 : Addr) (ad9 : Addr) (kc1 : ClassId) (ad11 : Addr) (kc3 : ClassId) (iv4 : Int32) (kc6 : ClassId) (iv6 : Int32) (kc8 : ClassId) (fv8 : Nat → Int64) (h0 : Heap) (n0 : Nat) (v : Option Value) (h : Heap) (L : List Loc) : Prop := v = some (.int (0 : Int32)) ∧ Fr n0 L ∧ h = h0
set_option maxRecDepth 65536 in
set_option maxHeartbeats 40000000 in
theorem am33_7 (l : Launch) (Z : State) (a0 : Array Value) (hw : ∀ d ∈ tables_1, d.before a0 Z = true) (ws : List Jvm.Cond) (a_EMPTY_ELEMENTDATA : Addr) (aw0 : Addr) (ka_EMPTY_ELEMENTDATA : ClassId) (kaw0 : ClassId) (HW : Wd Z a_EMPTY_ELEMENTDATA aw0 ka_EMPTY_ELEMENTDATA kaw0) (ad1 : Addr) (iv1 : Int32) (ad7 : Addr) (ad8 : Addr) (ad9 : Addr) (kc1 : ClassId) (ad11 : Addr) (kc3 : ClassId) (iv4 : Int32) (kc6 : ClassId) (iv6 : Int32) (kc8 : ClassId) (fv8 : Nat → Int64) (h0 : Heap) (n0 : Nat) (Ol : Old Z n0 h0) (HF_ad1_Domains_lower : Fld Z h0 ad1 "com/example/monarc/monarc/Domains" "lower" "[I" (.ref ad7)) (HF_ad1_Domains_upper : Fld Z h0 ad1 "com/example/monarc/monarc/Domains" "upper" "[I" (.ref ad8)) (HF_ad1_Domains_holes : Fld Z h0 ad1 "com/example/monarc/monarc/Domains" "holes" "[[J" (.ref ad9)) (HV_ad9 : Arv Z h0 ad9 kc1 (.array .long) (2 : Int32) [(.ref ad11), .null] .null) (HV_ad7 : Arv Z h0 ad7 kc3 .int (2 : Int32) [(.int iv4), (.int (0 : Int32))] (.int (0 : Int32))) (HV_ad8 : Arv Z h0 ad8 kc6 .int (2 : Int32) [(.int iv6), (.int (99 : Int32))] (.int (0 : Int32))) (HG_ad11 : Arf Z h0 ad11 kc8 (4 : Int32) fv8) (as0 : (lcmpW ((fv8 (((iv1.toUInt32 >>> ((6 : Int32) &&& 31).toUInt32).toInt32)).toNatClampNeg) &&& ((1 : Int64) <<< (iv1 &&& 0x3f).toInt64)) (0 : Int64)) = (0 : Int32)) (as1 : 0 ≤ (((iv1.toUInt32 >>> ((6 : Int32) &&& 31).toUInt32).toInt32)).toInt ∧ (((iv1.toUInt32 >>> ((6 : Int32) &&& 31).toUInt32).toInt32)).toInt < ((4 : Int32)).toInt) (as2 : ¬ (iv1 < iv4)) (as3 : ¬ (iv6 < iv1)) (hO_ad9 : OvrA Z kc1 .long "[J") :
    MetFree l y_33 (head1 (Jvm.Cond.code y_33 prog_11_method_8_code 3 (some .boolean) :: ws) ({ frames := 0, cells := 0, slots := 0, locals := 0 } : Room)) (fun a_ U_ => a_ = #[(.ref ad1), (.int (0 : Int32)), (.int iv1)] ∧ Z.Warmed39 U_.vm ∧ U_.heap = h0) (fun _ _ _ _ _ => True) (fun _ U_ o_ V_ => ∃ v_ L_, o_ = .returned v_ ∧ Q_am33_7 Z a_EMPTY_ELEMENTDATA aw0 ka_EMPTY_ELEMENTDATA kaw0 ad1 iv1 ad7 ad8 ad9 kc1 ad11 kc3 iv4 kc6 iv6 kc8 fv8 h0 n0 v_ V_.heap L_ ∧ FrameEnd U_ o_ V_ L_ ({ frames := 0, cells := 0, slots := 0, locals := 0 } : Room).cells ({ frames := 0, cells := 0, slots := 0, locals := 0 } : Room).slots) := by
  refine MetFree.of_bodySF (plainFor_of_name pn_8) hisR ?_
  intro p e s m args below meth c s₁ Bd hml0 hP hK
  obtain ⟨rfl, hZ, hh⟩ := hP
  have hx := Bd.exec
  have hby := Bd.bytes
  have hml : c.maxLocals = 3 := hml0
  have hown : s.vm.findClass "com/example/monarc/monarc/Domains" = some m.cls := findClass_of_methodNamed Bd.named
  have hnm := (name_of_methodNamed Bd.named Bd.method).1
  have X0 : Stand p l e ({ frames := 0, cells := 0, slots := 0, locals := 0 } : Room) s m #[(.ref ad1), (.int (0 : Int32)), (.int iv1)] below meth c s₁ [] 0 0 := Stand.of_body Bd
  have e0 : s₁.heap = h0 := by rw [← hh, Bd.state]; rfl
  have N0 := Fr.nil n0
  have kp0 := Keep.refl h0 []
  show Go p e below (Fin1 s below (Q_am33_7 Z a_EMPTY_ELEMENTDATA aw0 ka_EMPTY_ELEMENTDATA kaw0 ad1 iv1 ad7 ad8 ad9 kc1 ad11 kc3 iv4 kc6 iv6 kc8 fv8 h0 n0) ({ frames := 0, cells := 0, slots := 0, locals := 0 } : Room).cells ({ frames := 0, cells := 0, slots := 0, locals := 0 } : Room).slots) _
  refine Go.step (fun t_ k_ => castTop (ef_am33_7 m ad1 (0 : Int32) iv1) k_) ?_
  obtain ⟨Ea_EMPTY_ELEMENTDATA, Sa_EMPTY_ELEMENTDATA, Eaw0, Saw0, Aa_EMPTY_ELEMENTDATA, Aaw0⟩ := id HW
  show Go p e below _ (s₁.setTop (mkF m 0 #[.val (.ref ad1), .val (.int (0 : Int32)), .val (.int iv1)] []))
  refine gs.aloadN X0.here hx (hb hby d33_0) rfl rfl ?_
  refine gs.getF X0 hx hZ hown (wd hw 127 rfl) Via.refl e0 HF_ad1_Domains_lower (hb hby d33_1) fun T1 X1 e1 => ?_
  refine gs.iloadN X1.here hx (hb hby d33_4) rfl ?_
  obtain ⟨cl2, Ar2, q2, Sz2, Ng2, Hs2, G2⟩ := id HV_ad7
  have hin2 : ¬ ((0 : Int32) < 0 ∨ cl2.slots.size ≤ ((0 : Int32)).toNatClampNeg) := inb_of Sz2 ⟨by decide, by decide⟩
  have hat2 : cl2.slots[((0 : Int32)).toNatClampNeg]? = some (.int iv4) := Has.at Hs2 hin2 rfl
  refine Go.step (fun t_ k_ => X1.iaload hx (j := (0 : Int32)) (v := (.int iv4)) (by rw [e1]; exact Ar2.1) (State.isArrayOf_alike hZ.alike Ar2.2.1) Ar2.2.2 hin2 hat2 (g := (mkF m 5 #[.val (.ref ad1), .val (.int (0 : Int32)), .val (.int iv1)] [(.int (0 : Int32)), (.ref ad7)])) rfl rfl (hb hby d33_5) _ k_) ?_
  show Go p e below _ (T1.setTop (mkF m 6 #[.val (.ref ad1), .val (.int (0 : Int32)), .val (.int iv1)] [(.int iv4)]))
  refine gs.iloadN X1.here hx (hb hby d33_6) rfl ?_
  have hc7 : ¬ (iv1 < iv4) := as2
  refine gs.icmpNo X1.here hx (hb hby d33_7) (flt hc7).2.2.1 ?_
  refine gs.iloadN X1.here hx (hb hby d33_10) rfl ?_
  refine gs.aloadN X1.here hx (hb hby d33_11) rfl rfl ?_
  refine gs.getF X1 hx hZ hown (wd hw 129 rfl) Via.refl e1 HF_ad1_Domains_upper (hb hby d33_12) fun T3 X3 e3 => ?_
  refine gs.iloadN X3.here hx (hb hby d33_15) rfl ?_
  obtain ⟨cl4, Ar4, q4, Sz4, Ng4, Hs4, G4⟩ := id HV_ad8
  have hin4 : ¬ ((0 : Int32) < 0 ∨ cl4.slots.size ≤ ((0 : Int32)).toNatClampNeg) := inb_of Sz4 ⟨by decide, by decide⟩
  have hat4 : cl4.slots[((0 : Int32)).toNatClampNeg]? = some (.int iv6) := Has.at Hs4 hin4 rfl
  refine Go.step (fun t_ k_ => X3.iaload hx (j := (0 : Int32)) (v := (.int iv6)) (by rw [e3]; exact Ar4.1) (State.isArrayOf_alike hZ.alike Ar4.2.1) Ar4.2.2 hin4 hat4 (g := (mkF m 16 #[.val (.ref ad1), .val (.int (0 : Int32)), .val (.int iv1)] [(.int (0 : Int32)), (.ref ad8), (.int iv1)])) rfl rfl (hb hby d33_16) _ k_) ?_
  show Go p e below _ (T3.setTop (mkF m 17 #[.val (.ref ad1), .val (.int (0 : Int32)), .val (.int iv1)] [(.int iv6), (.int iv1)]))
  have hc17 : ¬ (iv6 < iv1) := as3
  refine gs.icmpNo X3.here hx (hb hby d33_17) (flt hc17).2.2.1 ?_
  refine gs.aloadN X3.here hx (hb hby d33_20) rfl rfl ?_
  refine gs.getF X3 hx hZ hown (wd hw 133 rfl) Via.refl e3 HF_ad1_Domains_holes (hb hby d33_21) fun T5 X5 e5 => ?_
  refine gs.iloadN X5.here hx (hb hby d33_24) rfl ?_
  obtain ⟨cl6, Ar6, q6, Sz6, Ng6, Hs6, G6⟩ := id HV_ad9
  have hin6 : ¬ ((0 : Int32) < 0 ∨ cl6.slots.size ≤ ((0 : Int32)).toNatClampNeg) := inb_of Sz6 ⟨by decide, by decide⟩
  have hat6 : cl6.slots[((0 : Int32)).toNatClampNeg]? = some (.ref ad11) := Has.at Hs6 hin6 rfl
  refine Go.step (fun t_ k_ => X5.aaload hx (j := (0 : Int32)) (v := (.ref ad11)) (by rw [e5]; exact Ar6.1) (State.isArrayOf_alike hZ.alike Ar6.2.1) rfl Ar6.2.2 hin6 hat6 (g := (mkF m 25 #[.val (.ref ad1), .val (.int (0 : Int32)), .val (.int iv1)] [(.int (0 : Int32)), (.ref ad9)])) rfl rfl (hb hby d33_25) _ k_) ?_
  show Go p e below _ (T5.setTop (mkF m 26 #[.val (.ref ad1), .val (.int (0 : Int32)), .val (.int iv1)] [(.ref ad11)]))
  refine Go.step (fun t_ k_ => XS.ifnullNo X5.here hx rfl (hb hby d33_26) rfl k_) ?_
  show Go p e below _ (T5.setTop (mkF m 29 #[.val (.ref ad1), .val (.int (0 : Int32)), .val (.int iv1)] []))
  refine gs.aloadN X5.here hx (hb hby d33_29) rfl rfl ?_
  refine gs.getF X5 hx hZ hown (wd hw 133 rfl) Via.refl e5 HF_ad1_Domains_holes (hb hby d33_30) fun T7 X7 e7 => ?_
  refine gs.iloadN X7.here hx (hb hby d33_33) rfl ?_
  obtain ⟨cl8, Ar8, q8, Sz8, Ng8, Hs8, G8⟩ := id HV_ad9
  have hin8 : ¬ ((0 : Int32) < 0 ∨ cl8.slots.size ≤ ((0 : Int32)).toNatClampNeg) := inb_of Sz8 ⟨by decide, by decide⟩
  have hat8 : cl8.slots[((0 : Int32)).toNatClampNeg]? = some (.ref ad11) := Has.at Hs8 hin8 rfl
  refine Go.step (fun t_ k_ => X7.aaload hx (j := (0 : Int32)) (v := (.ref ad11)) (by rw [e7]; exact Ar8.1) (State.isArrayOf_alike hZ.alike Ar8.2.1) rfl Ar8.2.2 hin8 hat8 (g := (mkF m 34 #[.val (.ref ad1), .val (.int (0 : Int32)), .val (.int iv1)] [(.int (0 : Int32)), (.ref ad9)])) rfl rfl (hb hby d33_34) _ k_) ?_
  show Go p e below _ (T7.setTop (mkF m 35 #[.val (.ref ad1), .val (.int (0 : Int32)), .val (.int iv1)] [(.ref ad11)]))
  refine gs.iloadN X7.here hx (hb hby d33_35) rfl ?_
  refine gs.bipush 6 X7.here hx (hb hby d33_36) rfl ?_
  refine Go.step (fun t_ k_ => XS.iushr X7.here hx rfl (hb hby d33_38) rfl k_) ?_
  show Go p e below _ (T7.setTop (mkF m 39 #[.val (.ref ad1), .val (.int (0 : Int32)), .val (.int iv1)] [(.int ((iv1.toUInt32 >>> ((6 : Int32) &&& 31).toUInt32).toInt32)), (.ref ad11)]))
  obtain ⟨cl9, Ar9, q9, Sz9, Ng9, Hs9⟩ := id HG_ad11
  have hin9 : ¬ (((iv1.toUInt32 >>> ((6 : Int32) &&& 31).toUInt32).toInt32) < 0 ∨ cl9.slots.size ≤ (((iv1.toUInt32 >>> ((6 : Int32) &&& 31).toUInt32).toInt32)).toNatClampNeg) := inb_of Sz9 (inb_int as1)
  have hat9 : cl9.slots[(((iv1.toUInt32 >>> ((6 : Int32) &&& 31).toUInt32).toInt32)).toNatClampNeg]? = some (.long (fv8 (((iv1.toUInt32 >>> ((6 : Int32) &&& 31).toUInt32).toInt32)).toNatClampNeg)) := Hs9 _ (lt_of_in hin9)
  refine Go.step (fun t_ k_ => X7.laload hx (j := ((iv1.toUInt32 >>> ((6 : Int32) &&& 31).toUInt32).toInt32)) (v := (.long (fv8 (((iv1.toUInt32 >>> ((6 : Int32) &&& 31).toUInt32).toInt32)).toNatClampNeg))) (by rw [e7]; exact Ar9.1) (State.isArrayOf_alike hZ.alike Ar9.2.1) Ar9.2.2 hin9 hat9 (g := (mkF m 39 #[.val (.ref ad1), .val (.int (0 : Int32)), .val (.int iv1)] [(.int ((iv1.toUInt32 >>> ((6 : Int32) &&& 31).toUInt32).toInt32)), (.ref ad11)])) rfl rfl (hb hby d33_39) _ k_) ?_
  show Go p e below _ (T7.setTop (mkF m 40 #[.val (.ref ad1), .val (.int (0 : Int32)), .val (.int iv1)] [(.long (fv8 (((iv1.toUInt32 >>> ((6 : Int32) &&& 31).toUInt32).toInt32)).toNatClampNeg))]))
  refine Go.step (fun t_ k_ => XS.lconst X7.here hx rfl (hb hby d33_40) k_) ?_
  show Go p e below _ (T7.setTop (mkF m 41 #[.val (.ref ad1), .val (.int (0 : Int32)), .val (.int iv1)] [(.long (1 : Int64)), (.long (fv8 (((iv1.toUInt32 >>> ((6 : Int32) &&& 31).toUInt32).toInt32)).toNatClampNeg))]))
  refine gs.iloadN X7.here hx (hb hby d33_41) rfl ?_
  refine Go.step (fun t_ k_ => XS.lshl X7.here hx rfl (hb hby d33_42) rfl k_) ?_
  show Go p e below _ (T7.setTop (mkF m 43 #[.val (.ref ad1), .val (.int (0 : Int32)), .val (.int iv1)] [(.long ((1 : Int64) <<< (iv1 &&& 0x3f).toInt64)), (.long (fv8 (((iv1.toUInt32 >>> ((6 : Int32) &&& 31).toUInt32).toInt32)).toNatClampNeg))]))
  refine gs.land X7.here hx (hb hby d33_43) ?_
  refine Go.step (fun t_ k_ => XS.lconst X7.here hx rfl (hb hby d33_44) k_) ?_
  show Go p e below _ (T7.setTop (mkF m 45 #[.val (.ref ad1), .val (.int (0 : Int32)), .val (.int iv1)] [(.long (0 : Int64)), (.long ((fv8 (((iv1.toUInt32 >>> ((6 : Int32) &&& 31).toUInt32).toInt32)).toNatClampNeg) &&& ((1 : Int64) <<< (iv1 &&& 0x3f).toInt64)))]))
  refine Go.step (fun t_ k_ => XS.lcmp X7.here hx rfl (hb hby d33_45) rfl k_) ?_
  show Go p e below _ (T7.setTop (mkF m 46 #[.val (.ref ad1), .val (.int (0 : Int32)), .val (.int iv1)] [(.int (lcmpW ((fv8 (((iv1.toUInt32 >>> ((6 : Int32) &&& 31).toUInt32).toInt32)).toNatClampNeg) &&& ((1 : Int64) <<< (iv1 &&& 0x3f).toInt64)) (0 : Int64)))]))
  have hc46 : (lcmpW ((fv8 (((iv1.toUInt32 >>> ((6 : Int32) &&& 31).toUInt32).toInt32)).toNatClampNeg) &&& ((1 : Int64) <<< (iv1 &&& 0x3f).toInt64)) (0 : Int64)) = (0 : Int32) := as0
  refine gs.ifYes 53 X7.here hx (hb hby d33_46) ((if0 _ _).trans (teq hc46).1) rfl ?_
  refine gs.iconst 0 X7.here hx (hb hby d33_53) rfl ?_
  refine Go.retZ X7 hx (t := .boolean) Bd.returns (by simp) Bd.notSynchronized (hb hby d33_54) (by rw [e7]; exact ⟨rfl, N0, rfl⟩) (by decide) (by decide)
theorem ef_am33_8 (m : MethodId) (x0 : Addr) (x1 : Int32) (x2 : Int32)  : entryFrame m #[(.ref x0), (.int x1), (.int x2)] 3 = mkF m 0 #[.val (.ref x0), .val (.int x1), .val (.int x2)] [] := by first | (simp [entryFrame, mkF, argsToLocals, Value.category]; done) | rfl
def Q_am33_8 (Z : State) (a_EMPTY_ELEMENTDATA : Addr) (aw0 : Addr) (ka_EMPTY_ELEMENTDATA : ClassId) (kaw0 : ClassId) (ad1 : Addr) (iv1 : Int32) (ad7 : Addr) (ad8 : Addr) (ad9 : Addr) (kc1 : ClassId) (ad11 : Addr) (kc3 : ClassId) (iv4 : Int32) (kc6 : ClassId) (iv6 : Int32) (kc8 : ClassId) (fv8 : Nat → Int64) (h0 : Heap) (n0 : Nat) (v : Option Value) (h : Heap) (L : List Loc) : Prop := v = some (.int (1 : Int32)) ∧ Fr n0 L ∧ h = h0
set_option maxRecDepth 65536 in
set_option maxHeartbeats 40000000 in
theorem am33_8 (l : Launch) (Z : State) (a0 : Array Value) (hw : ∀ d ∈ tables_1, d.before a0 Z = true) (ws : List Jvm.Cond) (a_EMPTY_ELEMENTDATA : Addr) (aw0 : Addr) (ka_EMPTY_ELEMENTDATA : ClassId) (kaw0 : ClassId) (HW : Wd Z a_EMPTY_ELEMENTDATA aw0 ka_EMPTY_ELEMENTDATA kaw0) (ad1 : Addr) (iv1 : Int32) (ad7 : Addr) (ad8 : Addr) (ad9 : Addr) (kc1 : ClassId) (ad11 : Addr) (kc3 : ClassId) (iv4 : Int32) (kc6 : ClassId) (iv6 : Int32) (kc8 : ClassId) (fv8 : Nat → Int64) (h0 : Heap) (n0 : Nat) (Ol : Old Z n0 h0) (HF_ad1_Domains_lower : Fld Z h0 ad1 "com/example/monarc/monarc/Domains" "lower" "[I" (.ref ad7)) (HF_ad1_Domains_upper : Fld Z h0 ad1 "com/example/monarc/monarc/Domains" "upper" "[I" (.ref ad8)) (HF_ad1_Domains_holes : Fld Z h0 ad1 "com/example/monarc/monarc/Domains" "holes" "[[J" (.ref ad9)) (HV_ad9 : Arv Z h0 ad9 kc1 (.array .long) (2 : Int32) [(.ref ad11), .null] .null) (HV_ad7 : Arv Z h0 ad7 kc3 .int (2 : Int32) [(.int iv4), (.int (0 : Int32))] (.int (0 : Int32))) (HV_ad8 : Arv Z h0 ad8 kc6 .int (2 : Int32) [(.int iv6), (.int (99 : Int32))] (.int (0 : Int32))) (HG_ad11 : Arf Z h0 ad11 kc8 (4 : Int32) fv8) (as0 : ¬ ((lcmpW ((fv8 (((iv1.toUInt32 >>> ((6 : Int32) &&& 31).toUInt32).toInt32)).toNatClampNeg) &&& ((1 : Int64) <<< (iv1 &&& 0x3f).toInt64)) (0 : Int64)) = (0 : Int32))) (as1 : 0 ≤ (((iv1.toUInt32 >>> ((6 : Int32) &&& 31).toUInt32).toInt32)).toInt ∧ (((iv1.toUInt32 >>> ((6 : Int32) &&& 31).toUInt32).toInt32)).toInt < ((4 : Int32)).toInt) (as2 : ¬ (iv1 < iv4)) (as3 : ¬ (iv6 < iv1)) (hO_ad9 : OvrA Z kc1 .long "[J") :
    MetFree l y_33 (head1 (Jvm.Cond.code y_33 prog_11_method_8_code 3 (some .boolean) :: ws) ({ frames := 0, cells := 0, slots := 0, locals := 0 } : Room)) (fun a_ U_ => a_ = #[(.ref ad1), (.int (0 : Int32)), (.int iv1)] ∧ Z.Warmed39 U_.vm ∧ U_.heap = h0) (fun _ _ _ _ _ => True) (fun _ U_ o_ V_ => ∃ v_ L_, o_ = .returned v_ ∧ Q_am33_8 Z a_EMPTY_ELEMENTDATA aw0 ka_EMPTY_ELEMENTDATA kaw0 ad1 iv1 ad7 ad8 ad9 kc1 ad11 kc3 iv4 kc6 iv6 kc8 fv8 h0 n0 v_ V_.heap L_ ∧ FrameEnd U_ o_ V_ L_ ({ frames := 0, cells := 0, slots := 0, locals := 0 } : Room).cells ({ frames := 0, cells := 0, slots := 0, locals := 0 } : Room).slots) := by
  refine MetFree.of_bodySF (plainFor_of_name pn_8) hisR ?_
  intro p e s m args below meth c s₁ Bd hml0 hP hK
  obtain ⟨rfl, hZ, hh⟩ := hP
  have hx := Bd.exec
  have hby := Bd.bytes
  have hml : c.maxLocals = 3 := hml0
  have hown : s.vm.findClass "com/example/monarc/monarc/Domains" = some m.cls := findClass_of_methodNamed Bd.named
  have hnm := (name_of_methodNamed Bd.named Bd.method).1
  have X0 : Stand p l e ({ frames := 0, cells := 0, slots := 0, locals := 0 } : Room) s m #[(.ref ad1), (.int (0 : Int32)), (.int iv1)] below meth c s₁ [] 0 0 := Stand.of_body Bd
  have e0 : s₁.heap = h0 := by rw [← hh, Bd.state]; rfl
  have N0 := Fr.nil n0
  have kp0 := Keep.refl h0 []
  show Go p e below (Fin1 s below (Q_am33_8 Z a_EMPTY_ELEMENTDATA aw0 ka_EMPTY_ELEMENTDATA kaw0 ad1 iv1 ad7 ad8 ad9 kc1 ad11 kc3 iv4 kc6 iv6 kc8 fv8 h0 n0) ({ frames := 0, cells := 0, slots := 0, locals := 0 } : Room).cells ({ frames := 0, cells := 0, slots := 0, locals := 0 } : Room).slots) _
  refine Go.step (fun t_ k_ => castTop (ef_am33_8 m ad1 (0 : Int32) iv1) k_) ?_
  obtain ⟨Ea_EMPTY_ELEMENTDATA, Sa_EMPTY_ELEMENTDATA, Eaw0, Saw0, Aa_EMPTY_ELEMENTDATA, Aaw0⟩ := id HW
  show Go p e below _ (s₁.setTop (mkF m 0 #[.val (.ref ad1), .val (.int (0 : Int32)), .val (.int iv1)] []))
  refine gs.aloadN X0.here hx (hb hby d33_0) rfl rfl ?_
  refine gs.getF X0 hx hZ hown (wd hw 127 rfl) Via.refl e0 HF_ad1_Domains_lower (hb hby d33_1) fun T1 X1 e1 => ?_
  refine gs.iloadN X1.here hx (hb hby d33_4) rfl ?_
  obtain ⟨cl2, Ar2, q2, Sz2, Ng2, Hs2, G2⟩ := id HV_ad7
  have hin2 : ¬ ((0 : Int32) < 0 ∨ cl2.slots.size ≤ ((0 : Int32)).toNatClampNeg) := inb_of Sz2 ⟨by decide, by decide⟩
  have hat2 : cl2.slots[((0 : Int32)).toNatClampNeg]? = some (.int iv4) := Has.at Hs2 hin2 rfl
  refine Go.step (fun t_ k_ => X1.iaload hx (j := (0 : Int32)) (v := (.int iv4)) (by rw [e1]; exact Ar2.1) (State.isArrayOf_alike hZ.alike Ar2.2.1) Ar2.2.2 hin2 hat2 (g := (mkF m 5 #[.val (.ref ad1), .val (.int (0 : Int32)), .val (.int iv1)] [(.int (0 : Int32)), (.ref ad7)])) rfl rfl (hb hby d33_5) _ k_) ?_
  show Go p e below _ (T1.setTop (mkF m 6 #[.val (.ref ad1), .val (.int (0 : Int32)), .val (.int iv1)] [(.int iv4)]))
  refine gs.iloadN X1.here hx (hb hby d33_6) rfl ?_
  have hc7 : ¬ (iv1 < iv4) := as2
  refine gs.icmpNo X1.here hx (hb hby d33_7) (flt hc7).2.2.1 ?_
  refine gs.iloadN X1.here hx (hb hby d33_10) rfl ?_
  refine gs.aloadN X1.here hx (hb hby d33_11) rfl rfl ?_
  refine gs.getF X1 hx hZ hown (wd hw 129 rfl) Via.refl e1 HF_ad1_Domains_upper (hb hby d33_12) fun T3 X3 e3 => ?_
  refine gs.iloadN X3.here hx (hb hby d33_15) rfl ?_
  obtain ⟨cl4, Ar4, q4, Sz4, Ng4, Hs4, G4⟩ := id HV_ad8
  have hin4 : ¬ ((0 : Int32) < 0 ∨ cl4.slots.size ≤ ((0 : Int32)).toNatClampNeg) := inb_of Sz4 ⟨by decide, by decide⟩
  have hat4 : cl4.slots[((0 : Int32)).toNatClampNeg]? = some (.int iv6) := Has.at Hs4 hin4 rfl
  refine Go.step (fun t_ k_ => X3.iaload hx (j := (0 : Int32)) (v := (.int iv6)) (by rw [e3]; exact Ar4.1) (State.isArrayOf_alike hZ.alike Ar4.2.1) Ar4.2.2 hin4 hat4 (g := (mkF m 16 #[.val (.ref ad1), .val (.int (0 : Int32)), .val (.int iv1)] [(.int (0 : Int32)), (.ref ad8), (.int iv1)])) rfl rfl (hb hby d33_16) _ k_) ?_
  show Go p e below _ (T3.setTop (mkF m 17 #[.val (.ref ad1), .val (.int (0 : Int32)), .val (.int iv1)] [(.int iv6), (.int iv1)]))
  have hc17 : ¬ (iv6 < iv1) := as3
  refine gs.icmpNo X3.here hx (hb hby d33_17) (flt hc17).2.2.1 ?_
  refine gs.aloadN X3.here hx (hb hby d33_20) rfl rfl ?_
  refine gs.getF X3 hx hZ hown (wd hw 133 rfl) Via.refl e3 HF_ad1_Domains_holes (hb hby d33_21) fun T5 X5 e5 => ?_
  refine gs.iloadN X5.here hx (hb hby d33_24) rfl ?_
  obtain ⟨cl6, Ar6, q6, Sz6, Ng6, Hs6, G6⟩ := id HV_ad9
  have hin6 : ¬ ((0 : Int32) < 0 ∨ cl6.slots.size ≤ ((0 : Int32)).toNatClampNeg) := inb_of Sz6 ⟨by decide, by decide⟩
  have hat6 : cl6.slots[((0 : Int32)).toNatClampNeg]? = some (.ref ad11) := Has.at Hs6 hin6 rfl
  refine Go.step (fun t_ k_ => X5.aaload hx (j := (0 : Int32)) (v := (.ref ad11)) (by rw [e5]; exact Ar6.1) (State.isArrayOf_alike hZ.alike Ar6.2.1) rfl Ar6.2.2 hin6 hat6 (g := (mkF m 25 #[.val (.ref ad1), .val (.int (0 : Int32)), .val (.int iv1)] [(.int (0 : Int32)), (.ref ad9)])) rfl rfl (hb hby d33_25) _ k_) ?_
  show Go p e below _ (T5.setTop (mkF m 26 #[.val (.ref ad1), .val (.int (0 : Int32)), .val (.int iv1)] [(.ref ad11)]))
  refine Go.step (fun t_ k_ => XS.ifnullNo X5.here hx rfl (hb hby d33_26) rfl k_) ?_
  show Go p e below _ (T5.setTop (mkF m 29 #[.val (.ref ad1), .val (.int (0 : Int32)), .val (.int iv1)] []))
  refine gs.aloadN X5.here hx (hb hby d33_29) rfl rfl ?_
  refine gs.getF X5 hx hZ hown (wd hw 133 rfl) Via.refl e5 HF_ad1_Domains_holes (hb hby d33_30) fun T7 X7 e7 => ?_
  refine gs.iloadN X7.here hx (hb hby d33_33) rfl ?_
  obtain ⟨cl8, Ar8, q8, Sz8, Ng8, Hs8, G8⟩ := id HV_ad9
  have hin8 : ¬ ((0 : Int32) < 0 ∨ cl8.slots.size ≤ ((0 : Int32)).toNatClampNeg) := inb_of Sz8 ⟨by decide, by decide⟩
  have hat8 : cl8.slots[((0 : Int32)).toNatClampNeg]? = some (.ref ad11) := Has.at Hs8 hin8 rfl
  refine Go.step (fun t_ k_ => X7.aaload hx (j := (0 : Int32)) (v := (.ref ad11)) (by rw [e7]; exact Ar8.1) (State.isArrayOf_alike hZ.alike Ar8.2.1) rfl Ar8.2.2 hin8 hat8 (g := (mkF m 34 #[.val (.ref ad1), .val (.int (0 : Int32)), .val (.int iv1)] [(.int (0 : Int32)), (.ref ad9)])) rfl rfl (hb hby d33_34) _ k_) ?_
  show Go p e below _ (T7.setTop (mkF m 35 #[.val (.ref ad1), .val (.int (0 : Int32)), .val (.int iv1)] [(.ref ad11)]))
  refine gs.iloadN X7.here hx (hb hby d33_35) rfl ?_
  refine gs.bipush 6 X7.here hx (hb hby d33_36) rfl ?_
  refine Go.step (fun t_ k_ => XS.iushr X7.here hx rfl (hb hby d33_38) rfl k_) ?_
  show Go p e below _ (T7.setTop (mkF m 39 #[.val (.ref ad1), .val (.int (0 : Int32)), .val (.int iv1)] [(.int ((iv1.toUInt32 >>> ((6 : Int32) &&& 31).toUInt32).toInt32)), (.ref ad11)]))
  obtain ⟨cl9, Ar9, q9, Sz9, Ng9, Hs9⟩ := id HG_ad11
  have hin9 : ¬ (((iv1.toUInt32 >>> ((6 : Int32) &&& 31).toUInt32).toInt32) < 0 ∨ cl9.slots.size ≤ (((iv1.toUInt32 >>> ((6 : Int32) &&& 31).toUInt32).toInt32)).toNatClampNeg) := inb_of Sz9 (inb_int as1)
  have hat9 : cl9.slots[(((iv1.toUInt32 >>> ((6 : Int32) &&& 31).toUInt32).toInt32)).toNatClampNeg]? = some (.long (fv8 (((iv1.toUInt32 >>> ((6 : Int32) &&& 31).toUInt32).toInt32)).toNatClampNeg)) := Hs9 _ (lt_of_in hin9)
  refine Go.step (fun t_ k_ => X7.laload hx (j := ((iv1.toUInt32 >>> ((6 : Int32) &&& 31).toUInt32).toInt32)) (v := (.long (fv8 (((iv1.toUInt32 >>> ((6 : Int32) &&& 31).toUInt32).toInt32)).toNatClampNeg))) (by rw [e7]; exact Ar9.1) (State.isArrayOf_alike hZ.alike Ar9.2.1) Ar9.2.2 hin9 hat9 (g := (mkF m 39 #[.val (.ref ad1), .val (.int (0 : Int32)), .val (.int iv1)] [(.int ((iv1.toUInt32 >>> ((6 : Int32) &&& 31).toUInt32).toInt32)), (.ref ad11)])) rfl rfl (hb hby d33_39) _ k_) ?_
  show Go p e below _ (T7.setTop (mkF m 40 #[.val (.ref ad1), .val (.int (0 : Int32)), .val (.int iv1)] [(.long (fv8 (((iv1.toUInt32 >>> ((6 : Int32) &&& 31).toUInt32).toInt32)).toNatClampNeg))]))
  refine Go.step (fun t_ k_ => XS.lconst X7.here hx rfl (hb hby d33_40) k_) ?_
  show Go p e below _ (T7.setTop (mkF m 41 #[.val (.ref ad1), .val (.int (0 : Int32)), .val (.int iv1)] [(.long (1 : Int64)), (.long (fv8 (((iv1.toUInt32 >>> ((6 : Int32) &&& 31).toUInt32).toInt32)).toNatClampNeg))]))
  refine gs.iloadN X7.here hx (hb hby d33_41) rfl ?_
  refine Go.step (fun t_ k_ => XS.lshl X7.here hx rfl (hb hby d33_42) rfl k_) ?_
  show Go p e below _ (T7.setTop (mkF m 43 #[.val (.ref ad1), .val (.int (0 : Int32)), .val (.int iv1)] [(.long ((1 : Int64) <<< (iv1 &&& 0x3f).toInt64)), (.long (fv8 (((iv1.toUInt32 >>> ((6 : Int32) &&& 31).toUInt32).toInt32)).toNatClampNeg))]))
  refine gs.land X7.here hx (hb hby d33_43) ?_
  refine Go.step (fun t_ k_ => XS.lconst X7.here hx rfl (hb hby d33_44) k_) ?_
  show Go p e below _ (T7.setTop (mkF m 45 #[.val (.ref ad1), .val (.int (0 : Int32)), .val (.int iv1)] [(.long (0 : Int64)), (.long ((fv8 (((iv1.toUInt32 >>> ((6 : Int32) &&& 31).toUInt32).toInt32)).toNatClampNeg) &&& ((1 : Int64) <<< (iv1 &&& 0x3f).toInt64)))]))
  refine Go.step (fun t_ k_ => XS.lcmp X7.here hx rfl (hb hby d33_45) rfl k_) ?_
  show Go p e below _ (T7.setTop (mkF m 46 #[.val (.ref ad1), .val (.int (0 : Int32)), .val (.int iv1)] [(.int (lcmpW ((fv8 (((iv1.toUInt32 >>> ((6 : Int32) &&& 31).toUInt32).toInt32)).toNatClampNeg) &&& ((1 : Int64) <<< (iv1 &&& 0x3f).toInt64)) (0 : Int64)))]))
  have hc46 : ¬ ((lcmpW ((fv8 (((iv1.toUInt32 >>> ((6 : Int32) &&& 31).toUInt32).toInt32)).toNatClampNeg) &&& ((1 : Int64) <<< (iv1 &&& 0x3f).toInt64)) (0 : Int64)) = (0 : Int32)) := as0
  refine gs.ifNo X7.here hx (hb hby d33_46) ((if0 _ _).trans (feq hc46).1) ?_
  refine gs.iconst 1 X7.here hx (hb hby d33_49) rfl ?_
  refine gs.goto 54 X7.here hx (hb hby d33_50) rfl ?_
  refine Go.retZ X7 hx (t := .boolean) Bd.returns (by simp) Bd.notSynchronized (hb hby d33_54) (by rw [e7]; exact ⟨rfl, N0, rfl⟩) (by decide) (by decide)
theorem ef_am33_9 (m : MethodId) (x0 : Addr) (x1 : Int32) (x2 : Int32)  : entryFrame m #[(.ref x0), (.int x1), (.int x2)] 3 = mkF m 0 #[.val (.ref x0), .val (.int x1), .val (.int x2)] [] := by first | (simp [entryFrame, mkF, argsToLocals, Value.category]; done) | rfl
def Q_am33_9 (Z : State) (a_EMPTY_ELEMENTDATA : Addr) (aw0 : Addr) (ka_EMPTY_ELEMENTDATA : ClassId) (kaw0 : ClassId) (ad1 : Addr) (iv1 : Int32) (ad7 : Addr) (ad8 : Addr) (ad9 : Addr) (kc1 : ClassId) (ad11 : Addr) (kc3 : ClassId) (iv4 : Int32) (kc6 : ClassId) (iv6 : Int32) (h0 : Heap) (n0 : Nat) (v : Option Value) (h : Heap) (L : List Loc) : Prop := v = some (.int (1 : Int32)) ∧ Fr n0 L ∧ h = h0
set_option maxRecDepth 65536 in
set_option maxHeartbeats 40000000 in
theorem am33_9 (l : Launch) (Z : State) (a0 : Array Value) (hw : ∀ d ∈ tables_1, d.before a0 Z = true) (ws : List Jvm.Cond) (a_EMPTY_ELEMENTDATA : Addr) (aw0 : Addr) (ka_EMPTY_ELEMENTDATA : ClassId) (kaw0 : ClassId) (HW : Wd Z a_EMPTY_ELEMENTDATA aw0 ka_EMPTY_ELEMENTDATA kaw0) (ad1 : Addr) (iv1 : Int32) (ad7 : Addr) (ad8 : Addr) (ad9 : Addr) (kc1 : ClassId) (ad11 : Addr) (kc3 : ClassId) (iv4 : Int32) (kc6 : ClassId) (iv6 : Int32) (h0 : Heap) (n0 : Nat) (Ol : Old Z n0 h0) (HF_ad1_Domains_lower : Fld Z h0 ad1 "com/example/monarc/monarc/Domains" "lower" "[I" (.ref ad7)) (HF_ad1_Domains_upper : Fld Z h0 ad1 "com/example/monarc/monarc/Domains" "upper" "[I" (.ref ad8)) (HF_ad1_Domains_holes : Fld Z h0 ad1 "com/example/monarc/monarc/Domains" "holes" "[[J" (.ref ad9)) (HV_ad9 : Arv Z h0 ad9 kc1 (.array .long) (2 : Int32) [(.ref ad11), .null] .null) (HV_ad7 : Arv Z h0 ad7 kc3 .int (2 : Int32) [(.int iv4), (.int (0 : Int32))] (.int (0 : Int32))) (HV_ad8 : Arv Z h0 ad8 kc6 .int (2 : Int32) [(.int iv6), (.int (99 : Int32))] (.int (0 : Int32))) (as0 : ¬ ((99 : Int32) < iv1)) (as1 : ¬ (iv1 < (0 : Int32))) (hO_ad9 : OvrA Z kc1 .long "[J") :
    MetFree l y_33 (head1 (Jvm.Cond.code y_33 prog_11_method_8_code 3 (some .boolean) :: ws) ({ frames := 0, cells := 0, slots := 0, locals := 0 } : Room)) (fun a_ U_ => a_ = #[(.ref ad1), (.int (1 : Int32)), (.int iv1)] ∧ Z.Warmed39 U_.vm ∧ U_.heap = h0) (fun _ _ _ _ _ => True) (fun _ U_ o_ V_ => ∃ v_ L_, o_ = .returned v_ ∧ Q_am33_9 Z a_EMPTY_ELEMENTDATA aw0 ka_EMPTY_ELEMENTDATA kaw0 ad1 iv1 ad7 ad8 ad9 kc1 ad11 kc3 iv4 kc6 iv6 h0 n0 v_ V_.heap L_ ∧ FrameEnd U_ o_ V_ L_ ({ frames := 0, cells := 0, slots := 0, locals := 0 } : Room).cells ({ frames := 0, cells := 0, slots := 0, locals := 0 } : Room).slots) := by
  refine MetFree.of_bodySF (plainFor_of_name pn_8) hisR ?_
  intro p e s m args below meth c s₁ Bd hml0 hP hK
  obtain ⟨rfl, hZ, hh⟩ := hP
  have hx := Bd.exec
  have hby := Bd.bytes
  have hml : c.maxLocals = 3 := hml0
  have hown : s.vm.findClass "com/example/monarc/monarc/Domains" = some m.cls := findClass_of_methodNamed Bd.named
  have hnm := (name_of_methodNamed Bd.named Bd.method).1
  have X0 : Stand p l e ({ frames := 0, cells := 0, slots := 0, locals := 0 } : Room) s m #[(.ref ad1), (.int (1 : Int32)), (.int iv1)] below meth c s₁ [] 0 0 := Stand.of_body Bd
  have e0 : s₁.heap = h0 := by rw [← hh, Bd.state]; rfl
  have N0 := Fr.nil n0
  have kp0 := Keep.refl h0 []
  show Go p e below (Fin1 s below (Q_am33_9 Z a_EMPTY_ELEMENTDATA aw0 ka_EMPTY_ELEMENTDATA kaw0 ad1 iv1 ad7 ad8 ad9 kc1 ad11 kc3 iv4 kc6 iv6 h0 n0) ({ frames := 0, cells := 0, slots := 0, locals := 0 } : Room).cells ({ frames := 0, cells := 0, slots := 0, locals := 0 } : Room).slots) _
  refine Go.step (fun t_ k_ => castTop (ef_am33_9 m ad1 (1 : Int32) iv1) k_) ?_
  obtain ⟨Ea_EMPTY_ELEMENTDATA, Sa_EMPTY_ELEMENTDATA, Eaw0, Saw0, Aa_EMPTY_ELEMENTDATA, Aaw0⟩ := id HW
  show Go p e below _ (s₁.setTop (mkF m 0 #[.val (.ref ad1), .val (.int (1 : Int32)), .val (.int iv1)] []))
  refine gs.aloadN X0.here hx (hb hby d33_0) rfl rfl ?_
  refine gs.getF X0 hx hZ hown (wd hw 127 rfl) Via.refl e0 HF_ad1_Domains_lower (hb hby d33_1) fun T1 X1 e1 => ?_
  refine gs.iloadN X1.here hx (hb hby d33_4) rfl ?_
  obtain ⟨cl2, Ar2, q2, Sz2, Ng2, Hs2, G2⟩ := id HV_ad7
  have hin2 : ¬ ((1 : Int32) < 0 ∨ cl2.slots.size ≤ ((1 : Int32)).toNatClampNeg) := inb_of Sz2 ⟨by decide, by decide⟩
  have hat2 : cl2.slots[((1 : Int32)).toNatClampNeg]? = some (.int (0 : Int32)) := Has.at Hs2 hin2 rfl
  refine Go.step (fun t_ k_ => X1.iaload hx (j := (1 : Int32)) (v := (.int (0 : Int32))) (by rw [e1]; exact Ar2.1) (State.isArrayOf_alike hZ.alike Ar2.2.1) Ar2.2.2 hin2 hat2 (g := (mkF m 5 #[.val (.ref ad1), .val (.int (1 : Int32)), .val (.int iv1)] [(.int (1 : Int32)), (.ref ad7)])) rfl rfl (hb hby d33_5) _ k_) ?_
  show Go p e below _ (T1.setTop (mkF m 6 #[.val (.ref ad1), .val (.int (1 : Int32)), .val (.int iv1)] [(.int (0 : Int32))]))
  refine gs.iloadN X1.here hx (hb hby d33_6) rfl ?_
  have hc7 : ¬ (iv1 < (0 : Int32)) := as1
  refine gs.icmpNo X1.here hx (hb hby d33_7) (flt hc7).2.2.1 ?_
  refine gs.iloadN X1.here hx (hb hby d33_10) rfl ?_
  refine gs.aloadN X1.here hx (hb hby d33_11) rfl rfl ?_
  refine gs.getF X1 hx hZ hown (wd hw 129 rfl) Via.refl e1 HF_ad1_Domains_upper (hb hby d33_12) fun T3 X3 e3 => ?_
  refine gs.iloadN X3.here hx (hb hby d33_15) rfl ?_
  obtain ⟨cl4, Ar4, q4, Sz4, Ng4, Hs4, G4⟩ := id HV_ad8
  have hin4 : ¬ ((1 : Int32) < 0 ∨ cl4.slots.size ≤ ((1 : Int32)).toNatClampNeg) := inb_of Sz4 ⟨by decide, by decide⟩
  have hat4 : cl4.slots[((1 : Int32)).toNatClampNeg]? = some (.int (99 : Int32)) := Has.at Hs4 hin4 rfl
  refine Go.step (fun t_ k_ => X3.iaload hx (j := (1 : Int32)) (v := (.int (99 : Int32))) (by rw [e3]; exact Ar4.1) (State.isArrayOf_alike hZ.alike Ar4.2.1) Ar4.2.2 hin4 hat4 (g := (mkF m 16 #[.val (.ref ad1), .val (.int (1 : Int32)), .val (.int iv1)] [(.int (1 : Int32)), (.ref ad8), (.int iv1)])) rfl rfl (hb hby d33_16) _ k_) ?_
  show Go p e below _ (T3.setTop (mkF m 17 #[.val (.ref ad1), .val (.int (1 : Int32)), .val (.int iv1)] [(.int (99 : Int32)), (.int iv1)]))
  have hc17 : ¬ ((99 : Int32) < iv1) := as0
  refine gs.icmpNo X3.here hx (hb hby d33_17) (flt hc17).2.2.1 ?_
  refine gs.aloadN X3.here hx (hb hby d33_20) rfl rfl ?_
  refine gs.getF X3 hx hZ hown (wd hw 133 rfl) Via.refl e3 HF_ad1_Domains_holes (hb hby d33_21) fun T5 X5 e5 => ?_
  refine gs.iloadN X5.here hx (hb hby d33_24) rfl ?_
  obtain ⟨cl6, Ar6, q6, Sz6, Ng6, Hs6, G6⟩ := id HV_ad9
  have hin6 : ¬ ((1 : Int32) < 0 ∨ cl6.slots.size ≤ ((1 : Int32)).toNatClampNeg) := inb_of Sz6 ⟨by decide, by decide⟩
  have hat6 : cl6.slots[((1 : Int32)).toNatClampNeg]? = some .null := Has.at Hs6 hin6 rfl
  refine Go.step (fun t_ k_ => X5.aaload hx (j := (1 : Int32)) (v := .null) (by rw [e5]; exact Ar6.1) (State.isArrayOf_alike hZ.alike Ar6.2.1) rfl Ar6.2.2 hin6 hat6 (g := (mkF m 25 #[.val (.ref ad1), .val (.int (1 : Int32)), .val (.int iv1)] [(.int (1 : Int32)), (.ref ad9)])) rfl rfl (hb hby d33_25) _ k_) ?_
  show Go p e below _ (T5.setTop (mkF m 26 #[.val (.ref ad1), .val (.int (1 : Int32)), .val (.int iv1)] [.null]))
  refine Go.step (fun t_ k_ => XS.ifnullYes X5.here hx rfl (pc0 := 26) (pc' := 49) rfl (hb hby d33_26) rfl (by decide) (by decide) k_) ?_
  show Go p e below _ (T5.setTop (mkF m 49 #[.val (.ref ad1), .val (.int (1 : Int32)), .val (.int iv1)] []))
  refine gs.iconst 1 X5.here hx (hb hby d33_49) rfl ?_
  refine gs.goto 54 X5.here hx (hb hby d33_50) rfl ?_
  refine Go.retZ X5 hx (t := .boolean) Bd.returns (by simp) Bd.notSynchronized (hb hby d33_54) (by rw [e5]; exact ⟨rfl, N0, rfl⟩) (by decide) (by decide)
set_option maxRecDepth 65536 in
set_option maxHeartbeats 40000000 in
theorem sg1 {p : Program} {l : Launch} {e : Env} {s : State} {m : MethodId} {args : Array Value} {below : List Frame} {meth : Method} {c : Code} {Z : State} {a0 : Array Value} (hw : ∀ d ∈ tables_1, d.before a0 Z = true) (a_EMPTY_ELEMENTDATA : Addr) (aw0 : Addr) (ka_EMPTY_ELEMENTDATA : ClassId) (kaw0 : ClassId) (HW : Wd Z a_EMPTY_ELEMENTDATA aw0 ka_EMPTY_ELEMENTDATA kaw0) {h0 : Heap} {n0 : Nat} (hx : p.tables.exec = Jvm.exec) (hby : c.code = code) (hml : c.maxLocals = 18) (hret : meth.sig.returnType = some .boolean) (hlk : meth.locks = false) {vm0 : Vm} {k0 : Nat} {T0 : State} {locs : List Loc} {h1 : Heap} (X0 : Stand p l e room_1 (s.setVm vm0) m args below meth c T0 locs 18 1151) (S0 : s.Since vm0 k0) (hk0 : k0 ≤ h1.size) (hZ : Z.Warmed39 (s.setVm vm0).vm) (hown : (s.setVm vm0).vm.findClass "com/example/monarc/monarc/DomainsContainsPinLaw" = some m.cls) (e0 : T0.heap = h1) (N0 : Fr n0 locs) (kp0 : Keep h0 h1 []) (Ol : Old Z n0 h1) {Q : Option Value → Heap → List Loc → Prop} (hQ : ∀ h L, Fr n0 L → Q (some (.int 1)) h L) (lf0 : Int32) (lf1 : Int32) (p3 : Int32) (p4 : Int32) (p5 : Int32) (ld5 : Addr) (ld6 : Addr) (ld7 : Addr) (ad1 : Addr) (lo : Int32) (up : Int32) (ad2 : Addr) (ad3 : Addr) (ad4 : Addr) (ad5 : Addr) (ad6 : Addr) (ad7 : Addr) (ad8 : Addr) (ad9 : Addr) (w2 : Int32) (t2 : Int32) (kc1 : ClassId) (kc2 : ClassId) (ad10 : Addr) (kc3 : ClassId) (kc4 : ClassId) (s2 : Int32) (kc5 : ClassId) (kc6 : ClassId) (f2 : Nat → Int64) (HE_ad2 : Exa Z h1 ad2 "com/example/monarc/monarc/InitialDomain") (HF_ad2_InitialDomain_size : Fld Z h1 ad2 "com/example/monarc/monarc/InitialDomain" "size" "I" (.int (200 : Int32))) (HE_ad1 : Exa Z h1 ad1 "com/example/monarc/monarc/Domains") (HF_ad1_Domains_trail : Fld Z h1 ad1 "com/example/monarc/monarc/Domains" "trail" "[J" (.ref ad3)) (HF_ad1_Domains_marks : Fld Z h1 ad1 "com/example/monarc/monarc/Domains" "marks" "[I" (.ref ad4)) (HF_ad1_Domains_initial : Fld Z h1 ad1 "com/example/monarc/monarc/Domains" "initial" "[Lcom/example/monarc/monarc/InitialDomain;" (.ref ad5)) (HF_ad1_Domains_lower : Fld Z h1 ad1 "com/example/monarc/monarc/Domains" "lower" "[I" (.ref ad6)) (HF_ad1_Domains_upper : Fld Z h1 ad1 "com/example/monarc/monarc/Domains" "upper" "[I" (.ref ad7)) (HF_ad1_Domains_holes : Fld Z h1 ad1 "com/example/monarc/monarc/Domains" "holes" "[[J" (.ref ad8)) (HF_ad1_Domains_sizes : Fld Z h1 ad1 "com/example/monarc/monarc/Domains" "sizes" "[I" (.ref ad9)) (HF_ad1_Domains_withOneValue : Fld Z h1 ad1 "com/example/monarc/monarc/Domains" "withOneValue" "I" (.int w2)) (HF_ad1_Domains_trailSize : Fld Z h1 ad1 "com/example/monarc/monarc/Domains" "trailSize" "I" (.int t2)) (HF_ad1_Domains_resized : Fld Z h1 ad1 "com/example/monarc/monarc/Domains" "resized" "Ljava/util/function/IntConsumer;" .null) (HE_ad8 : Exa Z h1 ad8 "[[J") (HV_ad8 : Arv Z h1 ad8 kc1 (.array .long) (2 : Int32) [.null, .null] .null) (HV_ad5 : Arv Z h1 ad5 kc2 (.object "com/example/monarc/monarc/InitialDomain") (2 : Int32) [(.ref ad2), (.ref ad10)] .null) (HV_ad6 : Arv Z h1 ad6 kc3 .int (2 : Int32) [(.int lo), (.int (0 : Int32))] (.int (0 : Int32))) (HV_ad9 : Arv Z h1 ad9 kc4 .int (2 : Int32) [(.int s2), (.int (100 : Int32))] (.int (0 : Int32))) (HE_ad3 : Exa Z h1 ad3 "[J") (HV_ad7 : Arv Z h1 ad7 kc5 .int (2 : Int32) [(.int up), (.int (99 : Int32))] (.int (0 : Int32))) (HG_ad3 : Arf Z h1 ad3 kc6 (1024 : Int32) f2) (nn_ad1 : n0 ≤ ad1) (nn_ad3 : n0 ≤ ad3) (nn_ad8 : n0 ≤ ad8) (nn_ad9 : n0 ≤ ad9) (sz_ad1 : h0.size ≤ ad1) (sz_ad3 : h0.size ≤ ad3) (sz_ad8 : h0.size ≤ ad8) (sz_ad9 : h0.size ≤ ad9) (ne_ad1_ad3 : ad1 ≠ ad3) (ne_ad1_ad6 : ad1 ≠ ad6) (ne_ad1_ad7 : ad1 ≠ ad7) (ne_ad1_ad8 : ad1 ≠ ad8) (ne_ad1_ad9 : ad1 ≠ ad9) (ne_ad3_ad6 : ad3 ≠ ad6) (ne_ad3_ad7 : ad3 ≠ ad7) (ne_ad3_ad8 : ad3 ≠ ad8) (ne_ad3_ad9 : ad3 ≠ ad9) (ne_ad6_ad8 : ad6 ≠ ad8) (ne_ad6_ad9 : ad6 ≠ ad9) (ne_ad7_ad8 : ad7 ≠ ad8) (ne_ad7_ad9 : ad7 ≠ ad9) (ne_ad8_ad9 : ad8 ≠ ad9) (hb_lo : 0 ≤ lo.toInt ∧ lo.toInt < 64) (hb_up : 136 ≤ up.toInt ∧ up.toInt ≤ 199) (o0 : (0 : Int32).toInt = 0) (o199 : (199 : Int32).toInt = 199) (o99 : (99 : Int32).toInt = 99) (o1024 : (1024 : Int32).toInt = 1024) (eu : ((up.toInt64).toInt32) = up) (euL : (up.toInt64).toInt = up.toInt) (hb_t2 : 0 ≤ t2.toInt ∧ t2.toInt ≤ 2) (hO_ad8 : OvrA Z kc1 .long "[J") (hO_ad5 : Ovr Z kc2 "com/example/monarc/monarc/InitialDomain") :
    Go p e below (Fin2 s below Q room_1.cells room_1.slots) (T0.setTop (mkF m 107 #[.val (.int lf0), .val (.int lf1), .val (.int p3), .val (.int p4), .val (.int p5), .val (.ref ld5), .val (.ref ld6), .val (.ref ld7), .val (.ref ad1), .val (.int lo), .val (.int up), .unset, .unset, .unset, .unset, .unset, .unset, .unset] [])) := by
  obtain ⟨Ea_EMPTY_ELEMENTDATA, Sa_EMPTY_ELEMENTDATA, Eaw0, Saw0, Aa_EMPTY_ELEMENTDATA, Aaw0⟩ := id HW
  show Go p e below _ (T0.setTop (mkF m 107 #[.val (.int lf0), .val (.int lf1), .val (.int p3), .val (.int p4), .val (.int p5), .val (.ref ld5), .val (.ref ld6), .val (.ref ld7), .val (.ref ad1), .val (.int lo), .val (.int up), .unset, .unset, .unset, .unset, .unset, .unset, .unset] []))
  refine gs.iload X0.here hx (hb hby at_107) rfl ?_
  refine gs.iconst 1 X0.here hx (hb hby at_109) rfl ?_
  refine gs.iadd X0.here hx (hb hby at_110) ?_
  refine gs.iloadN X0.here hx (hb hby at_111) rfl ?_
  refine Go.step (fun t_ k_ => X0.ldcInt hx hown (mvT hZ (wd hw 228 rfl)) (g := (mkF m 112 #[.val (.int lf0), .val (.int lf1), .val (.int p3), .val (.int p4), .val (.int p5), .val (.ref ld5), .val (.ref ld6), .val (.ref ld7), .val (.ref ad1), .val (.int lo), .val (.int up), .unset, .unset, .unset, .unset, .unset, .unset, .unset] [(.int p3), (.int (lo + (1 : Int32)))])) rfl (hb hby at_112) _ k_) ?_
  show Go p e below _ (T0.setTop (mkF m 114 #[.val (.int lf0), .val (.int lf1), .val (.int p3), .val (.int p4), .val (.int p5), .val (.ref ld5), .val (.ref ld6), .val (.ref ld7), .val (.ref ad1), .val (.int lo), .val (.int up), .unset, .unset, .unset, .unset, .unset, .unset, .unset] [(.int (2147483647 : Int32)), (.int p3), (.int (lo + (1 : Int32)))]))
  refine gs.iand X0.here hx (hb hby at_114) ?_
  refine gs.iload X0.here hx (hb hby at_115) rfl ?_
  refine gs.iload X0.here hx (hb hby at_117) rfl ?_
  refine gs.isub X0.here hx (hb hby at_119) ?_
  refine gs.iconst 1 X0.here hx (hb hby at_120) rfl ?_
  refine gs.isub X0.here hx (hb hby at_121) ?_
  refine Go.step (fun t_ k_ => iremM X0 hx rfl (hb hby at_122) rfl (dv_ne hb_lo hb_up) k_) ?_
  show Go p e below _ (T0.setTop (mkF m 123 #[.val (.int lf0), .val (.int lf1), .val (.int p3), .val (.int p4), .val (.int p5), .val (.ref ld5), .val (.ref ld6), .val (.ref ld7), .val (.ref ad1), .val (.int lo), .val (.int up), .unset, .unset, .unset, .unset, .unset, .unset, .unset] [(.int ((p3 &&& (2147483647 : Int32)) % ((up - lo) - (1 : Int32)))), (.int (lo + (1 : Int32)))]))
  refine gs.iadd X0.here hx (hb hby at_123) ?_
  refine gs.istore X0.here hx (hb hby at_124) (l' := #[.val (.int lf0), .val (.int lf1), .val (.int p3), .val (.int p4), .val (.int p5), .val (.ref ld5), .val (.ref ld6), .val (.ref ld7), .val (.ref ad1), .val (.int lo), .val (.int up), .val (.int ((lo + (1 : Int32)) + ((p3 &&& (2147483647 : Int32)) % ((up - lo) - (1 : Int32))))), .unset, .unset, .unset, .unset, .unset, .unset]) rfl ?_
  generalize hk_hv : ((lo + (1 : Int32)) + ((p3 &&& (2147483647 : Int32)) % ((up - lo) - (1 : Int32)))) = hv
  show Go p e below _ (T0.setTop (mkF m 126 #[.val (.int lf0), .val (.int lf1), .val (.int p3), .val (.int p4), .val (.int p5), .val (.ref ld5), .val (.ref ld6), .val (.ref ld7), .val (.ref ad1), .val (.int lo), .val (.int up), .val (.int hv), .unset, .unset, .unset, .unset, .unset, .unset] []))
  have hb_hv := hv_bd p3 hb_lo hb_up
  rw [hk_hv] at hb_hv
  refine gs.iloadN X0.here hx (hb hby at_126) rfl ?_
  refine gs.bipush 8 X0.here hx (hb hby at_127) rfl ?_
  refine gs.iand X0.here hx (hb hby at_129) ?_
  by_cases hc130 : (p4 &&& (8 : Int32)) = (0 : Int32)
  case pos =>
    refine gs.ifYes 137 X0.here hx (hb hby at_130) ((if0 _ _).trans (teq hc130).1) rfl ?_
    refine gs.iconst 0 X0.here hx (hb hby at_137) rfl ?_
    refine gs.istore X0.here hx (hb hby at_138) (l' := #[.val (.int lf0), .val (.int lf1), .val (.int p3), .val (.int p4), .val (.int p5), .val (.ref ld5), .val (.ref ld6), .val (.ref ld7), .val (.ref ad1), .val (.int lo), .val (.int up), .val (.int hv), .val (.int (0 : Int32)), .unset, .unset, .unset, .unset, .unset]) rfl ?_
    refine gs.iload X0.here hx (hb hby at_140) rfl ?_
    have hc142 : (0 : Int32) = (0 : Int32) := by decide
    refine gs.ifYes 153 X0.here hx (hb hby at_142) ((if0 _ _).trans (teq hc142).1) rfl ?_
    have J1 : ∀ pq : Int32, Go p e below (Fin2 s below Q room_1.cells room_1.slots) (T0.setTop (mkF m 242 #[.val (.int lf0), .val (.int lf1), .val (.int p3), .val (.int p4), .val (.int p5), .val (.ref ld5), .val (.ref ld6), .val (.ref ld7), .val (.ref ad1), .val (.int lo), .val (.int up), .val (.int hv), .val (.int (0 : Int32)), .val (.int (p4 &&& (3 : Int32))), .val (.int pq), .unset, .unset, .unset] [])) := by
      intro pq
      refine gs.iloadN X0.here hx (hb hby at_242) rfl ?_
      refine gs.iconst 4 X0.here hx (hb hby at_243) rfl ?_
      refine gs.iand X0.here hx (hb hby at_244) ?_
      by_cases hc245 : (p4 &&& (4 : Int32)) = (0 : Int32)
      case pos =>
        refine gs.ifYes 252 X0.here hx (hb hby at_245) ((if0 _ _).trans (teq hc245).1) rfl ?_
        refine gs.iconst 0 X0.here hx (hb hby at_252) rfl ?_
        refine gs.istore X0.here hx (hb hby at_253) (l' := #[.val (.int lf0), .val (.int lf1), .val (.int p3), .val (.int p4), .val (.int p5), .val (.ref ld5), .val (.ref ld6), .val (.ref ld7), .val (.ref ad1), .val (.int lo), .val (.int up), .val (.int hv), .val (.int (0 : Int32)), .val (.int (p4 &&& (3 : Int32))), .val (.int pq), .val (.int (0 : Int32)), .unset, .unset]) rfl ?_
        refine gs.iload X0.here hx (hb hby at_255) rfl ?_
        have hc257 : (0 : Int32) = (0 : Int32) := by decide
        refine gs.ifYes 293 X0.here hx (hb hby at_257) ((if0 _ _).trans (teq hc257).1) rfl ?_
        refine gs.iload X0.here hx (hb hby at_293) rfl ?_
        refine gs.iload X0.here hx (hb hby at_295) rfl ?_
        by_cases hc297 : pq < lo
        case pos =>
          refine gs.icmpYes 323 X0.here hx (hb hby at_297) (tlt hc297).2.2.1 rfl ?_
          refine gs.iconst 0 X0.here hx (hb hby at_323) rfl ?_
          refine gs.istore X0.here hx (hb hby at_324) (l' := #[.val (.int lf0), .val (.int lf1), .val (.int p3), .val (.int p4), .val (.int p5), .val (.ref ld5), .val (.ref ld6), .val (.ref ld7), .val (.ref ad1), .val (.int lo), .val (.int up), .val (.int hv), .val (.int (0 : Int32)), .val (.int (p4 &&& (3 : Int32))), .val (.int pq), .val (.int (0 : Int32)), .val (.int (0 : Int32)), .unset]) rfl ?_
          refine gs.aload X0.here hx (hb hby at_326) rfl rfl ?_
          refine gs.iconst 0 X0.here hx (hb hby at_328) rfl ?_
          refine gs.iload X0.here hx (hb hby at_329) rfl ?_
          obtain ⟨cq2, kq2, q2a, q2b, q2c⟩ := isOf hZ e0 HE_ad1
          obtain ⟨_, _, ⟨T2, L2, k2, n2⟩, -, X2, ⟨Lc2, hQ2, l2, y2, z2⟩, st2⟩ := X0.virtualBack hx (y := y_33) (z := y_33) hown (mvT hZ (wd hw 229 rfl)) (mvT hZ (wd hw 230 rfl)) (notFace_of_selects (args := #[]) (mvT hZ (wd hw 232 rfl))) (mvT hZ (wd hw 232 rfl)) (mvT hZ (wd hw 231 rfl)) (by decide) (backOf (W := 0) (am33_1 l Z a0 hw [] a_EMPTY_ELEMENTDATA aw0 ka_EMPTY_ELEMENTDATA kaw0 HW (ad1) (pq) (ad6) (kc3) (lo) h1 n0 Ol HF_ad1_Domains_lower HV_ad6 hc297) hZ (wd hw 233 rfl) (wd hw 103 rfl) (by decide) (by decide)) q2a q2c (g := (mkF m 331 #[.val (.int lf0), .val (.int lf1), .val (.int p3), .val (.int p4), .val (.int p5), .val (.ref ld5), .val (.ref ld6), .val (.ref ld7), .val (.ref ad1), .val (.int lo), .val (.int up), .val (.int hv), .val (.int (0 : Int32)), .val (.int (p4 &&& (3 : Int32))), .val (.int pq), .val (.int (0 : Int32)), .val (.int (0 : Int32)), .unset] [(.int pq), (.int (0 : Int32)), (.ref ad1)])) rfl (by rw [hml]; rfl) (Steps.refl _) (argsL := [(.int (0 : Int32)), (.int pq)]) (rest := []) (lenOf pd_20 rfl) rfl (by show 2 * 0 + _ ≤ _; exact Nat.le_of_eq rfl) (hb hby at_331) (fun _ _ => ⟨rfl, e0, (by decide : 18 + 0 ≤ _), (by decide : 1151 + 0 ≤ _)⟩)
          dsimp only [Pt.U, Pt.locs, Pt.cells, Pt.slots] at X2 l2 y2 z2 st2 hQ2
          subst l2 y2 z2
          obtain ⟨rfl, Nq2, e2⟩ := hQ2
          have N2 := Fr.app N0 Nq2
          refine Go.step (fun t_ k_ => st2.trans k_) ?_
          show Go p e below _ (T2.setTop (mkF m 334 #[.val (.int lf0), .val (.int lf1), .val (.int p3), .val (.int p4), .val (.int p5), .val (.ref ld5), .val (.ref ld6), .val (.ref ld7), .val (.ref ad1), .val (.int lo), .val (.int up), .val (.int hv), .val (.int (0 : Int32)), .val (.int (p4 &&& (3 : Int32))), .val (.int pq), .val (.int (0 : Int32)), .val (.int (0 : Int32)), .unset] [(.int (0 : Int32))]))
          refine gs.istore X2.here hx (hb hby at_334) (l' := #[.val (.int lf0), .val (.int lf1), .val (.int p3), .val (.int p4), .val (.int p5), .val (.ref ld5), .val (.ref ld6), .val (.ref ld7), .val (.ref ad1), .val (.int lo), .val (.int up), .val (.int hv), .val (.int (0 : Int32)), .val (.int (p4 &&& (3 : Int32))), .val (.int pq), .val (.int (0 : Int32)), .val (.int (0 : Int32)), .val (.int (0 : Int32))]) rfl ?_
          refine gs.iload X2.here hx (hb hby at_336) rfl ?_
          refine gs.iload X2.here hx (hb hby at_338) rfl ?_
          have hc340 : (0 : Int32) = (0 : Int32) := by decide
          refine gs.icmpNo X2.here hx (hb hby at_340) (teq hc340).2 ?_
          refine gs.iconst 1 X2.here hx (hb hby at_343) rfl ?_
          show Go p e below _ (T2.setTop (mkF m 344 _ _))
          refine gs.goto 348 X2.here hx (hb hby at_344) rfl ?_
          refine GoW.retZ X2 S0 (by rw [e2]; exact hk0) hx (t := .boolean) hret (by simp) hlk (hb hby at_348) (by rw [e2]; exact (hQ _ _ N2)) (by decide) (by decide)
        case neg =>
          refine gs.icmpNo X0.here hx (hb hby at_297) (flt hc297).2.2.1 ?_
          refine gs.iload X0.here hx (hb hby at_300) rfl ?_
          refine gs.iload X0.here hx (hb hby at_302) rfl ?_
          by_cases hc304 : up < pq
          case pos =>
            refine gs.icmpYes 323 X0.here hx (hb hby at_304) (tlt hc304).2.2.1 rfl ?_
            refine gs.iconst 0 X0.here hx (hb hby at_323) rfl ?_
            refine gs.istore X0.here hx (hb hby at_324) (l' := #[.val (.int lf0), .val (.int lf1), .val (.int p3), .val (.int p4), .val (.int p5), .val (.ref ld5), .val (.ref ld6), .val (.ref ld7), .val (.ref ad1), .val (.int lo), .val (.int up), .val (.int hv), .val (.int (0 : Int32)), .val (.int (p4 &&& (3 : Int32))), .val (.int pq), .val (.int (0 : Int32)), .val (.int (0 : Int32)), .unset]) rfl ?_
            refine gs.aload X0.here hx (hb hby at_326) rfl rfl ?_
            refine gs.iconst 0 X0.here hx (hb hby at_328) rfl ?_
            refine gs.iload X0.here hx (hb hby at_329) rfl ?_
            obtain ⟨cq3, kq3, q3a, q3b, q3c⟩ := isOf hZ e0 HE_ad1
            obtain ⟨_, _, ⟨T3, L3, k3, n3⟩, -, X3, ⟨Lc3, hQ3, l3, y3, z3⟩, st3⟩ := X0.virtualBack hx (y := y_33) (z := y_33) hown (mvT hZ (wd hw 229 rfl)) (mvT hZ (wd hw 230 rfl)) (notFace_of_selects (args := #[]) (mvT hZ (wd hw 232 rfl))) (mvT hZ (wd hw 232 rfl)) (mvT hZ (wd hw 231 rfl)) (by decide) (backOf (W := 0) (am33_2 l Z a0 hw [] a_EMPTY_ELEMENTDATA aw0 ka_EMPTY_ELEMENTDATA kaw0 HW (ad1) (pq) (ad6) (ad7) (kc3) (lo) (kc5) (up) h1 n0 Ol HF_ad1_Domains_lower HF_ad1_Domains_upper HV_ad6 HV_ad7 hc297 hc304) hZ (wd hw 233 rfl) (wd hw 103 rfl) (by decide) (by decide)) q3a q3c (g := (mkF m 331 #[.val (.int lf0), .val (.int lf1), .val (.int p3), .val (.int p4), .val (.int p5), .val (.ref ld5), .val (.ref ld6), .val (.ref ld7), .val (.ref ad1), .val (.int lo), .val (.int up), .val (.int hv), .val (.int (0 : Int32)), .val (.int (p4 &&& (3 : Int32))), .val (.int pq), .val (.int (0 : Int32)), .val (.int (0 : Int32)), .unset] [(.int pq), (.int (0 : Int32)), (.ref ad1)])) rfl (by rw [hml]; rfl) (Steps.refl _) (argsL := [(.int (0 : Int32)), (.int pq)]) (rest := []) (lenOf pd_20 rfl) rfl (by show 2 * 0 + _ ≤ _; exact Nat.le_of_eq rfl) (hb hby at_331) (fun _ _ => ⟨rfl, e0, (by decide : 18 + 0 ≤ _), (by decide : 1151 + 0 ≤ _)⟩)
            dsimp only [Pt.U, Pt.locs, Pt.cells, Pt.slots] at X3 l3 y3 z3 st3 hQ3
            subst l3 y3 z3
            obtain ⟨rfl, Nq3, e3⟩ := hQ3
            have N3 := Fr.app N0 Nq3
            refine Go.step (fun t_ k_ => st3.trans k_) ?_
            show Go p e below _ (T3.setTop (mkF m 334 #[.val (.int lf0), .val (.int lf1), .val (.int p3), .val (.int p4), .val (.int p5), .val (.ref ld5), .val (.ref ld6), .val (.ref ld7), .val (.ref ad1), .val (.int lo), .val (.int up), .val (.int hv), .val (.int (0 : Int32)), .val (.int (p4 &&& (3 : Int32))), .val (.int pq), .val (.int (0 : Int32)), .val (.int (0 : Int32)), .unset] [(.int (0 : Int32))]))
            refine gs.istore X3.here hx (hb hby at_334) (l' := #[.val (.int lf0), .val (.int lf1), .val (.int p3), .val (.int p4), .val (.int p5), .val (.ref ld5), .val (.ref ld6), .val (.ref ld7), .val (.ref ad1), .val (.int lo), .val (.int up), .val (.int hv), .val (.int (0 : Int32)), .val (.int (p4 &&& (3 : Int32))), .val (.int pq), .val (.int (0 : Int32)), .val (.int (0 : Int32)), .val (.int (0 : Int32))]) rfl ?_
            refine gs.iload X3.here hx (hb hby at_336) rfl ?_
            refine gs.iload X3.here hx (hb hby at_338) rfl ?_
            have hc340 : (0 : Int32) = (0 : Int32) := by decide
            refine gs.icmpNo X3.here hx (hb hby at_340) (teq hc340).2 ?_
            refine gs.iconst 1 X3.here hx (hb hby at_343) rfl ?_
            show Go p e below _ (T3.setTop (mkF m 344 _ _))
            refine gs.goto 348 X3.here hx (hb hby at_344) rfl ?_
            refine GoW.retZ X3 S0 (by rw [e3]; exact hk0) hx (t := .boolean) hret (by simp) hlk (hb hby at_348) (by rw [e3]; exact (hQ _ _ N3)) (by decide) (by decide)
          case neg =>
            refine gs.icmpNo X0.here hx (hb hby at_304) (flt hc304).2.2.1 ?_
            refine gs.iload X0.here hx (hb hby at_307) rfl ?_
            have hc309 : (0 : Int32) = (0 : Int32) := by decide
            refine gs.ifYes 319 X0.here hx (hb hby at_309) ((if0 _ _).trans (teq hc309).1) rfl ?_
            refine gs.iconst 1 X0.here hx (hb hby at_319) rfl ?_
            refine gs.goto 324 X0.here hx (hb hby at_320) rfl ?_
            refine gs.istore X0.here hx (hb hby at_324) (l' := #[.val (.int lf0), .val (.int lf1), .val (.int p3), .val (.int p4), .val (.int p5), .val (.ref ld5), .val (.ref ld6), .val (.ref ld7), .val (.ref ad1), .val (.int lo), .val (.int up), .val (.int hv), .val (.int (0 : Int32)), .val (.int (p4 &&& (3 : Int32))), .val (.int pq), .val (.int (0 : Int32)), .val (.int (1 : Int32)), .unset]) rfl ?_
            refine gs.aload X0.here hx (hb hby at_326) rfl rfl ?_
            refine gs.iconst 0 X0.here hx (hb hby at_328) rfl ?_
            refine gs.iload X0.here hx (hb hby at_329) rfl ?_
            obtain ⟨cq4, kq4, q4a, q4b, q4c⟩ := isOf hZ e0 HE_ad1
            obtain ⟨_, _, ⟨T4, L4, k4, n4⟩, -, X4, ⟨Lc4, hQ4, l4, y4, z4⟩, st4⟩ := X0.virtualBack hx (y := y_33) (z := y_33) hown (mvT hZ (wd hw 229 rfl)) (mvT hZ (wd hw 230 rfl)) (notFace_of_selects (args := #[]) (mvT hZ (wd hw 232 rfl))) (mvT hZ (wd hw 232 rfl)) (mvT hZ (wd hw 231 rfl)) (by decide) (backOf (W := 0) (am33_3 l Z a0 hw [] a_EMPTY_ELEMENTDATA aw0 ka_EMPTY_ELEMENTDATA kaw0 HW (ad1) (pq) (ad6) (ad7) (ad8) (kc1) (kc3) (lo) (kc5) (up) h1 n0 Ol HF_ad1_Domains_lower HF_ad1_Domains_upper HF_ad1_Domains_holes HV_ad8 HV_ad6 HV_ad7 hc297 hc304 hO_ad8) hZ (wd hw 233 rfl) (wd hw 103 rfl) (by decide) (by decide)) q4a q4c (g := (mkF m 331 #[.val (.int lf0), .val (.int lf1), .val (.int p3), .val (.int p4), .val (.int p5), .val (.ref ld5), .val (.ref ld6), .val (.ref ld7), .val (.ref ad1), .val (.int lo), .val (.int up), .val (.int hv), .val (.int (0 : Int32)), .val (.int (p4 &&& (3 : Int32))), .val (.int pq), .val (.int (0 : Int32)), .val (.int (1 : Int32)), .unset] [(.int pq), (.int (0 : Int32)), (.ref ad1)])) rfl (by rw [hml]; rfl) (Steps.refl _) (argsL := [(.int (0 : Int32)), (.int pq)]) (rest := []) (lenOf pd_20 rfl) rfl (by show 2 * 0 + _ ≤ _; exact Nat.le_of_eq rfl) (hb hby at_331) (fun _ _ => ⟨rfl, e0, (by decide : 18 + 0 ≤ _), (by decide : 1151 + 0 ≤ _)⟩)
            dsimp only [Pt.U, Pt.locs, Pt.cells, Pt.slots] at X4 l4 y4 z4 st4 hQ4
            subst l4 y4 z4
            obtain ⟨rfl, Nq4, e4⟩ := hQ4
            have N4 := Fr.app N0 Nq4
            refine Go.step (fun t_ k_ => st4.trans k_) ?_
            show Go p e below _ (T4.setTop (mkF m 334 #[.val (.int lf0), .val (.int lf1), .val (.int p3), .val (.int p4), .val (.int p5), .val (.ref ld5), .val (.ref ld6), .val (.ref ld7), .val (.ref ad1), .val (.int lo), .val (.int up), .val (.int hv), .val (.int (0 : Int32)), .val (.int (p4 &&& (3 : Int32))), .val (.int pq), .val (.int (0 : Int32)), .val (.int (1 : Int32)), .unset] [(.int (1 : Int32))]))
            refine gs.istore X4.here hx (hb hby at_334) (l' := #[.val (.int lf0), .val (.int lf1), .val (.int p3), .val (.int p4), .val (.int p5), .val (.ref ld5), .val (.ref ld6), .val (.ref ld7), .val (.ref ad1), .val (.int lo), .val (.int up), .val (.int hv), .val (.int (0 : Int32)), .val (.int (p4 &&& (3 : Int32))), .val (.int pq), .val (.int (0 : Int32)), .val (.int (1 : Int32)), .val (.int (1 : Int32))]) rfl ?_
            refine gs.iload X4.here hx (hb hby at_336) rfl ?_
            refine gs.iload X4.here hx (hb hby at_338) rfl ?_
            have hc340 : (1 : Int32) = (1 : Int32) := by decide
            refine gs.icmpNo X4.here hx (hb hby at_340) (teq hc340).2 ?_
            refine gs.iconst 1 X4.here hx (hb hby at_343) rfl ?_
            show Go p e below _ (T4.setTop (mkF m 344 _ _))
            refine gs.goto 348 X4.here hx (hb hby at_344) rfl ?_
            refine GoW.retZ X4 S0 (by rw [e4]; exact hk0) hx (t := .boolean) hret (by simp) hlk (hb hby at_348) (by rw [e4]; exact (hQ _ _ N4)) (by decide) (by decide)
      case neg =>
        refine gs.ifNo X0.here hx (hb hby at_245) ((if0 _ _).trans (feq hc245).1) ?_
        refine gs.iconst 1 X0.here hx (hb hby at_248) rfl ?_
        refine gs.goto 253 X0.here hx (hb hby at_249) rfl ?_
        refine gs.istore X0.here hx (hb hby at_253) (l' := #[.val (.int lf0), .val (.int lf1), .val (.int p3), .val (.int p4), .val (.int p5), .val (.ref ld5), .val (.ref ld6), .val (.ref ld7), .val (.ref ad1), .val (.int lo), .val (.int up), .val (.int hv), .val (.int (0 : Int32)), .val (.int (p4 &&& (3 : Int32))), .val (.int pq), .val (.int (1 : Int32)), .unset, .unset]) rfl ?_
        refine gs.iload X0.here hx (hb hby at_255) rfl ?_
        have hc257 : ¬ ((1 : Int32) = (0 : Int32)) := by decide
        refine gs.ifNo X0.here hx (hb hby at_257) ((if0 _ _).trans (feq hc257).1) ?_
        refine gs.iconst 0 X0.here hx (hb hby at_260) rfl ?_
        refine gs.iload X0.here hx (hb hby at_261) rfl ?_
        by_cases hc263 : pq < (0 : Int32)
        case pos =>
          refine gs.icmpYes 277 X0.here hx (hb hby at_263) (tlt hc263).2.2.1 rfl ?_
          refine gs.iconst 0 X0.here hx (hb hby at_277) rfl ?_
          refine gs.istore X0.here hx (hb hby at_278) (l' := #[.val (.int lf0), .val (.int lf1), .val (.int p3), .val (.int p4), .val (.int p5), .val (.ref ld5), .val (.ref ld6), .val (.ref ld7), .val (.ref ad1), .val (.int lo), .val (.int up), .val (.int hv), .val (.int (0 : Int32)), .val (.int (p4 &&& (3 : Int32))), .val (.int pq), .val (.int (1 : Int32)), .val (.int (0 : Int32)), .unset]) rfl ?_
          refine gs.aload X0.here hx (hb hby at_280) rfl rfl ?_
          refine gs.iconst 1 X0.here hx (hb hby at_282) rfl ?_
          refine gs.iload X0.here hx (hb hby at_283) rfl ?_
          obtain ⟨cq5, kq5, q5a, q5b, q5c⟩ := isOf hZ e0 HE_ad1
          obtain ⟨_, _, ⟨T5, L5, k5, n5⟩, -, X5, ⟨Lc5, hQ5, l5, y5, z5⟩, st5⟩ := X0.virtualBack hx (y := y_33) (z := y_33) hown (mvT hZ (wd hw 229 rfl)) (mvT hZ (wd hw 230 rfl)) (notFace_of_selects (args := #[]) (mvT hZ (wd hw 232 rfl))) (mvT hZ (wd hw 232 rfl)) (mvT hZ (wd hw 231 rfl)) (by decide) (backOf (W := 0) (am33_4 l Z a0 hw [] a_EMPTY_ELEMENTDATA aw0 ka_EMPTY_ELEMENTDATA kaw0 HW (ad1) (pq) (ad6) (kc3) (lo) h1 n0 Ol HF_ad1_Domains_lower HV_ad6 hc263) hZ (wd hw 233 rfl) (wd hw 103 rfl) (by decide) (by decide)) q5a q5c (g := (mkF m 285 #[.val (.int lf0), .val (.int lf1), .val (.int p3), .val (.int p4), .val (.int p5), .val (.ref ld5), .val (.ref ld6), .val (.ref ld7), .val (.ref ad1), .val (.int lo), .val (.int up), .val (.int hv), .val (.int (0 : Int32)), .val (.int (p4 &&& (3 : Int32))), .val (.int pq), .val (.int (1 : Int32)), .val (.int (0 : Int32)), .unset] [(.int pq), (.int (1 : Int32)), (.ref ad1)])) rfl (by rw [hml]; rfl) (Steps.refl _) (argsL := [(.int (1 : Int32)), (.int pq)]) (rest := []) (lenOf pd_20 rfl) rfl (by show 2 * 0 + _ ≤ _; exact Nat.le_of_eq rfl) (hb hby at_285) (fun _ _ => ⟨rfl, e0, (by decide : 18 + 0 ≤ _), (by decide : 1151 + 0 ≤ _)⟩)
          dsimp only [Pt.U, Pt.locs, Pt.cells, Pt.slots] at X5 l5 y5 z5 st5 hQ5
          subst l5 y5 z5
          obtain ⟨rfl, Nq5, e5⟩ := hQ5
          have N5 := Fr.app N0 Nq5
          refine Go.step (fun t_ k_ => st5.trans k_) ?_
          show Go p e below _ (T5.setTop (mkF m 288 #[.val (.int lf0), .val (.int lf1), .val (.int p3), .val (.int p4), .val (.int p5), .val (.ref ld5), .val (.ref ld6), .val (.ref ld7), .val (.ref ad1), .val (.int lo), .val (.int up), .val (.int hv), .val (.int (0 : Int32)), .val (.int (p4 &&& (3 : Int32))), .val (.int pq), .val (.int (1 : Int32)), .val (.int (0 : Int32)), .unset] [(.int (0 : Int32))]))
          refine gs.istore X5.here hx (hb hby at_288) (l' := #[.val (.int lf0), .val (.int lf1), .val (.int p3), .val (.int p4), .val (.int p5), .val (.ref ld5), .val (.ref ld6), .val (.ref ld7), .val (.ref ad1), .val (.int lo), .val (.int up), .val (.int hv), .val (.int (0 : Int32)), .val (.int (p4 &&& (3 : Int32))), .val (.int pq), .val (.int (1 : Int32)), .val (.int (0 : Int32)), .val (.int (0 : Int32))]) rfl ?_
          refine gs.goto 336 X5.here hx (hb hby at_290) rfl ?_
          refine gs.iload X5.here hx (hb hby at_336) rfl ?_
          refine gs.iload X5.here hx (hb hby at_338) rfl ?_
          have hc340 : (0 : Int32) = (0 : Int32) := by decide
          refine gs.icmpNo X5.here hx (hb hby at_340) (teq hc340).2 ?_
          refine gs.iconst 1 X5.here hx (hb hby at_343) rfl ?_
          refine gs.goto 348 X5.here hx (hb hby at_344) rfl ?_
          refine GoW.retZ X5 S0 (by rw [e5]; exact hk0) hx (t := .boolean) hret (by simp) hlk (hb hby at_348) (by rw [e5]; exact (hQ _ _ N5)) (by decide) (by decide)
        case neg =>
          refine gs.icmpNo X0.here hx (hb hby at_263) (flt hc263).2.2.1 ?_
          refine gs.iload X0.here hx (hb hby at_266) rfl ?_
          refine gs.bipush 99 X0.here hx (hb hby at_268) rfl ?_
          by_cases hc270 : (99 : Int32) < pq
          case pos =>
            refine gs.icmpYes 277 X0.here hx (hb hby at_270) (tlt hc270).2.2.1 rfl ?_
            refine gs.iconst 0 X0.here hx (hb hby at_277) rfl ?_
            refine gs.istore X0.here hx (hb hby at_278) (l' := #[.val (.int lf0), .val (.int lf1), .val (.int p3), .val (.int p4), .val (.int p5), .val (.ref ld5), .val (.ref ld6), .val (.ref ld7), .val (.ref ad1), .val (.int lo), .val (.int up), .val (.int hv), .val (.int (0 : Int32)), .val (.int (p4 &&& (3 : Int32))), .val (.int pq), .val (.int (1 : Int32)), .val (.int (0 : Int32)), .unset]) rfl ?_
            refine gs.aload X0.here hx (hb hby at_280) rfl rfl ?_
            refine gs.iconst 1 X0.here hx (hb hby at_282) rfl ?_
            refine gs.iload X0.here hx (hb hby at_283) rfl ?_
            obtain ⟨cq6, kq6, q6a, q6b, q6c⟩ := isOf hZ e0 HE_ad1
            obtain ⟨_, _, ⟨T6, L6, k6, n6⟩, -, X6, ⟨Lc6, hQ6, l6, y6, z6⟩, st6⟩ := X0.virtualBack hx (y := y_33) (z := y_33) hown (mvT hZ (wd hw 229 rfl)) (mvT hZ (wd hw 230 rfl)) (notFace_of_selects (args := #[]) (mvT hZ (wd hw 232 rfl))) (mvT hZ (wd hw 232 rfl)) (mvT hZ (wd hw 231 rfl)) (by decide) (backOf (W := 0) (am33_5 l Z a0 hw [] a_EMPTY_ELEMENTDATA aw0 ka_EMPTY_ELEMENTDATA kaw0 HW (ad1) (pq) (ad6) (ad7) (kc3) (lo) (kc5) (up) h1 n0 Ol HF_ad1_Domains_lower HF_ad1_Domains_upper HV_ad6 HV_ad7 hc270 hc263) hZ (wd hw 233 rfl) (wd hw 103 rfl) (by decide) (by decide)) q6a q6c (g := (mkF m 285 #[.val (.int lf0), .val (.int lf1), .val (.int p3), .val (.int p4), .val (.int p5), .val (.ref ld5), .val (.ref ld6), .val (.ref ld7), .val (.ref ad1), .val (.int lo), .val (.int up), .val (.int hv), .val (.int (0 : Int32)), .val (.int (p4 &&& (3 : Int32))), .val (.int pq), .val (.int (1 : Int32)), .val (.int (0 : Int32)), .unset] [(.int pq), (.int (1 : Int32)), (.ref ad1)])) rfl (by rw [hml]; rfl) (Steps.refl _) (argsL := [(.int (1 : Int32)), (.int pq)]) (rest := []) (lenOf pd_20 rfl) rfl (by show 2 * 0 + _ ≤ _; exact Nat.le_of_eq rfl) (hb hby at_285) (fun _ _ => ⟨rfl, e0, (by decide : 18 + 0 ≤ _), (by decide : 1151 + 0 ≤ _)⟩)
            dsimp only [Pt.U, Pt.locs, Pt.cells, Pt.slots] at X6 l6 y6 z6 st6 hQ6
            subst l6 y6 z6
            obtain ⟨rfl, Nq6, e6⟩ := hQ6
            have N6 := Fr.app N0 Nq6
            refine Go.step (fun t_ k_ => st6.trans k_) ?_
            show Go p e below _ (T6.setTop (mkF m 288 #[.val (.int lf0), .val (.int lf1), .val (.int p3), .val (.int p4), .val (.int p5), .val (.ref ld5), .val (.ref ld6), .val (.ref ld7), .val (.ref ad1), .val (.int lo), .val (.int up), .val (.int hv), .val (.int (0 : Int32)), .val (.int (p4 &&& (3 : Int32))), .val (.int pq), .val (.int (1 : Int32)), .val (.int (0 : Int32)), .unset] [(.int (0 : Int32))]))
            refine gs.istore X6.here hx (hb hby at_288) (l' := #[.val (.int lf0), .val (.int lf1), .val (.int p3), .val (.int p4), .val (.int p5), .val (.ref ld5), .val (.ref ld6), .val (.ref ld7), .val (.ref ad1), .val (.int lo), .val (.int up), .val (.int hv), .val (.int (0 : Int32)), .val (.int (p4 &&& (3 : Int32))), .val (.int pq), .val (.int (1 : Int32)), .val (.int (0 : Int32)), .val (.int (0 : Int32))]) rfl ?_
            refine gs.goto 336 X6.here hx (hb hby at_290) rfl ?_
            refine gs.iload X6.here hx (hb hby at_336) rfl ?_
            refine gs.iload X6.here hx (hb hby at_338) rfl ?_
            have hc340 : (0 : Int32) = (0 : Int32) := by decide
            refine gs.icmpNo X6.here hx (hb hby at_340) (teq hc340).2 ?_
            refine gs.iconst 1 X6.here hx (hb hby at_343) rfl ?_
            refine gs.goto 348 X6.here hx (hb hby at_344) rfl ?_
            refine GoW.retZ X6 S0 (by rw [e6]; exact hk0) hx (t := .boolean) hret (by simp) hlk (hb hby at_348) (by rw [e6]; exact (hQ _ _ N6)) (by decide) (by decide)
          case neg =>
            refine gs.icmpNo X0.here hx (hb hby at_270) (flt hc270).2.2.1 ?_
            refine gs.iconst 1 X0.here hx (hb hby at_273) rfl ?_
            show Go p e below _ (T0.setTop (mkF m 274 _ _))
            refine gs.goto 278 X0.here hx (hb hby at_274) rfl ?_
            refine gs.istore X0.here hx (hb hby at_278) (l' := #[.val (.int lf0), .val (.int lf1), .val (.int p3), .val (.int p4), .val (.int p5), .val (.ref ld5), .val (.ref ld6), .val (.ref ld7), .val (.ref ad1), .val (.int lo), .val (.int up), .val (.int hv), .val (.int (0 : Int32)), .val (.int (p4 &&& (3 : Int32))), .val (.int pq), .val (.int (1 : Int32)), .val (.int (1 : Int32)), .unset]) rfl ?_
            refine gs.aload X0.here hx (hb hby at_280) rfl rfl ?_
            refine gs.iconst 1 X0.here hx (hb hby at_282) rfl ?_
            refine gs.iload X0.here hx (hb hby at_283) rfl ?_
            obtain ⟨cq7, kq7, q7a, q7b, q7c⟩ := isOf hZ e0 HE_ad1
            obtain ⟨_, _, ⟨T7, L7, k7, n7⟩, -, X7, ⟨Lc7, hQ7, l7, y7, z7⟩, st7⟩ := X0.virtualBack hx (y := y_33) (z := y_33) hown (mvT hZ (wd hw 229 rfl)) (mvT hZ (wd hw 230 rfl)) (notFace_of_selects (args := #[]) (mvT hZ (wd hw 232 rfl))) (mvT hZ (wd hw 232 rfl)) (mvT hZ (wd hw 231 rfl)) (by decide) (backOf (W := 0) (am33_6 l Z a0 hw [] a_EMPTY_ELEMENTDATA aw0 ka_EMPTY_ELEMENTDATA kaw0 HW (ad1) (pq) (ad6) (ad7) (ad8) (kc1) (kc3) (lo) (kc5) (up) h1 n0 Ol HF_ad1_Domains_lower HF_ad1_Domains_upper HF_ad1_Domains_holes HV_ad8 HV_ad6 HV_ad7 hc270 hc263 hO_ad8) hZ (wd hw 233 rfl) (wd hw 103 rfl) (by decide) (by decide)) q7a q7c (g := (mkF m 285 #[.val (.int lf0), .val (.int lf1), .val (.int p3), .val (.int p4), .val (.int p5), .val (.ref ld5), .val (.ref ld6), .val (.ref ld7), .val (.ref ad1), .val (.int lo), .val (.int up), .val (.int hv), .val (.int (0 : Int32)), .val (.int (p4 &&& (3 : Int32))), .val (.int pq), .val (.int (1 : Int32)), .val (.int (1 : Int32)), .unset] [(.int pq), (.int (1 : Int32)), (.ref ad1)])) rfl (by rw [hml]; rfl) (Steps.refl _) (argsL := [(.int (1 : Int32)), (.int pq)]) (rest := []) (lenOf pd_20 rfl) rfl (by show 2 * 0 + _ ≤ _; exact Nat.le_of_eq rfl) (hb hby at_285) (fun _ _ => ⟨rfl, e0, (by decide : 18 + 0 ≤ _), (by decide : 1151 + 0 ≤ _)⟩)
            dsimp only [Pt.U, Pt.locs, Pt.cells, Pt.slots] at X7 l7 y7 z7 st7 hQ7
            subst l7 y7 z7
            obtain ⟨rfl, Nq7, e7⟩ := hQ7
            have N7 := Fr.app N0 Nq7
            refine Go.step (fun t_ k_ => st7.trans k_) ?_
            show Go p e below _ (T7.setTop (mkF m 288 #[.val (.int lf0), .val (.int lf1), .val (.int p3), .val (.int p4), .val (.int p5), .val (.ref ld5), .val (.ref ld6), .val (.ref ld7), .val (.ref ad1), .val (.int lo), .val (.int up), .val (.int hv), .val (.int (0 : Int32)), .val (.int (p4 &&& (3 : Int32))), .val (.int pq), .val (.int (1 : Int32)), .val (.int (1 : Int32)), .unset] [(.int (1 : Int32))]))
            refine gs.istore X7.here hx (hb hby at_288) (l' := #[.val (.int lf0), .val (.int lf1), .val (.int p3), .val (.int p4), .val (.int p5), .val (.ref ld5), .val (.ref ld6), .val (.ref ld7), .val (.ref ad1), .val (.int lo), .val (.int up), .val (.int hv), .val (.int (0 : Int32)), .val (.int (p4 &&& (3 : Int32))), .val (.int pq), .val (.int (1 : Int32)), .val (.int (1 : Int32)), .val (.int (1 : Int32))]) rfl ?_
            refine gs.goto 336 X7.here hx (hb hby at_290) rfl ?_
            refine gs.iload X7.here hx (hb hby at_336) rfl ?_
            refine gs.iload X7.here hx (hb hby at_338) rfl ?_
            have hc340 : (1 : Int32) = (1 : Int32) := by decide
            refine gs.icmpNo X7.here hx (hb hby at_340) (teq hc340).2 ?_
            refine gs.iconst 1 X7.here hx (hb hby at_343) rfl ?_
            refine gs.goto 348 X7.here hx (hb hby at_344) rfl ?_
            refine GoW.retZ X7 S0 (by rw [e7]; exact hk0) hx (t := .boolean) hret (by simp) hlk (hb hby at_348) (by rw [e7]; exact (hQ _ _ N7)) (by decide) (by decide)
    refine gs.iloadN X0.here hx (hb hby at_153) rfl ?_
    refine gs.iconst 3 X0.here hx (hb hby at_154) rfl ?_
    refine gs.iand X0.here hx (hb hby at_155) ?_
    refine gs.istore X0.here hx (hb hby at_156) (l' := #[.val (.int lf0), .val (.int lf1), .val (.int p3), .val (.int p4), .val (.int p5), .val (.ref ld5), .val (.ref ld6), .val (.ref ld7), .val (.ref ad1), .val (.int lo), .val (.int up), .val (.int hv), .val (.int (0 : Int32)), .val (.int (p4 &&& (3 : Int32))), .unset, .unset, .unset, .unset]) rfl ?_
    refine gs.iload X0.here hx (hb hby at_158) rfl ?_
    by_cases hc160 : (p4 &&& (3 : Int32)) = (0 : Int32)
    case pos =>
      refine gs.ifNo X0.here hx (hb hby at_160) ((if0 _ _).trans (teq hc160).2) ?_
      refine gs.iload X0.here hx (hb hby at_163) rfl ?_
      refine gs.istore X0.here hx (hb hby at_165) (l' := #[.val (.int lf0), .val (.int lf1), .val (.int p3), .val (.int p4), .val (.int p5), .val (.ref ld5), .val (.ref ld6), .val (.ref ld7), .val (.ref ad1), .val (.int lo), .val (.int up), .val (.int hv), .val (.int (0 : Int32)), .val (.int (p4 &&& (3 : Int32))), .val (.int p5), .unset, .unset, .unset]) rfl ?_
      refine gs.goto 242 X0.here hx (hb hby at_167) rfl ?_
      exact J1 _
    case neg =>
      refine gs.ifYes 170 X0.here hx (hb hby at_160) ((if0 _ _).trans (feq hc160).2) rfl ?_
      refine gs.iload X0.here hx (hb hby at_170) rfl ?_
      refine gs.iconst 1 X0.here hx (hb hby at_172) rfl ?_
      by_cases hc173 : (p4 &&& (3 : Int32)) = (1 : Int32)
      case pos =>
        refine gs.icmpNo X0.here hx (hb hby at_173) (teq hc173).2 ?_
        refine gs.iload X0.here hx (hb hby at_176) rfl ?_
        refine gs.sipush 255 X0.here hx (hb hby at_178) rfl ?_
        refine gs.iand X0.here hx (hb hby at_181) ?_
        refine gs.bipush 28 X0.here hx (hb hby at_182) rfl ?_
        refine gs.isub X0.here hx (hb hby at_184) ?_
        refine gs.istore X0.here hx (hb hby at_185) (l' := #[.val (.int lf0), .val (.int lf1), .val (.int p3), .val (.int p4), .val (.int p5), .val (.ref ld5), .val (.ref ld6), .val (.ref ld7), .val (.ref ad1), .val (.int lo), .val (.int up), .val (.int hv), .val (.int (0 : Int32)), .val (.int (p4 &&& (3 : Int32))), .val (.int ((p5 &&& (255 : Int32)) - (28 : Int32))), .unset, .unset, .unset]) rfl ?_
        refine gs.goto 242 X0.here hx (hb hby at_187) rfl ?_
        exact J1 _
      case neg =>
        refine gs.icmpYes 190 X0.here hx (hb hby at_173) (feq hc173).2 rfl ?_
        refine gs.iload X0.here hx (hb hby at_190) rfl ?_
        refine gs.iconst 2 X0.here hx (hb hby at_192) rfl ?_
        by_cases hc193 : (p4 &&& (3 : Int32)) = (2 : Int32)
        case pos =>
          refine gs.icmpNo X0.here hx (hb hby at_193) (teq hc193).2 ?_
          refine gs.iload X0.here hx (hb hby at_196) rfl ?_
          refine gs.iconst 1 X0.here hx (hb hby at_198) rfl ?_
          refine gs.isub X0.here hx (hb hby at_199) ?_
          refine gs.iload X0.here hx (hb hby at_200) rfl ?_
          refine gs.iconst 3 X0.here hx (hb hby at_202) rfl ?_
          refine gs.iand X0.here hx (hb hby at_203) ?_
          refine gs.iadd X0.here hx (hb hby at_204) ?_
          show Go p e below _ (T0.setTop (mkF m 205 _ _))
          refine gs.istore X0.here hx (hb hby at_205) (l' := #[.val (.int lf0), .val (.int lf1), .val (.int p3), .val (.int p4), .val (.int p5), .val (.ref ld5), .val (.ref ld6), .val (.ref ld7), .val (.ref ad1), .val (.int lo), .val (.int up), .val (.int hv), .val (.int (0 : Int32)), .val (.int (p4 &&& (3 : Int32))), .val (.int ((hv - (1 : Int32)) + (p5 &&& (3 : Int32)))), .unset, .unset, .unset]) rfl ?_
          refine gs.goto 242 X0.here hx (hb hby at_207) rfl ?_
          exact J1 _
        case neg =>
          refine gs.icmpYes 210 X0.here hx (hb hby at_193) (feq hc193).2 rfl ?_
          refine gs.iload X0.here hx (hb hby at_210) rfl ?_
          refine gs.iconst 1 X0.here hx (hb hby at_212) rfl ?_
          refine gs.iand X0.here hx (hb hby at_213) ?_
          by_cases hc214 : (p5 &&& (1 : Int32)) = (0 : Int32)
          case pos =>
            refine gs.ifNo X0.here hx (hb hby at_214) ((if0 _ _).trans (teq hc214).2) ?_
            refine gs.iload X0.here hx (hb hby at_217) rfl ?_
            refine gs.iconst 1 X0.here hx (hb hby at_219) rfl ?_
            refine gs.isub X0.here hx (hb hby at_220) ?_
            refine gs.iload X0.here hx (hb hby at_221) rfl ?_
            refine gs.iconst 1 X0.here hx (hb hby at_223) rfl ?_
            refine Go.step (fun t_ k_ => XS.iushr X0.here hx rfl (hb hby at_224) rfl k_) ?_
            show Go p e below _ (T0.setTop (mkF m 225 #[.val (.int lf0), .val (.int lf1), .val (.int p3), .val (.int p4), .val (.int p5), .val (.ref ld5), .val (.ref ld6), .val (.ref ld7), .val (.ref ad1), .val (.int lo), .val (.int up), .val (.int hv), .val (.int (0 : Int32)), .val (.int (p4 &&& (3 : Int32))), .unset, .unset, .unset, .unset] [(.int ((p5.toUInt32 >>> ((1 : Int32) &&& 31).toUInt32).toInt32)), (.int (lo - (1 : Int32)))]))
            refine gs.iconst 1 X0.here hx (hb hby at_225) rfl ?_
            refine gs.iand X0.here hx (hb hby at_226) ?_
            refine gs.iadd X0.here hx (hb hby at_227) ?_
            refine gs.goto 240 X0.here hx (hb hby at_228) rfl ?_
            refine gs.istore X0.here hx (hb hby at_240) (l' := #[.val (.int lf0), .val (.int lf1), .val (.int p3), .val (.int p4), .val (.int p5), .val (.ref ld5), .val (.ref ld6), .val (.ref ld7), .val (.ref ad1), .val (.int lo), .val (.int up), .val (.int hv), .val (.int (0 : Int32)), .val (.int (p4 &&& (3 : Int32))), .val (.int ((lo - (1 : Int32)) + (((p5.toUInt32 >>> ((1 : Int32) &&& 31).toUInt32).toInt32) &&& (1 : Int32)))), .unset, .unset, .unset]) rfl ?_
            exact J1 _
          case neg =>
            refine gs.ifYes 231 X0.here hx (hb hby at_214) ((if0 _ _).trans (feq hc214).2) rfl ?_
            refine gs.iload X0.here hx (hb hby at_231) rfl ?_
            refine gs.iload X0.here hx (hb hby at_233) rfl ?_
            refine gs.iconst 1 X0.here hx (hb hby at_235) rfl ?_
            refine Go.step (fun t_ k_ => XS.iushr X0.here hx rfl (hb hby at_236) rfl k_) ?_
            show Go p e below _ (T0.setTop (mkF m 237 #[.val (.int lf0), .val (.int lf1), .val (.int p3), .val (.int p4), .val (.int p5), .val (.ref ld5), .val (.ref ld6), .val (.ref ld7), .val (.ref ad1), .val (.int lo), .val (.int up), .val (.int hv), .val (.int (0 : Int32)), .val (.int (p4 &&& (3 : Int32))), .unset, .unset, .unset, .unset] [(.int ((p5.toUInt32 >>> ((1 : Int32) &&& 31).toUInt32).toInt32)), (.int up)]))
            refine gs.iconst 1 X0.here hx (hb hby at_237) rfl ?_
            refine gs.iand X0.here hx (hb hby at_238) ?_
            refine gs.iadd X0.here hx (hb hby at_239) ?_
            refine gs.istore X0.here hx (hb hby at_240) (l' := #[.val (.int lf0), .val (.int lf1), .val (.int p3), .val (.int p4), .val (.int p5), .val (.ref ld5), .val (.ref ld6), .val (.ref ld7), .val (.ref ad1), .val (.int lo), .val (.int up), .val (.int hv), .val (.int (0 : Int32)), .val (.int (p4 &&& (3 : Int32))), .val (.int (up + (((p5.toUInt32 >>> ((1 : Int32) &&& 31).toUInt32).toInt32) &&& (1 : Int32)))), .unset, .unset, .unset]) rfl ?_
            exact J1 _
  case neg =>
    refine gs.ifNo X0.here hx (hb hby at_130) ((if0 _ _).trans (feq hc130).1) ?_
    refine gs.iconst 1 X0.here hx (hb hby at_133) rfl ?_
    refine gs.goto 138 X0.here hx (hb hby at_134) rfl ?_
    refine gs.istore X0.here hx (hb hby at_138) (l' := #[.val (.int lf0), .val (.int lf1), .val (.int p3), .val (.int p4), .val (.int p5), .val (.ref ld5), .val (.ref ld6), .val (.ref ld7), .val (.ref ad1), .val (.int lo), .val (.int up), .val (.int hv), .val (.int (1 : Int32)), .unset, .unset, .unset, .unset, .unset]) rfl ?_
    refine gs.iload X0.here hx (hb hby at_140) rfl ?_
    have hc142 : ¬ ((1 : Int32) = (0 : Int32)) := by decide
    refine gs.ifNo X0.here hx (hb hby at_142) ((if0 _ _).trans (feq hc142).1) ?_
    refine gs.aload X0.here hx (hb hby at_145) rfl rfl ?_
    refine gs.iconst 0 X0.here hx (hb hby at_147) rfl ?_
    refine gs.iload X0.here hx (hb hby at_148) rfl ?_
    obtain ⟨cq8, kq8, q8a, q8b, q8c⟩ := isOf hZ e0 HE_ad1
    obtain ⟨_, _, ⟨T8, L8, k8, n8⟩, -, X8, ⟨Lc8, hQ8, l8, y8, z8⟩, st8⟩ := X0.virtualBack hx (y := y_36) (z := y_36) hown (mvT hZ (wd hw 242 rfl)) (mvT hZ (wd hw 243 rfl)) (notFace_of_selects (args := #[]) (mvT hZ (wd hw 245 rfl))) (mvT hZ (wd hw 245 rfl)) (mvT hZ (wd hw 244 rfl)) (by decide) (backOf (W := 0) (am36_1 l Z a0 hw [] a_EMPTY_ELEMENTDATA aw0 ka_EMPTY_ELEMENTDATA kaw0 HW (ad1) (hv) (ad2) (ad10) (ad3) (ad4) (ad5) (ad6) (ad7) (ad8) (ad9) (w2) (t2) (kc1) (kc2) (kc3) (lo) (kc4) (s2) (kc5) (up) (kc6) (f2) h1 n0 Ol HE_ad2 HF_ad2_InitialDomain_size HE_ad1 HF_ad1_Domains_trail HF_ad1_Domains_marks HF_ad1_Domains_initial HF_ad1_Domains_lower HF_ad1_Domains_upper HF_ad1_Domains_holes HF_ad1_Domains_sizes HF_ad1_Domains_withOneValue HF_ad1_Domains_trailSize HF_ad1_Domains_resized HE_ad8 HV_ad8 HV_ad5 HV_ad6 HV_ad9 HE_ad3 HV_ad7 HG_ad3 nn_ad1 nn_ad9 nn_ad3 nn_ad8 ne_ad1_ad9 ne_ad1_ad3 ne_ad1_ad8 (Ne.symm ne_ad3_ad9) (Ne.symm ne_ad8_ad9) ne_ad3_ad8 (ix_bd (by omega) (by omega)) (by rw [o1024]; omega) (i_ne (by omega)) (i_ne (by omega)) (i_ne (by rw [o1024]; omega)) hO_ad8 hO_ad5) hZ (wd hw 246 rfl) (wd hw 103 rfl) (by decide) (by decide)) q8a q8c (g := (mkF m 150 #[.val (.int lf0), .val (.int lf1), .val (.int p3), .val (.int p4), .val (.int p5), .val (.ref ld5), .val (.ref ld6), .val (.ref ld7), .val (.ref ad1), .val (.int lo), .val (.int up), .val (.int hv), .val (.int (1 : Int32)), .unset, .unset, .unset, .unset, .unset] [(.int hv), (.int (0 : Int32)), (.ref ad1)])) rfl (by rw [hml]; rfl) (Steps.refl _) (argsL := [(.int (0 : Int32)), (.int hv)]) (rest := []) (lenOf pd_17 rfl) rfl (by show 2 * 0 + _ ≤ _; exact Nat.le_of_eq rfl) (hb hby at_150) (fun _ _ => ⟨rfl, e0, (by decide : 18 + 1 ≤ _), (by decide : 1151 + 4 ≤ _)⟩)
    dsimp only [Pt.U, Pt.locs, Pt.cells, Pt.slots] at X8 l8 y8 z8 st8 hQ8
    subst l8 y8 z8
    obtain ⟨b8_0, kx8_0, ex8_0, rfl, gb_b8_0, Nq8, K8, p8_0, p8_1, p8_2, p8_3, p8_4, p8_5, p8_6, p8_7, p8_8, p8_9, p8_10, p8_11, p8_12, p8_13, p8_14, p8_15, p8_16, p8_17⟩ := hQ8
    have nn_b8_0 : n0 ≤ b8_0 := Nat.le_trans (old_z0 Ol) gb_b8_0
    have sz_b8_0 : h0.size ≤ b8_0 := Nat.le_trans kp0.1 gb_b8_0
    have old8 := Ol.keep K8 (allS nn_ad1 (allS nn_ad9 (allS nn_ad3 (allS nn_ad8 all0))))
    have hk8 := Nat.le_trans hk0 K8.1
    have kp8 := kp0.trans K8 (allS (Or.inr sz_ad1) (allS (Or.inr sz_ad9) (allS (Or.inr sz_ad3) (allS (Or.inr sz_ad8) all0))))
    have N8 := Fr.app N0 Nq8
    refine Go.step (fun t_ k_ => st8.trans k_) ?_
    show Go p e below _ (T8.setTop (mkF m 153 #[.val (.int lf0), .val (.int lf1), .val (.int p3), .val (.int p4), .val (.int p5), .val (.ref ld5), .val (.ref ld6), .val (.ref ld7), .val (.ref ad1), .val (.int lo), .val (.int up), .val (.int hv), .val (.int (1 : Int32)), .unset, .unset, .unset, .unset, .unset] []))
    have J9 : ∀ pq : Int32, Go p e below (Fin2 s below Q room_1.cells room_1.slots) (T8.setTop (mkF m 242 #[.val (.int lf0), .val (.int lf1), .val (.int p3), .val (.int p4), .val (.int p5), .val (.ref ld5), .val (.ref ld6), .val (.ref ld7), .val (.ref ad1), .val (.int lo), .val (.int up), .val (.int hv), .val (.int (1 : Int32)), .val (.int (p4 &&& (3 : Int32))), .val (.int pq), .unset, .unset, .unset] [])) := by
      intro pq
      refine gs.iloadN X8.here hx (hb hby at_242) rfl ?_
      refine gs.iconst 4 X8.here hx (hb hby at_243) rfl ?_
      refine gs.iand X8.here hx (hb hby at_244) ?_
      show Go p e below _ (T8.setTop (mkF m 245 _ _))
      by_cases hc245 : (p4 &&& (4 : Int32)) = (0 : Int32)
      case pos =>
        refine gs.ifYes 252 X8.here hx (hb hby at_245) ((if0 _ _).trans (teq hc245).1) rfl ?_
        refine gs.iconst 0 X8.here hx (hb hby at_252) rfl ?_
        refine gs.istore X8.here hx (hb hby at_253) (l' := #[.val (.int lf0), .val (.int lf1), .val (.int p3), .val (.int p4), .val (.int p5), .val (.ref ld5), .val (.ref ld6), .val (.ref ld7), .val (.ref ad1), .val (.int lo), .val (.int up), .val (.int hv), .val (.int (1 : Int32)), .val (.int (p4 &&& (3 : Int32))), .val (.int pq), .val (.int (0 : Int32)), .unset, .unset]) rfl ?_
        refine gs.iload X8.here hx (hb hby at_255) rfl ?_
        have hc257 : (0 : Int32) = (0 : Int32) := by decide
        refine gs.ifYes 293 X8.here hx (hb hby at_257) ((if0 _ _).trans (teq hc257).1) rfl ?_
        refine gs.iload X8.here hx (hb hby at_293) rfl ?_
        refine gs.iload X8.here hx (hb hby at_295) rfl ?_
        by_cases hc297 : pq < lo
        case pos =>
          refine gs.icmpYes 323 X8.here hx (hb hby at_297) (tlt hc297).2.2.1 rfl ?_
          refine gs.iconst 0 X8.here hx (hb hby at_323) rfl ?_
          refine gs.istore X8.here hx (hb hby at_324) (l' := #[.val (.int lf0), .val (.int lf1), .val (.int p3), .val (.int p4), .val (.int p5), .val (.ref ld5), .val (.ref ld6), .val (.ref ld7), .val (.ref ad1), .val (.int lo), .val (.int up), .val (.int hv), .val (.int (1 : Int32)), .val (.int (p4 &&& (3 : Int32))), .val (.int pq), .val (.int (0 : Int32)), .val (.int (0 : Int32)), .unset]) rfl ?_
          refine gs.aload X8.here hx (hb hby at_326) rfl rfl ?_
          refine gs.iconst 0 X8.here hx (hb hby at_328) rfl ?_
          refine gs.iload X8.here hx (hb hby at_329) rfl ?_
          have f10 := (HV_ad6.keep K8 (ninS (Ne.symm ne_ad1_ad6) (ninS ne_ad6_ad9 (ninS (Ne.symm ne_ad3_ad6) (ninS ne_ad6_ad8 nin0)))))
          obtain ⟨cq11, kq11, q11a, q11b, q11c⟩ := isOf hZ rfl p8_0
          obtain ⟨_, _, ⟨T11, L11, k11, n11⟩, -, X11, ⟨Lc11, hQ11, l11, y11, z11⟩, st11⟩ := X8.virtualBack hx (y := y_33) (z := y_33) hown (mvT hZ (wd hw 229 rfl)) (mvT hZ (wd hw 230 rfl)) (notFace_of_selects (args := #[]) (mvT hZ (wd hw 232 rfl))) (mvT hZ (wd hw 232 rfl)) (mvT hZ (wd hw 231 rfl)) (by decide) (backOf (W := 0) (am33_1 l Z a0 hw [] a_EMPTY_ELEMENTDATA aw0 ka_EMPTY_ELEMENTDATA kaw0 HW (ad1) (pq) (ad6) (kc3) (lo) T8.heap n0 old8 p8_3 f10 hc297) hZ (wd hw 233 rfl) (wd hw 103 rfl) (by decide) (by decide)) q11a q11c (g := (mkF m 331 #[.val (.int lf0), .val (.int lf1), .val (.int p3), .val (.int p4), .val (.int p5), .val (.ref ld5), .val (.ref ld6), .val (.ref ld7), .val (.ref ad1), .val (.int lo), .val (.int up), .val (.int hv), .val (.int (1 : Int32)), .val (.int (p4 &&& (3 : Int32))), .val (.int pq), .val (.int (0 : Int32)), .val (.int (0 : Int32)), .unset] [(.int pq), (.int (0 : Int32)), (.ref ad1)])) rfl (by rw [hml]; rfl) (Steps.refl _) (argsL := [(.int (0 : Int32)), (.int pq)]) (rest := []) (lenOf pd_20 rfl) rfl (by show 2 * 0 + _ ≤ _; exact Nat.le_of_eq rfl) (hb hby at_331) (fun _ _ => ⟨rfl, rfl, (by decide : 19 + 0 ≤ _), (by decide : 1155 + 0 ≤ _)⟩)
          dsimp only [Pt.U, Pt.locs, Pt.cells, Pt.slots] at X11 l11 y11 z11 st11 hQ11
          subst l11 y11 z11
          obtain ⟨rfl, Nq11, e11⟩ := hQ11
          have N11 := Fr.app N8 Nq11
          refine Go.step (fun t_ k_ => st11.trans k_) ?_
          show Go p e below _ (T11.setTop (mkF m 334 #[.val (.int lf0), .val (.int lf1), .val (.int p3), .val (.int p4), .val (.int p5), .val (.ref ld5), .val (.ref ld6), .val (.ref ld7), .val (.ref ad1), .val (.int lo), .val (.int up), .val (.int hv), .val (.int (1 : Int32)), .val (.int (p4 &&& (3 : Int32))), .val (.int pq), .val (.int (0 : Int32)), .val (.int (0 : Int32)), .unset] [(.int (0 : Int32))]))
          refine gs.istore X11.here hx (hb hby at_334) (l' := #[.val (.int lf0), .val (.int lf1), .val (.int p3), .val (.int p4), .val (.int p5), .val (.ref ld5), .val (.ref ld6), .val (.ref ld7), .val (.ref ad1), .val (.int lo), .val (.int up), .val (.int hv), .val (.int (1 : Int32)), .val (.int (p4 &&& (3 : Int32))), .val (.int pq), .val (.int (0 : Int32)), .val (.int (0 : Int32)), .val (.int (0 : Int32))]) rfl ?_
          refine gs.iload X11.here hx (hb hby at_336) rfl ?_
          refine gs.iload X11.here hx (hb hby at_338) rfl ?_
          have hc340 : (0 : Int32) = (0 : Int32) := by decide
          refine gs.icmpNo X11.here hx (hb hby at_340) (teq hc340).2 ?_
          refine gs.iconst 1 X11.here hx (hb hby at_343) rfl ?_
          show Go p e below _ (T11.setTop (mkF m 344 _ _))
          refine gs.goto 348 X11.here hx (hb hby at_344) rfl ?_
          refine GoW.retZ X11 S0 (by rw [e11]; exact hk8) hx (t := .boolean) hret (by simp) hlk (hb hby at_348) (by rw [e11]; exact (hQ _ _ N11)) (by decide) (by decide)
        case neg =>
          refine gs.icmpNo X8.here hx (hb hby at_297) (flt hc297).2.2.1 ?_
          refine gs.iload X8.here hx (hb hby at_300) rfl ?_
          refine gs.iload X8.here hx (hb hby at_302) rfl ?_
          by_cases hc304 : up < pq
          case pos =>
            refine gs.icmpYes 323 X8.here hx (hb hby at_304) (tlt hc304).2.2.1 rfl ?_
            refine gs.iconst 0 X8.here hx (hb hby at_323) rfl ?_
            refine gs.istore X8.here hx (hb hby at_324) (l' := #[.val (.int lf0), .val (.int lf1), .val (.int p3), .val (.int p4), .val (.int p5), .val (.ref ld5), .val (.ref ld6), .val (.ref ld7), .val (.ref ad1), .val (.int lo), .val (.int up), .val (.int hv), .val (.int (1 : Int32)), .val (.int (p4 &&& (3 : Int32))), .val (.int pq), .val (.int (0 : Int32)), .val (.int (0 : Int32)), .unset]) rfl ?_
            refine gs.aload X8.here hx (hb hby at_326) rfl rfl ?_
            refine gs.iconst 0 X8.here hx (hb hby at_328) rfl ?_
            refine gs.iload X8.here hx (hb hby at_329) rfl ?_
            have f12 := (HV_ad6.keep K8 (ninS (Ne.symm ne_ad1_ad6) (ninS ne_ad6_ad9 (ninS (Ne.symm ne_ad3_ad6) (ninS ne_ad6_ad8 nin0)))))
            have f13 := (HV_ad7.keep K8 (ninS (Ne.symm ne_ad1_ad7) (ninS ne_ad7_ad9 (ninS (Ne.symm ne_ad3_ad7) (ninS ne_ad7_ad8 nin0)))))
            obtain ⟨cq14, kq14, q14a, q14b, q14c⟩ := isOf hZ rfl p8_0
            obtain ⟨_, _, ⟨T14, L14, k14, n14⟩, -, X14, ⟨Lc14, hQ14, l14, y14, z14⟩, st14⟩ := X8.virtualBack hx (y := y_33) (z := y_33) hown (mvT hZ (wd hw 229 rfl)) (mvT hZ (wd hw 230 rfl)) (notFace_of_selects (args := #[]) (mvT hZ (wd hw 232 rfl))) (mvT hZ (wd hw 232 rfl)) (mvT hZ (wd hw 231 rfl)) (by decide) (backOf (W := 0) (am33_2 l Z a0 hw [] a_EMPTY_ELEMENTDATA aw0 ka_EMPTY_ELEMENTDATA kaw0 HW (ad1) (pq) (ad6) (ad7) (kc3) (lo) (kc5) (up) T8.heap n0 old8 p8_3 p8_9 f12 f13 hc297 hc304) hZ (wd hw 233 rfl) (wd hw 103 rfl) (by decide) (by decide)) q14a q14c (g := (mkF m 331 #[.val (.int lf0), .val (.int lf1), .val (.int p3), .val (.int p4), .val (.int p5), .val (.ref ld5), .val (.ref ld6), .val (.ref ld7), .val (.ref ad1), .val (.int lo), .val (.int up), .val (.int hv), .val (.int (1 : Int32)), .val (.int (p4 &&& (3 : Int32))), .val (.int pq), .val (.int (0 : Int32)), .val (.int (0 : Int32)), .unset] [(.int pq), (.int (0 : Int32)), (.ref ad1)])) rfl (by rw [hml]; rfl) (Steps.refl _) (argsL := [(.int (0 : Int32)), (.int pq)]) (rest := []) (lenOf pd_20 rfl) rfl (by show 2 * 0 + _ ≤ _; exact Nat.le_of_eq rfl) (hb hby at_331) (fun _ _ => ⟨rfl, rfl, (by decide : 19 + 0 ≤ _), (by decide : 1155 + 0 ≤ _)⟩)
            dsimp only [Pt.U, Pt.locs, Pt.cells, Pt.slots] at X14 l14 y14 z14 st14 hQ14
            subst l14 y14 z14
            obtain ⟨rfl, Nq14, e14⟩ := hQ14
            have N14 := Fr.app N8 Nq14
            refine Go.step (fun t_ k_ => st14.trans k_) ?_
            show Go p e below _ (T14.setTop (mkF m 334 #[.val (.int lf0), .val (.int lf1), .val (.int p3), .val (.int p4), .val (.int p5), .val (.ref ld5), .val (.ref ld6), .val (.ref ld7), .val (.ref ad1), .val (.int lo), .val (.int up), .val (.int hv), .val (.int (1 : Int32)), .val (.int (p4 &&& (3 : Int32))), .val (.int pq), .val (.int (0 : Int32)), .val (.int (0 : Int32)), .unset] [(.int (0 : Int32))]))
            refine gs.istore X14.here hx (hb hby at_334) (l' := #[.val (.int lf0), .val (.int lf1), .val (.int p3), .val (.int p4), .val (.int p5), .val (.ref ld5), .val (.ref ld6), .val (.ref ld7), .val (.ref ad1), .val (.int lo), .val (.int up), .val (.int hv), .val (.int (1 : Int32)), .val (.int (p4 &&& (3 : Int32))), .val (.int pq), .val (.int (0 : Int32)), .val (.int (0 : Int32)), .val (.int (0 : Int32))]) rfl ?_
            refine gs.iload X14.here hx (hb hby at_336) rfl ?_
            refine gs.iload X14.here hx (hb hby at_338) rfl ?_
            have hc340 : (0 : Int32) = (0 : Int32) := by decide
            refine gs.icmpNo X14.here hx (hb hby at_340) (teq hc340).2 ?_
            refine gs.iconst 1 X14.here hx (hb hby at_343) rfl ?_
            show Go p e below _ (T14.setTop (mkF m 344 _ _))
            refine gs.goto 348 X14.here hx (hb hby at_344) rfl ?_
            refine GoW.retZ X14 S0 (by rw [e14]; exact hk8) hx (t := .boolean) hret (by simp) hlk (hb hby at_348) (by rw [e14]; exact (hQ _ _ N14)) (by decide) (by decide)
          case neg =>
            refine gs.icmpNo X8.here hx (hb hby at_304) (flt hc304).2.2.1 ?_
            refine gs.iload X8.here hx (hb hby at_307) rfl ?_
            have hc309 : ¬ ((1 : Int32) = (0 : Int32)) := by decide
            refine gs.ifNo X8.here hx (hb hby at_309) ((if0 _ _).trans (feq hc309).1) ?_
            refine gs.iload X8.here hx (hb hby at_312) rfl ?_
            refine gs.iload X8.here hx (hb hby at_314) rfl ?_
            show Go p e below _ (T8.setTop (mkF m 316 _ _))
            by_cases hc316 : pq = hv
            case pos =>
              refine gs.icmpYes 323 X8.here hx (hb hby at_316) (teq hc316).1 rfl ?_
              refine gs.iconst 0 X8.here hx (hb hby at_323) rfl ?_
              refine gs.istore X8.here hx (hb hby at_324) (l' := #[.val (.int lf0), .val (.int lf1), .val (.int p3), .val (.int p4), .val (.int p5), .val (.ref ld5), .val (.ref ld6), .val (.ref ld7), .val (.ref ad1), .val (.int lo), .val (.int up), .val (.int hv), .val (.int (1 : Int32)), .val (.int (p4 &&& (3 : Int32))), .val (.int pq), .val (.int (0 : Int32)), .val (.int (0 : Int32)), .unset]) rfl ?_
              refine gs.aload X8.here hx (hb hby at_326) rfl rfl ?_
              refine gs.iconst 0 X8.here hx (hb hby at_328) rfl ?_
              refine gs.iload X8.here hx (hb hby at_329) rfl ?_
              have f15 := (HV_ad6.keep K8 (ninS (Ne.symm ne_ad1_ad6) (ninS ne_ad6_ad9 (ninS (Ne.symm ne_ad3_ad6) (ninS ne_ad6_ad8 nin0)))))
              have f16 := (HV_ad7.keep K8 (ninS (Ne.symm ne_ad1_ad7) (ninS ne_ad7_ad9 (ninS (Ne.symm ne_ad3_ad7) (ninS ne_ad7_ad8 nin0)))))
              obtain ⟨cq17, kq17, q17a, q17b, q17c⟩ := isOf hZ rfl p8_0
              obtain ⟨_, _, ⟨T17, L17, k17, n17⟩, -, X17, ⟨Lc17, hQ17, l17, y17, z17⟩, st17⟩ := X8.virtualBack hx (y := y_33) (z := y_33) hown (mvT hZ (wd hw 229 rfl)) (mvT hZ (wd hw 230 rfl)) (notFace_of_selects (args := #[]) (mvT hZ (wd hw 232 rfl))) (mvT hZ (wd hw 232 rfl)) (mvT hZ (wd hw 231 rfl)) (by decide) (backOf (W := 0) (am33_7 l Z a0 hw [] a_EMPTY_ELEMENTDATA aw0 ka_EMPTY_ELEMENTDATA kaw0 HW (ad1) (pq) (ad6) (ad7) (ad8) (kc1) (b8_0) (kc3) (lo) (kc5) (up) (kx8_0) ((fun i => if i = (((hv.toUInt32 >>> ((6 : Int32) &&& 31).toUInt32).toInt32)).toNatClampNeg then ((-1 : Int64) &&& (((1 : Int64) <<< (hv &&& 0x3f).toInt64) ^^^ (-1 : Int64))) else (fun _ => (-1 : Int64)) i)) T8.heap n0 old8 p8_3 p8_9 p8_1 p8_15 f15 f16 p8_17 (bit_eq hc316 (by omega)) (ix_bd (by have h_ := i_ge hc297; omega) (by have h_ := i_ge hc304; omega)) hc297 hc304 hO_ad8) hZ (wd hw 233 rfl) (wd hw 103 rfl) (by decide) (by decide)) q17a q17c (g := (mkF m 331 #[.val (.int lf0), .val (.int lf1), .val (.int p3), .val (.int p4), .val (.int p5), .val (.ref ld5), .val (.ref ld6), .val (.ref ld7), .val (.ref ad1), .val (.int lo), .val (.int up), .val (.int hv), .val (.int (1 : Int32)), .val (.int (p4 &&& (3 : Int32))), .val (.int pq), .val (.int (0 : Int32)), .val (.int (0 : Int32)), .unset] [(.int pq), (.int (0 : Int32)), (.ref ad1)])) rfl (by rw [hml]; rfl) (Steps.refl _) (argsL := [(.int (0 : Int32)), (.int pq)]) (rest := []) (lenOf pd_20 rfl) rfl (by show 2 * 0 + _ ≤ _; exact Nat.le_of_eq rfl) (hb hby at_331) (fun _ _ => ⟨rfl, rfl, (by decide : 19 + 0 ≤ _), (by decide : 1155 + 0 ≤ _)⟩)
              dsimp only [Pt.U, Pt.locs, Pt.cells, Pt.slots] at X17 l17 y17 z17 st17 hQ17
              subst l17 y17 z17
              obtain ⟨rfl, Nq17, e17⟩ := hQ17
              have N17 := Fr.app N8 Nq17
              refine Go.step (fun t_ k_ => st17.trans k_) ?_
              show Go p e below _ (T17.setTop (mkF m 334 #[.val (.int lf0), .val (.int lf1), .val (.int p3), .val (.int p4), .val (.int p5), .val (.ref ld5), .val (.ref ld6), .val (.ref ld7), .val (.ref ad1), .val (.int lo), .val (.int up), .val (.int hv), .val (.int (1 : Int32)), .val (.int (p4 &&& (3 : Int32))), .val (.int pq), .val (.int (0 : Int32)), .val (.int (0 : Int32)), .unset] [(.int (0 : Int32))]))
              refine gs.istore X17.here hx (hb hby at_334) (l' := #[.val (.int lf0), .val (.int lf1), .val (.int p3), .val (.int p4), .val (.int p5), .val (.ref ld5), .val (.ref ld6), .val (.ref ld7), .val (.ref ad1), .val (.int lo), .val (.int up), .val (.int hv), .val (.int (1 : Int32)), .val (.int (p4 &&& (3 : Int32))), .val (.int pq), .val (.int (0 : Int32)), .val (.int (0 : Int32)), .val (.int (0 : Int32))]) rfl ?_
              refine gs.iload X17.here hx (hb hby at_336) rfl ?_
              refine gs.iload X17.here hx (hb hby at_338) rfl ?_
              have hc340 : (0 : Int32) = (0 : Int32) := by decide
              refine gs.icmpNo X17.here hx (hb hby at_340) (teq hc340).2 ?_
              refine gs.iconst 1 X17.here hx (hb hby at_343) rfl ?_
              show Go p e below _ (T17.setTop (mkF m 344 _ _))
              refine gs.goto 348 X17.here hx (hb hby at_344) rfl ?_
              refine GoW.retZ X17 S0 (by rw [e17]; exact hk8) hx (t := .boolean) hret (by simp) hlk (hb hby at_348) (by rw [e17]; exact (hQ _ _ N17)) (by decide) (by decide)
            case neg =>
              refine gs.icmpNo X8.here hx (hb hby at_316) (feq hc316).1 ?_
              refine gs.iconst 1 X8.here hx (hb hby at_319) rfl ?_
              refine gs.goto 324 X8.here hx (hb hby at_320) rfl ?_
              refine gs.istore X8.here hx (hb hby at_324) (l' := #[.val (.int lf0), .val (.int lf1), .val (.int p3), .val (.int p4), .val (.int p5), .val (.ref ld5), .val (.ref ld6), .val (.ref ld7), .val (.ref ad1), .val (.int lo), .val (.int up), .val (.int hv), .val (.int (1 : Int32)), .val (.int (p4 &&& (3 : Int32))), .val (.int pq), .val (.int (0 : Int32)), .val (.int (1 : Int32)), .unset]) rfl ?_
              refine gs.aload X8.here hx (hb hby at_326) rfl rfl ?_
              refine gs.iconst 0 X8.here hx (hb hby at_328) rfl ?_
              refine gs.iload X8.here hx (hb hby at_329) rfl ?_
              have f18 := (HV_ad6.keep K8 (ninS (Ne.symm ne_ad1_ad6) (ninS ne_ad6_ad9 (ninS (Ne.symm ne_ad3_ad6) (ninS ne_ad6_ad8 nin0)))))
              have f19 := (HV_ad7.keep K8 (ninS (Ne.symm ne_ad1_ad7) (ninS ne_ad7_ad9 (ninS (Ne.symm ne_ad3_ad7) (ninS ne_ad7_ad8 nin0)))))
              obtain ⟨cq20, kq20, q20a, q20b, q20c⟩ := isOf hZ rfl p8_0
              obtain ⟨_, _, ⟨T20, L20, k20, n20⟩, -, X20, ⟨Lc20, hQ20, l20, y20, z20⟩, st20⟩ := X8.virtualBack hx (y := y_33) (z := y_33) hown (mvT hZ (wd hw 229 rfl)) (mvT hZ (wd hw 230 rfl)) (notFace_of_selects (args := #[]) (mvT hZ (wd hw 232 rfl))) (mvT hZ (wd hw 232 rfl)) (mvT hZ (wd hw 231 rfl)) (by decide) (backOf (W := 0) (am33_8 l Z a0 hw [] a_EMPTY_ELEMENTDATA aw0 ka_EMPTY_ELEMENTDATA kaw0 HW (ad1) (pq) (ad6) (ad7) (ad8) (kc1) (b8_0) (kc3) (lo) (kc5) (up) (kx8_0) ((fun i => if i = (((hv.toUInt32 >>> ((6 : Int32) &&& 31).toUInt32).toInt32)).toNatClampNeg then ((-1 : Int64) &&& (((1 : Int64) <<< (hv &&& 0x3f).toInt64) ^^^ (-1 : Int64))) else (fun _ => (-1 : Int64)) i)) T8.heap n0 old8 p8_3 p8_9 p8_1 p8_15 f18 f19 p8_17 (bit_ne hc316 (by have h_ := i_ge hc297; omega) (by omega)) (ix_bd (by have h_ := i_ge hc297; omega) (by have h_ := i_ge hc304; omega)) hc297 hc304 hO_ad8) hZ (wd hw 233 rfl) (wd hw 103 rfl) (by decide) (by decide)) q20a q20c (g := (mkF m 331 #[.val (.int lf0), .val (.int lf1), .val (.int p3), .val (.int p4), .val (.int p5), .val (.ref ld5), .val (.ref ld6), .val (.ref ld7), .val (.ref ad1), .val (.int lo), .val (.int up), .val (.int hv), .val (.int (1 : Int32)), .val (.int (p4 &&& (3 : Int32))), .val (.int pq), .val (.int (0 : Int32)), .val (.int (1 : Int32)), .unset] [(.int pq), (.int (0 : Int32)), (.ref ad1)])) rfl (by rw [hml]; rfl) (Steps.refl _) (argsL := [(.int (0 : Int32)), (.int pq)]) (rest := []) (lenOf pd_20 rfl) rfl (by show 2 * 0 + _ ≤ _; exact Nat.le_of_eq rfl) (hb hby at_331) (fun _ _ => ⟨rfl, rfl, (by decide : 19 + 0 ≤ _), (by decide : 1155 + 0 ≤ _)⟩)
              dsimp only [Pt.U, Pt.locs, Pt.cells, Pt.slots] at X20 l20 y20 z20 st20 hQ20
              subst l20 y20 z20
              obtain ⟨rfl, Nq20, e20⟩ := hQ20
              have N20 := Fr.app N8 Nq20
              refine Go.step (fun t_ k_ => st20.trans k_) ?_
              show Go p e below _ (T20.setTop (mkF m 334 #[.val (.int lf0), .val (.int lf1), .val (.int p3), .val (.int p4), .val (.int p5), .val (.ref ld5), .val (.ref ld6), .val (.ref ld7), .val (.ref ad1), .val (.int lo), .val (.int up), .val (.int hv), .val (.int (1 : Int32)), .val (.int (p4 &&& (3 : Int32))), .val (.int pq), .val (.int (0 : Int32)), .val (.int (1 : Int32)), .unset] [(.int (1 : Int32))]))
              refine gs.istore X20.here hx (hb hby at_334) (l' := #[.val (.int lf0), .val (.int lf1), .val (.int p3), .val (.int p4), .val (.int p5), .val (.ref ld5), .val (.ref ld6), .val (.ref ld7), .val (.ref ad1), .val (.int lo), .val (.int up), .val (.int hv), .val (.int (1 : Int32)), .val (.int (p4 &&& (3 : Int32))), .val (.int pq), .val (.int (0 : Int32)), .val (.int (1 : Int32)), .val (.int (1 : Int32))]) rfl ?_
              refine gs.iload X20.here hx (hb hby at_336) rfl ?_
              refine gs.iload X20.here hx (hb hby at_338) rfl ?_
              have hc340 : (1 : Int32) = (1 : Int32) := by decide
              refine gs.icmpNo X20.here hx (hb hby at_340) (teq hc340).2 ?_
              refine gs.iconst 1 X20.here hx (hb hby at_343) rfl ?_
              show Go p e below _ (T20.setTop (mkF m 344 _ _))
              refine gs.goto 348 X20.here hx (hb hby at_344) rfl ?_
              refine GoW.retZ X20 S0 (by rw [e20]; exact hk8) hx (t := .boolean) hret (by simp) hlk (hb hby at_348) (by rw [e20]; exact (hQ _ _ N20)) (by decide) (by decide)
      case neg =>
        refine gs.ifNo X8.here hx (hb hby at_245) ((if0 _ _).trans (feq hc245).1) ?_
        refine gs.iconst 1 X8.here hx (hb hby at_248) rfl ?_
        refine gs.goto 253 X8.here hx (hb hby at_249) rfl ?_
        refine gs.istore X8.here hx (hb hby at_253) (l' := #[.val (.int lf0), .val (.int lf1), .val (.int p3), .val (.int p4), .val (.int p5), .val (.ref ld5), .val (.ref ld6), .val (.ref ld7), .val (.ref ad1), .val (.int lo), .val (.int up), .val (.int hv), .val (.int (1 : Int32)), .val (.int (p4 &&& (3 : Int32))), .val (.int pq), .val (.int (1 : Int32)), .unset, .unset]) rfl ?_
        refine gs.iload X8.here hx (hb hby at_255) rfl ?_
        have hc257 : ¬ ((1 : Int32) = (0 : Int32)) := by decide
        refine gs.ifNo X8.here hx (hb hby at_257) ((if0 _ _).trans (feq hc257).1) ?_
        refine gs.iconst 0 X8.here hx (hb hby at_260) rfl ?_
        refine gs.iload X8.here hx (hb hby at_261) rfl ?_
        by_cases hc263 : pq < (0 : Int32)
        case pos =>
          refine gs.icmpYes 277 X8.here hx (hb hby at_263) (tlt hc263).2.2.1 rfl ?_
          refine gs.iconst 0 X8.here hx (hb hby at_277) rfl ?_
          refine gs.istore X8.here hx (hb hby at_278) (l' := #[.val (.int lf0), .val (.int lf1), .val (.int p3), .val (.int p4), .val (.int p5), .val (.ref ld5), .val (.ref ld6), .val (.ref ld7), .val (.ref ad1), .val (.int lo), .val (.int up), .val (.int hv), .val (.int (1 : Int32)), .val (.int (p4 &&& (3 : Int32))), .val (.int pq), .val (.int (1 : Int32)), .val (.int (0 : Int32)), .unset]) rfl ?_
          refine gs.aload X8.here hx (hb hby at_280) rfl rfl ?_
          refine gs.iconst 1 X8.here hx (hb hby at_282) rfl ?_
          refine gs.iload X8.here hx (hb hby at_283) rfl ?_
          have f21 := (HV_ad6.keep K8 (ninS (Ne.symm ne_ad1_ad6) (ninS ne_ad6_ad9 (ninS (Ne.symm ne_ad3_ad6) (ninS ne_ad6_ad8 nin0)))))
          obtain ⟨cq22, kq22, q22a, q22b, q22c⟩ := isOf hZ rfl p8_0
          obtain ⟨_, _, ⟨T22, L22, k22, n22⟩, -, X22, ⟨Lc22, hQ22, l22, y22, z22⟩, st22⟩ := X8.virtualBack hx (y := y_33) (z := y_33) hown (mvT hZ (wd hw 229 rfl)) (mvT hZ (wd hw 230 rfl)) (notFace_of_selects (args := #[]) (mvT hZ (wd hw 232 rfl))) (mvT hZ (wd hw 232 rfl)) (mvT hZ (wd hw 231 rfl)) (by decide) (backOf (W := 0) (am33_4 l Z a0 hw [] a_EMPTY_ELEMENTDATA aw0 ka_EMPTY_ELEMENTDATA kaw0 HW (ad1) (pq) (ad6) (kc3) (lo) T8.heap n0 old8 p8_3 f21 hc263) hZ (wd hw 233 rfl) (wd hw 103 rfl) (by decide) (by decide)) q22a q22c (g := (mkF m 285 #[.val (.int lf0), .val (.int lf1), .val (.int p3), .val (.int p4), .val (.int p5), .val (.ref ld5), .val (.ref ld6), .val (.ref ld7), .val (.ref ad1), .val (.int lo), .val (.int up), .val (.int hv), .val (.int (1 : Int32)), .val (.int (p4 &&& (3 : Int32))), .val (.int pq), .val (.int (1 : Int32)), .val (.int (0 : Int32)), .unset] [(.int pq), (.int (1 : Int32)), (.ref ad1)])) rfl (by rw [hml]; rfl) (Steps.refl _) (argsL := [(.int (1 : Int32)), (.int pq)]) (rest := []) (lenOf pd_20 rfl) rfl (by show 2 * 0 + _ ≤ _; exact Nat.le_of_eq rfl) (hb hby at_285) (fun _ _ => ⟨rfl, rfl, (by decide : 19 + 0 ≤ _), (by decide : 1155 + 0 ≤ _)⟩)
          dsimp only [Pt.U, Pt.locs, Pt.cells, Pt.slots] at X22 l22 y22 z22 st22 hQ22
          subst l22 y22 z22
          obtain ⟨rfl, Nq22, e22⟩ := hQ22
          have N22 := Fr.app N8 Nq22
          refine Go.step (fun t_ k_ => st22.trans k_) ?_
          show Go p e below _ (T22.setTop (mkF m 288 #[.val (.int lf0), .val (.int lf1), .val (.int p3), .val (.int p4), .val (.int p5), .val (.ref ld5), .val (.ref ld6), .val (.ref ld7), .val (.ref ad1), .val (.int lo), .val (.int up), .val (.int hv), .val (.int (1 : Int32)), .val (.int (p4 &&& (3 : Int32))), .val (.int pq), .val (.int (1 : Int32)), .val (.int (0 : Int32)), .unset] [(.int (0 : Int32))]))
          refine gs.istore X22.here hx (hb hby at_288) (l' := #[.val (.int lf0), .val (.int lf1), .val (.int p3), .val (.int p4), .val (.int p5), .val (.ref ld5), .val (.ref ld6), .val (.ref ld7), .val (.ref ad1), .val (.int lo), .val (.int up), .val (.int hv), .val (.int (1 : Int32)), .val (.int (p4 &&& (3 : Int32))), .val (.int pq), .val (.int (1 : Int32)), .val (.int (0 : Int32)), .val (.int (0 : Int32))]) rfl ?_
          refine gs.goto 336 X22.here hx (hb hby at_290) rfl ?_
          refine gs.iload X22.here hx (hb hby at_336) rfl ?_
          refine gs.iload X22.here hx (hb hby at_338) rfl ?_
          have hc340 : (0 : Int32) = (0 : Int32) := by decide
          refine gs.icmpNo X22.here hx (hb hby at_340) (teq hc340).2 ?_
          refine gs.iconst 1 X22.here hx (hb hby at_343) rfl ?_
          refine gs.goto 348 X22.here hx (hb hby at_344) rfl ?_
          refine GoW.retZ X22 S0 (by rw [e22]; exact hk8) hx (t := .boolean) hret (by simp) hlk (hb hby at_348) (by rw [e22]; exact (hQ _ _ N22)) (by decide) (by decide)
        case neg =>
          refine gs.icmpNo X8.here hx (hb hby at_263) (flt hc263).2.2.1 ?_
          refine gs.iload X8.here hx (hb hby at_266) rfl ?_
          refine gs.bipush 99 X8.here hx (hb hby at_268) rfl ?_
          by_cases hc270 : (99 : Int32) < pq
          case pos =>
            refine gs.icmpYes 277 X8.here hx (hb hby at_270) (tlt hc270).2.2.1 rfl ?_
            refine gs.iconst 0 X8.here hx (hb hby at_277) rfl ?_
            refine gs.istore X8.here hx (hb hby at_278) (l' := #[.val (.int lf0), .val (.int lf1), .val (.int p3), .val (.int p4), .val (.int p5), .val (.ref ld5), .val (.ref ld6), .val (.ref ld7), .val (.ref ad1), .val (.int lo), .val (.int up), .val (.int hv), .val (.int (1 : Int32)), .val (.int (p4 &&& (3 : Int32))), .val (.int pq), .val (.int (1 : Int32)), .val (.int (0 : Int32)), .unset]) rfl ?_
            refine gs.aload X8.here hx (hb hby at_280) rfl rfl ?_
            refine gs.iconst 1 X8.here hx (hb hby at_282) rfl ?_
            refine gs.iload X8.here hx (hb hby at_283) rfl ?_
            have f23 := (HV_ad6.keep K8 (ninS (Ne.symm ne_ad1_ad6) (ninS ne_ad6_ad9 (ninS (Ne.symm ne_ad3_ad6) (ninS ne_ad6_ad8 nin0)))))
            have f24 := (HV_ad7.keep K8 (ninS (Ne.symm ne_ad1_ad7) (ninS ne_ad7_ad9 (ninS (Ne.symm ne_ad3_ad7) (ninS ne_ad7_ad8 nin0)))))
            obtain ⟨cq25, kq25, q25a, q25b, q25c⟩ := isOf hZ rfl p8_0
            obtain ⟨_, _, ⟨T25, L25, k25, n25⟩, -, X25, ⟨Lc25, hQ25, l25, y25, z25⟩, st25⟩ := X8.virtualBack hx (y := y_33) (z := y_33) hown (mvT hZ (wd hw 229 rfl)) (mvT hZ (wd hw 230 rfl)) (notFace_of_selects (args := #[]) (mvT hZ (wd hw 232 rfl))) (mvT hZ (wd hw 232 rfl)) (mvT hZ (wd hw 231 rfl)) (by decide) (backOf (W := 0) (am33_5 l Z a0 hw [] a_EMPTY_ELEMENTDATA aw0 ka_EMPTY_ELEMENTDATA kaw0 HW (ad1) (pq) (ad6) (ad7) (kc3) (lo) (kc5) (up) T8.heap n0 old8 p8_3 p8_9 f23 f24 hc270 hc263) hZ (wd hw 233 rfl) (wd hw 103 rfl) (by decide) (by decide)) q25a q25c (g := (mkF m 285 #[.val (.int lf0), .val (.int lf1), .val (.int p3), .val (.int p4), .val (.int p5), .val (.ref ld5), .val (.ref ld6), .val (.ref ld7), .val (.ref ad1), .val (.int lo), .val (.int up), .val (.int hv), .val (.int (1 : Int32)), .val (.int (p4 &&& (3 : Int32))), .val (.int pq), .val (.int (1 : Int32)), .val (.int (0 : Int32)), .unset] [(.int pq), (.int (1 : Int32)), (.ref ad1)])) rfl (by rw [hml]; rfl) (Steps.refl _) (argsL := [(.int (1 : Int32)), (.int pq)]) (rest := []) (lenOf pd_20 rfl) rfl (by show 2 * 0 + _ ≤ _; exact Nat.le_of_eq rfl) (hb hby at_285) (fun _ _ => ⟨rfl, rfl, (by decide : 19 + 0 ≤ _), (by decide : 1155 + 0 ≤ _)⟩)
            dsimp only [Pt.U, Pt.locs, Pt.cells, Pt.slots] at X25 l25 y25 z25 st25 hQ25
            subst l25 y25 z25
            obtain ⟨rfl, Nq25, e25⟩ := hQ25
            have N25 := Fr.app N8 Nq25
            refine Go.step (fun t_ k_ => st25.trans k_) ?_
            show Go p e below _ (T25.setTop (mkF m 288 #[.val (.int lf0), .val (.int lf1), .val (.int p3), .val (.int p4), .val (.int p5), .val (.ref ld5), .val (.ref ld6), .val (.ref ld7), .val (.ref ad1), .val (.int lo), .val (.int up), .val (.int hv), .val (.int (1 : Int32)), .val (.int (p4 &&& (3 : Int32))), .val (.int pq), .val (.int (1 : Int32)), .val (.int (0 : Int32)), .unset] [(.int (0 : Int32))]))
            refine gs.istore X25.here hx (hb hby at_288) (l' := #[.val (.int lf0), .val (.int lf1), .val (.int p3), .val (.int p4), .val (.int p5), .val (.ref ld5), .val (.ref ld6), .val (.ref ld7), .val (.ref ad1), .val (.int lo), .val (.int up), .val (.int hv), .val (.int (1 : Int32)), .val (.int (p4 &&& (3 : Int32))), .val (.int pq), .val (.int (1 : Int32)), .val (.int (0 : Int32)), .val (.int (0 : Int32))]) rfl ?_
            refine gs.goto 336 X25.here hx (hb hby at_290) rfl ?_
            refine gs.iload X25.here hx (hb hby at_336) rfl ?_
            refine gs.iload X25.here hx (hb hby at_338) rfl ?_
            have hc340 : (0 : Int32) = (0 : Int32) := by decide
            refine gs.icmpNo X25.here hx (hb hby at_340) (teq hc340).2 ?_
            refine gs.iconst 1 X25.here hx (hb hby at_343) rfl ?_
            refine gs.goto 348 X25.here hx (hb hby at_344) rfl ?_
            refine GoW.retZ X25 S0 (by rw [e25]; exact hk8) hx (t := .boolean) hret (by simp) hlk (hb hby at_348) (by rw [e25]; exact (hQ _ _ N25)) (by decide) (by decide)
          case neg =>
            refine gs.icmpNo X8.here hx (hb hby at_270) (flt hc270).2.2.1 ?_
            refine gs.iconst 1 X8.here hx (hb hby at_273) rfl ?_
            show Go p e below _ (T8.setTop (mkF m 274 _ _))
            refine gs.goto 278 X8.here hx (hb hby at_274) rfl ?_
            refine gs.istore X8.here hx (hb hby at_278) (l' := #[.val (.int lf0), .val (.int lf1), .val (.int p3), .val (.int p4), .val (.int p5), .val (.ref ld5), .val (.ref ld6), .val (.ref ld7), .val (.ref ad1), .val (.int lo), .val (.int up), .val (.int hv), .val (.int (1 : Int32)), .val (.int (p4 &&& (3 : Int32))), .val (.int pq), .val (.int (1 : Int32)), .val (.int (1 : Int32)), .unset]) rfl ?_
            refine gs.aload X8.here hx (hb hby at_280) rfl rfl ?_
            refine gs.iconst 1 X8.here hx (hb hby at_282) rfl ?_
            refine gs.iload X8.here hx (hb hby at_283) rfl ?_
            have f26 := (HV_ad6.keep K8 (ninS (Ne.symm ne_ad1_ad6) (ninS ne_ad6_ad9 (ninS (Ne.symm ne_ad3_ad6) (ninS ne_ad6_ad8 nin0)))))
            have f27 := (HV_ad7.keep K8 (ninS (Ne.symm ne_ad1_ad7) (ninS ne_ad7_ad9 (ninS (Ne.symm ne_ad3_ad7) (ninS ne_ad7_ad8 nin0)))))
            obtain ⟨cq28, kq28, q28a, q28b, q28c⟩ := isOf hZ rfl p8_0
            obtain ⟨_, _, ⟨T28, L28, k28, n28⟩, -, X28, ⟨Lc28, hQ28, l28, y28, z28⟩, st28⟩ := X8.virtualBack hx (y := y_33) (z := y_33) hown (mvT hZ (wd hw 229 rfl)) (mvT hZ (wd hw 230 rfl)) (notFace_of_selects (args := #[]) (mvT hZ (wd hw 232 rfl))) (mvT hZ (wd hw 232 rfl)) (mvT hZ (wd hw 231 rfl)) (by decide) (backOf (W := 0) (am33_9 l Z a0 hw [] a_EMPTY_ELEMENTDATA aw0 ka_EMPTY_ELEMENTDATA kaw0 HW (ad1) (pq) (ad6) (ad7) (ad8) (kc1) (b8_0) (kc3) (lo) (kc5) (up) T8.heap n0 old8 p8_3 p8_9 p8_1 p8_15 f26 f27 hc270 hc263 hO_ad8) hZ (wd hw 233 rfl) (wd hw 103 rfl) (by decide) (by decide)) q28a q28c (g := (mkF m 285 #[.val (.int lf0), .val (.int lf1), .val (.int p3), .val (.int p4), .val (.int p5), .val (.ref ld5), .val (.ref ld6), .val (.ref ld7), .val (.ref ad1), .val (.int lo), .val (.int up), .val (.int hv), .val (.int (1 : Int32)), .val (.int (p4 &&& (3 : Int32))), .val (.int pq), .val (.int (1 : Int32)), .val (.int (1 : Int32)), .unset] [(.int pq), (.int (1 : Int32)), (.ref ad1)])) rfl (by rw [hml]; rfl) (Steps.refl _) (argsL := [(.int (1 : Int32)), (.int pq)]) (rest := []) (lenOf pd_20 rfl) rfl (by show 2 * 0 + _ ≤ _; exact Nat.le_of_eq rfl) (hb hby at_285) (fun _ _ => ⟨rfl, rfl, (by decide : 19 + 0 ≤ _), (by decide : 1155 + 0 ≤ _)⟩)
            dsimp only [Pt.U, Pt.locs, Pt.cells, Pt.slots] at X28 l28 y28 z28 st28 hQ28
            subst l28 y28 z28
            obtain ⟨rfl, Nq28, e28⟩ := hQ28
            have N28 := Fr.app N8 Nq28
            refine Go.step (fun t_ k_ => st28.trans k_) ?_
            show Go p e below _ (T28.setTop (mkF m 288 #[.val (.int lf0), .val (.int lf1), .val (.int p3), .val (.int p4), .val (.int p5), .val (.ref ld5), .val (.ref ld6), .val (.ref ld7), .val (.ref ad1), .val (.int lo), .val (.int up), .val (.int hv), .val (.int (1 : Int32)), .val (.int (p4 &&& (3 : Int32))), .val (.int pq), .val (.int (1 : Int32)), .val (.int (1 : Int32)), .unset] [(.int (1 : Int32))]))
            refine gs.istore X28.here hx (hb hby at_288) (l' := #[.val (.int lf0), .val (.int lf1), .val (.int p3), .val (.int p4), .val (.int p5), .val (.ref ld5), .val (.ref ld6), .val (.ref ld7), .val (.ref ad1), .val (.int lo), .val (.int up), .val (.int hv), .val (.int (1 : Int32)), .val (.int (p4 &&& (3 : Int32))), .val (.int pq), .val (.int (1 : Int32)), .val (.int (1 : Int32)), .val (.int (1 : Int32))]) rfl ?_
            refine gs.goto 336 X28.here hx (hb hby at_290) rfl ?_
            refine gs.iload X28.here hx (hb hby at_336) rfl ?_
            refine gs.iload X28.here hx (hb hby at_338) rfl ?_
            have hc340 : (1 : Int32) = (1 : Int32) := by decide
            refine gs.icmpNo X28.here hx (hb hby at_340) (teq hc340).2 ?_
            refine gs.iconst 1 X28.here hx (hb hby at_343) rfl ?_
            refine gs.goto 348 X28.here hx (hb hby at_344) rfl ?_
            refine GoW.retZ X28 S0 (by rw [e28]; exact hk8) hx (t := .boolean) hret (by simp) hlk (hb hby at_348) (by rw [e28]; exact (hQ _ _ N28)) (by decide) (by decide)
    refine gs.iloadN X8.here hx (hb hby at_153) rfl ?_
    refine gs.iconst 3 X8.here hx (hb hby at_154) rfl ?_
    refine gs.iand X8.here hx (hb hby at_155) ?_
    show Go p e below _ (T8.setTop (mkF m 156 _ _))
    refine gs.istore X8.here hx (hb hby at_156) (l' := #[.val (.int lf0), .val (.int lf1), .val (.int p3), .val (.int p4), .val (.int p5), .val (.ref ld5), .val (.ref ld6), .val (.ref ld7), .val (.ref ad1), .val (.int lo), .val (.int up), .val (.int hv), .val (.int (1 : Int32)), .val (.int (p4 &&& (3 : Int32))), .unset, .unset, .unset, .unset]) rfl ?_
    refine gs.iload X8.here hx (hb hby at_158) rfl ?_
    by_cases hc160 : (p4 &&& (3 : Int32)) = (0 : Int32)
    case pos =>
      refine gs.ifNo X8.here hx (hb hby at_160) ((if0 _ _).trans (teq hc160).2) ?_
      refine gs.iload X8.here hx (hb hby at_163) rfl ?_
      refine gs.istore X8.here hx (hb hby at_165) (l' := #[.val (.int lf0), .val (.int lf1), .val (.int p3), .val (.int p4), .val (.int p5), .val (.ref ld5), .val (.ref ld6), .val (.ref ld7), .val (.ref ad1), .val (.int lo), .val (.int up), .val (.int hv), .val (.int (1 : Int32)), .val (.int (p4 &&& (3 : Int32))), .val (.int p5), .unset, .unset, .unset]) rfl ?_
      refine gs.goto 242 X8.here hx (hb hby at_167) rfl ?_
      exact J9 _
    case neg =>
      refine gs.ifYes 170 X8.here hx (hb hby at_160) ((if0 _ _).trans (feq hc160).2) rfl ?_
      refine gs.iload X8.here hx (hb hby at_170) rfl ?_
      refine gs.iconst 1 X8.here hx (hb hby at_172) rfl ?_
      by_cases hc173 : (p4 &&& (3 : Int32)) = (1 : Int32)
      case pos =>
        refine gs.icmpNo X8.here hx (hb hby at_173) (teq hc173).2 ?_
        refine gs.iload X8.here hx (hb hby at_176) rfl ?_
        refine gs.sipush 255 X8.here hx (hb hby at_178) rfl ?_
        refine gs.iand X8.here hx (hb hby at_181) ?_
        refine gs.bipush 28 X8.here hx (hb hby at_182) rfl ?_
        refine gs.isub X8.here hx (hb hby at_184) ?_
        refine gs.istore X8.here hx (hb hby at_185) (l' := #[.val (.int lf0), .val (.int lf1), .val (.int p3), .val (.int p4), .val (.int p5), .val (.ref ld5), .val (.ref ld6), .val (.ref ld7), .val (.ref ad1), .val (.int lo), .val (.int up), .val (.int hv), .val (.int (1 : Int32)), .val (.int (p4 &&& (3 : Int32))), .val (.int ((p5 &&& (255 : Int32)) - (28 : Int32))), .unset, .unset, .unset]) rfl ?_
        refine gs.goto 242 X8.here hx (hb hby at_187) rfl ?_
        exact J9 _
      case neg =>
        refine gs.icmpYes 190 X8.here hx (hb hby at_173) (feq hc173).2 rfl ?_
        refine gs.iload X8.here hx (hb hby at_190) rfl ?_
        refine gs.iconst 2 X8.here hx (hb hby at_192) rfl ?_
        by_cases hc193 : (p4 &&& (3 : Int32)) = (2 : Int32)
        case pos =>
          refine gs.icmpNo X8.here hx (hb hby at_193) (teq hc193).2 ?_
          refine gs.iload X8.here hx (hb hby at_196) rfl ?_
          refine gs.iconst 1 X8.here hx (hb hby at_198) rfl ?_
          refine gs.isub X8.here hx (hb hby at_199) ?_
          refine gs.iload X8.here hx (hb hby at_200) rfl ?_
          refine gs.iconst 3 X8.here hx (hb hby at_202) rfl ?_
          refine gs.iand X8.here hx (hb hby at_203) ?_
          refine gs.iadd X8.here hx (hb hby at_204) ?_
          show Go p e below _ (T8.setTop (mkF m 205 _ _))
          refine gs.istore X8.here hx (hb hby at_205) (l' := #[.val (.int lf0), .val (.int lf1), .val (.int p3), .val (.int p4), .val (.int p5), .val (.ref ld5), .val (.ref ld6), .val (.ref ld7), .val (.ref ad1), .val (.int lo), .val (.int up), .val (.int hv), .val (.int (1 : Int32)), .val (.int (p4 &&& (3 : Int32))), .val (.int ((hv - (1 : Int32)) + (p5 &&& (3 : Int32)))), .unset, .unset, .unset]) rfl ?_
          refine gs.goto 242 X8.here hx (hb hby at_207) rfl ?_
          exact J9 _
        case neg =>
          refine gs.icmpYes 210 X8.here hx (hb hby at_193) (feq hc193).2 rfl ?_
          refine gs.iload X8.here hx (hb hby at_210) rfl ?_
          refine gs.iconst 1 X8.here hx (hb hby at_212) rfl ?_
          refine gs.iand X8.here hx (hb hby at_213) ?_
          by_cases hc214 : (p5 &&& (1 : Int32)) = (0 : Int32)
          case pos =>
            refine gs.ifNo X8.here hx (hb hby at_214) ((if0 _ _).trans (teq hc214).2) ?_
            refine gs.iload X8.here hx (hb hby at_217) rfl ?_
            refine gs.iconst 1 X8.here hx (hb hby at_219) rfl ?_
            refine gs.isub X8.here hx (hb hby at_220) ?_
            refine gs.iload X8.here hx (hb hby at_221) rfl ?_
            refine gs.iconst 1 X8.here hx (hb hby at_223) rfl ?_
            refine Go.step (fun t_ k_ => XS.iushr X8.here hx rfl (hb hby at_224) rfl k_) ?_
            show Go p e below _ (T8.setTop (mkF m 225 #[.val (.int lf0), .val (.int lf1), .val (.int p3), .val (.int p4), .val (.int p5), .val (.ref ld5), .val (.ref ld6), .val (.ref ld7), .val (.ref ad1), .val (.int lo), .val (.int up), .val (.int hv), .val (.int (1 : Int32)), .val (.int (p4 &&& (3 : Int32))), .unset, .unset, .unset, .unset] [(.int ((p5.toUInt32 >>> ((1 : Int32) &&& 31).toUInt32).toInt32)), (.int (lo - (1 : Int32)))]))
            refine gs.iconst 1 X8.here hx (hb hby at_225) rfl ?_
            refine gs.iand X8.here hx (hb hby at_226) ?_
            refine gs.iadd X8.here hx (hb hby at_227) ?_
            refine gs.goto 240 X8.here hx (hb hby at_228) rfl ?_
            refine gs.istore X8.here hx (hb hby at_240) (l' := #[.val (.int lf0), .val (.int lf1), .val (.int p3), .val (.int p4), .val (.int p5), .val (.ref ld5), .val (.ref ld6), .val (.ref ld7), .val (.ref ad1), .val (.int lo), .val (.int up), .val (.int hv), .val (.int (1 : Int32)), .val (.int (p4 &&& (3 : Int32))), .val (.int ((lo - (1 : Int32)) + (((p5.toUInt32 >>> ((1 : Int32) &&& 31).toUInt32).toInt32) &&& (1 : Int32)))), .unset, .unset, .unset]) rfl ?_
            exact J9 _
          case neg =>
            refine gs.ifYes 231 X8.here hx (hb hby at_214) ((if0 _ _).trans (feq hc214).2) rfl ?_
            refine gs.iload X8.here hx (hb hby at_231) rfl ?_
            refine gs.iload X8.here hx (hb hby at_233) rfl ?_
            refine gs.iconst 1 X8.here hx (hb hby at_235) rfl ?_
            refine Go.step (fun t_ k_ => XS.iushr X8.here hx rfl (hb hby at_236) rfl k_) ?_
            show Go p e below _ (T8.setTop (mkF m 237 #[.val (.int lf0), .val (.int lf1), .val (.int p3), .val (.int p4), .val (.int p5), .val (.ref ld5), .val (.ref ld6), .val (.ref ld7), .val (.ref ad1), .val (.int lo), .val (.int up), .val (.int hv), .val (.int (1 : Int32)), .val (.int (p4 &&& (3 : Int32))), .unset, .unset, .unset, .unset] [(.int ((p5.toUInt32 >>> ((1 : Int32) &&& 31).toUInt32).toInt32)), (.int up)]))
            refine gs.iconst 1 X8.here hx (hb hby at_237) rfl ?_
            refine gs.iand X8.here hx (hb hby at_238) ?_
            refine gs.iadd X8.here hx (hb hby at_239) ?_
            refine gs.istore X8.here hx (hb hby at_240) (l' := #[.val (.int lf0), .val (.int lf1), .val (.int p3), .val (.int p4), .val (.int p5), .val (.ref ld5), .val (.ref ld6), .val (.ref ld7), .val (.ref ad1), .val (.int lo), .val (.int up), .val (.int hv), .val (.int (1 : Int32)), .val (.int (p4 &&& (3 : Int32))), .val (.int (up + (((p5.toUInt32 >>> ((1 : Int32) &&& 31).toUInt32).toInt32) &&& (1 : Int32)))), .unset, .unset, .unset]) rfl ?_
            exact J9 _
theorem ef_am26_2 (m : MethodId) (x0 : Addr) (x1 : Int32) (x2 : Int64)  : entryFrame m #[(.ref x0), (.int x1), (.long x2)] 5 = mkF m 0 #[.val (.ref x0), .val (.int x1), .val (.long x2), .second, .unset] [] := by first | (simp [entryFrame, mkF, argsToLocals, Value.category]; done) | rfl
def Q_am26_2 (Z : State) (a_EMPTY_ELEMENTDATA : Addr) (aw0 : Addr) (ka_EMPTY_ELEMENTDATA : ClassId) (kaw0 : ClassId) (ad1 : Addr) (lv1 : Int64) (ad2 : Addr) (ad3 : Addr) (ad6 : Addr) (ad8 : Addr) (ad10 : Addr) (kc2 : ClassId) (kc5 : ClassId) (iv5 : Int32) (kc6 : ClassId) (h0 : Heap) (n0 : Nat) (v : Option Value) (h : Heap) (L : List Loc) : Prop := v = none ∧ Fr n0 L ∧ h = h0
set_option maxRecDepth 65536 in
set_option maxHeartbeats 40000000 in
theorem am26_2 (l : Launch) (Z : State) (a0 : Array Value) (hw : ∀ d ∈ tables_1, d.before a0 Z = true) (ws : List Jvm.Cond) (a_EMPTY_ELEMENTDATA : Addr) (aw0 : Addr) (ka_EMPTY_ELEMENTDATA : ClassId) (kaw0 : ClassId) (HW : Wd Z a_EMPTY_ELEMENTDATA aw0 ka_EMPTY_ELEMENTDATA kaw0) (ad1 : Addr) (lv1 : Int64) (ad2 : Addr) (ad3 : Addr) (ad6 : Addr) (ad8 : Addr) (ad10 : Addr) (kc2 : ClassId) (kc5 : ClassId) (iv5 : Int32) (kc6 : ClassId) (h0 : Heap) (n0 : Nat) (Ol : Old Z n0 h0) (HE_ad2 : Exa Z h0 ad2 "com/example/monarc/monarc/InitialDomain") (HF_ad2_InitialDomain_lowest : Fld Z h0 ad2 "com/example/monarc/monarc/InitialDomain" "lowest" "I" (.int (0 : Int32))) (HF_ad2_InitialDomain_size : Fld Z h0 ad2 "com/example/monarc/monarc/InitialDomain" "size" "I" (.int (200 : Int32))) (HF_ad2_InitialDomain_values : Fld Z h0 ad2 "com/example/monarc/monarc/InitialDomain" "values" "[I" .null) (HF_ad1_Domains_initial : Fld Z h0 ad1 "com/example/monarc/monarc/Domains" "initial" "[Lcom/example/monarc/monarc/InitialDomain;" (.ref ad6)) (HF_ad1_Domains_upper : Fld Z h0 ad1 "com/example/monarc/monarc/Domains" "upper" "[I" (.ref ad8)) (HF_ad1_Domains_sizes : Fld Z h0 ad1 "com/example/monarc/monarc/Domains" "sizes" "[I" (.ref ad10)) (HV_ad6 : Arv Z h0 ad6 kc2 (.object "com/example/monarc/monarc/InitialDomain") (2 : Int32) [(.ref ad2), (.ref ad3)] .null) (HV_ad10 : Arv Z h0 ad10 kc5 .int (2 : Int32) [(.int iv5), (.int (100 : Int32))] (.int (0 : Int32))) (HV_ad8 : Arv Z h0 ad8 kc6 .int (2 : Int32) [(.int (199 : Int32)), (.int (99 : Int32))] (.int (0 : Int32))) (as0 : (0 : Int32) < iv5) (as1 : ¬ ((lv1.toInt32) < (199 : Int32))) (eq0 : (((mnL (200 : Int64) (mxL (0 : Int64) ((mxL (-2147483648 : Int64) (mnL ((mnL lv1 (2147483647 : Int64)) + (1 : Int64)) (2147483648 : Int64))) - (0 : Int64)))).toInt32) - (1 : Int32)) = (lv1.toInt32)) (hO_ad6 : Ovr Z kc2 "com/example/monarc/monarc/InitialDomain") :
    MetFree l y_26 (head1 (Jvm.Cond.code y_26 prog_11_method_21_code 5 none :: ws) ({ frames := 3, cells := 0, slots := 0, locals := 48 } : Room)) (fun a_ U_ => a_ = #[(.ref ad1), (.int (0 : Int32)), (.long lv1)] ∧ Z.Warmed39 U_.vm ∧ U_.heap = h0) (fun _ _ _ _ _ => True) (fun _ U_ o_ V_ => ∃ v_ L_, o_ = .returned v_ ∧ Q_am26_2 Z a_EMPTY_ELEMENTDATA aw0 ka_EMPTY_ELEMENTDATA kaw0 ad1 lv1 ad2 ad3 ad6 ad8 ad10 kc2 kc5 iv5 kc6 h0 n0 v_ V_.heap L_ ∧ FrameEnd U_ o_ V_ L_ ({ frames := 3, cells := 0, slots := 0, locals := 48 } : Room).cells ({ frames := 3, cells := 0, slots := 0, locals := 48 } : Room).slots) := by
  refine MetFree.of_bodySF (plainFor_of_name pn_8) hisR ?_
  intro p e s m args below meth c s₁ Bd hml0 hP hK
  obtain ⟨rfl, hZ, hh⟩ := hP
  have hx := Bd.exec
  have hby := Bd.bytes
  have hml : c.maxLocals = 5 := hml0
  have hown : s.vm.findClass "com/example/monarc/monarc/Domains" = some m.cls := findClass_of_methodNamed Bd.named
  have hnm := (name_of_methodNamed Bd.named Bd.method).1
  have X0 : Stand p l e ({ frames := 3, cells := 0, slots := 0, locals := 48 } : Room) s m #[(.ref ad1), (.int (0 : Int32)), (.long lv1)] below meth c s₁ [] 0 0 := Stand.of_body Bd
  have e0 : s₁.heap = h0 := by rw [← hh, Bd.state]; rfl
  have N0 := Fr.nil n0
  have kp0 := Keep.refl h0 []
  show Go p e below (Fin1 s below (Q_am26_2 Z a_EMPTY_ELEMENTDATA aw0 ka_EMPTY_ELEMENTDATA kaw0 ad1 lv1 ad2 ad3 ad6 ad8 ad10 kc2 kc5 iv5 kc6 h0 n0) ({ frames := 3, cells := 0, slots := 0, locals := 48 } : Room).cells ({ frames := 3, cells := 0, slots := 0, locals := 48 } : Room).slots) _
  refine Go.step (fun t_ k_ => castTop (ef_am26_2 m ad1 (0 : Int32) lv1) k_) ?_
  obtain ⟨Ea_EMPTY_ELEMENTDATA, Sa_EMPTY_ELEMENTDATA, Eaw0, Saw0, Aa_EMPTY_ELEMENTDATA, Aaw0⟩ := id HW
  show Go p e below _ (s₁.setTop (mkF m 0 #[.val (.ref ad1), .val (.int (0 : Int32)), .val (.long lv1), .second, .unset] []))
  refine gs.aloadN X0.here hx (hb hby d26_0) rfl rfl ?_
  refine gs.getF X0 hx hZ hown (wd hw 125 rfl) Via.refl e0 HF_ad1_Domains_initial (hb hby d26_1) fun T1 X1 e1 => ?_
  refine gs.iloadN X1.here hx (hb hby d26_4) rfl ?_
  obtain ⟨cl2, Ar2, q2, Sz2, Ng2, Hs2, G2⟩ := id HV_ad6
  have hin2 : ¬ ((0 : Int32) < 0 ∨ cl2.slots.size ≤ ((0 : Int32)).toNatClampNeg) := inb_of Sz2 ⟨by decide, by decide⟩
  have hat2 : cl2.slots[((0 : Int32)).toNatClampNeg]? = some (.ref ad2) := Has.at Hs2 hin2 rfl
  refine Go.step (fun t_ k_ => X1.aaload hx (j := (0 : Int32)) (v := (.ref ad2)) (by rw [e1]; exact Ar2.1) (State.isArrayOf_alike hZ.alike Ar2.2.1) rfl Ar2.2.2 hin2 hat2 (g := (mkF m 5 #[.val (.ref ad1), .val (.int (0 : Int32)), .val (.long lv1), .second, .unset] [(.int (0 : Int32)), (.ref ad6)])) rfl rfl (hb hby d26_5) _ k_) ?_
  show Go p e below _ (T1.setTop (mkF m 6 #[.val (.ref ad1), .val (.int (0 : Int32)), .val (.long lv1), .second, .unset] [(.ref ad2)]))
  refine gs.lloadN X1.here hx (hb hby d26_6) rfl ?_
  obtain ⟨cq3, kq3, q3a, q3b, q3c⟩ := isOf hZ e1 HE_ad2
  obtain ⟨_, _, ⟨T3, L3, k3, n3⟩, -, X3, ⟨Lc3, hQ3, l3, y3, z3⟩, st3⟩ := X1.virtualBack hx (y := y_27) (z := y_27) hown (mvT hZ (wd hw 196 rfl)) (mvT hZ (wd hw 197 rfl)) (notFace_of_selects (args := #[]) (mvT hZ (wd hw 199 rfl))) (mvT hZ (wd hw 199 rfl)) (mvT hZ (wd hw 198 rfl)) (by decide) (backOf (W := 0) (am27_1 l Z a0 hw [] a_EMPTY_ELEMENTDATA aw0 ka_EMPTY_ELEMENTDATA kaw0 HW (ad2) (lv1) h0 n0 Ol HE_ad2 HF_ad2_InitialDomain_lowest HF_ad2_InitialDomain_size HF_ad2_InitialDomain_values eq0) hZ (wd hw 200 rfl) (wd hw 2 rfl) (by decide) (by decide)) q3a q3c (g := (mkF m 7 #[.val (.ref ad1), .val (.int (0 : Int32)), .val (.long lv1), .second, .unset] [(.long lv1), (.ref ad2)])) rfl (by rw [hml]; rfl) (Steps.refl _) (argsL := [(.long lv1)]) (rest := []) (lenOf pd_15 rfl) rfl (by show 2 * 0 + _ ≤ _; exact Nat.le_of_eq rfl) (hb hby d26_7) (fun _ _ => ⟨rfl, e1, (by decide : 0 + 0 ≤ _), (by decide : 0 + 0 ≤ _)⟩)
  dsimp only [Pt.U, Pt.locs, Pt.cells, Pt.slots] at X3 l3 y3 z3 st3 hQ3
  subst l3 y3 z3
  obtain ⟨rfl, Nq3, e3⟩ := hQ3
  have N3 := Fr.app N0 Nq3
  refine Go.step (fun t_ k_ => st3.trans k_) ?_
  show Go p e below _ (T3.setTop (mkF m 10 #[.val (.ref ad1), .val (.int (0 : Int32)), .val (.long lv1), .second, .unset] [(.int (lv1.toInt32))]))
  refine gs.istore X3.here hx (hb hby d26_10) (l' := #[.val (.ref ad1), .val (.int (0 : Int32)), .val (.long lv1), .second, .val (.int (lv1.toInt32))]) rfl ?_
  refine gs.aloadN X3.here hx (hb hby d26_12) rfl rfl ?_
  refine gs.getF X3 hx hZ hown (wd hw 135 rfl) Via.refl e3 HF_ad1_Domains_sizes (hb hby d26_13) fun T4 X4 e4 => ?_
  refine gs.iloadN X4.here hx (hb hby d26_16) rfl ?_
  obtain ⟨cl5, Ar5, q5, Sz5, Ng5, Hs5, G5⟩ := id HV_ad10
  have hin5 : ¬ ((0 : Int32) < 0 ∨ cl5.slots.size ≤ ((0 : Int32)).toNatClampNeg) := inb_of Sz5 ⟨by decide, by decide⟩
  have hat5 : cl5.slots[((0 : Int32)).toNatClampNeg]? = some (.int iv5) := Has.at Hs5 hin5 rfl
  refine Go.step (fun t_ k_ => X4.iaload hx (j := (0 : Int32)) (v := (.int iv5)) (by rw [e4]; exact Ar5.1) (State.isArrayOf_alike hZ.alike Ar5.2.1) Ar5.2.2 hin5 hat5 (g := (mkF m 17 #[.val (.ref ad1), .val (.int (0 : Int32)), .val (.long lv1), .second, .val (.int (lv1.toInt32))] [(.int (0 : Int32)), (.ref ad10)])) rfl rfl (hb hby d26_17) _ k_) ?_
  show Go p e below _ (T4.setTop (mkF m 18 #[.val (.ref ad1), .val (.int (0 : Int32)), .val (.long lv1), .second, .val (.int (lv1.toInt32))] [(.int iv5)]))
  have hc18 : (0 : Int32) < iv5 := as0
  refine gs.ifNo X4.here hx (hb hby d26_18) ((if0 _ _).trans (tlt hc18).2.2.2) ?_
  refine gs.iload X4.here hx (hb hby d26_21) rfl ?_
  refine gs.aloadN X4.here hx (hb hby d26_23) rfl rfl ?_
  refine gs.getF X4 hx hZ hown (wd hw 129 rfl) Via.refl e4 HF_ad1_Domains_upper (hb hby d26_24) fun T6 X6 e6 => ?_
  refine gs.iloadN X6.here hx (hb hby d26_27) rfl ?_
  obtain ⟨cl7, Ar7, q7, Sz7, Ng7, Hs7, G7⟩ := id HV_ad8
  have hin7 : ¬ ((0 : Int32) < 0 ∨ cl7.slots.size ≤ ((0 : Int32)).toNatClampNeg) := inb_of Sz7 ⟨by decide, by decide⟩
  have hat7 : cl7.slots[((0 : Int32)).toNatClampNeg]? = some (.int (199 : Int32)) := Has.at Hs7 hin7 rfl
  refine Go.step (fun t_ k_ => X6.iaload hx (j := (0 : Int32)) (v := (.int (199 : Int32))) (by rw [e6]; exact Ar7.1) (State.isArrayOf_alike hZ.alike Ar7.2.1) Ar7.2.2 hin7 hat7 (g := (mkF m 28 #[.val (.ref ad1), .val (.int (0 : Int32)), .val (.long lv1), .second, .val (.int (lv1.toInt32))] [(.int (0 : Int32)), (.ref ad8), (.int (lv1.toInt32))])) rfl rfl (hb hby d26_28) _ k_) ?_
  show Go p e below _ (T6.setTop (mkF m 29 #[.val (.ref ad1), .val (.int (0 : Int32)), .val (.long lv1), .second, .val (.int (lv1.toInt32))] [(.int (199 : Int32)), (.int (lv1.toInt32))]))
  have hc29 : ¬ ((lv1.toInt32) < (199 : Int32)) := as1
  refine gs.icmpYes 39 X6.here hx (hb hby d26_29) (flt hc29).2.1 rfl ?_
  refine Go.retV X6 hx Bd.returns Bd.notSynchronized (hb hby d26_39) (by rw [e6]; exact ⟨rfl, N3, rfl⟩) (by decide) (by decide)
set_option maxRecDepth 65536 in
set_option maxHeartbeats 40000000 in
theorem sg2 {p : Program} {l : Launch} {e : Env} {s : State} {m : MethodId} {args : Array Value} {below : List Frame} {meth : Method} {c : Code} {Z : State} {a0 : Array Value} (hw : ∀ d ∈ tables_1, d.before a0 Z = true) (a_EMPTY_ELEMENTDATA : Addr) (aw0 : Addr) (ka_EMPTY_ELEMENTDATA : ClassId) (kaw0 : ClassId) (HW : Wd Z a_EMPTY_ELEMENTDATA aw0 ka_EMPTY_ELEMENTDATA kaw0) {h0 : Heap} {n0 : Nat} (hx : p.tables.exec = Jvm.exec) (hby : c.code = code) (hml : c.maxLocals = 18) (hret : meth.sig.returnType = some .boolean) (hlk : meth.locks = false) {vm0 : Vm} {k0 : Nat} {T0 : State} {locs : List Loc} {h1 : Heap} (X0 : Stand p l e room_1 (s.setVm vm0) m args below meth c T0 locs 18 1151) (S0 : s.Since vm0 k0) (hk0 : k0 ≤ h1.size) (hZ : Z.Warmed39 (s.setVm vm0).vm) (hown : (s.setVm vm0).vm.findClass "com/example/monarc/monarc/DomainsContainsPinLaw" = some m.cls) (e0 : T0.heap = h1) (N0 : Fr n0 locs) (kp0 : Keep h0 h1 []) (Ol : Old Z n0 h1) {Q : Option Value → Heap → List Loc → Prop} (hQ : ∀ h L, Fr n0 L → Q (some (.int 1)) h L) (lf0 : Int32) (lf1 : Int32) (p3 : Int32) (p4 : Int32) (p5 : Int32) (ld5 : Addr) (ld6 : Addr) (ld7 : Addr) (ad1 : Addr) (lo : Int32) (up : Int32) (ad2 : Addr) (ad3 : Addr) (ad4 : Addr) (ad5 : Addr) (ad6 : Addr) (ad7 : Addr) (ad8 : Addr) (ad9 : Addr) (w1 : Int32) (t1 : Int32) (kc1 : ClassId) (kc2 : ClassId) (ad10 : Addr) (kc3 : ClassId) (kc4 : ClassId) (s1 : Int32) (kc5 : ClassId) (kc6 : ClassId) (f1 : Nat → Int64) (HE_ad2 : Exa Z h1 ad2 "com/example/monarc/monarc/InitialDomain") (HF_ad2_InitialDomain_lowest : Fld Z h1 ad2 "com/example/monarc/monarc/InitialDomain" "lowest" "I" (.int (0 : Int32))) (HF_ad2_InitialDomain_size : Fld Z h1 ad2 "com/example/monarc/monarc/InitialDomain" "size" "I" (.int (200 : Int32))) (HF_ad2_InitialDomain_values : Fld Z h1 ad2 "com/example/monarc/monarc/InitialDomain" "values" "[I" .null) (HE_ad1 : Exa Z h1 ad1 "com/example/monarc/monarc/Domains") (HF_ad1_Domains_trail : Fld Z h1 ad1 "com/example/monarc/monarc/Domains" "trail" "[J" (.ref ad3)) (HF_ad1_Domains_marks : Fld Z h1 ad1 "com/example/monarc/monarc/Domains" "marks" "[I" (.ref ad4)) (HF_ad1_Domains_initial : Fld Z h1 ad1 "com/example/monarc/monarc/Domains" "initial" "[Lcom/example/monarc/monarc/InitialDomain;" (.ref ad5)) (HF_ad1_Domains_lower : Fld Z h1 ad1 "com/example/monarc/monarc/Domains" "lower" "[I" (.ref ad6)) (HF_ad1_Domains_upper : Fld Z h1 ad1 "com/example/monarc/monarc/Domains" "upper" "[I" (.ref ad7)) (HF_ad1_Domains_holes : Fld Z h1 ad1 "com/example/monarc/monarc/Domains" "holes" "[[J" (.ref ad8)) (HF_ad1_Domains_sizes : Fld Z h1 ad1 "com/example/monarc/monarc/Domains" "sizes" "[I" (.ref ad9)) (HF_ad1_Domains_withOneValue : Fld Z h1 ad1 "com/example/monarc/monarc/Domains" "withOneValue" "I" (.int w1)) (HF_ad1_Domains_trailSize : Fld Z h1 ad1 "com/example/monarc/monarc/Domains" "trailSize" "I" (.int t1)) (HF_ad1_Domains_resized : Fld Z h1 ad1 "com/example/monarc/monarc/Domains" "resized" "Ljava/util/function/IntConsumer;" .null) (HE_ad8 : Exa Z h1 ad8 "[[J") (HV_ad8 : Arv Z h1 ad8 kc1 (.array .long) (2 : Int32) [.null, .null] .null) (HV_ad5 : Arv Z h1 ad5 kc2 (.object "com/example/monarc/monarc/InitialDomain") (2 : Int32) [(.ref ad2), (.ref ad10)] .null) (HV_ad6 : Arv Z h1 ad6 kc3 .int (2 : Int32) [(.int lo), (.int (0 : Int32))] (.int (0 : Int32))) (HV_ad9 : Arv Z h1 ad9 kc4 .int (2 : Int32) [(.int s1), (.int (100 : Int32))] (.int (0 : Int32))) (HE_ad3 : Exa Z h1 ad3 "[J") (HV_ad7 : Arv Z h1 ad7 kc5 .int (2 : Int32) [(.int (199 : Int32)), (.int (99 : Int32))] (.int (0 : Int32))) (HG_ad3 : Arf Z h1 ad3 kc6 (1024 : Int32) f1) (nn_ad1 : n0 ≤ ad1) (nn_ad3 : n0 ≤ ad3) (nn_ad7 : n0 ≤ ad7) (nn_ad8 : n0 ≤ ad8) (nn_ad9 : n0 ≤ ad9) (sz_ad1 : h0.size ≤ ad1) (sz_ad3 : h0.size ≤ ad3) (sz_ad7 : h0.size ≤ ad7) (sz_ad8 : h0.size ≤ ad8) (sz_ad9 : h0.size ≤ ad9) (ne_ad1_ad2 : ad1 ≠ ad2) (ne_ad1_ad3 : ad1 ≠ ad3) (ne_ad1_ad5 : ad1 ≠ ad5) (ne_ad1_ad6 : ad1 ≠ ad6) (ne_ad1_ad7 : ad1 ≠ ad7) (ne_ad1_ad8 : ad1 ≠ ad8) (ne_ad1_ad9 : ad1 ≠ ad9) (ne_ad2_ad3 : ad2 ≠ ad3) (ne_ad2_ad7 : ad2 ≠ ad7) (ne_ad2_ad9 : ad2 ≠ ad9) (ne_ad3_ad5 : ad3 ≠ ad5) (ne_ad3_ad6 : ad3 ≠ ad6) (ne_ad3_ad7 : ad3 ≠ ad7) (ne_ad3_ad8 : ad3 ≠ ad8) (ne_ad3_ad9 : ad3 ≠ ad9) (ne_ad5_ad7 : ad5 ≠ ad7) (ne_ad5_ad9 : ad5 ≠ ad9) (ne_ad6_ad7 : ad6 ≠ ad7) (ne_ad6_ad8 : ad6 ≠ ad8) (ne_ad6_ad9 : ad6 ≠ ad9) (ne_ad7_ad8 : ad7 ≠ ad8) (ne_ad7_ad9 : ad7 ≠ ad9) (ne_ad8_ad9 : ad8 ≠ ad9) (hb_lo : 0 ≤ lo.toInt ∧ lo.toInt < 64) (hb_up : 136 ≤ up.toInt ∧ up.toInt ≤ 199) (o0 : (0 : Int32).toInt = 0) (o199 : (199 : Int32).toInt = 199) (o99 : (99 : Int32).toInt = 99) (o1024 : (1024 : Int32).toInt = 1024) (eu : ((up.toInt64).toInt32) = up) (euL : (up.toInt64).toInt = up.toInt) (hb_t1 : 0 ≤ t1.toInt ∧ t1.toInt ≤ 1) (hb_s1 : 136 ≤ s1.toInt ∧ s1.toInt ≤ 200) (hO_ad8 : OvrA Z kc1 .long "[J") (hO_ad5 : Ovr Z kc2 "com/example/monarc/monarc/InitialDomain") :
    Go p e below (Fin2 s below Q room_1.cells room_1.slots) (T0.setTop (mkF m 98 #[.val (.int lf0), .val (.int lf1), .val (.int p3), .val (.int p4), .val (.int p5), .val (.ref ld5), .val (.ref ld6), .val (.ref ld7), .val (.ref ad1), .val (.int lo), .val (.int up), .unset, .unset, .unset, .unset, .unset, .unset, .unset] [])) := by
  obtain ⟨Ea_EMPTY_ELEMENTDATA, Sa_EMPTY_ELEMENTDATA, Eaw0, Saw0, Aa_EMPTY_ELEMENTDATA, Aaw0⟩ := id HW
  show Go p e below _ (T0.setTop (mkF m 98 #[.val (.int lf0), .val (.int lf1), .val (.int p3), .val (.int p4), .val (.int p5), .val (.ref ld5), .val (.ref ld6), .val (.ref ld7), .val (.ref ad1), .val (.int lo), .val (.int up), .unset, .unset, .unset, .unset, .unset, .unset, .unset] []))
  refine gs.aload X0.here hx (hb hby at_98) rfl rfl ?_
  refine gs.iconst 0 X0.here hx (hb hby at_100) rfl ?_
  refine gs.iload X0.here hx (hb hby at_101) rfl ?_
  refine Go.step (fun t_ k_ => XS.i2l X0.here hx rfl (hb hby at_103) rfl k_) ?_
  show Go p e below _ (T0.setTop (mkF m 104 #[.val (.int lf0), .val (.int lf1), .val (.int p3), .val (.int p4), .val (.int p5), .val (.ref ld5), .val (.ref ld6), .val (.ref ld7), .val (.ref ad1), .val (.int lo), .val (.int up), .unset, .unset, .unset, .unset, .unset, .unset, .unset] [(.long (up.toInt64)), (.int (0 : Int32)), (.ref ad1)]))
  by_cases h_up : up < (199 : Int32)
  case pos =>
    obtain ⟨cq1, kq1, q1a, q1b, q1c⟩ := isOf hZ e0 HE_ad1
    obtain ⟨_, _, ⟨T1, L1, k1, n1⟩, -, X1, ⟨Lc1, hQ1, l1, y1, z1⟩, st1⟩ := X0.virtualBack hx (y := y_26) (z := y_26) hown (mvT hZ (wd hw 191 rfl)) (mvT hZ (wd hw 192 rfl)) (notFace_of_selects (args := #[]) (mvT hZ (wd hw 194 rfl))) (mvT hZ (wd hw 194 rfl)) (mvT hZ (wd hw 193 rfl)) (by decide) (backOf (W := 0) (am26_1 l Z a0 hw [] a_EMPTY_ELEMENTDATA aw0 ka_EMPTY_ELEMENTDATA kaw0 HW (ad1) ((up.toInt64)) (ad2) (ad10) (ad3) (ad4) (ad5) (ad6) (ad7) (ad8) (ad9) (w1) (t1) (kc1) (kc2) (kc3) (lo) (kc4) (s1) (kc5) (kc6) (f1) h1 n0 Ol HE_ad2 HF_ad2_InitialDomain_lowest HF_ad2_InitialDomain_size HF_ad2_InitialDomain_values HE_ad1 HF_ad1_Domains_trail HF_ad1_Domains_marks HF_ad1_Domains_initial HF_ad1_Domains_lower HF_ad1_Domains_upper HF_ad1_Domains_holes HF_ad1_Domains_sizes HF_ad1_Domains_withOneValue HF_ad1_Domains_trailSize HF_ad1_Domains_resized HV_ad8 HV_ad5 HV_ad6 HV_ad9 HE_ad3 HV_ad7 HG_ad3 nn_ad1 nn_ad9 nn_ad3 nn_ad7 ne_ad1_ad9 ne_ad1_ad3 ne_ad1_ad7 (Ne.symm ne_ad3_ad9) (Ne.symm ne_ad7_ad9) ne_ad3_ad7 (i_lt (by omega)) (by rw [eu]; exact h_up) (by rw [eu]; exact i_nlt (by omega)) (by rw [o1024]; omega) (i_ne (by rw [o1024]; omega)) (lam_in (by omega) (by omega)) hO_ad8 hO_ad5) hZ (wd hw 195 rfl) (wd hw 103 rfl) (by decide) (by decide)) q1a q1c (g := (mkF m 104 #[.val (.int lf0), .val (.int lf1), .val (.int p3), .val (.int p4), .val (.int p5), .val (.ref ld5), .val (.ref ld6), .val (.ref ld7), .val (.ref ad1), .val (.int lo), .val (.int up), .unset, .unset, .unset, .unset, .unset, .unset, .unset] [(.long (up.toInt64)), (.int (0 : Int32)), (.ref ad1)])) rfl (by rw [hml]; rfl) (Steps.refl _) (argsL := [(.int (0 : Int32)), (.long (up.toInt64))]) (rest := []) (lenOf pd_19 rfl) rfl (by show 2 * 0 + _ ≤ _; exact Nat.le_of_eq rfl) (hb hby at_104) (fun _ _ => ⟨rfl, e0, (by decide : 18 + 0 ≤ _), (by decide : 1151 + 0 ≤ _)⟩)
    dsimp only [Pt.U, Pt.locs, Pt.cells, Pt.slots] at X1 l1 y1 z1 st1 hQ1
    subst l1 y1 z1
    obtain ⟨ex1_0, rfl, Nq1, K1, p1_0, p1_1, p1_2, p1_3, p1_4, p1_5, p1_6, p1_7, p1_8, p1_9, p1_10, p1_11, p1_12, p1_13, p1_14⟩ := hQ1
    have old1 := Ol.keep K1 (allS nn_ad1 (allS nn_ad9 (allS nn_ad3 (allS nn_ad7 all0))))
    have hk1 := Nat.le_trans hk0 K1.1
    have kp1 := kp0.trans K1 (allS (Or.inr sz_ad1) (allS (Or.inr sz_ad9) (allS (Or.inr sz_ad3) (allS (Or.inr sz_ad7) all0))))
    have N1 := Fr.app N0 Nq1
    refine Go.step (fun t_ k_ => st1.trans k_) ?_
    show Go p e below _ (T1.setTop (mkF m 107 #[.val (.int lf0), .val (.int lf1), .val (.int p3), .val (.int p4), .val (.int p5), .val (.ref ld5), .val (.ref ld6), .val (.ref ld7), .val (.ref ad1), .val (.int lo), .val (.int up), .unset, .unset, .unset, .unset, .unset, .unset, .unset] []))
    rw [eu] at p1_11
    rw [eu] at p1_14
    obtain ⟨f2, hd_f2⟩ : ∃ z, z = (fun i => if i = (t1).toNatClampNeg then ((((0 : Int64) <<< ((32 : Int32) &&& 0x3f).toInt64) ||| ((2 : Int64) <<< ((30 : Int32) &&& 0x3f).toInt64)) ||| (199 : Int64)) else f1 i) := ⟨_, rfl⟩
    have v2_ : Arf Z T1.heap ad3 kc6 (1024 : Int32) f2 := by rw [hd_f2]; exact p1_13
    obtain ⟨w2, hd_w2⟩ : ∃ z, z = ex1_0 := ⟨_, rfl⟩
    have v3_ : Fld Z T1.heap ad1 "com/example/monarc/monarc/Domains" "withOneValue" "I" (.int w2) := by rw [hd_w2]; exact p1_10
    obtain ⟨t2, hd_t2⟩ : ∃ z, z = (t1 + (1 : Int32)) := ⟨_, rfl⟩
    have v4_ : Fld Z T1.heap ad1 "com/example/monarc/monarc/Domains" "trailSize" "I" (.int t2) := by rw [hd_t2]; exact p1_8
    obtain ⟨s2, hd_s2⟩ : ∃ z, z = (s1 - (mxI (0 : Int32) ((200 : Int32) - (up + (1 : Int32))))) := ⟨_, rfl⟩
    have v5_ : Arv Z T1.heap ad9 kc4 .int (2 : Int32) [(.int s2), (.int (100 : Int32))] (.int (0 : Int32)) := by rw [hd_s2]; exact p1_11
    have hb_t2 : 0 ≤ t2.toInt ∧ t2.toInt ≤ 2 := by rw [hd_t2]; have o1 : (1 : Int32).toInt = 1 := rfl; rw [Jvm.Kit.i32_add (by omega) (by omega)]; omega
    have f6 := (HE_ad2.keep K1)
    have f7 := (HF_ad2_InitialDomain_size.keep K1 (ninS (Ne.symm ne_ad1_ad2) (ninS ne_ad2_ad9 (ninS ne_ad2_ad3 (ninS ne_ad2_ad7 nin0)))))
    have f8 := (HE_ad8.keep K1)
    have f9 := (HV_ad8.keep K1 (ninS (Ne.symm ne_ad1_ad8) (ninS ne_ad8_ad9 (ninS (Ne.symm ne_ad3_ad8) (ninS (Ne.symm ne_ad7_ad8) nin0)))))
    have f10 := (HV_ad5.keep K1 (ninS (Ne.symm ne_ad1_ad5) (ninS ne_ad5_ad9 (ninS (Ne.symm ne_ad3_ad5) (ninS ne_ad5_ad7 nin0)))))
    have f11 := (HV_ad6.keep K1 (ninS (Ne.symm ne_ad1_ad6) (ninS ne_ad6_ad9 (ninS (Ne.symm ne_ad3_ad6) (ninS ne_ad6_ad7 nin0)))))
    exact sg1 hw a_EMPTY_ELEMENTDATA aw0 ka_EMPTY_ELEMENTDATA kaw0 HW hx hby hml hret hlk (vm0 := vm0) X1 S0 hk1 hZ hown rfl N1 kp1 old1 hQ lf0 lf1 p3 p4 p5 ld5 ld6 ld7 ad1 lo up ad2 ad3 ad4 ad5 ad6 ad7 ad8 ad9 w2 t2 kc1 kc2 ad10 kc3 kc4 s2 kc5 kc6 f2 f6 f7 p1_0 p1_7 p1_4 p1_2 p1_3 p1_9 p1_1 p1_6 v3_ v4_ p1_5 f8 f9 f10 f11 v5_ p1_12 p1_14 v2_ nn_ad1 nn_ad3 nn_ad8 nn_ad9 sz_ad1 sz_ad3 sz_ad8 sz_ad9 ne_ad1_ad3 ne_ad1_ad6 ne_ad1_ad7 ne_ad1_ad8 ne_ad1_ad9 ne_ad3_ad6 ne_ad3_ad7 ne_ad3_ad8 ne_ad3_ad9 ne_ad6_ad8 ne_ad6_ad9 ne_ad7_ad8 ne_ad7_ad9 ne_ad8_ad9 hb_lo hb_up o0 o199 o99 o1024 eu euL hb_t2 hO_ad8 hO_ad5
  case neg =>
    obtain ⟨cq12, kq12, q12a, q12b, q12c⟩ := isOf hZ e0 HE_ad1
    obtain ⟨_, _, ⟨T12, L12, k12, n12⟩, -, X12, ⟨Lc12, hQ12, l12, y12, z12⟩, st12⟩ := X0.virtualBack hx (y := y_26) (z := y_26) hown (mvT hZ (wd hw 191 rfl)) (mvT hZ (wd hw 192 rfl)) (notFace_of_selects (args := #[]) (mvT hZ (wd hw 194 rfl))) (mvT hZ (wd hw 194 rfl)) (mvT hZ (wd hw 193 rfl)) (by decide) (backOf (W := 0) (am26_2 l Z a0 hw [] a_EMPTY_ELEMENTDATA aw0 ka_EMPTY_ELEMENTDATA kaw0 HW (ad1) ((up.toInt64)) (ad2) (ad10) (ad5) (ad7) (ad9) (kc2) (kc4) (s1) (kc5) h1 n0 Ol HE_ad2 HF_ad2_InitialDomain_lowest HF_ad2_InitialDomain_size HF_ad2_InitialDomain_values HF_ad1_Domains_initial HF_ad1_Domains_upper HF_ad1_Domains_sizes HV_ad5 HV_ad9 HV_ad7 (i_lt (by omega)) (by rw [eu]; exact h_up) (lam_in (by omega) (by omega)) hO_ad5) hZ (wd hw 195 rfl) (wd hw 103 rfl) (by decide) (by decide)) q12a q12c (g := (mkF m 104 #[.val (.int lf0), .val (.int lf1), .val (.int p3), .val (.int p4), .val (.int p5), .val (.ref ld5), .val (.ref ld6), .val (.ref ld7), .val (.ref ad1), .val (.int lo), .val (.int up), .unset, .unset, .unset, .unset, .unset, .unset, .unset] [(.long (up.toInt64)), (.int (0 : Int32)), (.ref ad1)])) rfl (by rw [hml]; rfl) (Steps.refl _) (argsL := [(.int (0 : Int32)), (.long (up.toInt64))]) (rest := []) (lenOf pd_19 rfl) rfl (by show 2 * 0 + _ ≤ _; exact Nat.le_of_eq rfl) (hb hby at_104) (fun _ _ => ⟨rfl, e0, (by decide : 18 + 0 ≤ _), (by decide : 1151 + 0 ≤ _)⟩)
    dsimp only [Pt.U, Pt.locs, Pt.cells, Pt.slots] at X12 l12 y12 z12 st12 hQ12
    subst l12 y12 z12
    obtain ⟨rfl, Nq12, e12⟩ := hQ12
    have N12 := Fr.app N0 Nq12
    refine Go.step (fun t_ k_ => st12.trans k_) ?_
    show Go p e below _ (T12.setTop (mkF m 107 #[.val (.int lf0), .val (.int lf1), .val (.int p3), .val (.int p4), .val (.int p5), .val (.ref ld5), .val (.ref ld6), .val (.ref ld7), .val (.ref ad1), .val (.int lo), .val (.int up), .unset, .unset, .unset, .unset, .unset, .unset, .unset] []))
    have h_u0 : up = (199 : Int32) := Int32.toInt_inj.mp (by have h_ := i_ge h_up; omega)
    have v13_ : Arv Z h1 ad7 kc5 .int (2 : Int32) [(.int up), (.int (99 : Int32))] (.int (0 : Int32)) := by rw [h_u0]; exact HV_ad7
    obtain ⟨f2, hd_f2⟩ : ∃ z, z = f1 := ⟨_, rfl⟩
    have v14_ : Arf Z h1 ad3 kc6 (1024 : Int32) f2 := by rw [hd_f2]; exact HG_ad3
    obtain ⟨w2, hd_w2⟩ : ∃ z, z = w1 := ⟨_, rfl⟩
    have v15_ : Fld Z h1 ad1 "com/example/monarc/monarc/Domains" "withOneValue" "I" (.int w2) := by rw [hd_w2]; exact HF_ad1_Domains_withOneValue
    obtain ⟨t2, hd_t2⟩ : ∃ z, z = t1 := ⟨_, rfl⟩
    have v16_ : Fld Z h1 ad1 "com/example/monarc/monarc/Domains" "trailSize" "I" (.int t2) := by rw [hd_t2]; exact HF_ad1_Domains_trailSize
    obtain ⟨s2, hd_s2⟩ : ∃ z, z = s1 := ⟨_, rfl⟩
    have v17_ : Arv Z h1 ad9 kc4 .int (2 : Int32) [(.int s2), (.int (100 : Int32))] (.int (0 : Int32)) := by rw [hd_s2]; exact HV_ad9
    have hb_t2 : 0 ≤ t2.toInt ∧ t2.toInt ≤ 2 := by rw [hd_t2]; omega
    exact sg1 hw a_EMPTY_ELEMENTDATA aw0 ka_EMPTY_ELEMENTDATA kaw0 HW hx hby hml hret hlk (vm0 := vm0) X12 S0 hk0 hZ hown e12 N12 kp0 Ol hQ lf0 lf1 p3 p4 p5 ld5 ld6 ld7 ad1 lo up ad2 ad3 ad4 ad5 ad6 ad7 ad8 ad9 w2 t2 kc1 kc2 ad10 kc3 kc4 s2 kc5 kc6 f2 HE_ad2 HF_ad2_InitialDomain_size HE_ad1 HF_ad1_Domains_trail HF_ad1_Domains_marks HF_ad1_Domains_initial HF_ad1_Domains_lower HF_ad1_Domains_upper HF_ad1_Domains_holes HF_ad1_Domains_sizes v15_ v16_ HF_ad1_Domains_resized HE_ad8 HV_ad8 HV_ad5 HV_ad6 v17_ HE_ad3 v13_ v14_ nn_ad1 nn_ad3 nn_ad8 nn_ad9 sz_ad1 sz_ad3 sz_ad8 sz_ad9 ne_ad1_ad3 ne_ad1_ad6 ne_ad1_ad7 ne_ad1_ad8 ne_ad1_ad9 ne_ad3_ad6 ne_ad3_ad7 ne_ad3_ad8 ne_ad3_ad9 ne_ad6_ad8 ne_ad6_ad9 ne_ad7_ad8 ne_ad7_ad9 ne_ad8_ad9 hb_lo hb_up o0 o199 o99 o1024 eu euL hb_t2 hO_ad8 hO_ad5
theorem ef_am22_2 (m : MethodId) (x0 : Addr) (x1 : Int32) (x2 : Int64)  : entryFrame m #[(.ref x0), (.int x1), (.long x2)] 5 = mkF m 0 #[.val (.ref x0), .val (.int x1), .val (.long x2), .second, .unset] [] := by first | (simp [entryFrame, mkF, argsToLocals, Value.category]; done) | rfl
def Q_am22_2 (Z : State) (a_EMPTY_ELEMENTDATA : Addr) (aw0 : Addr) (ka_EMPTY_ELEMENTDATA : ClassId) (kaw0 : ClassId) (ad1 : Addr) (lv1 : Int64) (ad2 : Addr) (ad3 : Addr) (ad6 : Addr) (ad7 : Addr) (ad10 : Addr) (kc2 : ClassId) (kc3 : ClassId) (kc5 : ClassId) (h0 : Heap) (n0 : Nat) (v : Option Value) (h : Heap) (L : List Loc) : Prop := v = none ∧ Fr n0 L ∧ h = h0
set_option maxRecDepth 65536 in
set_option maxHeartbeats 40000000 in
theorem am22_2 (l : Launch) (Z : State) (a0 : Array Value) (hw : ∀ d ∈ tables_1, d.before a0 Z = true) (ws : List Jvm.Cond) (a_EMPTY_ELEMENTDATA : Addr) (aw0 : Addr) (ka_EMPTY_ELEMENTDATA : ClassId) (kaw0 : ClassId) (HW : Wd Z a_EMPTY_ELEMENTDATA aw0 ka_EMPTY_ELEMENTDATA kaw0) (ad1 : Addr) (lv1 : Int64) (ad2 : Addr) (ad3 : Addr) (ad6 : Addr) (ad7 : Addr) (ad10 : Addr) (kc2 : ClassId) (kc3 : ClassId) (kc5 : ClassId) (h0 : Heap) (n0 : Nat) (Ol : Old Z n0 h0) (HE_ad2 : Exa Z h0 ad2 "com/example/monarc/monarc/InitialDomain") (HF_ad2_InitialDomain_lowest : Fld Z h0 ad2 "com/example/monarc/monarc/InitialDomain" "lowest" "I" (.int (0 : Int32))) (HF_ad2_InitialDomain_size : Fld Z h0 ad2 "com/example/monarc/monarc/InitialDomain" "size" "I" (.int (200 : Int32))) (HF_ad2_InitialDomain_values : Fld Z h0 ad2 "com/example/monarc/monarc/InitialDomain" "values" "[I" .null) (HF_ad1_Domains_initial : Fld Z h0 ad1 "com/example/monarc/monarc/Domains" "initial" "[Lcom/example/monarc/monarc/InitialDomain;" (.ref ad6)) (HF_ad1_Domains_lower : Fld Z h0 ad1 "com/example/monarc/monarc/Domains" "lower" "[I" (.ref ad7)) (HF_ad1_Domains_sizes : Fld Z h0 ad1 "com/example/monarc/monarc/Domains" "sizes" "[I" (.ref ad10)) (HV_ad6 : Arv Z h0 ad6 kc2 (.object "com/example/monarc/monarc/InitialDomain") (2 : Int32) [(.ref ad2), (.ref ad3)] .null) (HV_ad7 : Arv Z h0 ad7 kc3 .int (2 : Int32) [(.int (0 : Int32)), (.int (0 : Int32))] (.int (0 : Int32))) (HV_ad10 : Arv Z h0 ad10 kc5 .int (2 : Int32) [(.int (200 : Int32)), (.int (100 : Int32))] (.int (0 : Int32))) (as0 : ¬ ((0 : Int32) < (lv1.toInt32))) (eq0 : ((mnL (200 : Int64) (mxL (0 : Int64) ((mxL (-2147483648 : Int64) (mnL lv1 (2147483648 : Int64))) - (0 : Int64)))).toInt32) = (lv1.toInt32)) (hO_ad6 : Ovr Z kc2 "com/example/monarc/monarc/InitialDomain") :
    MetFree l y_22 (head1 (Jvm.Cond.code y_22 prog_11_method_20_code 5 none :: ws) ({ frames := 2, cells := 0, slots := 0, locals := 34 } : Room)) (fun a_ U_ => a_ = #[(.ref ad1), (.int (0 : Int32)), (.long lv1)] ∧ Z.Warmed39 U_.vm ∧ U_.heap = h0) (fun _ _ _ _ _ => True) (fun _ U_ o_ V_ => ∃ v_ L_, o_ = .returned v_ ∧ Q_am22_2 Z a_EMPTY_ELEMENTDATA aw0 ka_EMPTY_ELEMENTDATA kaw0 ad1 lv1 ad2 ad3 ad6 ad7 ad10 kc2 kc3 kc5 h0 n0 v_ V_.heap L_ ∧ FrameEnd U_ o_ V_ L_ ({ frames := 2, cells := 0, slots := 0, locals := 34 } : Room).cells ({ frames := 2, cells := 0, slots := 0, locals := 34 } : Room).slots) := by
  refine MetFree.of_bodySF (plainFor_of_name pn_8) hisR ?_
  intro p e s m args below meth c s₁ Bd hml0 hP hK
  obtain ⟨rfl, hZ, hh⟩ := hP
  have hx := Bd.exec
  have hby := Bd.bytes
  have hml : c.maxLocals = 5 := hml0
  have hown : s.vm.findClass "com/example/monarc/monarc/Domains" = some m.cls := findClass_of_methodNamed Bd.named
  have hnm := (name_of_methodNamed Bd.named Bd.method).1
  have X0 : Stand p l e ({ frames := 2, cells := 0, slots := 0, locals := 34 } : Room) s m #[(.ref ad1), (.int (0 : Int32)), (.long lv1)] below meth c s₁ [] 0 0 := Stand.of_body Bd
  have e0 : s₁.heap = h0 := by rw [← hh, Bd.state]; rfl
  have N0 := Fr.nil n0
  have kp0 := Keep.refl h0 []
  show Go p e below (Fin1 s below (Q_am22_2 Z a_EMPTY_ELEMENTDATA aw0 ka_EMPTY_ELEMENTDATA kaw0 ad1 lv1 ad2 ad3 ad6 ad7 ad10 kc2 kc3 kc5 h0 n0) ({ frames := 2, cells := 0, slots := 0, locals := 34 } : Room).cells ({ frames := 2, cells := 0, slots := 0, locals := 34 } : Room).slots) _
  refine Go.step (fun t_ k_ => castTop (ef_am22_2 m ad1 (0 : Int32) lv1) k_) ?_
  obtain ⟨Ea_EMPTY_ELEMENTDATA, Sa_EMPTY_ELEMENTDATA, Eaw0, Saw0, Aa_EMPTY_ELEMENTDATA, Aaw0⟩ := id HW
  show Go p e below _ (s₁.setTop (mkF m 0 #[.val (.ref ad1), .val (.int (0 : Int32)), .val (.long lv1), .second, .unset] []))
  refine gs.aloadN X0.here hx (hb hby d22_0) rfl rfl ?_
  refine gs.getF X0 hx hZ hown (wd hw 125 rfl) Via.refl e0 HF_ad1_Domains_initial (hb hby d22_1) fun T1 X1 e1 => ?_
  refine gs.iloadN X1.here hx (hb hby d22_4) rfl ?_
  obtain ⟨cl2, Ar2, q2, Sz2, Ng2, Hs2, G2⟩ := id HV_ad6
  have hin2 : ¬ ((0 : Int32) < 0 ∨ cl2.slots.size ≤ ((0 : Int32)).toNatClampNeg) := inb_of Sz2 ⟨by decide, by decide⟩
  have hat2 : cl2.slots[((0 : Int32)).toNatClampNeg]? = some (.ref ad2) := Has.at Hs2 hin2 rfl
  refine Go.step (fun t_ k_ => X1.aaload hx (j := (0 : Int32)) (v := (.ref ad2)) (by rw [e1]; exact Ar2.1) (State.isArrayOf_alike hZ.alike Ar2.2.1) rfl Ar2.2.2 hin2 hat2 (g := (mkF m 5 #[.val (.ref ad1), .val (.int (0 : Int32)), .val (.long lv1), .second, .unset] [(.int (0 : Int32)), (.ref ad6)])) rfl rfl (hb hby d22_5) _ k_) ?_
  show Go p e below _ (T1.setTop (mkF m 6 #[.val (.ref ad1), .val (.int (0 : Int32)), .val (.long lv1), .second, .unset] [(.ref ad2)]))
  refine gs.lloadN X1.here hx (hb hby d22_6) rfl ?_
  obtain ⟨cq3, kq3, q3a, q3b, q3c⟩ := isOf hZ e1 HE_ad2
  obtain ⟨_, _, ⟨T3, L3, k3, n3⟩, -, X3, ⟨Lc3, hQ3, l3, y3, z3⟩, st3⟩ := X1.virtualBack hx (y := y_23) (z := y_23) hown (mvT hZ (wd hw 178 rfl)) (mvT hZ (wd hw 179 rfl)) (notFace_of_selects (args := #[]) (mvT hZ (wd hw 181 rfl))) (mvT hZ (wd hw 181 rfl)) (mvT hZ (wd hw 180 rfl)) (by decide) (backOf (W := 0) (am23_1 l Z a0 hw [] a_EMPTY_ELEMENTDATA aw0 ka_EMPTY_ELEMENTDATA kaw0 HW (ad2) (lv1) h0 n0 Ol HF_ad2_InitialDomain_lowest HF_ad2_InitialDomain_size HF_ad2_InitialDomain_values eq0) hZ (wd hw 182 rfl) (wd hw 2 rfl) (by decide) (by decide)) q3a q3c (g := (mkF m 7 #[.val (.ref ad1), .val (.int (0 : Int32)), .val (.long lv1), .second, .unset] [(.long lv1), (.ref ad2)])) rfl (by rw [hml]; rfl) (Steps.refl _) (argsL := [(.long lv1)]) (rest := []) (lenOf pd_15 rfl) rfl (by show 2 * 0 + _ ≤ _; exact Nat.le_of_eq rfl) (hb hby d22_7) (fun _ _ => ⟨rfl, e1, (by decide : 0 + 0 ≤ _), (by decide : 0 + 0 ≤ _)⟩)
  dsimp only [Pt.U, Pt.locs, Pt.cells, Pt.slots] at X3 l3 y3 z3 st3 hQ3
  subst l3 y3 z3
  obtain ⟨rfl, Nq3, e3⟩ := hQ3
  have N3 := Fr.app N0 Nq3
  refine Go.step (fun t_ k_ => st3.trans k_) ?_
  show Go p e below _ (T3.setTop (mkF m 10 #[.val (.ref ad1), .val (.int (0 : Int32)), .val (.long lv1), .second, .unset] [(.int (lv1.toInt32))]))
  refine gs.istore X3.here hx (hb hby d22_10) (l' := #[.val (.ref ad1), .val (.int (0 : Int32)), .val (.long lv1), .second, .val (.int (lv1.toInt32))]) rfl ?_
  refine gs.aloadN X3.here hx (hb hby d22_12) rfl rfl ?_
  refine gs.getF X3 hx hZ hown (wd hw 135 rfl) Via.refl e3 HF_ad1_Domains_sizes (hb hby d22_13) fun T4 X4 e4 => ?_
  refine gs.iloadN X4.here hx (hb hby d22_16) rfl ?_
  obtain ⟨cl5, Ar5, q5, Sz5, Ng5, Hs5, G5⟩ := id HV_ad10
  have hin5 : ¬ ((0 : Int32) < 0 ∨ cl5.slots.size ≤ ((0 : Int32)).toNatClampNeg) := inb_of Sz5 ⟨by decide, by decide⟩
  have hat5 : cl5.slots[((0 : Int32)).toNatClampNeg]? = some (.int (200 : Int32)) := Has.at Hs5 hin5 rfl
  refine Go.step (fun t_ k_ => X4.iaload hx (j := (0 : Int32)) (v := (.int (200 : Int32))) (by rw [e4]; exact Ar5.1) (State.isArrayOf_alike hZ.alike Ar5.2.1) Ar5.2.2 hin5 hat5 (g := (mkF m 17 #[.val (.ref ad1), .val (.int (0 : Int32)), .val (.long lv1), .second, .val (.int (lv1.toInt32))] [(.int (0 : Int32)), (.ref ad10)])) rfl rfl (hb hby d22_17) _ k_) ?_
  show Go p e below _ (T4.setTop (mkF m 18 #[.val (.ref ad1), .val (.int (0 : Int32)), .val (.long lv1), .second, .val (.int (lv1.toInt32))] [(.int (200 : Int32))]))
  have hc18 : (0 : Int32) < (200 : Int32) := by decide
  refine gs.ifNo X4.here hx (hb hby d22_18) ((if0 _ _).trans (tlt hc18).2.2.2) ?_
  refine gs.iload X4.here hx (hb hby d22_21) rfl ?_
  refine gs.aloadN X4.here hx (hb hby d22_23) rfl rfl ?_
  refine gs.getF X4 hx hZ hown (wd hw 127 rfl) Via.refl e4 HF_ad1_Domains_lower (hb hby d22_24) fun T6 X6 e6 => ?_
  refine gs.iloadN X6.here hx (hb hby d22_27) rfl ?_
  obtain ⟨cl7, Ar7, q7, Sz7, Ng7, Hs7, G7⟩ := id HV_ad7
  have hin7 : ¬ ((0 : Int32) < 0 ∨ cl7.slots.size ≤ ((0 : Int32)).toNatClampNeg) := inb_of Sz7 ⟨by decide, by decide⟩
  have hat7 : cl7.slots[((0 : Int32)).toNatClampNeg]? = some (.int (0 : Int32)) := Has.at Hs7 hin7 rfl
  refine Go.step (fun t_ k_ => X6.iaload hx (j := (0 : Int32)) (v := (.int (0 : Int32))) (by rw [e6]; exact Ar7.1) (State.isArrayOf_alike hZ.alike Ar7.2.1) Ar7.2.2 hin7 hat7 (g := (mkF m 28 #[.val (.ref ad1), .val (.int (0 : Int32)), .val (.long lv1), .second, .val (.int (lv1.toInt32))] [(.int (0 : Int32)), (.ref ad7), (.int (lv1.toInt32))])) rfl rfl (hb hby d22_28) _ k_) ?_
  show Go p e below _ (T6.setTop (mkF m 29 #[.val (.ref ad1), .val (.int (0 : Int32)), .val (.long lv1), .second, .val (.int (lv1.toInt32))] [(.int (0 : Int32)), (.int (lv1.toInt32))]))
  have hc29 : ¬ ((0 : Int32) < (lv1.toInt32)) := as0
  refine gs.icmpYes 39 X6.here hx (hb hby d22_29) (flt hc29).2.2.2 rfl ?_
  refine Go.retV X6 hx Bd.returns Bd.notSynchronized (hb hby d22_39) (by rw [e6]; exact ⟨rfl, N3, rfl⟩) (by decide) (by decide)
theorem pn_10 : plainName "com/example/monarc/monarc/DomainsContainsPinLaw" = true := by first | (simp [plainName, overriddenIn]; done) | decide +kernel
theorem ef_rm0 (m : MethodId) (x0 : Int32) (x1 : Int32) (x2 : Int32) (x3 : Int32) (x4 : Int32)  : entryFrame m #[(.int x0), (.int x1), (.int x2), (.int x3), (.int x4)] maxLocals = mkF m 0 #[.val (.int x0), .val (.int x1), .val (.int x2), .val (.int x3), .val (.int x4), .unset, .unset, .unset, .unset, .unset, .unset, .unset, .unset, .unset, .unset, .unset, .unset, .unset] [] := by first | (simp [entryFrame, mkF, argsToLocals, Value.category, maxLocals]; done) | rfl
def Q_rm0 (Z : State) (a_EMPTY_ELEMENTDATA : Addr) (aw0 : Addr) (ka_EMPTY_ELEMENTDATA : ClassId) (kaw0 : ClassId) (p1 p2 p3 p4 p5 : Int32) (h0 : Heap) (n0 : Nat) (v : Option Value) (h : Heap) (L : List Loc) : Prop := v = some (.int 1) ∧ Fr n0 L
set_option maxRecDepth 65536 in
set_option maxHeartbeats 40000000 in
theorem rm0 (l : Launch) (Z : State) (a0 : Array Value) (hw : ∀ d ∈ tables_1, d.before a0 Z = true) (ws : List Jvm.Cond) (a_EMPTY_ELEMENTDATA : Addr) (aw0 : Addr) (ka_EMPTY_ELEMENTDATA : ClassId) (kaw0 : ClassId) (HW : Wd Z a_EMPTY_ELEMENTDATA aw0 ka_EMPTY_ELEMENTDATA kaw0) (p1 p2 p3 p4 p5 : Int32) (h0 : Heap) (n0 : Nat) (Ol : Old Z n0 h0)  :
    MetFree l x (head1 (Jvm.Cond.code x code maxLocals ret :: ws) room_1) (fun a_ U_ => a_ = #[(.int p1), (.int p2), (.int p3), (.int p4), (.int p5)] ∧ Z.Warmed39 U_.vm ∧ U_.heap = h0) (fun _ _ _ _ _ => True) (fun _ U_ o_ V_ => ∃ v_ L_, o_ = .returned v_ ∧ Q_rm0 Z a_EMPTY_ELEMENTDATA aw0 ka_EMPTY_ELEMENTDATA kaw0 p1 p2 p3 p4 p5 h0 n0 v_ V_.heap L_ ∧ ReturnedEndW U_ o_ V_ L_ room_1.cells room_1.slots) := by
  refine MetFree.of_bodySF (plainFor_of_name pn_10) hisR ?_
  intro p e s m args below meth c s₁ Bd hml0 hP hK
  obtain ⟨rfl, hZ, hh⟩ := hP
  have hx := Bd.exec
  have hby := Bd.bytes
  have hml : c.maxLocals = 18 := hml0
  have hown : s.vm.findClass "com/example/monarc/monarc/DomainsContainsPinLaw" = some m.cls := findClass_of_methodNamed Bd.named
  have hnm := (name_of_methodNamed Bd.named Bd.method).1
  have X0 : Stand p l e room_1 s m #[(.int p1), (.int p2), (.int p3), (.int p4), (.int p5)] below meth c s₁ [] 0 0 := Stand.of_body Bd
  have e0 : s₁.heap = h0 := by rw [← hh, Bd.state]; rfl
  have N0 := Fr.nil n0
  have kp0 := Keep.refl h0 []
  show Go p e below (Fin2 s below (Q_rm0 Z a_EMPTY_ELEMENTDATA aw0 ka_EMPTY_ELEMENTDATA kaw0 p1 p2 p3 p4 p5 h0 n0) room_1.cells room_1.slots) _
  have S0 : s.Since s.vm 0 := (State.WarmedH.refl s).since 0
  have hk0 : 0 ≤ h0.size := Nat.zero_le _
  refine Go.step (fun t_ k_ => castTop (ef_rm0 m p1 p2 p3 p4 p5) k_) ?_
  obtain ⟨Ea_EMPTY_ELEMENTDATA, Sa_EMPTY_ELEMENTDATA, Eaw0, Saw0, Aa_EMPTY_ELEMENTDATA, Aaw0⟩ := id HW
  show Go p e below _ (s₁.setTop (mkF m 0 #[.val (.int p1), .val (.int p2), .val (.int p3), .val (.int p4), .val (.int p5), .unset, .unset, .unset, .unset, .unset, .unset, .unset, .unset, .unset, .unset, .unset, .unset, .unset] []))
  refine gs.iconst 0 X0.here hx (hb hby at_0) rfl ?_
  refine gs.sipush 199 X0.here hx (hb hby at_1) rfl ?_
  obtain ⟨_, _, ⟨T1, L1, k1, n1⟩, -, X1, ⟨Lc1, hQ1, l1, y1, z1⟩, st1⟩ := Jvm.LawKit.callS X0 hx (y := y_1) hown (mvT hZ (wd hw 0 rfl)) (mvT hZ (wd hw 1 rfl)) (mvT hZ (wd hw 2 rfl)) (mvT hZ (wd hw 3 rfl)) (by decide) (backOf (W := 0) (am1_1 l Z a0 hw [] a_EMPTY_ELEMENTDATA aw0 ka_EMPTY_ELEMENTDATA kaw0 HW  h0 n0 Ol ) hZ (wd hw 3 rfl) (wd hw 2 rfl) (by decide) (by decide)) (g := (mkF m 4 #[.val (.int p1), .val (.int p2), .val (.int p3), .val (.int p4), .val (.int p5), .unset, .unset, .unset, .unset, .unset, .unset, .unset, .unset, .unset, .unset, .unset, .unset, .unset] [(.int (199 : Int32)), (.int (0 : Int32))])) rfl (by rw [hml]; rfl) (argsL := [(.int (0 : Int32)), (.int (199 : Int32))]) (rest := []) (lenOf pd_1 rfl) rfl (by show 2 * 0 + _ ≤ _; exact Nat.le_of_eq rfl) (hb hby at_4) (fun _ _ => ⟨rfl, e0, (by decide : 0 + 1 ≤ _), (by decide : 0 + 3 ≤ _)⟩)
  dsimp only [Pt.U, Pt.locs, Pt.cells, Pt.slots] at X1 l1 y1 z1 st1 hQ1
  subst l1 y1 z1
  obtain ⟨b1_0, rfl, gb_b1_0, Nq1, K1, p1_0, p1_1, p1_2, p1_3⟩ := hQ1
  have nn_b1_0 : n0 ≤ b1_0 := Nat.le_trans (old_z0 Ol) gb_b1_0
  have sz_b1_0 : h0.size ≤ b1_0 := Nat.le_trans kp0.1 gb_b1_0
  have old1 := Ol.keep K1 all0
  have hk1 := Nat.le_trans hk0 K1.1
  have kp1 := kp0.trans K1 all0
  have N1 := Fr.app N0 Nq1
  refine Go.step st1 ?_
  show Go p e below _ (T1.setTop (mkF m 7 #[.val (.int p1), .val (.int p2), .val (.int p3), .val (.int p4), .val (.int p5), .unset, .unset, .unset, .unset, .unset, .unset, .unset, .unset, .unset, .unset, .unset, .unset, .unset] [(.ref b1_0)]))
  refine gs.astore X1.here hx (hb hby at_7) rfl (l' := #[.val (.int p1), .val (.int p2), .val (.int p3), .val (.int p4), .val (.int p5), .val (.ref b1_0), .unset, .unset, .unset, .unset, .unset, .unset, .unset, .unset, .unset, .unset, .unset, .unset]) rfl ?_
  refine gs.iconst 0 X1.here hx (hb hby at_9) rfl ?_
  refine gs.bipush 99 X1.here hx (hb hby at_10) rfl ?_
  obtain ⟨_, _, ⟨T2, L2, k2, n2⟩, -, X2, ⟨Lc2, hQ2, l2, y2, z2⟩, st2⟩ := Jvm.LawKit.callS X1 hx (y := y_1) hown (mvT hZ (wd hw 0 rfl)) (mvT hZ (wd hw 1 rfl)) (mvT hZ (wd hw 2 rfl)) (mvT hZ (wd hw 3 rfl)) (by decide) (backOf (W := 0) (am1_2 l Z a0 hw [] a_EMPTY_ELEMENTDATA aw0 ka_EMPTY_ELEMENTDATA kaw0 HW  T1.heap n0 old1 ) hZ (wd hw 3 rfl) (wd hw 2 rfl) (by decide) (by decide)) (g := (mkF m 12 #[.val (.int p1), .val (.int p2), .val (.int p3), .val (.int p4), .val (.int p5), .val (.ref b1_0), .unset, .unset, .unset, .unset, .unset, .unset, .unset, .unset, .unset, .unset, .unset, .unset] [(.int (99 : Int32)), (.int (0 : Int32))])) rfl (by rw [hml]; rfl) (argsL := [(.int (0 : Int32)), (.int (99 : Int32))]) (rest := []) (lenOf pd_1 rfl) rfl (by show 2 * 0 + _ ≤ _; exact Nat.le_of_eq rfl) (hb hby at_12) (fun _ _ => ⟨rfl, rfl, (by decide : 1 + 1 ≤ _), (by decide : 3 + 3 ≤ _)⟩)
  dsimp only [Pt.U, Pt.locs, Pt.cells, Pt.slots] at X2 l2 y2 z2 st2 hQ2
  subst l2 y2 z2
  obtain ⟨b2_0, rfl, gb_b2_0, Nq2, K2, p2_0, p2_1, p2_2, p2_3⟩ := hQ2
  have nn_b2_0 : n0 ≤ b2_0 := Nat.le_trans (old_z0 old1) gb_b2_0
  have sz_b2_0 : h0.size ≤ b2_0 := Nat.le_trans kp1.1 gb_b2_0
  have old2 := old1.keep K2 all0
  have hk2 := Nat.le_trans hk1 K2.1
  have kp2 := kp1.trans K2 all0
  have N2 := Fr.app N1 Nq2
  refine Go.step st2 ?_
  show Go p e below _ (T2.setTop (mkF m 15 #[.val (.int p1), .val (.int p2), .val (.int p3), .val (.int p4), .val (.int p5), .val (.ref b1_0), .unset, .unset, .unset, .unset, .unset, .unset, .unset, .unset, .unset, .unset, .unset, .unset] [(.ref b2_0)]))
  refine gs.astore X2.here hx (hb hby at_15) rfl (l' := #[.val (.int p1), .val (.int p2), .val (.int p3), .val (.int p4), .val (.int p5), .val (.ref b1_0), .val (.ref b2_0), .unset, .unset, .unset, .unset, .unset, .unset, .unset, .unset, .unset, .unset, .unset]) rfl ?_
  obtain ⟨T3, h3, X3, e3, E3, A3, D3, Y3, st3⟩ := newO X2 hx hZ hown (wd hw 19 rfl) (wd hw 20 rfl) (wd hw 21 rfl) rfl (g := (mkF m 17 #[.val (.int p1), .val (.int p2), .val (.int p3), .val (.int p4), .val (.int p5), .val (.ref b1_0), .val (.ref b2_0), .unset, .unset, .unset, .unset, .unset, .unset, .unset, .unset, .unset, .unset, .unset] [])) rfl (hb hby at_17) (by decide) (by decide)
  obtain ⟨b3, g3⟩ : ∃ z, z = T2.heap.size := ⟨_, rfl⟩
  rw [← g3] at A3 D3 Y3 st3
  have nn_b3 : n0 ≤ b3 := Nat.le_trans (old_z0 old2) (Nat.le_of_eq g3.symm)
  have sz_b3 : h0.size ≤ b3 := Nat.le_trans kp2.1 (Nat.le_of_eq g3.symm)
  have old3 := old2.ext E3
  have kp3 := kp2.ext E3
  have hk3 := Nat.le_trans hk2 E3.1
  have F3_modCount : Fld Z h3 b3 "java/util/AbstractList" "modCount" "I" (.int (0 : Int32)) := D3 (Or.inl (wd hw 39 rfl)) (ty := .int) (by decide)
  have F3_elementData : Fld Z h3 b3 "java/util/ArrayList" "elementData" "[Ljava/lang/Object;" .null := D3 (Or.inl (wd hw 42 rfl)) (ty := (.array (.object "java/lang/Object"))) (by decide)
  have F3_size : Fld Z h3 b3 "java/util/ArrayList" "size" "I" (.int (0 : Int32)) := D3 (Or.inl (wd hw 77 rfl)) (ty := .int) (by decide)
  refine Go.step st3 ?_
  show Go p e below _ (T3.setTop (mkF m 20 #[.val (.int p1), .val (.int p2), .val (.int p3), .val (.int p4), .val (.int p5), .val (.ref b1_0), .val (.ref b2_0), .unset, .unset, .unset, .unset, .unset, .unset, .unset, .unset, .unset, .unset, .unset] [(.ref b3)]))
  refine gs.dup X3.here hx (hb hby at_20) rfl ?_
  obtain ⟨_, _, ⟨T4, L4, k4, n4⟩, -, X4, ⟨Lc4, hQ4, l4, y4, z4⟩, st4⟩ := X3.specialBack hx (y := y_4) rfl hown (mvT hZ (wd hw 22 rfl)) (mvT hZ (wd hw 23 rfl)) (mvT hZ (wd hw 24 rfl)) (by decide) (backOf (W := 1) (am4_1 l Z a0 hw [] a_EMPTY_ELEMENTDATA aw0 ka_EMPTY_ELEMENTDATA kaw0 HW (b3) h3 n0 old3 A3 F3_modCount F3_elementData F3_size nn_b3) hZ (wd hw 24 rfl) (wd hw 21 rfl) (by decide) (by decide)) (g := (mkF m 21 #[.val (.int p1), .val (.int p2), .val (.int p3), .val (.int p4), .val (.int p5), .val (.ref b1_0), .val (.ref b2_0), .unset, .unset, .unset, .unset, .unset, .unset, .unset, .unset, .unset, .unset, .unset] [(.ref b3), (.ref b3)])) rfl (by rw [hml]; rfl) (Steps.refl _) (a := b3) (argsL := []) (rest := [(.ref b3)]) (lenOf pd_2 rfl) rfl (by show 2 * 0 + _ ≤ _; exact Nat.le_of_eq rfl) (hb hby at_21) (fun _ _ => ⟨rfl, e3, (by decide : 3 + 0 ≤ _), (by decide : 9 + 0 ≤ _)⟩)
  dsimp only [Pt.U, Pt.locs, Pt.cells, Pt.slots] at X4 l4 y4 z4 st4 hQ4
  subst l4 y4 z4
  obtain ⟨rfl, Nq4, K4, p4_0, p4_1, p4_2, p4_3⟩ := hQ4
  have old4 := old3.keep K4 (allS nn_b3 all0)
  have hk4 := Nat.le_trans hk3 K4.1
  have kp4 := kp3.trans K4 (allS (Or.inr sz_b3) all0)
  have N4 := Fr.app N2 Nq4
  refine Go.step (fun t_ k_ => st4.trans k_) ?_
  show Go p e below _ (T4.setTop (mkF m 24 #[.val (.int p1), .val (.int p2), .val (.int p3), .val (.int p4), .val (.int p5), .val (.ref b1_0), .val (.ref b2_0), .unset, .unset, .unset, .unset, .unset, .unset, .unset, .unset, .unset, .unset, .unset] [(.ref b3)]))
  refine gs.astore X4.here hx (hb hby at_24) rfl (l' := #[.val (.int p1), .val (.int p2), .val (.int p3), .val (.int p4), .val (.int p5), .val (.ref b1_0), .val (.ref b2_0), .val (.ref b3), .unset, .unset, .unset, .unset, .unset, .unset, .unset, .unset, .unset, .unset]) rfl ?_
  refine gs.aload X4.here hx (hb hby at_26) rfl rfl ?_
  obtain ⟨T5, h5, X5, e5, E5, A5, D5, Y5, st5⟩ := newO X4 hx hZ hown (wd hw 43 rfl) (wd hw 44 rfl) (wd hw 45 rfl) rfl (g := (mkF m 28 #[.val (.int p1), .val (.int p2), .val (.int p3), .val (.int p4), .val (.int p5), .val (.ref b1_0), .val (.ref b2_0), .val (.ref b3), .unset, .unset, .unset, .unset, .unset, .unset, .unset, .unset, .unset, .unset] [(.ref b3)])) rfl (hb hby at_28) (by decide) (by decide)
  obtain ⟨b5, g5⟩ : ∃ z, z = T4.heap.size := ⟨_, rfl⟩
  rw [← g5] at A5 D5 Y5 st5
  have nn_b5 : n0 ≤ b5 := Nat.le_trans (old_z0 old4) (Nat.le_of_eq g5.symm)
  have sz_b5 : h0.size ≤ b5 := Nat.le_trans kp4.1 (Nat.le_of_eq g5.symm)
  have old5 := old4.ext E5
  have kp5 := kp4.ext E5
  have hk5 := Nat.le_trans hk4 E5.1
  have F5_name : Fld Z h5 b5 "com/example/monarc/monarc/Variable" "name" "Ljava/lang/String;" .null := D5 (Or.inr (wd hw 64 rfl)) (ty := (.object "java/lang/String")) (by decide)
  have F5_index : Fld Z h5 b5 "com/example/monarc/monarc/Variable" "index" "I" (.int (0 : Int32)) := D5 (Or.inr (wd hw 66 rfl)) (ty := .int) (by decide)
  have F5_domain : Fld Z h5 b5 "com/example/monarc/monarc/Variable" "domain" "Lcom/example/monarc/monarc/InitialDomain;" .null := D5 (Or.inr (wd hw 68 rfl)) (ty := (.object "com/example/monarc/monarc/InitialDomain")) (by decide)
  refine Go.step st5 ?_
  show Go p e below _ (T5.setTop (mkF m 31 #[.val (.int p1), .val (.int p2), .val (.int p3), .val (.int p4), .val (.int p5), .val (.ref b1_0), .val (.ref b2_0), .val (.ref b3), .unset, .unset, .unset, .unset, .unset, .unset, .unset, .unset, .unset, .unset] [(.ref b5), (.ref b3)]))
  refine gs.dup X5.here hx (hb hby at_31) rfl ?_
  obtain ⟨sa6, T6, h6, k1_6, X6, e6, E6, S6, hkk6, hZ6, hown6, st6⟩ := ldcS (vm0 := s.vm) X5 hx hZ hown (wd hw 46 rfl) (wS_all hw) e5 S0 hk5 (g := (mkF m 32 #[.val (.int p1), .val (.int p2), .val (.int p3), .val (.int p4), .val (.int p5), .val (.ref b1_0), .val (.ref b2_0), .val (.ref b3), .unset, .unset, .unset, .unset, .unset, .unset, .unset, .unset, .unset, .unset] [(.ref b5), (.ref b5), (.ref b3)])) rfl (hb hby at_32) (n := 4) (by decide +kernel) (by decide) (by decide) (by decide)
  have old6 := old5.ext E6
  have kp6 := kp5.ext E6
  have hk6 := Nat.le_trans hk5 E6.1
  refine Go.step st6 ?_
  show Go p e below _ (T6.setTop (mkF m 34 #[.val (.int p1), .val (.int p2), .val (.int p3), .val (.int p4), .val (.int p5), .val (.ref b1_0), .val (.ref b2_0), .val (.ref b3), .unset, .unset, .unset, .unset, .unset, .unset, .unset, .unset, .unset, .unset] [(.ref sa6), (.ref b5), (.ref b5), (.ref b3)]))
  refine gs.iconst 0 X6.here hx (hb hby at_34) rfl ?_
  refine gs.aload X6.here hx (hb hby at_35) rfl rfl ?_
  have f7 := (A5.ext E6)
  have f8 := (F5_name.ext E6)
  have f9 := (F5_index.ext E6)
  have f10 := (F5_domain.ext E6)
  obtain ⟨_, _, ⟨T11, L11, k11, n11⟩, -, X11, ⟨Lc11, hQ11, l11, y11, z11⟩, st11⟩ := X6.specialBack hx (y := y_7) rfl hown6 (mvT hZ6 (wd hw 54 rfl)) (mvT hZ6 (wd hw 55 rfl)) (mvT hZ6 (wd hw 56 rfl)) (by decide) (backOf (W := 2) (am7_1 l Z a0 hw [] a_EMPTY_ELEMENTDATA aw0 ka_EMPTY_ELEMENTDATA kaw0 HW (b5) (sa6) (b1_0) h6 n0 old6 f7 f8 f9 f10 nn_b5) hZ6 (wd hw 56 rfl) (wd hw 45 rfl) (by decide) (by decide)) (g := (mkF m 37 #[.val (.int p1), .val (.int p2), .val (.int p3), .val (.int p4), .val (.int p5), .val (.ref b1_0), .val (.ref b2_0), .val (.ref b3), .unset, .unset, .unset, .unset, .unset, .unset, .unset, .unset, .unset, .unset] [(.ref b1_0), (.int (0 : Int32)), (.ref sa6), (.ref b5), (.ref b5), (.ref b3)])) rfl (by rw [hml]; rfl) (Steps.refl _) (a := b5) (argsL := [(.ref sa6), (.int (0 : Int32)), (.ref b1_0)]) (rest := [(.ref b5), (.ref b3)]) (lenOf pd_3 rfl) rfl (by show 2 * 0 + _ ≤ _; exact Nat.le_of_eq rfl) (hb hby at_37) (fun _ _ => ⟨rfl, e6, (by decide : 6 + 0 ≤ _), (by decide : 20 + 0 ≤ _)⟩)
  dsimp only [Pt.U, Pt.locs, Pt.cells, Pt.slots] at X11 l11 y11 z11 st11 hQ11
  subst l11 y11 z11
  obtain ⟨rfl, Nq11, K11, p11_0, p11_1, p11_2, p11_3⟩ := hQ11
  have old11 := old6.keep K11 (allS nn_b5 all0)
  have hk11 := Nat.le_trans hkk6 K11.1
  have kp11 := kp6.trans K11 (allS (Or.inr sz_b5) all0)
  have N11 := Fr.app N4 Nq11
  refine Go.step (fun t_ k_ => st11.trans k_) ?_
  show Go p e below _ (T11.setTop (mkF m 40 #[.val (.int p1), .val (.int p2), .val (.int p3), .val (.int p4), .val (.int p5), .val (.ref b1_0), .val (.ref b2_0), .val (.ref b3), .unset, .unset, .unset, .unset, .unset, .unset, .unset, .unset, .unset, .unset] [(.ref b5), (.ref b3)]))
  have f12 := (((p4_0.ext E5).ext E6).keep K11)
  have ne_b3_b5 : b3 ≠ b5 := Nat.ne_of_lt (Nat.lt_of_lt_of_le p4_0.lt (Nat.le_of_eq g5.symm))
  have f13 := (((p4_1.ext E5).ext E6).keep K11 (ninS ne_b3_b5 nin0))
  have f14 := (((p4_2.ext E5).ext E6).keep K11 (ninS ne_b3_b5 nin0))
  have f15 := (((p4_3.ext E5).ext E6).keep K11 (ninS ne_b3_b5 nin0))
  obtain ⟨cq16, kq16, q16a, q16b, q16c⟩ := isOf hZ6 rfl f12
  obtain ⟨_, _, ⟨T16, L16, k16, n16⟩, -, X16, ⟨Lc16, hQ16, l16, y16, z16⟩, st16⟩ := X11.virtualBack hx (y := y_9) (z := y_9) hown6 (mvT hZ6 (wd hw 69 rfl)) (mvT hZ6 (wd hw 70 rfl)) (notFace_of_selects (args := #[]) (mvT hZ6 (wd hw 72 rfl))) (mvT hZ6 (wd hw 72 rfl)) (mvT hZ6 (wd hw 71 rfl)) (by decide) (backOf (W := 0) (am9_1 l Z a0 hw [] a_EMPTY_ELEMENTDATA aw0 ka_EMPTY_ELEMENTDATA kaw0 HW (b3) (b5) T11.heap n0 old11 f12 f13 f14 f15 p11_0 nn_b3) hZ6 (wd hw 73 rfl) (wd hw 21 rfl) (by decide) (by decide)) q16a q16c (g := (mkF m 40 #[.val (.int p1), .val (.int p2), .val (.int p3), .val (.int p4), .val (.int p5), .val (.ref b1_0), .val (.ref b2_0), .val (.ref b3), .unset, .unset, .unset, .unset, .unset, .unset, .unset, .unset, .unset, .unset] [(.ref b5), (.ref b3)])) rfl (by rw [hml]; rfl) (Steps.refl _) (argsL := [(.ref b5)]) (rest := []) (lenOf pd_8 rfl) rfl (by show 2 * 0 + _ ≤ _; exact Nat.le_of_eq rfl) (hb hby at_40) (fun _ _ => ⟨rfl, rfl, (by decide : 6 + 1 ≤ _), (by decide : 20 + 10 ≤ _)⟩)
  dsimp only [Pt.U, Pt.locs, Pt.cells, Pt.slots] at X16 l16 y16 z16 st16 hQ16
  subst l16 y16 z16
  obtain ⟨b16_0, kx16_0, rfl, gb_b16_0, Nq16, K16, p16_0, p16_1, p16_2, p16_3, p16_4, ov16_0⟩ := hQ16
  have nn_b16_0 : n0 ≤ b16_0 := Nat.le_trans (old_z0 old11) gb_b16_0
  have sz_b16_0 : h0.size ≤ b16_0 := Nat.le_trans kp11.1 gb_b16_0
  have old16 := old11.keep K16 (allS nn_b3 all0)
  have hk16 := Nat.le_trans hk11 K16.1
  have kp16 := kp11.trans K16 (allS (Or.inr sz_b3) all0)
  have N16 := Fr.app N11 Nq16
  refine Go.step (fun t_ k_ => st16.trans k_) ?_
  show Go p e below _ (T16.setTop (mkF m 43 #[.val (.int p1), .val (.int p2), .val (.int p3), .val (.int p4), .val (.int p5), .val (.ref b1_0), .val (.ref b2_0), .val (.ref b3), .unset, .unset, .unset, .unset, .unset, .unset, .unset, .unset, .unset, .unset] [(.int (1 : Int32))]))
  refine gs.pop X16.here hx (hb hby at_43) rfl ?_
  refine gs.aload X16.here hx (hb hby at_44) rfl rfl ?_
  obtain ⟨T17, h17, X17, e17, E17, A17, D17, Y17, st17⟩ := newO X16 hx hZ6 hown6 (wd hw 43 rfl) (wd hw 44 rfl) (wd hw 45 rfl) rfl (g := (mkF m 46 #[.val (.int p1), .val (.int p2), .val (.int p3), .val (.int p4), .val (.int p5), .val (.ref b1_0), .val (.ref b2_0), .val (.ref b3), .unset, .unset, .unset, .unset, .unset, .unset, .unset, .unset, .unset, .unset] [(.ref b3)])) rfl (hb hby at_46) (by decide) (by decide)
  obtain ⟨b17, g17⟩ : ∃ z, z = T16.heap.size := ⟨_, rfl⟩
  rw [← g17] at A17 D17 Y17 st17
  have nn_b17 : n0 ≤ b17 := Nat.le_trans (old_z0 old16) (Nat.le_of_eq g17.symm)
  have sz_b17 : h0.size ≤ b17 := Nat.le_trans kp16.1 (Nat.le_of_eq g17.symm)
  have old17 := old16.ext E17
  have kp17 := kp16.ext E17
  have hk17 := Nat.le_trans hk16 E17.1
  have F17_name : Fld Z h17 b17 "com/example/monarc/monarc/Variable" "name" "Ljava/lang/String;" .null := D17 (Or.inr (wd hw 64 rfl)) (ty := (.object "java/lang/String")) (by decide)
  have F17_index : Fld Z h17 b17 "com/example/monarc/monarc/Variable" "index" "I" (.int (0 : Int32)) := D17 (Or.inr (wd hw 66 rfl)) (ty := .int) (by decide)
  have F17_domain : Fld Z h17 b17 "com/example/monarc/monarc/Variable" "domain" "Lcom/example/monarc/monarc/InitialDomain;" .null := D17 (Or.inr (wd hw 68 rfl)) (ty := (.object "com/example/monarc/monarc/InitialDomain")) (by decide)
  refine Go.step st17 ?_
  show Go p e below _ (T17.setTop (mkF m 49 #[.val (.int p1), .val (.int p2), .val (.int p3), .val (.int p4), .val (.int p5), .val (.ref b1_0), .val (.ref b2_0), .val (.ref b3), .unset, .unset, .unset, .unset, .unset, .unset, .unset, .unset, .unset, .unset] [(.ref b17), (.ref b3)]))
  refine gs.dup X17.here hx (hb hby at_49) rfl ?_
  obtain ⟨sa18, T18, h18, k1_18, X18, e18, E18, S18, hkk18, hZ18, hown18, st18⟩ := ldcS (vm0 := T6.vm) X17 hx hZ6 hown6 (wd hw 100 rfl) (wS_all hw) e17 S6 hk17 (g := (mkF m 50 #[.val (.int p1), .val (.int p2), .val (.int p3), .val (.int p4), .val (.int p5), .val (.ref b1_0), .val (.ref b2_0), .val (.ref b3), .unset, .unset, .unset, .unset, .unset, .unset, .unset, .unset, .unset, .unset] [(.ref b17), (.ref b17), (.ref b3)])) rfl (hb hby at_50) (n := 4) (by decide +kernel) (by decide) (by decide) (by decide)
  have old18 := old17.ext E18
  have kp18 := kp17.ext E18
  have hk18 := Nat.le_trans hk17 E18.1
  refine Go.step st18 ?_
  show Go p e below _ (T18.setTop (mkF m 52 #[.val (.int p1), .val (.int p2), .val (.int p3), .val (.int p4), .val (.int p5), .val (.ref b1_0), .val (.ref b2_0), .val (.ref b3), .unset, .unset, .unset, .unset, .unset, .unset, .unset, .unset, .unset, .unset] [(.ref sa18), (.ref b17), (.ref b17), (.ref b3)]))
  refine gs.iconst 1 X18.here hx (hb hby at_52) rfl ?_
  refine gs.aload X18.here hx (hb hby at_53) rfl rfl ?_
  have f19 := (A17.ext E18)
  have f20 := (F17_name.ext E18)
  have f21 := (F17_index.ext E18)
  have f22 := (F17_domain.ext E18)
  obtain ⟨_, _, ⟨T23, L23, k23, n23⟩, -, X23, ⟨Lc23, hQ23, l23, y23, z23⟩, st23⟩ := X18.specialBack hx (y := y_7) rfl hown18 (mvT hZ18 (wd hw 54 rfl)) (mvT hZ18 (wd hw 55 rfl)) (mvT hZ18 (wd hw 56 rfl)) (by decide) (backOf (W := 2) (am7_2 l Z a0 hw [] a_EMPTY_ELEMENTDATA aw0 ka_EMPTY_ELEMENTDATA kaw0 HW (b17) (sa18) (b2_0) h18 n0 old18 f19 f20 f21 f22 nn_b17) hZ18 (wd hw 56 rfl) (wd hw 45 rfl) (by decide) (by decide)) (g := (mkF m 55 #[.val (.int p1), .val (.int p2), .val (.int p3), .val (.int p4), .val (.int p5), .val (.ref b1_0), .val (.ref b2_0), .val (.ref b3), .unset, .unset, .unset, .unset, .unset, .unset, .unset, .unset, .unset, .unset] [(.ref b2_0), (.int (1 : Int32)), (.ref sa18), (.ref b17), (.ref b17), (.ref b3)])) rfl (by rw [hml]; rfl) (Steps.refl _) (a := b17) (argsL := [(.ref sa18), (.int (1 : Int32)), (.ref b2_0)]) (rest := [(.ref b17), (.ref b3)]) (lenOf pd_3 rfl) rfl (by show 2 * 0 + _ ≤ _; exact Nat.le_of_eq rfl) (hb hby at_55) (fun _ _ => ⟨rfl, e18, (by decide : 10 + 0 ≤ _), (by decide : 41 + 0 ≤ _)⟩)
  dsimp only [Pt.U, Pt.locs, Pt.cells, Pt.slots] at X23 l23 y23 z23 st23 hQ23
  subst l23 y23 z23
  obtain ⟨rfl, Nq23, K23, p23_0, p23_1, p23_2, p23_3⟩ := hQ23
  have old23 := old18.keep K23 (allS nn_b17 all0)
  have hk23 := Nat.le_trans hkk18 K23.1
  have kp23 := kp18.trans K23 (allS (Or.inr sz_b17) all0)
  have N23 := Fr.app N16 Nq23
  refine Go.step (fun t_ k_ => st23.trans k_) ?_
  show Go p e below _ (T23.setTop (mkF m 58 #[.val (.int p1), .val (.int p2), .val (.int p3), .val (.int p4), .val (.int p5), .val (.ref b1_0), .val (.ref b2_0), .val (.ref b3), .unset, .unset, .unset, .unset, .unset, .unset, .unset, .unset, .unset, .unset] [(.ref b17), (.ref b3)]))
  have f24 := (((p16_0.ext E17).ext E18).keep K23)
  have ne_b3_b17 : b3 ≠ b17 := Nat.ne_of_lt (Nat.lt_of_lt_of_le p16_0.lt (Nat.le_of_eq g17.symm))
  have f25 := (((p16_1.ext E17).ext E18).keep K23 (ninS ne_b3_b17 nin0))
  have f26 := (((p16_2.ext E17).ext E18).keep K23 (ninS ne_b3_b17 nin0))
  have f27 := (((p16_3.ext E17).ext E18).keep K23 (ninS ne_b3_b17 nin0))
  have ne_b16_0_b17 : b16_0 ≠ b17 := Nat.ne_of_lt (Nat.lt_of_lt_of_le p16_4.lt (Nat.le_of_eq g17.symm))
  have f28 := (((p16_4.ext E17).ext E18).keep K23 (ninS ne_b16_0_b17 nin0))
  have ne_b3_b16_0 : b3 ≠ b16_0 := Nat.ne_of_lt (Nat.lt_of_lt_of_le f12.lt gb_b16_0)
  obtain ⟨cq29, kq29, q29a, q29b, q29c⟩ := isOf hZ18 rfl f24
  obtain ⟨_, _, ⟨T29, L29, k29, n29⟩, -, X29, ⟨Lc29, hQ29, l29, y29, z29⟩, st29⟩ := X23.virtualBack hx (y := y_9) (z := y_9) hown18 (mvT hZ18 (wd hw 69 rfl)) (mvT hZ18 (wd hw 70 rfl)) (notFace_of_selects (args := #[]) (mvT hZ18 (wd hw 72 rfl))) (mvT hZ18 (wd hw 72 rfl)) (mvT hZ18 (wd hw 71 rfl)) (by decide) (backOf (W := 0) (am9_2 l Z a0 hw [] a_EMPTY_ELEMENTDATA aw0 ka_EMPTY_ELEMENTDATA kaw0 HW (b3) (b17) (b16_0) (b5) (kx16_0) T23.heap n0 old23 f24 f25 f26 f27 f28 p23_0 nn_b3 nn_b16_0 ne_b3_b16_0 ov16_0) hZ18 (wd hw 73 rfl) (wd hw 21 rfl) (by decide) (by decide)) q29a q29c (g := (mkF m 58 #[.val (.int p1), .val (.int p2), .val (.int p3), .val (.int p4), .val (.int p5), .val (.ref b1_0), .val (.ref b2_0), .val (.ref b3), .unset, .unset, .unset, .unset, .unset, .unset, .unset, .unset, .unset, .unset] [(.ref b17), (.ref b3)])) rfl (by rw [hml]; rfl) (Steps.refl _) (argsL := [(.ref b17)]) (rest := []) (lenOf pd_8 rfl) rfl (by show 2 * 0 + _ ≤ _; exact Nat.le_of_eq rfl) (hb hby at_58) (fun _ _ => ⟨rfl, rfl, (by decide : 10 + 0 ≤ _), (by decide : 41 + 0 ≤ _)⟩)
  dsimp only [Pt.U, Pt.locs, Pt.cells, Pt.slots] at X29 l29 y29 z29 st29 hQ29
  subst l29 y29 z29
  obtain ⟨rfl, Nq29, K29, p29_0, p29_1, p29_2, p29_3, p29_4⟩ := hQ29
  have old29 := old23.keep K29 (allS nn_b3 (allS nn_b16_0 all0))
  have hk29 := Nat.le_trans hk23 K29.1
  have kp29 := kp23.trans K29 (allS (Or.inr sz_b3) (allS (Or.inr sz_b16_0) all0))
  have N29 := Fr.app N23 Nq29
  refine Go.step (fun t_ k_ => st29.trans k_) ?_
  show Go p e below _ (T29.setTop (mkF m 61 #[.val (.int p1), .val (.int p2), .val (.int p3), .val (.int p4), .val (.int p5), .val (.ref b1_0), .val (.ref b2_0), .val (.ref b3), .unset, .unset, .unset, .unset, .unset, .unset, .unset, .unset, .unset, .unset] [(.int (1 : Int32))]))
  refine gs.pop X29.here hx (hb hby at_61) rfl ?_
  obtain ⟨T30, h30, X30, e30, E30, A30, D30, Y30, st30⟩ := newO X29 hx hZ18 hown18 (wd hw 101 rfl) (wd hw 102 rfl) (wd hw 103 rfl) rfl (g := (mkF m 62 #[.val (.int p1), .val (.int p2), .val (.int p3), .val (.int p4), .val (.int p5), .val (.ref b1_0), .val (.ref b2_0), .val (.ref b3), .unset, .unset, .unset, .unset, .unset, .unset, .unset, .unset, .unset, .unset] [])) rfl (hb hby at_62) (by decide) (by decide)
  obtain ⟨b30, g30⟩ : ∃ z, z = T29.heap.size := ⟨_, rfl⟩
  rw [← g30] at A30 D30 Y30 st30
  have nn_b30 : n0 ≤ b30 := Nat.le_trans (old_z0 old29) (Nat.le_of_eq g30.symm)
  have sz_b30 : h0.size ≤ b30 := Nat.le_trans kp29.1 (Nat.le_of_eq g30.symm)
  have old30 := old29.ext E30
  have kp30 := kp29.ext E30
  have hk30 := Nat.le_trans hk29 E30.1
  have F30_trail : Fld Z h30 b30 "com/example/monarc/monarc/Domains" "trail" "[J" .null := D30 (Or.inl (wd hw 110 rfl)) (ty := (.array .long)) (by decide)
  have F30_marks : Fld Z h30 b30 "com/example/monarc/monarc/Domains" "marks" "[I" .null := D30 (Or.inl (wd hw 113 rfl)) (ty := (.array .int)) (by decide)
  have F30_initial : Fld Z h30 b30 "com/example/monarc/monarc/Domains" "initial" "[Lcom/example/monarc/monarc/InitialDomain;" .null := D30 (Or.inr (wd hw 126 rfl)) (ty := (.array (.object "com/example/monarc/monarc/InitialDomain"))) (by decide)
  have F30_lower : Fld Z h30 b30 "com/example/monarc/monarc/Domains" "lower" "[I" .null := D30 (Or.inr (wd hw 128 rfl)) (ty := (.array .int)) (by decide)
  have F30_upper : Fld Z h30 b30 "com/example/monarc/monarc/Domains" "upper" "[I" .null := D30 (Or.inr (wd hw 130 rfl)) (ty := (.array .int)) (by decide)
  have F30_holes : Fld Z h30 b30 "com/example/monarc/monarc/Domains" "holes" "[[J" .null := D30 (Or.inr (wd hw 134 rfl)) (ty := (.array (.array .long))) (by decide)
  have F30_sizes : Fld Z h30 b30 "com/example/monarc/monarc/Domains" "sizes" "[I" .null := D30 (Or.inr (wd hw 136 rfl)) (ty := (.array .int)) (by decide)
  have F30_withOneValue : Fld Z h30 b30 "com/example/monarc/monarc/Domains" "withOneValue" "I" (.int (0 : Int32)) := D30 (Or.inl (wd hw 172 rfl)) (ty := .int) (by decide)
  have F30_trailSize : Fld Z h30 b30 "com/example/monarc/monarc/Domains" "trailSize" "I" (.int (0 : Int32)) := D30 (Or.inl (wd hw 225 rfl)) (ty := .int) (by decide)
  have F30_resized : Fld Z h30 b30 "com/example/monarc/monarc/Domains" "resized" "Ljava/util/function/IntConsumer;" .null := D30 (Or.inl (wd hw 227 rfl)) (ty := (.object "java/util/function/IntConsumer")) (by decide)
  refine Go.step st30 ?_
  show Go p e below _ (T30.setTop (mkF m 65 #[.val (.int p1), .val (.int p2), .val (.int p3), .val (.int p4), .val (.int p5), .val (.ref b1_0), .val (.ref b2_0), .val (.ref b3), .unset, .unset, .unset, .unset, .unset, .unset, .unset, .unset, .unset, .unset] [(.ref b30)]))
  refine gs.dup X30.here hx (hb hby at_65) rfl ?_
  refine gs.aload X30.here hx (hb hby at_66) rfl rfl ?_
  have f31 := ((((((((((((p1_0.keep K2).ext E3).keep K4).ext E5).ext E6).keep K11).keep K16).ext E17).ext E18).keep K23).keep K29).ext E30)
  have ne_b1_0_b3 : b1_0 ≠ b3 := Nat.ne_of_lt (Nat.lt_of_lt_of_le (p1_0.keep K2).lt (Nat.le_of_eq g3.symm))
  have ne_b1_0_b5 : b1_0 ≠ b5 := Nat.ne_of_lt (Nat.lt_of_lt_of_le (((p1_0.keep K2).ext E3).keep K4).lt (Nat.le_of_eq g5.symm))
  have ne_b1_0_b17 : b1_0 ≠ b17 := Nat.ne_of_lt (Nat.lt_of_lt_of_le (((((((p1_0.keep K2).ext E3).keep K4).ext E5).ext E6).keep K11).keep K16).lt (Nat.le_of_eq g17.symm))
  have ne_b1_0_b16_0 : b1_0 ≠ b16_0 := Nat.ne_of_lt (Nat.lt_of_lt_of_le ((((((p1_0.keep K2).ext E3).keep K4).ext E5).ext E6).keep K11).lt gb_b16_0)
  have f32 := ((((((((((((p1_2.keep K2 nin0).ext E3).keep K4 (ninS ne_b1_0_b3 nin0)).ext E5).ext E6).keep K11 (ninS ne_b1_0_b5 nin0)).keep K16 (ninS ne_b1_0_b3 nin0)).ext E17).ext E18).keep K23 (ninS ne_b1_0_b17 nin0)).keep K29 (ninS ne_b1_0_b3 (ninS ne_b1_0_b16_0 nin0))).ext E30)
  have f33 := (((((((((((p2_0.ext E3).keep K4).ext E5).ext E6).keep K11).keep K16).ext E17).ext E18).keep K23).keep K29).ext E30)
  have ne_b2_0_b3 : b2_0 ≠ b3 := Nat.ne_of_lt (Nat.lt_of_lt_of_le p2_0.lt (Nat.le_of_eq g3.symm))
  have ne_b2_0_b5 : b2_0 ≠ b5 := Nat.ne_of_lt (Nat.lt_of_lt_of_le ((p2_0.ext E3).keep K4).lt (Nat.le_of_eq g5.symm))
  have ne_b2_0_b17 : b2_0 ≠ b17 := Nat.ne_of_lt (Nat.lt_of_lt_of_le ((((((p2_0.ext E3).keep K4).ext E5).ext E6).keep K11).keep K16).lt (Nat.le_of_eq g17.symm))
  have ne_b2_0_b16_0 : b2_0 ≠ b16_0 := Nat.ne_of_lt (Nat.lt_of_lt_of_le (((((p2_0.ext E3).keep K4).ext E5).ext E6).keep K11).lt gb_b16_0)
  have f34 := (((((((((((p2_2.ext E3).keep K4 (ninS ne_b2_0_b3 nin0)).ext E5).ext E6).keep K11 (ninS ne_b2_0_b5 nin0)).keep K16 (ninS ne_b2_0_b3 nin0)).ext E17).ext E18).keep K23 (ninS ne_b2_0_b17 nin0)).keep K29 (ninS ne_b2_0_b3 (ninS ne_b2_0_b16_0 nin0))).ext E30)
  have f35 := (p29_0.ext E30)
  have f36 := (p29_2.ext E30)
  have f37 := (p29_3.ext E30)
  have f38 := ((((((p11_0.keep K16).ext E17).ext E18).keep K23).keep K29).ext E30)
  have ne_b5_b17 : b5 ≠ b17 := Nat.ne_of_lt (Nat.lt_of_lt_of_le (p11_0.keep K16).lt (Nat.le_of_eq g17.symm))
  have ne_b5_b16_0 : b5 ≠ b16_0 := Nat.ne_of_lt (Nat.lt_of_lt_of_le p11_0.lt gb_b16_0)
  have f39 := ((((((p11_1.keep K16 (ninS (Ne.symm ne_b3_b5) nin0)).ext E17).ext E18).keep K23 (ninS ne_b5_b17 nin0)).keep K29 (ninS (Ne.symm ne_b3_b5) (ninS ne_b5_b16_0 nin0))).ext E30)
  have f40 := (p29_4.ext E30)
  have f41 := ((p23_0.keep K29).ext E30)
  have f42 := ((p23_1.keep K29 (ninS (Ne.symm ne_b3_b17) (ninS (Ne.symm ne_b16_0_b17) nin0))).ext E30)
  have ne_b3_b30 : b3 ≠ b30 := Nat.ne_of_lt (Nat.lt_of_lt_of_le p29_0.lt (Nat.le_of_eq g30.symm))
  have ne_b1_0_b30 : b1_0 ≠ b30 := Nat.ne_of_lt (Nat.lt_of_lt_of_le (((((((((((p1_0.keep K2).ext E3).keep K4).ext E5).ext E6).keep K11).keep K16).ext E17).ext E18).keep K23).keep K29).lt (Nat.le_of_eq g30.symm))
  have ne_b2_0_b30 : b2_0 ≠ b30 := Nat.ne_of_lt (Nat.lt_of_lt_of_le ((((((((((p2_0.ext E3).keep K4).ext E5).ext E6).keep K11).keep K16).ext E17).ext E18).keep K23).keep K29).lt (Nat.le_of_eq g30.symm))
  have ne_b16_0_b30 : b16_0 ≠ b30 := Nat.ne_of_lt (Nat.lt_of_lt_of_le p29_4.lt (Nat.le_of_eq g30.symm))
  have ne_b5_b30 : b5 ≠ b30 := Nat.ne_of_lt (Nat.lt_of_lt_of_le (((((p11_0.keep K16).ext E17).ext E18).keep K23).keep K29).lt (Nat.le_of_eq g30.symm))
  have ne_b17_b30 : b17 ≠ b30 := Nat.ne_of_lt (Nat.lt_of_lt_of_le (p23_0.keep K29).lt (Nat.le_of_eq g30.symm))
  obtain ⟨_, _, ⟨T43, L43, k43, n43⟩, -, X43, ⟨Lc43, hQ43, l43, y43, z43⟩, st43⟩ := X30.specialBack hx (y := y_14) rfl hown18 (mvT hZ18 (wd hw 104 rfl)) (mvT hZ18 (wd hw 105 rfl)) (mvT hZ18 (wd hw 106 rfl)) (by decide) (backOf (W := 1) (am14_1 l Z a0 hw [] a_EMPTY_ELEMENTDATA aw0 ka_EMPTY_ELEMENTDATA kaw0 HW (b30) (b3) (b1_0) (b2_0) (b16_0) (b5) (kx16_0) (b17) h30 n0 old30 f31 f32 f33 f34 f35 f36 f37 f38 f39 f40 f41 f42 A30 F30_trail F30_marks F30_initial F30_lower F30_upper F30_holes F30_sizes F30_withOneValue F30_trailSize F30_resized nn_b30 (Ne.symm ne_b3_b30) (Ne.symm ne_b1_0_b30) (Ne.symm ne_b2_0_b30) (Ne.symm ne_b16_0_b30) (Ne.symm ne_b5_b30) (Ne.symm ne_b17_b30) ov16_0) hZ18 (wd hw 106 rfl) (wd hw 103 rfl) (by decide) (by decide)) (g := (mkF m 68 #[.val (.int p1), .val (.int p2), .val (.int p3), .val (.int p4), .val (.int p5), .val (.ref b1_0), .val (.ref b2_0), .val (.ref b3), .unset, .unset, .unset, .unset, .unset, .unset, .unset, .unset, .unset, .unset] [(.ref b3), (.ref b30), (.ref b30)])) rfl (by rw [hml]; rfl) (Steps.refl _) (a := b30) (argsL := [(.ref b3)]) (rest := [(.ref b30)]) (lenOf pd_13 rfl) rfl (by show 2 * 0 + _ ≤ _; exact Nat.le_of_eq rfl) (hb hby at_68) (fun _ _ => ⟨rfl, e30, (by decide : 11 + 7 ≤ _), (by decide : 53 + 1098 ≤ _)⟩)
  dsimp only [Pt.U, Pt.locs, Pt.cells, Pt.slots] at X43 l43 y43 z43 st43 hQ43
  subst l43 y43 z43
  obtain ⟨b43_0, b43_1, b43_2, b43_3, b43_4, b43_5, b43_6, kx43_0, kx43_1, kx43_2, kx43_3, kx43_4, kx43_5, kx43_6, rfl, gb_b43_0, gb_b43_1, gb_b43_2, gb_b43_3, gb_b43_4, gb_b43_5, gb_b43_6, ne_b43_0_b43_1, ne_b43_0_b43_2, ne_b43_0_b43_3, ne_b43_0_b43_4, ne_b43_0_b43_5, ne_b43_0_b43_6, ne_b43_1_b43_2, ne_b43_1_b43_3, ne_b43_1_b43_4, ne_b43_1_b43_5, ne_b43_1_b43_6, ne_b43_2_b43_3, ne_b43_2_b43_4, ne_b43_2_b43_5, ne_b43_2_b43_6, ne_b43_3_b43_4, ne_b43_3_b43_5, ne_b43_3_b43_6, ne_b43_4_b43_5, ne_b43_4_b43_6, ne_b43_5_b43_6, Nq43, K43, p43_0, p43_1, p43_2, p43_3, p43_4, p43_5, p43_6, p43_7, p43_8, p43_9, p43_10, p43_11, p43_12, p43_13, p43_14, p43_15, p43_16, p43_17, p43_18, p43_19, ov43_0, ov43_1⟩ := hQ43
  have nn_b43_0 : n0 ≤ b43_0 := Nat.le_trans (old_z0 old30) gb_b43_0
  have sz_b43_0 : h0.size ≤ b43_0 := Nat.le_trans kp30.1 gb_b43_0
  have nn_b43_1 : n0 ≤ b43_1 := Nat.le_trans (old_z0 old30) gb_b43_1
  have sz_b43_1 : h0.size ≤ b43_1 := Nat.le_trans kp30.1 gb_b43_1
  have nn_b43_2 : n0 ≤ b43_2 := Nat.le_trans (old_z0 old30) gb_b43_2
  have sz_b43_2 : h0.size ≤ b43_2 := Nat.le_trans kp30.1 gb_b43_2
  have nn_b43_3 : n0 ≤ b43_3 := Nat.le_trans (old_z0 old30) gb_b43_3
  have sz_b43_3 : h0.size ≤ b43_3 := Nat.le_trans kp30.1 gb_b43_3
  have nn_b43_4 : n0 ≤ b43_4 := Nat.le_trans (old_z0 old30) gb_b43_4
  have sz_b43_4 : h0.size ≤ b43_4 := Nat.le_trans kp30.1 gb_b43_4
  have nn_b43_5 : n0 ≤ b43_5 := Nat.le_trans (old_z0 old30) gb_b43_5
  have sz_b43_5 : h0.size ≤ b43_5 := Nat.le_trans kp30.1 gb_b43_5
  have nn_b43_6 : n0 ≤ b43_6 := Nat.le_trans (old_z0 old30) gb_b43_6
  have sz_b43_6 : h0.size ≤ b43_6 := Nat.le_trans kp30.1 gb_b43_6
  have old43 := old30.keep K43 (allS nn_b30 all0)
  have hk43 := Nat.le_trans hk30 K43.1
  have kp43 := kp30.trans K43 (allS (Or.inr sz_b30) all0)
  have N43 := Fr.app N29 Nq43
  refine Go.step (fun t_ k_ => st43.trans k_) ?_
  show Go p e below _ (T43.setTop (mkF m 71 #[.val (.int p1), .val (.int p2), .val (.int p3), .val (.int p4), .val (.int p5), .val (.ref b1_0), .val (.ref b2_0), .val (.ref b3), .unset, .unset, .unset, .unset, .unset, .unset, .unset, .unset, .unset, .unset] [(.ref b30)]))
  have g44_f : Arf Z T43.heap b43_5 kx43_5 (1024 : Int32) (fun _ => (0 : Int64)) := Arf.of_arv p43_18
  obtain ⟨f0, hd_f0⟩ : ∃ z, z = (fun _ => (0 : Int64)) := ⟨_, rfl⟩
  have v45_ : Arf Z T43.heap b43_5 kx43_5 (1024 : Int32) f0 := by rw [hd_f0]; exact g44_f
  obtain ⟨t0, hd_t0⟩ : ∃ z, z = (0 : Int32) := ⟨_, rfl⟩
  have v46_ : Fld Z T43.heap b30 "com/example/monarc/monarc/Domains" "trailSize" "I" (.int t0) := by rw [hd_t0]; exact p43_8
  obtain ⟨w0, hd_w0⟩ : ∃ z, z = (0 : Int32) := ⟨_, rfl⟩
  have v47_ : Fld Z T43.heap b30 "com/example/monarc/monarc/Domains" "withOneValue" "I" (.int w0) := by rw [hd_w0]; exact p43_10
  have hb_t0 : t0.toInt = 0 := by rw [hd_t0]; rfl
  have o1024 : (1024 : Int32).toInt = 1024 := rfl
  refine gs.astore X43.here hx (hb hby at_71) rfl (l' := #[.val (.int p1), .val (.int p2), .val (.int p3), .val (.int p4), .val (.int p5), .val (.ref b1_0), .val (.ref b2_0), .val (.ref b3), .val (.ref b30), .unset, .unset, .unset, .unset, .unset, .unset, .unset, .unset, .unset]) rfl ?_
  refine gs.iloadN X43.here hx (hb hby at_73) rfl ?_
  refine gs.bipush 63 X43.here hx (hb hby at_74) rfl ?_
  refine gs.iand X43.here hx (hb hby at_76) ?_
  refine gs.istore X43.here hx (hb hby at_77) (l' := #[.val (.int p1), .val (.int p2), .val (.int p3), .val (.int p4), .val (.int p5), .val (.ref b1_0), .val (.ref b2_0), .val (.ref b3), .val (.ref b30), .val (.int (p1 &&& (63 : Int32))), .unset, .unset, .unset, .unset, .unset, .unset, .unset, .unset]) rfl ?_
  generalize hk_lo : (p1 &&& (63 : Int32)) = lo
  show Go p e below _ (T43.setTop (mkF m 79 #[.val (.int p1), .val (.int p2), .val (.int p3), .val (.int p4), .val (.int p5), .val (.ref b1_0), .val (.ref b2_0), .val (.ref b3), .val (.ref b30), .val (.int lo), .unset, .unset, .unset, .unset, .unset, .unset, .unset, .unset] []))
  have hb_lo := a63 p1
  rw [hk_lo] at hb_lo
  refine gs.sipush 199 X43.here hx (hb hby at_79) rfl ?_
  refine gs.iloadN X43.here hx (hb hby at_82) rfl ?_
  refine gs.bipush 63 X43.here hx (hb hby at_83) rfl ?_
  show Go p e below _ (T43.setTop (mkF m 85 _ _))
  refine gs.iand X43.here hx (hb hby at_85) ?_
  refine gs.isub X43.here hx (hb hby at_86) ?_
  refine gs.istore X43.here hx (hb hby at_87) (l' := #[.val (.int p1), .val (.int p2), .val (.int p3), .val (.int p4), .val (.int p5), .val (.ref b1_0), .val (.ref b2_0), .val (.ref b3), .val (.ref b30), .val (.int lo), .val (.int ((199 : Int32) - (p2 &&& (63 : Int32)))), .unset, .unset, .unset, .unset, .unset, .unset, .unset]) rfl ?_
  generalize hk_up : ((199 : Int32) - (p2 &&& (63 : Int32))) = up
  show Go p e below _ (T43.setTop (mkF m 89 #[.val (.int p1), .val (.int p2), .val (.int p3), .val (.int p4), .val (.int p5), .val (.ref b1_0), .val (.ref b2_0), .val (.ref b3), .val (.ref b30), .val (.int lo), .val (.int up), .unset, .unset, .unset, .unset, .unset, .unset, .unset] []))
  have hb_up := up_bd p2
  rw [hk_up] at hb_up
  have o0 : (0 : Int32).toInt = 0 := rfl
  have o199 : (199 : Int32).toInt = 199 := rfl
  have o99 : (99 : Int32).toInt = 99 := rfl
  have el := e32 lo
  have eu := e32 up
  have elL : (lo.toInt64).toInt = lo.toInt := Jvm.Kit.i64_of_i32 lo
  have euL : (up.toInt64).toInt = up.toInt := Jvm.Kit.i64_of_i32 up
  refine gs.aload X43.here hx (hb hby at_89) rfl rfl ?_
  refine gs.iconst 0 X43.here hx (hb hby at_91) rfl ?_
  refine gs.iload X43.here hx (hb hby at_92) rfl ?_
  refine Go.step (fun t_ k_ => XS.i2l X43.here hx rfl (hb hby at_94) rfl k_) ?_
  show Go p e below _ (T43.setTop (mkF m 95 #[.val (.int p1), .val (.int p2), .val (.int p3), .val (.int p4), .val (.int p5), .val (.ref b1_0), .val (.ref b2_0), .val (.ref b3), .val (.ref b30), .val (.int lo), .val (.int up), .unset, .unset, .unset, .unset, .unset, .unset, .unset] [(.long (lo.toInt64)), (.int (0 : Int32)), (.ref b30)]))
  by_cases h_lo : (0 : Int32) < lo
  case pos =>
    have f48 := (f31.keep K43)
    have f49 := (((((((((((((p1_1.keep K2 nin0).ext E3).keep K4 (ninS ne_b1_0_b3 nin0)).ext E5).ext E6).keep K11 (ninS ne_b1_0_b5 nin0)).keep K16 (ninS ne_b1_0_b3 nin0)).ext E17).ext E18).keep K23 (ninS ne_b1_0_b17 nin0)).keep K29 (ninS ne_b1_0_b3 (ninS ne_b1_0_b16_0 nin0))).ext E30).keep K43 (ninS ne_b1_0_b30 nin0))
    have f50 := (f32.keep K43 (ninS ne_b1_0_b30 nin0))
    have f51 := (((((((((((((p1_3.keep K2 nin0).ext E3).keep K4 (ninS ne_b1_0_b3 nin0)).ext E5).ext E6).keep K11 (ninS ne_b1_0_b5 nin0)).keep K16 (ninS ne_b1_0_b3 nin0)).ext E17).ext E18).keep K23 (ninS ne_b1_0_b17 nin0)).keep K29 (ninS ne_b1_0_b3 (ninS ne_b1_0_b16_0 nin0))).ext E30).keep K43 (ninS ne_b1_0_b30 nin0))
    have ne_b30_b43_4 : b30 ≠ b43_4 := Nat.ne_of_lt (Nat.lt_of_lt_of_le A30.lt gb_b43_4)
    have ne_b30_b43_5 : b30 ≠ b43_5 := Nat.ne_of_lt (Nat.lt_of_lt_of_le A30.lt gb_b43_5)
    have ne_b30_b43_2 : b30 ≠ b43_2 := Nat.ne_of_lt (Nat.lt_of_lt_of_le A30.lt gb_b43_2)
    obtain ⟨cq52, kq52, q52a, q52b, q52c⟩ := isOf hZ18 rfl p43_0
    obtain ⟨_, _, ⟨T52, L52, k52, n52⟩, -, X52, ⟨Lc52, hQ52, l52, y52, z52⟩, st52⟩ := X43.virtualBack hx (y := y_22) (z := y_22) hown18 (mvT hZ18 (wd hw 173 rfl)) (mvT hZ18 (wd hw 174 rfl)) (notFace_of_selects (args := #[]) (mvT hZ18 (wd hw 176 rfl))) (mvT hZ18 (wd hw 176 rfl)) (mvT hZ18 (wd hw 175 rfl)) (by decide) (backOf (W := 0) (am22_1 l Z a0 hw [] a_EMPTY_ELEMENTDATA aw0 ka_EMPTY_ELEMENTDATA kaw0 HW (b30) ((lo.toInt64)) (b1_0) (b2_0) (b43_5) (b43_3) (b43_1) (b43_2) (b43_6) (b43_0) (b43_4) (w0) (t0) (kx43_0) (kx43_1) (kx43_2) (kx43_4) (kx43_6) (kx43_5) (f0) T43.heap n0 old43 f48 f49 f50 f51 p43_0 p43_7 p43_4 p43_2 p43_3 p43_9 p43_1 p43_6 v47_ v46_ p43_5 p43_12 p43_13 p43_14 p43_16 p43_17 p43_19 v45_ nn_b30 nn_b43_4 nn_b43_5 nn_b43_2 ne_b30_b43_4 ne_b30_b43_5 ne_b30_b43_2 ne_b43_4_b43_5 (Ne.symm ne_b43_2_b43_4) (Ne.symm ne_b43_2_b43_5) (by rw [el]; exact h_lo) (by rw [el]; exact i_nlt (by omega)) (by rw [o1024]; omega) (i_ne (by rw [o1024]; omega)) (fal_in (by omega) (by omega)) (mx_id (by rw [el]; exact hb_lo.1)) ov43_0 ov43_1) hZ18 (wd hw 177 rfl) (wd hw 103 rfl) (by decide) (by decide)) q52a q52c (g := (mkF m 95 #[.val (.int p1), .val (.int p2), .val (.int p3), .val (.int p4), .val (.int p5), .val (.ref b1_0), .val (.ref b2_0), .val (.ref b3), .val (.ref b30), .val (.int lo), .val (.int up), .unset, .unset, .unset, .unset, .unset, .unset, .unset] [(.long (lo.toInt64)), (.int (0 : Int32)), (.ref b30)])) rfl (by rw [hml]; rfl) (Steps.refl _) (argsL := [(.int (0 : Int32)), (.long (lo.toInt64))]) (rest := []) (lenOf pd_19 rfl) rfl (by show 2 * 0 + _ ≤ _; exact Nat.le_of_eq rfl) (hb hby at_95) (fun _ _ => ⟨rfl, rfl, (by decide : 18 + 0 ≤ _), (by decide : 1151 + 0 ≤ _)⟩)
    dsimp only [Pt.U, Pt.locs, Pt.cells, Pt.slots] at X52 l52 y52 z52 st52 hQ52
    subst l52 y52 z52
    obtain ⟨ex52_0, rfl, Nq52, K52, p52_0, p52_1, p52_2, p52_3, p52_4, p52_5, p52_6, p52_7, p52_8, p52_9, p52_10, p52_11, p52_12, p52_13, p52_14⟩ := hQ52
    have old52 := old43.keep K52 (allS nn_b30 (allS nn_b43_4 (allS nn_b43_5 (allS nn_b43_2 all0))))
    have hk52 := Nat.le_trans hk43 K52.1
    have kp52 := kp43.trans K52 (allS (Or.inr sz_b30) (allS (Or.inr sz_b43_4) (allS (Or.inr sz_b43_5) (allS (Or.inr sz_b43_2) all0))))
    have N52 := Fr.app N43 Nq52
    refine Go.step (fun t_ k_ => st52.trans k_) ?_
    show Go p e below _ (T52.setTop (mkF m 98 #[.val (.int p1), .val (.int p2), .val (.int p3), .val (.int p4), .val (.int p5), .val (.ref b1_0), .val (.ref b2_0), .val (.ref b3), .val (.ref b30), .val (.int lo), .val (.int up), .unset, .unset, .unset, .unset, .unset, .unset, .unset] []))
    rw [el] at p52_14
    rw [el] at p52_11
    obtain ⟨f1, hd_f1⟩ : ∃ z, z = (fun i => if i = (t0).toNatClampNeg then ((((0 : Int64) <<< ((32 : Int32) &&& 0x3f).toInt64) ||| ((1 : Int64) <<< ((30 : Int32) &&& 0x3f).toInt64)) ||| (0 : Int64)) else f0 i) := ⟨_, rfl⟩
    have v53_ : Arf Z T52.heap b43_5 kx43_5 (1024 : Int32) f1 := by rw [hd_f1]; exact p52_13
    obtain ⟨w1, hd_w1⟩ : ∃ z, z = ex52_0 := ⟨_, rfl⟩
    have v54_ : Fld Z T52.heap b30 "com/example/monarc/monarc/Domains" "withOneValue" "I" (.int w1) := by rw [hd_w1]; exact p52_10
    obtain ⟨t1, hd_t1⟩ : ∃ z, z = (t0 + (1 : Int32)) := ⟨_, rfl⟩
    have v55_ : Fld Z T52.heap b30 "com/example/monarc/monarc/Domains" "trailSize" "I" (.int t1) := by rw [hd_t1]; exact p52_8
    obtain ⟨s1, hd_s1⟩ : ∃ z, z = ((200 : Int32) - lo) := ⟨_, rfl⟩
    have v56_ : Arv Z T52.heap b43_4 kx43_4 .int (2 : Int32) [(.int s1), (.int (100 : Int32))] (.int (0 : Int32)) := by rw [hd_s1]; exact p52_11
    have hb_t1 : 0 ≤ t1.toInt ∧ t1.toInt ≤ 1 := by rw [hd_t1]; have o1 : (1 : Int32).toInt = 1 := rfl; rw [Jvm.Kit.i32_add (by omega) (by omega)]; omega
    have hb_s1 : 136 ≤ s1.toInt ∧ s1.toInt ≤ 200 := by rw [hd_s1]; have o2 : (200 : Int32).toInt = 200 := rfl; rw [Jvm.Kit.i32_sub (by omega) (by omega)]; omega
    have f57 := (f48.keep K52)
    have ne_b1_0_b43_2 : b1_0 ≠ b43_2 := Nat.ne_of_lt (Nat.lt_of_lt_of_le f31.lt gb_b43_2)
    have ne_b1_0_b43_5 : b1_0 ≠ b43_5 := Nat.ne_of_lt (Nat.lt_of_lt_of_le f31.lt gb_b43_5)
    have ne_b1_0_b43_4 : b1_0 ≠ b43_4 := Nat.ne_of_lt (Nat.lt_of_lt_of_le f31.lt gb_b43_4)
    have f58 := (f49.keep K52 (ninS ne_b1_0_b30 (ninS ne_b1_0_b43_4 (ninS ne_b1_0_b43_5 (ninS ne_b1_0_b43_2 nin0)))))
    have f59 := (f50.keep K52 (ninS ne_b1_0_b30 (ninS ne_b1_0_b43_4 (ninS ne_b1_0_b43_5 (ninS ne_b1_0_b43_2 nin0)))))
    have f60 := (f51.keep K52 (ninS ne_b1_0_b30 (ninS ne_b1_0_b43_4 (ninS ne_b1_0_b43_5 (ninS ne_b1_0_b43_2 nin0)))))
    have f61 := (p43_11.keep K52)
    have ne_b30_b43_0 : b30 ≠ b43_0 := Nat.ne_of_lt (Nat.lt_of_lt_of_le A30.lt gb_b43_0)
    have f62 := (p43_12.keep K52 (ninS (Ne.symm ne_b30_b43_0) (ninS ne_b43_0_b43_4 (ninS ne_b43_0_b43_5 (ninS ne_b43_0_b43_2 nin0)))))
    have ne_b30_b43_1 : b30 ≠ b43_1 := Nat.ne_of_lt (Nat.lt_of_lt_of_le A30.lt gb_b43_1)
    have f63 := (p43_13.keep K52 (ninS (Ne.symm ne_b30_b43_1) (ninS ne_b43_1_b43_4 (ninS ne_b43_1_b43_5 (ninS ne_b43_1_b43_2 nin0)))))
    have ne_b30_b43_6 : b30 ≠ b43_6 := Nat.ne_of_lt (Nat.lt_of_lt_of_le A30.lt gb_b43_6)
    have f64 := (p43_19.keep K52 (ninS (Ne.symm ne_b30_b43_6) (ninS (Ne.symm ne_b43_4_b43_6) (ninS (Ne.symm ne_b43_5_b43_6) (ninS (Ne.symm ne_b43_2_b43_6) nin0)))))
    have ne_b1_0_b43_6 : b1_0 ≠ b43_6 := Nat.ne_of_lt (Nat.lt_of_lt_of_le f31.lt gb_b43_6)
    exact sg2 hw a_EMPTY_ELEMENTDATA aw0 ka_EMPTY_ELEMENTDATA kaw0 HW hx hby hml Bd.returns Bd.notSynchronized (vm0 := T18.vm) X52 S18 hk52 hZ18 hown18 rfl N52 kp52 old52 (fun h_ L_ q_ => ⟨rfl, q_⟩) p1 p2 p3 p4 p5 b1_0 b2_0 b3 b30 lo up b1_0 b43_5 b43_3 b43_1 b43_2 b43_6 b43_0 b43_4 w1 t1 kx43_0 kx43_1 b2_0 kx43_2 kx43_4 s1 kx43_6 kx43_5 f1 f57 f58 f59 f60 p52_0 p52_7 p52_4 p52_2 p52_3 p52_9 p52_1 p52_6 v54_ v55_ p52_5 f61 f62 f63 p52_14 v56_ p52_12 f64 v53_ nn_b30 nn_b43_5 nn_b43_6 nn_b43_0 nn_b43_4 sz_b30 sz_b43_5 sz_b43_6 sz_b43_0 sz_b43_4 (Ne.symm ne_b1_0_b30) ne_b30_b43_5 ne_b30_b43_1 ne_b30_b43_2 ne_b30_b43_6 ne_b30_b43_0 ne_b30_b43_4 ne_b1_0_b43_5 ne_b1_0_b43_6 ne_b1_0_b43_4 (Ne.symm ne_b43_1_b43_5) (Ne.symm ne_b43_2_b43_5) ne_b43_5_b43_6 (Ne.symm ne_b43_0_b43_5) (Ne.symm ne_b43_4_b43_5) ne_b43_1_b43_6 ne_b43_1_b43_4 ne_b43_2_b43_6 (Ne.symm ne_b43_0_b43_2) ne_b43_2_b43_4 (Ne.symm ne_b43_0_b43_6) (Ne.symm ne_b43_4_b43_6) ne_b43_0_b43_4 hb_lo hb_up o0 o199 o99 o1024 eu euL hb_t1 hb_s1 ov43_0 ov43_1
  case neg =>
    have f65 := (f31.keep K43)
    have f66 := (((((((((((((p1_1.keep K2 nin0).ext E3).keep K4 (ninS ne_b1_0_b3 nin0)).ext E5).ext E6).keep K11 (ninS ne_b1_0_b5 nin0)).keep K16 (ninS ne_b1_0_b3 nin0)).ext E17).ext E18).keep K23 (ninS ne_b1_0_b17 nin0)).keep K29 (ninS ne_b1_0_b3 (ninS ne_b1_0_b16_0 nin0))).ext E30).keep K43 (ninS ne_b1_0_b30 nin0))
    have f67 := (f32.keep K43 (ninS ne_b1_0_b30 nin0))
    have f68 := (((((((((((((p1_3.keep K2 nin0).ext E3).keep K4 (ninS ne_b1_0_b3 nin0)).ext E5).ext E6).keep K11 (ninS ne_b1_0_b5 nin0)).keep K16 (ninS ne_b1_0_b3 nin0)).ext E17).ext E18).keep K23 (ninS ne_b1_0_b17 nin0)).keep K29 (ninS ne_b1_0_b3 (ninS ne_b1_0_b16_0 nin0))).ext E30).keep K43 (ninS ne_b1_0_b30 nin0))
    obtain ⟨cq69, kq69, q69a, q69b, q69c⟩ := isOf hZ18 rfl p43_0
    obtain ⟨_, _, ⟨T69, L69, k69, n69⟩, -, X69, ⟨Lc69, hQ69, l69, y69, z69⟩, st69⟩ := X43.virtualBack hx (y := y_22) (z := y_22) hown18 (mvT hZ18 (wd hw 173 rfl)) (mvT hZ18 (wd hw 174 rfl)) (notFace_of_selects (args := #[]) (mvT hZ18 (wd hw 176 rfl))) (mvT hZ18 (wd hw 176 rfl)) (mvT hZ18 (wd hw 175 rfl)) (by decide) (backOf (W := 0) (am22_2 l Z a0 hw [] a_EMPTY_ELEMENTDATA aw0 ka_EMPTY_ELEMENTDATA kaw0 HW (b30) ((lo.toInt64)) (b1_0) (b2_0) (b43_1) (b43_2) (b43_4) (kx43_1) (kx43_2) (kx43_4) T43.heap n0 old43 f65 f66 f67 f68 p43_2 p43_3 p43_6 p43_13 p43_14 p43_16 (by rw [el]; exact h_lo) (fal_in (by omega) (by omega)) ov43_1) hZ18 (wd hw 177 rfl) (wd hw 103 rfl) (by decide) (by decide)) q69a q69c (g := (mkF m 95 #[.val (.int p1), .val (.int p2), .val (.int p3), .val (.int p4), .val (.int p5), .val (.ref b1_0), .val (.ref b2_0), .val (.ref b3), .val (.ref b30), .val (.int lo), .val (.int up), .unset, .unset, .unset, .unset, .unset, .unset, .unset] [(.long (lo.toInt64)), (.int (0 : Int32)), (.ref b30)])) rfl (by rw [hml]; rfl) (Steps.refl _) (argsL := [(.int (0 : Int32)), (.long (lo.toInt64))]) (rest := []) (lenOf pd_19 rfl) rfl (by show 2 * 0 + _ ≤ _; exact Nat.le_of_eq rfl) (hb hby at_95) (fun _ _ => ⟨rfl, rfl, (by decide : 18 + 0 ≤ _), (by decide : 1151 + 0 ≤ _)⟩)
    dsimp only [Pt.U, Pt.locs, Pt.cells, Pt.slots] at X69 l69 y69 z69 st69 hQ69
    subst l69 y69 z69
    obtain ⟨rfl, Nq69, e69⟩ := hQ69
    have N69 := Fr.app N43 Nq69
    refine Go.step (fun t_ k_ => st69.trans k_) ?_
    show Go p e below _ (T69.setTop (mkF m 98 #[.val (.int p1), .val (.int p2), .val (.int p3), .val (.int p4), .val (.int p5), .val (.ref b1_0), .val (.ref b2_0), .val (.ref b3), .val (.ref b30), .val (.int lo), .val (.int up), .unset, .unset, .unset, .unset, .unset, .unset, .unset] []))
    have h_l0 : lo = (0 : Int32) := Int32.toInt_inj.mp (by have h_ := i_ge h_lo; omega)
    have v70_ : Arv Z T43.heap b43_2 kx43_2 .int (2 : Int32) [(.int lo), (.int (0 : Int32))] (.int (0 : Int32)) := by rw [h_l0]; exact p43_14
    obtain ⟨f1, hd_f1⟩ : ∃ z, z = f0 := ⟨_, rfl⟩
    have v71_ : Arf Z T43.heap b43_5 kx43_5 (1024 : Int32) f1 := by rw [hd_f1]; exact v45_
    obtain ⟨w1, hd_w1⟩ : ∃ z, z = w0 := ⟨_, rfl⟩
    have v72_ : Fld Z T43.heap b30 "com/example/monarc/monarc/Domains" "withOneValue" "I" (.int w1) := by rw [hd_w1]; exact v47_
    obtain ⟨t1, hd_t1⟩ : ∃ z, z = t0 := ⟨_, rfl⟩
    have v73_ : Fld Z T43.heap b30 "com/example/monarc/monarc/Domains" "trailSize" "I" (.int t1) := by rw [hd_t1]; exact v46_
    obtain ⟨s1, hd_s1⟩ : ∃ z, z = (200 : Int32) := ⟨_, rfl⟩
    have v74_ : Arv Z T43.heap b43_4 kx43_4 .int (2 : Int32) [(.int s1), (.int (100 : Int32))] (.int (0 : Int32)) := by rw [hd_s1]; exact p43_16
    have hb_t1 : 0 ≤ t1.toInt ∧ t1.toInt ≤ 1 := by rw [hd_t1]; omega
    have hb_s1 : 136 ≤ s1.toInt ∧ s1.toInt ≤ 200 := by rw [hd_s1]; decide
    have ne_b30_b43_5 : b30 ≠ b43_5 := Nat.ne_of_lt (Nat.lt_of_lt_of_le A30.lt gb_b43_5)
    have ne_b30_b43_1 : b30 ≠ b43_1 := Nat.ne_of_lt (Nat.lt_of_lt_of_le A30.lt gb_b43_1)
    have ne_b30_b43_2 : b30 ≠ b43_2 := Nat.ne_of_lt (Nat.lt_of_lt_of_le A30.lt gb_b43_2)
    have ne_b30_b43_6 : b30 ≠ b43_6 := Nat.ne_of_lt (Nat.lt_of_lt_of_le A30.lt gb_b43_6)
    have ne_b30_b43_0 : b30 ≠ b43_0 := Nat.ne_of_lt (Nat.lt_of_lt_of_le A30.lt gb_b43_0)
    have ne_b30_b43_4 : b30 ≠ b43_4 := Nat.ne_of_lt (Nat.lt_of_lt_of_le A30.lt gb_b43_4)
    have ne_b1_0_b43_5 : b1_0 ≠ b43_5 := Nat.ne_of_lt (Nat.lt_of_lt_of_le f31.lt gb_b43_5)
    have ne_b1_0_b43_6 : b1_0 ≠ b43_6 := Nat.ne_of_lt (Nat.lt_of_lt_of_le f31.lt gb_b43_6)
    have ne_b1_0_b43_4 : b1_0 ≠ b43_4 := Nat.ne_of_lt (Nat.lt_of_lt_of_le f31.lt gb_b43_4)
    exact sg2 hw a_EMPTY_ELEMENTDATA aw0 ka_EMPTY_ELEMENTDATA kaw0 HW hx hby hml Bd.returns Bd.notSynchronized (vm0 := T18.vm) X69 S18 hk43 hZ18 hown18 e69 N69 kp43 old43 (fun h_ L_ q_ => ⟨rfl, q_⟩) p1 p2 p3 p4 p5 b1_0 b2_0 b3 b30 lo up b1_0 b43_5 b43_3 b43_1 b43_2 b43_6 b43_0 b43_4 w1 t1 kx43_0 kx43_1 b2_0 kx43_2 kx43_4 s1 kx43_6 kx43_5 f1 f65 f66 f67 f68 p43_0 p43_7 p43_4 p43_2 p43_3 p43_9 p43_1 p43_6 v72_ v73_ p43_5 p43_11 p43_12 p43_13 v70_ v74_ p43_17 p43_19 v71_ nn_b30 nn_b43_5 nn_b43_6 nn_b43_0 nn_b43_4 sz_b30 sz_b43_5 sz_b43_6 sz_b43_0 sz_b43_4 (Ne.symm ne_b1_0_b30) ne_b30_b43_5 ne_b30_b43_1 ne_b30_b43_2 ne_b30_b43_6 ne_b30_b43_0 ne_b30_b43_4 ne_b1_0_b43_5 ne_b1_0_b43_6 ne_b1_0_b43_4 (Ne.symm ne_b43_1_b43_5) (Ne.symm ne_b43_2_b43_5) ne_b43_5_b43_6 (Ne.symm ne_b43_0_b43_5) (Ne.symm ne_b43_4_b43_5) ne_b43_1_b43_6 ne_b43_1_b43_4 ne_b43_2_b43_6 (Ne.symm ne_b43_0_b43_2) ne_b43_2_b43_4 (Ne.symm ne_b43_0_b43_6) (Ne.symm ne_b43_4_b43_6) ne_b43_0_b43_4 hb_lo hb_up o0 o199 o99 o1024 eu euL hb_t1 hb_s1 ov43_0 ov43_1
set_option maxRecDepth 65536 in
set_option maxHeartbeats 40000000 in
theorem comes_1 {Post : Tables → Env → Array Value → State → Outcome → State → Prop} (hpost : ∀ tb e args s v u, (limb_1_1.after args s (.returned v) u = true ∧ limb_1_2.after args s (.returned v) u = true ∧ True) → ReturnedEndW s (.returned v) u (Jvm.fieldLocs frame_1_writes args s ++ Jvm.arrayLocs frame_1_arrays args s ++ Jvm.staticLocs frame_1_statics s) 48 4416 → Post tb e args s (.returned v) u) :
    ArmFor flags0 classFile x code maxLocals ret World_1 tables_1 room_1 Calls_1 rest_1 Pre_1 Post := by
  intro l hfl _ _ p e ha hc hk s m args below hf hA hF happ hP
  obtain ⟨hcalls, hrest, hpre⟩ := hP
  obtain ⟨-, -, -, hnamed, -, -, -, hat⟩ := (Spec.applies_iff hf).mp happ
  obtain ⟨hg, hn⟩ := and_e (Cond.before_iff.mp (show (Jvm.Cond.and given_1 narrow_1).before args s = true from hpre))
  obtain ⟨hgl, hgr⟩ := and_e hg
  obtain ⟨hgrl, hgrr⟩ := and_e hgr
  obtain ⟨hgrrl, hgrrr⟩ := and_e hgrr
  obtain ⟨hgrrrl, hgrrrr⟩ := and_e hgrrr
  obtain ⟨hgrrrrl, hgrrrrr⟩ := and_e hgrrrr
  obtain ⟨w0, w1, w2, w3, w4, rfl⟩ : ∃ w0 w1 w2 w3 w4 : Value, args = #[w0, w1, w2, w3, w4] := by
    have hs : args.size = 5 := by simpa [Cond.value, given_1] using hgl
    obtain ⟨L⟩ := args
    match L, hs with
    | [w0, w1, w2, w3, w4], _ => exact ⟨w0, w1, w2, w3, w4, rfl⟩
  have hw := fun d (hd : d ∈ tables_1) => atoms_spec (ws := Jvm.Cond.code x code maxLocals ret :: tables_1) hat d (List.mem_cons_of_mem _ hd)
  have hfit : Fit s := fun {y c} hc i hi => by
    obtain ⟨ha, rfl⟩ := Array.getElem?_eq_some_iff.mp hc
    have q := List.all_eq_true.mp ((Array.all_eq_true_iff_forall_mem.mp hF) _ (Array.getElem_mem ha)) i (List.mem_range.mpr hi)
    simpa [Array.getElem?_eq_getElem hi] using q
  obtain ⟨hsets, hown0⟩ := atoms_of _ (rest_1_c_eq ▸ (show rest_1_c.before _ s = true from hrest))
  have hr0 := Cond.before_iff.mp hown0
  obtain ⟨i0, ei0⟩ := is_v hgrl
  obtain rfl : w0 = (.int i0) := Option.some.inj ei0
  obtain ⟨i1, ei1⟩ := is_v hgrrl
  obtain rfl : w1 = (.int i1) := Option.some.inj ei1
  obtain ⟨i2, ei2⟩ := is_v hgrrrl
  obtain rfl : w2 = (.int i2) := Option.some.inj ei2
  obtain ⟨i3, ei3⟩ := is_v hgrrrrl
  obtain rfl : w3 = (.int i3) := Option.some.inj ei3
  obtain ⟨i4, ei4⟩ := is_v hgrrrrr
  obtain rfl : w4 = (.int i4) := Option.some.inj ei4
  obtain ⟨a_EMPTY_ELEMENTDATA, eva_EMPTY_ELEMENTDATA⟩ := arr_v (Cond.before_iff.mp (hsets _ (List.mem_of_getElem? (i := 3) rfl)))
  obtain ⟨cla_EMPTY_ELEMENTDATA, Ara_EMPTY_ELEMENTDATA⟩ := Arr.start eva_EMPTY_ELEMENTDATA (Cond.before_iff.mp (hsets _ (List.mem_of_getElem? (i := 3) rfl)))
  obtain ⟨aw0, evaw0⟩ := arr_v (Cond.before_iff.mp (hsets _ (List.mem_of_getElem? (i := 6) rfl)))
  obtain ⟨claw0, Araw0⟩ := Arr.start evaw0 (Cond.before_iff.mp (hsets _ (List.mem_of_getElem? (i := 6) rfl)))
  obtain ⟨q1a_EMPTY_ELEMENTDATA, q2a_EMPTY_ELEMENTDATA⟩ := len_start Ara_EMPTY_ELEMENTDATA eva_EMPTY_ELEMENTDATA (eq_int (Cond.before_iff.mp (hsets _ (List.mem_of_getElem? (i := 5) rfl))))
  obtain ⟨ka_EMPTY_ELEMENTDATA, hka_EMPTY_ELEMENTDATA⟩ : ∃ z, z = cla_EMPTY_ELEMENTDATA.cls := ⟨_, rfl⟩
  obtain ⟨q1aw0, q2aw0⟩ := len_start Araw0 evaw0 (eq_int (Cond.before_iff.mp (hsets _ (List.mem_of_getElem? (i := 8) rfl))))
  obtain ⟨kaw0, hkaw0⟩ : ∃ z, z = claw0.cls := ⟨_, rfl⟩
  have HW : Wd s a_EMPTY_ELEMENTDATA aw0 ka_EMPTY_ELEMENTDATA kaw0 := ⟨Exa.start eva_EMPTY_ELEMENTDATA (Cond.before_iff.mp (hsets _ (List.mem_of_getElem? (i := 4) rfl))), Sta.start eva_EMPTY_ELEMENTDATA (Or.inl (hsets _ (List.mem_of_getElem? (i := 1) rfl))), Exa.start evaw0 (Cond.before_iff.mp (hsets _ (List.mem_of_getElem? (i := 7) rfl))), Sta.start evaw0 (Or.inr ⟨(wd hw 21 rfl), (hsets _ (List.mem_of_getElem? (i := 2) rfl))⟩), hka_EMPTY_ELEMENTDATA ▸ Arv.start hfit Ara_EMPTY_ELEMENTDATA q1a_EMPTY_ELEMENTDATA q2a_EMPTY_ELEMENTDATA (by decide) (by decide) trivial, hkaw0 ▸ Arv.start hfit Araw0 q1aw0 q2aw0 (by decide) (by decide) trivial⟩
  obtain ⟨n, o, h1, h2, h3, _, L, rfl, ⟨rfl, N⟩, hq⟩ := rm0 l s _ hw tables_1 a_EMPTY_ELEMENTDATA aw0 ka_EMPTY_ELEMENTDATA kaw0 HW i0 i1 i2 i3 i4 s.heap s.heap.size (Old.start s)  p e ha hc hk s m _ below hf ((Spec.applies_iff_loose hf).mp happ).1 ⟨rfl, State.Warmed39.refl s, rfl⟩ trivial
  refine ⟨n, _, h1, h2, h3, hpost _ _ _ _ _ _ ⟨Cond.after_iff.mpr rfl, Cond.after_iff.mpr (eq_i res_at (Term.int_eval (1)) rfl), trivial⟩ ⟨hq.1, hq.2.1, hq.2.2.1, (hq.2.2.2.sift fun y hy => Or.inr (N y hy)).mono (by decide) (by decide)⟩⟩
theorem main_1_1 : Claimed_1_1 := comes_1 fun _ _ _ _ _ _ h hF => ⟨h.1, hF⟩
theorem main_1_2 : Claimed_1_2 := comes_1 fun _ _ _ _ _ _ h hF => ⟨h.2.1, hF⟩
end Jvm.Pilot.@@N@@
namespace Jvm.Pilot.@@N@@
open Jvm Jvm.ClassFile Sem Op Lib Jvm.Free Jvm.Stand Jvm.Pilot.@@N@@.Jvm.D
/-! MADE BY PROGRAM (witnessworld.py) out of the Statement's table words and the real class files: 33 classes; the members and pool entries that the words name. The judged class is class 1, her method 1. -/
namespace start1
open Jvm.ClassFile
def u (s : String) : CpInfo := .utf8 (stringToUtf16 s)
/-- a pool by its gaps: so many unusable entries, then the entry; so many at the end -/
def gap : Nat → List CpInfo → List CpInfo
  | 0, r => r
  | n + 1, r => .unusable :: gap n r
def poolList (es : List (Nat × CpInfo)) (last : Nat) : List CpInfo := es.foldr (fun e r => gap e.1 (e.2 :: r)) (gap last [])
def pool (es : List (Nat × CpInfo)) (last : Nat) : Array CpInfo := ⟨poolList es last⟩
def fileOf (pool : Array CpInfo) (this : Nat) (attrs : Array Attribute := #[]) (ms : Array MethodInfo := #[]) (fl : Nat := 33) (sup : Nat := 0) (ifs : Array Nat := #[]) (fds : Array FieldInfo := #[]) : ClassFile where
  minorVersion := 0
  majorVersion := 65
  constantPool := pool
  accessFlags := fl
  thisClass := this
  superClass := sup
  interfaces := ifs
  fields := fds
  methods := ms
  attributes := attrs
def plain (name : String) (sup : Option ClassId) : Class where
  name := name
  kind := .ordinary
  loader := none
  accessFlags := 33
  super := sup
  interfaces := #[]
  cf := none
  fields := #[]
  methods := #[]
  instanceTypes := #[]
  staticTypes := #[]
  resolved := #[]
  callSites := []
  init := .initialized
  statics := none
  mirror := none

def pool0 : Array CpInfo := pool [(5, u "<init>"), (0, u "()V"), (1, .class_ 10), (1, u "java/lang/Object")] 113

def k0c0 : Code := { maxStack := 0, maxLocals := 1, code := object_method_1_code, exceptionTable := #[], attributes := #[] }
def k0m0 : Method := { name := "<init>", desc := "()V", sig := { parameters := [], returnType := none }, accessFlags := 1, code := some k0c0 }
/-- java/lang/Object -/
def k0 : Class := { plain "java/lang/Object" none with
  accessFlags := 33
  interfaces := #[]
  cf := some (fileOf pool0 8 #[] #[{ accessFlags := 1, nameIndex := 5, descriptorIndex := 6, attributes := #[] }] 33 0 #[] #[])
  fields := #[]
  methods := #[k0m0]
  instanceTypes := #[]
  staticTypes := #[]
  resolved := Array.replicate 124 none
  statics := none }

def pool1 : Array CpInfo := pool [(2, .class_ 4), (0, .nameAndType 5 6), (0, u "java/lang/Object"), (0, u "<init>"), (0, u "()V"), (0, .methodref 8 9), (0, .class_ 10), (0, .nameAndType 11 12), (0, u "com/example/monarc/monarc/InitialDomain"), (0, u "range"), (0, u "(II)Lcom/example/monarc/monarc/InitialDomain;"), (0, .class_ 14), (0, u "java/util/ArrayList"), (0, .methodref 13 3), (0, .class_ 17), (0, u "com/example/monarc/monarc/Variable"), (0, .string 19), (0, u "x"), (0, .methodref 16 21), (0, .nameAndType 5 22), (0, u "(Ljava/lang/String;ILcom/example/monarc/monarc/InitialDomain;)V"), (0, .methodref 13 24), (0, .nameAndType 25 26), (0, u "add"), (0, u "(Ljava/lang/Object;)Z"), (0, .string 28), (0, u "y"), (0, .class_ 30), (0, u "com/example/monarc/monarc/Domains"), (0, .methodref 29 32), (0, .nameAndType 5 33), (0, u "(Ljava/util/List;)V"), (0, .methodref 29 35), (0, .nameAndType 36 37), (0, u "removeBelow"), (0, u "(IJ)V"), (0, .methodref 29 39), (0, .nameAndType 40 37), (0, u "removeAbove"), (0, .integer 2147483647), (0, .methodref 29 43), (0, .nameAndType 44 45), (0, u "remove"), (0, u "(II)V"), (0, .methodref 29 47), (0, .nameAndType 48 49), (0, u "contains"), (0, u "(II)Z"), (0, .class_ 51), (0, u "com/example/monarc/monarc/DomainsContainsPinLaw"), (2, u "law"), (0, u "(IIIII)Z")] 3

def k1m0 : Method := { name := "<init>", desc := "()V", sig := { parameters := [], returnType := none }, accessFlags := 1, code := none }
def k1c1 : Code := { maxStack := 6, maxLocals := 18, code := code, exceptionTable := #[], attributes := #[] }
def k1m1 : Method := { name := "law", desc := "(IIIII)Z", sig := { parameters := [.int, .int, .int, .int, .int], returnType := some .boolean }, accessFlags := 9, code := some k1c1 }
/-- com/example/monarc/monarc/DomainsContainsPinLaw -/
def k1 : Class := { plain "com/example/monarc/monarc/DomainsContainsPinLaw" (some 0) with
  accessFlags := 49
  interfaces := #[]
  cf := some (fileOf pool1 50 #[] #[{ accessFlags := 1, nameIndex := 5, descriptorIndex := 6, attributes := #[] }, { accessFlags := 9, nameIndex := 54, descriptorIndex := 55, attributes := #[] }] 49 2 #[] #[])
  fields := #[]
  methods := #[k1m0, k1m1]
  instanceTypes := #[]
  staticTypes := #[]
  resolved := Array.replicate 59 none
  statics := none }

def pool2 : Array CpInfo := pool [(1, .methodref 2 3), (0, .class_ 4), (0, .nameAndType 5 6), (0, u "java/lang/Object"), (0, u "<init>"), (0, u "()V"), (0, .class_ 8), (0, u "com/example/monarc/monarc/InitialDomain"), (0, .long 1073741823), (10, .fieldref 7 21), (0, .nameAndType 22 23), (0, u "lowest"), (0, u "I"), (0, .fieldref 7 25), (0, .nameAndType 26 23), (0, u "size"), (0, .fieldref 7 28), (0, .nameAndType 29 30), (0, u "values"), (0, u "[I"), (3, .methodref 7 35), (0, .nameAndType 5 36), (0, u "(IJ[I)V"), (25, u "range"), (0, u "(II)Lcom/example/monarc/monarc/InitialDomain;"), (8, .long 18446744071562067968), (1, .long 2147483648), (1, .methodref 77 78), (0, .class_ 79), (0, .nameAndType 80 81), (0, u "java/lang/Math"), (0, u "min"), (0, u "(JJ)J"), (0, .methodref 77 83), (0, .nameAndType 84 81), (0, u "max"), (0, .long 2147483647), (1, .methodref 7 88), (0, .nameAndType 89 90), (0, u "firstAtLeast"), (0, u "(J)I"), (33, u "MOST_VALUES"), (6, u "()I"), (1, u "lastAtMost")] 33

def k2c0 : Code := { maxStack := 4, maxLocals := 5, code := prog_20_method_1_code, exceptionTable := #[], attributes := #[] }
def k2m0 : Method := { name := "<init>", desc := "(IJ[I)V", sig := { parameters := [.int, .long, (.array .int)], returnType := none }, accessFlags := 2, code := some k2c0 }
def k2c1 : Code := { maxStack := 7, maxLocals := 2, code := prog_20_method_2_code, exceptionTable := #[], attributes := #[] }
def k2m1 : Method := { name := "range", desc := "(II)Lcom/example/monarc/monarc/InitialDomain;", sig := { parameters := [.int, .int], returnType := some (.object "com/example/monarc/monarc/InitialDomain") }, accessFlags := 9, code := some k2c1 }
def k2c2 : Code := { maxStack := 1, maxLocals := 1, code := prog_20_method_5_code, exceptionTable := #[], attributes := #[] }
def k2m2 : Method := { name := "size", desc := "()I", sig := { parameters := [], returnType := some .int }, accessFlags := 0, code := some k2c2 }
def k2c3 : Code := { maxStack := 8, maxLocals := 6, code := prog_20_method_8_code, exceptionTable := #[], attributes := #[] }
def k2m3 : Method := { name := "firstAtLeast", desc := "(J)I", sig := { parameters := [.long], returnType := some .int }, accessFlags := 0, code := some k2c3 }
def k2c4 : Code := { maxStack := 5, maxLocals := 3, code := prog_20_method_9_code, exceptionTable := #[], attributes := #[] }
def k2m4 : Method := { name := "lastAtMost", desc := "(J)I", sig := { parameters := [.long], returnType := some .int }, accessFlags := 0, code := some k2c4 }
/-- com/example/monarc/monarc/InitialDomain -/
def k2 : Class := { plain "com/example/monarc/monarc/InitialDomain" (some 0) with
  accessFlags := 49
  interfaces := #[]
  cf := some (fileOf pool2 7 #[] #[{ accessFlags := 2, nameIndex := 5, descriptorIndex := 36, attributes := #[] }, { accessFlags := 9, nameIndex := 62, descriptorIndex := 63, attributes := #[] }, { accessFlags := 0, nameIndex := 26, descriptorIndex := 131, attributes := #[] }, { accessFlags := 0, nameIndex := 89, descriptorIndex := 90, attributes := #[] }, { accessFlags := 0, nameIndex := 133, descriptorIndex := 90, attributes := #[] }] 49 2 #[] #[{ accessFlags := 25, nameIndex := 124, descriptorIndex := 23, attributes := #[] }, { accessFlags := 18, nameIndex := 22, descriptorIndex := 23, attributes := #[] }, { accessFlags := 18, nameIndex := 26, descriptorIndex := 23, attributes := #[] }, { accessFlags := 18, nameIndex := 29, descriptorIndex := 30, attributes := #[] }])
  fields := #[{ name := "MOST_VALUES", type := .int, accessFlags := 25, slot := 0, constantValue := 0 }, { name := "lowest", type := .int, accessFlags := 18, slot := 0, constantValue := 0 }, { name := "size", type := .int, accessFlags := 18, slot := 1, constantValue := 0 }, { name := "values", type := (.array .int), accessFlags := 18, slot := 2, constantValue := 0 }]
  methods := #[k2m0, k2m1, k2m2, k2m3, k2m4]
  instanceTypes := #[.int, .int, (.array .int)]
  staticTypes := #[.int]
  resolved := Array.replicate 167 none
  statics := none }

def pool3 : Array CpInfo := pool [(8, .class_ 10), (1, u "java/lang/Iterable"), (24, .class_ 36), (0, u "java/lang/Object")] 25

/-- java/lang/Iterable -/
def k3 : Class := { plain "java/lang/Iterable" (some 0) with
  accessFlags := 1537
  interfaces := #[]
  cf := some (fileOf pool3 8 #[] #[] 1537 35 #[] #[])
  fields := #[]
  methods := #[]
  instanceTypes := #[]
  staticTypes := #[]
  resolved := Array.replicate 62 none
  statics := none }

def pool4 : Array CpInfo := pool [(10, .class_ 12), (1, u "java/util/Collection"), (47, .class_ 61), (0, u "java/lang/Object"), (0, .class_ 63), (0, u "java/lang/Iterable")] 51

/-- java/util/Collection -/
def k4 : Class := { plain "java/util/Collection" (some 0) with
  accessFlags := 1537
  interfaces := #[3]
  cf := some (fileOf pool4 10 #[] #[] 1537 60 #[62] #[])
  fields := #[]
  methods := #[]
  instanceTypes := #[]
  staticTypes := #[]
  resolved := Array.replicate 115 none
  statics := none }

def pool5 : Array CpInfo := pool [(1, .methodref 2 3), (0, .class_ 4), (0, .nameAndType 5 6), (0, u "java/lang/Object"), (0, u "<init>"), (0, u "()V"), (1, .class_ 10), (1, u "java/util/AbstractCollection"), (66, .class_ 78), (0, u "java/util/Collection")] 81

def k5c0 : Code := { maxStack := 1, maxLocals := 1, code := jdk_22_method_1_code, exceptionTable := #[], attributes := #[] }
def k5m0 : Method := { name := "<init>", desc := "()V", sig := { parameters := [], returnType := none }, accessFlags := 4, code := some k5c0 }
/-- java/util/AbstractCollection -/
def k5 : Class := { plain "java/util/AbstractCollection" (some 0) with
  accessFlags := 1057
  interfaces := #[4]
  cf := some (fileOf pool5 8 #[] #[{ accessFlags := 4, nameIndex := 5, descriptorIndex := 6, attributes := #[] }] 1057 2 #[77] #[])
  fields := #[]
  methods := #[k5m0]
  instanceTypes := #[]
  staticTypes := #[]
  resolved := Array.replicate 160 none
  statics := none }

def pool6 : Array CpInfo := pool [(8, .class_ 10), (1, u "java/util/SequencedCollection"), (15, .class_ 27), (0, u "java/lang/Object"), (0, .class_ 29), (0, u "java/util/Collection")] 27

/-- java/util/SequencedCollection -/
def k6 : Class := { plain "java/util/SequencedCollection" (some 0) with
  accessFlags := 1537
  interfaces := #[4]
  cf := some (fileOf pool6 8 #[] #[] 1537 26 #[28] #[])
  fields := #[]
  methods := #[]
  instanceTypes := #[]
  staticTypes := #[]
  resolved := Array.replicate 57 none
  statics := none }

def pool7 : Array CpInfo := pool [(8, .class_ 10), (1, u "java/util/List"), (64, u "get"), (0, u "(I)Ljava/lang/Object;"), (2, u "size"), (0, u "()I"), (22, .class_ 104), (0, u "java/lang/Object"), (15, .class_ 121), (0, u "java/util/SequencedCollection")] 129

def k7m0 : Method := { name := "size", desc := "()I", sig := { parameters := [], returnType := some .int }, accessFlags := 1025, code := none }
def k7m1 : Method := { name := "get", desc := "(I)Ljava/lang/Object;", sig := { parameters := [.int], returnType := some (.object "java/lang/Object") }, accessFlags := 1025, code := none }
/-- java/util/List -/
def k7 : Class := { plain "java/util/List" (some 0) with
  accessFlags := 1537
  interfaces := #[6]
  cf := some (fileOf pool7 8 #[] #[{ accessFlags := 1025, nameIndex := 79, descriptorIndex := 80, attributes := #[] }, { accessFlags := 1025, nameIndex := 75, descriptorIndex := 76, attributes := #[] }] 1537 103 #[120] #[])
  fields := #[]
  methods := #[k7m0, k7m1]
  instanceTypes := #[]
  staticTypes := #[]
  resolved := Array.replicate 251 none
  statics := none }

def pool8 : Array CpInfo := pool [(1, .methodref 2 3), (0, .class_ 4), (0, .nameAndType 5 6), (0, u "java/util/AbstractCollection"), (0, u "<init>"), (0, u "()V"), (0, .fieldref 8 9), (0, .class_ 10), (0, .nameAndType 11 12), (0, u "java/util/AbstractList"), (0, u "modCount"), (0, u "I"), (64, .class_ 78), (0, u "java/util/AbstractList$Itr"), (3, .class_ 83), (0, u "java/util/AbstractList$ListItr"), (9, .class_ 94), (0, u "java/util/AbstractList$RandomAccessSubList"), (3, .class_ 99), (0, u "java/util/AbstractList$SubList"), (33, .class_ 134), (0, u "java/util/List"), (73, .class_ 209), (0, u "java/util/AbstractList$SubList$1"), (0, .class_ 211), (0, u "java/util/AbstractList$RandomAccessSpliterator")] 6

def k8c0 : Code := { maxStack := 2, maxLocals := 1, code := jdk_39_method_1_code, exceptionTable := #[], attributes := #[] }
def k8m0 : Method := { name := "<init>", desc := "()V", sig := { parameters := [], returnType := none }, accessFlags := 4, code := some k8c0 }
/-- java/util/AbstractList -/
def k8 : Class := { plain "java/util/AbstractList" (some 5) with
  accessFlags := 1057
  interfaces := #[7]
  cf := some (fileOf pool8 8 #[.nestMembers #[93, 98, 208, 210, 82, 77]] #[{ accessFlags := 4, nameIndex := 5, descriptorIndex := 6, attributes := #[] }] 1057 2 #[133] #[{ accessFlags := 132, nameIndex := 11, descriptorIndex := 12, attributes := #[] }])
  fields := #[{ name := "modCount", type := .int, accessFlags := 132, slot := 0, constantValue := 0 }]
  methods := #[k8m0]
  instanceTypes := #[.int]
  staticTypes := #[]
  resolved := Array.replicate 218 none
  statics := none }

def pool9 : Array CpInfo := pool [(1, .class_ 2), (0, u "java/util/RandomAccess"), (0, .class_ 4), (0, u "java/lang/Object")] 2

/-- java/util/RandomAccess -/
def k9 : Class := { plain "java/util/RandomAccess" (some 0) with
  accessFlags := 1537
  interfaces := #[]
  cf := some (fileOf pool9 1 #[] #[] 1537 3 #[] #[])
  fields := #[]
  methods := #[]
  instanceTypes := #[]
  staticTypes := #[]
  resolved := Array.replicate 7 none
  statics := none }

def pool10 : Array CpInfo := pool [(1, .class_ 2), (0, u "java/lang/Cloneable"), (0, .class_ 4), (0, u "java/lang/Object")] 2

/-- java/lang/Cloneable -/
def k10 : Class := { plain "java/lang/Cloneable" (some 0) with
  accessFlags := 1537
  interfaces := #[]
  cf := some (fileOf pool10 1 #[] #[] 1537 3 #[] #[])
  fields := #[]
  methods := #[]
  instanceTypes := #[]
  staticTypes := #[]
  resolved := Array.replicate 7 none
  statics := none }

def pool11 : Array CpInfo := pool [(1, .class_ 2), (0, u "java/io/Serializable"), (0, .class_ 4), (0, u "java/lang/Object")] 2

/-- java/io/Serializable -/
def k11 : Class := { plain "java/io/Serializable" (some 0) with
  accessFlags := 1537
  interfaces := #[]
  cf := some (fileOf pool11 1 #[] #[] 1537 3 #[] #[])
  fields := #[]
  methods := #[]
  instanceTypes := #[]
  staticTypes := #[]
  resolved := Array.replicate 7 none
  statics := none }

def pool12 : Array CpInfo := pool [(1, .methodref 2 3), (0, .class_ 4), (0, .nameAndType 5 6), (0, u "java/util/AbstractList"), (0, u "<init>"), (0, u "()V"), (0, .class_ 8), (0, u "java/lang/Object"), (0, .fieldref 10 11), (0, .class_ 12), (0, .nameAndType 13 14), (0, u "java/util/ArrayList"), (0, u "elementData"), (0, u "[Ljava/lang/Object;"), (2, u "EMPTY_ELEMENTDATA"), (21, .fieldref 10 40), (0, .nameAndType 41 14), (0, u "DEFAULTCAPACITY_EMPTY_ELEMENTDATA"), (5, u "()[Ljava/lang/Object;"), (0, .fieldref 10 49), (0, .nameAndType 50 51), (0, u "size"), (0, u "I"), (11, .fieldref 10 64), (0, .nameAndType 65 51), (0, u "modCount"), (3, .methodref 10 70), (0, .nameAndType 71 72), (0, u "grow"), (0, u "(I)[Ljava/lang/Object;"), (6, .methodref 80 81), (0, .class_ 82), (0, .nameAndType 83 84), (0, u "java/lang/Math"), (0, u "max"), (0, u "(II)I"), (11, u "(Ljava/lang/Object;)Z"), (21, .methodref 119 120), (0, .class_ 121), (0, .nameAndType 122 84), (0, u "java/util/Objects"), (0, u "checkIndex"), (0, .methodref 10 124), (0, .nameAndType 13 125), (0, u "(I)Ljava/lang/Object;"), (3, .methodref 10 130), (0, .nameAndType 71 47), (0, .methodref 10 132), (0, .nameAndType 133 134), (0, u "add"), (0, u "(Ljava/lang/Object;[Ljava/lang/Object;I)V"), (13, .class_ 149), (0, u "java/util/List"), (36, u "()I"), (75, .class_ 263), (0, u "java/util/ArrayList$ListItr"), (3, .class_ 268), (0, u "java/util/ArrayList$Itr"), (7, .class_ 277), (0, u "java/util/ArrayList$SubList"), (12, .class_ 291), (0, u "java/util/ArrayList$ArrayListSpliterator"), (37, .class_ 330), (0, u "java/util/RandomAccess"), (0, .class_ 332), (0, u "java/lang/Cloneable"), (0, .class_ 334), (0, u "java/io/Serializable"), (0, u "serialVersionUID"), (0, u "J"), (3, u "DEFAULT_CAPACITY"), (40, u "get"), (118, .class_ 501), (0, u "java/util/ArrayList$SubList$2"), (0, .class_ 503), (0, u "java/util/ArrayList$SubList$1")] 5

def k12c0 : Code := { maxStack := 2, maxLocals := 1, code := jdk_38_method_2_code, exceptionTable := #[], attributes := #[] }
def k12m0 : Method := { name := "<init>", desc := "()V", sig := { parameters := [], returnType := none }, accessFlags := 1, code := some k12c0 }
def k12c1 : Code := { maxStack := 4, maxLocals := 4, code := jdk_38_method_6_code, exceptionTable := #[], attributes := #[] }
def k12m1 : Method := { name := "grow", desc := "(I)[Ljava/lang/Object;", sig := { parameters := [.int], returnType := some (.array (.object "java/lang/Object")) }, accessFlags := 2, code := some k12c1 }
def k12c2 : Code := { maxStack := 3, maxLocals := 1, code := jdk_38_method_7_code, exceptionTable := #[], attributes := #[] }
def k12m2 : Method := { name := "grow", desc := "()[Ljava/lang/Object;", sig := { parameters := [], returnType := some (.array (.object "java/lang/Object")) }, accessFlags := 2, code := some k12c2 }
def k12c3 : Code := { maxStack := 1, maxLocals := 1, code := jdk_38_method_8_code, exceptionTable := #[], attributes := #[] }
def k12m3 : Method := { name := "size", desc := "()I", sig := { parameters := [], returnType := some .int }, accessFlags := 1, code := some k12c3 }
def k12c4 : Code := { maxStack := 2, maxLocals := 2, code := jdk_38_method_18_code, exceptionTable := #[], attributes := #[] }
def k12m4 : Method := { name := "elementData", desc := "(I)Ljava/lang/Object;", sig := { parameters := [.int], returnType := some (.object "java/lang/Object") }, accessFlags := 0, code := some k12c4 }
def k12c5 : Code := { maxStack := 2, maxLocals := 2, code := jdk_38_method_20_code, exceptionTable := #[], attributes := #[] }
def k12m5 : Method := { name := "get", desc := "(I)Ljava/lang/Object;", sig := { parameters := [.int], returnType := some (.object "java/lang/Object") }, accessFlags := 1, code := some k12c5 }
def k12c6 : Code := { maxStack := 3, maxLocals := 4, code := jdk_38_method_24_code, exceptionTable := #[], attributes := #[] }
def k12m6 : Method := { name := "add", desc := "(Ljava/lang/Object;[Ljava/lang/Object;I)V", sig := { parameters := [(.object "java/lang/Object"), (.array (.object "java/lang/Object")), .int], returnType := none }, accessFlags := 2, code := some k12c6 }
def k12c7 : Code := { maxStack := 4, maxLocals := 2, code := jdk_38_method_25_code, exceptionTable := #[], attributes := #[] }
def k12m7 : Method := { name := "add", desc := "(Ljava/lang/Object;)Z", sig := { parameters := [(.object "java/lang/Object")], returnType := some .boolean }, accessFlags := 1, code := some k12c7 }
/-- java/util/ArrayList -/
def k12 : Class := { plain "java/util/ArrayList" (some 8) with
  accessFlags := 33
  interfaces := #[7, 9, 10, 11]
  cf := some (fileOf pool12 10 #[.nestMembers #[290, 276, 500, 502, 262, 267]] #[{ accessFlags := 1, nameIndex := 5, descriptorIndex := 6, attributes := #[] }, { accessFlags := 2, nameIndex := 71, descriptorIndex := 72, attributes := #[] }, { accessFlags := 2, nameIndex := 71, descriptorIndex := 47, attributes := #[] }, { accessFlags := 1, nameIndex := 50, descriptorIndex := 186, attributes := #[] }, { accessFlags := 0, nameIndex := 13, descriptorIndex := 125, attributes := #[] }, { accessFlags := 1, nameIndex := 381, descriptorIndex := 125, attributes := #[] }, { accessFlags := 2, nameIndex := 133, descriptorIndex := 134, attributes := #[] }, { accessFlags := 1, nameIndex := 133, descriptorIndex := 96, attributes := #[] }] 33 2 #[148, 329, 331, 333] #[{ accessFlags := 26, nameIndex := 335, descriptorIndex := 336, attributes := #[] }, { accessFlags := 26, nameIndex := 340, descriptorIndex := 51, attributes := #[] }, { accessFlags := 26, nameIndex := 17, descriptorIndex := 14, attributes := #[] }, { accessFlags := 26, nameIndex := 41, descriptorIndex := 14, attributes := #[] }, { accessFlags := 128, nameIndex := 13, descriptorIndex := 14, attributes := #[] }, { accessFlags := 2, nameIndex := 50, descriptorIndex := 51, attributes := #[] }])
  fields := #[{ name := "serialVersionUID", type := .long, accessFlags := 26, slot := 0, constantValue := 0 }, { name := "DEFAULT_CAPACITY", type := .int, accessFlags := 26, slot := 1, constantValue := 0 }, { name := "EMPTY_ELEMENTDATA", type := (.array (.object "java/lang/Object")), accessFlags := 26, slot := 2, constantValue := 0 }, { name := "DEFAULTCAPACITY_EMPTY_ELEMENTDATA", type := (.array (.object "java/lang/Object")), accessFlags := 26, slot := 3, constantValue := 0 }, { name := "elementData", type := (.array (.object "java/lang/Object")), accessFlags := 128, slot := 1, constantValue := 0 }, { name := "size", type := .int, accessFlags := 2, slot := 2, constantValue := 0 }]
  methods := #[k12m0, k12m1, k12m2, k12m3, k12m4, k12m5, k12m6, k12m7]
  instanceTypes := #[.int, (.array (.object "java/lang/Object")), .int]
  staticTypes := #[.long, .int, (.array (.object "java/lang/Object")), (.array (.object "java/lang/Object"))]
  resolved := Array.replicate 509 none
  statics := some 0 }

def pool13 : Array CpInfo := pool [(1, .methodref 2 3), (0, .class_ 4), (0, .nameAndType 5 6), (0, u "java/lang/Object"), (0, u "<init>"), (0, u "()V"), (0, .class_ 8), (0, u "com/example/monarc/monarc/Term$Constant"), (10, .class_ 21), (1, u "com/example/monarc/monarc/Term"), (74, .class_ 97), (0, u "com/example/monarc/monarc/Term$Call")] 61

def k13c0 : Code := { maxStack := 1, maxLocals := 1, code := prog_70_method_1_code, exceptionTable := #[], attributes := #[] }
def k13m0 : Method := { name := "<init>", desc := "()V", sig := { parameters := [], returnType := none }, accessFlags := 0, code := some k13c0 }
/-- com/example/monarc/monarc/Term -/
def k13 : Class := { plain "com/example/monarc/monarc/Term" (some 0) with
  accessFlags := 1057
  interfaces := #[]
  cf := some (fileOf pool13 19 #[.nestMembers #[96, 7]] #[{ accessFlags := 0, nameIndex := 5, descriptorIndex := 6, attributes := #[] }] 1057 2 #[] #[])
  fields := #[]
  methods := #[k13m0]
  instanceTypes := #[]
  staticTypes := #[]
  resolved := Array.replicate 159 none
  statics := none }

def pool14 : Array CpInfo := pool [(1, .methodref 2 3), (0, .class_ 4), (0, .nameAndType 5 6), (0, u "com/example/monarc/monarc/Term"), (0, u "<init>"), (0, u "()V"), (0, .fieldref 8 9), (0, .class_ 10), (0, .nameAndType 11 12), (0, u "com/example/monarc/monarc/Variable"), (0, u "name"), (0, u "Ljava/lang/String;"), (0, .fieldref 8 14), (0, .nameAndType 15 16), (0, u "index"), (0, u "I"), (0, .fieldref 8 18), (0, .nameAndType 19 20), (0, u "domain"), (0, u "Lcom/example/monarc/monarc/InitialDomain;"), (28, u "(Ljava/lang/String;ILcom/example/monarc/monarc/InitialDomain;)V"), (3, u "()Lcom/example/monarc/monarc/InitialDomain;")] 34

def k14c0 : Code := { maxStack := 2, maxLocals := 4, code := prog_76_method_1_code, exceptionTable := #[], attributes := #[] }
def k14m0 : Method := { name := "<init>", desc := "(Ljava/lang/String;ILcom/example/monarc/monarc/InitialDomain;)V", sig := { parameters := [(.object "java/lang/String"), .int, (.object "com/example/monarc/monarc/InitialDomain")], returnType := none }, accessFlags := 0, code := some k14c0 }
def k14c1 : Code := { maxStack := 1, maxLocals := 1, code := prog_76_method_4_code, exceptionTable := #[], attributes := #[] }
def k14m1 : Method := { name := "domain", desc := "()Lcom/example/monarc/monarc/InitialDomain;", sig := { parameters := [], returnType := some (.object "com/example/monarc/monarc/InitialDomain") }, accessFlags := 0, code := some k14c1 }
/-- com/example/monarc/monarc/Variable -/
def k14 : Class := { plain "com/example/monarc/monarc/Variable" (some 13) with
  accessFlags := 49
  interfaces := #[]
  cf := some (fileOf pool14 8 #[] #[{ accessFlags := 0, nameIndex := 5, descriptorIndex := 49, attributes := #[] }, { accessFlags := 0, nameIndex := 19, descriptorIndex := 53, attributes := #[] }] 49 2 #[] #[{ accessFlags := 18, nameIndex := 11, descriptorIndex := 12, attributes := #[] }, { accessFlags := 18, nameIndex := 15, descriptorIndex := 16, attributes := #[] }, { accessFlags := 18, nameIndex := 19, descriptorIndex := 20, attributes := #[] }])
  fields := #[{ name := "name", type := (.object "java/lang/String"), accessFlags := 18, slot := 0, constantValue := 0 }, { name := "index", type := .int, accessFlags := 18, slot := 1, constantValue := 0 }, { name := "domain", type := (.object "com/example/monarc/monarc/InitialDomain"), accessFlags := 18, slot := 2, constantValue := 0 }]
  methods := #[k14m0, k14m1]
  instanceTypes := #[(.object "java/lang/String"), .int, (.object "com/example/monarc/monarc/InitialDomain")]
  staticTypes := #[]
  resolved := Array.replicate 88 none
  statics := none }

def pool15 : Array CpInfo := pool [(1, .class_ 2), (0, u "java/lang/Comparable"), (0, .class_ 4), (0, u "java/lang/Object")] 7

/-- java/lang/Comparable -/
def k15 : Class := { plain "java/lang/Comparable" (some 0) with
  accessFlags := 1537
  interfaces := #[]
  cf := some (fileOf pool15 1 #[] #[] 1537 3 #[] #[])
  fields := #[]
  methods := #[]
  instanceTypes := #[]
  staticTypes := #[]
  resolved := Array.replicate 12 none
  statics := none }

def pool16 : Array CpInfo := pool [(2, .class_ 4), (1, u "java/lang/CharSequence"), (42, .class_ 48), (0, u "java/lang/CharSequence$1CodePointIterator"), (10, .class_ 60), (0, u "java/lang/CharSequence$1CharIterator"), (5, .class_ 67), (0, u "java/lang/Object")] 63

/-- java/lang/CharSequence -/
def k16 : Class := { plain "java/lang/CharSequence" (some 0) with
  accessFlags := 1537
  interfaces := #[]
  cf := some (fileOf pool16 2 #[.nestMembers #[47, 59]] #[] 1537 66 #[] #[])
  fields := #[]
  methods := #[]
  instanceTypes := #[]
  staticTypes := #[]
  resolved := Array.replicate 131 none
  statics := none }

def pool17 : Array CpInfo := pool [(1, .class_ 2), (0, u "java/lang/constant/Constable"), (0, .class_ 4), (0, u "java/lang/Object")] 6

/-- java/lang/constant/Constable -/
def k17 : Class := { plain "java/lang/constant/Constable" (some 0) with
  accessFlags := 1537
  interfaces := #[]
  cf := some (fileOf pool17 1 #[] #[] 1537 3 #[] #[])
  fields := #[]
  methods := #[]
  instanceTypes := #[]
  staticTypes := #[]
  resolved := Array.replicate 11 none
  statics := none }

def pool18 : Array CpInfo := pool [(1, .class_ 2), (0, u "java/lang/constant/ConstantDesc"), (0, .class_ 4), (0, u "java/lang/Object")] 32

/-- java/lang/constant/ConstantDesc -/
def k18 : Class := { plain "java/lang/constant/ConstantDesc" (some 0) with
  accessFlags := 1537
  interfaces := #[]
  cf := some (fileOf pool18 1 #[] #[] 1537 3 #[] #[])
  fields := #[]
  methods := #[]
  instanceTypes := #[]
  staticTypes := #[]
  resolved := Array.replicate 37 none
  statics := none }

def pool19 : Array CpInfo := pool [(2, .class_ 4), (1, u "java/lang/Object"), (0, u "<init>"), (0, u "()V"), (3, .class_ 12), (1, u "java/lang/String"), (0, u "value"), (0, u "[B"), (2, u "coder"), (0, u "B"), (2, u "hash"), (0, u "I"), (2, u "hashIsZero"), (0, u "Z"), (13, u "COMPACT_STRINGS"), (534, .class_ 576), (0, u "java/lang/CharSequence"), (22, u "CASE_INSENSITIVE_ORDER"), (0, u "Ljava/util/Comparator;"), (500, u "serialPersistentFields"), (0, u "[Ljava/io/ObjectStreamField;"), (0, .class_ 1104), (0, u "java/lang/String$CaseInsensitiveComparator"), (1, .class_ 1107), (0, u "java/io/Serializable"), (0, .class_ 1109), (0, u "java/lang/Comparable"), (0, .class_ 1111), (0, u "java/lang/constant/Constable"), (0, .class_ 1113), (0, u "java/lang/constant/ConstantDesc"), (2, u "serialVersionUID"), (0, u "J"), (3, u "REPL"), (0, u "C"), (2, u "LATIN1"), (1, u "UTF16")] 323

def k19m0 : Method := { name := "<init>", desc := "()V", sig := { parameters := [], returnType := none }, accessFlags := 1, code := none }
/-- java/lang/String -/
def k19 : Class := { plain "java/lang/String" (some 0) with
  accessFlags := 49
  interfaces := #[11, 15, 16, 17, 18]
  cf := some (fileOf pool19 10 #[.nestMembers #[1103]] #[{ accessFlags := 1, nameIndex := 5, descriptorIndex := 6, attributes := #[] }] 49 2 #[1106, 1108, 575, 1110, 1112] #[{ accessFlags := 18, nameIndex := 13, descriptorIndex := 14, attributes := #[] }, { accessFlags := 18, nameIndex := 17, descriptorIndex := 18, attributes := #[] }, { accessFlags := 2, nameIndex := 21, descriptorIndex := 22, attributes := #[] }, { accessFlags := 2, nameIndex := 25, descriptorIndex := 26, attributes := #[] }, { accessFlags := 26, nameIndex := 1116, descriptorIndex := 1117, attributes := #[] }, { accessFlags := 24, nameIndex := 40, descriptorIndex := 26, attributes := #[] }, { accessFlags := 26, nameIndex := 1101, descriptorIndex := 1102, attributes := #[] }, { accessFlags := 26, nameIndex := 1121, descriptorIndex := 1122, attributes := #[] }, { accessFlags := 25, nameIndex := 599, descriptorIndex := 600, attributes := #[] }, { accessFlags := 24, nameIndex := 1125, descriptorIndex := 18, attributes := #[] }, { accessFlags := 24, nameIndex := 1127, descriptorIndex := 18, attributes := #[] }])
  fields := #[{ name := "value", type := (.array .byte), accessFlags := 18, slot := 0, constantValue := 0 }, { name := "coder", type := .byte, accessFlags := 18, slot := 1, constantValue := 0 }, { name := "hash", type := .int, accessFlags := 2, slot := 2, constantValue := 0 }, { name := "hashIsZero", type := .boolean, accessFlags := 2, slot := 3, constantValue := 0 }, { name := "serialVersionUID", type := .long, accessFlags := 26, slot := 0, constantValue := 0 }, { name := "COMPACT_STRINGS", type := .boolean, accessFlags := 24, slot := 1, constantValue := 0 }, { name := "serialPersistentFields", type := (.array (.object "java/io/ObjectStreamField")), accessFlags := 26, slot := 2, constantValue := 0 }, { name := "REPL", type := .char, accessFlags := 26, slot := 3, constantValue := 0 }, { name := "CASE_INSENSITIVE_ORDER", type := (.object "java/util/Comparator"), accessFlags := 25, slot := 4, constantValue := 0 }, { name := "LATIN1", type := .byte, accessFlags := 24, slot := 5, constantValue := 0 }, { name := "UTF16", type := .byte, accessFlags := 24, slot := 6, constantValue := 0 }]
  methods := #[k19m0]
  instanceTypes := #[(.array .byte), .byte, .int, .boolean]
  staticTypes := #[.long, .boolean, (.array (.object "java/io/ObjectStreamField")), .char, (.object "java/util/Comparator"), .byte, .byte]
  resolved := Array.replicate 1451 none
  statics := none }

def pool20 : Array CpInfo := pool [(1, .class_ 2), (0, u "java/lang/Math"), (1, .class_ 6), (1, u "java/lang/Object"), (0, u "<init>"), (0, u "()V"), (89, .class_ 100), (1, u "java/lang/Math$RandomNumberGeneratorHolder"), (20, u "(JJ)J"), (50, u "negativeZeroFloatBits"), (0, u "J"), (2, u "negativeZeroDoubleBits"), (21, u "max"), (2, u "min"), (43, u "$assertionsDisabled"), (0, u "Z"), (88, u "(II)I"), (2, u "twoToTheDoubleScaleDown"), (0, u "D"), (4, u "twoToTheDoubleScaleUp"), (9, u "E"), (3, u "PI"), (2, u "TAU"), (2, u "DEGREES_TO_RADIANS"), (0, u "RADIANS_TO_DEGREES")] 94

def k20m0 : Method := { name := "<init>", desc := "()V", sig := { parameters := [], returnType := none }, accessFlags := 2, code := none }
def k20c1 : Code := { maxStack := 2, maxLocals := 2, code := jdk_29_method_65_code, exceptionTable := #[], attributes := #[] }
def k20m1 : Method := { name := "max", desc := "(II)I", sig := { parameters := [.int, .int], returnType := some .int }, accessFlags := 9, code := some k20c1 }
def k20c2 : Code := { maxStack := 4, maxLocals := 4, code := jdk_29_method_66_code, exceptionTable := #[], attributes := #[] }
def k20m2 : Method := { name := "max", desc := "(JJ)J", sig := { parameters := [.long, .long], returnType := some .long }, accessFlags := 9, code := some k20c2 }
def k20c3 : Code := { maxStack := 4, maxLocals := 4, code := jdk_29_method_70_code, exceptionTable := #[], attributes := #[] }
def k20m3 : Method := { name := "min", desc := "(JJ)J", sig := { parameters := [.long, .long], returnType := some .long }, accessFlags := 9, code := some k20c3 }
/-- java/lang/Math -/
def k20 : Class := { plain "java/lang/Math" (some 0) with
  accessFlags := 49
  interfaces := #[]
  cf := some (fileOf pool20 1 #[.nestMembers #[98]] #[{ accessFlags := 2, nameIndex := 7, descriptorIndex := 8, attributes := #[] }, { accessFlags := 9, nameIndex := 198, descriptorIndex := 335, attributes := #[] }, { accessFlags := 9, nameIndex := 198, descriptorIndex := 121, attributes := #[] }, { accessFlags := 9, nameIndex := 201, descriptorIndex := 121, attributes := #[] }] 49 4 #[] #[{ accessFlags := 25, nameIndex := 354, descriptorIndex := 339, attributes := #[] }, { accessFlags := 25, nameIndex := 358, descriptorIndex := 339, attributes := #[] }, { accessFlags := 25, nameIndex := 361, descriptorIndex := 339, attributes := #[] }, { accessFlags := 26, nameIndex := 364, descriptorIndex := 339, attributes := #[] }, { accessFlags := 26, nameIndex := 365, descriptorIndex := 339, attributes := #[] }, { accessFlags := 26, nameIndex := 172, descriptorIndex := 173, attributes := #[] }, { accessFlags := 26, nameIndex := 176, descriptorIndex := 173, attributes := #[] }, { accessFlags := 8, nameIndex := 344, descriptorIndex := 339, attributes := #[] }, { accessFlags := 8, nameIndex := 338, descriptorIndex := 339, attributes := #[] }, { accessFlags := 4120, nameIndex := 245, descriptorIndex := 246, attributes := #[] }])
  fields := #[{ name := "E", type := .double, accessFlags := 25, slot := 0, constantValue := 0 }, { name := "PI", type := .double, accessFlags := 25, slot := 1, constantValue := 0 }, { name := "TAU", type := .double, accessFlags := 25, slot := 2, constantValue := 0 }, { name := "DEGREES_TO_RADIANS", type := .double, accessFlags := 26, slot := 3, constantValue := 0 }, { name := "RADIANS_TO_DEGREES", type := .double, accessFlags := 26, slot := 4, constantValue := 0 }, { name := "negativeZeroFloatBits", type := .long, accessFlags := 26, slot := 5, constantValue := 0 }, { name := "negativeZeroDoubleBits", type := .long, accessFlags := 26, slot := 6, constantValue := 0 }, { name := "twoToTheDoubleScaleUp", type := .double, accessFlags := 8, slot := 7, constantValue := 0 }, { name := "twoToTheDoubleScaleDown", type := .double, accessFlags := 8, slot := 8, constantValue := 0 }, { name := "$assertionsDisabled", type := .boolean, accessFlags := 4120, slot := 9, constantValue := 0 }]
  methods := #[k20m0, k20m1, k20m2, k20m3]
  instanceTypes := #[]
  staticTypes := #[.double, .double, .double, .double, .double, .long, .long, .double, .double, .boolean]
  resolved := Array.replicate 460 none
  statics := none }

def pool21 : Array CpInfo := pool [(1, .class_ 2), (0, u "com/example/monarc/monarc/Domains"), (0, .methodref 4 5), (0, .class_ 6), (0, .nameAndType 7 8), (0, u "java/lang/Object"), (0, u "<init>"), (0, u "()V"), (0, .fieldref 1 10), (0, .nameAndType 11 12), (0, u "trail"), (0, u "[J"), (0, .fieldref 1 14), (0, .nameAndType 15 16), (0, u "marks"), (0, u "[I"), (0, .interfaceMethodref 18 19), (0, .class_ 20), (0, .nameAndType 21 22), (0, u "java/util/List"), (0, u "size"), (0, u "()I"), (0, .class_ 24), (0, u "com/example/monarc/monarc/InitialDomain"), (0, .fieldref 1 26), (0, .nameAndType 27 28), (0, u "initial"), (0, u "[Lcom/example/monarc/monarc/InitialDomain;"), (0, .fieldref 1 30), (0, .nameAndType 31 16), (0, u "lower"), (0, .fieldref 1 33), (0, .nameAndType 34 16), (0, u "upper"), (0, .class_ 12), (0, .fieldref 1 37), (0, .nameAndType 38 39), (0, u "holes"), (0, u "[[J"), (0, .fieldref 1 41), (0, .nameAndType 42 16), (0, u "sizes"), (0, .interfaceMethodref 18 44), (0, .nameAndType 45 46), (0, u "get"), (0, u "(I)Ljava/lang/Object;"), (0, .class_ 48), (0, u "com/example/monarc/monarc/Variable"), (0, .methodref 47 50), (0, .nameAndType 51 52), (0, u "domain"), (0, u "()Lcom/example/monarc/monarc/InitialDomain;"), (0, .methodref 23 19), (0, .fieldref 1 55), (0, .nameAndType 56 57), (0, u "withOneValue"), (0, u "I"), (10, u "(II)I"), (2, .methodref 72 73), (0, .class_ 74), (0, .nameAndType 75 68), (0, u "java/lang/Math"), (0, u "max"), (6, .long 18446744073709551615), (1, .methodref 1 85), (0, .nameAndType 86 68), (0, u "leftFrom"), (2, .methodref 1 90), (0, .nameAndType 91 68), (0, u "leftUpTo"), (5, u "(J)I"), (6, .fieldref 1 105), (0, .nameAndType 106 107), (0, u "resized"), (0, u "Ljava/util/function/IntConsumer;"), (8, u "takenBack"), (0, .methodref 1 118), (0, .nameAndType 119 120), (0, u "raiseLower"), (0, u "(II)V"), (0, .methodref 1 122), (0, .nameAndType 123 120), (0, u "lowerUpper"), (0, .methodref 125 126), (0, .class_ 127), (0, .nameAndType 128 129), (0, u "java/util/Arrays"), (0, u "fill"), (0, u "([JJ)V"), (0, .methodref 1 131), (0, .nameAndType 132 120), (0, u "resize"), (0, .methodref 1 134), (0, .nameAndType 135 136), (0, u "record"), (0, u "(III)V"), (0, .methodref 23 138), (0, .nameAndType 139 97), (0, u "firstAtLeast"), (0, .methodref 23 141), (0, .nameAndType 142 97), (0, u "lastAtMost"), (0, .methodref 1 144), (0, .nameAndType 145 146), (0, u "countNotHoles"), (0, u "(III)I"), (0, .fieldref 1 148), (0, .nameAndType 149 57), (0, u "trailSize"), (11, u "depth"), (3, u "HOLE"), (2, u "LOWER"), (1, u "UPPER"), (1, u "POSITION_BITS"), (1, u "POSITION_MASK"), (0, u "(Ljava/util/List;)V"), (12, u "contains"), (0, u "(II)Z"), (8, u "remove"), (0, u "removeBelow"), (0, u "(IJ)V"), (0, u "removeAbove")] 7

def k21c0 : Code := { maxStack := 4, maxLocals := 4, code := prog_11_method_1_code, exceptionTable := #[], attributes := #[] }
def k21m0 : Method := { name := "<init>", desc := "(Ljava/util/List;)V", sig := { parameters := [(.object "java/util/List")], returnType := none }, accessFlags := 0, code := some k21c0 }
def k21c1 : Code := { maxStack := 5, maxLocals := 3, code := prog_11_method_8_code, exceptionTable := #[], attributes := #[] }
def k21m1 : Method := { name := "contains", desc := "(II)Z", sig := { parameters := [.int, .int], returnType := some .boolean }, accessFlags := 0, code := some k21c1 }
def k21c2 : Code := { maxStack := 5, maxLocals := 7, code := prog_11_method_14_code, exceptionTable := #[], attributes := #[] }
def k21m2 : Method := { name := "leftFrom", desc := "(II)I", sig := { parameters := [.int, .int], returnType := some .int }, accessFlags := 2, code := some k21c2 }
def k21c3 : Code := { maxStack := 7, maxLocals := 7, code := prog_11_method_15_code, exceptionTable := #[], attributes := #[] }
def k21m3 : Method := { name := "leftUpTo", desc := "(II)I", sig := { parameters := [.int, .int], returnType := some .int }, accessFlags := 2, code := some k21c3 }
def k21c4 : Code := { maxStack := 5, maxLocals := 13, code := prog_11_method_16_code, exceptionTable := #[], attributes := #[] }
def k21m4 : Method := { name := "countNotHoles", desc := "(III)I", sig := { parameters := [.int, .int, .int], returnType := some .int }, accessFlags := 2, code := some k21c4 }
def k21c5 : Code := { maxStack := 8, maxLocals := 3, code := prog_11_method_19_code, exceptionTable := #[], attributes := #[] }
def k21m5 : Method := { name := "remove", desc := "(II)V", sig := { parameters := [.int, .int], returnType := none }, accessFlags := 0, code := some k21c5 }
def k21c6 : Code := { maxStack := 3, maxLocals := 5, code := prog_11_method_20_code, exceptionTable := #[], attributes := #[] }
def k21m6 : Method := { name := "removeBelow", desc := "(IJ)V", sig := { parameters := [.int, .long], returnType := none }, accessFlags := 0, code := some k21c6 }
def k21c7 : Code := { maxStack := 3, maxLocals := 5, code := prog_11_method_21_code, exceptionTable := #[], attributes := #[] }
def k21m7 : Method := { name := "removeAbove", desc := "(IJ)V", sig := { parameters := [.int, .long], returnType := none }, accessFlags := 0, code := some k21c7 }
def k21c8 : Code := { maxStack := 7, maxLocals := 5, code := prog_11_method_23_code, exceptionTable := #[], attributes := #[] }
def k21m8 : Method := { name := "raiseLower", desc := "(II)V", sig := { parameters := [.int, .int], returnType := none }, accessFlags := 2, code := some k21c8 }
def k21c9 : Code := { maxStack := 8, maxLocals := 5, code := prog_11_method_24_code, exceptionTable := #[], attributes := #[] }
def k21m9 : Method := { name := "lowerUpper", desc := "(II)V", sig := { parameters := [.int, .int], returnType := none }, accessFlags := 2, code := some k21c9 }
def k21c10 : Code := { maxStack := 5, maxLocals := 3, code := prog_11_method_25_code, exceptionTable := #[], attributes := #[] }
def k21m10 : Method := { name := "resize", desc := "(II)V", sig := { parameters := [.int, .int], returnType := none }, accessFlags := 2, code := some k21c10 }
def k21c11 : Code := { maxStack := 7, maxLocals := 4, code := prog_11_method_26_code, exceptionTable := #[], attributes := #[] }
def k21m11 : Method := { name := "record", desc := "(III)V", sig := { parameters := [.int, .int, .int], returnType := none }, accessFlags := 2, code := some k21c11 }
/-- com/example/monarc/monarc/Domains -/
def k21 : Class := { plain "com/example/monarc/monarc/Domains" (some 0) with
  accessFlags := 48
  interfaces := #[]
  cf := some (fileOf pool21 1 #[] #[{ accessFlags := 0, nameIndex := 7, descriptorIndex := 175, attributes := #[] }, { accessFlags := 0, nameIndex := 188, descriptorIndex := 189, attributes := #[] }, { accessFlags := 2, nameIndex := 86, descriptorIndex := 68, attributes := #[] }, { accessFlags := 2, nameIndex := 91, descriptorIndex := 68, attributes := #[] }, { accessFlags := 2, nameIndex := 145, descriptorIndex := 146, attributes := #[] }, { accessFlags := 0, nameIndex := 198, descriptorIndex := 120, attributes := #[] }, { accessFlags := 0, nameIndex := 199, descriptorIndex := 200, attributes := #[] }, { accessFlags := 0, nameIndex := 201, descriptorIndex := 200, attributes := #[] }, { accessFlags := 2, nameIndex := 119, descriptorIndex := 120, attributes := #[] }, { accessFlags := 2, nameIndex := 123, descriptorIndex := 120, attributes := #[] }, { accessFlags := 2, nameIndex := 132, descriptorIndex := 120, attributes := #[] }, { accessFlags := 2, nameIndex := 135, descriptorIndex := 136, attributes := #[] }] 48 4 #[] #[{ accessFlags := 26, nameIndex := 165, descriptorIndex := 57, attributes := #[] }, { accessFlags := 26, nameIndex := 168, descriptorIndex := 57, attributes := #[] }, { accessFlags := 26, nameIndex := 170, descriptorIndex := 57, attributes := #[] }, { accessFlags := 26, nameIndex := 172, descriptorIndex := 57, attributes := #[] }, { accessFlags := 26, nameIndex := 174, descriptorIndex := 57, attributes := #[] }, { accessFlags := 18, nameIndex := 27, descriptorIndex := 28, attributes := #[] }, { accessFlags := 18, nameIndex := 31, descriptorIndex := 16, attributes := #[] }, { accessFlags := 18, nameIndex := 34, descriptorIndex := 16, attributes := #[] }, { accessFlags := 18, nameIndex := 38, descriptorIndex := 39, attributes := #[] }, { accessFlags := 18, nameIndex := 42, descriptorIndex := 16, attributes := #[] }, { accessFlags := 2, nameIndex := 56, descriptorIndex := 57, attributes := #[] }, { accessFlags := 2, nameIndex := 11, descriptorIndex := 12, attributes := #[] }, { accessFlags := 2, nameIndex := 149, descriptorIndex := 57, attributes := #[] }, { accessFlags := 2, nameIndex := 15, descriptorIndex := 16, attributes := #[] }, { accessFlags := 2, nameIndex := 161, descriptorIndex := 57, attributes := #[] }, { accessFlags := 2, nameIndex := 106, descriptorIndex := 107, attributes := #[] }, { accessFlags := 2, nameIndex := 116, descriptorIndex := 107, attributes := #[] }])
  fields := #[{ name := "HOLE", type := .int, accessFlags := 26, slot := 0, constantValue := 0 }, { name := "LOWER", type := .int, accessFlags := 26, slot := 1, constantValue := 0 }, { name := "UPPER", type := .int, accessFlags := 26, slot := 2, constantValue := 0 }, { name := "POSITION_BITS", type := .int, accessFlags := 26, slot := 3, constantValue := 0 }, { name := "POSITION_MASK", type := .int, accessFlags := 26, slot := 4, constantValue := 0 }, { name := "initial", type := (.array (.object "com/example/monarc/monarc/InitialDomain")), accessFlags := 18, slot := 0, constantValue := 0 }, { name := "lower", type := (.array .int), accessFlags := 18, slot := 1, constantValue := 0 }, { name := "upper", type := (.array .int), accessFlags := 18, slot := 2, constantValue := 0 }, { name := "holes", type := (.array (.array .long)), accessFlags := 18, slot := 3, constantValue := 0 }, { name := "sizes", type := (.array .int), accessFlags := 18, slot := 4, constantValue := 0 }, { name := "withOneValue", type := .int, accessFlags := 2, slot := 5, constantValue := 0 }, { name := "trail", type := (.array .long), accessFlags := 2, slot := 6, constantValue := 0 }, { name := "trailSize", type := .int, accessFlags := 2, slot := 7, constantValue := 0 }, { name := "marks", type := (.array .int), accessFlags := 2, slot := 8, constantValue := 0 }, { name := "depth", type := .int, accessFlags := 2, slot := 9, constantValue := 0 }, { name := "resized", type := (.object "java/util/function/IntConsumer"), accessFlags := 2, slot := 10, constantValue := 0 }, { name := "takenBack", type := (.object "java/util/function/IntConsumer"), accessFlags := 2, slot := 11, constantValue := 0 }]
  methods := #[k21m0, k21m1, k21m2, k21m3, k21m4, k21m5, k21m6, k21m7, k21m8, k21m9, k21m10, k21m11]
  instanceTypes := #[(.array (.object "com/example/monarc/monarc/InitialDomain")), (.array .int), (.array .int), (.array (.array .long)), (.array .int), .int, (.array .long), .int, (.array .int), .int, (.object "java/util/function/IntConsumer"), (.object "java/util/function/IntConsumer")]
  staticTypes := #[.int, .int, .int, .int, .int]
  resolved := Array.replicate 209 none
  statics := none }

def pool22 : Array CpInfo := pool [(2, .class_ 4), (1, u "java/lang/Object"), (0, u "<init>"), (0, u "()V"), (35, .class_ 44), (1, u "java/util/Objects"), (60, .methodref 106 107), (0, .class_ 108), (0, .nameAndType 109 110), (0, u "jdk/internal/util/Preconditions"), (0, u "checkIndex"), (0, u "(IILjava/util/function/BiFunction;)I"), (60, u "(II)I")] 12

def k22m0 : Method := { name := "<init>", desc := "()V", sig := { parameters := [], returnType := none }, accessFlags := 2, code := none }
def k22c1 : Code := { maxStack := 3, maxLocals := 2, code := jdk_31_method_17_code, exceptionTable := #[], attributes := #[] }
def k22m1 : Method := { name := "checkIndex", desc := "(II)I", sig := { parameters := [.int, .int], returnType := some .int }, accessFlags := 9, code := some k22c1 }
/-- java/util/Objects -/
def k22 : Class := { plain "java/util/Objects" (some 0) with
  accessFlags := 49
  interfaces := #[]
  cf := some (fileOf pool22 42 #[] #[{ accessFlags := 2, nameIndex := 5, descriptorIndex := 6, attributes := #[] }, { accessFlags := 9, nameIndex := 109, descriptorIndex := 171, attributes := #[] }] 49 2 #[] #[])
  fields := #[]
  methods := #[k22m0, k22m1]
  instanceTypes := #[]
  staticTypes := #[]
  resolved := Array.replicate 184 none
  statics := none }

def pool23 : Array CpInfo := pool [(2, .class_ 4), (1, u "java/lang/Object"), (0, u "<init>"), (0, u "()V"), (17, .class_ 26), (1, u "jdk/internal/util/Preconditions"), (6, u "checkIndex"), (21, .class_ 56), (0, u "jdk/internal/util/Preconditions$4"), (57, .class_ 115), (0, u "jdk/internal/util/Preconditions$1"), (7, u "SIOOBE_FORMATTER"), (0, u "Ljava/util/function/BiFunction;"), (0, .class_ 126), (0, u "jdk/internal/util/Preconditions$2"), (3, u "AIOOBE_FORMATTER"), (0, .class_ 132), (0, u "jdk/internal/util/Preconditions$3"), (3, u "IOOBE_FORMATTER"), (41, u "(IILjava/util/function/BiFunction;)I")] 15

def k23m0 : Method := { name := "<init>", desc := "()V", sig := { parameters := [], returnType := none }, accessFlags := 1, code := none }
def k23c1 : Code := { maxStack := 3, maxLocals := 3, code := jdk_41_method_11_code, exceptionTable := #[], attributes := #[] }
def k23m1 : Method := { name := "checkIndex", desc := "(IILjava/util/function/BiFunction;)I", sig := { parameters := [.int, .int, (.object "java/util/function/BiFunction")], returnType := some .int }, accessFlags := 9, code := some k23c1 }
/-- jdk/internal/util/Preconditions -/
def k23 : Class := { plain "jdk/internal/util/Preconditions" (some 0) with
  accessFlags := 33
  interfaces := #[]
  cf := some (fileOf pool23 24 #[.nestMembers #[55, 131, 125, 114]] #[{ accessFlags := 1, nameIndex := 5, descriptorIndex := 6, attributes := #[] }, { accessFlags := 9, nameIndex := 33, descriptorIndex := 178, attributes := #[] }] 33 2 #[] #[{ accessFlags := 25, nameIndex := 123, descriptorIndex := 124, attributes := #[] }, { accessFlags := 25, nameIndex := 130, descriptorIndex := 124, attributes := #[] }, { accessFlags := 25, nameIndex := 136, descriptorIndex := 124, attributes := #[] }])
  fields := #[{ name := "SIOOBE_FORMATTER", type := (.object "java/util/function/BiFunction"), accessFlags := 25, slot := 0, constantValue := 0 }, { name := "AIOOBE_FORMATTER", type := (.object "java/util/function/BiFunction"), accessFlags := 25, slot := 1, constantValue := 0 }, { name := "IOOBE_FORMATTER", type := (.object "java/util/function/BiFunction"), accessFlags := 25, slot := 2, constantValue := 0 }]
  methods := #[k23m0, k23m1]
  instanceTypes := #[]
  staticTypes := #[(.object "java/util/function/BiFunction"), (.object "java/util/function/BiFunction"), (.object "java/util/function/BiFunction")]
  resolved := Array.replicate 194 none
  statics := none }

def pool24 : Array CpInfo := pool [(2, .class_ 4), (1, u "java/lang/Object"), (0, u "<init>"), (0, u "()V"), (7, .class_ 16), (1, u "java/util/Arrays"), (57, .class_ 76), (1, u "java/util/Arrays$NaturalOrder"), (36, .class_ 115), (1, u "java/util/Arrays$LegacyMergeSort"), (1, u "Z"), (257, .class_ 376), (0, u "java/util/Arrays$ArrayList"), (68, u "$assertionsDisabled"), (269, u "MIN_ARRAY_SORT_GRAN"), (0, u "I"), (2, u "INSERTIONSORT_THRESHOLD"), (120, u "fill"), (0, u "([JJ)V"), (133, .class_ 976), (0, u "java/util/Arrays$ArrayItr")] 52

def k24m0 : Method := { name := "<init>", desc := "()V", sig := { parameters := [], returnType := none }, accessFlags := 2, code := none }
def k24c1 : Code := { maxStack := 4, maxLocals := 5, code := jdk_65_method_101_code, exceptionTable := #[], attributes := #[] }
def k24m1 : Method := { name := "fill", desc := "([JJ)V", sig := { parameters := [(.array .long), .long], returnType := none }, accessFlags := 9, code := some k24c1 }
/-- java/util/Arrays -/
def k24 : Class := { plain "java/util/Arrays" (some 0) with
  accessFlags := 49
  interfaces := #[]
  cf := some (fileOf pool24 14 #[.nestMembers #[975, 375, 113, 74]] #[{ accessFlags := 2, nameIndex := 5, descriptorIndex := 6, attributes := #[] }, { accessFlags := 9, nameIndex := 840, descriptorIndex := 841, attributes := #[] }] 49 2 #[] #[{ accessFlags := 26, nameIndex := 715, descriptorIndex := 716, attributes := #[] }, { accessFlags := 26, nameIndex := 719, descriptorIndex := 716, attributes := #[] }, { accessFlags := 4120, nameIndex := 445, descriptorIndex := 117, attributes := #[] }])
  fields := #[{ name := "MIN_ARRAY_SORT_GRAN", type := .int, accessFlags := 26, slot := 0, constantValue := 0 }, { name := "INSERTIONSORT_THRESHOLD", type := .int, accessFlags := 26, slot := 1, constantValue := 0 }, { name := "$assertionsDisabled", type := .boolean, accessFlags := 4120, slot := 2, constantValue := 0 }]
  methods := #[k24m0, k24m1]
  instanceTypes := #[]
  staticTypes := #[.int, .int, .boolean]
  resolved := Array.replicate 1029 none
  statics := none }

/-- the primitive byte -/
def k25 : Class := { plain "byte" none with kind := .primitive 'B', accessFlags := 0x411 }
/-- [B -/
def k26 : Class := { plain "[B" (some 0) with kind := .array 25 .byte, interfaces := #[10, 11], accessFlags := 1041 }

/-- the primitive int -/
def k27 : Class := { plain "int" none with kind := .primitive 'I', accessFlags := 0x411 }
/-- [I -/
def k28 : Class := { plain "[I" (some 0) with kind := .array 27 .int, interfaces := #[10, 11], accessFlags := 1041 }

/-- the primitive long -/
def k29 : Class := { plain "long" none with kind := .primitive 'J', accessFlags := 0x411 }
/-- [J -/
def k30 : Class := { plain "[J" (some 0) with kind := .array 29 .long, interfaces := #[10, 11], accessFlags := 1041 }

/-- [Lcom/example/monarc/monarc/InitialDomain; -/
def k31 : Class := { plain "[Lcom/example/monarc/monarc/InitialDomain;" (some 0) with kind := .array 2 (.object "com/example/monarc/monarc/InitialDomain"), interfaces := #[10, 11], accessFlags := 1041 }

/-- [Ljava/lang/Object; -/
def k32 : Class := { plain "[Ljava/lang/Object;" (some 0) with kind := .array 0 (.object "java/lang/Object"), interfaces := #[10, 11], accessFlags := 1041 }

/-- [[J -/
def k33 : Class := { plain "[[J" (some 0) with kind := .array 30 (.array .long), interfaces := #[10, 11], accessFlags := 1041 }

def heap : Heap := #[{ cls := 12, slots := #[.long 0, .int 0, .ref 1, .ref 2], vm := .statics 12 },
  { cls := 32, slots := #[], vm := .none },
  { cls := 32, slots := #[], vm := .none }]
def classes : Array Class := #[k0, k1, k2, k3, k4, k5, k6, k7, k8, k9, k10, k11, k12, k13, k14, k15, k16, k17, k18, k19, k20, k21, k22, k23, k24, k25, k26, k27, k28, k29, k30, k31, k32, k33]
def interned : List (Array UInt16 × Addr) := []
def slotsUsed : Nat := 4
def theMethod : MethodId := ⟨1, 1⟩
def args0 : Array Value := #[.int 5, .int 6, .int 7, .int 8, .int 9]
def aboutOver (below : List Frame) : State where
  vm := { classes := classes, interned := interned.toArray }
  heap := heap
  slotsUsed := slotsUsed
  threads := #[{ frames := .invoking theMethod args0 :: below }]
def below0 : List Frame := [.native { method := ⟨0, 0⟩, args := #[] }]
def about1 : State := aboutOver below0
def p0 : Program := .bare "" "" ""
def e0 : Env := launch0.env 0 0 0
theorem w_frames : about1.frames = Frame.invoking theMethod args0 :: below0 := rfl
set_option maxRecDepth 65536 in
theorem w_args : argsFit about1.vm theMethod args0 = true := by decide +kernel
set_option maxRecDepth 65536 in
theorem w_heap : heapFits about1 = true := by decide +kernel
set_option maxRecDepth 65536 in
theorem w_runnable : about1.curStatus? = some .runnable := by decide +kernel
set_option maxRecDepth 65536 in
theorem w_alone : about1.alone = true := by decide +kernel
set_option maxRecDepth 65536 in
theorem w_named : about1.methodNamed? x = some theMethod := by decide +kernel
set_option maxRecDepth 65536 in
theorem w_hears : about1.hears theMethod below0 = true := by decide +kernel
set_option maxRecDepth 65536 in
theorem w_ripe : about1.ripe theMethod args0 below0 = true := by decide +kernel
theorem w_running : about1.status = .running := rfl
set_option maxRecDepth 65536 in
theorem w_room : about1.hasRoom e0.platform room_1 = true :=
  launch0.hasRoom_least _ room_1 (by decide +kernel) (by decide +kernel) (by decide +kernel) (by decide +kernel) (by decide +kernel) (by decide +kernel)
theorem allAtoms_all (ts : List Jvm.Cond) (a : Array Jvm.Value) (st : Jvm.State) : (allAtoms ts).before a st = ts.all (fun c => c.before a st) := by
  induction ts with
  | nil => rfl
  | cons c t ih =>
    show (Jvm.Cond.and c (allAtoms t)).before a st = _
    rw [Jvm.Cond.before_and, ih, List.all_cons]
def words1 : List Jvm.Cond := Jvm.Cond.code x code maxLocals ret :: tables_1
/-- a 'code' word, met by the world's own term for the bytes: nothing is compared byte by byte -/
theorem code_word {y : MethodName} {bytes : ByteArray} {mx : Nat} {rt : Option FieldType} {a : Array Value} {s : State} {m : MethodId} {meth : Method} {c : Code} (h1 : s.methodNamed? y = some m) (h2 : s.vm.method? m = some meth) (h3 : meth.code = some c) (h4 : c.code = bytes)
    (h5 : (c.maxLocals == mx && c.exceptionTable.isEmpty && decide (c.maxStack ≤ mostOperands) && decide (meth.sig.returnType = rt) && !meth.locks && decide (parseMethodDescriptor y.desc = some meth.sig)) = true) : (Jvm.Cond.code y bytes mx rt).before a s = true := by
  simp only [Bool.and_eq_true, beq_iff_eq, Bool.not_eq_true', decide_eq_true_eq] at h5
  obtain ⟨⟨⟨⟨⟨g1, g2⟩, g3⟩, g4⟩, g5⟩, g6⟩ := h5
  simp [Cond.before, Cond.holds, Cond.value, h1, h2, h3, h4, g1, g2, g3, g4, g5, g6]
def isCode : Jvm.Cond → Bool
  | .code _ _ _ _ => true
  | _ => false
theorem all_split {L : List Jvm.Cond} {P : Jvm.Cond → Bool} (h1 : L.all (fun c => isCode c || P c) = true) (h2 : ∀ c ∈ L.filter isCode, P c = true) : L.all P = true := by
  refine List.all_eq_true.mpr fun c hc => ?_
  have h := List.all_eq_true.mp h1 c hc
  rcases Bool.eq_false_or_eq_true (isCode c) with hi | hi
  · exact h2 c (List.mem_filter.mpr ⟨hc, hi⟩)
  · simpa [hi] using h
set_option maxRecDepth 65536 in
theorem w_c0 : (Jvm.Cond.code x code maxLocals ret).before args0 about1 = true := code_word (m := ⟨1, 1⟩) (meth := k1m1) (c := k1c1) (by decide +kernel) rfl rfl rfl (by decide +kernel)
set_option maxRecDepth 65536 in
theorem w_c1 : (Jvm.Cond.code ({ cls := "com/example/monarc/monarc/InitialDomain", name := "range", desc := "(II)Lcom/example/monarc/monarc/InitialDomain;" } : Jvm.MethodName) prog_20_method_2_code (2 : Nat) (Option.some (Jvm.ClassFile.FieldType.object "com/example/monarc/monarc/InitialDomain"))).before args0 about1 = true := code_word (m := ⟨2, 1⟩) (meth := k2m1) (c := k2c1) (by decide +kernel) rfl rfl rfl (by decide +kernel)
set_option maxRecDepth 65536 in
theorem w_c2 : (Jvm.Cond.code ({ cls := "com/example/monarc/monarc/InitialDomain", name := "<init>", desc := "(IJ[I)V" } : Jvm.MethodName) prog_20_method_1_code (5 : Nat) (Option.none : Option Jvm.ClassFile.FieldType)).before args0 about1 = true := code_word (m := ⟨2, 0⟩) (meth := k2m0) (c := k2c0) (by decide +kernel) rfl rfl rfl (by decide +kernel)
set_option maxRecDepth 65536 in
theorem w_c3 : (Jvm.Cond.code ({ cls := "java/lang/Object", name := "<init>", desc := "()V" } : Jvm.MethodName) object_method_1_code (1 : Nat) (Option.none : Option Jvm.ClassFile.FieldType)).before args0 about1 = true := code_word (m := ⟨0, 0⟩) (meth := k0m0) (c := k0c0) (by decide +kernel) rfl rfl rfl (by decide +kernel)
set_option maxRecDepth 65536 in
theorem w_c4 : (Jvm.Cond.code ({ cls := "java/util/ArrayList", name := "<init>", desc := "()V" } : Jvm.MethodName) jdk_38_method_2_code (1 : Nat) (Option.none : Option Jvm.ClassFile.FieldType)).before args0 about1 = true := code_word (m := ⟨12, 0⟩) (meth := k12m0) (c := k12c0) (by decide +kernel) rfl rfl rfl (by decide +kernel)
set_option maxRecDepth 65536 in
theorem w_c5 : (Jvm.Cond.code ({ cls := "java/util/AbstractList", name := "<init>", desc := "()V" } : Jvm.MethodName) jdk_39_method_1_code (1 : Nat) (Option.none : Option Jvm.ClassFile.FieldType)).before args0 about1 = true := code_word (m := ⟨8, 0⟩) (meth := k8m0) (c := k8c0) (by decide +kernel) rfl rfl rfl (by decide +kernel)
set_option maxRecDepth 65536 in
theorem w_c6 : (Jvm.Cond.code ({ cls := "java/util/AbstractCollection", name := "<init>", desc := "()V" } : Jvm.MethodName) jdk_22_method_1_code (1 : Nat) (Option.none : Option Jvm.ClassFile.FieldType)).before args0 about1 = true := code_word (m := ⟨5, 0⟩) (meth := k5m0) (c := k5c0) (by decide +kernel) rfl rfl rfl (by decide +kernel)
set_option maxRecDepth 65536 in
theorem w_c7 : (Jvm.Cond.code ({ cls := "com/example/monarc/monarc/Variable", name := "<init>", desc := "(Ljava/lang/String;ILcom/example/monarc/monarc/InitialDomain;)V" } : Jvm.MethodName) prog_76_method_1_code (4 : Nat) (Option.none : Option Jvm.ClassFile.FieldType)).before args0 about1 = true := code_word (m := ⟨14, 0⟩) (meth := k14m0) (c := k14c0) (by decide +kernel) rfl rfl rfl (by decide +kernel)
set_option maxRecDepth 65536 in
theorem w_c8 : (Jvm.Cond.code ({ cls := "com/example/monarc/monarc/Term", name := "<init>", desc := "()V" } : Jvm.MethodName) prog_70_method_1_code (1 : Nat) (Option.none : Option Jvm.ClassFile.FieldType)).before args0 about1 = true := code_word (m := ⟨13, 0⟩) (meth := k13m0) (c := k13c0) (by decide +kernel) rfl rfl rfl (by decide +kernel)
set_option maxRecDepth 65536 in
theorem w_c9 : (Jvm.Cond.code ({ cls := "java/util/ArrayList", name := "add", desc := "(Ljava/lang/Object;)Z" } : Jvm.MethodName) jdk_38_method_25_code (2 : Nat) (Option.some Jvm.ClassFile.FieldType.boolean)).before args0 about1 = true := code_word (m := ⟨12, 7⟩) (meth := k12m7) (c := k12c7) (by decide +kernel) rfl rfl rfl (by decide +kernel)
set_option maxRecDepth 65536 in
theorem w_c10 : (Jvm.Cond.code ({ cls := "java/util/ArrayList", name := "add", desc := "(Ljava/lang/Object;[Ljava/lang/Object;I)V" } : Jvm.MethodName) jdk_38_method_24_code (4 : Nat) (Option.none : Option Jvm.ClassFile.FieldType)).before args0 about1 = true := code_word (m := ⟨12, 6⟩) (meth := k12m6) (c := k12c6) (by decide +kernel) rfl rfl rfl (by decide +kernel)
set_option maxRecDepth 65536 in
theorem w_c11 : (Jvm.Cond.code ({ cls := "java/util/ArrayList", name := "grow", desc := "()[Ljava/lang/Object;" } : Jvm.MethodName) jdk_38_method_7_code (1 : Nat) (Option.some (Jvm.ClassFile.FieldType.array (Jvm.ClassFile.FieldType.object "java/lang/Object")))).before args0 about1 = true := code_word (m := ⟨12, 2⟩) (meth := k12m2) (c := k12c2) (by decide +kernel) rfl rfl rfl (by decide +kernel)
set_option maxRecDepth 65536 in
theorem w_c12 : (Jvm.Cond.code ({ cls := "java/util/ArrayList", name := "grow", desc := "(I)[Ljava/lang/Object;" } : Jvm.MethodName) jdk_38_method_6_code (4 : Nat) (Option.some (Jvm.ClassFile.FieldType.array (Jvm.ClassFile.FieldType.object "java/lang/Object")))).before args0 about1 = true := code_word (m := ⟨12, 1⟩) (meth := k12m1) (c := k12c1) (by decide +kernel) rfl rfl rfl (by decide +kernel)
set_option maxRecDepth 65536 in
theorem w_c13 : (Jvm.Cond.code ({ cls := "java/lang/Math", name := "max", desc := "(II)I" } : Jvm.MethodName) jdk_29_method_65_code (2 : Nat) (Option.some Jvm.ClassFile.FieldType.int)).before args0 about1 = true := code_word (m := ⟨20, 1⟩) (meth := k20m1) (c := k20c1) (by decide +kernel) rfl rfl rfl (by decide +kernel)
set_option maxRecDepth 65536 in
theorem w_c14 : (Jvm.Cond.code ({ cls := "com/example/monarc/monarc/Domains", name := "<init>", desc := "(Ljava/util/List;)V" } : Jvm.MethodName) prog_11_method_1_code (4 : Nat) (Option.none : Option Jvm.ClassFile.FieldType)).before args0 about1 = true := code_word (m := ⟨21, 0⟩) (meth := k21m0) (c := k21c0) (by decide +kernel) rfl rfl rfl (by decide +kernel)
set_option maxRecDepth 65536 in
theorem w_c15 : (Jvm.Cond.code ({ cls := "java/util/ArrayList", name := "size", desc := "()I" } : Jvm.MethodName) jdk_38_method_8_code (1 : Nat) (Option.some Jvm.ClassFile.FieldType.int)).before args0 about1 = true := code_word (m := ⟨12, 3⟩) (meth := k12m3) (c := k12c3) (by decide +kernel) rfl rfl rfl (by decide +kernel)
set_option maxRecDepth 65536 in
theorem w_c16 : (Jvm.Cond.code ({ cls := "java/util/ArrayList", name := "get", desc := "(I)Ljava/lang/Object;" } : Jvm.MethodName) jdk_38_method_20_code (2 : Nat) (Option.some (Jvm.ClassFile.FieldType.object "java/lang/Object"))).before args0 about1 = true := code_word (m := ⟨12, 5⟩) (meth := k12m5) (c := k12c5) (by decide +kernel) rfl rfl rfl (by decide +kernel)
set_option maxRecDepth 65536 in
theorem w_c17 : (Jvm.Cond.code ({ cls := "java/util/Objects", name := "checkIndex", desc := "(II)I" } : Jvm.MethodName) jdk_31_method_17_code (2 : Nat) (Option.some Jvm.ClassFile.FieldType.int)).before args0 about1 = true := code_word (m := ⟨22, 1⟩) (meth := k22m1) (c := k22c1) (by decide +kernel) rfl rfl rfl (by decide +kernel)
set_option maxRecDepth 65536 in
theorem w_c18 : (Jvm.Cond.code ({ cls := "jdk/internal/util/Preconditions", name := "checkIndex", desc := "(IILjava/util/function/BiFunction;)I" } : Jvm.MethodName) jdk_41_method_11_code (3 : Nat) (Option.some Jvm.ClassFile.FieldType.int)).before args0 about1 = true := code_word (m := ⟨23, 1⟩) (meth := k23m1) (c := k23c1) (by decide +kernel) rfl rfl rfl (by decide +kernel)
set_option maxRecDepth 65536 in
theorem w_c19 : (Jvm.Cond.code ({ cls := "java/util/ArrayList", name := "elementData", desc := "(I)Ljava/lang/Object;" } : Jvm.MethodName) jdk_38_method_18_code (2 : Nat) (Option.some (Jvm.ClassFile.FieldType.object "java/lang/Object"))).before args0 about1 = true := code_word (m := ⟨12, 4⟩) (meth := k12m4) (c := k12c4) (by decide +kernel) rfl rfl rfl (by decide +kernel)
set_option maxRecDepth 65536 in
theorem w_c20 : (Jvm.Cond.code ({ cls := "com/example/monarc/monarc/Variable", name := "domain", desc := "()Lcom/example/monarc/monarc/InitialDomain;" } : Jvm.MethodName) prog_76_method_4_code (1 : Nat) (Option.some (Jvm.ClassFile.FieldType.object "com/example/monarc/monarc/InitialDomain"))).before args0 about1 = true := code_word (m := ⟨14, 1⟩) (meth := k14m1) (c := k14c1) (by decide +kernel) rfl rfl rfl (by decide +kernel)
set_option maxRecDepth 65536 in
theorem w_c21 : (Jvm.Cond.code ({ cls := "com/example/monarc/monarc/InitialDomain", name := "size", desc := "()I" } : Jvm.MethodName) prog_20_method_5_code (1 : Nat) (Option.some Jvm.ClassFile.FieldType.int)).before args0 about1 = true := code_word (m := ⟨2, 2⟩) (meth := k2m2) (c := k2c2) (by decide +kernel) rfl rfl rfl (by decide +kernel)
set_option maxRecDepth 65536 in
theorem w_c22 : (Jvm.Cond.code ({ cls := "com/example/monarc/monarc/Domains", name := "removeBelow", desc := "(IJ)V" } : Jvm.MethodName) prog_11_method_20_code (5 : Nat) (Option.none : Option Jvm.ClassFile.FieldType)).before args0 about1 = true := code_word (m := ⟨21, 6⟩) (meth := k21m6) (c := k21c6) (by decide +kernel) rfl rfl rfl (by decide +kernel)
set_option maxRecDepth 65536 in
theorem w_c23 : (Jvm.Cond.code ({ cls := "com/example/monarc/monarc/InitialDomain", name := "firstAtLeast", desc := "(J)I" } : Jvm.MethodName) prog_20_method_8_code (6 : Nat) (Option.some Jvm.ClassFile.FieldType.int)).before args0 about1 = true := code_word (m := ⟨2, 3⟩) (meth := k2m3) (c := k2c3) (by decide +kernel) rfl rfl rfl (by decide +kernel)
set_option maxRecDepth 65536 in
theorem w_c24 : (Jvm.Cond.code ({ cls := "java/lang/Math", name := "min", desc := "(JJ)J" } : Jvm.MethodName) jdk_29_method_70_code (4 : Nat) (Option.some Jvm.ClassFile.FieldType.long)).before args0 about1 = true := code_word (m := ⟨20, 3⟩) (meth := k20m3) (c := k20c3) (by decide +kernel) rfl rfl rfl (by decide +kernel)
set_option maxRecDepth 65536 in
theorem w_c25 : (Jvm.Cond.code ({ cls := "java/lang/Math", name := "max", desc := "(JJ)J" } : Jvm.MethodName) jdk_29_method_66_code (4 : Nat) (Option.some Jvm.ClassFile.FieldType.long)).before args0 about1 = true := code_word (m := ⟨20, 2⟩) (meth := k20m2) (c := k20c2) (by decide +kernel) rfl rfl rfl (by decide +kernel)
set_option maxRecDepth 65536 in
theorem w_c26 : (Jvm.Cond.code ({ cls := "com/example/monarc/monarc/Domains", name := "removeAbove", desc := "(IJ)V" } : Jvm.MethodName) prog_11_method_21_code (5 : Nat) (Option.none : Option Jvm.ClassFile.FieldType)).before args0 about1 = true := code_word (m := ⟨21, 7⟩) (meth := k21m7) (c := k21c7) (by decide +kernel) rfl rfl rfl (by decide +kernel)
set_option maxRecDepth 65536 in
theorem w_c27 : (Jvm.Cond.code ({ cls := "com/example/monarc/monarc/InitialDomain", name := "lastAtMost", desc := "(J)I" } : Jvm.MethodName) prog_20_method_9_code (3 : Nat) (Option.some Jvm.ClassFile.FieldType.int)).before args0 about1 = true := code_word (m := ⟨2, 4⟩) (meth := k2m4) (c := k2c4) (by decide +kernel) rfl rfl rfl (by decide +kernel)
set_option maxRecDepth 65536 in
theorem w_c28 : (Jvm.Cond.code ({ cls := "com/example/monarc/monarc/Domains", name := "lowerUpper", desc := "(II)V" } : Jvm.MethodName) prog_11_method_24_code (5 : Nat) (Option.none : Option Jvm.ClassFile.FieldType)).before args0 about1 = true := code_word (m := ⟨21, 9⟩) (meth := k21m9) (c := k21c9) (by decide +kernel) rfl rfl rfl (by decide +kernel)
set_option maxRecDepth 65536 in
theorem w_c29 : (Jvm.Cond.code ({ cls := "com/example/monarc/monarc/Domains", name := "leftUpTo", desc := "(II)I" } : Jvm.MethodName) prog_11_method_15_code (7 : Nat) (Option.some Jvm.ClassFile.FieldType.int)).before args0 about1 = true := code_word (m := ⟨21, 3⟩) (meth := k21m3) (c := k21c3) (by decide +kernel) rfl rfl rfl (by decide +kernel)
set_option maxRecDepth 65536 in
theorem w_c30 : (Jvm.Cond.code ({ cls := "com/example/monarc/monarc/Domains", name := "countNotHoles", desc := "(III)I" } : Jvm.MethodName) prog_11_method_16_code (13 : Nat) (Option.some Jvm.ClassFile.FieldType.int)).before args0 about1 = true := code_word (m := ⟨21, 4⟩) (meth := k21m4) (c := k21c4) (by decide +kernel) rfl rfl rfl (by decide +kernel)
set_option maxRecDepth 65536 in
theorem w_c31 : (Jvm.Cond.code ({ cls := "com/example/monarc/monarc/Domains", name := "resize", desc := "(II)V" } : Jvm.MethodName) prog_11_method_25_code (3 : Nat) (Option.none : Option Jvm.ClassFile.FieldType)).before args0 about1 = true := code_word (m := ⟨21, 10⟩) (meth := k21m10) (c := k21c10) (by decide +kernel) rfl rfl rfl (by decide +kernel)
set_option maxRecDepth 65536 in
theorem w_c32 : (Jvm.Cond.code ({ cls := "com/example/monarc/monarc/Domains", name := "record", desc := "(III)V" } : Jvm.MethodName) prog_11_method_26_code (4 : Nat) (Option.none : Option Jvm.ClassFile.FieldType)).before args0 about1 = true := code_word (m := ⟨21, 11⟩) (meth := k21m11) (c := k21c11) (by decide +kernel) rfl rfl rfl (by decide +kernel)
set_option maxRecDepth 65536 in
theorem w_c33 : (Jvm.Cond.code ({ cls := "com/example/monarc/monarc/Domains", name := "contains", desc := "(II)Z" } : Jvm.MethodName) prog_11_method_8_code (3 : Nat) (Option.some Jvm.ClassFile.FieldType.boolean)).before args0 about1 = true := code_word (m := ⟨21, 1⟩) (meth := k21m1) (c := k21c1) (by decide +kernel) rfl rfl rfl (by decide +kernel)
set_option maxRecDepth 65536 in
theorem w_c34 : (Jvm.Cond.code ({ cls := "com/example/monarc/monarc/Domains", name := "raiseLower", desc := "(II)V" } : Jvm.MethodName) prog_11_method_23_code (5 : Nat) (Option.none : Option Jvm.ClassFile.FieldType)).before args0 about1 = true := code_word (m := ⟨21, 8⟩) (meth := k21m8) (c := k21c8) (by decide +kernel) rfl rfl rfl (by decide +kernel)
set_option maxRecDepth 65536 in
theorem w_c35 : (Jvm.Cond.code ({ cls := "com/example/monarc/monarc/Domains", name := "leftFrom", desc := "(II)I" } : Jvm.MethodName) prog_11_method_14_code (7 : Nat) (Option.some Jvm.ClassFile.FieldType.int)).before args0 about1 = true := code_word (m := ⟨21, 2⟩) (meth := k21m2) (c := k21c2) (by decide +kernel) rfl rfl rfl (by decide +kernel)
set_option maxRecDepth 65536 in
theorem w_c36 : (Jvm.Cond.code ({ cls := "com/example/monarc/monarc/Domains", name := "remove", desc := "(II)V" } : Jvm.MethodName) prog_11_method_19_code (3 : Nat) (Option.none : Option Jvm.ClassFile.FieldType)).before args0 about1 = true := code_word (m := ⟨21, 5⟩) (meth := k21m5) (c := k21c5) (by decide +kernel) rfl rfl rfl (by decide +kernel)
set_option maxRecDepth 65536 in
theorem w_c37 : (Jvm.Cond.code ({ cls := "java/util/Arrays", name := "fill", desc := "([JJ)V" } : Jvm.MethodName) jdk_65_method_101_code (5 : Nat) (Option.none : Option Jvm.ClassFile.FieldType)).before args0 about1 = true := code_word (m := ⟨24, 1⟩) (meth := k24m1) (c := k24c1) (by decide +kernel) rfl rfl rfl (by decide +kernel)
def codes1 : List Jvm.Cond := [Jvm.Cond.code x code maxLocals ret, Jvm.Cond.code ({ cls := "com/example/monarc/monarc/InitialDomain", name := "range", desc := "(II)Lcom/example/monarc/monarc/InitialDomain;" } : Jvm.MethodName) prog_20_method_2_code (2 : Nat) (Option.some (Jvm.ClassFile.FieldType.object "com/example/monarc/monarc/InitialDomain")), Jvm.Cond.code ({ cls := "com/example/monarc/monarc/InitialDomain", name := "<init>", desc := "(IJ[I)V" } : Jvm.MethodName) prog_20_method_1_code (5 : Nat) (Option.none : Option Jvm.ClassFile.FieldType), Jvm.Cond.code ({ cls := "java/lang/Object", name := "<init>", desc := "()V" } : Jvm.MethodName) object_method_1_code (1 : Nat) (Option.none : Option Jvm.ClassFile.FieldType), Jvm.Cond.code ({ cls := "java/util/ArrayList", name := "<init>", desc := "()V" } : Jvm.MethodName) jdk_38_method_2_code (1 : Nat) (Option.none : Option Jvm.ClassFile.FieldType), Jvm.Cond.code ({ cls := "java/util/AbstractList", name := "<init>", desc := "()V" } : Jvm.MethodName) jdk_39_method_1_code (1 : Nat) (Option.none : Option Jvm.ClassFile.FieldType), Jvm.Cond.code ({ cls := "java/util/AbstractCollection", name := "<init>", desc := "()V" } : Jvm.MethodName) jdk_22_method_1_code (1 : Nat) (Option.none : Option Jvm.ClassFile.FieldType), Jvm.Cond.code ({ cls := "com/example/monarc/monarc/Variable", name := "<init>", desc := "(Ljava/lang/String;ILcom/example/monarc/monarc/InitialDomain;)V" } : Jvm.MethodName) prog_76_method_1_code (4 : Nat) (Option.none : Option Jvm.ClassFile.FieldType), Jvm.Cond.code ({ cls := "com/example/monarc/monarc/Term", name := "<init>", desc := "()V" } : Jvm.MethodName) prog_70_method_1_code (1 : Nat) (Option.none : Option Jvm.ClassFile.FieldType), Jvm.Cond.code ({ cls := "java/util/ArrayList", name := "add", desc := "(Ljava/lang/Object;)Z" } : Jvm.MethodName) jdk_38_method_25_code (2 : Nat) (Option.some Jvm.ClassFile.FieldType.boolean), Jvm.Cond.code ({ cls := "java/util/ArrayList", name := "add", desc := "(Ljava/lang/Object;[Ljava/lang/Object;I)V" } : Jvm.MethodName) jdk_38_method_24_code (4 : Nat) (Option.none : Option Jvm.ClassFile.FieldType), Jvm.Cond.code ({ cls := "java/util/ArrayList", name := "grow", desc := "()[Ljava/lang/Object;" } : Jvm.MethodName) jdk_38_method_7_code (1 : Nat) (Option.some (Jvm.ClassFile.FieldType.array (Jvm.ClassFile.FieldType.object "java/lang/Object"))), Jvm.Cond.code ({ cls := "java/util/ArrayList", name := "grow", desc := "(I)[Ljava/lang/Object;" } : Jvm.MethodName) jdk_38_method_6_code (4 : Nat) (Option.some (Jvm.ClassFile.FieldType.array (Jvm.ClassFile.FieldType.object "java/lang/Object"))), Jvm.Cond.code ({ cls := "java/lang/Math", name := "max", desc := "(II)I" } : Jvm.MethodName) jdk_29_method_65_code (2 : Nat) (Option.some Jvm.ClassFile.FieldType.int), Jvm.Cond.code ({ cls := "com/example/monarc/monarc/Domains", name := "<init>", desc := "(Ljava/util/List;)V" } : Jvm.MethodName) prog_11_method_1_code (4 : Nat) (Option.none : Option Jvm.ClassFile.FieldType), Jvm.Cond.code ({ cls := "java/util/ArrayList", name := "size", desc := "()I" } : Jvm.MethodName) jdk_38_method_8_code (1 : Nat) (Option.some Jvm.ClassFile.FieldType.int), Jvm.Cond.code ({ cls := "java/util/ArrayList", name := "get", desc := "(I)Ljava/lang/Object;" } : Jvm.MethodName) jdk_38_method_20_code (2 : Nat) (Option.some (Jvm.ClassFile.FieldType.object "java/lang/Object")), Jvm.Cond.code ({ cls := "java/util/Objects", name := "checkIndex", desc := "(II)I" } : Jvm.MethodName) jdk_31_method_17_code (2 : Nat) (Option.some Jvm.ClassFile.FieldType.int), Jvm.Cond.code ({ cls := "jdk/internal/util/Preconditions", name := "checkIndex", desc := "(IILjava/util/function/BiFunction;)I" } : Jvm.MethodName) jdk_41_method_11_code (3 : Nat) (Option.some Jvm.ClassFile.FieldType.int), Jvm.Cond.code ({ cls := "java/util/ArrayList", name := "elementData", desc := "(I)Ljava/lang/Object;" } : Jvm.MethodName) jdk_38_method_18_code (2 : Nat) (Option.some (Jvm.ClassFile.FieldType.object "java/lang/Object")), Jvm.Cond.code ({ cls := "com/example/monarc/monarc/Variable", name := "domain", desc := "()Lcom/example/monarc/monarc/InitialDomain;" } : Jvm.MethodName) prog_76_method_4_code (1 : Nat) (Option.some (Jvm.ClassFile.FieldType.object "com/example/monarc/monarc/InitialDomain")), Jvm.Cond.code ({ cls := "com/example/monarc/monarc/InitialDomain", name := "size", desc := "()I" } : Jvm.MethodName) prog_20_method_5_code (1 : Nat) (Option.some Jvm.ClassFile.FieldType.int), Jvm.Cond.code ({ cls := "com/example/monarc/monarc/Domains", name := "removeBelow", desc := "(IJ)V" } : Jvm.MethodName) prog_11_method_20_code (5 : Nat) (Option.none : Option Jvm.ClassFile.FieldType), Jvm.Cond.code ({ cls := "com/example/monarc/monarc/InitialDomain", name := "firstAtLeast", desc := "(J)I" } : Jvm.MethodName) prog_20_method_8_code (6 : Nat) (Option.some Jvm.ClassFile.FieldType.int), Jvm.Cond.code ({ cls := "java/lang/Math", name := "min", desc := "(JJ)J" } : Jvm.MethodName) jdk_29_method_70_code (4 : Nat) (Option.some Jvm.ClassFile.FieldType.long), Jvm.Cond.code ({ cls := "java/lang/Math", name := "max", desc := "(JJ)J" } : Jvm.MethodName) jdk_29_method_66_code (4 : Nat) (Option.some Jvm.ClassFile.FieldType.long), Jvm.Cond.code ({ cls := "com/example/monarc/monarc/Domains", name := "removeAbove", desc := "(IJ)V" } : Jvm.MethodName) prog_11_method_21_code (5 : Nat) (Option.none : Option Jvm.ClassFile.FieldType), Jvm.Cond.code ({ cls := "com/example/monarc/monarc/InitialDomain", name := "lastAtMost", desc := "(J)I" } : Jvm.MethodName) prog_20_method_9_code (3 : Nat) (Option.some Jvm.ClassFile.FieldType.int), Jvm.Cond.code ({ cls := "com/example/monarc/monarc/Domains", name := "lowerUpper", desc := "(II)V" } : Jvm.MethodName) prog_11_method_24_code (5 : Nat) (Option.none : Option Jvm.ClassFile.FieldType), Jvm.Cond.code ({ cls := "com/example/monarc/monarc/Domains", name := "leftUpTo", desc := "(II)I" } : Jvm.MethodName) prog_11_method_15_code (7 : Nat) (Option.some Jvm.ClassFile.FieldType.int), Jvm.Cond.code ({ cls := "com/example/monarc/monarc/Domains", name := "countNotHoles", desc := "(III)I" } : Jvm.MethodName) prog_11_method_16_code (13 : Nat) (Option.some Jvm.ClassFile.FieldType.int), Jvm.Cond.code ({ cls := "com/example/monarc/monarc/Domains", name := "resize", desc := "(II)V" } : Jvm.MethodName) prog_11_method_25_code (3 : Nat) (Option.none : Option Jvm.ClassFile.FieldType), Jvm.Cond.code ({ cls := "com/example/monarc/monarc/Domains", name := "record", desc := "(III)V" } : Jvm.MethodName) prog_11_method_26_code (4 : Nat) (Option.none : Option Jvm.ClassFile.FieldType), Jvm.Cond.code ({ cls := "com/example/monarc/monarc/Domains", name := "contains", desc := "(II)Z" } : Jvm.MethodName) prog_11_method_8_code (3 : Nat) (Option.some Jvm.ClassFile.FieldType.boolean), Jvm.Cond.code ({ cls := "com/example/monarc/monarc/Domains", name := "raiseLower", desc := "(II)V" } : Jvm.MethodName) prog_11_method_23_code (5 : Nat) (Option.none : Option Jvm.ClassFile.FieldType), Jvm.Cond.code ({ cls := "com/example/monarc/monarc/Domains", name := "leftFrom", desc := "(II)I" } : Jvm.MethodName) prog_11_method_14_code (7 : Nat) (Option.some Jvm.ClassFile.FieldType.int), Jvm.Cond.code ({ cls := "com/example/monarc/monarc/Domains", name := "remove", desc := "(II)V" } : Jvm.MethodName) prog_11_method_19_code (3 : Nat) (Option.none : Option Jvm.ClassFile.FieldType), Jvm.Cond.code ({ cls := "java/util/Arrays", name := "fill", desc := "([JJ)V" } : Jvm.MethodName) jdk_65_method_101_code (5 : Nat) (Option.none : Option Jvm.ClassFile.FieldType)]
set_option maxRecDepth 65536 in
theorem codes_eq : words1.filter isCode = codes1 := rfl
theorem w_codes : ∀ c ∈ words1.filter isCode, c.before args0 about1 = true := by
  rw [codes_eq]
  intro c hc
  simp only [codes1, List.mem_cons, List.not_mem_nil, or_false] at hc
  rcases hc with rfl | rfl | rfl | rfl | rfl | rfl | rfl | rfl | rfl | rfl | rfl | rfl | rfl | rfl | rfl | rfl | rfl | rfl | rfl | rfl | rfl | rfl | rfl | rfl | rfl | rfl | rfl | rfl | rfl | rfl | rfl | rfl | rfl | rfl | rfl | rfl | rfl | rfl
  · exact w_c0
  · exact w_c1
  · exact w_c2
  · exact w_c3
  · exact w_c4
  · exact w_c5
  · exact w_c6
  · exact w_c7
  · exact w_c8
  · exact w_c9
  · exact w_c10
  · exact w_c11
  · exact w_c12
  · exact w_c13
  · exact w_c14
  · exact w_c15
  · exact w_c16
  · exact w_c17
  · exact w_c18
  · exact w_c19
  · exact w_c20
  · exact w_c21
  · exact w_c22
  · exact w_c23
  · exact w_c24
  · exact w_c25
  · exact w_c26
  · exact w_c27
  · exact w_c28
  · exact w_c29
  · exact w_c30
  · exact w_c31
  · exact w_c32
  · exact w_c33
  · exact w_c34
  · exact w_c35
  · exact w_c36
  · exact w_c37
set_option maxRecDepth 65536 in
theorem w_t1 : (words1.take 24).all (fun c => isCode c || c.before args0 about1) = true := by decide +kernel
set_option maxRecDepth 65536 in
theorem w_t2 : ((words1.drop 24).take 24).all (fun c => isCode c || c.before args0 about1) = true := by decide +kernel
set_option maxRecDepth 65536 in
theorem w_t3 : (((words1.drop 24).drop 24).take 24).all (fun c => isCode c || c.before args0 about1) = true := by decide +kernel
set_option maxRecDepth 65536 in
theorem w_t4 : ((((words1.drop 24).drop 24).drop 24).take 24).all (fun c => isCode c || c.before args0 about1) = true := by decide +kernel
set_option maxRecDepth 65536 in
theorem w_t5 : (((((words1.drop 24).drop 24).drop 24).drop 24).take 24).all (fun c => isCode c || c.before args0 about1) = true := by decide +kernel
set_option maxRecDepth 65536 in
theorem w_t6 : ((((((words1.drop 24).drop 24).drop 24).drop 24).drop 24).take 24).all (fun c => isCode c || c.before args0 about1) = true := by decide +kernel
set_option maxRecDepth 65536 in
theorem w_t7 : (((((((words1.drop 24).drop 24).drop 24).drop 24).drop 24).drop 24).take 24).all (fun c => isCode c || c.before args0 about1) = true := by decide +kernel
set_option maxRecDepth 65536 in
theorem w_t8 : ((((((((words1.drop 24).drop 24).drop 24).drop 24).drop 24).drop 24).drop 24).take 24).all (fun c => isCode c || c.before args0 about1) = true := by decide +kernel
set_option maxRecDepth 65536 in
theorem w_t9 : (((((((((words1.drop 24).drop 24).drop 24).drop 24).drop 24).drop 24).drop 24).drop 24).take 24).all (fun c => isCode c || c.before args0 about1) = true := by decide +kernel
set_option maxRecDepth 65536 in
theorem w_t10 : ((((((((((words1.drop 24).drop 24).drop 24).drop 24).drop 24).drop 24).drop 24).drop 24).drop 24).take 24).all (fun c => isCode c || c.before args0 about1) = true := by decide +kernel
set_option maxRecDepth 65536 in
theorem w_t11 : ((((((((((words1.drop 24).drop 24).drop 24).drop 24).drop 24).drop 24).drop 24).drop 24).drop 24).drop 24).all (fun c => isCode c || c.before args0 about1) = true := by decide +kernel
theorem w_tables : (allAtoms (Jvm.Cond.code x code maxLocals ret :: tables_1)).before args0 about1 = true := by
  rw [allAtoms_all]
  show words1.all (fun c => c.before args0 about1) = true
  refine all_split ?_ w_codes
  rw [← List.take_append_drop 24 words1, List.all_append, w_t1, ← List.take_append_drop 24 (words1.drop 24), List.all_append, w_t2, ← List.take_append_drop 24 ((words1.drop 24).drop 24), List.all_append, w_t3, ← List.take_append_drop 24 (((words1.drop 24).drop 24).drop 24), List.all_append, w_t4, ← List.take_append_drop 24 ((((words1.drop 24).drop 24).drop 24).drop 24), List.all_append, w_t5, ← List.take_append_drop 24 (((((words1.drop 24).drop 24).drop 24).drop 24).drop 24), List.all_append, w_t6, ← List.take_append_drop 24 ((((((words1.drop 24).drop 24).drop 24).drop 24).drop 24).drop 24), List.all_append, w_t7, ← List.take_append_drop 24 (((((((words1.drop 24).drop 24).drop 24).drop 24).drop 24).drop 24).drop 24), List.all_append, w_t8, ← List.take_append_drop 24 ((((((((words1.drop 24).drop 24).drop 24).drop 24).drop 24).drop 24).drop 24).drop 24), List.all_append, w_t9, ← List.take_append_drop 24 (((((((((words1.drop 24).drop 24).drop 24).drop 24).drop 24).drop 24).drop 24).drop 24).drop 24), List.all_append, w_t10, w_t11]
  rfl
set_option maxRecDepth 65536 in
theorem w_rest : rest_1_c.before args0 about1 = true := by decide +kernel
set_option maxRecDepth 65536 in
theorem w_case : (Jvm.Cond.and given_1 narrow_1).before args0 about1 = true := by decide +kernel
theorem w_applies : (headSpec (Jvm.Cond.code x code maxLocals ret :: tables_1) room_1).applies x e0.platform about1 = true :=
  (Spec.applies_iff w_frames).mpr ⟨w_running, w_runnable, w_alone, w_named, w_hears, w_ripe, w_room, w_tables⟩
theorem atStart : AtStart classFile x code maxLocals ret World_1 tables_1 room_1 Calls_1 rest_1 Pre_1 launch0 p0 e0 about1 theMethod args0 below0 :=
  ⟨lists_1, trivial, launch0.admits_env _ _ _, launch0.least_env, fairChoices_fair.cas, fairChoices_fair.clock, w_frames, w_args, w_heap, w_applies, trivial, w_rest, w_case⟩
end start1
theorem witness_1 : WitnessClaimed_1 := ⟨start1.p0, start1.e0, start1.about1, start1.theMethod, start1.args0, start1.below0, start1.atStart⟩
end Jvm.Pilot.@@N@@
