import JvmDerived
import JvmDerived.Pilot.@@N@@Statement
import JvmDerived.Pilot.@@N@@Code
set_option linter.unusedVariables false
set_option linter.unusedSimpArgs false
@@BLOCK:NumsL.lean.txt@@
namespace Jvm.RoadKit
open Sem ClassFile Op Lib Jvm.Stand Jvm.Free Jvm.LawKit
section New
variable {p : Program} {l : Launch} {e : Env} {R : Room} {s : State} {m : MethodId} {args : Array Value} {below : List Frame} {meth : Method} {c : Code} {T : State} {locs : List Loc} {cells slots : Nat}
theorem retI (X : Stand p l e R s m args below meth c T locs cells slots) (hx : p.tables.exec = Jvm.exec) {pc : Nat} {Ls : Array Slot} {z : Int32} {rest : List Value} (hret : meth.sig.returnType = some .int) (hd : decode c.code pc = .ok (.ireturn, 1)) {fs : List Frame}
    (hl : ∀ (f : JFrame) (acts : List Action), f.method = m → f.locked = none → f.entered = [] → (doReturn e (T.setTop f) acts (some (.int z))).1 = T.setFrames fs) : Steps p.tables e below (T.setTop (mkF m pc Ls (.int z :: rest))) (T.setFrames fs) := by
  have hm' : T.vm.method? m = some meth := X.method'
  have hn : narrow .int (.int z) = .int z := rfl
  show Steps p.tables e below (T.setTop { method := m, pc := pc, locals := Ls, stack := _ :: rest, locked := none }) _
  jvm_step X.here [X.here.top, hx, hd, hm', hret, hn]
  first | (intro acts; rw [hl _ acts rfl rfl rfl]) | rw [hl _ _ rfl rfl rfl]
  exact Steps.refl _
end New
end Jvm.RoadKit
namespace Jvm.Pilot.@@N@@
open Jvm Jvm.ClassFile Sem Op Lib Jvm.Free Jvm.Stand Jvm.LawKit Jvm.RoadKit Bundle Jvm.Pilot.@@N@@.Jvm.D
/-- what a walk comes to, said forward -/
def Go (p : Program) (e : Env) (below : List Frame) (R : State → Outcome → Prop) (A : State) : Prop := ∃ t o, Steps p.tables e below A t ∧ R t o
def Fin1 (s : State) (below : List Frame) (Q : Option Value → Heap → List Loc → Prop) (K N : Nat) (t : State) (o : Outcome) : Prop := t.status = .running ∧ Ended t below o ∧ ∃ v L, o = .returned v ∧ Q v t.heap L ∧ FrameEnd s o t L K N
theorem Go.step {p : Program} {e : Env} {below : List Frame} {R : State → Outcome → Prop} {A B : State} (k : ∀ t, Steps p.tables e below A t → Steps p.tables e below B t) (h : Go p e below R A) : Go p e below R B := by
  obtain ⟨t, o, h1, h2⟩ := h
  exact ⟨t, o, k t h1, h2⟩
section GoRet
variable {p : Program} {l : Launch} {e : Env} {R : Room} {s : State} {m : MethodId} {args : Array Value} {below : List Frame} {meth : Method} {c : Code} {T : State} {locs : List Loc} {cells slots : Nat} {Q : Option Value → Heap → List Loc → Prop} {K N pc : Nat} {Ls : Array Slot} {rest : List Value}
theorem Go.retZ (X : Stand p l e R s m args below meth c T locs cells slots) (hx : p.tables.exec = Jvm.exec) {z : Int32} {t : FieldType} (hret : meth.sig.returnType = some t) (ht : t = .boolean ∨ t = .byte ∨ t = .char ∨ t = .short) (hlk : meth.locks = false) (hd : decode c.code pc = .ok (.ireturn, 1)) (hq : Q (some (.int (nar t z))) T.heap locs) (hc : cells ≤ K) (hn : slots ≤ N) : Go p e below (Fin1 s below Q K N) (T.setTop (mkF m pc Ls (.int z :: rest))) := by
  obtain ⟨fs, hr, hrun, hended, hW, hsame⟩ := X.leave (v := some (.int (nar t z))) (fun h => by rw [hret] at h; cases h) hlk
  exact ⟨_, _, retN X hx hret ht hd hr, hrun, hended, _, _, rfl, hq, ⟨_, rfl⟩, hW, hsame.mono hc hn⟩
theorem Go.retI (X : Stand p l e R s m args below meth c T locs cells slots) (hx : p.tables.exec = Jvm.exec) {z : Int32} (hret : meth.sig.returnType = some .int) (hlk : meth.locks = false) (hd : decode c.code pc = .ok (.ireturn, 1)) (hq : Q (some (.int z)) T.heap locs) (hc : cells ≤ K) (hn : slots ≤ N) : Go p e below (Fin1 s below Q K N) (T.setTop (mkF m pc Ls (.int z :: rest))) := by
  obtain ⟨fs, hr, hrun, hended, hW, hsame⟩ := X.leave (v := some (.int z)) (fun h => by rw [hret] at h; cases h) hlk
  exact ⟨_, _, Jvm.RoadKit.retI X hx hret hd hr, hrun, hended, _, _, rfl, hq, ⟨_, rfl⟩, hW, hsame.mono hc hn⟩
theorem Go.retJ (X : Stand p l e R s m args below meth c T locs cells slots) (hx : p.tables.exec = Jvm.exec) {z : Int64} (hret : meth.sig.returnType = some .long) (hlk : meth.locks = false) (hd : decode c.code pc = .ok (.lreturn, 1)) (hq : Q (some (.long z)) T.heap locs) (hc : cells ≤ K) (hn : slots ≤ N) : Go p e below (Fin1 s below Q K N) (T.setTop (mkF m pc Ls (.long z :: rest))) := by
  obtain ⟨fs, hr, hrun, hended, hW, hsame⟩ := X.leave (v := some (.long z)) (fun h => by rw [hret] at h; cases h) hlk
  exact ⟨_, _, retOut X hx hret rfl (Or.inr (Or.inl ⟨rfl, rfl, _, rfl⟩)) hd hr, hrun, hended, _, _, rfl, hq, ⟨_, rfl⟩, hW, hsame.mono hc hn⟩
theorem Go.retR (X : Stand p l e R s m args below meth c T locs cells slots) (hx : p.tables.exec = Jvm.exec) {w : Value} {t : FieldType} (hret : meth.sig.returnType = some t) (ht : t.isReference = true) (hw : w.isRef = true) (hlk : meth.locks = false) (hd : decode c.code pc = .ok (.areturn, 1)) (hq : Q (some w) T.heap locs) (hc : cells ≤ K) (hn : slots ≤ N) : Go p e below (Fin1 s below Q K N) (T.setTop (mkF m pc Ls (w :: rest))) := by
  obtain ⟨fs, hr, hrun, hended, hW, hsame⟩ := X.leave (v := some w) (fun h => by rw [hret] at h; cases h) hlk
  have hnw : narrow t w = w := by rcases ref_cases hw with rfl | ⟨a, rfl⟩ <;> cases t <;> first | rfl | (cases ht)
  exact ⟨_, _, retOut X hx hret hnw (Or.inr (Or.inr (Or.inr (Or.inr ⟨rfl, ht, hw⟩)))) hd hr, hrun, hended, _, _, rfl, hq, ⟨_, rfl⟩, hW, hsame.mono hc hn⟩
theorem Go.retV (X : Stand p l e R s m args below meth c T locs cells slots) (hx : p.tables.exec = Jvm.exec) (hret : meth.sig.returnType = none) (hlk : meth.locks = false) (hd : decode c.code pc = .ok (.return_, 1)) (hq : Q none T.heap locs) (hc : cells ≤ K) (hn : slots ≤ N) : Go p e below (Fin1 s below Q K N) (T.setTop (mkF m pc Ls [])) := by
  obtain ⟨fs, hr, hrun, hended, hW, hsame⟩ := X.leave (v := none) (fun _ => rfl) hlk
  exact ⟨_, _, X.returnOut hx hret hd hr, hrun, hended, _, _, rfl, hq, ⟨_, rfl⟩, hW, hsame.mono hc hn⟩
end GoRet
def Fin2 (s : State) (below : List Frame) (Q : Option Value → Heap → List Loc → Prop) (K N : Nat) (t : State) (o : Outcome) : Prop := t.status = .running ∧ Ended t below o ∧ ∃ v L, o = .returned v ∧ Q v t.heap L ∧ ReturnedEndW s o t L K N
theorem wmono {s t : State} {o : Outcome} {L : List Loc} {k n k' n' : Nat} (h : ReturnedEndW s o t L k n) (h1 : k ≤ k') (h2 : n ≤ n') : ReturnedEndW s o t L k' n' := ⟨h.1, h.2.1, h.2.2.1, h.2.2.2.mono h1 h2⟩
section GoRetW
variable {p : Program} {l : Launch} {e : Env} {R : Room} {s : State} {vm0 : Vm} {m : MethodId} {args : Array Value} {below : List Frame} {meth : Method} {c : Code} {T : State} {locs : List Loc} {cells slots : Nat} {Q : Option Value → Heap → List Loc → Prop} {K N pc k0 : Nat} {Ls : Array Slot} {rest : List Value}
theorem GoW.retZ (X : Stand p l e R (s.setVm vm0) m args below meth c T locs cells slots) (hS : s.Since vm0 k0) (hk : k0 ≤ T.heap.size) (hx : p.tables.exec = Jvm.exec) {z : Int32} {t : FieldType} (hret : meth.sig.returnType = some t) (ht : t = .boolean ∨ t = .byte ∨ t = .char ∨ t = .short) (hlk : meth.locks = false) (hd : decode c.code pc = .ok (.ireturn, 1)) (hq : Q (some (.int (nar t z))) T.heap locs) (hc : cells ≤ K) (hn : slots ≤ N) : Go p e below (Fin2 s below Q K N) (T.setTop (mkF m pc Ls (.int z :: rest))) := by
  obtain ⟨fs, hr, hrun, hended, hW⟩ := X.leaveW hS hk (v := some (.int (nar t z))) (fun h => by rw [hret] at h; cases h) hlk
  exact ⟨_, _, retN X hx hret ht hd hr, hrun, hended, _, _, rfl, hq, wmono hW hc hn⟩
theorem GoW.retI (X : Stand p l e R (s.setVm vm0) m args below meth c T locs cells slots) (hS : s.Since vm0 k0) (hk : k0 ≤ T.heap.size) (hx : p.tables.exec = Jvm.exec) {z : Int32} (hret : meth.sig.returnType = some .int) (hlk : meth.locks = false) (hd : decode c.code pc = .ok (.ireturn, 1)) (hq : Q (some (.int z)) T.heap locs) (hc : cells ≤ K) (hn : slots ≤ N) : Go p e below (Fin2 s below Q K N) (T.setTop (mkF m pc Ls (.int z :: rest))) := by
  obtain ⟨fs, hr, hrun, hended, hW⟩ := X.leaveW hS hk (v := some (.int z)) (fun h => by rw [hret] at h; cases h) hlk
  exact ⟨_, _, Jvm.RoadKit.retI X hx hret hd hr, hrun, hended, _, _, rfl, hq, wmono hW hc hn⟩
theorem GoW.retR (X : Stand p l e R (s.setVm vm0) m args below meth c T locs cells slots) (hS : s.Since vm0 k0) (hk : k0 ≤ T.heap.size) (hx : p.tables.exec = Jvm.exec) {w : Value} {t : FieldType} (hret : meth.sig.returnType = some t) (ht : t.isReference = true) (hw : w.isRef = true) (hlk : meth.locks = false) (hd : decode c.code pc = .ok (.areturn, 1)) (hq : Q (some w) T.heap locs) (hc : cells ≤ K) (hn : slots ≤ N) : Go p e below (Fin2 s below Q K N) (T.setTop (mkF m pc Ls (w :: rest))) := by
  obtain ⟨fs, hr, hrun, hended, hW⟩ := X.leaveW hS hk (v := some w) (fun h => by rw [hret] at h; cases h) hlk
  have hnw : narrow t w = w := by rcases ref_cases hw with rfl | ⟨a, rfl⟩ <;> cases t <;> first | rfl | (cases ht)
  exact ⟨_, _, retOut X hx hret hnw (Or.inr (Or.inr (Or.inr (Or.inr ⟨rfl, ht, hw⟩)))) hd hr, hrun, hended, _, _, rfl, hq, wmono hW hc hn⟩
theorem GoW.retV (X : Stand p l e R (s.setVm vm0) m args below meth c T locs cells slots) (hS : s.Since vm0 k0) (hk : k0 ≤ T.heap.size) (hx : p.tables.exec = Jvm.exec) (hret : meth.sig.returnType = none) (hlk : meth.locks = false) (hd : decode c.code pc = .ok (.return_, 1)) (hq : Q none T.heap locs) (hc : cells ≤ K) (hn : slots ≤ N) : Go p e below (Fin2 s below Q K N) (T.setTop (mkF m pc Ls [])) := by
  obtain ⟨fs, hr, hrun, hended, hW⟩ := X.leaveW hS hk (v := none) (fun _ => rfl) hlk
  exact ⟨_, _, X.returnOut hx hret hd hr, hrun, hended, _, _, rfl, hq, wmono hW hc hn⟩
end GoRetW
theorem wd {a0 : Array Value} {Z : State} (hw : ∀ d ∈ tables_1, d.before a0 Z = true) (i : Nat) {d : Jvm.Cond} (h : tables_1[i]? = some d) : d.before a0 Z = true := hw d (List.mem_of_getElem? h)
theorem sel_priv {Z s : State} {a0 args : Array Value} {y : MethodName} {n : Nat} (hZ : Z.Warmed39 s.vm) (wi : (Jvm.Cond.instantiable y.cls n).before a0 Z = true) (wp : (Jvm.Cond.privateMethod y).before a0 Z = true) (wm : (Jvm.Cond.instanceMethod y).before a0 Z = true) (hy : y.cls ≠ "java/lang/invoke/MethodHandle" ∧ y.cls ≠ "java/lang/invoke/VarHandle") : (Jvm.Cond.selects y.cls y y).before args s = true := by
  obtain ⟨c, k, h1, h2, -, h4, -⟩ := Cond.instantiable_spec (mv (args := args) hZ wi)
  simp only [Bool.or_eq_false_iff] at h4
  exact Jvm.Stand.selects_self_of_private h1 h2 h4.1 (Cond.privateMethod_at (mvP hZ wp (args := args))) (mv hZ wm) hy
theorem old_z0 {Z : State} {n0 : Nat} {h : Heap} (O : Old Z n0 h) : n0 ≤ h.size := O.1 ▸ O.2.1
theorem eq_long {args : Array Value} {s : State} {t : Term} {z : Int64} (h : (Jvm.Cond.eq t (.long z)).value args s none s [] = some true) : t.eval args s none [] s = some (.long z) := by
  simp only [Cond.value, Term.eval] at h
  cases e : t.eval args s none [] s with
  | none => simp [e] at h
  | some v => cases v <;> simp_all
theorem eq_int {args : Array Value} {s : State} {t : Term} {z : Int32} (h : (Jvm.Cond.eq t (.int z)).value args s none s [] = some true) : t.eval args s none [] s = some (.int z) := by
  simp only [Cond.value, Term.eval] at h
  cases e : t.eval args s none [] s with
  | none => simp [e] at h
  | some v => cases v <;> simp_all
abbrev SN (Z : State) (C f d C' f' d' : String) : Prop := Jvm.RoadKit.slotOf Z C f d ≠ Jvm.RoadKit.slotOf Z C' f' d'
abbrev rm (f c s l : Nat) : Room := { frames := f, cells := c, slots := s, locals := l }
section GS
variable {p : Program} {e : Env} {below : List Frame} {R : State → Outcome → Prop} {T : State} {m : MethodId} {c : Code} {pc : Nat} {Ls l' : Array Slot} {rest : List Value}

theorem gs.iload {k : Nat} {v : Int32} (h : At T m c below) (hx : p.tables.exec = Jvm.exec) (hd : decode c.code pc = .ok (.iload k, 2)) (hl : Ls[k]? = some (.val (.int v))) (H : Go p e below R (T.setTop (mkF m (pc + 2) Ls (.int v :: rest)))) : Go p e below R (T.setTop (mkF m pc Ls rest)) := Go.step (fun _ q_ => XS.iload h hx rfl hd hl q_) H
theorem gs.iloadN {k : Fin 4} {v : Int32} (h : At T m c below) (hx : p.tables.exec = Jvm.exec) (hd : decode c.code pc = .ok (.iload_n k, 1)) (hl : Ls[k.val]? = some (.val (.int v))) (H : Go p e below R (T.setTop (mkF m (pc + 1) Ls (.int v :: rest)))) : Go p e below R (T.setTop (mkF m pc Ls rest)) := Go.step (fun _ q_ => XS.iloadN h hx rfl hd hl q_) H
theorem gs.lload {k : Nat} {v : Int64} (h : At T m c below) (hx : p.tables.exec = Jvm.exec) (hd : decode c.code pc = .ok (.lload k, 2)) (hl : Ls[k]? = some (.val (.long v))) (H : Go p e below R (T.setTop (mkF m (pc + 2) Ls (.long v :: rest)))) : Go p e below R (T.setTop (mkF m pc Ls rest)) := Go.step (fun _ q_ => XS.lload h hx rfl hd hl q_) H
theorem gs.lloadN {k : Fin 4} {v : Int64} (h : At T m c below) (hx : p.tables.exec = Jvm.exec) (hd : decode c.code pc = .ok (.lload_n k, 1)) (hl : Ls[k.val]? = some (.val (.long v))) (H : Go p e below R (T.setTop (mkF m (pc + 1) Ls (.long v :: rest)))) : Go p e below R (T.setTop (mkF m pc Ls rest)) := Go.step (fun _ q_ => XS.lloadN h hx rfl hd hl q_) H
theorem gs.aload {k : Nat} {v : Value} (h : At T m c below) (hx : p.tables.exec = Jvm.exec) (hd : decode c.code pc = .ok (.aload k, 2)) (hl : Ls[k]? = some (.val v)) (hv : v.isRef = true) (H : Go p e below R (T.setTop (mkF m (pc + 2) Ls (v :: rest)))) : Go p e below R (T.setTop (mkF m pc Ls rest)) := Go.step (fun _ q_ => XS.aload h hx rfl hd hl hv q_) H
theorem gs.aloadN {k : Fin 4} {v : Value} (h : At T m c below) (hx : p.tables.exec = Jvm.exec) (hd : decode c.code pc = .ok (.aload_n k, 1)) (hl : Ls[k.val]? = some (.val v)) (hv : v.isRef = true) (H : Go p e below R (T.setTop (mkF m (pc + 1) Ls (v :: rest)))) : Go p e below R (T.setTop (mkF m pc Ls rest)) := Go.step (fun _ q_ => XS.aloadN h hx rfl hd hl hv q_) H
theorem gs.istore {k : Nat} {v : Int32} (h : At T m c below) (hx : p.tables.exec = Jvm.exec) (hd : decode c.code pc = .ok (.istore k, 2)) (hl : storeLocals Ls k (.int v) = some l') (H : Go p e below R (T.setTop (mkF m (pc + 2) l' rest))) : Go p e below R (T.setTop (mkF m pc Ls (.int v :: rest))) := Go.step (fun _ q_ => XS.istore h hx rfl hd rfl hl q_) H
theorem gs.istoreN {k : Fin 4} {v : Int32} (h : At T m c below) (hx : p.tables.exec = Jvm.exec) (hd : decode c.code pc = .ok (.istore_n k, 1)) (hl : storeLocals Ls k.val (.int v) = some l') (H : Go p e below R (T.setTop (mkF m (pc + 1) l' rest))) : Go p e below R (T.setTop (mkF m pc Ls (.int v :: rest))) := Go.step (fun _ q_ => XS.istoreN h hx rfl hd rfl hl q_) H
theorem gs.lstore {k : Nat} {v : Int64} (h : At T m c below) (hx : p.tables.exec = Jvm.exec) (hd : decode c.code pc = .ok (.lstore k, 2)) (hl : storeLocals Ls k (.long v) = some l') (H : Go p e below R (T.setTop (mkF m (pc + 2) l' rest))) : Go p e below R (T.setTop (mkF m pc Ls (.long v :: rest))) := Go.step (fun _ q_ => XS.lstore h hx rfl hd rfl hl q_) H
theorem gs.lstoreN {k : Fin 4} {v : Int64} (h : At T m c below) (hx : p.tables.exec = Jvm.exec) (hd : decode c.code pc = .ok (.lstore_n k, 1)) (hl : storeLocals Ls k.val (.long v) = some l') (H : Go p e below R (T.setTop (mkF m (pc + 1) l' rest))) : Go p e below R (T.setTop (mkF m pc Ls (.long v :: rest))) := Go.step (fun _ q_ => XS.lstoreN h hx rfl hd rfl hl q_) H
theorem gs.astore {k : Nat} {v : Value} (h : At T m c below) (hx : p.tables.exec = Jvm.exec) (hd : decode c.code pc = .ok (.astore k, 2)) (hv : v.isRef = true) (hl : storeLocals Ls k (v) = some l') (H : Go p e below R (T.setTop (mkF m (pc + 2) l' rest))) : Go p e below R (T.setTop (mkF m pc Ls (v :: rest))) := Go.step (fun _ q_ => XS.astore h hx rfl hd rfl hv hl q_) H
theorem gs.astoreN {k : Fin 4} {v : Value} (h : At T m c below) (hx : p.tables.exec = Jvm.exec) (hd : decode c.code pc = .ok (.astore_n k, 1)) (hv : v.isRef = true) (hl : storeLocals Ls k.val (v) = some l') (H : Go p e below R (T.setTop (mkF m (pc + 1) l' rest))) : Go p e below R (T.setTop (mkF m pc Ls (v :: rest))) := Go.step (fun _ q_ => XS.astoreN h hx rfl hd rfl hv hl q_) H
theorem gs.iconst {i : Int} (z : Int32) (h : At T m c below) (hx : p.tables.exec = Jvm.exec) (hd : decode c.code pc = .ok (.iconst i, 1)) (hz : Int32.ofInt i = z) (H : Go p e below R (T.setTop (mkF m (pc + 1) Ls (.int z :: rest)))) : Go p e below R (T.setTop (mkF m pc Ls rest)) := Go.step (fun _ q_ => XS.iconst h hx rfl hd (by rw [hz]; exact q_)) H
theorem gs.bipush {i : Int} (z : Int32) (h : At T m c below) (hx : p.tables.exec = Jvm.exec) (hd : decode c.code pc = .ok (.bipush i, 2)) (hz : (Int8.ofInt i).toInt32 = z) (H : Go p e below R (T.setTop (mkF m (pc + 2) Ls (.int z :: rest)))) : Go p e below R (T.setTop (mkF m pc Ls rest)) := Go.step (fun _ q_ => XS.bipush h hx rfl hd (by rw [hz]; exact q_)) H
theorem gs.sipush {i : Int} (z : Int32) (h : At T m c below) (hx : p.tables.exec = Jvm.exec) (hd : decode c.code pc = .ok (.sipush i, 3)) (hz : (Int16.ofInt i).toInt32 = z) (H : Go p e below R (T.setTop (mkF m (pc + 3) Ls (.int z :: rest)))) : Go p e below R (T.setTop (mkF m pc Ls rest)) := Go.step (fun _ q_ => XS.sipush h hx rfl hd (by rw [hz]; exact q_)) H
theorem gs.aconstNull  (h : At T m c below) (hx : p.tables.exec = Jvm.exec) (hd : decode c.code pc = .ok (.aconst_null, 1)) (H : Go p e below R (T.setTop (mkF m (pc + 1) Ls (.null :: rest)))) : Go p e below R (T.setTop (mkF m pc Ls rest)) := Go.step (fun _ q_ => XS.aconstNull h hx rfl hd q_) H
theorem gs.iadd {x y : Int32} (h : At T m c below) (hx : p.tables.exec = Jvm.exec) (hd : decode c.code pc = .ok (.iadd, 1)) (H : Go p e below R (T.setTop (mkF m (pc + 1) Ls (.int (x + y) :: rest)))) : Go p e below R (T.setTop (mkF m pc Ls (.int y :: .int x :: rest))) := Go.step (fun _ q_ => XS.iadd h hx rfl hd rfl q_) H
theorem gs.ladd {x y : Int64} (h : At T m c below) (hx : p.tables.exec = Jvm.exec) (hd : decode c.code pc = .ok (.ladd, 1)) (H : Go p e below R (T.setTop (mkF m (pc + 1) Ls (.long (x + y) :: rest)))) : Go p e below R (T.setTop (mkF m pc Ls (.long y :: .long x :: rest))) := Go.step (fun _ q_ => XS.ladd h hx rfl hd rfl q_) H
theorem gs.isub {x y : Int32} (h : At T m c below) (hx : p.tables.exec = Jvm.exec) (hd : decode c.code pc = .ok (.isub, 1)) (H : Go p e below R (T.setTop (mkF m (pc + 1) Ls (.int (x - y) :: rest)))) : Go p e below R (T.setTop (mkF m pc Ls (.int y :: .int x :: rest))) := Go.step (fun _ q_ => XS.isub h hx rfl hd rfl q_) H
theorem gs.lsub {x y : Int64} (h : At T m c below) (hx : p.tables.exec = Jvm.exec) (hd : decode c.code pc = .ok (.lsub, 1)) (H : Go p e below R (T.setTop (mkF m (pc + 1) Ls (.long (x - y) :: rest)))) : Go p e below R (T.setTop (mkF m pc Ls (.long y :: .long x :: rest))) := Go.step (fun _ q_ => XS.lsub h hx rfl hd rfl q_) H
theorem gs.imul {x y : Int32} (h : At T m c below) (hx : p.tables.exec = Jvm.exec) (hd : decode c.code pc = .ok (.imul, 1)) (H : Go p e below R (T.setTop (mkF m (pc + 1) Ls (.int (x * y) :: rest)))) : Go p e below R (T.setTop (mkF m pc Ls (.int y :: .int x :: rest))) := Go.step (fun _ q_ => XS.imul h hx rfl hd rfl q_) H
theorem gs.lmul {x y : Int64} (h : At T m c below) (hx : p.tables.exec = Jvm.exec) (hd : decode c.code pc = .ok (.lmul, 1)) (H : Go p e below R (T.setTop (mkF m (pc + 1) Ls (.long (x * y) :: rest)))) : Go p e below R (T.setTop (mkF m pc Ls (.long y :: .long x :: rest))) := Go.step (fun _ q_ => XS.lmul h hx rfl hd rfl q_) H
theorem gs.iand {x y : Int32} (h : At T m c below) (hx : p.tables.exec = Jvm.exec) (hd : decode c.code pc = .ok (.iand, 1)) (H : Go p e below R (T.setTop (mkF m (pc + 1) Ls (.int (x &&& y) :: rest)))) : Go p e below R (T.setTop (mkF m pc Ls (.int y :: .int x :: rest))) := Go.step (fun _ q_ => XS.iand h hx rfl hd rfl q_) H
theorem gs.land {x y : Int64} (h : At T m c below) (hx : p.tables.exec = Jvm.exec) (hd : decode c.code pc = .ok (.land, 1)) (H : Go p e below R (T.setTop (mkF m (pc + 1) Ls (.long (x &&& y) :: rest)))) : Go p e below R (T.setTop (mkF m pc Ls (.long y :: .long x :: rest))) := Go.step (fun _ q_ => XS.land h hx rfl hd rfl q_) H
theorem gs.ior {x y : Int32} (h : At T m c below) (hx : p.tables.exec = Jvm.exec) (hd : decode c.code pc = .ok (.ior, 1)) (H : Go p e below R (T.setTop (mkF m (pc + 1) Ls (.int (x ||| y) :: rest)))) : Go p e below R (T.setTop (mkF m pc Ls (.int y :: .int x :: rest))) := Go.step (fun _ q_ => XS.ior h hx rfl hd rfl q_) H
theorem gs.lor {x y : Int64} (h : At T m c below) (hx : p.tables.exec = Jvm.exec) (hd : decode c.code pc = .ok (.lor, 1)) (H : Go p e below R (T.setTop (mkF m (pc + 1) Ls (.long (x ||| y) :: rest)))) : Go p e below R (T.setTop (mkF m pc Ls (.long y :: .long x :: rest))) := Go.step (fun _ q_ => XS.lor h hx rfl hd rfl q_) H
theorem gs.ixor {x y : Int32} (h : At T m c below) (hx : p.tables.exec = Jvm.exec) (hd : decode c.code pc = .ok (.ixor, 1)) (H : Go p e below R (T.setTop (mkF m (pc + 1) Ls (.int (x ^^^ y) :: rest)))) : Go p e below R (T.setTop (mkF m pc Ls (.int y :: .int x :: rest))) := Go.step (fun _ q_ => XS.ixor h hx rfl hd rfl q_) H
theorem gs.lxor {x y : Int64} (h : At T m c below) (hx : p.tables.exec = Jvm.exec) (hd : decode c.code pc = .ok (.lxor, 1)) (H : Go p e below R (T.setTop (mkF m (pc + 1) Ls (.long (x ^^^ y) :: rest)))) : Go p e below R (T.setTop (mkF m pc Ls (.long y :: .long x :: rest))) := Go.step (fun _ q_ => XS.lxor h hx rfl hd rfl q_) H
theorem gs.dup {x : Value} (h : At T m c below) (hx : p.tables.exec = Jvm.exec) (hd : decode c.code pc = .ok (.dup, 1)) (hc : x.category = 1) (H : Go p e below R (T.setTop (mkF m (pc + 1) Ls (x :: x :: rest)))) : Go p e below R (T.setTop (mkF m pc Ls (x :: rest))) := Go.step (fun _ q_ => XS.dup h hx rfl hd rfl hc q_) H
theorem gs.pop {x : Value} (h : At T m c below) (hx : p.tables.exec = Jvm.exec) (hd : decode c.code pc = .ok (.pop, 1)) (hc : x.category = 1) (H : Go p e below R (T.setTop (mkF m (pc + 1) Ls rest))) : Go p e below R (T.setTop (mkF m pc Ls (x :: rest))) := Go.step (fun _ q_ => XS.pop h hx rfl hd rfl hc q_) H
theorem gs.dup2 {x y : Value} (h : At T m c below) (hx : p.tables.exec = Jvm.exec) (hd : decode c.code pc = .ok (.dup2, 1)) (hc : x.category = 1) (hc' : y.category = 1) (H : Go p e below R (T.setTop (mkF m (pc + 1) Ls (x :: y :: x :: y :: rest)))) : Go p e below R (T.setTop (mkF m pc Ls (x :: y :: rest))) := Go.step (fun _ q_ => XT.dup2 h hx rfl hd rfl hc hc' q_) H
theorem gs.goto {o : Int} (q : Nat) (h : At T m c below) (hx : p.tables.exec = Jvm.exec) (hd : decode c.code pc = .ok (.goto o, 3)) (hp : (pc : Int) + o = (q : Int)) (H : Go p e below R (T.setTop (mkF m q Ls rest))) : Go p e below R (T.setTop (mkF m pc Ls rest)) := Go.step (fun _ q_ => XS.goto h hx rfl rfl hd (by rw [hp]; exact Int.natCast_nonneg _) (by rw [hp]; rfl) q_) H
theorem gs.ifYes {cd : ClassFile.Cond} {x : Int32} {o : Int} (q : Nat) (h : At T m c below) (hx : p.tables.exec = Jvm.exec) (hd : decode c.code pc = .ok (.ifCond cd o, 3)) (hc : ifCond.holds cd x = true) (hp : (pc : Int) + o = (q : Int)) (H : Go p e below R (T.setTop (mkF m q Ls rest))) : Go p e below R (T.setTop (mkF m pc Ls (.int x :: rest))) := Go.step (fun _ q_ => XS.ifYes h hx rfl rfl hd rfl hc (by rw [hp]; exact Int.natCast_nonneg _) (by rw [hp]; rfl) q_) H
theorem gs.ifNo {cd : ClassFile.Cond} {x : Int32} {o : Int} (h : At T m c below) (hx : p.tables.exec = Jvm.exec) (hd : decode c.code pc = .ok (.ifCond cd o, 3)) (hc : ifCond.holds cd x = false) (H : Go p e below R (T.setTop (mkF m (pc + 3) Ls rest))) : Go p e below R (T.setTop (mkF m pc Ls (.int x :: rest))) := Go.step (fun _ q_ => XS.ifNo h hx rfl hd rfl hc q_) H
theorem gs.icmpYes {cd : ClassFile.Cond} {x y : Int32} {o : Int} (q : Nat) (h : At T m c below) (hx : p.tables.exec = Jvm.exec) (hd : decode c.code pc = .ok (.if_icmp cd o, 3)) (hc : if_icmp.holds cd x y = true) (hp : (pc : Int) + o = (q : Int)) (H : Go p e below R (T.setTop (mkF m q Ls rest))) : Go p e below R (T.setTop (mkF m pc Ls (.int y :: .int x :: rest))) := Go.step (fun _ q_ => XS.icmpYes h hx rfl rfl hd rfl hc (by rw [hp]; exact Int.natCast_nonneg _) (by rw [hp]; rfl) q_) H
theorem gs.icmpNo {cd : ClassFile.Cond} {x y : Int32} {o : Int} (h : At T m c below) (hx : p.tables.exec = Jvm.exec) (hd : decode c.code pc = .ok (.if_icmp cd o, 3)) (hc : if_icmp.holds cd x y = false) (H : Go p e below R (T.setTop (mkF m (pc + 3) Ls rest))) : Go p e below R (T.setTop (mkF m pc Ls (.int y :: .int x :: rest))) := Go.step (fun _ q_ => XS.icmpNo h hx rfl hd rfl hc q_) H
theorem Go.fin {T' : State} {stk S' : List Value} {q : Nat} (k : ∀ t, Steps p.tables e below (T'.setTop { mkF m pc Ls stk with pc := q, stack := S' }) t → Steps p.tables e below (T.setTop (mkF m pc Ls stk)) t) (H : Go p e below R (T'.setTop (mkF m q Ls S'))) : Go p e below R (T.setTop (mkF m pc Ls stk)) := Go.step k H
end GS
section GS2
variable {p : Program} {l : Launch} {e : Env} {Rm : Room} {s : State} {m : MethodId} {args : Array Value} {below : List Frame} {meth : Method} {c : Code} {T : State} {locs : List Loc} {cells slots : Nat} {Z : State} {a0 : Array Value} {h : Heap} {R : State → Outcome → Prop} {pc : Nat} {Ls : Array Slot} {rest : List Value}
theorem gs.getF (X : Stand p l e Rm s m args below meth c T locs cells slots) (hx : p.tables.exec = Jvm.exec) (hZ : Z.Warmed39 s.vm) {own R0 O n d : String} {index : Nat} (hown : s.vm.findClass own = some m.cls) (w : (Cond.fieldLink own index R0 n d).before a0 Z = true) (via : Via Z R0 O n d) (eT : T.heap = h) {a : Addr} {v : Value} (F : Fld Z h a O n d v) (hd : decode c.code pc = .ok (.getfield index, 3)) (H : ∀ T', Stand p l e Rm s m args below meth c T' locs cells slots → T'.heap = h → Go p e below R (T'.setTop (mkF m (pc + 3) Ls (v :: rest)))) : Go p e below R (T.setTop (mkF m pc Ls (.ref a :: rest))) := by
  obtain ⟨T', X', e', k⟩ := Jvm.RoadKit.getF X hx hZ hown (host := "") (Or.inl w) via eT F (g := mkF m pc Ls (.ref a :: rest)) rfl rfl hd
  exact Go.step k (H T' X' e')
theorem gs.getN (X : Stand p l e Rm s m args below meth c T locs cells slots) (hx : p.tables.exec = Jvm.exec) (hZ : Z.Warmed39 s.vm) {own R0 O n d host : String} {index : Nat} (hown : s.vm.findClass own = some m.cls) (w : (Cond.fieldLinkNest own index R0 n d host).before a0 Z = true) (via : Via Z R0 O n d) (eT : T.heap = h) {a : Addr} {v : Value} (F : Fld Z h a O n d v) (hd : decode c.code pc = .ok (.getfield index, 3)) (H : ∀ T', Stand p l e Rm s m args below meth c T' locs cells slots → T'.heap = h → Go p e below R (T'.setTop (mkF m (pc + 3) Ls (v :: rest)))) : Go p e below R (T.setTop (mkF m pc Ls (.ref a :: rest))) := by
  obtain ⟨T', X', e', k⟩ := Jvm.RoadKit.getF X hx hZ hown (Or.inr w) via eT F (g := mkF m pc Ls (.ref a :: rest)) rfl rfl hd
  exact Go.step k (H T' X' e')
end GS2
section GS3
variable {p : Program} {l : Launch} {e : Env} {Rm : Room} {s : State} {m : MethodId} {args : Array Value} {below : List Frame} {meth : Method} {c : Code} {T : State} {locs : List Loc} {cells slots : Nat} {Z : State} {a0 : Array Value} {h : Heap} {R : State → Outcome → Prop} {pc : Nat} {Ls : Array Slot} {rest stk argsL : List Value} {own C : String} {index count : Nat} {y z : MethodName} {bytes : ByteArray} {maxL : Nat} {ret : Option FieldType} {rm : Room} {as' : Array Value} {Q : Option Value → Heap → List Loc → Prop} {b : Addr}

theorem gs.stat (W : Nat) (X : Stand p l e Rm s m args below meth c T locs cells slots) (hx : p.tables.exec = Jvm.exec) (hZ : Z.Warmed39 s.vm) (hown : s.vm.findClass own = some m.cls) (hM : MetFree l y (head1 [Cond.code y bytes maxL ret] rm) (fun a U => a = as' ∧ Z.Warmed39 U.vm ∧ U.heap = h) (fun _ _ _ _ _ => True) (fun _ U o U' => ∃ v L, o = .returned v ∧ Q v U'.heap L ∧ FrameEnd U o U' L rm.cells rm.slots)) (wc : (Cond.code y bytes maxL ret).before a0 Z = true) (wz : (Cond.initialized y.cls).before a0 Z = true) (w1 : (Cond.methodLink own index y).before a0 Z = true) (w2 : (Cond.static y).before a0 Z = true) (hy : y.cls ≠ "java/lang/invoke/MethodHandle" ∧ y.cls ≠ "java/lang/invoke/VarHandle") (hf : rm.frames + 1 ≤ Rm.frames) (hl : W + (maxL + 11) + rm.locals ≤ Rm.locals) (hml : Ls.size = c.maxLocals) (argsL : List Value) (hlen : ∀ sig, parseMethodDescriptor y.desc = some sig → argsL.length = sig.parameters.length) (hst : stk = argsL.reverse ++ rest) (hW : (rest.map fun v => v.category).sum ≤ W) (hd : decode c.code pc = .ok (.invokestatic index, 3)) (has : (argsL).toArray = as') (eT : T.heap = h) (hc : cells + rm.cells ≤ Rm.cells) (hs : slots + rm.slots ≤ Rm.slots) (H : ∀ (T' : State) (Lc : List Loc) (v : Option Value), Stand p l e Rm s m args below meth c T' (locs ++ Lc) (cells + rm.cells) (slots + rm.slots) → Q v T'.heap Lc → Go p e below R (T'.setTop (mkF m (pc + 3) Ls (v.toList ++ rest)))) : Go p e below R (T.setTop (mkF m pc Ls stk)) := by
  obtain ⟨v, _, ⟨T', L', k', n'⟩, -, X', ⟨Lc, hQ, l1, l2, l3⟩, st⟩ := Jvm.LawKit.callS X hx hown (mvT hZ w1) (mvT hZ w2) (mvT hZ wz) (mvT hZ wc) hy (backOf (W := W) hM hZ wc wz hf hl) (g := mkF m pc Ls stk) rfl hml (argsL := argsL) (rest := rest) hlen hst (by show 2 * 0 + _ ≤ _; omega) hd (fun _ _ => ⟨has, eT, hc, hs⟩)
  dsimp only [Pt.U, Pt.locs, Pt.cells, Pt.slots] at X' l1 l2 l3 st hQ
  subst l1 l2 l3
  exact Go.step st (H T' Lc v X' hQ)
theorem gs.init (W : Nat) (X : Stand p l e Rm s m args below meth c T locs cells slots) (hx : p.tables.exec = Jvm.exec) (hZ : Z.Warmed39 s.vm) (hown : s.vm.findClass own = some m.cls) (hM : MetFree l y (head1 [Cond.code y bytes maxL none] rm) (fun a U => a = as' ∧ Z.Warmed39 U.vm ∧ U.heap = h) (fun _ _ _ _ _ => True) (fun _ U o U' => ∃ v L, o = .returned v ∧ Q v U'.heap L ∧ FrameEnd U o U' L rm.cells rm.slots)) (wc : (Cond.code y bytes maxL none).before a0 Z = true) (wz : (Cond.initialized y.cls).before a0 Z = true) (w1 : (Cond.methodLink own index y).before a0 Z = true) (h1 : y.name = "<init>") (w2 : (Cond.instanceMethod y).before a0 Z = true) (hy : y.cls ≠ "java/lang/invoke/MethodHandle" ∧ y.cls ≠ "java/lang/invoke/VarHandle") (hf : rm.frames + 1 ≤ Rm.frames) (hl : W + (maxL + 11) + rm.locals ≤ Rm.locals) (hml : Ls.size = c.maxLocals) (argsL : List Value) (hlen : ∀ sig, parseMethodDescriptor y.desc = some sig → argsL.length = sig.parameters.length) (hst : stk = argsL.reverse ++ .ref b :: rest) (hW : (rest.map fun v => v.category).sum ≤ W) (hd : decode c.code pc = .ok (.invokespecial index, 3)) (has : (.ref b :: argsL).toArray = as') (eT : T.heap = h) (hc : cells + rm.cells ≤ Rm.cells) (hs : slots + rm.slots ≤ Rm.slots) (H : ∀ (T' : State) (Lc : List Loc) (v : Option Value), Stand p l e Rm s m args below meth c T' (locs ++ Lc) (cells + rm.cells) (slots + rm.slots) → Q v T'.heap Lc → Go p e below R (T'.setTop (mkF m (pc + 3) Ls (v.toList ++ rest)))) : Go p e below R (T.setTop (mkF m pc Ls stk)) := by
  obtain ⟨v, _, ⟨T', L', k', n'⟩, -, X', ⟨Lc, hQ, l1, l2, l3⟩, st⟩ := X.specialBack hx h1 hown (mvT hZ w1) (mvT hZ w2) (mvT hZ wc) hy (backOf (W := W) hM hZ wc wz hf hl) (g := mkF m pc Ls stk) rfl hml (Steps.refl _) (a := b) (argsL := argsL) (rest := rest) hlen hst (by show 2 * 0 + _ ≤ _; omega) hd (fun _ _ => ⟨has, eT, hc, hs⟩)
  dsimp only [Pt.U, Pt.locs, Pt.cells, Pt.slots] at X' l1 l2 l3 st hQ
  subst l1 l2 l3
  exact Go.step (fun _ k => st.trans k) (H T' Lc v X' hQ)
theorem gs.priv (W : Nat) (X : Stand p l e Rm s m args below meth c T locs cells slots) (hx : p.tables.exec = Jvm.exec) (hZ : Z.Warmed39 s.vm) (hown : s.vm.findClass own = some m.cls) (hM : MetFree l y (head1 [Cond.code y bytes maxL ret] rm) (fun a U => a = as' ∧ Z.Warmed39 U.vm ∧ U.heap = h) (fun _ _ _ _ _ => True) (fun _ U o U' => ∃ v L, o = .returned v ∧ Q v U'.heap L ∧ FrameEnd U o U' L rm.cells rm.slots)) (wc : (Cond.code y bytes maxL ret).before a0 Z = true) (wz : (Cond.initialized y.cls).before a0 Z = true) (w1 : (Cond.methodLink own index y).before a0 Z = true) (w2 : (Cond.instanceMethod y).before a0 Z = true) (hsel : (Cond.selects y.cls y y).before args s = true) (w3 : (Cond.privateMethod y).before a0 Z = true) (hy : y.cls ≠ "java/lang/invoke/MethodHandle" ∧ y.cls ≠ "java/lang/invoke/VarHandle") (E : Exa Z h b C) (hf : rm.frames + 1 ≤ Rm.frames) (hl : W + (maxL + 11) + rm.locals ≤ Rm.locals) (hml : Ls.size = c.maxLocals) (argsL : List Value) (hlen : ∀ sig, parseMethodDescriptor y.desc = some sig → argsL.length = sig.parameters.length) (hst : stk = argsL.reverse ++ .ref b :: rest) (hW : (rest.map fun v => v.category).sum ≤ W) (hd : decode c.code pc = .ok (.invokevirtual index, 3)) (has : (.ref b :: argsL).toArray = as') (eT : T.heap = h) (hc : cells + rm.cells ≤ Rm.cells) (hs : slots + rm.slots ≤ Rm.slots) (H : ∀ (T' : State) (Lc : List Loc) (v : Option Value), Stand p l e Rm s m args below meth c T' (locs ++ Lc) (cells + rm.cells) (slots + rm.slots) → Q v T'.heap Lc → Go p e below R (T'.setTop (mkF m (pc + 3) Ls (v.toList ++ rest)))) : Go p e below R (T.setTop (mkF m pc Ls stk)) := by
  obtain ⟨cq, q, q'⟩ := E.cell
  obtain ⟨v, _, ⟨T', L', k', n'⟩, -, X', ⟨Lc, hQ, l1, l2, l3⟩, st⟩ := X.privateBack hx hown (mvT hZ w1) (mvT hZ w2) hsel (Cond.privateMethod_at (mvP hZ w3 (args := #[]))) (mvT hZ wc) hy (backOf (W := W) hM hZ wc wz hf hl) (g := mkF m pc Ls stk) rfl hml (Steps.refl _) (a := b) (by rw [eT]; exact q) q' (argsL := argsL) (rest := rest) hlen hst (by show 2 * 0 + _ ≤ _; omega) hd (fun _ _ => ⟨has, eT, hc, hs⟩)
  dsimp only [Pt.U, Pt.locs, Pt.cells, Pt.slots] at X' l1 l2 l3 st hQ
  subst l1 l2 l3
  exact Go.step (fun _ k => st.trans k) (H T' Lc v X' hQ)
theorem gs.virt (W : Nat) (X : Stand p l e Rm s m args below meth c T locs cells slots) (hx : p.tables.exec = Jvm.exec) (hZ : Z.Warmed39 s.vm) (hown : s.vm.findClass own = some m.cls) (hM : MetFree l z (head1 [Cond.code z bytes maxL ret] rm) (fun a U => a = as' ∧ Z.Warmed39 U.vm ∧ U.heap = h) (fun _ _ _ _ _ => True) (fun _ U o U' => ∃ v L, o = .returned v ∧ Q v U'.heap L ∧ FrameEnd U o U' L rm.cells rm.slots)) (wc : (Cond.code z bytes maxL ret).before a0 Z = true) (wz : (Cond.initialized z.cls).before a0 Z = true) (w1 : (Cond.methodLink own index y).before a0 Z = true) (w2 : (Cond.declares y).before a0 Z = true) (hnf : NotFace s y) (w3 : (Cond.selects C y z).before a0 Z = true) (w4 : (Cond.instanceMethod z).before a0 Z = true) (hy : y.cls ≠ "java/lang/invoke/MethodHandle" ∧ y.cls ≠ "java/lang/invoke/VarHandle") (E : Exa Z h b C) (hf : rm.frames + 1 ≤ Rm.frames) (hl : W + (maxL + 11) + rm.locals ≤ Rm.locals) (hml : Ls.size = c.maxLocals) (argsL : List Value) (hlen : ∀ sig, parseMethodDescriptor y.desc = some sig → argsL.length = sig.parameters.length) (hst : stk = argsL.reverse ++ .ref b :: rest) (hW : (rest.map fun v => v.category).sum ≤ W) (hd : decode c.code pc = .ok (.invokevirtual index, 3)) (has : (.ref b :: argsL).toArray = as') (eT : T.heap = h) (hc : cells + rm.cells ≤ Rm.cells) (hs : slots + rm.slots ≤ Rm.slots) (H : ∀ (T' : State) (Lc : List Loc) (v : Option Value), Stand p l e Rm s m args below meth c T' (locs ++ Lc) (cells + rm.cells) (slots + rm.slots) → Q v T'.heap Lc → Go p e below R (T'.setTop (mkF m (pc + 3) Ls (v.toList ++ rest)))) : Go p e below R (T.setTop (mkF m pc Ls stk)) := by
  obtain ⟨cq, kq, qa, qb, qc⟩ := isOf hZ eT E
  obtain ⟨v, _, ⟨T', L', k', n'⟩, -, X', ⟨Lc, hQ, l1, l2, l3⟩, st⟩ := X.virtualBack hx hown (mvT hZ w1) (mvT hZ w2) hnf (mvT hZ w3) (mvT hZ w4) hy (backOf (W := W) hM hZ wc wz hf hl) qa qc (g := mkF m pc Ls stk) rfl hml (Steps.refl _) (argsL := argsL) (rest := rest) hlen hst (by show 2 * 0 + _ ≤ _; omega) hd (fun _ _ => ⟨has, eT, hc, hs⟩)
  dsimp only [Pt.U, Pt.locs, Pt.cells, Pt.slots] at X' l1 l2 l3 st hQ
  subst l1 l2 l3
  exact Go.step (fun _ k => st.trans k) (H T' Lc v X' hQ)
theorem gs.face (W : Nat) (X : Stand p l e Rm s m args below meth c T locs cells slots) (hx : p.tables.exec = Jvm.exec) (hZ : Z.Warmed39 s.vm) (hown : s.vm.findClass own = some m.cls) (hM : MetFree l z (head1 [Cond.code z bytes maxL ret] rm) (fun a U => a = as' ∧ Z.Warmed39 U.vm ∧ U.heap = h) (fun _ _ _ _ _ => True) (fun _ U o U' => ∃ v L, o = .returned v ∧ Q v U'.heap L ∧ FrameEnd U o U' L rm.cells rm.slots)) (wc : (Cond.code z bytes maxL ret).before a0 Z = true) (wz : (Cond.initialized z.cls).before a0 Z = true) (w1 : (Cond.methodLink own index y).before a0 Z = true) (w2 : (Cond.declares y).before a0 Z = true) (w3 : (Cond.interfaceMethod y.cls y.cls y.name y.desc).before args s = true) (w4 : (Cond.selects C y z).before a0 Z = true) (w5 : (Cond.instanceMethod z).before a0 Z = true) (w6 : (Cond.publicMethod z).before a0 Z = true) (w7 : (Cond.unhidden C y.name y.desc).before a0 Z = true) (w8 : (Cond.castable C y.cls).before a0 Z = true) (hy : y.cls ≠ "java/lang/invoke/MethodHandle" ∧ y.cls ≠ "java/lang/invoke/VarHandle") (E : Exa Z h b C) (hf : rm.frames + 1 ≤ Rm.frames) (hl : W + (maxL + 11) + rm.locals ≤ Rm.locals) (hml : Ls.size = c.maxLocals) (argsL : List Value) (hlen : ∀ sig, parseMethodDescriptor y.desc = some sig → argsL.length = sig.parameters.length) (hst : stk = argsL.reverse ++ .ref b :: rest) (hW : (rest.map fun v => v.category).sum ≤ W) (hd : decode c.code pc = .ok (.invokeinterface index count, 5)) (has : (.ref b :: argsL).toArray = as') (eT : T.heap = h) (hc : cells + rm.cells ≤ Rm.cells) (hs : slots + rm.slots ≤ Rm.slots) (H : ∀ (T' : State) (Lc : List Loc) (v : Option Value), Stand p l e Rm s m args below meth c T' (locs ++ Lc) (cells + rm.cells) (slots + rm.slots) → Q v T'.heap Lc → Go p e below R (T'.setTop (mkF m (pc + 5) Ls (v.toList ++ rest)))) : Go p e below R (T.setTop (mkF m pc Ls stk)) := by
  obtain ⟨cq, kq, qa, qb, qc⟩ := isOf hZ eT E
  obtain ⟨v, _, ⟨T', L', k', n'⟩, -, X', ⟨Lc, hQ, l1, l2, l3⟩, st⟩ := X.interfaceBack hx hown (mvT hZ w1) (mvT hZ w2) w3 (mvT hZ w4) (mvT hZ w5) (mvT hZ w6) (mvT hZ w7) (mvT hZ w8) hy (backOf (W := W) hM hZ wc wz hf hl) qa qb qc (g := mkF m pc Ls stk) rfl hml (Steps.refl _) (argsL := argsL) (rest := rest) hlen hst (by show 2 * 0 + _ ≤ _; omega) hd (fun _ _ => ⟨has, eT, hc, hs⟩)
  dsimp only [Pt.U, Pt.locs, Pt.cells, Pt.slots] at X' l1 l2 l3 st hQ
  subst l1 l2 l3
  exact Go.step (fun _ k => st.trans k) (H T' Lc v X' hQ)
end GS3
abbrev y_1 : MethodName := ⟨"com/example/monarc/monarc/DomainsTotalSizePinLaw", "size", "(I)J"⟩
abbrev c_1 : ByteArray := method_2_code
abbrev y_2 : MethodName := ⟨"com/example/monarc/monarc/InitialDomain", "range", "(II)Lcom/example/monarc/monarc/InitialDomain;"⟩
abbrev c_2 : ByteArray := prog_20_method_2_code
abbrev y_3 : MethodName := ⟨"com/example/monarc/monarc/InitialDomain", "<init>", "(IJ[I)V"⟩
abbrev c_3 : ByteArray := prog_20_method_1_code
abbrev y_4 : MethodName := ⟨"java/lang/Object", "<init>", "()V"⟩
abbrev c_4 : ByteArray := object_method_1_code
abbrev y_5 : MethodName := ⟨"com/example/monarc/monarc/Variable", "<init>", "(Ljava/lang/String;ILcom/example/monarc/monarc/InitialDomain;)V"⟩
abbrev c_5 : ByteArray := prog_76_method_1_code
abbrev y_6 : MethodName := ⟨"com/example/monarc/monarc/Term", "<init>", "()V"⟩
abbrev c_6 : ByteArray := prog_70_method_1_code
abbrev y_7 : MethodName := ⟨"java/util/ArrayList", "<init>", "()V"⟩
abbrev c_7 : ByteArray := jdk_38_method_2_code
abbrev y_8 : MethodName := ⟨"java/util/AbstractList", "<init>", "()V"⟩
abbrev c_8 : ByteArray := jdk_39_method_1_code
abbrev y_9 : MethodName := ⟨"java/util/AbstractCollection", "<init>", "()V"⟩
abbrev c_9 : ByteArray := jdk_22_method_1_code
abbrev y_10 : MethodName := ⟨"com/example/monarc/monarc/Domains", "<init>", "(Ljava/util/List;)V"⟩
abbrev c_10 : ByteArray := prog_11_method_1_code
abbrev y_11 : MethodName := ⟨"java/util/ArrayList", "size", "()I"⟩
abbrev c_11 : ByteArray := jdk_38_method_8_code
abbrev y_12 : MethodName := ⟨"com/example/monarc/monarc/Domains", "totalSize", "()J"⟩
abbrev c_12 : ByteArray := prog_11_method_5_code
abbrev y_13 : MethodName := ⟨"java/util/ArrayList", "add", "(Ljava/lang/Object;)Z"⟩
abbrev c_13 : ByteArray := jdk_38_method_25_code
abbrev y_14 : MethodName := ⟨"java/util/ArrayList", "add", "(Ljava/lang/Object;[Ljava/lang/Object;I)V"⟩
abbrev c_14 : ByteArray := jdk_38_method_24_code
abbrev y_15 : MethodName := ⟨"java/util/ArrayList", "grow", "()[Ljava/lang/Object;"⟩
abbrev c_15 : ByteArray := jdk_38_method_7_code
abbrev y_16 : MethodName := ⟨"java/util/ArrayList", "grow", "(I)[Ljava/lang/Object;"⟩
abbrev c_16 : ByteArray := jdk_38_method_6_code
abbrev y_17 : MethodName := ⟨"java/lang/Math", "max", "(II)I"⟩
abbrev c_17 : ByteArray := jdk_29_method_65_code
abbrev y_18 : MethodName := ⟨"java/util/ArrayList", "get", "(I)Ljava/lang/Object;"⟩
abbrev c_18 : ByteArray := jdk_38_method_20_code
abbrev y_19 : MethodName := ⟨"java/util/Objects", "checkIndex", "(II)I"⟩
abbrev c_19 : ByteArray := jdk_31_method_17_code
abbrev y_20 : MethodName := ⟨"jdk/internal/util/Preconditions", "checkIndex", "(IILjava/util/function/BiFunction;)I"⟩
abbrev c_20 : ByteArray := jdk_41_method_11_code
abbrev y_21 : MethodName := ⟨"java/util/ArrayList", "elementData", "(I)Ljava/lang/Object;"⟩
abbrev c_21 : ByteArray := jdk_38_method_18_code
abbrev y_22 : MethodName := ⟨"com/example/monarc/monarc/Variable", "domain", "()Lcom/example/monarc/monarc/InitialDomain;"⟩
abbrev c_22 : ByteArray := prog_76_method_4_code
abbrev y_23 : MethodName := ⟨"com/example/monarc/monarc/InitialDomain", "size", "()I"⟩
abbrev c_23 : ByteArray := prog_20_method_5_code
abbrev y_24 : MethodName := ⟨"java/lang/Math", "max", "(JJ)J"⟩
abbrev c_24 : ByteArray := jdk_29_method_66_code
abbrev y_25 : MethodName := ⟨"java/lang/Math", "min", "(JJ)J"⟩
abbrev c_25 : ByteArray := jdk_29_method_70_code
abbrev y_26 : MethodName := ⟨"com/example/monarc/monarc/Domains", "removeBelow", "(IJ)V"⟩
abbrev c_26 : ByteArray := prog_11_method_20_code
abbrev y_27 : MethodName := ⟨"com/example/monarc/monarc/InitialDomain", "firstAtLeast", "(J)I"⟩
abbrev c_27 : ByteArray := prog_20_method_8_code
abbrev y_28 : MethodName := ⟨"com/example/monarc/monarc/Domains", "raiseLower", "(II)V"⟩
abbrev c_28 : ByteArray := prog_11_method_23_code
abbrev y_29 : MethodName := ⟨"com/example/monarc/monarc/Domains", "countNotHoles", "(III)I"⟩
abbrev c_29 : ByteArray := prog_11_method_16_code
abbrev y_30 : MethodName := ⟨"com/example/monarc/monarc/Domains", "resize", "(II)V"⟩
abbrev c_30 : ByteArray := prog_11_method_25_code
abbrev y_31 : MethodName := ⟨"com/example/monarc/monarc/Domains", "record", "(III)V"⟩
abbrev c_31 : ByteArray := prog_11_method_26_code
abbrev y_32 : MethodName := ⟨"com/example/monarc/monarc/Domains", "leftFrom", "(II)I"⟩
abbrev c_32 : ByteArray := prog_11_method_14_code
theorem i32_is {k : Int32} (z : Int32) (h : k.toInt = z.toInt) : k = z := Int32.toInt_inj.mp h
theorem rem_bd (x m : Int32) (hm : 0 < m.toInt) : 0 ≤ ((x &&& (2147483647 : Int32)) % m).toInt ∧ ((x &&& (2147483647 : Int32)) % m).toInt < m.toInt := by
  have e1 : (x &&& (2147483647 : Int32)).toInt = x.toInt % 2 ^ 31 := Jvm.Kit.i32_mask x 2147483647 (k := 31) (by decide) (by decide)
  have h0 : 0 ≤ (x &&& (2147483647 : Int32)).toInt := by rw [e1]; exact Int.emod_nonneg _ (by decide)
  rw [Jvm.Kit.i32_rem_nonneg h0]
  exact ⟨Int.emod_nonneg _ (by omega), Int.emod_lt_of_pos _ hm⟩

theorem lw_of_lt {x y : Int64} (h : x < y) : lcmpW x y = -1 := by
  have h1 : ¬ x > y := by show ¬ y < x; rw [Int64.lt_iff_toInt_lt] at h ⊢; omega
  have h2 : ¬ x = y := by intro q; subst q; rw [Int64.lt_iff_toInt_lt] at h; omega
  show (if x > y then (1 : Int32) else if x = y then 0 else -1) = -1
  rw [if_neg h1, if_neg h2]
theorem lw_of_gt {x y : Int64} (h : y < x) : lcmpW x y = 1 := by
  show (if x > y then (1 : Int32) else if x = y then 0 else -1) = 1
  rw [if_pos h]
theorem lw_of_eq {x y : Int64} (h : x = y) : lcmpW x y = 0 := by
  subst h
  have h1 : ¬ x > x := by show ¬ x < x; rw [Int64.lt_iff_toInt_lt]; omega
  show (if x > x then (1 : Int32) else if x = x then 0 else -1) = 0
  rw [if_neg h1, if_pos rfl]
theorem tri (x y : Int64) : x < y ∨ x = y ∨ y < x := by
  rcases Int.lt_trichotomy x.toInt y.toInt with h | h | h
  · exact Or.inl (Int64.lt_iff_toInt_lt.mpr h)
  · exact Or.inr (Or.inl (Int64.toInt_inj.mp h))
  · exact Or.inr (Or.inr (Int64.lt_iff_toInt_lt.mpr h))
theorem eq_ref {args : Array Value} {s : State} {t u : Term} {b : Addr} (h : (Jvm.Cond.eq t u).value args s none s [] = some true) (hu : u.eval args s none [] s = some (.ref b)) : t.eval args s none [] s = some (.ref b) := by
  simp only [Cond.value, hu] at h
  cases e : t.eval args s none [] s with
  | none => simp [e] at h
  | some v => cases v <;> simp_all
theorem len_start {args : Array Value} {s : State} {t : Term} {a : Addr} {cl : Cell} {ty : FieldType} {z : Int32} (A : Arr s s.heap a cl ty) (ev : t.eval args s none [] s = some (.ref a)) (h : (Term.length t).eval args s none [] s = some (.int z)) : cl.slots.size < 2 ^ 31 ∧ cl.slots.size.toInt32 = z := by
  have ha := Arr.fin (Vm.Alike.refl s.vm) A
  have h' : (if cl.slots.size < 2147483648 then some (Value.int cl.slots.size.toInt32) else none) = some (Value.int z) := by simpa [Term.eval, ev, ha] using h
  by_cases q : cl.slots.size < 2147483648
  · rw [if_pos q] at h'; exact ⟨q, by simpa using h'⟩
  · rw [if_neg q] at h'; cases h'
theorem elem_start {args : Array Value} {s : State} {t : Term} {a b : Addr} {cl : Cell} {ty : FieldType} {j : Int32} {n : Nat} (A : Arr s s.heap a cl ty) (ev : t.eval args s none [] s = some (.ref a)) (h : (Term.elem t (.int j)).eval args s none [] s = some (.ref b)) (hj : ¬ j < 0 ∧ j.toNatClampNeg = n) : cl.slots[n]? = some (.ref b) := by
  have ha := Arr.fin (Vm.Alike.refl s.vm) A
  have q := elem_f (a := .int j) ev (Term.int_eval j) ha hj.1
  rw [hj.2] at q
  exact q.symm.trans h
def Wd (Z : State) (u_1 : Addr) (aw0 : Addr) (u_0 : ClassId) (kaw0 : ClassId) : Prop := (Exa Z Z.heap u_1 "[Ljava/lang/Object;") ∧ (Sta Z Z.heap "java/util/ArrayList" "EMPTY_ELEMENTDATA" "[Ljava/lang/Object;" (.ref u_1)) ∧ (Exa Z Z.heap aw0 "[Ljava/lang/Object;") ∧ (Sta Z Z.heap "java/util/ArrayList" "DEFAULTCAPACITY_EMPTY_ELEMENTDATA" "[Ljava/lang/Object;" (.ref aw0)) ∧ (Arv Z Z.heap u_1 u_0 (.object "java/lang/Object") (0 : Int32) [] .null) ∧ (Arv Z Z.heap aw0 kaw0 (.object "java/lang/Object") (0 : Int32) [] .null)
theorem wS_all {a0 : Array Value} {Z : State} (hw : ∀ d ∈ tables_1, d.before a0 Z = true) : ∀ a ∈ Bundle.stringAtoms, a.before a0 Z = true := fun a ha => hw a ((by decide +kernel : ∀ a ∈ Bundle.stringAtoms, a ∈ tables_1) a ha)
def mxI (x y : Int32) : Int32 := if x < y then y else x
def mnI (x y : Int32) : Int32 := if y < x then y else x
def mxL (x y : Int64) : Int64 := if lcmpW x y < (0 : Int32) then y else x
def mnL (x y : Int64) : Int64 := if (0 : Int32) < lcmpW x y then y else x
theorem mxI_toInt (x y : Int32) : (mxI x y).toInt = max x.toInt y.toInt := by
  unfold mxI; split <;> rename_i h <;> rw [Int32.lt_iff_toInt_lt] at h <;> omega
theorem mxL_toInt (x y : Int64) : (mxL x y).toInt = max x.toInt y.toInt := by
  unfold mxL; split <;> rename_i h <;> rw [lw_lt, Int64.lt_iff_toInt_lt] at h <;> omega
theorem mnL_toInt (x y : Int64) : (mnL x y).toInt = min x.toInt y.toInt := by
  unfold mnL; split <;> rename_i h <;> rw [lw_gt, Int64.lt_iff_toInt_lt] at h <;> omega
theorem d17_0 : decode c_17 0 = .ok (.iload_n 0, 1) := by decide +kernel
theorem d17_1 : decode c_17 1 = .ok (.iload_n 1, 1) := by decide +kernel
theorem d17_2 : decode c_17 2 = .ok (.if_icmp .lt 7, 3) := by decide +kernel
theorem d17_9 : decode c_17 9 = .ok (.iload_n 1, 1) := by decide +kernel
theorem d17_10 : decode c_17 10 = .ok (.ireturn, 1) := by decide +kernel
theorem d17_5 : decode c_17 5 = .ok (.iload_n 0, 1) := by decide +kernel
theorem d17_6 : decode c_17 6 = .ok (.goto 4, 3) := by decide +kernel
theorem ef_rm17 (m : MethodId) (x0 : Int32) (x1 : Int32)  : entryFrame m #[(.int x0), (.int x1)] 2 = mkF m 0 #[.val (.int x0), .val (.int x1)] [] := by first | (simp [entryFrame, mkF, argsToLocals, Value.category]; done) | rfl
def Q_rm17 (Z : State) (u_1 : Addr) (aw0 : Addr) (u_0 : ClassId) (kaw0 : ClassId) (u1 : Int32) (u2 : Int32) (res : Int32) (h0 : Heap) (n0 : Nat) (v : Option Value) (h : Heap) (L : List Loc) : Prop := v = some (.int res) ∧ Fr n0 L ∧ h = h0
set_option maxRecDepth 65536 in
set_option maxHeartbeats 40000000 in
theorem rm17 (l : Launch) (Z : State) (a0 : Array Value) (hw : ∀ d ∈ tables_1, d.before a0 Z = true) (ws : List Jvm.Cond) (u_1 : Addr) (aw0 : Addr) (u_0 : ClassId) (kaw0 : ClassId) (HW : Wd Z u_1 aw0 u_0 kaw0) (u1 : Int32) (u2 : Int32) (res : Int32) (h0 : Heap) (n0 : Nat) (Ol : Old Z n0 h0)  (hres : (if u1 < u2 then u2 else u1) = res) :
    MetFree l y_17 (head1 (Jvm.Cond.code y_17 jdk_29_method_65_code 2 (some .int) :: ws) (rm 0 0 0 0)) (fun a_ U_ => a_ = #[(.int u1), (.int u2)] ∧ Z.Warmed39 U_.vm ∧ U_.heap = h0) (fun _ _ _ _ _ => True) (fun _ U_ o_ V_ => ∃ v_ L_, o_ = .returned v_ ∧ Q_rm17 Z u_1 aw0 u_0 kaw0 u1 u2 res h0 n0 v_ V_.heap L_ ∧ FrameEnd U_ o_ V_ L_ (rm 0 0 0 0).cells (rm 0 0 0 0).slots) := by
  refine MetFree.of_bodySF (Jvm.Free.JP.mathPlain rfl (by decide +kernel)) hisR ?_
  intro p e s m args below meth c s₁ Bd hml0 hP hK
  obtain ⟨rfl, hZ, hh⟩ := hP
  have hx := Bd.exec
  have hby := Bd.bytes
  have hml : c.maxLocals = 2 := hml0
  have hown : s.vm.findClass "java/lang/Math" = some m.cls := findClass_of_methodNamed Bd.named
  have hnm := (name_of_methodNamed Bd.named Bd.method).1
  have X0 : Stand p l e (rm 0 0 0 0) s m #[(.int u1), (.int u2)] below meth c s₁ [] 0 0 := Stand.of_body Bd
  have e0 : s₁.heap = h0 := by rw [← hh, Bd.state]; rfl
  have N0 := Fr.nil n0
  have kp0 := Keep.refl h0 []
  show Go p e below (Fin1 s below (Q_rm17 Z u_1 aw0 u_0 kaw0 u1 u2 res h0 n0) (rm 0 0 0 0).cells (rm 0 0 0 0).slots) _
  refine Go.step (fun t_ k_ => castTop (ef_rm17 m u1 u2) k_) ?_
  obtain ⟨Eu_1, Su_1, Eaw0, Saw0, Au_1, Aaw0⟩ := id HW
  show Go p e below _ (s₁.setTop (mkF m 0 #[.val (.int u1), .val (.int u2)] []))
  refine gs.iloadN X0.here hx (hb hby d17_0) rfl ?_
  refine gs.iloadN X0.here hx (hb hby d17_1) rfl ?_
  by_cases hc2 : u1 < u2
  case pos =>
    refine gs.icmpYes 9 X0.here hx (hb hby d17_2) (tlt hc2).1 rfl ?_
    refine gs.iloadN X0.here hx (hb hby d17_9) rfl ?_
    refine Go.retI X0 hx Bd.returns Bd.notSynchronized (hb hby d17_10) (by rw [e0]; exact ⟨by first | (rw [← hres]; done) | (rw [← hres]; simp [if_pos hc2]; done) | (rw [← hres]; simp [hc2]; done) | (rw [← hres]; simp_all; done), N0, rfl⟩) (by decide) (by decide)
  case neg =>
    refine gs.icmpNo X0.here hx (hb hby d17_2) (flt hc2).1 ?_
    refine gs.iloadN X0.here hx (hb hby d17_5) rfl ?_
    refine gs.goto 10 X0.here hx (hb hby d17_6) rfl ?_
    refine Go.retI X0 hx Bd.returns Bd.notSynchronized (hb hby d17_10) (by rw [e0]; exact ⟨by first | (rw [← hres]; done) | (rw [← hres]; simp [if_neg hc2]; done) | (rw [← hres]; simp [hc2]; done) | (rw [← hres]; simp_all; done), N0, rfl⟩) (by decide) (by decide)
theorem d24_0 : decode c_24 0 = .ok (.lload_n 0, 1) := by decide +kernel
theorem d24_1 : decode c_24 1 = .ok (.lload_n 2, 1) := by decide +kernel
theorem d24_2 : decode c_24 2 = .ok (.lcmp, 1) := by decide +kernel
theorem d24_3 : decode c_24 3 = .ok (.ifCond .lt 7, 3) := by decide +kernel
theorem d24_10 : decode c_24 10 = .ok (.lload_n 2, 1) := by decide +kernel
theorem d24_11 : decode c_24 11 = .ok (.lreturn, 1) := by decide +kernel
theorem d24_6 : decode c_24 6 = .ok (.lload_n 0, 1) := by decide +kernel
theorem d24_7 : decode c_24 7 = .ok (.goto 4, 3) := by decide +kernel
theorem ef_rm24 (m : MethodId) (x0 : Int64) (x1 : Int64)  : entryFrame m #[(.long x0), (.long x1)] 4 = mkF m 0 #[.val (.long x0), .second, .val (.long x1), .second] [] := by first | (simp [entryFrame, mkF, argsToLocals, Value.category]; done) | rfl
def Q_rm24 (Z : State) (u_1 : Addr) (aw0 : Addr) (u_0 : ClassId) (kaw0 : ClassId) (u1 : Int64) (u2 : Int64) (res : Int64) (h0 : Heap) (n0 : Nat) (v : Option Value) (h : Heap) (L : List Loc) : Prop := v = some (.long res) ∧ Fr n0 L ∧ h = h0
set_option maxRecDepth 65536 in
set_option maxHeartbeats 40000000 in
theorem rm24 (l : Launch) (Z : State) (a0 : Array Value) (hw : ∀ d ∈ tables_1, d.before a0 Z = true) (ws : List Jvm.Cond) (u_1 : Addr) (aw0 : Addr) (u_0 : ClassId) (kaw0 : ClassId) (HW : Wd Z u_1 aw0 u_0 kaw0) (u1 : Int64) (u2 : Int64) (res : Int64) (h0 : Heap) (n0 : Nat) (Ol : Old Z n0 h0)  (hres : (if lcmpW u1 u2 < (0 : Int32) then u2 else u1) = res) :
    MetFree l y_24 (head1 (Jvm.Cond.code y_24 jdk_29_method_66_code 4 (some .long) :: ws) (rm 0 0 0 0)) (fun a_ U_ => a_ = #[(.long u1), (.long u2)] ∧ Z.Warmed39 U_.vm ∧ U_.heap = h0) (fun _ _ _ _ _ => True) (fun _ U_ o_ V_ => ∃ v_ L_, o_ = .returned v_ ∧ Q_rm24 Z u_1 aw0 u_0 kaw0 u1 u2 res h0 n0 v_ V_.heap L_ ∧ FrameEnd U_ o_ V_ L_ (rm 0 0 0 0).cells (rm 0 0 0 0).slots) := by
  refine MetFree.of_bodySF (Jvm.Free.JP.mathPlain rfl (by decide +kernel)) hisR ?_
  intro p e s m args below meth c s₁ Bd hml0 hP hK
  obtain ⟨rfl, hZ, hh⟩ := hP
  have hx := Bd.exec
  have hby := Bd.bytes
  have hml : c.maxLocals = 4 := hml0
  have hown : s.vm.findClass "java/lang/Math" = some m.cls := findClass_of_methodNamed Bd.named
  have hnm := (name_of_methodNamed Bd.named Bd.method).1
  have X0 : Stand p l e (rm 0 0 0 0) s m #[(.long u1), (.long u2)] below meth c s₁ [] 0 0 := Stand.of_body Bd
  have e0 : s₁.heap = h0 := by rw [← hh, Bd.state]; rfl
  have N0 := Fr.nil n0
  have kp0 := Keep.refl h0 []
  show Go p e below (Fin1 s below (Q_rm24 Z u_1 aw0 u_0 kaw0 u1 u2 res h0 n0) (rm 0 0 0 0).cells (rm 0 0 0 0).slots) _
  refine Go.step (fun t_ k_ => castTop (ef_rm24 m u1 u2) k_) ?_
  obtain ⟨Eu_1, Su_1, Eaw0, Saw0, Au_1, Aaw0⟩ := id HW
  show Go p e below _ (s₁.setTop (mkF m 0 #[.val (.long u1), .second, .val (.long u2), .second] []))
  refine gs.lloadN X0.here hx (hb hby d24_0) rfl ?_
  refine gs.lloadN X0.here hx (hb hby d24_1) rfl ?_
  refine Go.fin (fun t_ k_ => XS.lcmp X0.here hx rfl (hb hby d24_2) rfl k_) ?_
  show Go p e below _ (s₁.setTop (mkF m 3 _ [(.int (lcmpW u1 u2))]))
  by_cases hc3 : (lcmpW u1 u2) < (0 : Int32)
  case pos =>
    refine gs.ifYes 10 X0.here hx (hb hby d24_3) ((if0 _ _).trans (tlt hc3).1) rfl ?_
    refine gs.lloadN X0.here hx (hb hby d24_10) rfl ?_
    refine Go.retJ X0 hx Bd.returns Bd.notSynchronized (hb hby d24_11) (by rw [e0]; exact ⟨by first | (rw [← hres]; done) | (rw [← hres]; simp [if_pos hc3]; done) | (rw [← hres]; simp [hc3]; done) | (rw [← hres]; simp_all; done), N0, rfl⟩) (by decide) (by decide)
  case neg =>
    refine gs.ifNo X0.here hx (hb hby d24_3) ((if0 _ _).trans (flt hc3).1) ?_
    refine gs.lloadN X0.here hx (hb hby d24_6) rfl ?_
    refine gs.goto 11 X0.here hx (hb hby d24_7) rfl ?_
    refine Go.retJ X0 hx Bd.returns Bd.notSynchronized (hb hby d24_11) (by rw [e0]; exact ⟨by first | (rw [← hres]; done) | (rw [← hres]; simp [if_neg hc3]; done) | (rw [← hres]; simp [hc3]; done) | (rw [← hres]; simp_all; done), N0, rfl⟩) (by decide) (by decide)
theorem d25_0 : decode c_25 0 = .ok (.lload_n 0, 1) := by decide +kernel
theorem d25_1 : decode c_25 1 = .ok (.lload_n 2, 1) := by decide +kernel
theorem d25_2 : decode c_25 2 = .ok (.lcmp, 1) := by decide +kernel
theorem d25_3 : decode c_25 3 = .ok (.ifCond .gt 7, 3) := by decide +kernel
theorem d25_10 : decode c_25 10 = .ok (.lload_n 2, 1) := by decide +kernel
theorem d25_11 : decode c_25 11 = .ok (.lreturn, 1) := by decide +kernel
theorem d25_6 : decode c_25 6 = .ok (.lload_n 0, 1) := by decide +kernel
theorem d25_7 : decode c_25 7 = .ok (.goto 4, 3) := by decide +kernel
theorem ef_rm25 (m : MethodId) (x0 : Int64) (x1 : Int64)  : entryFrame m #[(.long x0), (.long x1)] 4 = mkF m 0 #[.val (.long x0), .second, .val (.long x1), .second] [] := by first | (simp [entryFrame, mkF, argsToLocals, Value.category]; done) | rfl
def Q_rm25 (Z : State) (u_1 : Addr) (aw0 : Addr) (u_0 : ClassId) (kaw0 : ClassId) (u1 : Int64) (u2 : Int64) (res : Int64) (h0 : Heap) (n0 : Nat) (v : Option Value) (h : Heap) (L : List Loc) : Prop := v = some (.long res) ∧ Fr n0 L ∧ h = h0
set_option maxRecDepth 65536 in
set_option maxHeartbeats 40000000 in
theorem rm25 (l : Launch) (Z : State) (a0 : Array Value) (hw : ∀ d ∈ tables_1, d.before a0 Z = true) (ws : List Jvm.Cond) (u_1 : Addr) (aw0 : Addr) (u_0 : ClassId) (kaw0 : ClassId) (HW : Wd Z u_1 aw0 u_0 kaw0) (u1 : Int64) (u2 : Int64) (res : Int64) (h0 : Heap) (n0 : Nat) (Ol : Old Z n0 h0)  (hres : (if (0 : Int32) < lcmpW u1 u2 then u2 else u1) = res) :
    MetFree l y_25 (head1 (Jvm.Cond.code y_25 jdk_29_method_70_code 4 (some .long) :: ws) (rm 0 0 0 0)) (fun a_ U_ => a_ = #[(.long u1), (.long u2)] ∧ Z.Warmed39 U_.vm ∧ U_.heap = h0) (fun _ _ _ _ _ => True) (fun _ U_ o_ V_ => ∃ v_ L_, o_ = .returned v_ ∧ Q_rm25 Z u_1 aw0 u_0 kaw0 u1 u2 res h0 n0 v_ V_.heap L_ ∧ FrameEnd U_ o_ V_ L_ (rm 0 0 0 0).cells (rm 0 0 0 0).slots) := by
  refine MetFree.of_bodySF (Jvm.Free.JP.mathPlain rfl (by decide +kernel)) hisR ?_
  intro p e s m args below meth c s₁ Bd hml0 hP hK
  obtain ⟨rfl, hZ, hh⟩ := hP
  have hx := Bd.exec
  have hby := Bd.bytes
  have hml : c.maxLocals = 4 := hml0
  have hown : s.vm.findClass "java/lang/Math" = some m.cls := findClass_of_methodNamed Bd.named
  have hnm := (name_of_methodNamed Bd.named Bd.method).1
  have X0 : Stand p l e (rm 0 0 0 0) s m #[(.long u1), (.long u2)] below meth c s₁ [] 0 0 := Stand.of_body Bd
  have e0 : s₁.heap = h0 := by rw [← hh, Bd.state]; rfl
  have N0 := Fr.nil n0
  have kp0 := Keep.refl h0 []
  show Go p e below (Fin1 s below (Q_rm25 Z u_1 aw0 u_0 kaw0 u1 u2 res h0 n0) (rm 0 0 0 0).cells (rm 0 0 0 0).slots) _
  refine Go.step (fun t_ k_ => castTop (ef_rm25 m u1 u2) k_) ?_
  obtain ⟨Eu_1, Su_1, Eaw0, Saw0, Au_1, Aaw0⟩ := id HW
  show Go p e below _ (s₁.setTop (mkF m 0 #[.val (.long u1), .second, .val (.long u2), .second] []))
  refine gs.lloadN X0.here hx (hb hby d25_0) rfl ?_
  refine gs.lloadN X0.here hx (hb hby d25_1) rfl ?_
  refine Go.fin (fun t_ k_ => XS.lcmp X0.here hx rfl (hb hby d25_2) rfl k_) ?_
  show Go p e below _ (s₁.setTop (mkF m 3 _ [(.int (lcmpW u1 u2))]))
  by_cases hc3 : (0 : Int32) < (lcmpW u1 u2)
  case pos =>
    refine gs.ifYes 10 X0.here hx (hb hby d25_3) ((if0 _ _).trans (tlt hc3).2.2.1) rfl ?_
    refine gs.lloadN X0.here hx (hb hby d25_10) rfl ?_
    refine Go.retJ X0 hx Bd.returns Bd.notSynchronized (hb hby d25_11) (by rw [e0]; exact ⟨by first | (rw [← hres]; done) | (rw [← hres]; simp [if_pos hc3]; done) | (rw [← hres]; simp [hc3]; done) | (rw [← hres]; simp_all; done), N0, rfl⟩) (by decide) (by decide)
  case neg =>
    refine gs.ifNo X0.here hx (hb hby d25_3) ((if0 _ _).trans (flt hc3).2.2.1) ?_
    refine gs.lloadN X0.here hx (hb hby d25_6) rfl ?_
    refine gs.goto 11 X0.here hx (hb hby d25_7) rfl ?_
    refine Go.retJ X0 hx Bd.returns Bd.notSynchronized (hb hby d25_11) (by rw [e0]; exact ⟨by first | (rw [← hres]; done) | (rw [← hres]; simp [if_neg hc3]; done) | (rw [← hres]; simp [hc3]; done) | (rw [← hres]; simp_all; done), N0, rfl⟩) (by decide) (by decide)
theorem size_bd (x : Int32) : 1 ≤ ((((x &&& (1073741823 : Int32)) % (1073741823 : Int32)).toInt64) + (1 : Int64)).toInt ∧ ((((x &&& (1073741823 : Int32)) % (1073741823 : Int32)).toInt64) + (1 : Int64)).toInt < 1073741824 := by
  have e1 : (x &&& (1073741823 : Int32)).toInt = x.toInt % 2 ^ 30 := Jvm.Kit.i32_mask x 1073741823 (k := 30) (by decide) (by decide)
  have h0 : 0 ≤ (x &&& (1073741823 : Int32)).toInt := by rw [e1]; exact Int.emod_nonneg _ (by decide)
  have e2 : ((x &&& (1073741823 : Int32)) % (1073741823 : Int32)).toInt = (x &&& (1073741823 : Int32)).toInt % 1073741823 := Jvm.Kit.i32_rem_nonneg h0
  have e3 : (((x &&& (1073741823 : Int32)) % (1073741823 : Int32)).toInt64).toInt = ((x &&& (1073741823 : Int32)) % (1073741823 : Int32)).toInt := Jvm.Kit.i64_of_i32 _
  have o1 : (1 : Int64).toInt = 1 := rfl
  have e4 := Jvm.Kit.i64_add (x := (((x &&& (1073741823 : Int32)) % (1073741823 : Int32)).toInt64)) (y := (1 : Int64)) (by omega) (by omega)
  rw [e4]; omega
theorem hi_of {v : Int64} (h : 1 ≤ v.toInt ∧ v.toInt < 1073741824) : ((v - (1 : Int64)).toInt32).toInt = v.toInt - 1 := by
  have o1 : (1 : Int64).toInt = 1 := rfl
  have e1 := Jvm.Kit.i64_sub (x := v) (y := (1 : Int64)) (by omega) (by omega)
  rw [Jvm.Kit.i32_of_i64 (by omega) (by omega), e1, o1]
theorem rg_neg {m : Int32} {v : Int64} (h : 1 ≤ v.toInt ∧ v.toInt < 1073741824) (hm : m.toInt = v.toInt - 1) : ¬ m < (0 : Int32) := by
  have o0 : (0 : Int32).toInt = 0 := rfl
  rw [Int32.lt_iff_toInt_lt]; omega
theorem rg_len {m : Int32} {v : Int64} (h : 1 ≤ v.toInt ∧ v.toInt < 1073741824) (hm : m.toInt = v.toInt - 1) : (((m.toInt64) - (0 : Int64)) + (1 : Int64)).toInt = v.toInt := by
  have o1 : (1 : Int64).toInt = 1 := rfl
  have o0 : (0 : Int64).toInt = 0 := rfl
  have e0 : (m.toInt64).toInt = m.toInt := Jvm.Kit.i64_of_i32 _
  have e1 := Jvm.Kit.i64_sub (x := (m.toInt64)) (y := (0 : Int64)) (by omega) (by omega)
  have e2 := Jvm.Kit.i64_add (x := ((m.toInt64) - (0 : Int64))) (y := (1 : Int64)) (by omega) (by omega)
  rw [e2, e1]; omega
theorem rg_fit {m : Int32} {v : Int64} (h : 1 ≤ v.toInt ∧ v.toInt < 1073741824) (hm : m.toInt = v.toInt - 1) : ¬ (0 : Int32) < lcmpW (((m.toInt64) - (0 : Int64)) + (1 : Int64)) (1073741823 : Int64) := by
  have o1 : (1073741823 : Int64).toInt = 1073741823 := rfl
  rw [lw_gt, Int64.lt_iff_toInt_lt, rg_len h hm]; omega
theorem rg_size {m z : Int32} {v : Int64} (h : 1 ≤ v.toInt ∧ v.toInt < 1073741824) (hm : m.toInt = v.toInt - 1) (hz : z = ((((m.toInt64) - (0 : Int64)) + (1 : Int64)).toInt32)) : z.toInt = v.toInt := by
  have e := rg_len h hm
  rw [hz, Jvm.Kit.i32_of_i64 (by omega) (by omega), e]
theorem cs1 {k : Int32} (h : 0 ≤ k.toInt ∧ k.toInt < 1) : k = (0 : Int32) := by
  have q : k.toInt = 0 := by omega
  rcases q with q
  · exact (i32_is 0 q)
theorem cs2 {k : Int32} (h : 0 ≤ k.toInt ∧ k.toInt < 2) : k = (0 : Int32) ∨ k = (1 : Int32) := by
  have q : k.toInt = 0 ∨ k.toInt = 1 := by omega
  rcases q with q | q
  · exact Or.inl (i32_is 0 q)
  · exact Or.inr ((i32_is 1 q))
theorem cs3 {k : Int32} (h : 0 ≤ k.toInt ∧ k.toInt < 3) : k = (0 : Int32) ∨ k = (1 : Int32) ∨ k = (2 : Int32) := by
  have q : k.toInt = 0 ∨ k.toInt = 1 ∨ k.toInt = 2 := by omega
  rcases q with q | q | q
  · exact Or.inl (i32_is 0 q)
  · exact Or.inr (Or.inl (i32_is 1 q))
  · exact Or.inr (Or.inr ((i32_is 2 q)))
theorem cs4 {k : Int32} (h : 0 ≤ k.toInt ∧ k.toInt < 4) : k = (0 : Int32) ∨ k = (1 : Int32) ∨ k = (2 : Int32) ∨ k = (3 : Int32) := by
  have q : k.toInt = 0 ∨ k.toInt = 1 ∨ k.toInt = 2 ∨ k.toInt = 3 := by omega
  rcases q with q | q | q | q
  · exact Or.inl (i32_is 0 q)
  · exact Or.inr (Or.inl (i32_is 1 q))
  · exact Or.inr (Or.inr (Or.inl (i32_is 2 q)))
  · exact Or.inr (Or.inr (Or.inr ((i32_is 3 q))))
theorem and3_bd (x : Int32) : 0 ≤ (x &&& (3 : Int32)).toInt ∧ (x &&& (3 : Int32)).toInt < 4 := by
  have e1 : (x &&& (3 : Int32)).toInt = x.toInt % 2 ^ 2 := Jvm.Kit.i32_mask x 3 (k := 2) (by decide) (by decide)
  omega
theorem remk_bd {y z : Int32} {n : Int} (h : 0 ≤ y.toInt ∧ y.toInt < 4) (hz : z.toInt = n) (hn : 0 < n) : 0 ≤ (y % z).toInt ∧ (y % z).toInt < n := by
  rw [Jvm.Kit.i32_rem_nonneg h.1, hz]
  exact ⟨Int.emod_nonneg _ (by omega), Int.emod_lt_of_pos _ hn⟩
theorem tot_eq {T E : Int64} (h : T.toInt = E.toInt) : lcmpW T E = (0 : Int32) := lw_of_eq (Int64.toInt_inj.mp h)
theorem to64 {z : Int32} {v : Int64} (h : z.toInt = v.toInt) : (z.toInt64) = v := Int64.toInt_inj.mp ((Jvm.Kit.i64_of_i32 z).trans h)
theorem zero_add64 (v : Int64) : (0 : Int64) + v = v := Int64.zero_add v
theorem add_zero64 (v : Int64) : v + (0 : Int64) = v := Int64.add_zero v
/-- an array, its components by a function -/
def Arw (Z : State) (h : Heap) (a : Addr) (k : ClassId) (ty : FieldType) (n : Int32) (f : Nat → Value) : Prop := ∃ c : Cell, Arr Z h a c ty ∧ c.cls = k ∧ c.slots.size = n.toNatClampNeg ∧ ¬ n < 0 ∧ ∀ i, i < c.slots.size → c.slots[i]? = some (f i)
abbrev Arf (Z : State) (h : Heap) (a : Addr) (k : ClassId) (n : Int32) (f : Nat → Int64) : Prop := Arw Z h a k .long n (fun i => .long (f i))
abbrev Ari (Z : State) (h : Heap) (a : Addr) (k : ClassId) (n : Int32) (f : Nat → Int32) : Prop := Arw Z h a k .int n (fun i => .int (f i))
abbrev Ara (Z : State) (h : Heap) (a : Addr) (k : ClassId) (ty : FieldType) (n : Int32) (f : Nat → Addr) : Prop := Arw Z h a k ty n (fun i => .ref (f i))
section ArfS
variable {Z : State} {h h' : Heap} {a b : Addr} {k : ClassId} {n j : Int32} {ty : FieldType} {g : Nat → Value} {f : Nat → Int64} {u : Nat → Int32} {ws : List Addr} {sl : Nat} {v : Value}
theorem Arw.lt (F : Arw Z h a k ty n g) : a < h.size := by obtain ⟨c, A, -⟩ := F; exact A.lt
theorem Arw.ext (F : Arw Z h a k ty n g) (E : Ext h h') : Arw Z h' a k ty n g := by obtain ⟨c, A, r⟩ := F; exact ⟨c, A.ext E, r⟩
theorem Arw.other (F : Arw Z h b k ty n g) (W : Wr h h' a sl v) (q : b ≠ a) : Arw Z h' b k ty n g := by obtain ⟨c, A, r⟩ := F; exact ⟨c, A.other W q, r⟩
theorem Arw.keep (F : Arw Z h a k ty n g) (K : Keep h h' ws) (q : a ∉ ws) : Arw Z h' a k ty n g := by obtain ⟨c, A, r⟩ := F; exact ⟨c, ⟨K.2.1 a c A.1 q, A.2⟩, r⟩
theorem Arf.of_arv (F : Arv Z h a k .long n [] (.long (0 : Int64))) : Arf Z h a k n (fun _ => 0) := by
  obtain ⟨c, A, q, S, N, H, -⟩ := F
  exact ⟨c, A, q, S, N, fun i hi => H i hi⟩
theorem Arw.fn {g' : Nat → Value} (F : Arw Z h a k ty n g) (e : ∀ i, i < n.toNatClampNeg → g i = g' i) : Arw Z h a k ty n g' := by
  obtain ⟨c, A, q, S, N, H⟩ := F
  exact ⟨c, A, q, S, N, fun i hi => by rw [H i hi, e i (S ▸ hi)]⟩
theorem Arw.of_list {vs : List Value} {dv : Value} (F : Arv Z h a k ty n vs dv) (e : ∀ i, i < n.toNatClampNeg → vs.getD i dv = g i) : Arw Z h a k ty n g := by
  obtain ⟨c, A, q, S, N, H, -⟩ := F
  exact ⟨c, A, q, S, N, fun i hi => by rw [H i hi, e i (S ▸ hi)]⟩
theorem Arw.set {c : Cell} {x : Value} (A : Arr Z h a c ty) (q : c.cls = k) (S : c.slots.size = n.toNatClampNeg) (N : ¬ n < 0) (H : ∀ i, i < c.slots.size → c.slots[i]? = some (g i)) (W : Wr h h' a j.toNatClampNeg x) : Arw Z h' a k ty n (fun i => if i = j.toNatClampNeg then x else g i) := by
  refine ⟨_, A.same W, q, by rw [sz_set]; exact S, N, fun i hi => ?_⟩
  rw [sz_set] at hi
  by_cases u : i = j.toNatClampNeg
  · subst u; simp [Cell.setSlot, hi]
  · simp only [Cell.setSlot, if_neg u]; rw [Array.getElem?_setIfInBounds_ne (Ne.symm u)]; exact H i hi
theorem Arf.set {c : Cell} {x : Int64} (A : Arr Z h a c .long) (q : c.cls = k) (S : c.slots.size = n.toNatClampNeg) (N : ¬ n < 0) (H : ∀ i, i < c.slots.size → c.slots[i]? = some (.long (f i))) (W : Wr h h' a j.toNatClampNeg (.long x)) : Arf Z h' a k n (fun i => if i = j.toNatClampNeg then x else f i) :=
  (Arw.set A q S N H W).fn fun i _ => by by_cases hq : i = j.toNatClampNeg <;> simp only [hq, if_true, if_false]
theorem Ari.set {c : Cell} {x : Int32} (A : Arr Z h a c .int) (q : c.cls = k) (S : c.slots.size = n.toNatClampNeg) (N : ¬ n < 0) (H : ∀ i, i < c.slots.size → c.slots[i]? = some (.int (u i))) (W : Wr h h' a j.toNatClampNeg (.int x)) : Ari Z h' a k n (fun i => if i = j.toNatClampNeg then x else u i) :=
  (Arw.set A q S N H W).fn fun i _ => by by_cases hq : i = j.toNatClampNeg <;> simp only [hq, if_true, if_false]
end ArfS
theorem inb_int {j z : Int32} (h : 0 ≤ j.toInt ∧ j.toInt < z.toInt) : ¬ j < 0 ∧ j < z := by
  have e0 : (0 : Int32).toInt = 0 := rfl
  rw [Int32.lt_iff_toInt_lt, Int32.lt_iff_toInt_lt]; omega
theorem lt_of_in {c : Cell} {j : Int32} (q : ¬ (j < 0 ∨ c.slots.size ≤ j.toNatClampNeg)) : j.toNatClampNeg < c.slots.size := Nat.lt_of_not_le fun y => q (Or.inr y)
theorem Arf.of_list {Z : State} {h : Heap} {a : Addr} {k : ClassId} {n : Int32} {vs : List Value} {dv : Value} {f : Nat → Int64} (F : Arv Z h a k .long n vs dv) (e : ∀ i, i < n.toNatClampNeg → vs.getD i dv = .long (f i)) : Arf Z h a k n f := Arw.of_list F e
theorem fe_bd {z : Int32} {v b : Int64} (h : 1 ≤ v.toInt ∧ v.toInt < 1073741824) (hz : z.toInt = v.toInt) : (((mnL (z.toInt64) (mxL (0 : Int64) ((mxL (-2147483648 : Int64) (mnL b (2147483648 : Int64))) - (0 : Int64)))).toInt32)).toInt = min v.toInt (max 0 b.toInt) := by
  have o2 : (0 : Int64).toInt = 0 := rfl
  have o3 : (-2147483648 : Int64).toInt = -2147483648 := rfl
  have o4 : (2147483648 : Int64).toInt = 2147483648 := rfl
  have e0 : (z.toInt64).toInt = z.toInt := Jvm.Kit.i64_of_i32 _
  have b1 := b.toInt_lt
  have b2 := b.le_toInt
  have m1 := mnL_toInt b (2147483648 : Int64)
  have m2 := mxL_toInt (-2147483648 : Int64) (mnL b (2147483648 : Int64))
  have m3 := Jvm.Kit.i64_sub (x := mxL (-2147483648 : Int64) (mnL b (2147483648 : Int64))) (y := (0 : Int64)) (by omega) (by omega)
  have m4 := mxL_toInt (0 : Int64) ((mxL (-2147483648 : Int64) (mnL b (2147483648 : Int64))) - (0 : Int64))
  have m5 := mnL_toInt (z.toInt64) (mxL (0 : Int64) ((mxL (-2147483648 : Int64) (mnL b (2147483648 : Int64))) - (0 : Int64)))
  rw [Jvm.Kit.i32_of_i64 (by omega) (by omega)]; omega
theorem i_lt {x y : Int32} (h : x.toInt < y.toInt) : x < y := Int32.lt_iff_toInt_lt.mpr h
theorem i_nlt {x y : Int32} (h : ¬ x.toInt < y.toInt) : ¬ x < y := fun q => h (Int32.lt_iff_toInt_lt.mp q)
theorem i_ge {x y : Int32} (h : ¬ x < y) : y.toInt ≤ x.toInt := Int.not_lt.mp fun q => h (i_lt q)
theorem i_ne {x y : Int32} (h : ¬ x.toInt = y.toInt) : ¬ x = y := fun q => h (congrArg Int32.toInt q)
theorem rd_a {v b r : Int64} {fe : Int32} (h : 1 ≤ v.toInt ∧ v.toInt < 1073741824) (hf : fe.toInt = min v.toInt (max 0 b.toInt)) (h0 : ¬ (0 : Int32) < fe) (hr : mnL v (mxL (0 : Int64) b) = r) : v = v - r := by
  have o2 : (0 : Int64).toInt = 0 := rfl
  have o3 : (0 : Int32).toInt = 0 := rfl
  have g := i_ge h0
  have m1 := mxL_toInt (0 : Int64) b
  have m2 := mnL_toInt v (mxL (0 : Int64) b)
  rw [hr] at m2
  refine Int64.toInt_inj.mp ?_
  rw [Jvm.Kit.i64_sub (by omega) (by omega)]; omega
theorem rd_b {v b r : Int64} {fe z to : Int32} (h : 1 ≤ v.toInt ∧ v.toInt < 1073741824) (hz : z.toInt = v.toInt) (hf : fe.toInt = min v.toInt (max 0 b.toInt)) (ht : to.toInt = fe.toInt) (hr : mnL v (mxL (0 : Int64) b) = r) : ((z - (mxI (0 : Int32) (to - (0 : Int32)))).toInt64) = v - r := by
  have o2 : (0 : Int64).toInt = 0 := rfl
  have o3 : (0 : Int32).toInt = 0 := rfl
  have m1 := mxL_toInt (0 : Int64) b
  have m2 := mnL_toInt v (mxL (0 : Int64) b)
  rw [hr] at m2
  have m3 := Jvm.Kit.i32_sub (p := to) (q := (0 : Int32)) (by omega) (by omega)
  have m4 := mxI_toInt (0 : Int32) (to - (0 : Int32))
  have m5 := Jvm.Kit.i32_sub (p := z) (q := (mxI (0 : Int32) (to - (0 : Int32)))) (by omega) (by omega)
  have m6 : ((z - (mxI (0 : Int32) (to - (0 : Int32)))).toInt64).toInt = _ := Jvm.Kit.i64_of_i32 _
  refine Int64.toInt_inj.mp ?_
  rw [Jvm.Kit.i64_sub (by omega) (by omega)]; omega
theorem up_eq {z u : Int32} {v : Int64} (h : 1 ≤ v.toInt ∧ v.toInt < 1073741824) (hz : z.toInt = v.toInt) (hu : u = z - (1 : Int32)) : u.toInt = v.toInt - 1 := by
  have o3 : (1 : Int32).toInt = 1 := rfl
  rw [hu, Jvm.Kit.i32_sub (by omega) (by omega)]; omega
theorem up_one {u fe : Int32} {v b : Int64} (h : 1 ≤ v.toInt ∧ v.toInt < 1073741824) (hu : u.toInt = v.toInt - 1) (hf : fe.toInt = min v.toInt (max 0 b.toInt)) (hc : u < fe) : (u + (1 : Int32)).toInt = fe.toInt := by
  have o3 : (1 : Int32).toInt = 1 := rfl
  have g := Int32.lt_iff_toInt_lt.mp hc
  rw [Jvm.Kit.i32_add (by omega) (by omega)]; omega
theorem tin {t n : Int32} {a b : Int} (ht : t.toInt = a) (hn : n.toInt = b) (h0 : 0 ≤ a) (h : a < b) : 0 ≤ (t).toInt ∧ (t).toInt < (n).toInt := by omega
theorem sum_1_0 (a0 a1 a2 r : Int64) : ((0 : Int64) + (a0 - r)) = (((a0 + (0 : Int64)) + (0 : Int64)) - r) := by
  apply Int64.toBitVec.inj
  simp only [Int64.toBitVec_add, Int64.toBitVec_sub]
  have z : (0 : Int64).toBitVec = 0#64 := rfl
  rw [z]
  simp only [BitVec.sub_eq_add_neg, BitVec.zero_add, BitVec.add_zero]
  try ac_rfl
theorem sum_2_0 (a0 a1 a2 r : Int64) : (((0 : Int64) + (a0 - r)) + a1) = (((a0 + a1) + (0 : Int64)) - r) := by
  apply Int64.toBitVec.inj
  simp only [Int64.toBitVec_add, Int64.toBitVec_sub]
  have z : (0 : Int64).toBitVec = 0#64 := rfl
  rw [z]
  simp only [BitVec.sub_eq_add_neg, BitVec.zero_add, BitVec.add_zero]
  try ac_rfl
theorem sum_2_1 (a0 a1 a2 r : Int64) : (((0 : Int64) + a0) + (a1 - r)) = (((a0 + a1) + (0 : Int64)) - r) := by
  apply Int64.toBitVec.inj
  simp only [Int64.toBitVec_add, Int64.toBitVec_sub]
  have z : (0 : Int64).toBitVec = 0#64 := rfl
  rw [z]
  simp only [BitVec.sub_eq_add_neg, BitVec.zero_add, BitVec.add_zero]
  try ac_rfl
theorem sum_3_0 (a0 a1 a2 r : Int64) : ((((0 : Int64) + (a0 - r)) + a1) + a2) = (((a0 + a1) + a2) - r) := by
  apply Int64.toBitVec.inj
  simp only [Int64.toBitVec_add, Int64.toBitVec_sub]
  have z : (0 : Int64).toBitVec = 0#64 := rfl
  rw [z]
  simp only [BitVec.sub_eq_add_neg, BitVec.zero_add, BitVec.add_zero]
  try ac_rfl
theorem sum_3_1 (a0 a1 a2 r : Int64) : ((((0 : Int64) + a0) + (a1 - r)) + a2) = (((a0 + a1) + a2) - r) := by
  apply Int64.toBitVec.inj
  simp only [Int64.toBitVec_add, Int64.toBitVec_sub]
  have z : (0 : Int64).toBitVec = 0#64 := rfl
  rw [z]
  simp only [BitVec.sub_eq_add_neg, BitVec.zero_add, BitVec.add_zero]
  try ac_rfl
theorem sum_3_2 (a0 a1 a2 r : Int64) : ((((0 : Int64) + a0) + a1) + (a2 - r)) = (((a0 + a1) + a2) - r) := by
  apply Int64.toBitVec.inj
  simp only [Int64.toBitVec_add, Int64.toBitVec_sub]
  have z : (0 : Int64).toBitVec = 0#64 := rfl
  rw [z]
  simp only [BitVec.sub_eq_add_neg, BitVec.zero_add, BitVec.add_zero]
  try ac_rfl
theorem d1_0 : decode c_1 0 = .ok (.iload_n 0, 1) := by decide +kernel
theorem d1_1 : decode c_1 1 = .ok (.ldc 7, 2) := by decide +kernel
theorem d1_3 : decode c_1 3 = .ok (.iand, 1) := by decide +kernel
theorem d1_4 : decode c_1 4 = .ok (.ldc 7, 2) := by decide +kernel
theorem d1_6 : decode c_1 6 = .ok (.irem, 1) := by decide +kernel
theorem d1_7 : decode c_1 7 = .ok (.i2l, 1) := by decide +kernel
theorem d1_8 : decode c_1 8 = .ok (.lconst 1, 1) := by decide +kernel
theorem d1_9 : decode c_1 9 = .ok (.ladd, 1) := by decide +kernel
theorem d1_10 : decode c_1 10 = .ok (.lreturn, 1) := by decide +kernel
theorem pn_0 : plainName "com/example/monarc/monarc/DomainsTotalSizePinLaw" = true := by first | (simp [plainName, overriddenIn]; done) | decide +kernel
theorem ef_am1_1 (m : MethodId) (x0 : Int32)  : entryFrame m #[(.int x0)] 1 = mkF m 0 #[.val (.int x0)] [] := by first | (simp [entryFrame, mkF, argsToLocals, Value.category]; done) | rfl
def Q_am1_1 (Z : State) (u_1 : Addr) (aw0 : Addr) (u_0 : ClassId) (kaw0 : ClassId) (iv1 : Int32) (h0 : Heap) (n0 : Nat) (v : Option Value) (h : Heap) (L : List Loc) : Prop := v = some (.long ((((iv1 &&& (1073741823 : Int32)) % (1073741823 : Int32)).toInt64) + (1 : Int64))) ∧ Fr n0 L ∧ h = h0
set_option maxRecDepth 65536 in
set_option maxHeartbeats 40000000 in
theorem am1_1 (l : Launch) (Z : State) (a0 : Array Value) (hw : ∀ d ∈ tables_1, d.before a0 Z = true) (ws : List Jvm.Cond) (u_1 : Addr) (aw0 : Addr) (u_0 : ClassId) (kaw0 : ClassId) (HW : Wd Z u_1 aw0 u_0 kaw0) (iv1 : Int32) (h0 : Heap) (n0 : Nat) (Ol : Old Z n0 h0)  :
    MetFree l y_1 (head1 (Jvm.Cond.code y_1 method_2_code 1 (some .long) :: ws) (rm 0 0 0 0)) (fun a_ U_ => a_ = #[(.int iv1)] ∧ Z.Warmed39 U_.vm ∧ U_.heap = h0) (fun _ _ _ _ _ => True) (fun _ U_ o_ V_ => ∃ v_ L_, o_ = .returned v_ ∧ Q_am1_1 Z u_1 aw0 u_0 kaw0 iv1 h0 n0 v_ V_.heap L_ ∧ FrameEnd U_ o_ V_ L_ (rm 0 0 0 0).cells (rm 0 0 0 0).slots) := by
  refine MetFree.of_bodySF (plainFor_of_name pn_0) hisR ?_
  intro p e s m args below meth c s₁ Bd hml0 hP hK
  obtain ⟨rfl, hZ, hh⟩ := hP
  have hx := Bd.exec
  have hby := Bd.bytes
  have hml : c.maxLocals = 1 := hml0
  have hown : s.vm.findClass "com/example/monarc/monarc/DomainsTotalSizePinLaw" = some m.cls := findClass_of_methodNamed Bd.named
  have hnm := (name_of_methodNamed Bd.named Bd.method).1
  have X0 : Stand p l e (rm 0 0 0 0) s m #[(.int iv1)] below meth c s₁ [] 0 0 := Stand.of_body Bd
  have e0 : s₁.heap = h0 := by rw [← hh, Bd.state]; rfl
  have N0 := Fr.nil n0
  have kp0 := Keep.refl h0 []
  show Go p e below (Fin1 s below (Q_am1_1 Z u_1 aw0 u_0 kaw0 iv1 h0 n0) (rm 0 0 0 0).cells (rm 0 0 0 0).slots) _
  refine Go.step (fun t_ k_ => castTop (ef_am1_1 m iv1) k_) ?_
  obtain ⟨Eu_1, Su_1, Eaw0, Saw0, Au_1, Aaw0⟩ := id HW
  show Go p e below _ (s₁.setTop (mkF m 0 #[.val (.int iv1)] []))
  refine gs.iloadN X0.here hx (hb hby d1_0) rfl ?_
  refine Go.fin (fun t_ k_ => X0.ldcInt hx hown (mvT hZ (wd hw 4 rfl)) (g := mkF m 1 _ _) rfl (hb hby d1_1) _ k_) ?_
  show Go p e below _ (s₁.setTop (mkF m 3 _ [(.int (1073741823 : Int32)), (.int iv1)]))
  refine gs.iand X0.here hx (hb hby d1_3) ?_
  refine Go.fin (fun t_ k_ => X0.ldcInt hx hown (mvT hZ (wd hw 4 rfl)) (g := mkF m 4 _ _) rfl (hb hby d1_4) _ k_) ?_
  show Go p e below _ (s₁.setTop (mkF m 6 _ [(.int (1073741823 : Int32)), (.int (iv1 &&& (1073741823 : Int32)))]))
  refine Go.fin (fun t_ k_ => iremM X0 hx rfl (hb hby d1_6) rfl (by decide) k_) ?_
  show Go p e below _ (s₁.setTop (mkF m 7 _ [(.int ((iv1 &&& (1073741823 : Int32)) % (1073741823 : Int32)))]))
  refine Go.fin (fun t_ k_ => XS.i2l X0.here hx rfl (hb hby d1_7) rfl k_) ?_
  show Go p e below _ (s₁.setTop (mkF m 8 _ [(.long (((iv1 &&& (1073741823 : Int32)) % (1073741823 : Int32)).toInt64))]))
  refine Go.fin (fun t_ k_ => XS.lconst X0.here hx rfl (hb hby d1_8) k_) ?_
  show Go p e below _ (s₁.setTop (mkF m 9 _ [(.long (1 : Int64)), (.long (((iv1 &&& (1073741823 : Int32)) % (1073741823 : Int32)).toInt64))]))
  refine gs.ladd X0.here hx (hb hby d1_9) ?_
  refine Go.retJ X0 hx Bd.returns Bd.notSynchronized (hb hby d1_10) (by rw [e0]; exact ⟨rfl, N0, rfl⟩) (by decide) (by decide)
theorem pd_0 : parseMethodDescriptor "(I)J" = some ⟨[.int], some .long⟩ := by decide +kernel
theorem d2_0 : decode c_2 0 = .ok (.iload_n 1, 1) := by decide +kernel
theorem d2_1 : decode c_2 1 = .ok (.iload_n 0, 1) := by decide +kernel
theorem d2_2 : decode c_2 2 = .ok (.if_icmp .ge 18, 3) := by decide +kernel
theorem d2_20 : decode c_2 20 = .ok (.new 7, 3) := by decide +kernel
theorem d2_23 : decode c_2 23 = .ok (.dup, 1) := by decide +kernel
theorem d2_24 : decode c_2 24 = .ok (.iload_n 0, 1) := by decide +kernel
theorem d2_25 : decode c_2 25 = .ok (.iload_n 1, 1) := by decide +kernel
theorem d2_26 : decode c_2 26 = .ok (.i2l, 1) := by decide +kernel
theorem d2_27 : decode c_2 27 = .ok (.iload_n 0, 1) := by decide +kernel
theorem d2_28 : decode c_2 28 = .ok (.i2l, 1) := by decide +kernel
theorem d2_29 : decode c_2 29 = .ok (.lsub, 1) := by decide +kernel
theorem d2_30 : decode c_2 30 = .ok (.lconst 1, 1) := by decide +kernel
theorem d2_31 : decode c_2 31 = .ok (.ladd, 1) := by decide +kernel
theorem d2_32 : decode c_2 32 = .ok (.aconst_null, 1) := by decide +kernel
theorem d2_33 : decode c_2 33 = .ok (.invokespecial 34, 3) := by decide +kernel
theorem d3_0 : decode c_3 0 = .ok (.aload_n 0, 1) := by decide +kernel
theorem d3_1 : decode c_3 1 = .ok (.invokespecial 1, 3) := by decide +kernel
theorem d3_4 : decode c_3 4 = .ok (.lload_n 2, 1) := by decide +kernel
theorem d3_5 : decode c_3 5 = .ok (.ldc2_w 9, 3) := by decide +kernel
theorem d3_8 : decode c_3 8 = .ok (.lcmp, 1) := by decide +kernel
theorem d3_9 : decode c_3 9 = .ok (.ifCond .le 17, 3) := by decide +kernel
theorem d3_26 : decode c_3 26 = .ok (.aload_n 0, 1) := by decide +kernel
theorem d3_27 : decode c_3 27 = .ok (.iload_n 1, 1) := by decide +kernel
theorem d3_28 : decode c_3 28 = .ok (.putfield 20, 3) := by decide +kernel
theorem d3_31 : decode c_3 31 = .ok (.aload_n 0, 1) := by decide +kernel
theorem d3_32 : decode c_3 32 = .ok (.lload_n 2, 1) := by decide +kernel
theorem d3_33 : decode c_3 33 = .ok (.l2i, 1) := by decide +kernel
theorem d3_34 : decode c_3 34 = .ok (.putfield 24, 3) := by decide +kernel
theorem sn0 {a0 : Array Value} {Z : State} (hw : ∀ d ∈ tables_1, d.before a0 Z = true) : SN Z "com/example/monarc/monarc/InitialDomain" "size" "I" "com/example/monarc/monarc/InitialDomain" "lowest" "I" := slot_ne (Or.inr (wd hw 21 rfl)) (Or.inr (wd hw 19 rfl)) (by decide) (t := .int) (t' := .int) (by decide) (by decide)
theorem d3_37 : decode c_3 37 = .ok (.aload_n 0, 1) := by decide +kernel
theorem d3_38 : decode c_3 38 = .ok (.aload 4, 2) := by decide +kernel
theorem d3_40 : decode c_3 40 = .ok (.putfield 27, 3) := by decide +kernel
theorem sn1 {a0 : Array Value} {Z : State} (hw : ∀ d ∈ tables_1, d.before a0 Z = true) : SN Z "com/example/monarc/monarc/InitialDomain" "values" "[I" "com/example/monarc/monarc/InitialDomain" "lowest" "I" := slot_ne (Or.inr (wd hw 23 rfl)) (Or.inr (wd hw 19 rfl)) (by decide) (t := (.array .int)) (t' := .int) (by decide) (by decide)
theorem sn2 {a0 : Array Value} {Z : State} (hw : ∀ d ∈ tables_1, d.before a0 Z = true) : SN Z "com/example/monarc/monarc/InitialDomain" "values" "[I" "com/example/monarc/monarc/InitialDomain" "size" "I" := slot_ne (Or.inr (wd hw 23 rfl)) (Or.inr (wd hw 21 rfl)) (by decide) (t := (.array .int)) (t' := .int) (by decide) (by decide)
theorem d3_43 : decode c_3 43 = .ok (.return_, 1) := by decide +kernel
theorem sn3 {a0 : Array Value} {Z : State} (hw : ∀ d ∈ tables_1, d.before a0 Z = true) : SN Z "com/example/monarc/monarc/InitialDomain" "lowest" "I" "com/example/monarc/monarc/InitialDomain" "size" "I" := slot_ne (Or.inr (wd hw 19 rfl)) (Or.inr (wd hw 21 rfl)) (by decide) (t := .int) (t' := .int) (by decide) (by decide)
theorem sn4 {a0 : Array Value} {Z : State} (hw : ∀ d ∈ tables_1, d.before a0 Z = true) : SN Z "com/example/monarc/monarc/InitialDomain" "lowest" "I" "com/example/monarc/monarc/InitialDomain" "values" "[I" := slot_ne (Or.inr (wd hw 19 rfl)) (Or.inr (wd hw 23 rfl)) (by decide) (t := .int) (t' := (.array .int)) (by decide) (by decide)
theorem sn5 {a0 : Array Value} {Z : State} (hw : ∀ d ∈ tables_1, d.before a0 Z = true) : SN Z "com/example/monarc/monarc/InitialDomain" "size" "I" "com/example/monarc/monarc/InitialDomain" "values" "[I" := slot_ne (Or.inr (wd hw 21 rfl)) (Or.inr (wd hw 23 rfl)) (by decide) (t := .int) (t' := (.array .int)) (by decide) (by decide)
theorem pn_1 : plainName "com/example/monarc/monarc/InitialDomain" = true := by first | (simp [plainName, overriddenIn]; done) | decide +kernel
theorem ef_am3_1 (m : MethodId) (x0 : Addr) (x1 : Int32) (x2 : Int64)  : entryFrame m #[(.ref x0), (.int x1), (.long x2), .null] 5 = mkF m 0 #[.val (.ref x0), .val (.int x1), .val (.long x2), .second, .val .null] [] := by first | (simp [entryFrame, mkF, argsToLocals, Value.category]; done) | rfl
def Q_am3_1 (Z : State) (u_1 : Addr) (aw0 : Addr) (u_0 : ClassId) (kaw0 : ClassId) (ad1 : Addr) (lv1 : Int64) (h0 : Heap) (n0 : Nat) (v : Option Value) (h : Heap) (L : List Loc) : Prop := v = none ∧ Fr n0 L ∧ Keep h0 h [ad1] ∧ (Exa Z h ad1 "com/example/monarc/monarc/InitialDomain") ∧ (Fld Z h ad1 "com/example/monarc/monarc/InitialDomain" "lowest" "I" (.int (0 : Int32))) ∧ (Fld Z h ad1 "com/example/monarc/monarc/InitialDomain" "size" "I" (.int (lv1.toInt32))) ∧ (Fld Z h ad1 "com/example/monarc/monarc/InitialDomain" "values" "[I" .null)
set_option maxRecDepth 65536 in
set_option maxHeartbeats 40000000 in
theorem am3_1 (l : Launch) (Z : State) (a0 : Array Value) (hw : ∀ d ∈ tables_1, d.before a0 Z = true) (ws : List Jvm.Cond) (u_1 : Addr) (aw0 : Addr) (u_0 : ClassId) (kaw0 : ClassId) (HW : Wd Z u_1 aw0 u_0 kaw0) (ad1 : Addr) (lv1 : Int64) (h0 : Heap) (n0 : Nat) (Ol : Old Z n0 h0) (HE_ad1 : Exa Z h0 ad1 "com/example/monarc/monarc/InitialDomain") (HF_ad1_InitialDomain_lowest : Fld Z h0 ad1 "com/example/monarc/monarc/InitialDomain" "lowest" "I" (.int (0 : Int32))) (HF_ad1_InitialDomain_size : Fld Z h0 ad1 "com/example/monarc/monarc/InitialDomain" "size" "I" (.int (0 : Int32))) (HF_ad1_InitialDomain_values : Fld Z h0 ad1 "com/example/monarc/monarc/InitialDomain" "values" "[I" .null) (nn_ad1 : n0 ≤ ad1) (as0 : ¬ ((0 : Int32) < (lcmpW lv1 (1073741823 : Int64)))) :
    MetFree l y_3 (head1 (Jvm.Cond.code y_3 prog_20_method_1_code 5 none :: ws) (rm 1 0 0 12)) (fun a_ U_ => a_ = #[(.ref ad1), (.int (0 : Int32)), (.long lv1), .null] ∧ Z.Warmed39 U_.vm ∧ U_.heap = h0) (fun _ _ _ _ _ => True) (fun _ U_ o_ V_ => ∃ v_ L_, o_ = .returned v_ ∧ Q_am3_1 Z u_1 aw0 u_0 kaw0 ad1 lv1 h0 n0 v_ V_.heap L_ ∧ FrameEnd U_ o_ V_ L_ (rm 1 0 0 12).cells (rm 1 0 0 12).slots) := by
  refine MetFree.of_bodySF (plainFor_of_name pn_1) hisR ?_
  intro p e s m args below meth c s₁ Bd hml0 hP hK
  obtain ⟨rfl, hZ, hh⟩ := hP
  have hx := Bd.exec
  have hby := Bd.bytes
  have hml : c.maxLocals = 5 := hml0
  have hown : s.vm.findClass "com/example/monarc/monarc/InitialDomain" = some m.cls := findClass_of_methodNamed Bd.named
  have hnm := (name_of_methodNamed Bd.named Bd.method).1
  have X0 : Stand p l e (rm 1 0 0 12) s m #[(.ref ad1), (.int (0 : Int32)), (.long lv1), .null] below meth c s₁ [] 0 0 := Stand.of_body Bd
  have e0 : s₁.heap = h0 := by rw [← hh, Bd.state]; rfl
  have N0 := Fr.nil n0
  have kp0 := Keep.refl h0 [ad1]
  show Go p e below (Fin1 s below (Q_am3_1 Z u_1 aw0 u_0 kaw0 ad1 lv1 h0 n0) (rm 1 0 0 12).cells (rm 1 0 0 12).slots) _
  refine Go.step (fun t_ k_ => castTop (ef_am3_1 m ad1 (0 : Int32) lv1) k_) ?_
  obtain ⟨Eu_1, Su_1, Eaw0, Saw0, Au_1, Aaw0⟩ := id HW
  show Go p e below _ (s₁.setTop (mkF m 0 #[.val (.ref ad1), .val (.int (0 : Int32)), .val (.long lv1), .second, .val .null] []))
  refine gs.aloadN X0.here hx (hb hby d3_0) rfl rfl ?_
  obtain ⟨T1, X1, e1, st1⟩ := initO X0 hx hZ hown (wd hw 14 rfl) (wd hw 15 rfl) (wd hw 16 rfl) e0 (g := (mkF m 1 #[.val (.ref ad1), .val (.int (0 : Int32)), .val (.long lv1), .second, .val .null] [(.ref ad1)])) rfl (by rw [hml]; rfl) rfl (hb hby d3_1) (by decide) (W := 0) (by show 2 * 0 + _ ≤ _; exact Nat.le_of_eq rfl) (by decide)
  refine Go.step st1 ?_
  show Go p e below _ (T1.setTop (mkF m 4 #[.val (.ref ad1), .val (.int (0 : Int32)), .val (.long lv1), .second, .val .null] []))
  refine gs.lloadN X1.here hx (hb hby d3_4) rfl ?_
  refine Go.fin (fun t_ k_ => X1.ldc2Long hx hown (mvT hZ (wd hw 17 rfl)) (g := mkF m 5 _ _) rfl (hb hby d3_5) _ k_) ?_
  show Go p e below _ (T1.setTop (mkF m 8 _ [(.long (1073741823 : Int64)), (.long lv1)]))
  refine Go.fin (fun t_ k_ => XS.lcmp X1.here hx rfl (hb hby d3_8) rfl k_) ?_
  show Go p e below _ (T1.setTop (mkF m 9 _ [(.int (lcmpW lv1 (1073741823 : Int64)))]))
  have hc9 : ¬ ((0 : Int32) < (lcmpW lv1 (1073741823 : Int64))) := as0
  refine gs.ifYes 26 X1.here hx (hb hby d3_9) ((if0 _ _).trans (flt hc9).2.2.2) rfl ?_
  refine gs.aloadN X1.here hx (hb hby d3_26) rfl rfl ?_
  refine gs.iloadN X1.here hx (hb hby d3_27) rfl ?_
  obtain ⟨T2, h2, X2, e2, W2, st2⟩ := putF X1 hx hZ hown (host := "") (Or.inl (wd hw 18 rfl)) Via.refl e1 HF_ad1_InitialDomain_lowest HE_ad1 (Or.inr ⟨(wd hw 19 rfl), rfl, hnm⟩) (wd hw 10 rfl) (ty := .int) (by decide) rfl rfl (g := (mkF m 28 #[.val (.ref ad1), .val (.int (0 : Int32)), .val (.long lv1), .second, .val .null] [(.int (0 : Int32)), (.ref ad1)])) rfl rfl (hb hby d3_28)
  have N2 := Fr.snoc X2 N0 nn_ad1
  have old2 := Ol.wr W2 nn_ad1
  have kp2 := kp0.wr W2 (Or.inl (List.mem_of_getElem? (i := 0) rfl))
  have F2 := HF_ad1_InitialDomain_lowest.same W2
  refine Go.fin st2 ?_
  show Go p e below _ (T2.setTop (mkF m 31 _ []))
  refine gs.aloadN X2.here hx (hb hby d3_31) rfl rfl ?_
  refine gs.lloadN X2.here hx (hb hby d3_32) rfl ?_
  refine Go.fin (fun t_ k_ => XS.l2i X2.here hx rfl (hb hby d3_33) rfl k_) ?_
  show Go p e below _ (T2.setTop (mkF m 34 _ [(.int (lv1.toInt32)), (.ref ad1)]))
  have f3 := (HF_ad1_InitialDomain_size.other W2 (Or.inr (sn0 hw)))
  have f4 := (HE_ad1.wr W2)
  obtain ⟨T5, h5, X5, e5, W5, st5⟩ := putF X2 hx hZ hown (host := "") (Or.inl (wd hw 20 rfl)) Via.refl e2 f3 f4 (Or.inr ⟨(wd hw 21 rfl), rfl, hnm⟩) (wd hw 10 rfl) (ty := .int) (by decide) rfl rfl (g := (mkF m 34 #[.val (.ref ad1), .val (.int (0 : Int32)), .val (.long lv1), .second, .val .null] [(.int (lv1.toInt32)), (.ref ad1)])) rfl rfl (hb hby d3_34)
  have N5 := Fr.snoc X5 N2 nn_ad1
  have old5 := old2.wr W5 nn_ad1
  have kp5 := kp2.wr W5 (Or.inl (List.mem_of_getElem? (i := 0) rfl))
  have F5 := f3.same W5
  refine Go.fin st5 ?_
  show Go p e below _ (T5.setTop (mkF m 37 _ []))
  refine gs.aloadN X5.here hx (hb hby d3_37) rfl rfl ?_
  refine gs.aload X5.here hx (hb hby d3_38) rfl rfl ?_
  have f6 := ((HF_ad1_InitialDomain_values.other W2 (Or.inr (sn1 hw))).other W5 (Or.inr (sn2 hw)))
  have f7 := (f4.wr W5)
  obtain ⟨T8, h8, X8, e8, W8, st8⟩ := putF X5 hx hZ hown (host := "") (Or.inl (wd hw 22 rfl)) Via.refl e5 f6 f7 (Or.inr ⟨(wd hw 23 rfl), rfl, hnm⟩) (wd hw 10 rfl) (ty := (.array .int)) (by decide) rfl rfl (g := (mkF m 40 #[.val (.ref ad1), .val (.int (0 : Int32)), .val (.long lv1), .second, .val .null] [.null, (.ref ad1)])) rfl rfl (hb hby d3_40)
  have N8 := Fr.snoc X8 N5 nn_ad1
  have old8 := old5.wr W8 nn_ad1
  have kp8 := kp5.wr W8 (Or.inl (List.mem_of_getElem? (i := 0) rfl))
  have F8 := f6.same W8
  refine Go.fin st8 ?_
  show Go p e below _ (T8.setTop (mkF m 43 _ []))
  have f9 := (f7.wr W8)
  have f10 := ((F2.other W5 (Or.inr (sn3 hw))).other W8 (Or.inr (sn4 hw)))
  have f11 := (F5.other W8 (Or.inr (sn5 hw)))
  refine Go.retV X8 hx Bd.returns Bd.notSynchronized (hb hby d3_43) (by rw [e8]; exact ⟨rfl, N8, kp8, f9, f10, f11, F8⟩) (by decide) (by decide)
theorem pd_1 : parseMethodDescriptor "(IJ[I)V" = some ⟨[.int, .long, (.array .int)], none⟩ := by decide +kernel
theorem d2_36 : decode c_2 36 = .ok (.areturn, 1) := by decide +kernel
theorem ef_am2_1 (m : MethodId) (x0 : Int32) (x1 : Int32)  : entryFrame m #[(.int x0), (.int x1)] 2 = mkF m 0 #[.val (.int x0), .val (.int x1)] [] := by first | (simp [entryFrame, mkF, argsToLocals, Value.category]; done) | rfl
def Q_am2_1 (Z : State) (u_1 : Addr) (aw0 : Addr) (u_0 : ClassId) (kaw0 : ClassId) (iv1 : Int32) (h0 : Heap) (n0 : Nat) (v : Option Value) (h : Heap) (L : List Loc) : Prop := ∃ fr1 : Addr, v = some (.ref fr1) ∧ h0.size ≤ fr1 ∧ Fr n0 L ∧ Keep h0 h [] ∧ (Exa Z h fr1 "com/example/monarc/monarc/InitialDomain") ∧ (Fld Z h fr1 "com/example/monarc/monarc/InitialDomain" "lowest" "I" (.int (0 : Int32))) ∧ (Fld Z h fr1 "com/example/monarc/monarc/InitialDomain" "size" "I" (.int ((((iv1.toInt64) - (0 : Int64)) + (1 : Int64)).toInt32))) ∧ (Fld Z h fr1 "com/example/monarc/monarc/InitialDomain" "values" "[I" .null)
set_option maxRecDepth 65536 in
set_option maxHeartbeats 40000000 in
theorem am2_1 (l : Launch) (Z : State) (a0 : Array Value) (hw : ∀ d ∈ tables_1, d.before a0 Z = true) (ws : List Jvm.Cond) (u_1 : Addr) (aw0 : Addr) (u_0 : ClassId) (kaw0 : ClassId) (HW : Wd Z u_1 aw0 u_0 kaw0) (iv1 : Int32) (h0 : Heap) (n0 : Nat) (Ol : Old Z n0 h0) (as0 : ¬ ((0 : Int32) < (lcmpW (((iv1.toInt64) - (0 : Int64)) + (1 : Int64)) (1073741823 : Int64)))) (as1 : ¬ (iv1 < (0 : Int32))) :
    MetFree l y_2 (head1 (Jvm.Cond.code y_2 prog_20_method_2_code 2 (some (.object "com/example/monarc/monarc/InitialDomain")) :: ws) (rm 2 1 3 29)) (fun a_ U_ => a_ = #[(.int (0 : Int32)), (.int iv1)] ∧ Z.Warmed39 U_.vm ∧ U_.heap = h0) (fun _ _ _ _ _ => True) (fun _ U_ o_ V_ => ∃ v_ L_, o_ = .returned v_ ∧ Q_am2_1 Z u_1 aw0 u_0 kaw0 iv1 h0 n0 v_ V_.heap L_ ∧ FrameEnd U_ o_ V_ L_ (rm 2 1 3 29).cells (rm 2 1 3 29).slots) := by
  refine MetFree.of_bodySF (plainFor_of_name pn_1) hisR ?_
  intro p e s m args below meth c s₁ Bd hml0 hP hK
  obtain ⟨rfl, hZ, hh⟩ := hP
  have hx := Bd.exec
  have hby := Bd.bytes
  have hml : c.maxLocals = 2 := hml0
  have hown : s.vm.findClass "com/example/monarc/monarc/InitialDomain" = some m.cls := findClass_of_methodNamed Bd.named
  have hnm := (name_of_methodNamed Bd.named Bd.method).1
  have X0 : Stand p l e (rm 2 1 3 29) s m #[(.int (0 : Int32)), (.int iv1)] below meth c s₁ [] 0 0 := Stand.of_body Bd
  have e0 : s₁.heap = h0 := by rw [← hh, Bd.state]; rfl
  have N0 := Fr.nil n0
  have kp0 := Keep.refl h0 []
  show Go p e below (Fin1 s below (Q_am2_1 Z u_1 aw0 u_0 kaw0 iv1 h0 n0) (rm 2 1 3 29).cells (rm 2 1 3 29).slots) _
  refine Go.step (fun t_ k_ => castTop (ef_am2_1 m (0 : Int32) iv1) k_) ?_
  obtain ⟨Eu_1, Su_1, Eaw0, Saw0, Au_1, Aaw0⟩ := id HW
  show Go p e below _ (s₁.setTop (mkF m 0 #[.val (.int (0 : Int32)), .val (.int iv1)] []))
  refine gs.iloadN X0.here hx (hb hby d2_0) rfl ?_
  refine gs.iloadN X0.here hx (hb hby d2_1) rfl ?_
  have hc2 : ¬ (iv1 < (0 : Int32)) := as1
  refine gs.icmpYes 20 X0.here hx (hb hby d2_2) (flt hc2).2.1 rfl ?_
  obtain ⟨T1, h1, X1, e1, E1, A1, D1, Y1, st1⟩ := newO X0 hx hZ hown (wd hw 9 rfl) (wd hw 10 rfl) (wd hw 7 rfl) e0 (g := (mkF m 20 #[.val (.int (0 : Int32)), .val (.int iv1)] [])) rfl (hb hby d2_20) (by decide) (by decide)
  obtain ⟨b1, g1⟩ : ∃ z, z = h0.size := ⟨_, rfl⟩
  rw [← g1] at A1 D1 Y1 st1
  have nn_b1 : n0 ≤ b1 := Nat.le_trans (old_z0 Ol) (Nat.le_of_eq g1.symm)
  have sz_b1 : h0.size ≤ b1 := Nat.le_trans kp0.1 (Nat.le_of_eq g1.symm)
  have old1 := Ol.ext E1
  have kp1 := kp0.ext E1
  have F1_lowest : Fld Z h1 b1 "com/example/monarc/monarc/InitialDomain" "lowest" "I" (.int (0 : Int32)) := D1 (Or.inr (wd hw 19 rfl)) (ty := .int) (by decide)
  have F1_size : Fld Z h1 b1 "com/example/monarc/monarc/InitialDomain" "size" "I" (.int (0 : Int32)) := D1 (Or.inr (wd hw 21 rfl)) (ty := .int) (by decide)
  have F1_values : Fld Z h1 b1 "com/example/monarc/monarc/InitialDomain" "values" "[I" .null := D1 (Or.inr (wd hw 23 rfl)) (ty := (.array .int)) (by decide)
  refine Go.fin st1 ?_
  show Go p e below _ (T1.setTop (mkF m 23 _ [(.ref b1)]))
  refine gs.dup X1.here hx (hb hby d2_23) rfl ?_
  refine gs.iloadN X1.here hx (hb hby d2_24) rfl ?_
  refine gs.iloadN X1.here hx (hb hby d2_25) rfl ?_
  refine Go.fin (fun t_ k_ => XS.i2l X1.here hx rfl (hb hby d2_26) rfl k_) ?_
  show Go p e below _ (T1.setTop (mkF m 27 _ [(.long (iv1.toInt64)), (.int (0 : Int32)), (.ref b1), (.ref b1)]))
  refine gs.iloadN X1.here hx (hb hby d2_27) rfl ?_
  refine Go.fin (fun t_ k_ => XS.i2l X1.here hx rfl (hb hby d2_28) rfl k_) ?_
  show Go p e below _ (T1.setTop (mkF m 29 _ [(.long ((0 : Int32).toInt64)), (.long (iv1.toInt64)), (.int (0 : Int32)), (.ref b1), (.ref b1)]))
  rw [show ((0 : Int32).toInt64) = (0 : Int64) from by decide]
  refine gs.lsub X1.here hx (hb hby d2_29) ?_
  refine Go.fin (fun t_ k_ => XS.lconst X1.here hx rfl (hb hby d2_30) k_) ?_
  show Go p e below _ (T1.setTop (mkF m 31 _ [(.long (1 : Int64)), (.long ((iv1.toInt64) - (0 : Int64))), (.int (0 : Int32)), (.ref b1), (.ref b1)]))
  refine gs.ladd X1.here hx (hb hby d2_31) ?_
  refine gs.aconstNull X1.here hx (hb hby d2_32) ?_
  refine gs.init 1 X1 hx hZ hown (am3_1 l Z a0 hw [] u_1 aw0 u_0 kaw0 HW (b1) ((((iv1.toInt64) - (0 : Int64)) + (1 : Int64))) h1 n0 old1 A1 F1_lowest F1_size F1_values nn_b1 as0) (wd hw 13 rfl) (wd hw 7 rfl) (wd hw 11 rfl) rfl (wd hw 12 rfl) (by decide) (by decide) (by decide) (by rw [hml]; rfl) [(.int (0 : Int32)), (.long (((iv1.toInt64) - (0 : Int64)) + (1 : Int64))), .null] (lenOf pd_1 rfl) rfl (Nat.le_of_eq rfl) (hb hby d2_33) rfl e1 (by decide) (by decide) fun T2 Lc2 v2 X2 hQ2 => ?_
  obtain ⟨rfl, Nq2, K2, p2_0, p2_1, p2_2, p2_3⟩ := hQ2
  have old2 := old1.keep K2 (allS nn_b1 all0)
  have kp2 := kp1.trans K2 (allS (Or.inr sz_b1) all0)
  have N2 := Fr.app N0 Nq2
  show Go p e below _ (T2.setTop (mkF m 36 _ [(.ref b1)]))
  refine Go.retR X2 hx Bd.returns rfl rfl Bd.notSynchronized (hb hby d2_36) (by exact ⟨b1, rfl, sz_b1, N2, kp2, p2_0, p2_1, p2_2, p2_3⟩) (by decide) (by decide)
theorem pd_2 : parseMethodDescriptor "(II)Lcom/example/monarc/monarc/InitialDomain;" = some ⟨[.int, .int], some (.object "com/example/monarc/monarc/InitialDomain")⟩ := by decide +kernel
theorem d5_0 : decode c_5 0 = .ok (.aload_n 0, 1) := by decide +kernel
theorem d5_1 : decode c_5 1 = .ok (.invokespecial 1, 3) := by decide +kernel
theorem d6_0 : decode c_6 0 = .ok (.aload_n 0, 1) := by decide +kernel
theorem d6_1 : decode c_6 1 = .ok (.invokespecial 1, 3) := by decide +kernel
theorem d6_4 : decode c_6 4 = .ok (.return_, 1) := by decide +kernel
theorem pn_2 : plainName "com/example/monarc/monarc/Term" = true := by first | (simp [plainName, overriddenIn]; done) | decide +kernel
theorem ef_am6_1 (m : MethodId) (x0 : Addr)  : entryFrame m #[(.ref x0)] 1 = mkF m 0 #[.val (.ref x0)] [] := by first | (simp [entryFrame, mkF, argsToLocals, Value.category]; done) | rfl
def Q_am6_1 (Z : State) (u_1 : Addr) (aw0 : Addr) (u_0 : ClassId) (kaw0 : ClassId) (ad1 : Addr) (h0 : Heap) (n0 : Nat) (v : Option Value) (h : Heap) (L : List Loc) : Prop := v = none ∧ Fr n0 L ∧ h = h0
set_option maxRecDepth 65536 in
set_option maxHeartbeats 40000000 in
theorem am6_1 (l : Launch) (Z : State) (a0 : Array Value) (hw : ∀ d ∈ tables_1, d.before a0 Z = true) (ws : List Jvm.Cond) (u_1 : Addr) (aw0 : Addr) (u_0 : ClassId) (kaw0 : ClassId) (HW : Wd Z u_1 aw0 u_0 kaw0) (ad1 : Addr) (h0 : Heap) (n0 : Nat) (Ol : Old Z n0 h0)  :
    MetFree l y_6 (head1 (Jvm.Cond.code y_6 prog_70_method_1_code 1 none :: ws) (rm 1 0 0 12)) (fun a_ U_ => a_ = #[(.ref ad1)] ∧ Z.Warmed39 U_.vm ∧ U_.heap = h0) (fun _ _ _ _ _ => True) (fun _ U_ o_ V_ => ∃ v_ L_, o_ = .returned v_ ∧ Q_am6_1 Z u_1 aw0 u_0 kaw0 ad1 h0 n0 v_ V_.heap L_ ∧ FrameEnd U_ o_ V_ L_ (rm 1 0 0 12).cells (rm 1 0 0 12).slots) := by
  refine MetFree.of_bodySF (plainFor_of_name pn_2) hisR ?_
  intro p e s m args below meth c s₁ Bd hml0 hP hK
  obtain ⟨rfl, hZ, hh⟩ := hP
  have hx := Bd.exec
  have hby := Bd.bytes
  have hml : c.maxLocals = 1 := hml0
  have hown : s.vm.findClass "com/example/monarc/monarc/Term" = some m.cls := findClass_of_methodNamed Bd.named
  have hnm := (name_of_methodNamed Bd.named Bd.method).1
  have X0 : Stand p l e (rm 1 0 0 12) s m #[(.ref ad1)] below meth c s₁ [] 0 0 := Stand.of_body Bd
  have e0 : s₁.heap = h0 := by rw [← hh, Bd.state]; rfl
  have N0 := Fr.nil n0
  have kp0 := Keep.refl h0 []
  show Go p e below (Fin1 s below (Q_am6_1 Z u_1 aw0 u_0 kaw0 ad1 h0 n0) (rm 1 0 0 12).cells (rm 1 0 0 12).slots) _
  refine Go.step (fun t_ k_ => castTop (ef_am6_1 m ad1) k_) ?_
  obtain ⟨Eu_1, Su_1, Eaw0, Saw0, Au_1, Aaw0⟩ := id HW
  show Go p e below _ (s₁.setTop (mkF m 0 #[.val (.ref ad1)] []))
  refine gs.aloadN X0.here hx (hb hby d6_0) rfl rfl ?_
  obtain ⟨T1, X1, e1, st1⟩ := initO X0 hx hZ hown (wd hw 43 rfl) (wd hw 15 rfl) (wd hw 16 rfl) e0 (g := (mkF m 1 #[.val (.ref ad1)] [(.ref ad1)])) rfl (by rw [hml]; rfl) rfl (hb hby d6_1) (by decide) (W := 0) (by show 2 * 0 + _ ≤ _; exact Nat.le_of_eq rfl) (by decide)
  refine Go.step st1 ?_
  show Go p e below _ (T1.setTop (mkF m 4 #[.val (.ref ad1)] []))
  refine Go.retV X1 hx Bd.returns Bd.notSynchronized (hb hby d6_4) (by rw [e1]; exact ⟨rfl, N0, rfl⟩) (by decide) (by decide)
theorem pd_3 : parseMethodDescriptor "()V" = some ⟨[], none⟩ := by decide +kernel
theorem d5_4 : decode c_5 4 = .ok (.aload_n 0, 1) := by decide +kernel
theorem d5_5 : decode c_5 5 = .ok (.aload_n 1, 1) := by decide +kernel
theorem d5_6 : decode c_5 6 = .ok (.putfield 7, 3) := by decide +kernel
theorem d5_9 : decode c_5 9 = .ok (.aload_n 0, 1) := by decide +kernel
theorem d5_10 : decode c_5 10 = .ok (.iload_n 2, 1) := by decide +kernel
theorem d5_11 : decode c_5 11 = .ok (.putfield 13, 3) := by decide +kernel
theorem sn6 {a0 : Array Value} {Z : State} (hw : ∀ d ∈ tables_1, d.before a0 Z = true) : SN Z "com/example/monarc/monarc/Variable" "index" "I" "com/example/monarc/monarc/Variable" "name" "Ljava/lang/String;" := slot_ne (Or.inr (wd hw 47 rfl)) (Or.inr (wd hw 45 rfl)) (by decide) (t := .int) (t' := (.object "java/lang/String")) (by decide) (by decide)
theorem d5_14 : decode c_5 14 = .ok (.aload_n 0, 1) := by decide +kernel
theorem d5_15 : decode c_5 15 = .ok (.aload_n 3, 1) := by decide +kernel
theorem d5_16 : decode c_5 16 = .ok (.putfield 17, 3) := by decide +kernel
theorem sn7 {a0 : Array Value} {Z : State} (hw : ∀ d ∈ tables_1, d.before a0 Z = true) : SN Z "com/example/monarc/monarc/Variable" "domain" "Lcom/example/monarc/monarc/InitialDomain;" "com/example/monarc/monarc/Variable" "name" "Ljava/lang/String;" := slot_ne (Or.inr (wd hw 49 rfl)) (Or.inr (wd hw 45 rfl)) (by decide) (t := (.object "com/example/monarc/monarc/InitialDomain")) (t' := (.object "java/lang/String")) (by decide) (by decide)
theorem sn8 {a0 : Array Value} {Z : State} (hw : ∀ d ∈ tables_1, d.before a0 Z = true) : SN Z "com/example/monarc/monarc/Variable" "domain" "Lcom/example/monarc/monarc/InitialDomain;" "com/example/monarc/monarc/Variable" "index" "I" := slot_ne (Or.inr (wd hw 49 rfl)) (Or.inr (wd hw 47 rfl)) (by decide) (t := (.object "com/example/monarc/monarc/InitialDomain")) (t' := .int) (by decide) (by decide)
theorem d5_19 : decode c_5 19 = .ok (.return_, 1) := by decide +kernel
theorem pn_3 : plainName "com/example/monarc/monarc/Variable" = true := by first | (simp [plainName, overriddenIn]; done) | decide +kernel
theorem ef_am5_1 (m : MethodId) (x0 : Addr) (x1 : Addr) (x2 : Int32) (x3 : Addr)  : entryFrame m #[(.ref x0), (.ref x1), (.int x2), (.ref x3)] 4 = mkF m 0 #[.val (.ref x0), .val (.ref x1), .val (.int x2), .val (.ref x3)] [] := by first | (simp [entryFrame, mkF, argsToLocals, Value.category]; done) | rfl
def Q_am5_1 (Z : State) (u_1 : Addr) (aw0 : Addr) (u_0 : ClassId) (kaw0 : ClassId) (ad1 : Addr) (ad2 : Addr) (so1 : Int32) (ad3 : Addr) (h0 : Heap) (n0 : Nat) (v : Option Value) (h : Heap) (L : List Loc) : Prop := v = none ∧ Fr n0 L ∧ Keep h0 h [ad1] ∧ (Exa Z h ad1 "com/example/monarc/monarc/Variable") ∧ (Fld Z h ad1 "com/example/monarc/monarc/Variable" "domain" "Lcom/example/monarc/monarc/InitialDomain;" (.ref ad3))
set_option maxRecDepth 65536 in
set_option maxHeartbeats 40000000 in
theorem am5_1 (l : Launch) (Z : State) (a0 : Array Value) (hw : ∀ d ∈ tables_1, d.before a0 Z = true) (ws : List Jvm.Cond) (u_1 : Addr) (aw0 : Addr) (u_0 : ClassId) (kaw0 : ClassId) (HW : Wd Z u_1 aw0 u_0 kaw0) (ad1 : Addr) (ad2 : Addr) (so1 : Int32) (ad3 : Addr) (h0 : Heap) (n0 : Nat) (Ol : Old Z n0 h0) (HE_ad1 : Exa Z h0 ad1 "com/example/monarc/monarc/Variable") (HF_ad1_Variable_name : Fld Z h0 ad1 "com/example/monarc/monarc/Variable" "name" "Ljava/lang/String;" .null) (HF_ad1_Variable_index : Fld Z h0 ad1 "com/example/monarc/monarc/Variable" "index" "I" (.int (0 : Int32))) (HF_ad1_Variable_domain : Fld Z h0 ad1 "com/example/monarc/monarc/Variable" "domain" "Lcom/example/monarc/monarc/InitialDomain;" .null) (nn_ad1 : n0 ≤ ad1) :
    MetFree l y_5 (head1 (Jvm.Cond.code y_5 prog_76_method_1_code 4 none :: ws) (rm 2 0 0 24)) (fun a_ U_ => a_ = #[(.ref ad1), (.ref ad2), (.int so1), (.ref ad3)] ∧ Z.Warmed39 U_.vm ∧ U_.heap = h0) (fun _ _ _ _ _ => True) (fun _ U_ o_ V_ => ∃ v_ L_, o_ = .returned v_ ∧ Q_am5_1 Z u_1 aw0 u_0 kaw0 ad1 ad2 so1 ad3 h0 n0 v_ V_.heap L_ ∧ FrameEnd U_ o_ V_ L_ (rm 2 0 0 24).cells (rm 2 0 0 24).slots) := by
  refine MetFree.of_bodySF (plainFor_of_name pn_3) hisR ?_
  intro p e s m args below meth c s₁ Bd hml0 hP hK
  obtain ⟨rfl, hZ, hh⟩ := hP
  have hx := Bd.exec
  have hby := Bd.bytes
  have hml : c.maxLocals = 4 := hml0
  have hown : s.vm.findClass "com/example/monarc/monarc/Variable" = some m.cls := findClass_of_methodNamed Bd.named
  have hnm := (name_of_methodNamed Bd.named Bd.method).1
  have X0 : Stand p l e (rm 2 0 0 24) s m #[(.ref ad1), (.ref ad2), (.int so1), (.ref ad3)] below meth c s₁ [] 0 0 := Stand.of_body Bd
  have e0 : s₁.heap = h0 := by rw [← hh, Bd.state]; rfl
  have N0 := Fr.nil n0
  have kp0 := Keep.refl h0 [ad1]
  show Go p e below (Fin1 s below (Q_am5_1 Z u_1 aw0 u_0 kaw0 ad1 ad2 so1 ad3 h0 n0) (rm 2 0 0 24).cells (rm 2 0 0 24).slots) _
  refine Go.step (fun t_ k_ => castTop (ef_am5_1 m ad1 ad2 so1 ad3) k_) ?_
  obtain ⟨Eu_1, Su_1, Eaw0, Saw0, Au_1, Aaw0⟩ := id HW
  show Go p e below _ (s₁.setTop (mkF m 0 #[.val (.ref ad1), .val (.ref ad2), .val (.int so1), .val (.ref ad3)] []))
  refine gs.aloadN X0.here hx (hb hby d5_0) rfl rfl ?_
  refine gs.init 0 X0 hx hZ hown (am6_1 l Z a0 hw [] u_1 aw0 u_0 kaw0 HW (ad1) h0 n0 Ol ) (wd hw 42 rfl) (wd hw 41 rfl) (wd hw 38 rfl) rfl (wd hw 39 rfl) (by decide) (by decide) (by decide) (by rw [hml]; rfl) [] (lenOf pd_3 rfl) rfl (Nat.le_of_eq rfl) (hb hby d5_1) rfl e0 (by decide) (by decide) fun T1 Lc1 v1 X1 hQ1 => ?_
  obtain ⟨rfl, Nq1, e1⟩ := hQ1
  have N1 := Fr.app N0 Nq1
  show Go p e below _ (T1.setTop (mkF m 4 _ []))
  refine gs.aloadN X1.here hx (hb hby d5_4) rfl rfl ?_
  refine gs.aloadN X1.here hx (hb hby d5_5) rfl rfl ?_
  obtain ⟨T2, h2, X2, e2, W2, st2⟩ := putF X1 hx hZ hown (host := "") (Or.inl (wd hw 44 rfl)) Via.refl e1 HF_ad1_Variable_name HE_ad1 (Or.inr ⟨(wd hw 45 rfl), rfl, hnm⟩) (wd hw 25 rfl) (ty := (.object "java/lang/String")) (by decide) rfl rfl (g := (mkF m 6 #[.val (.ref ad1), .val (.ref ad2), .val (.int so1), .val (.ref ad3)] [(.ref ad2), (.ref ad1)])) rfl rfl (hb hby d5_6)
  have N2 := Fr.snoc X2 N1 nn_ad1
  have old2 := Ol.wr W2 nn_ad1
  have kp2 := kp0.wr W2 (Or.inl (List.mem_of_getElem? (i := 0) rfl))
  have F2 := HF_ad1_Variable_name.same W2
  refine Go.fin st2 ?_
  show Go p e below _ (T2.setTop (mkF m 9 _ []))
  refine gs.aloadN X2.here hx (hb hby d5_9) rfl rfl ?_
  refine gs.iloadN X2.here hx (hb hby d5_10) rfl ?_
  have f3 := (HF_ad1_Variable_index.other W2 (Or.inr (sn6 hw)))
  have f4 := (HE_ad1.wr W2)
  obtain ⟨T5, h5, X5, e5, W5, st5⟩ := putF X2 hx hZ hown (host := "") (Or.inl (wd hw 46 rfl)) Via.refl e2 f3 f4 (Or.inr ⟨(wd hw 47 rfl), rfl, hnm⟩) (wd hw 25 rfl) (ty := .int) (by decide) rfl rfl (g := (mkF m 11 #[.val (.ref ad1), .val (.ref ad2), .val (.int so1), .val (.ref ad3)] [(.int so1), (.ref ad1)])) rfl rfl (hb hby d5_11)
  have N5 := Fr.snoc X5 N2 nn_ad1
  have old5 := old2.wr W5 nn_ad1
  have kp5 := kp2.wr W5 (Or.inl (List.mem_of_getElem? (i := 0) rfl))
  have F5 := f3.same W5
  refine Go.fin st5 ?_
  show Go p e below _ (T5.setTop (mkF m 14 _ []))
  refine gs.aloadN X5.here hx (hb hby d5_14) rfl rfl ?_
  refine gs.aloadN X5.here hx (hb hby d5_15) rfl rfl ?_
  have f6 := ((HF_ad1_Variable_domain.other W2 (Or.inr (sn7 hw))).other W5 (Or.inr (sn8 hw)))
  have f7 := (f4.wr W5)
  obtain ⟨T8, h8, X8, e8, W8, st8⟩ := putF X5 hx hZ hown (host := "") (Or.inl (wd hw 48 rfl)) Via.refl e5 f6 f7 (Or.inr ⟨(wd hw 49 rfl), rfl, hnm⟩) (wd hw 25 rfl) (ty := (.object "com/example/monarc/monarc/InitialDomain")) (by decide) rfl rfl (g := (mkF m 16 #[.val (.ref ad1), .val (.ref ad2), .val (.int so1), .val (.ref ad3)] [(.ref ad3), (.ref ad1)])) rfl rfl (hb hby d5_16)
  have N8 := Fr.snoc X8 N5 nn_ad1
  have old8 := old5.wr W8 nn_ad1
  have kp8 := kp5.wr W8 (Or.inl (List.mem_of_getElem? (i := 0) rfl))
  have F8 := f6.same W8
  refine Go.fin st8 ?_
  show Go p e below _ (T8.setTop (mkF m 19 _ []))
  have f9 := (f7.wr W8)
  refine Go.retV X8 hx Bd.returns Bd.notSynchronized (hb hby d5_19) (by rw [e8]; exact ⟨rfl, N8, kp8, f9, F8⟩) (by decide) (by decide)
theorem pd_4 : parseMethodDescriptor "(Ljava/lang/String;ILcom/example/monarc/monarc/InitialDomain;)V" = some ⟨[(.object "java/lang/String"), .int, (.object "com/example/monarc/monarc/InitialDomain")], none⟩ := by decide +kernel
theorem d7_0 : decode c_7 0 = .ok (.aload_n 0, 1) := by decide +kernel
theorem d7_1 : decode c_7 1 = .ok (.invokespecial 1, 3) := by decide +kernel
theorem d8_0 : decode c_8 0 = .ok (.aload_n 0, 1) := by decide +kernel
theorem d8_1 : decode c_8 1 = .ok (.invokespecial 1, 3) := by decide +kernel
theorem d9_0 : decode c_9 0 = .ok (.aload_n 0, 1) := by decide +kernel
theorem d9_1 : decode c_9 1 = .ok (.invokespecial 1, 3) := by decide +kernel
theorem d9_4 : decode c_9 4 = .ok (.return_, 1) := by decide +kernel
theorem pn_4 : plainName "java/util/AbstractCollection" = true := by first | (simp [plainName, overriddenIn]; done) | decide +kernel
theorem ef_am9_1 (m : MethodId) (x0 : Addr)  : entryFrame m #[(.ref x0)] 1 = mkF m 0 #[.val (.ref x0)] [] := by first | (simp [entryFrame, mkF, argsToLocals, Value.category]; done) | rfl
def Q_am9_1 (Z : State) (u_1 : Addr) (aw0 : Addr) (u_0 : ClassId) (kaw0 : ClassId) (ad1 : Addr) (h0 : Heap) (n0 : Nat) (v : Option Value) (h : Heap) (L : List Loc) : Prop := v = none ∧ Fr n0 L ∧ h = h0
set_option maxRecDepth 65536 in
set_option maxHeartbeats 40000000 in
theorem am9_1 (l : Launch) (Z : State) (a0 : Array Value) (hw : ∀ d ∈ tables_1, d.before a0 Z = true) (ws : List Jvm.Cond) (u_1 : Addr) (aw0 : Addr) (u_0 : ClassId) (kaw0 : ClassId) (HW : Wd Z u_1 aw0 u_0 kaw0) (ad1 : Addr) (h0 : Heap) (n0 : Nat) (Ol : Old Z n0 h0)  :
    MetFree l y_9 (head1 (Jvm.Cond.code y_9 jdk_22_method_1_code 1 none :: ws) (rm 1 0 0 12)) (fun a_ U_ => a_ = #[(.ref ad1)] ∧ Z.Warmed39 U_.vm ∧ U_.heap = h0) (fun _ _ _ _ _ => True) (fun _ U_ o_ V_ => ∃ v_ L_, o_ = .returned v_ ∧ Q_am9_1 Z u_1 aw0 u_0 kaw0 ad1 h0 n0 v_ V_.heap L_ ∧ FrameEnd U_ o_ V_ L_ (rm 1 0 0 12).cells (rm 1 0 0 12).slots) := by
  refine MetFree.of_bodySF (plainFor_of_name pn_4) hisR ?_
  intro p e s m args below meth c s₁ Bd hml0 hP hK
  obtain ⟨rfl, hZ, hh⟩ := hP
  have hx := Bd.exec
  have hby := Bd.bytes
  have hml : c.maxLocals = 1 := hml0
  have hown : s.vm.findClass "java/util/AbstractCollection" = some m.cls := findClass_of_methodNamed Bd.named
  have hnm := (name_of_methodNamed Bd.named Bd.method).1
  have X0 : Stand p l e (rm 1 0 0 12) s m #[(.ref ad1)] below meth c s₁ [] 0 0 := Stand.of_body Bd
  have e0 : s₁.heap = h0 := by rw [← hh, Bd.state]; rfl
  have N0 := Fr.nil n0
  have kp0 := Keep.refl h0 []
  show Go p e below (Fin1 s below (Q_am9_1 Z u_1 aw0 u_0 kaw0 ad1 h0 n0) (rm 1 0 0 12).cells (rm 1 0 0 12).slots) _
  refine Go.step (fun t_ k_ => castTop (ef_am9_1 m ad1) k_) ?_
  obtain ⟨Eu_1, Su_1, Eaw0, Saw0, Au_1, Aaw0⟩ := id HW
  show Go p e below _ (s₁.setTop (mkF m 0 #[.val (.ref ad1)] []))
  refine gs.aloadN X0.here hx (hb hby d9_0) rfl rfl ?_
  obtain ⟨T1, X1, e1, st1⟩ := initO X0 hx hZ hown (wd hw 70 rfl) (wd hw 15 rfl) (wd hw 16 rfl) e0 (g := (mkF m 1 #[.val (.ref ad1)] [(.ref ad1)])) rfl (by rw [hml]; rfl) rfl (hb hby d9_1) (by decide) (W := 0) (by show 2 * 0 + _ ≤ _; exact Nat.le_of_eq rfl) (by decide)
  refine Go.step st1 ?_
  show Go p e below _ (T1.setTop (mkF m 4 #[.val (.ref ad1)] []))
  refine Go.retV X1 hx Bd.returns Bd.notSynchronized (hb hby d9_4) (by rw [e1]; exact ⟨rfl, N0, rfl⟩) (by decide) (by decide)
theorem d8_4 : decode c_8 4 = .ok (.aload_n 0, 1) := by decide +kernel
theorem d8_5 : decode c_8 5 = .ok (.iconst 0, 1) := by decide +kernel
theorem d8_6 : decode c_8 6 = .ok (.putfield 7, 3) := by decide +kernel
theorem d8_9 : decode c_8 9 = .ok (.return_, 1) := by decide +kernel
theorem sn9 {a0 : Array Value} {Z : State} (hw : ∀ d ∈ tables_1, d.before a0 Z = true) : SN Z "java/util/ArrayList" "elementData" "[Ljava/lang/Object;" "java/util/AbstractList" "modCount" "I" := slot_ne (Or.inl (wd hw 75 rfl)) (Or.inl (wd hw 72 rfl)) (by decide) (t := (.array (.object "java/lang/Object"))) (t' := .int) (by decide) (by decide)
theorem sn10 {a0 : Array Value} {Z : State} (hw : ∀ d ∈ tables_1, d.before a0 Z = true) : SN Z "java/util/ArrayList" "size" "I" "java/util/AbstractList" "modCount" "I" := slot_ne (Or.inl (wd hw 99 rfl)) (Or.inl (wd hw 72 rfl)) (by decide) (t := .int) (t' := .int) (by decide) (by decide)
theorem pn_5 : plainName "java/util/AbstractList" = true := by first | (simp [plainName, overriddenIn]; done) | decide +kernel
theorem ef_am8_1 (m : MethodId) (x0 : Addr)  : entryFrame m #[(.ref x0)] 1 = mkF m 0 #[.val (.ref x0)] [] := by first | (simp [entryFrame, mkF, argsToLocals, Value.category]; done) | rfl
def Q_am8_1 (Z : State) (u_1 : Addr) (aw0 : Addr) (u_0 : ClassId) (kaw0 : ClassId) (ad1 : Addr) (h0 : Heap) (n0 : Nat) (v : Option Value) (h : Heap) (L : List Loc) : Prop := v = none ∧ Fr n0 L ∧ Keep h0 h [ad1] ∧ (Exa Z h ad1 "java/util/ArrayList") ∧ (Fld Z h ad1 "java/util/AbstractList" "modCount" "I" (.int (0 : Int32))) ∧ (Fld Z h ad1 "java/util/ArrayList" "elementData" "[Ljava/lang/Object;" .null) ∧ (Fld Z h ad1 "java/util/ArrayList" "size" "I" (.int (0 : Int32)))
set_option maxRecDepth 65536 in
set_option maxHeartbeats 40000000 in
theorem am8_1 (l : Launch) (Z : State) (a0 : Array Value) (hw : ∀ d ∈ tables_1, d.before a0 Z = true) (ws : List Jvm.Cond) (u_1 : Addr) (aw0 : Addr) (u_0 : ClassId) (kaw0 : ClassId) (HW : Wd Z u_1 aw0 u_0 kaw0) (ad1 : Addr) (h0 : Heap) (n0 : Nat) (Ol : Old Z n0 h0) (HE_ad1 : Exa Z h0 ad1 "java/util/ArrayList") (HF_ad1_AbstractList_modCount : Fld Z h0 ad1 "java/util/AbstractList" "modCount" "I" (.int (0 : Int32))) (HF_ad1_ArrayList_elementData : Fld Z h0 ad1 "java/util/ArrayList" "elementData" "[Ljava/lang/Object;" .null) (HF_ad1_ArrayList_size : Fld Z h0 ad1 "java/util/ArrayList" "size" "I" (.int (0 : Int32))) (nn_ad1 : n0 ≤ ad1) :
    MetFree l y_8 (head1 (Jvm.Cond.code y_8 jdk_39_method_1_code 1 none :: ws) (rm 2 0 0 24)) (fun a_ U_ => a_ = #[(.ref ad1)] ∧ Z.Warmed39 U_.vm ∧ U_.heap = h0) (fun _ _ _ _ _ => True) (fun _ U_ o_ V_ => ∃ v_ L_, o_ = .returned v_ ∧ Q_am8_1 Z u_1 aw0 u_0 kaw0 ad1 h0 n0 v_ V_.heap L_ ∧ FrameEnd U_ o_ V_ L_ (rm 2 0 0 24).cells (rm 2 0 0 24).slots) := by
  refine MetFree.of_bodySF (plainFor_of_name pn_5) hisR ?_
  intro p e s m args below meth c s₁ Bd hml0 hP hK
  obtain ⟨rfl, hZ, hh⟩ := hP
  have hx := Bd.exec
  have hby := Bd.bytes
  have hml : c.maxLocals = 1 := hml0
  have hown : s.vm.findClass "java/util/AbstractList" = some m.cls := findClass_of_methodNamed Bd.named
  have hnm := (name_of_methodNamed Bd.named Bd.method).1
  have X0 : Stand p l e (rm 2 0 0 24) s m #[(.ref ad1)] below meth c s₁ [] 0 0 := Stand.of_body Bd
  have e0 : s₁.heap = h0 := by rw [← hh, Bd.state]; rfl
  have N0 := Fr.nil n0
  have kp0 := Keep.refl h0 [ad1]
  show Go p e below (Fin1 s below (Q_am8_1 Z u_1 aw0 u_0 kaw0 ad1 h0 n0) (rm 2 0 0 24).cells (rm 2 0 0 24).slots) _
  refine Go.step (fun t_ k_ => castTop (ef_am8_1 m ad1) k_) ?_
  obtain ⟨Eu_1, Su_1, Eaw0, Saw0, Au_1, Aaw0⟩ := id HW
  show Go p e below _ (s₁.setTop (mkF m 0 #[.val (.ref ad1)] []))
  refine gs.aloadN X0.here hx (hb hby d8_0) rfl rfl ?_
  refine gs.init 0 X0 hx hZ hown (am9_1 l Z a0 hw [] u_1 aw0 u_0 kaw0 HW (ad1) h0 n0 Ol ) (wd hw 69 rfl) (wd hw 68 rfl) (wd hw 64 rfl) rfl (wd hw 65 rfl) (by decide) (by decide) (by decide) (by rw [hml]; rfl) [] (lenOf pd_3 rfl) rfl (Nat.le_of_eq rfl) (hb hby d8_1) rfl e0 (by decide) (by decide) fun T1 Lc1 v1 X1 hQ1 => ?_
  obtain ⟨rfl, Nq1, e1⟩ := hQ1
  have N1 := Fr.app N0 Nq1
  show Go p e below _ (T1.setTop (mkF m 4 _ []))
  refine gs.aloadN X1.here hx (hb hby d8_4) rfl rfl ?_
  refine gs.iconst 0 X1.here hx (hb hby d8_5) rfl ?_
  obtain ⟨T2, h2, X2, e2, W2, st2⟩ := putF X1 hx hZ hown (host := "") (Or.inl (wd hw 71 rfl)) Via.refl e1 HF_ad1_AbstractList_modCount HE_ad1 (Or.inl (wd hw 72 rfl)) (wd hw 53 rfl) (ty := .int) (by decide) rfl rfl (g := (mkF m 6 #[.val (.ref ad1)] [(.int (0 : Int32)), (.ref ad1)])) rfl rfl (hb hby d8_6)
  have N2 := Fr.snoc X2 N1 nn_ad1
  have old2 := Ol.wr W2 nn_ad1
  have kp2 := kp0.wr W2 (Or.inl (List.mem_of_getElem? (i := 0) rfl))
  have F2 := HF_ad1_AbstractList_modCount.same W2
  refine Go.fin st2 ?_
  show Go p e below _ (T2.setTop (mkF m 9 _ []))
  have f3 := (HE_ad1.wr W2)
  have f4 := (HF_ad1_ArrayList_elementData.other W2 (Or.inr (sn9 hw)))
  have f5 := (HF_ad1_ArrayList_size.other W2 (Or.inr (sn10 hw)))
  refine Go.retV X2 hx Bd.returns Bd.notSynchronized (hb hby d8_9) (by rw [e2]; exact ⟨rfl, N2, kp2, f3, F2, f4, f5⟩) (by decide) (by decide)
theorem d7_4 : decode c_7 4 = .ok (.aload_n 0, 1) := by decide +kernel
theorem d7_5 : decode c_7 5 = .ok (.getstatic 39, 3) := by decide +kernel
theorem d7_8 : decode c_7 8 = .ok (.putfield 9, 3) := by decide +kernel
theorem d7_11 : decode c_7 11 = .ok (.return_, 1) := by decide +kernel
theorem sn11 {a0 : Array Value} {Z : State} (hw : ∀ d ∈ tables_1, d.before a0 Z = true) : SN Z "java/util/AbstractList" "modCount" "I" "java/util/ArrayList" "elementData" "[Ljava/lang/Object;" := slot_ne (Or.inl (wd hw 72 rfl)) (Or.inl (wd hw 75 rfl)) (by decide) (t := .int) (t' := (.array (.object "java/lang/Object"))) (by decide) (by decide)
theorem sn12 {a0 : Array Value} {Z : State} (hw : ∀ d ∈ tables_1, d.before a0 Z = true) : SN Z "java/util/ArrayList" "size" "I" "java/util/ArrayList" "elementData" "[Ljava/lang/Object;" := slot_ne (Or.inl (wd hw 99 rfl)) (Or.inl (wd hw 75 rfl)) (by decide) (t := .int) (t' := (.array (.object "java/lang/Object"))) (by decide) (by decide)
theorem pn_6 : plainName "java/util/ArrayList" = true := by first | (simp [plainName, overriddenIn]; done) | decide +kernel
theorem ef_am7_1 (m : MethodId) (x0 : Addr)  : entryFrame m #[(.ref x0)] 1 = mkF m 0 #[.val (.ref x0)] [] := by first | (simp [entryFrame, mkF, argsToLocals, Value.category]; done) | rfl
def Q_am7_1 (Z : State) (u_1 : Addr) (aw0 : Addr) (u_0 : ClassId) (kaw0 : ClassId) (ad1 : Addr) (h0 : Heap) (n0 : Nat) (v : Option Value) (h : Heap) (L : List Loc) : Prop := v = none ∧ Fr n0 L ∧ Keep h0 h [ad1] ∧ (Exa Z h ad1 "java/util/ArrayList") ∧ (Fld Z h ad1 "java/util/AbstractList" "modCount" "I" (.int (0 : Int32))) ∧ (Fld Z h ad1 "java/util/ArrayList" "elementData" "[Ljava/lang/Object;" (.ref aw0)) ∧ (Fld Z h ad1 "java/util/ArrayList" "size" "I" (.int (0 : Int32)))
set_option maxRecDepth 65536 in
set_option maxHeartbeats 40000000 in
theorem am7_1 (l : Launch) (Z : State) (a0 : Array Value) (hw : ∀ d ∈ tables_1, d.before a0 Z = true) (ws : List Jvm.Cond) (u_1 : Addr) (aw0 : Addr) (u_0 : ClassId) (kaw0 : ClassId) (HW : Wd Z u_1 aw0 u_0 kaw0) (ad1 : Addr) (h0 : Heap) (n0 : Nat) (Ol : Old Z n0 h0) (HE_ad1 : Exa Z h0 ad1 "java/util/ArrayList") (HF_ad1_AbstractList_modCount : Fld Z h0 ad1 "java/util/AbstractList" "modCount" "I" (.int (0 : Int32))) (HF_ad1_ArrayList_elementData : Fld Z h0 ad1 "java/util/ArrayList" "elementData" "[Ljava/lang/Object;" .null) (HF_ad1_ArrayList_size : Fld Z h0 ad1 "java/util/ArrayList" "size" "I" (.int (0 : Int32))) (nn_ad1 : n0 ≤ ad1) :
    MetFree l y_7 (head1 (Jvm.Cond.code y_7 jdk_38_method_2_code 1 none :: ws) (rm 3 0 0 36)) (fun a_ U_ => a_ = #[(.ref ad1)] ∧ Z.Warmed39 U_.vm ∧ U_.heap = h0) (fun _ _ _ _ _ => True) (fun _ U_ o_ V_ => ∃ v_ L_, o_ = .returned v_ ∧ Q_am7_1 Z u_1 aw0 u_0 kaw0 ad1 h0 n0 v_ V_.heap L_ ∧ FrameEnd U_ o_ V_ L_ (rm 3 0 0 36).cells (rm 3 0 0 36).slots) := by
  refine MetFree.of_bodySF (plainFor_of_name pn_6) hisR ?_
  intro p e s m args below meth c s₁ Bd hml0 hP hK
  obtain ⟨rfl, hZ, hh⟩ := hP
  have hx := Bd.exec
  have hby := Bd.bytes
  have hml : c.maxLocals = 1 := hml0
  have hown : s.vm.findClass "java/util/ArrayList" = some m.cls := findClass_of_methodNamed Bd.named
  have hnm := (name_of_methodNamed Bd.named Bd.method).1
  have X0 : Stand p l e (rm 3 0 0 36) s m #[(.ref ad1)] below meth c s₁ [] 0 0 := Stand.of_body Bd
  have e0 : s₁.heap = h0 := by rw [← hh, Bd.state]; rfl
  have N0 := Fr.nil n0
  have kp0 := Keep.refl h0 [ad1]
  show Go p e below (Fin1 s below (Q_am7_1 Z u_1 aw0 u_0 kaw0 ad1 h0 n0) (rm 3 0 0 36).cells (rm 3 0 0 36).slots) _
  refine Go.step (fun t_ k_ => castTop (ef_am7_1 m ad1) k_) ?_
  obtain ⟨Eu_1, Su_1, Eaw0, Saw0, Au_1, Aaw0⟩ := id HW
  show Go p e below _ (s₁.setTop (mkF m 0 #[.val (.ref ad1)] []))
  refine gs.aloadN X0.here hx (hb hby d7_0) rfl rfl ?_
  refine gs.init 0 X0 hx hZ hown (am8_1 l Z a0 hw [] u_1 aw0 u_0 kaw0 HW (ad1) h0 n0 Ol HE_ad1 HF_ad1_AbstractList_modCount HF_ad1_ArrayList_elementData HF_ad1_ArrayList_size nn_ad1) (wd hw 63 rfl) (wd hw 62 rfl) (wd hw 58 rfl) rfl (wd hw 59 rfl) (by decide) (by decide) (by decide) (by rw [hml]; rfl) [] (lenOf pd_3 rfl) rfl (Nat.le_of_eq rfl) (hb hby d7_1) rfl e0 (by decide) (by decide) fun T1 Lc1 v1 X1 hQ1 => ?_
  obtain ⟨rfl, Nq1, K1, p1_0, p1_1, p1_2, p1_3⟩ := hQ1
  have old1 := Ol.keep K1 (allS nn_ad1 all0)
  have kp1 := kp0.trans K1 (allS (Or.inl (List.mem_of_getElem? (i := 0) rfl)) all0)
  have N1 := Fr.app N0 Nq1
  show Go p e below _ (T1.setTop (mkF m 4 _ []))
  refine gs.aloadN X1.here hx (hb hby d7_4) rfl rfl ?_
  obtain ⟨T2, X2, e2, st2⟩ := getS2 X1 hx hZ hown (host := "") (Or.inl (wd hw 73 rfl)) Via.refl rfl (Saw0.ext old1.2) (g := (mkF m 5 #[.val (.ref ad1)] [(.ref ad1)])) rfl (hb hby d7_5)
  refine Go.fin st2 ?_
  show Go p e below _ (T2.setTop (mkF m 8 _ [(.ref aw0), (.ref ad1)]))
  obtain ⟨T3, h3, X3, e3, W3, st3⟩ := putF X2 hx hZ hown (host := "") (Or.inl (wd hw 74 rfl)) Via.refl e2 p1_2 p1_0 (Or.inl (wd hw 75 rfl)) (wd hw 53 rfl) (ty := (.array (.object "java/lang/Object"))) (by decide) rfl rfl (g := (mkF m 8 #[.val (.ref ad1)] [(.ref aw0), (.ref ad1)])) rfl rfl (hb hby d7_8)
  have N3 := Fr.snoc X3 N1 nn_ad1
  have old3 := old1.wr W3 nn_ad1
  have kp3 := kp1.wr W3 (Or.inl (List.mem_of_getElem? (i := 0) rfl))
  have F3 := p1_2.same W3
  refine Go.fin st3 ?_
  show Go p e below _ (T3.setTop (mkF m 11 _ []))
  have f4 := (p1_0.wr W3)
  have f5 := (p1_1.other W3 (Or.inr (sn11 hw)))
  have f6 := (p1_3.other W3 (Or.inr (sn12 hw)))
  refine Go.retV X3 hx Bd.returns Bd.notSynchronized (hb hby d7_11) (by rw [e3]; exact ⟨rfl, N3, kp3, f4, f5, F3, f6⟩) (by decide) (by decide)
theorem d10_0 : decode c_10 0 = .ok (.aload_n 0, 1) := by decide +kernel
theorem d10_1 : decode c_10 1 = .ok (.invokespecial 3, 3) := by decide +kernel
theorem d10_4 : decode c_10 4 = .ok (.aload_n 0, 1) := by decide +kernel
theorem d10_5 : decode c_10 5 = .ok (.sipush 1024, 3) := by decide +kernel
theorem d10_8 : decode c_10 8 = .ok (.newarray .long, 2) := by decide +kernel
theorem d10_10 : decode c_10 10 = .ok (.putfield 9, 3) := by decide +kernel
theorem d10_13 : decode c_10 13 = .ok (.aload_n 0, 1) := by decide +kernel
theorem d10_14 : decode c_10 14 = .ok (.bipush 64, 2) := by decide +kernel
theorem d10_16 : decode c_10 16 = .ok (.newarray .int, 2) := by decide +kernel
theorem d10_18 : decode c_10 18 = .ok (.putfield 13, 3) := by decide +kernel
theorem sn13 {a0 : Array Value} {Z : State} (hw : ∀ d ∈ tables_1, d.before a0 Z = true) : SN Z "com/example/monarc/monarc/Domains" "marks" "[I" "com/example/monarc/monarc/Domains" "trail" "[J" := slot_ne (Or.inl (wd hw 88 rfl)) (Or.inl (wd hw 85 rfl)) (by decide) (t := (.array .int)) (t' := (.array .long)) (by decide) (by decide)
theorem d10_21 : decode c_10 21 = .ok (.aload_n 1, 1) := by decide +kernel
theorem d10_22 : decode c_10 22 = .ok (.invokeinterface 17 1, 5) := by decide +kernel
theorem d11_0 : decode c_11 0 = .ok (.aload_n 0, 1) := by decide +kernel
theorem d11_1 : decode c_11 1 = .ok (.getfield 48, 3) := by decide +kernel
theorem d11_4 : decode c_11 4 = .ok (.ireturn, 1) := by decide +kernel
theorem ef_am11_1 (m : MethodId) (x0 : Addr)  : entryFrame m #[(.ref x0)] 1 = mkF m 0 #[.val (.ref x0)] [] := by first | (simp [entryFrame, mkF, argsToLocals, Value.category]; done) | rfl
def Q_am11_1 (Z : State) (u_1 : Addr) (aw0 : Addr) (u_0 : ClassId) (kaw0 : ClassId) (ad1 : Addr) (h0 : Heap) (n0 : Nat) (v : Option Value) (h : Heap) (L : List Loc) : Prop := v = some (.int (0 : Int32)) ∧ Fr n0 L ∧ h = h0
set_option maxRecDepth 65536 in
set_option maxHeartbeats 40000000 in
theorem am11_1 (l : Launch) (Z : State) (a0 : Array Value) (hw : ∀ d ∈ tables_1, d.before a0 Z = true) (ws : List Jvm.Cond) (u_1 : Addr) (aw0 : Addr) (u_0 : ClassId) (kaw0 : ClassId) (HW : Wd Z u_1 aw0 u_0 kaw0) (ad1 : Addr) (h0 : Heap) (n0 : Nat) (Ol : Old Z n0 h0) (HF_ad1_ArrayList_size : Fld Z h0 ad1 "java/util/ArrayList" "size" "I" (.int (0 : Int32))) :
    MetFree l y_11 (head1 (Jvm.Cond.code y_11 jdk_38_method_8_code 1 (some .int) :: ws) (rm 0 0 0 0)) (fun a_ U_ => a_ = #[(.ref ad1)] ∧ Z.Warmed39 U_.vm ∧ U_.heap = h0) (fun _ _ _ _ _ => True) (fun _ U_ o_ V_ => ∃ v_ L_, o_ = .returned v_ ∧ Q_am11_1 Z u_1 aw0 u_0 kaw0 ad1 h0 n0 v_ V_.heap L_ ∧ FrameEnd U_ o_ V_ L_ (rm 0 0 0 0).cells (rm 0 0 0 0).slots) := by
  refine MetFree.of_bodySF (plainFor_of_name pn_6) hisR ?_
  intro p e s m args below meth c s₁ Bd hml0 hP hK
  obtain ⟨rfl, hZ, hh⟩ := hP
  have hx := Bd.exec
  have hby := Bd.bytes
  have hml : c.maxLocals = 1 := hml0
  have hown : s.vm.findClass "java/util/ArrayList" = some m.cls := findClass_of_methodNamed Bd.named
  have hnm := (name_of_methodNamed Bd.named Bd.method).1
  have X0 : Stand p l e (rm 0 0 0 0) s m #[(.ref ad1)] below meth c s₁ [] 0 0 := Stand.of_body Bd
  have e0 : s₁.heap = h0 := by rw [← hh, Bd.state]; rfl
  have N0 := Fr.nil n0
  have kp0 := Keep.refl h0 []
  show Go p e below (Fin1 s below (Q_am11_1 Z u_1 aw0 u_0 kaw0 ad1 h0 n0) (rm 0 0 0 0).cells (rm 0 0 0 0).slots) _
  refine Go.step (fun t_ k_ => castTop (ef_am11_1 m ad1) k_) ?_
  obtain ⟨Eu_1, Su_1, Eaw0, Saw0, Au_1, Aaw0⟩ := id HW
  show Go p e below _ (s₁.setTop (mkF m 0 #[.val (.ref ad1)] []))
  refine gs.aloadN X0.here hx (hb hby d11_0) rfl rfl ?_
  refine gs.getF X0 hx hZ hown (wd hw 98 rfl) Via.refl e0 HF_ad1_ArrayList_size (hb hby d11_1) fun T1 X1 e1 => ?_
  refine Go.retI X1 hx Bd.returns Bd.notSynchronized (hb hby d11_4) (by rw [e1]; exact ⟨rfl, N0, rfl⟩) (by decide) (by decide)
theorem pd_5 : parseMethodDescriptor "()I" = some ⟨[], some .int⟩ := by decide +kernel
theorem d10_27 : decode c_10 27 = .ok (.istore_n 2, 1) := by decide +kernel
theorem d10_28 : decode c_10 28 = .ok (.aload_n 0, 1) := by decide +kernel
theorem d10_29 : decode c_10 29 = .ok (.iload_n 2, 1) := by decide +kernel
theorem d10_30 : decode c_10 30 = .ok (.anewarray 23, 3) := by decide +kernel
theorem d10_33 : decode c_10 33 = .ok (.putfield 25, 3) := by decide +kernel
theorem sn14 {a0 : Array Value} {Z : State} (hw : ∀ d ∈ tables_1, d.before a0 Z = true) : SN Z "com/example/monarc/monarc/Domains" "initial" "[Lcom/example/monarc/monarc/InitialDomain;" "com/example/monarc/monarc/Domains" "trail" "[J" := slot_ne (Or.inr (wd hw 103 rfl)) (Or.inl (wd hw 85 rfl)) (by decide) (t := (.array (.object "com/example/monarc/monarc/InitialDomain"))) (t' := (.array .long)) (by decide) (by decide)
theorem sn15 {a0 : Array Value} {Z : State} (hw : ∀ d ∈ tables_1, d.before a0 Z = true) : SN Z "com/example/monarc/monarc/Domains" "initial" "[Lcom/example/monarc/monarc/InitialDomain;" "com/example/monarc/monarc/Domains" "marks" "[I" := slot_ne (Or.inr (wd hw 103 rfl)) (Or.inl (wd hw 88 rfl)) (by decide) (t := (.array (.object "com/example/monarc/monarc/InitialDomain"))) (t' := (.array .int)) (by decide) (by decide)
theorem d10_36 : decode c_10 36 = .ok (.aload_n 0, 1) := by decide +kernel
theorem d10_37 : decode c_10 37 = .ok (.iload_n 2, 1) := by decide +kernel
theorem d10_38 : decode c_10 38 = .ok (.newarray .int, 2) := by decide +kernel
theorem d10_40 : decode c_10 40 = .ok (.putfield 29, 3) := by decide +kernel
theorem sn16 {a0 : Array Value} {Z : State} (hw : ∀ d ∈ tables_1, d.before a0 Z = true) : SN Z "com/example/monarc/monarc/Domains" "lower" "[I" "com/example/monarc/monarc/Domains" "trail" "[J" := slot_ne (Or.inr (wd hw 105 rfl)) (Or.inl (wd hw 85 rfl)) (by decide) (t := (.array .int)) (t' := (.array .long)) (by decide) (by decide)
theorem sn17 {a0 : Array Value} {Z : State} (hw : ∀ d ∈ tables_1, d.before a0 Z = true) : SN Z "com/example/monarc/monarc/Domains" "lower" "[I" "com/example/monarc/monarc/Domains" "marks" "[I" := slot_ne (Or.inr (wd hw 105 rfl)) (Or.inl (wd hw 88 rfl)) (by decide) (t := (.array .int)) (t' := (.array .int)) (by decide) (by decide)
theorem sn18 {a0 : Array Value} {Z : State} (hw : ∀ d ∈ tables_1, d.before a0 Z = true) : SN Z "com/example/monarc/monarc/Domains" "lower" "[I" "com/example/monarc/monarc/Domains" "initial" "[Lcom/example/monarc/monarc/InitialDomain;" := slot_ne (Or.inr (wd hw 105 rfl)) (Or.inr (wd hw 103 rfl)) (by decide) (t := (.array .int)) (t' := (.array (.object "com/example/monarc/monarc/InitialDomain"))) (by decide) (by decide)
theorem d10_43 : decode c_10 43 = .ok (.aload_n 0, 1) := by decide +kernel
theorem d10_44 : decode c_10 44 = .ok (.iload_n 2, 1) := by decide +kernel
theorem d10_45 : decode c_10 45 = .ok (.newarray .int, 2) := by decide +kernel
theorem d10_47 : decode c_10 47 = .ok (.putfield 32, 3) := by decide +kernel
theorem sn19 {a0 : Array Value} {Z : State} (hw : ∀ d ∈ tables_1, d.before a0 Z = true) : SN Z "com/example/monarc/monarc/Domains" "upper" "[I" "com/example/monarc/monarc/Domains" "trail" "[J" := slot_ne (Or.inr (wd hw 107 rfl)) (Or.inl (wd hw 85 rfl)) (by decide) (t := (.array .int)) (t' := (.array .long)) (by decide) (by decide)
theorem sn20 {a0 : Array Value} {Z : State} (hw : ∀ d ∈ tables_1, d.before a0 Z = true) : SN Z "com/example/monarc/monarc/Domains" "upper" "[I" "com/example/monarc/monarc/Domains" "marks" "[I" := slot_ne (Or.inr (wd hw 107 rfl)) (Or.inl (wd hw 88 rfl)) (by decide) (t := (.array .int)) (t' := (.array .int)) (by decide) (by decide)
theorem sn21 {a0 : Array Value} {Z : State} (hw : ∀ d ∈ tables_1, d.before a0 Z = true) : SN Z "com/example/monarc/monarc/Domains" "upper" "[I" "com/example/monarc/monarc/Domains" "initial" "[Lcom/example/monarc/monarc/InitialDomain;" := slot_ne (Or.inr (wd hw 107 rfl)) (Or.inr (wd hw 103 rfl)) (by decide) (t := (.array .int)) (t' := (.array (.object "com/example/monarc/monarc/InitialDomain"))) (by decide) (by decide)
theorem sn22 {a0 : Array Value} {Z : State} (hw : ∀ d ∈ tables_1, d.before a0 Z = true) : SN Z "com/example/monarc/monarc/Domains" "upper" "[I" "com/example/monarc/monarc/Domains" "lower" "[I" := slot_ne (Or.inr (wd hw 107 rfl)) (Or.inr (wd hw 105 rfl)) (by decide) (t := (.array .int)) (t' := (.array .int)) (by decide) (by decide)
theorem d10_50 : decode c_10 50 = .ok (.aload_n 0, 1) := by decide +kernel
theorem d10_51 : decode c_10 51 = .ok (.iload_n 2, 1) := by decide +kernel
theorem d10_52 : decode c_10 52 = .ok (.anewarray 35, 3) := by decide +kernel
theorem d10_55 : decode c_10 55 = .ok (.putfield 36, 3) := by decide +kernel
theorem sn23 {a0 : Array Value} {Z : State} (hw : ∀ d ∈ tables_1, d.before a0 Z = true) : SN Z "com/example/monarc/monarc/Domains" "holes" "[[J" "com/example/monarc/monarc/Domains" "trail" "[J" := slot_ne (Or.inr (wd hw 111 rfl)) (Or.inl (wd hw 85 rfl)) (by decide) (t := (.array (.array .long))) (t' := (.array .long)) (by decide) (by decide)
theorem sn24 {a0 : Array Value} {Z : State} (hw : ∀ d ∈ tables_1, d.before a0 Z = true) : SN Z "com/example/monarc/monarc/Domains" "holes" "[[J" "com/example/monarc/monarc/Domains" "marks" "[I" := slot_ne (Or.inr (wd hw 111 rfl)) (Or.inl (wd hw 88 rfl)) (by decide) (t := (.array (.array .long))) (t' := (.array .int)) (by decide) (by decide)
theorem sn25 {a0 : Array Value} {Z : State} (hw : ∀ d ∈ tables_1, d.before a0 Z = true) : SN Z "com/example/monarc/monarc/Domains" "holes" "[[J" "com/example/monarc/monarc/Domains" "initial" "[Lcom/example/monarc/monarc/InitialDomain;" := slot_ne (Or.inr (wd hw 111 rfl)) (Or.inr (wd hw 103 rfl)) (by decide) (t := (.array (.array .long))) (t' := (.array (.object "com/example/monarc/monarc/InitialDomain"))) (by decide) (by decide)
theorem sn26 {a0 : Array Value} {Z : State} (hw : ∀ d ∈ tables_1, d.before a0 Z = true) : SN Z "com/example/monarc/monarc/Domains" "holes" "[[J" "com/example/monarc/monarc/Domains" "lower" "[I" := slot_ne (Or.inr (wd hw 111 rfl)) (Or.inr (wd hw 105 rfl)) (by decide) (t := (.array (.array .long))) (t' := (.array .int)) (by decide) (by decide)
theorem sn27 {a0 : Array Value} {Z : State} (hw : ∀ d ∈ tables_1, d.before a0 Z = true) : SN Z "com/example/monarc/monarc/Domains" "holes" "[[J" "com/example/monarc/monarc/Domains" "upper" "[I" := slot_ne (Or.inr (wd hw 111 rfl)) (Or.inr (wd hw 107 rfl)) (by decide) (t := (.array (.array .long))) (t' := (.array .int)) (by decide) (by decide)
theorem d10_58 : decode c_10 58 = .ok (.aload_n 0, 1) := by decide +kernel
theorem d10_59 : decode c_10 59 = .ok (.iload_n 2, 1) := by decide +kernel
theorem d10_60 : decode c_10 60 = .ok (.newarray .int, 2) := by decide +kernel
theorem d10_62 : decode c_10 62 = .ok (.putfield 40, 3) := by decide +kernel
theorem sn28 {a0 : Array Value} {Z : State} (hw : ∀ d ∈ tables_1, d.before a0 Z = true) : SN Z "com/example/monarc/monarc/Domains" "sizes" "[I" "com/example/monarc/monarc/Domains" "trail" "[J" := slot_ne (Or.inr (wd hw 113 rfl)) (Or.inl (wd hw 85 rfl)) (by decide) (t := (.array .int)) (t' := (.array .long)) (by decide) (by decide)
theorem sn29 {a0 : Array Value} {Z : State} (hw : ∀ d ∈ tables_1, d.before a0 Z = true) : SN Z "com/example/monarc/monarc/Domains" "sizes" "[I" "com/example/monarc/monarc/Domains" "marks" "[I" := slot_ne (Or.inr (wd hw 113 rfl)) (Or.inl (wd hw 88 rfl)) (by decide) (t := (.array .int)) (t' := (.array .int)) (by decide) (by decide)
theorem sn30 {a0 : Array Value} {Z : State} (hw : ∀ d ∈ tables_1, d.before a0 Z = true) : SN Z "com/example/monarc/monarc/Domains" "sizes" "[I" "com/example/monarc/monarc/Domains" "initial" "[Lcom/example/monarc/monarc/InitialDomain;" := slot_ne (Or.inr (wd hw 113 rfl)) (Or.inr (wd hw 103 rfl)) (by decide) (t := (.array .int)) (t' := (.array (.object "com/example/monarc/monarc/InitialDomain"))) (by decide) (by decide)
theorem sn31 {a0 : Array Value} {Z : State} (hw : ∀ d ∈ tables_1, d.before a0 Z = true) : SN Z "com/example/monarc/monarc/Domains" "sizes" "[I" "com/example/monarc/monarc/Domains" "lower" "[I" := slot_ne (Or.inr (wd hw 113 rfl)) (Or.inr (wd hw 105 rfl)) (by decide) (t := (.array .int)) (t' := (.array .int)) (by decide) (by decide)
theorem sn32 {a0 : Array Value} {Z : State} (hw : ∀ d ∈ tables_1, d.before a0 Z = true) : SN Z "com/example/monarc/monarc/Domains" "sizes" "[I" "com/example/monarc/monarc/Domains" "upper" "[I" := slot_ne (Or.inr (wd hw 113 rfl)) (Or.inr (wd hw 107 rfl)) (by decide) (t := (.array .int)) (t' := (.array .int)) (by decide) (by decide)
theorem sn33 {a0 : Array Value} {Z : State} (hw : ∀ d ∈ tables_1, d.before a0 Z = true) : SN Z "com/example/monarc/monarc/Domains" "sizes" "[I" "com/example/monarc/monarc/Domains" "holes" "[[J" := slot_ne (Or.inr (wd hw 113 rfl)) (Or.inr (wd hw 111 rfl)) (by decide) (t := (.array .int)) (t' := (.array (.array .long))) (by decide) (by decide)
theorem d10_65 : decode c_10 65 = .ok (.iconst 0, 1) := by decide +kernel
theorem d10_66 : decode c_10 66 = .ok (.istore_n 3, 1) := by decide +kernel
theorem d10_67 : decode c_10 67 = .ok (.iload_n 3, 1) := by decide +kernel
theorem d10_68 : decode c_10 68 = .ok (.iload_n 2, 1) := by decide +kernel
theorem d10_69 : decode c_10 69 = .ok (.if_icmp .ge 81, 3) := by decide +kernel
theorem d10_150 : decode c_10 150 = .ok (.return_, 1) := by decide +kernel
theorem sn34 {a0 : Array Value} {Z : State} (hw : ∀ d ∈ tables_1, d.before a0 Z = true) : SN Z "com/example/monarc/monarc/Domains" "holes" "[[J" "com/example/monarc/monarc/Domains" "sizes" "[I" := slot_ne (Or.inr (wd hw 111 rfl)) (Or.inr (wd hw 113 rfl)) (by decide) (t := (.array (.array .long))) (t' := (.array .int)) (by decide) (by decide)
theorem sn35 {a0 : Array Value} {Z : State} (hw : ∀ d ∈ tables_1, d.before a0 Z = true) : SN Z "com/example/monarc/monarc/Domains" "initial" "[Lcom/example/monarc/monarc/InitialDomain;" "com/example/monarc/monarc/Domains" "lower" "[I" := slot_ne (Or.inr (wd hw 103 rfl)) (Or.inr (wd hw 105 rfl)) (by decide) (t := (.array (.object "com/example/monarc/monarc/InitialDomain"))) (t' := (.array .int)) (by decide) (by decide)
theorem sn36 {a0 : Array Value} {Z : State} (hw : ∀ d ∈ tables_1, d.before a0 Z = true) : SN Z "com/example/monarc/monarc/Domains" "initial" "[Lcom/example/monarc/monarc/InitialDomain;" "com/example/monarc/monarc/Domains" "upper" "[I" := slot_ne (Or.inr (wd hw 103 rfl)) (Or.inr (wd hw 107 rfl)) (by decide) (t := (.array (.object "com/example/monarc/monarc/InitialDomain"))) (t' := (.array .int)) (by decide) (by decide)
theorem sn37 {a0 : Array Value} {Z : State} (hw : ∀ d ∈ tables_1, d.before a0 Z = true) : SN Z "com/example/monarc/monarc/Domains" "initial" "[Lcom/example/monarc/monarc/InitialDomain;" "com/example/monarc/monarc/Domains" "holes" "[[J" := slot_ne (Or.inr (wd hw 103 rfl)) (Or.inr (wd hw 111 rfl)) (by decide) (t := (.array (.object "com/example/monarc/monarc/InitialDomain"))) (t' := (.array (.array .long))) (by decide) (by decide)
theorem sn38 {a0 : Array Value} {Z : State} (hw : ∀ d ∈ tables_1, d.before a0 Z = true) : SN Z "com/example/monarc/monarc/Domains" "initial" "[Lcom/example/monarc/monarc/InitialDomain;" "com/example/monarc/monarc/Domains" "sizes" "[I" := slot_ne (Or.inr (wd hw 103 rfl)) (Or.inr (wd hw 113 rfl)) (by decide) (t := (.array (.object "com/example/monarc/monarc/InitialDomain"))) (t' := (.array .int)) (by decide) (by decide)
theorem sn39 {a0 : Array Value} {Z : State} (hw : ∀ d ∈ tables_1, d.before a0 Z = true) : SN Z "com/example/monarc/monarc/Domains" "lower" "[I" "com/example/monarc/monarc/Domains" "upper" "[I" := slot_ne (Or.inr (wd hw 105 rfl)) (Or.inr (wd hw 107 rfl)) (by decide) (t := (.array .int)) (t' := (.array .int)) (by decide) (by decide)
theorem sn40 {a0 : Array Value} {Z : State} (hw : ∀ d ∈ tables_1, d.before a0 Z = true) : SN Z "com/example/monarc/monarc/Domains" "lower" "[I" "com/example/monarc/monarc/Domains" "holes" "[[J" := slot_ne (Or.inr (wd hw 105 rfl)) (Or.inr (wd hw 111 rfl)) (by decide) (t := (.array .int)) (t' := (.array (.array .long))) (by decide) (by decide)
theorem sn41 {a0 : Array Value} {Z : State} (hw : ∀ d ∈ tables_1, d.before a0 Z = true) : SN Z "com/example/monarc/monarc/Domains" "lower" "[I" "com/example/monarc/monarc/Domains" "sizes" "[I" := slot_ne (Or.inr (wd hw 105 rfl)) (Or.inr (wd hw 113 rfl)) (by decide) (t := (.array .int)) (t' := (.array .int)) (by decide) (by decide)
theorem sn42 {a0 : Array Value} {Z : State} (hw : ∀ d ∈ tables_1, d.before a0 Z = true) : SN Z "com/example/monarc/monarc/Domains" "resized" "Ljava/util/function/IntConsumer;" "com/example/monarc/monarc/Domains" "trail" "[J" := slot_ne (Or.inl (wd hw 224 rfl)) (Or.inl (wd hw 85 rfl)) (by decide) (t := (.object "java/util/function/IntConsumer")) (t' := (.array .long)) (by decide) (by decide)
theorem sn43 {a0 : Array Value} {Z : State} (hw : ∀ d ∈ tables_1, d.before a0 Z = true) : SN Z "com/example/monarc/monarc/Domains" "resized" "Ljava/util/function/IntConsumer;" "com/example/monarc/monarc/Domains" "marks" "[I" := slot_ne (Or.inl (wd hw 224 rfl)) (Or.inl (wd hw 88 rfl)) (by decide) (t := (.object "java/util/function/IntConsumer")) (t' := (.array .int)) (by decide) (by decide)
theorem sn44 {a0 : Array Value} {Z : State} (hw : ∀ d ∈ tables_1, d.before a0 Z = true) : SN Z "com/example/monarc/monarc/Domains" "resized" "Ljava/util/function/IntConsumer;" "com/example/monarc/monarc/Domains" "initial" "[Lcom/example/monarc/monarc/InitialDomain;" := slot_ne (Or.inl (wd hw 224 rfl)) (Or.inr (wd hw 103 rfl)) (by decide) (t := (.object "java/util/function/IntConsumer")) (t' := (.array (.object "com/example/monarc/monarc/InitialDomain"))) (by decide) (by decide)
theorem sn45 {a0 : Array Value} {Z : State} (hw : ∀ d ∈ tables_1, d.before a0 Z = true) : SN Z "com/example/monarc/monarc/Domains" "resized" "Ljava/util/function/IntConsumer;" "com/example/monarc/monarc/Domains" "lower" "[I" := slot_ne (Or.inl (wd hw 224 rfl)) (Or.inr (wd hw 105 rfl)) (by decide) (t := (.object "java/util/function/IntConsumer")) (t' := (.array .int)) (by decide) (by decide)
theorem sn46 {a0 : Array Value} {Z : State} (hw : ∀ d ∈ tables_1, d.before a0 Z = true) : SN Z "com/example/monarc/monarc/Domains" "resized" "Ljava/util/function/IntConsumer;" "com/example/monarc/monarc/Domains" "upper" "[I" := slot_ne (Or.inl (wd hw 224 rfl)) (Or.inr (wd hw 107 rfl)) (by decide) (t := (.object "java/util/function/IntConsumer")) (t' := (.array .int)) (by decide) (by decide)
theorem sn47 {a0 : Array Value} {Z : State} (hw : ∀ d ∈ tables_1, d.before a0 Z = true) : SN Z "com/example/monarc/monarc/Domains" "resized" "Ljava/util/function/IntConsumer;" "com/example/monarc/monarc/Domains" "holes" "[[J" := slot_ne (Or.inl (wd hw 224 rfl)) (Or.inr (wd hw 111 rfl)) (by decide) (t := (.object "java/util/function/IntConsumer")) (t' := (.array (.array .long))) (by decide) (by decide)
theorem sn48 {a0 : Array Value} {Z : State} (hw : ∀ d ∈ tables_1, d.before a0 Z = true) : SN Z "com/example/monarc/monarc/Domains" "resized" "Ljava/util/function/IntConsumer;" "com/example/monarc/monarc/Domains" "sizes" "[I" := slot_ne (Or.inl (wd hw 224 rfl)) (Or.inr (wd hw 113 rfl)) (by decide) (t := (.object "java/util/function/IntConsumer")) (t' := (.array .int)) (by decide) (by decide)
theorem sn49 {a0 : Array Value} {Z : State} (hw : ∀ d ∈ tables_1, d.before a0 Z = true) : SN Z "com/example/monarc/monarc/Domains" "trail" "[J" "com/example/monarc/monarc/Domains" "marks" "[I" := slot_ne (Or.inl (wd hw 85 rfl)) (Or.inl (wd hw 88 rfl)) (by decide) (t := (.array .long)) (t' := (.array .int)) (by decide) (by decide)
theorem sn50 {a0 : Array Value} {Z : State} (hw : ∀ d ∈ tables_1, d.before a0 Z = true) : SN Z "com/example/monarc/monarc/Domains" "trail" "[J" "com/example/monarc/monarc/Domains" "initial" "[Lcom/example/monarc/monarc/InitialDomain;" := slot_ne (Or.inl (wd hw 85 rfl)) (Or.inr (wd hw 103 rfl)) (by decide) (t := (.array .long)) (t' := (.array (.object "com/example/monarc/monarc/InitialDomain"))) (by decide) (by decide)
theorem sn51 {a0 : Array Value} {Z : State} (hw : ∀ d ∈ tables_1, d.before a0 Z = true) : SN Z "com/example/monarc/monarc/Domains" "trail" "[J" "com/example/monarc/monarc/Domains" "lower" "[I" := slot_ne (Or.inl (wd hw 85 rfl)) (Or.inr (wd hw 105 rfl)) (by decide) (t := (.array .long)) (t' := (.array .int)) (by decide) (by decide)
theorem sn52 {a0 : Array Value} {Z : State} (hw : ∀ d ∈ tables_1, d.before a0 Z = true) : SN Z "com/example/monarc/monarc/Domains" "trail" "[J" "com/example/monarc/monarc/Domains" "upper" "[I" := slot_ne (Or.inl (wd hw 85 rfl)) (Or.inr (wd hw 107 rfl)) (by decide) (t := (.array .long)) (t' := (.array .int)) (by decide) (by decide)
theorem sn53 {a0 : Array Value} {Z : State} (hw : ∀ d ∈ tables_1, d.before a0 Z = true) : SN Z "com/example/monarc/monarc/Domains" "trail" "[J" "com/example/monarc/monarc/Domains" "holes" "[[J" := slot_ne (Or.inl (wd hw 85 rfl)) (Or.inr (wd hw 111 rfl)) (by decide) (t := (.array .long)) (t' := (.array (.array .long))) (by decide) (by decide)
theorem sn54 {a0 : Array Value} {Z : State} (hw : ∀ d ∈ tables_1, d.before a0 Z = true) : SN Z "com/example/monarc/monarc/Domains" "trail" "[J" "com/example/monarc/monarc/Domains" "sizes" "[I" := slot_ne (Or.inl (wd hw 85 rfl)) (Or.inr (wd hw 113 rfl)) (by decide) (t := (.array .long)) (t' := (.array .int)) (by decide) (by decide)
theorem sn55 {a0 : Array Value} {Z : State} (hw : ∀ d ∈ tables_1, d.before a0 Z = true) : SN Z "com/example/monarc/monarc/Domains" "trailSize" "I" "com/example/monarc/monarc/Domains" "trail" "[J" := slot_ne (Or.inl (wd hw 222 rfl)) (Or.inl (wd hw 85 rfl)) (by decide) (t := .int) (t' := (.array .long)) (by decide) (by decide)
theorem sn56 {a0 : Array Value} {Z : State} (hw : ∀ d ∈ tables_1, d.before a0 Z = true) : SN Z "com/example/monarc/monarc/Domains" "trailSize" "I" "com/example/monarc/monarc/Domains" "marks" "[I" := slot_ne (Or.inl (wd hw 222 rfl)) (Or.inl (wd hw 88 rfl)) (by decide) (t := .int) (t' := (.array .int)) (by decide) (by decide)
theorem sn57 {a0 : Array Value} {Z : State} (hw : ∀ d ∈ tables_1, d.before a0 Z = true) : SN Z "com/example/monarc/monarc/Domains" "trailSize" "I" "com/example/monarc/monarc/Domains" "initial" "[Lcom/example/monarc/monarc/InitialDomain;" := slot_ne (Or.inl (wd hw 222 rfl)) (Or.inr (wd hw 103 rfl)) (by decide) (t := .int) (t' := (.array (.object "com/example/monarc/monarc/InitialDomain"))) (by decide) (by decide)
theorem sn58 {a0 : Array Value} {Z : State} (hw : ∀ d ∈ tables_1, d.before a0 Z = true) : SN Z "com/example/monarc/monarc/Domains" "trailSize" "I" "com/example/monarc/monarc/Domains" "lower" "[I" := slot_ne (Or.inl (wd hw 222 rfl)) (Or.inr (wd hw 105 rfl)) (by decide) (t := .int) (t' := (.array .int)) (by decide) (by decide)
theorem sn59 {a0 : Array Value} {Z : State} (hw : ∀ d ∈ tables_1, d.before a0 Z = true) : SN Z "com/example/monarc/monarc/Domains" "trailSize" "I" "com/example/monarc/monarc/Domains" "upper" "[I" := slot_ne (Or.inl (wd hw 222 rfl)) (Or.inr (wd hw 107 rfl)) (by decide) (t := .int) (t' := (.array .int)) (by decide) (by decide)
theorem sn60 {a0 : Array Value} {Z : State} (hw : ∀ d ∈ tables_1, d.before a0 Z = true) : SN Z "com/example/monarc/monarc/Domains" "trailSize" "I" "com/example/monarc/monarc/Domains" "holes" "[[J" := slot_ne (Or.inl (wd hw 222 rfl)) (Or.inr (wd hw 111 rfl)) (by decide) (t := .int) (t' := (.array (.array .long))) (by decide) (by decide)
theorem sn61 {a0 : Array Value} {Z : State} (hw : ∀ d ∈ tables_1, d.before a0 Z = true) : SN Z "com/example/monarc/monarc/Domains" "trailSize" "I" "com/example/monarc/monarc/Domains" "sizes" "[I" := slot_ne (Or.inl (wd hw 222 rfl)) (Or.inr (wd hw 113 rfl)) (by decide) (t := .int) (t' := (.array .int)) (by decide) (by decide)
theorem sn62 {a0 : Array Value} {Z : State} (hw : ∀ d ∈ tables_1, d.before a0 Z = true) : SN Z "com/example/monarc/monarc/Domains" "upper" "[I" "com/example/monarc/monarc/Domains" "holes" "[[J" := slot_ne (Or.inr (wd hw 107 rfl)) (Or.inr (wd hw 111 rfl)) (by decide) (t := (.array .int)) (t' := (.array (.array .long))) (by decide) (by decide)
theorem sn63 {a0 : Array Value} {Z : State} (hw : ∀ d ∈ tables_1, d.before a0 Z = true) : SN Z "com/example/monarc/monarc/Domains" "upper" "[I" "com/example/monarc/monarc/Domains" "sizes" "[I" := slot_ne (Or.inr (wd hw 107 rfl)) (Or.inr (wd hw 113 rfl)) (by decide) (t := (.array .int)) (t' := (.array .int)) (by decide) (by decide)
theorem sn64 {a0 : Array Value} {Z : State} (hw : ∀ d ∈ tables_1, d.before a0 Z = true) : SN Z "com/example/monarc/monarc/Domains" "withOneValue" "I" "com/example/monarc/monarc/Domains" "trail" "[J" := slot_ne (Or.inl (wd hw 183 rfl)) (Or.inl (wd hw 85 rfl)) (by decide) (t := .int) (t' := (.array .long)) (by decide) (by decide)
theorem sn65 {a0 : Array Value} {Z : State} (hw : ∀ d ∈ tables_1, d.before a0 Z = true) : SN Z "com/example/monarc/monarc/Domains" "withOneValue" "I" "com/example/monarc/monarc/Domains" "marks" "[I" := slot_ne (Or.inl (wd hw 183 rfl)) (Or.inl (wd hw 88 rfl)) (by decide) (t := .int) (t' := (.array .int)) (by decide) (by decide)
theorem sn66 {a0 : Array Value} {Z : State} (hw : ∀ d ∈ tables_1, d.before a0 Z = true) : SN Z "com/example/monarc/monarc/Domains" "withOneValue" "I" "com/example/monarc/monarc/Domains" "initial" "[Lcom/example/monarc/monarc/InitialDomain;" := slot_ne (Or.inl (wd hw 183 rfl)) (Or.inr (wd hw 103 rfl)) (by decide) (t := .int) (t' := (.array (.object "com/example/monarc/monarc/InitialDomain"))) (by decide) (by decide)
theorem sn67 {a0 : Array Value} {Z : State} (hw : ∀ d ∈ tables_1, d.before a0 Z = true) : SN Z "com/example/monarc/monarc/Domains" "withOneValue" "I" "com/example/monarc/monarc/Domains" "lower" "[I" := slot_ne (Or.inl (wd hw 183 rfl)) (Or.inr (wd hw 105 rfl)) (by decide) (t := .int) (t' := (.array .int)) (by decide) (by decide)
theorem sn68 {a0 : Array Value} {Z : State} (hw : ∀ d ∈ tables_1, d.before a0 Z = true) : SN Z "com/example/monarc/monarc/Domains" "withOneValue" "I" "com/example/monarc/monarc/Domains" "upper" "[I" := slot_ne (Or.inl (wd hw 183 rfl)) (Or.inr (wd hw 107 rfl)) (by decide) (t := .int) (t' := (.array .int)) (by decide) (by decide)
theorem sn69 {a0 : Array Value} {Z : State} (hw : ∀ d ∈ tables_1, d.before a0 Z = true) : SN Z "com/example/monarc/monarc/Domains" "withOneValue" "I" "com/example/monarc/monarc/Domains" "holes" "[[J" := slot_ne (Or.inl (wd hw 183 rfl)) (Or.inr (wd hw 111 rfl)) (by decide) (t := .int) (t' := (.array (.array .long))) (by decide) (by decide)
theorem sn70 {a0 : Array Value} {Z : State} (hw : ∀ d ∈ tables_1, d.before a0 Z = true) : SN Z "com/example/monarc/monarc/Domains" "withOneValue" "I" "com/example/monarc/monarc/Domains" "sizes" "[I" := slot_ne (Or.inl (wd hw 183 rfl)) (Or.inr (wd hw 113 rfl)) (by decide) (t := .int) (t' := (.array .int)) (by decide) (by decide)
theorem pn_7 : plainName "com/example/monarc/monarc/Domains" = true := by first | (simp [plainName, overriddenIn]; done) | decide +kernel
theorem ef_am10_1 (m : MethodId) (x0 : Addr) (x1 : Addr)  : entryFrame m #[(.ref x0), (.ref x1)] 4 = mkF m 0 #[.val (.ref x0), .val (.ref x1), .unset, .unset] [] := by first | (simp [entryFrame, mkF, argsToLocals, Value.category]; done) | rfl
def Q_am10_1 (Z : State) (u_1 : Addr) (aw0 : Addr) (u_0 : ClassId) (kaw0 : ClassId) (ad1 : Addr) (ad2 : Addr) (h0 : Heap) (n0 : Nat) (v : Option Value) (h : Heap) (L : List Loc) : Prop := ∃ fr1 : Addr, ∃ fr2 : Addr, ∃ fr3 : Addr, ∃ fr4 : Addr, ∃ fr5 : Addr, ∃ fr6 : Addr, ∃ kx1 : ClassId, ∃ kx2 : ClassId, ∃ kx3 : ClassId, ∃ kx4 : ClassId, ∃ kx5 : ClassId, ∃ kx6 : ClassId, v = none ∧ h0.size ≤ fr1 ∧ h0.size ≤ fr2 ∧ h0.size ≤ fr3 ∧ h0.size ≤ fr4 ∧ h0.size ≤ fr5 ∧ h0.size ≤ fr6 ∧ fr1 ≠ fr2 ∧ fr1 ≠ fr3 ∧ fr1 ≠ fr4 ∧ fr1 ≠ fr5 ∧ fr1 ≠ fr6 ∧ fr2 ≠ fr3 ∧ fr2 ≠ fr4 ∧ fr2 ≠ fr5 ∧ fr2 ≠ fr6 ∧ fr3 ≠ fr4 ∧ fr3 ≠ fr5 ∧ fr3 ≠ fr6 ∧ fr4 ≠ fr5 ∧ fr4 ≠ fr6 ∧ fr5 ≠ fr6 ∧ Fr n0 L ∧ Keep h0 h [ad1] ∧ (Exa Z h ad1 "com/example/monarc/monarc/Domains") ∧ (Fld Z h ad1 "com/example/monarc/monarc/Domains" "holes" "[[J" (.ref fr1)) ∧ (Fld Z h ad1 "com/example/monarc/monarc/Domains" "initial" "[Lcom/example/monarc/monarc/InitialDomain;" (.ref fr2)) ∧ (Fld Z h ad1 "com/example/monarc/monarc/Domains" "lower" "[I" (.ref fr3)) ∧ (Fld Z h ad1 "com/example/monarc/monarc/Domains" "resized" "Ljava/util/function/IntConsumer;" .null) ∧ (Fld Z h ad1 "com/example/monarc/monarc/Domains" "sizes" "[I" (.ref fr4)) ∧ (Fld Z h ad1 "com/example/monarc/monarc/Domains" "trail" "[J" (.ref fr5)) ∧ (Fld Z h ad1 "com/example/monarc/monarc/Domains" "trailSize" "I" (.int (0 : Int32))) ∧ (Fld Z h ad1 "com/example/monarc/monarc/Domains" "upper" "[I" (.ref fr6)) ∧ (Fld Z h ad1 "com/example/monarc/monarc/Domains" "withOneValue" "I" (.int (0 : Int32))) ∧ (Exa Z h fr1 "[[J") ∧ (Arv Z h fr1 kx1 (.array .long) (0 : Int32) [] .null) ∧ (Arv Z h fr2 kx2 (.object "com/example/monarc/monarc/InitialDomain") (0 : Int32) [] .null) ∧ (Arv Z h fr3 kx3 .int (0 : Int32) [] (.int (0 : Int32))) ∧ (Arv Z h fr4 kx4 .int (0 : Int32) [] (.int (0 : Int32))) ∧ (Arv Z h fr5 kx5 .long (1024 : Int32) [] (.long (0 : Int64))) ∧ (Arv Z h fr6 kx6 .int (0 : Int32) [] (.int (0 : Int32))) ∧ (OvrA Z kx1 .long "[J") ∧ (Ovr Z kx2 "com/example/monarc/monarc/InitialDomain")
set_option maxRecDepth 65536 in
set_option maxHeartbeats 40000000 in
theorem am10_1 (l : Launch) (Z : State) (a0 : Array Value) (hw : ∀ d ∈ tables_1, d.before a0 Z = true) (ws : List Jvm.Cond) (u_1 : Addr) (aw0 : Addr) (u_0 : ClassId) (kaw0 : ClassId) (HW : Wd Z u_1 aw0 u_0 kaw0) (ad1 : Addr) (ad2 : Addr) (h0 : Heap) (n0 : Nat) (Ol : Old Z n0 h0) (HE_ad2 : Exa Z h0 ad2 "java/util/ArrayList") (HF_ad2_ArrayList_size : Fld Z h0 ad2 "java/util/ArrayList" "size" "I" (.int (0 : Int32))) (HE_ad1 : Exa Z h0 ad1 "com/example/monarc/monarc/Domains") (HF_ad1_Domains_trail : Fld Z h0 ad1 "com/example/monarc/monarc/Domains" "trail" "[J" .null) (HF_ad1_Domains_marks : Fld Z h0 ad1 "com/example/monarc/monarc/Domains" "marks" "[I" .null) (HF_ad1_Domains_initial : Fld Z h0 ad1 "com/example/monarc/monarc/Domains" "initial" "[Lcom/example/monarc/monarc/InitialDomain;" .null) (HF_ad1_Domains_lower : Fld Z h0 ad1 "com/example/monarc/monarc/Domains" "lower" "[I" .null) (HF_ad1_Domains_upper : Fld Z h0 ad1 "com/example/monarc/monarc/Domains" "upper" "[I" .null) (HF_ad1_Domains_holes : Fld Z h0 ad1 "com/example/monarc/monarc/Domains" "holes" "[[J" .null) (HF_ad1_Domains_sizes : Fld Z h0 ad1 "com/example/monarc/monarc/Domains" "sizes" "[I" .null) (HF_ad1_Domains_withOneValue : Fld Z h0 ad1 "com/example/monarc/monarc/Domains" "withOneValue" "I" (.int (0 : Int32))) (HF_ad1_Domains_trailSize : Fld Z h0 ad1 "com/example/monarc/monarc/Domains" "trailSize" "I" (.int (0 : Int32))) (HF_ad1_Domains_resized : Fld Z h0 ad1 "com/example/monarc/monarc/Domains" "resized" "Ljava/util/function/IntConsumer;" .null) (nn_ad1 : n0 ≤ ad1) (ne_ad1_ad2 : ad1 ≠ ad2) :
    MetFree l y_10 (head1 (Jvm.Cond.code y_10 prog_11_method_1_code 4 none :: ws) (rm 1 7 1088 12)) (fun a_ U_ => a_ = #[(.ref ad1), (.ref ad2)] ∧ Z.Warmed39 U_.vm ∧ U_.heap = h0) (fun _ _ _ _ _ => True) (fun _ U_ o_ V_ => ∃ v_ L_, o_ = .returned v_ ∧ Q_am10_1 Z u_1 aw0 u_0 kaw0 ad1 ad2 h0 n0 v_ V_.heap L_ ∧ FrameEnd U_ o_ V_ L_ (rm 1 7 1088 12).cells (rm 1 7 1088 12).slots) := by
  refine MetFree.of_bodySF (plainFor_of_name pn_7) hisR ?_
  intro p e s m args below meth c s₁ Bd hml0 hP hK
  obtain ⟨rfl, hZ, hh⟩ := hP
  have hx := Bd.exec
  have hby := Bd.bytes
  have hml : c.maxLocals = 4 := hml0
  have hown : s.vm.findClass "com/example/monarc/monarc/Domains" = some m.cls := findClass_of_methodNamed Bd.named
  have hnm := (name_of_methodNamed Bd.named Bd.method).1
  have X0 : Stand p l e (rm 1 7 1088 12) s m #[(.ref ad1), (.ref ad2)] below meth c s₁ [] 0 0 := Stand.of_body Bd
  have e0 : s₁.heap = h0 := by rw [← hh, Bd.state]; rfl
  have N0 := Fr.nil n0
  have kp0 := Keep.refl h0 [ad1]
  show Go p e below (Fin1 s below (Q_am10_1 Z u_1 aw0 u_0 kaw0 ad1 ad2 h0 n0) (rm 1 7 1088 12).cells (rm 1 7 1088 12).slots) _
  refine Go.step (fun t_ k_ => castTop (ef_am10_1 m ad1 ad2) k_) ?_
  obtain ⟨Eu_1, Su_1, Eaw0, Saw0, Au_1, Aaw0⟩ := id HW
  show Go p e below _ (s₁.setTop (mkF m 0 #[.val (.ref ad1), .val (.ref ad2), .unset, .unset] []))
  refine gs.aloadN X0.here hx (hb hby d10_0) rfl rfl ?_
  obtain ⟨T1, X1, e1, st1⟩ := initO X0 hx hZ hown (wd hw 82 rfl) (wd hw 15 rfl) (wd hw 16 rfl) e0 (g := (mkF m 1 #[.val (.ref ad1), .val (.ref ad2), .unset, .unset] [(.ref ad1)])) rfl (by rw [hml]; rfl) rfl (hb hby d10_1) (by decide) (W := 0) (by show 2 * 0 + _ ≤ _; exact Nat.le_of_eq rfl) (by decide)
  refine Go.step st1 ?_
  show Go p e below _ (T1.setTop (mkF m 4 #[.val (.ref ad1), .val (.ref ad2), .unset, .unset] []))
  refine gs.aloadN X1.here hx (hb hby d10_4) rfl rfl ?_
  refine gs.sipush 1024 X1.here hx (hb hby d10_5) rfl ?_
  obtain ⟨T2, h2, k2, X2, e2, E2, A2, st2⟩ := newP X1 hx hZ (wd hw 83 rfl) e1 (g := (mkF m 8 #[.val (.ref ad1), .val (.ref ad2), .unset, .unset] [(.int (1024 : Int32)), (.ref ad1)])) rfl (hb hby d10_8) rfl (by decide) (cap := 1024) (by decide) (by decide) (by decide) (by decide)
  obtain ⟨b2, g2⟩ : ∃ z, z = h0.size := ⟨_, rfl⟩
  rw [← g2] at A2 st2
  have nn_b2 : n0 ≤ b2 := Nat.le_trans (old_z0 Ol) (Nat.le_of_eq g2.symm)
  have sz_b2 : h0.size ≤ b2 := Nat.le_trans kp0.1 (Nat.le_of_eq g2.symm)
  have old2 := Ol.ext E2
  have kp2 := kp0.ext E2
  have V2 : Arv Z h2 b2 k2 .long (1024 : Int32) [] (.long (0 : Int64)) := (Arv.new A2 (by decide)).pad (pad_rep [] (.long (0 : Int64)) 0)
  refine Go.fin st2 ?_
  show Go p e below _ (T2.setTop (mkF m 10 _ [(.ref b2), (.ref ad1)]))
  have f3 := (HF_ad1_Domains_trail.ext E2)
  have f4 := (HE_ad1.ext E2)
  obtain ⟨T5, h5, X5, e5, W5, st5⟩ := putF X2 hx hZ hown (host := "") (Or.inl (wd hw 84 rfl)) Via.refl e2 f3 f4 (Or.inl (wd hw 85 rfl)) (wd hw 77 rfl) (ty := (.array .long)) (by decide) rfl rfl (g := (mkF m 10 #[.val (.ref ad1), .val (.ref ad2), .unset, .unset] [(.ref b2), (.ref ad1)])) rfl rfl (hb hby d10_10)
  have N5 := Fr.snoc X5 N0 nn_ad1
  have old5 := old2.wr W5 nn_ad1
  have kp5 := kp2.wr W5 (Or.inl (List.mem_of_getElem? (i := 0) rfl))
  have F5 := f3.same W5
  refine Go.fin st5 ?_
  show Go p e below _ (T5.setTop (mkF m 13 _ []))
  refine gs.aloadN X5.here hx (hb hby d10_13) rfl rfl ?_
  refine gs.bipush 64 X5.here hx (hb hby d10_14) rfl ?_
  obtain ⟨T6, h6, k6, X6, e6, E6, A6, st6⟩ := newP X5 hx hZ (wd hw 86 rfl) e5 (g := (mkF m 16 #[.val (.ref ad1), .val (.ref ad2), .unset, .unset] [(.int (64 : Int32)), (.ref ad1)])) rfl (hb hby d10_16) rfl (by decide) (cap := 64) (by decide) (by decide) (by decide) (by decide)
  obtain ⟨b6, g6⟩ : ∃ z, z = h5.size := ⟨_, rfl⟩
  rw [← g6] at A6 st6
  have nn_b6 : n0 ≤ b6 := Nat.le_trans (old_z0 old5) (Nat.le_of_eq g6.symm)
  have sz_b6 : h0.size ≤ b6 := Nat.le_trans kp5.1 (Nat.le_of_eq g6.symm)
  have old6 := old5.ext E6
  have kp6 := kp5.ext E6
  have V6 : Arv Z h6 b6 k6 .int (64 : Int32) [] (.int (0 : Int32)) := (Arv.new A6 (by decide)).pad (pad_rep [] (.int (0 : Int32)) 0)
  refine Go.fin st6 ?_
  show Go p e below _ (T6.setTop (mkF m 18 _ [(.ref b6), (.ref ad1)]))
  have f7 := (((HF_ad1_Domains_marks.ext E2).other W5 (Or.inr (sn13 hw))).ext E6)
  have f8 := ((f4.wr W5).ext E6)
  obtain ⟨T9, h9, X9, e9, W9, st9⟩ := putF X6 hx hZ hown (host := "") (Or.inl (wd hw 87 rfl)) Via.refl e6 f7 f8 (Or.inl (wd hw 88 rfl)) (wd hw 77 rfl) (ty := (.array .int)) (by decide) rfl rfl (g := (mkF m 18 #[.val (.ref ad1), .val (.ref ad2), .unset, .unset] [(.ref b6), (.ref ad1)])) rfl rfl (hb hby d10_18)
  have N9 := Fr.snoc X9 N5 nn_ad1
  have old9 := old6.wr W9 nn_ad1
  have kp9 := kp6.wr W9 (Or.inl (List.mem_of_getElem? (i := 0) rfl))
  have F9 := f7.same W9
  refine Go.fin st9 ?_
  show Go p e below _ (T9.setTop (mkF m 21 _ []))
  refine gs.aloadN X9.here hx (hb hby d10_21) rfl rfl ?_
  have f10 := ((((HE_ad2.ext E2).wr W5).ext E6).wr W9)
  have f11 := ((((HF_ad2_ArrayList_size.ext E2).other W5 (Or.inl (Ne.symm ne_ad1_ad2))).ext E6).other W9 (Or.inl (Ne.symm ne_ad1_ad2)))
  refine gs.face 0 X9 hx hZ hown (am11_1 l Z a0 hw [] u_1 aw0 u_0 kaw0 HW (ad2) h9 n0 old9 f11) (wd hw 97 rfl) (wd hw 54 rfl) (wd hw 89 rfl) (wd hw 90 rfl) (mvT hZ (wd hw 91 rfl)) (wd hw 92 rfl) (wd hw 93 rfl) (wd hw 94 rfl) (wd hw 95 rfl) (wd hw 96 rfl) (by decide) f10 (by decide) (by decide) (by rw [hml]; rfl) [] (lenOf pd_5 rfl) rfl (Nat.le_of_eq rfl) (hb hby d10_22) rfl e9 (by decide) (by decide) fun T12 Lc12 v12 X12 hQ12 => ?_
  obtain ⟨rfl, Nq12, e12⟩ := hQ12
  have N12 := Fr.app N9 Nq12
  show Go p e below _ (T12.setTop (mkF m 27 _ [(.int (0 : Int32))]))
  refine gs.istoreN X12.here hx (hb hby d10_27) (l' := #[.val (.ref ad1), .val (.ref ad2), .val (.int (0 : Int32)), .unset]) rfl ?_
  refine gs.aloadN X12.here hx (hb hby d10_28) rfl rfl ?_
  refine gs.iloadN X12.here hx (hb hby d10_29) rfl ?_
  obtain ⟨T13, h13, k13, X13, e13, E13, A13, O13, st13⟩ := newR X12 hx hZ hown (wd hw 100 rfl) (wd hw 101 rfl) e12 (g := (mkF m 30 #[.val (.ref ad1), .val (.ref ad2), .val (.int (0 : Int32)), .unset] [(.int (0 : Int32)), (.ref ad1)])) rfl (hb hby d10_30) rfl (by decide) (cap := 0) (by decide) (by decide) (by decide) (by decide)
  obtain ⟨b13, g13⟩ : ∃ z, z = h9.size := ⟨_, rfl⟩
  rw [← g13] at A13 st13
  have nn_b13 : n0 ≤ b13 := Nat.le_trans (old_z0 old9) (Nat.le_of_eq g13.symm)
  have sz_b13 : h0.size ≤ b13 := Nat.le_trans kp9.1 (Nat.le_of_eq g13.symm)
  have old13 := old9.ext E13
  have kp13 := kp9.ext E13
  have V13 : Arv Z h13 b13 k13 (.object "com/example/monarc/monarc/InitialDomain") (0 : Int32) [] .null := (Arv.new A13 (by decide)).pad (pad_rep [] .null 0)
  refine Go.fin st13 ?_
  show Go p e below _ (T13.setTop (mkF m 33 _ [(.ref b13), (.ref ad1)]))
  have f14 := (((((HF_ad1_Domains_initial.ext E2).other W5 (Or.inr (sn14 hw))).ext E6).other W9 (Or.inr (sn15 hw))).ext E13)
  have f15 := ((f8.wr W9).ext E13)
  obtain ⟨T16, h16, X16, e16, W16, st16⟩ := putF X13 hx hZ hown (host := "") (Or.inl (wd hw 102 rfl)) Via.refl e13 f14 f15 (Or.inr ⟨(wd hw 103 rfl), rfl, hnm⟩) (wd hw 77 rfl) (ty := (.array (.object "com/example/monarc/monarc/InitialDomain"))) (by decide) rfl rfl (g := (mkF m 33 #[.val (.ref ad1), .val (.ref ad2), .val (.int (0 : Int32)), .unset] [(.ref b13), (.ref ad1)])) rfl rfl (hb hby d10_33)
  have N16 := Fr.snoc X16 N12 nn_ad1
  have old16 := old13.wr W16 nn_ad1
  have kp16 := kp13.wr W16 (Or.inl (List.mem_of_getElem? (i := 0) rfl))
  have F16 := f14.same W16
  refine Go.fin st16 ?_
  show Go p e below _ (T16.setTop (mkF m 36 _ []))
  refine gs.aloadN X16.here hx (hb hby d10_36) rfl rfl ?_
  refine gs.iloadN X16.here hx (hb hby d10_37) rfl ?_
  obtain ⟨T17, h17, k17, X17, e17, E17, A17, st17⟩ := newP X16 hx hZ (wd hw 86 rfl) e16 (g := (mkF m 38 #[.val (.ref ad1), .val (.ref ad2), .val (.int (0 : Int32)), .unset] [(.int (0 : Int32)), (.ref ad1)])) rfl (hb hby d10_38) rfl (by decide) (cap := 0) (by decide) (by decide) (by decide) (by decide)
  obtain ⟨b17, g17⟩ : ∃ z, z = h16.size := ⟨_, rfl⟩
  rw [← g17] at A17 st17
  have nn_b17 : n0 ≤ b17 := Nat.le_trans (old_z0 old16) (Nat.le_of_eq g17.symm)
  have sz_b17 : h0.size ≤ b17 := Nat.le_trans kp16.1 (Nat.le_of_eq g17.symm)
  have old17 := old16.ext E17
  have kp17 := kp16.ext E17
  have V17 : Arv Z h17 b17 k17 .int (0 : Int32) [] (.int (0 : Int32)) := (Arv.new A17 (by decide)).pad (pad_rep [] (.int (0 : Int32)) 0)
  refine Go.fin st17 ?_
  show Go p e below _ (T17.setTop (mkF m 40 _ [(.ref b17), (.ref ad1)]))
  have f18 := (((((((HF_ad1_Domains_lower.ext E2).other W5 (Or.inr (sn16 hw))).ext E6).other W9 (Or.inr (sn17 hw))).ext E13).other W16 (Or.inr (sn18 hw))).ext E17)
  have f19 := ((f15.wr W16).ext E17)
  obtain ⟨T20, h20, X20, e20, W20, st20⟩ := putF X17 hx hZ hown (host := "") (Or.inl (wd hw 104 rfl)) Via.refl e17 f18 f19 (Or.inr ⟨(wd hw 105 rfl), rfl, hnm⟩) (wd hw 77 rfl) (ty := (.array .int)) (by decide) rfl rfl (g := (mkF m 40 #[.val (.ref ad1), .val (.ref ad2), .val (.int (0 : Int32)), .unset] [(.ref b17), (.ref ad1)])) rfl rfl (hb hby d10_40)
  have N20 := Fr.snoc X20 N16 nn_ad1
  have old20 := old17.wr W20 nn_ad1
  have kp20 := kp17.wr W20 (Or.inl (List.mem_of_getElem? (i := 0) rfl))
  have F20 := f18.same W20
  refine Go.fin st20 ?_
  show Go p e below _ (T20.setTop (mkF m 43 _ []))
  refine gs.aloadN X20.here hx (hb hby d10_43) rfl rfl ?_
  refine gs.iloadN X20.here hx (hb hby d10_44) rfl ?_
  obtain ⟨T21, h21, k21, X21, e21, E21, A21, st21⟩ := newP X20 hx hZ (wd hw 86 rfl) e20 (g := (mkF m 45 #[.val (.ref ad1), .val (.ref ad2), .val (.int (0 : Int32)), .unset] [(.int (0 : Int32)), (.ref ad1)])) rfl (hb hby d10_45) rfl (by decide) (cap := 0) (by decide) (by decide) (by decide) (by decide)
  obtain ⟨b21, g21⟩ : ∃ z, z = h20.size := ⟨_, rfl⟩
  rw [← g21] at A21 st21
  have nn_b21 : n0 ≤ b21 := Nat.le_trans (old_z0 old20) (Nat.le_of_eq g21.symm)
  have sz_b21 : h0.size ≤ b21 := Nat.le_trans kp20.1 (Nat.le_of_eq g21.symm)
  have old21 := old20.ext E21
  have kp21 := kp20.ext E21
  have V21 : Arv Z h21 b21 k21 .int (0 : Int32) [] (.int (0 : Int32)) := (Arv.new A21 (by decide)).pad (pad_rep [] (.int (0 : Int32)) 0)
  refine Go.fin st21 ?_
  show Go p e below _ (T21.setTop (mkF m 47 _ [(.ref b21), (.ref ad1)]))
  have f22 := (((((((((HF_ad1_Domains_upper.ext E2).other W5 (Or.inr (sn19 hw))).ext E6).other W9 (Or.inr (sn20 hw))).ext E13).other W16 (Or.inr (sn21 hw))).ext E17).other W20 (Or.inr (sn22 hw))).ext E21)
  have f23 := ((f19.wr W20).ext E21)
  obtain ⟨T24, h24, X24, e24, W24, st24⟩ := putF X21 hx hZ hown (host := "") (Or.inl (wd hw 106 rfl)) Via.refl e21 f22 f23 (Or.inr ⟨(wd hw 107 rfl), rfl, hnm⟩) (wd hw 77 rfl) (ty := (.array .int)) (by decide) rfl rfl (g := (mkF m 47 #[.val (.ref ad1), .val (.ref ad2), .val (.int (0 : Int32)), .unset] [(.ref b21), (.ref ad1)])) rfl rfl (hb hby d10_47)
  have N24 := Fr.snoc X24 N20 nn_ad1
  have old24 := old21.wr W24 nn_ad1
  have kp24 := kp21.wr W24 (Or.inl (List.mem_of_getElem? (i := 0) rfl))
  have F24 := f22.same W24
  refine Go.fin st24 ?_
  show Go p e below _ (T24.setTop (mkF m 50 _ []))
  refine gs.aloadN X24.here hx (hb hby d10_50) rfl rfl ?_
  refine gs.iloadN X24.here hx (hb hby d10_51) rfl ?_
  obtain ⟨T25, h25, k25, X25, e25, E25, A25, B25, O25, st25⟩ := newRA X24 hx hZ (ty := .long) hown (by decide) (wd hw 108 rfl) (wd hw 109 rfl) e24 (g := (mkF m 52 #[.val (.ref ad1), .val (.ref ad2), .val (.int (0 : Int32)), .unset] [(.int (0 : Int32)), (.ref ad1)])) rfl (hb hby d10_52) rfl (by decide) (cap := 0) (by decide) (by decide) (by decide) (by decide) (ad := "[[J") (by decide)
  obtain ⟨b25, g25⟩ : ∃ z, z = h24.size := ⟨_, rfl⟩
  rw [← g25] at A25 B25 st25
  have nn_b25 : n0 ≤ b25 := Nat.le_trans (old_z0 old24) (Nat.le_of_eq g25.symm)
  have sz_b25 : h0.size ≤ b25 := Nat.le_trans kp24.1 (Nat.le_of_eq g25.symm)
  have old25 := old24.ext E25
  have kp25 := kp24.ext E25
  have V25 : Arv Z h25 b25 k25 (.array .long) (0 : Int32) [] .null := (Arv.new A25 (by decide)).pad (pad_rep [] .null 0)
  refine Go.fin st25 ?_
  show Go p e below _ (T25.setTop (mkF m 55 _ [(.ref b25), (.ref ad1)]))
  have f26 := (((((((((((HF_ad1_Domains_holes.ext E2).other W5 (Or.inr (sn23 hw))).ext E6).other W9 (Or.inr (sn24 hw))).ext E13).other W16 (Or.inr (sn25 hw))).ext E17).other W20 (Or.inr (sn26 hw))).ext E21).other W24 (Or.inr (sn27 hw))).ext E25)
  have f27 := ((f23.wr W24).ext E25)
  obtain ⟨T28, h28, X28, e28, W28, st28⟩ := putF X25 hx hZ hown (host := "") (Or.inl (wd hw 110 rfl)) Via.refl e25 f26 f27 (Or.inr ⟨(wd hw 111 rfl), rfl, hnm⟩) (wd hw 77 rfl) (ty := (.array (.array .long))) (by decide) rfl rfl (g := (mkF m 55 #[.val (.ref ad1), .val (.ref ad2), .val (.int (0 : Int32)), .unset] [(.ref b25), (.ref ad1)])) rfl rfl (hb hby d10_55)
  have N28 := Fr.snoc X28 N24 nn_ad1
  have old28 := old25.wr W28 nn_ad1
  have kp28 := kp25.wr W28 (Or.inl (List.mem_of_getElem? (i := 0) rfl))
  have F28 := f26.same W28
  refine Go.fin st28 ?_
  show Go p e below _ (T28.setTop (mkF m 58 _ []))
  refine gs.aloadN X28.here hx (hb hby d10_58) rfl rfl ?_
  refine gs.iloadN X28.here hx (hb hby d10_59) rfl ?_
  obtain ⟨T29, h29, k29, X29, e29, E29, A29, st29⟩ := newP X28 hx hZ (wd hw 86 rfl) e28 (g := (mkF m 60 #[.val (.ref ad1), .val (.ref ad2), .val (.int (0 : Int32)), .unset] [(.int (0 : Int32)), (.ref ad1)])) rfl (hb hby d10_60) rfl (by decide) (cap := 0) (by decide) (by decide) (by decide) (by decide)
  obtain ⟨b29, g29⟩ : ∃ z, z = h28.size := ⟨_, rfl⟩
  rw [← g29] at A29 st29
  have nn_b29 : n0 ≤ b29 := Nat.le_trans (old_z0 old28) (Nat.le_of_eq g29.symm)
  have sz_b29 : h0.size ≤ b29 := Nat.le_trans kp28.1 (Nat.le_of_eq g29.symm)
  have old29 := old28.ext E29
  have kp29 := kp28.ext E29
  have V29 : Arv Z h29 b29 k29 .int (0 : Int32) [] (.int (0 : Int32)) := (Arv.new A29 (by decide)).pad (pad_rep [] (.int (0 : Int32)) 0)
  refine Go.fin st29 ?_
  show Go p e below _ (T29.setTop (mkF m 62 _ [(.ref b29), (.ref ad1)]))
  have f30 := (((((((((((((HF_ad1_Domains_sizes.ext E2).other W5 (Or.inr (sn28 hw))).ext E6).other W9 (Or.inr (sn29 hw))).ext E13).other W16 (Or.inr (sn30 hw))).ext E17).other W20 (Or.inr (sn31 hw))).ext E21).other W24 (Or.inr (sn32 hw))).ext E25).other W28 (Or.inr (sn33 hw))).ext E29)
  have f31 := ((f27.wr W28).ext E29)
  obtain ⟨T32, h32, X32, e32, W32, st32⟩ := putF X29 hx hZ hown (host := "") (Or.inl (wd hw 112 rfl)) Via.refl e29 f30 f31 (Or.inr ⟨(wd hw 113 rfl), rfl, hnm⟩) (wd hw 77 rfl) (ty := (.array .int)) (by decide) rfl rfl (g := (mkF m 62 #[.val (.ref ad1), .val (.ref ad2), .val (.int (0 : Int32)), .unset] [(.ref b29), (.ref ad1)])) rfl rfl (hb hby d10_62)
  have N32 := Fr.snoc X32 N28 nn_ad1
  have old32 := old29.wr W32 nn_ad1
  have kp32 := kp29.wr W32 (Or.inl (List.mem_of_getElem? (i := 0) rfl))
  have F32 := f30.same W32
  refine Go.fin st32 ?_
  show Go p e below _ (T32.setTop (mkF m 65 _ []))
  refine gs.iconst 0 X32.here hx (hb hby d10_65) rfl ?_
  refine gs.istoreN X32.here hx (hb hby d10_66) (l' := #[.val (.ref ad1), .val (.ref ad2), .val (.int (0 : Int32)), .val (.int (0 : Int32))]) rfl ?_
  refine gs.iloadN X32.here hx (hb hby d10_67) rfl ?_
  refine gs.iloadN X32.here hx (hb hby d10_68) rfl ?_
  have hc69 : ¬ ((0 : Int32) < (0 : Int32)) := by decide
  refine gs.icmpYes 150 X32.here hx (hb hby d10_69) (flt hc69).2.1 rfl ?_
  have ne_ad1_b13 : ad1 ≠ b13 := Nat.ne_of_lt (Nat.lt_of_lt_of_le (f8.wr W9).lt (Nat.le_of_eq g13.symm))
  have ne_b13_b25 : b13 ≠ b25 := Nat.ne_of_lt (Nat.lt_of_lt_of_le (((((V13.other W16 (Ne.symm ne_ad1_b13)).ext E17).other W20 (Ne.symm ne_ad1_b13)).ext E21).other W24 (Ne.symm ne_ad1_b13)).lt (Nat.le_of_eq g25.symm))
  have ne_ad1_b17 : ad1 ≠ b17 := Nat.ne_of_lt (Nat.lt_of_lt_of_le (f15.wr W16).lt (Nat.le_of_eq g17.symm))
  have ne_b17_b25 : b17 ≠ b25 := Nat.ne_of_lt (Nat.lt_of_lt_of_le (((V17.other W20 (Ne.symm ne_ad1_b17)).ext E21).other W24 (Ne.symm ne_ad1_b17)).lt (Nat.le_of_eq g25.symm))
  have ne_b25_b29 : b25 ≠ b29 := Nat.ne_of_lt (Nat.lt_of_lt_of_le (B25.wr W28).lt (Nat.le_of_eq g29.symm))
  have ne_ad1_b2 : ad1 ≠ b2 := Nat.ne_of_lt (Nat.lt_of_lt_of_le HE_ad1.lt (Nat.le_of_eq g2.symm))
  have ne_b2_b25 : b2 ≠ b25 := Nat.ne_of_lt (Nat.lt_of_lt_of_le (((((((((V2.other W5 (Ne.symm ne_ad1_b2)).ext E6).other W9 (Ne.symm ne_ad1_b2)).ext E13).other W16 (Ne.symm ne_ad1_b2)).ext E17).other W20 (Ne.symm ne_ad1_b2)).ext E21).other W24 (Ne.symm ne_ad1_b2)).lt (Nat.le_of_eq g25.symm))
  have ne_ad1_b21 : ad1 ≠ b21 := Nat.ne_of_lt (Nat.lt_of_lt_of_le (f19.wr W20).lt (Nat.le_of_eq g21.symm))
  have ne_b21_b25 : b21 ≠ b25 := Nat.ne_of_lt (Nat.lt_of_lt_of_le (V21.other W24 (Ne.symm ne_ad1_b21)).lt (Nat.le_of_eq g25.symm))
  have ne_b13_b17 : b13 ≠ b17 := Nat.ne_of_lt (Nat.lt_of_lt_of_le (V13.other W16 (Ne.symm ne_ad1_b13)).lt (Nat.le_of_eq g17.symm))
  have ne_b13_b29 : b13 ≠ b29 := Nat.ne_of_lt (Nat.lt_of_lt_of_le (((((((V13.other W16 (Ne.symm ne_ad1_b13)).ext E17).other W20 (Ne.symm ne_ad1_b13)).ext E21).other W24 (Ne.symm ne_ad1_b13)).ext E25).other W28 (Ne.symm ne_ad1_b13)).lt (Nat.le_of_eq g29.symm))
  have ne_b2_b13 : b2 ≠ b13 := Nat.ne_of_lt (Nat.lt_of_lt_of_le (((V2.other W5 (Ne.symm ne_ad1_b2)).ext E6).other W9 (Ne.symm ne_ad1_b2)).lt (Nat.le_of_eq g13.symm))
  have ne_b13_b21 : b13 ≠ b21 := Nat.ne_of_lt (Nat.lt_of_lt_of_le (((V13.other W16 (Ne.symm ne_ad1_b13)).ext E17).other W20 (Ne.symm ne_ad1_b13)).lt (Nat.le_of_eq g21.symm))
  have ne_b17_b29 : b17 ≠ b29 := Nat.ne_of_lt (Nat.lt_of_lt_of_le (((((V17.other W20 (Ne.symm ne_ad1_b17)).ext E21).other W24 (Ne.symm ne_ad1_b17)).ext E25).other W28 (Ne.symm ne_ad1_b17)).lt (Nat.le_of_eq g29.symm))
  have ne_b2_b17 : b2 ≠ b17 := Nat.ne_of_lt (Nat.lt_of_lt_of_le (((((V2.other W5 (Ne.symm ne_ad1_b2)).ext E6).other W9 (Ne.symm ne_ad1_b2)).ext E13).other W16 (Ne.symm ne_ad1_b2)).lt (Nat.le_of_eq g17.symm))
  have ne_b17_b21 : b17 ≠ b21 := Nat.ne_of_lt (Nat.lt_of_lt_of_le (V17.other W20 (Ne.symm ne_ad1_b17)).lt (Nat.le_of_eq g21.symm))
  have ne_b2_b29 : b2 ≠ b29 := Nat.ne_of_lt (Nat.lt_of_lt_of_le (((((((((((V2.other W5 (Ne.symm ne_ad1_b2)).ext E6).other W9 (Ne.symm ne_ad1_b2)).ext E13).other W16 (Ne.symm ne_ad1_b2)).ext E17).other W20 (Ne.symm ne_ad1_b2)).ext E21).other W24 (Ne.symm ne_ad1_b2)).ext E25).other W28 (Ne.symm ne_ad1_b2)).lt (Nat.le_of_eq g29.symm))
  have ne_b21_b29 : b21 ≠ b29 := Nat.ne_of_lt (Nat.lt_of_lt_of_le (((V21.other W24 (Ne.symm ne_ad1_b21)).ext E25).other W28 (Ne.symm ne_ad1_b21)).lt (Nat.le_of_eq g29.symm))
  have ne_b2_b21 : b2 ≠ b21 := Nat.ne_of_lt (Nat.lt_of_lt_of_le (((((((V2.other W5 (Ne.symm ne_ad1_b2)).ext E6).other W9 (Ne.symm ne_ad1_b2)).ext E13).other W16 (Ne.symm ne_ad1_b2)).ext E17).other W20 (Ne.symm ne_ad1_b2)).lt (Nat.le_of_eq g21.symm))
  have f33 := (f31.wr W32)
  have f34 := ((F28.ext E29).other W32 (Or.inr (sn34 hw)))
  have f35 := ((((((((F16.ext E17).other W20 (Or.inr (sn35 hw))).ext E21).other W24 (Or.inr (sn36 hw))).ext E25).other W28 (Or.inr (sn37 hw))).ext E29).other W32 (Or.inr (sn38 hw)))
  have f36 := ((((((F20.ext E21).other W24 (Or.inr (sn39 hw))).ext E25).other W28 (Or.inr (sn40 hw))).ext E29).other W32 (Or.inr (sn41 hw)))
  have f37 := ((((((((((((((HF_ad1_Domains_resized.ext E2).other W5 (Or.inr (sn42 hw))).ext E6).other W9 (Or.inr (sn43 hw))).ext E13).other W16 (Or.inr (sn44 hw))).ext E17).other W20 (Or.inr (sn45 hw))).ext E21).other W24 (Or.inr (sn46 hw))).ext E25).other W28 (Or.inr (sn47 hw))).ext E29).other W32 (Or.inr (sn48 hw)))
  have f38 := ((((((((((((F5.ext E6).other W9 (Or.inr (sn49 hw))).ext E13).other W16 (Or.inr (sn50 hw))).ext E17).other W20 (Or.inr (sn51 hw))).ext E21).other W24 (Or.inr (sn52 hw))).ext E25).other W28 (Or.inr (sn53 hw))).ext E29).other W32 (Or.inr (sn54 hw)))
  have f39 := ((((((((((((((HF_ad1_Domains_trailSize.ext E2).other W5 (Or.inr (sn55 hw))).ext E6).other W9 (Or.inr (sn56 hw))).ext E13).other W16 (Or.inr (sn57 hw))).ext E17).other W20 (Or.inr (sn58 hw))).ext E21).other W24 (Or.inr (sn59 hw))).ext E25).other W28 (Or.inr (sn60 hw))).ext E29).other W32 (Or.inr (sn61 hw)))
  have f40 := ((((F24.ext E25).other W28 (Or.inr (sn62 hw))).ext E29).other W32 (Or.inr (sn63 hw)))
  have f41 := ((((((((((((((HF_ad1_Domains_withOneValue.ext E2).other W5 (Or.inr (sn64 hw))).ext E6).other W9 (Or.inr (sn65 hw))).ext E13).other W16 (Or.inr (sn66 hw))).ext E17).other W20 (Or.inr (sn67 hw))).ext E21).other W24 (Or.inr (sn68 hw))).ext E25).other W28 (Or.inr (sn69 hw))).ext E29).other W32 (Or.inr (sn70 hw)))
  have f42 := (((B25.wr W28).ext E29).wr W32)
  have ne_ad1_b25 : ad1 ≠ b25 := Nat.ne_of_lt (Nat.lt_of_lt_of_le (f23.wr W24).lt (Nat.le_of_eq g25.symm))
  have f43 := (((V25.other W28 (Ne.symm ne_ad1_b25)).ext E29).other W32 (Ne.symm ne_ad1_b25))
  have f44 := (((((((((V13.other W16 (Ne.symm ne_ad1_b13)).ext E17).other W20 (Ne.symm ne_ad1_b13)).ext E21).other W24 (Ne.symm ne_ad1_b13)).ext E25).other W28 (Ne.symm ne_ad1_b13)).ext E29).other W32 (Ne.symm ne_ad1_b13))
  have f45 := (((((((V17.other W20 (Ne.symm ne_ad1_b17)).ext E21).other W24 (Ne.symm ne_ad1_b17)).ext E25).other W28 (Ne.symm ne_ad1_b17)).ext E29).other W32 (Ne.symm ne_ad1_b17))
  have ne_ad1_b29 : ad1 ≠ b29 := Nat.ne_of_lt (Nat.lt_of_lt_of_le (f27.wr W28).lt (Nat.le_of_eq g29.symm))
  have f46 := (V29.other W32 (Ne.symm ne_ad1_b29))
  have f47 := (((((((((((((V2.other W5 (Ne.symm ne_ad1_b2)).ext E6).other W9 (Ne.symm ne_ad1_b2)).ext E13).other W16 (Ne.symm ne_ad1_b2)).ext E17).other W20 (Ne.symm ne_ad1_b2)).ext E21).other W24 (Ne.symm ne_ad1_b2)).ext E25).other W28 (Ne.symm ne_ad1_b2)).ext E29).other W32 (Ne.symm ne_ad1_b2))
  have f48 := (((((V21.other W24 (Ne.symm ne_ad1_b21)).ext E25).other W28 (Ne.symm ne_ad1_b21)).ext E29).other W32 (Ne.symm ne_ad1_b21))
  refine Go.retV X32 hx Bd.returns Bd.notSynchronized (hb hby d10_150) (by rw [e32]; exact ⟨b25, b13, b17, b29, b2, b21, k25, k13, k17, k29, k2, k21, rfl, sz_b25, sz_b13, sz_b17, sz_b29, sz_b2, sz_b21, (Ne.symm ne_b13_b25), (Ne.symm ne_b17_b25), ne_b25_b29, (Ne.symm ne_b2_b25), (Ne.symm ne_b21_b25), ne_b13_b17, ne_b13_b29, (Ne.symm ne_b2_b13), ne_b13_b21, ne_b17_b29, (Ne.symm ne_b2_b17), ne_b17_b21, (Ne.symm ne_b2_b29), (Ne.symm ne_b21_b29), ne_b2_b21, N32, kp32, f33, f34, f35, f36, f37, F32, f38, f39, f40, f41, f42, f43, f44, f45, f46, f47, f48, O25, O13⟩) (by decide) (by decide)
theorem pd_6 : parseMethodDescriptor "(Ljava/util/List;)V" = some ⟨[(.object "java/util/List")], none⟩ := by decide +kernel
theorem d12_0 : decode c_12 0 = .ok (.lconst 0, 1) := by decide +kernel
theorem d12_1 : decode c_12 1 = .ok (.lstore_n 1, 1) := by decide +kernel
theorem d12_2 : decode c_12 2 = .ok (.aload_n 0, 1) := by decide +kernel
theorem d12_3 : decode c_12 3 = .ok (.getfield 40, 3) := by decide +kernel
theorem d12_6 : decode c_12 6 = .ok (.astore_n 3, 1) := by decide +kernel
theorem d12_7 : decode c_12 7 = .ok (.aload_n 3, 1) := by decide +kernel
theorem d12_8 : decode c_12 8 = .ok (.arraylength, 1) := by decide +kernel
theorem d12_9 : decode c_12 9 = .ok (.istore 4, 2) := by decide +kernel
theorem d12_11 : decode c_12 11 = .ok (.iconst 0, 1) := by decide +kernel
theorem d12_12 : decode c_12 12 = .ok (.istore 5, 2) := by decide +kernel
theorem d12_14 : decode c_12 14 = .ok (.iload 5, 2) := by decide +kernel
theorem d12_16 : decode c_12 16 = .ok (.iload 4, 2) := by decide +kernel
theorem d12_18 : decode c_12 18 = .ok (.if_icmp .ge 21, 3) := by decide +kernel
theorem d12_39 : decode c_12 39 = .ok (.lload_n 1, 1) := by decide +kernel
theorem d12_40 : decode c_12 40 = .ok (.lreturn, 1) := by decide +kernel
theorem ef_am12_1 (m : MethodId) (x0 : Addr)  : entryFrame m #[(.ref x0)] 7 = mkF m 0 #[.val (.ref x0), .unset, .unset, .unset, .unset, .unset, .unset] [] := by first | (simp [entryFrame, mkF, argsToLocals, Value.category]; done) | rfl
def Q_am12_1 (Z : State) (u_1 : Addr) (aw0 : Addr) (u_0 : ClassId) (kaw0 : ClassId) (ad1 : Addr) (ad7 : Addr) (kc4 : ClassId) (h0 : Heap) (n0 : Nat) (v : Option Value) (h : Heap) (L : List Loc) : Prop := v = some (.long (0 : Int64)) ∧ Fr n0 L ∧ h = h0
set_option maxRecDepth 65536 in
set_option maxHeartbeats 40000000 in
theorem am12_1 (l : Launch) (Z : State) (a0 : Array Value) (hw : ∀ d ∈ tables_1, d.before a0 Z = true) (ws : List Jvm.Cond) (u_1 : Addr) (aw0 : Addr) (u_0 : ClassId) (kaw0 : ClassId) (HW : Wd Z u_1 aw0 u_0 kaw0) (ad1 : Addr) (ad7 : Addr) (kc4 : ClassId) (h0 : Heap) (n0 : Nat) (Ol : Old Z n0 h0) (HF_ad1_Domains_sizes : Fld Z h0 ad1 "com/example/monarc/monarc/Domains" "sizes" "[I" (.ref ad7)) (HV_ad7 : Arv Z h0 ad7 kc4 .int (0 : Int32) [] (.int (0 : Int32))) :
    MetFree l y_12 (head1 (Jvm.Cond.code y_12 prog_11_method_5_code 7 (some .long) :: ws) (rm 0 0 0 0)) (fun a_ U_ => a_ = #[(.ref ad1)] ∧ Z.Warmed39 U_.vm ∧ U_.heap = h0) (fun _ _ _ _ _ => True) (fun _ U_ o_ V_ => ∃ v_ L_, o_ = .returned v_ ∧ Q_am12_1 Z u_1 aw0 u_0 kaw0 ad1 ad7 kc4 h0 n0 v_ V_.heap L_ ∧ FrameEnd U_ o_ V_ L_ (rm 0 0 0 0).cells (rm 0 0 0 0).slots) := by
  refine MetFree.of_bodySF (plainFor_of_name pn_7) hisR ?_
  intro p e s m args below meth c s₁ Bd hml0 hP hK
  obtain ⟨rfl, hZ, hh⟩ := hP
  have hx := Bd.exec
  have hby := Bd.bytes
  have hml : c.maxLocals = 7 := hml0
  have hown : s.vm.findClass "com/example/monarc/monarc/Domains" = some m.cls := findClass_of_methodNamed Bd.named
  have hnm := (name_of_methodNamed Bd.named Bd.method).1
  have X0 : Stand p l e (rm 0 0 0 0) s m #[(.ref ad1)] below meth c s₁ [] 0 0 := Stand.of_body Bd
  have e0 : s₁.heap = h0 := by rw [← hh, Bd.state]; rfl
  have N0 := Fr.nil n0
  have kp0 := Keep.refl h0 []
  show Go p e below (Fin1 s below (Q_am12_1 Z u_1 aw0 u_0 kaw0 ad1 ad7 kc4 h0 n0) (rm 0 0 0 0).cells (rm 0 0 0 0).slots) _
  refine Go.step (fun t_ k_ => castTop (ef_am12_1 m ad1) k_) ?_
  obtain ⟨Eu_1, Su_1, Eaw0, Saw0, Au_1, Aaw0⟩ := id HW
  show Go p e below _ (s₁.setTop (mkF m 0 #[.val (.ref ad1), .unset, .unset, .unset, .unset, .unset, .unset] []))
  refine Go.fin (fun t_ k_ => XS.lconst X0.here hx rfl (hb hby d12_0) k_) ?_
  show Go p e below _ (s₁.setTop (mkF m 1 _ [(.long (0 : Int64))]))
  refine gs.lstoreN X0.here hx (hb hby d12_1) (l' := #[.val (.ref ad1), .val (.long (0 : Int64)), .second, .unset, .unset, .unset, .unset]) rfl ?_
  refine gs.aloadN X0.here hx (hb hby d12_2) rfl rfl ?_
  refine gs.getF X0 hx hZ hown (wd hw 112 rfl) Via.refl e0 HF_ad1_Domains_sizes (hb hby d12_3) fun T1 X1 e1 => ?_
  refine gs.astoreN X1.here hx (hb hby d12_6) rfl (l' := #[.val (.ref ad1), .val (.long (0 : Int64)), .second, .val (.ref ad7), .unset, .unset, .unset]) rfl ?_
  refine gs.aloadN X1.here hx (hb hby d12_7) rfl rfl ?_
  obtain ⟨cl2, Ar2, -, Sz2, Ng2, -, -⟩ := id HV_ad7
  refine Go.fin (fun t_ k_ => X1.arraylength hx (by rw [e1]; exact Ar2.1) (State.isArrayOf_alike hZ.alike Ar2.2.1) (g := mkF m 8 _ _) rfl rfl (hb hby d12_8) _ k_) ?_
  rw [len_of Sz2 Ng2]
  show Go p e below _ (T1.setTop (mkF m 9 _ [(.int (0 : Int32))]))
  refine gs.istore X1.here hx (hb hby d12_9) (l' := #[.val (.ref ad1), .val (.long (0 : Int64)), .second, .val (.ref ad7), .val (.int (0 : Int32)), .unset, .unset]) rfl ?_
  refine gs.iconst 0 X1.here hx (hb hby d12_11) rfl ?_
  refine gs.istore X1.here hx (hb hby d12_12) (l' := #[.val (.ref ad1), .val (.long (0 : Int64)), .second, .val (.ref ad7), .val (.int (0 : Int32)), .val (.int (0 : Int32)), .unset]) rfl ?_
  refine gs.iload X1.here hx (hb hby d12_14) rfl ?_
  refine gs.iload X1.here hx (hb hby d12_16) rfl ?_
  have hc18 : ¬ ((0 : Int32) < (0 : Int32)) := by decide
  refine gs.icmpYes 39 X1.here hx (hb hby d12_18) (flt hc18).2.1 rfl ?_
  refine gs.lloadN X1.here hx (hb hby d12_39) rfl ?_
  refine Go.retJ X1 hx Bd.returns Bd.notSynchronized (hb hby d12_40) (by rw [e1]; exact ⟨rfl, N0, rfl⟩) (by decide) (by decide)
theorem pd_7 : parseMethodDescriptor "()J" = some ⟨[], some .long⟩ := by decide +kernel
set_option maxRecDepth 65536 in
set_option maxHeartbeats 40000000 in
theorem sg1 {p : Program} {l : Launch} {e : Env} {s : State} {m : MethodId} {args : Array Value} {below : List Frame} {meth : Method} {c : Code} {Z : State} {a0 : Array Value} (hw : ∀ d ∈ tables_1, d.before a0 Z = true) (u_1 : Addr) (aw0 : Addr) (u_0 : ClassId) (kaw0 : ClassId) (HW : Wd Z u_1 aw0 u_0 kaw0) {h0 : Heap} {n0 : Nat} (hx : p.tables.exec = Jvm.exec) (hby : c.code = code) (hml : c.maxLocals = 28) (hret : meth.sig.returnType = some .boolean) (hlk : meth.locks = false) {vm0 : Vm} {k0 : Nat} {T0 : State} {locs : List Loc} {h1 : Heap} (X0 : Stand p l e room_1 (s.setVm vm0) m args below meth c T0 locs 12 42) (S0 : s.Since vm0 k0) (hk0 : k0 ≤ h1.size) (hZ : Z.Warmed39 (s.setVm vm0).vm) (hown : (s.setVm vm0).vm.findClass "com/example/monarc/monarc/DomainsTotalSizePinLaw" = some m.cls) (e0 : T0.heap = h1) (N0 : Fr n0 locs) (kp0 : Keep h0 h1 []) (Ol : Old Z n0 h1) {Q : Option Value → Heap → List Loc → Prop} (hQ : ∀ h L, Fr n0 L → Q (some (.int 1)) h L) (lf0 : Int32) (lf1 : Int32) (lf2 : Int32) (lf3 : Int64) (lf5 : Int32) (lf6 : Int64) (lf8 : Int64) (lf10 : Int64) (ld12 : Addr) (ld13 : Addr) (ld14 : Addr) (ld15 : Addr) (ld16 : Addr) (ld17 : Addr) (p4 : Int64) (p5 : Int32) (ln0 : Int64) (ln1 : Int64) (ln2 : Int64) (s0 : Int32) (s1 : Int32) (s2 : Int32) (hb_ln0 : 1 ≤ ln0.toInt ∧ ln0.toInt < 1073741824) (hb_ln1 : 1 ≤ ln1.toInt ∧ ln1.toInt < 1073741824) (hb_ln2 : 1 ≤ ln2.toInt ∧ ln2.toInt < 1073741824) (hs0 : s0.toInt = ln0.toInt) (hs1 : s1.toInt = ln1.toInt) (hs2 : s2.toInt = ln2.toInt) :
    Go p e below (Fin2 s below Q room_1.cells room_1.slots) (T0.setTop (mkF m 99 #[.val (.int lf0), .val (.int lf1), .val (.int lf2), .val (.long lf3), .second, .val (.int lf5), .val (.long lf6), .second, .val (.long lf8), .second, .val (.long lf10), .second, .val (.ref ld12), .val (.ref ld13), .val (.ref ld14), .val (.ref ld15), .val (.ref ld16), .val (.ref ld17), .val (.int (0 : Int32)), .unset, .unset, .unset, .unset, .unset, .unset, .unset, .unset, .unset] [])) := by
  obtain ⟨Eu_1, Su_1, Eaw0, Saw0, Au_1, Aaw0⟩ := id HW
  show Go p e below _ (T0.setTop (mkF m 99 #[.val (.int lf0), .val (.int lf1), .val (.int lf2), .val (.long lf3), .second, .val (.int lf5), .val (.long lf6), .second, .val (.long lf8), .second, .val (.long lf10), .second, .val (.ref ld12), .val (.ref ld13), .val (.ref ld14), .val (.ref ld15), .val (.ref ld16), .val (.ref ld17), .val (.int (0 : Int32)), .unset, .unset, .unset, .unset, .unset, .unset, .unset, .unset, .unset] []))
  refine gs.iload X0.here hx (hb hby at_99) rfl ?_
  refine gs.iconst 3 X0.here hx (hb hby at_101) rfl ?_
  have hc102 : ¬ ((3 : Int32) < (0 : Int32)) := by decide
  refine gs.icmpYes 108 X0.here hx (hb hby at_102) (flt hc102).2.2.2 rfl ?_
  obtain ⟨T2, h2, X2, e2, E2, A2, D2, Y2, st2⟩ := newO X0 hx hZ hown (wd hw 52 rfl) (wd hw 53 rfl) (wd hw 54 rfl) e0 (g := (mkF m 108 #[.val (.int lf0), .val (.int lf1), .val (.int lf2), .val (.long lf3), .second, .val (.int lf5), .val (.long lf6), .second, .val (.long lf8), .second, .val (.long lf10), .second, .val (.ref ld12), .val (.ref ld13), .val (.ref ld14), .val (.ref ld15), .val (.ref ld16), .val (.ref ld17), .val (.int (0 : Int32)), .unset, .unset, .unset, .unset, .unset, .unset, .unset, .unset, .unset] [])) rfl (hb hby at_108) (by decide) (by decide)
  obtain ⟨b2, g2⟩ : ∃ z, z = h1.size := ⟨_, rfl⟩
  rw [← g2] at A2 D2 Y2 st2
  have nn_b2 : n0 ≤ b2 := Nat.le_trans (old_z0 Ol) (Nat.le_of_eq g2.symm)
  have sz_b2 : h0.size ≤ b2 := Nat.le_trans kp0.1 (Nat.le_of_eq g2.symm)
  have old2 := Ol.ext E2
  have kp2 := kp0.ext E2
  have hk2 := Nat.le_trans hk0 E2.1
  have F2_modCount : Fld Z h2 b2 "java/util/AbstractList" "modCount" "I" (.int (0 : Int32)) := D2 (Or.inl (wd hw 72 rfl)) (ty := .int) (by decide)
  have F2_elementData : Fld Z h2 b2 "java/util/ArrayList" "elementData" "[Ljava/lang/Object;" .null := D2 (Or.inl (wd hw 75 rfl)) (ty := (.array (.object "java/lang/Object"))) (by decide)
  have F2_size : Fld Z h2 b2 "java/util/ArrayList" "size" "I" (.int (0 : Int32)) := D2 (Or.inl (wd hw 99 rfl)) (ty := .int) (by decide)
  refine Go.fin st2 ?_
  show Go p e below _ (T2.setTop (mkF m 111 _ [(.ref b2)]))
  refine gs.dup X2.here hx (hb hby at_111) rfl ?_
  refine gs.init 1 X2 hx hZ hown (am7_1 l Z a0 hw [] u_1 aw0 u_0 kaw0 HW (b2) h2 n0 old2 A2 F2_modCount F2_elementData F2_size nn_b2) (wd hw 57 rfl) (wd hw 54 rfl) (wd hw 55 rfl) rfl (wd hw 56 rfl) (by decide) (by decide) (by decide) (by rw [hml]; rfl) [] (lenOf pd_3 rfl) rfl (Nat.le_of_eq rfl) (hb hby at_112) rfl e2 (by decide) (by decide) fun T3 Lc3 v3 X3 hQ3 => ?_
  obtain ⟨rfl, Nq3, K3, p3_0, p3_1, p3_2, p3_3⟩ := hQ3
  have old3 := old2.keep K3 (allS nn_b2 all0)
  have hk3 := Nat.le_trans hk2 K3.1
  have kp3 := kp2.trans K3 (allS (Or.inr sz_b2) all0)
  have N3 := Fr.app N0 Nq3
  show Go p e below _ (T3.setTop (mkF m 115 _ [(.ref b2)]))
  refine gs.astore X3.here hx (hb hby at_115) rfl (l' := #[.val (.int lf0), .val (.int lf1), .val (.int lf2), .val (.long lf3), .second, .val (.int lf5), .val (.long lf6), .second, .val (.long lf8), .second, .val (.long lf10), .second, .val (.ref ld12), .val (.ref ld13), .val (.ref ld14), .val (.ref ld15), .val (.ref ld16), .val (.ref ld17), .val (.int (0 : Int32)), .val (.ref b2), .unset, .unset, .unset, .unset, .unset, .unset, .unset, .unset]) rfl ?_
  refine gs.iload X3.here hx (hb hby at_117) rfl ?_
  have hc119 : ¬ ((0 : Int32) < (0 : Int32)) := by decide
  refine gs.ifYes 130 X3.here hx (hb hby at_119) ((if0 _ _).trans (flt hc119).2.2.2) rfl ?_
  refine gs.iload X3.here hx (hb hby at_130) rfl ?_
  refine gs.iconst 1 X3.here hx (hb hby at_132) rfl ?_
  have hc133 : ¬ ((1 : Int32) < (0 : Int32)) := by decide
  refine gs.icmpYes 144 X3.here hx (hb hby at_133) (flt hc133).2.2.2 rfl ?_
  refine gs.iload X3.here hx (hb hby at_144) rfl ?_
  refine gs.iconst 2 X3.here hx (hb hby at_146) rfl ?_
  have hc147 : ¬ ((2 : Int32) < (0 : Int32)) := by decide
  refine gs.icmpYes 158 X3.here hx (hb hby at_147) (flt hc147).2.2.2 rfl ?_
  obtain ⟨T4, h4, X4, e4, E4, A4, D4, Y4, st4⟩ := newO X3 hx hZ hown (wd hw 76 rfl) (wd hw 77 rfl) (wd hw 78 rfl) rfl (g := (mkF m 158 #[.val (.int lf0), .val (.int lf1), .val (.int lf2), .val (.long lf3), .second, .val (.int lf5), .val (.long lf6), .second, .val (.long lf8), .second, .val (.long lf10), .second, .val (.ref ld12), .val (.ref ld13), .val (.ref ld14), .val (.ref ld15), .val (.ref ld16), .val (.ref ld17), .val (.int (0 : Int32)), .val (.ref b2), .unset, .unset, .unset, .unset, .unset, .unset, .unset, .unset] [])) rfl (hb hby at_158) (by decide) (by decide)
  obtain ⟨b4, g4⟩ : ∃ z, z = T3.heap.size := ⟨_, rfl⟩
  rw [← g4] at A4 D4 Y4 st4
  have nn_b4 : n0 ≤ b4 := Nat.le_trans (old_z0 old3) (Nat.le_of_eq g4.symm)
  have sz_b4 : h0.size ≤ b4 := Nat.le_trans kp3.1 (Nat.le_of_eq g4.symm)
  have old4 := old3.ext E4
  have kp4 := kp3.ext E4
  have hk4 := Nat.le_trans hk3 E4.1
  have F4_trail : Fld Z h4 b4 "com/example/monarc/monarc/Domains" "trail" "[J" .null := D4 (Or.inl (wd hw 85 rfl)) (ty := (.array .long)) (by decide)
  have F4_marks : Fld Z h4 b4 "com/example/monarc/monarc/Domains" "marks" "[I" .null := D4 (Or.inl (wd hw 88 rfl)) (ty := (.array .int)) (by decide)
  have F4_initial : Fld Z h4 b4 "com/example/monarc/monarc/Domains" "initial" "[Lcom/example/monarc/monarc/InitialDomain;" .null := D4 (Or.inr (wd hw 103 rfl)) (ty := (.array (.object "com/example/monarc/monarc/InitialDomain"))) (by decide)
  have F4_lower : Fld Z h4 b4 "com/example/monarc/monarc/Domains" "lower" "[I" .null := D4 (Or.inr (wd hw 105 rfl)) (ty := (.array .int)) (by decide)
  have F4_upper : Fld Z h4 b4 "com/example/monarc/monarc/Domains" "upper" "[I" .null := D4 (Or.inr (wd hw 107 rfl)) (ty := (.array .int)) (by decide)
  have F4_holes : Fld Z h4 b4 "com/example/monarc/monarc/Domains" "holes" "[[J" .null := D4 (Or.inr (wd hw 111 rfl)) (ty := (.array (.array .long))) (by decide)
  have F4_sizes : Fld Z h4 b4 "com/example/monarc/monarc/Domains" "sizes" "[I" .null := D4 (Or.inr (wd hw 113 rfl)) (ty := (.array .int)) (by decide)
  have F4_withOneValue : Fld Z h4 b4 "com/example/monarc/monarc/Domains" "withOneValue" "I" (.int (0 : Int32)) := D4 (Or.inl (wd hw 183 rfl)) (ty := .int) (by decide)
  have F4_trailSize : Fld Z h4 b4 "com/example/monarc/monarc/Domains" "trailSize" "I" (.int (0 : Int32)) := D4 (Or.inl (wd hw 222 rfl)) (ty := .int) (by decide)
  have F4_resized : Fld Z h4 b4 "com/example/monarc/monarc/Domains" "resized" "Ljava/util/function/IntConsumer;" .null := D4 (Or.inl (wd hw 224 rfl)) (ty := (.object "java/util/function/IntConsumer")) (by decide)
  refine Go.fin st4 ?_
  show Go p e below _ (T4.setTop (mkF m 161 _ [(.ref b4)]))
  refine gs.dup X4.here hx (hb hby at_161) rfl ?_
  refine gs.aload X4.here hx (hb hby at_162) rfl rfl ?_
  have f5 := (p3_0.ext E4)
  have f6 := (p3_3.ext E4)
  have ne_b2_b4 : b2 ≠ b4 := Nat.ne_of_lt (Nat.lt_of_lt_of_le p3_0.lt (Nat.le_of_eq g4.symm))
  refine gs.init 1 X4 hx hZ hown (am10_1 l Z a0 hw [] u_1 aw0 u_0 kaw0 HW (b4) (b2) h4 n0 old4 f5 f6 A4 F4_trail F4_marks F4_initial F4_lower F4_upper F4_holes F4_sizes F4_withOneValue F4_trailSize F4_resized nn_b4 (Ne.symm ne_b2_b4)) (wd hw 81 rfl) (wd hw 78 rfl) (wd hw 79 rfl) rfl (wd hw 80 rfl) (by decide) (by decide) (by decide) (by rw [hml]; rfl) [(.ref b2)] (lenOf pd_6 rfl) rfl (Nat.le_of_eq rfl) (hb hby at_164) rfl e4 (by decide) (by decide) fun T7 Lc7 v7 X7 hQ7 => ?_
  obtain ⟨b7_0, b7_1, b7_2, b7_3, b7_4, b7_5, kx7_0, kx7_1, kx7_2, kx7_3, kx7_4, kx7_5, rfl, gb_b7_0, gb_b7_1, gb_b7_2, gb_b7_3, gb_b7_4, gb_b7_5, ne_b7_0_b7_1, ne_b7_0_b7_2, ne_b7_0_b7_3, ne_b7_0_b7_4, ne_b7_0_b7_5, ne_b7_1_b7_2, ne_b7_1_b7_3, ne_b7_1_b7_4, ne_b7_1_b7_5, ne_b7_2_b7_3, ne_b7_2_b7_4, ne_b7_2_b7_5, ne_b7_3_b7_4, ne_b7_3_b7_5, ne_b7_4_b7_5, Nq7, K7, p7_0, p7_1, p7_2, p7_3, p7_4, p7_5, p7_6, p7_7, p7_8, p7_9, p7_10, p7_11, p7_12, p7_13, p7_14, p7_15, p7_16, ov7_0, ov7_1⟩ := hQ7
  have nn_b7_0 : n0 ≤ b7_0 := Nat.le_trans (old_z0 old4) gb_b7_0
  have sz_b7_0 : h0.size ≤ b7_0 := Nat.le_trans kp4.1 gb_b7_0
  have nn_b7_1 : n0 ≤ b7_1 := Nat.le_trans (old_z0 old4) gb_b7_1
  have sz_b7_1 : h0.size ≤ b7_1 := Nat.le_trans kp4.1 gb_b7_1
  have nn_b7_2 : n0 ≤ b7_2 := Nat.le_trans (old_z0 old4) gb_b7_2
  have sz_b7_2 : h0.size ≤ b7_2 := Nat.le_trans kp4.1 gb_b7_2
  have nn_b7_3 : n0 ≤ b7_3 := Nat.le_trans (old_z0 old4) gb_b7_3
  have sz_b7_3 : h0.size ≤ b7_3 := Nat.le_trans kp4.1 gb_b7_3
  have nn_b7_4 : n0 ≤ b7_4 := Nat.le_trans (old_z0 old4) gb_b7_4
  have sz_b7_4 : h0.size ≤ b7_4 := Nat.le_trans kp4.1 gb_b7_4
  have nn_b7_5 : n0 ≤ b7_5 := Nat.le_trans (old_z0 old4) gb_b7_5
  have sz_b7_5 : h0.size ≤ b7_5 := Nat.le_trans kp4.1 gb_b7_5
  have old7 := old4.keep K7 (allS nn_b4 all0)
  have hk7 := Nat.le_trans hk4 K7.1
  have kp7 := kp4.trans K7 (allS (Or.inr sz_b4) all0)
  have N7 := Fr.app N3 Nq7
  show Go p e below _ (T7.setTop (mkF m 167 _ [(.ref b4)]))
  refine gs.astore X7.here hx (hb hby at_167) rfl (l' := #[.val (.int lf0), .val (.int lf1), .val (.int lf2), .val (.long lf3), .second, .val (.int lf5), .val (.long lf6), .second, .val (.long lf8), .second, .val (.long lf10), .second, .val (.ref ld12), .val (.ref ld13), .val (.ref ld14), .val (.ref ld15), .val (.ref ld16), .val (.ref ld17), .val (.int (0 : Int32)), .val (.ref b2), .val (.ref b4), .unset, .unset, .unset, .unset, .unset, .unset, .unset]) rfl ?_
  refine gs.iload X7.here hx (hb hby at_169) rfl ?_
  have hc171 : ¬ ((0 : Int32) < (0 : Int32)) := by decide
  refine gs.ifYes 179 X7.here hx (hb hby at_171) ((if0 _ _).trans (flt hc171).2.2.2) rfl ?_
  refine Go.fin (fun t_ k_ => XS.lconst X7.here hx rfl (hb hby at_179) k_) ?_
  show Go p e below _ (T7.setTop (mkF m 180 _ [(.long (0 : Int64))]))
  refine gs.iload X7.here hx (hb hby at_180) rfl ?_
  refine gs.iconst 1 X7.here hx (hb hby at_182) rfl ?_
  have hc183 : ¬ ((1 : Int32) < (0 : Int32)) := by decide
  refine gs.icmpYes 191 X7.here hx (hb hby at_183) (flt hc183).2.2.2 rfl ?_
  refine Go.fin (fun t_ k_ => XS.lconst X7.here hx rfl (hb hby at_191) k_) ?_
  show Go p e below _ (T7.setTop (mkF m 192 _ [(.long (0 : Int64)), (.long (0 : Int64))]))
  refine gs.ladd X7.here hx (hb hby at_192) ?_
  rw [show ((0 : Int64) + (0 : Int64)) = (0 : Int64) from by decide]
  refine gs.iload X7.here hx (hb hby at_193) rfl ?_
  refine gs.iconst 2 X7.here hx (hb hby at_195) rfl ?_
  have hc196 : ¬ ((2 : Int32) < (0 : Int32)) := by decide
  refine gs.icmpYes 204 X7.here hx (hb hby at_196) (flt hc196).2.2.2 rfl ?_
  refine Go.fin (fun t_ k_ => XS.lconst X7.here hx rfl (hb hby at_204) k_) ?_
  show Go p e below _ (T7.setTop (mkF m 205 _ [(.long (0 : Int64)), (.long (0 : Int64))]))
  refine gs.ladd X7.here hx (hb hby at_205) ?_
  rw [show ((0 : Int64) + (0 : Int64)) = (0 : Int64) from by decide]
  refine gs.lstore X7.here hx (hb hby at_206) (l' := #[.val (.int lf0), .val (.int lf1), .val (.int lf2), .val (.long lf3), .second, .val (.int lf5), .val (.long lf6), .second, .val (.long lf8), .second, .val (.long lf10), .second, .val (.ref ld12), .val (.ref ld13), .val (.ref ld14), .val (.ref ld15), .val (.ref ld16), .val (.ref ld17), .val (.int (0 : Int32)), .val (.ref b2), .val (.ref b4), .val (.long (0 : Int64)), .second, .unset, .unset, .unset, .unset, .unset]) rfl ?_
  refine gs.aload X7.here hx (hb hby at_208) rfl rfl ?_
  refine gs.virt 0 X7 hx hZ hown (am12_1 l Z a0 hw [] u_1 aw0 u_0 kaw0 HW (b4) (b7_3) (kx7_3) T7.heap n0 old7 p7_5 p7_14) (wd hw 118 rfl) (wd hw 78 rfl) (wd hw 114 rfl) (wd hw 115 rfl) (notFace_of_selects (args := #[]) (mvT hZ (wd hw 117 rfl))) (wd hw 117 rfl) (wd hw 116 rfl) (by decide) p7_0 (by decide) (by decide) (by rw [hml]; rfl) [] (lenOf pd_7 rfl) rfl (Nat.le_of_eq rfl) (hb hby at_210) rfl rfl (by decide) (by decide) fun T8 Lc8 v8 X8 hQ8 => ?_
  obtain ⟨rfl, Nq8, e8⟩ := hQ8
  have N8 := Fr.app N7 Nq8
  show Go p e below _ (T8.setTop (mkF m 213 _ [(.long (0 : Int64))]))
  refine gs.lload X8.here hx (hb hby at_213) rfl ?_
  refine Go.fin (fun t_ k_ => XS.lcmp X8.here hx rfl (hb hby at_215) rfl k_) ?_
  show Go p e below _ (T8.setTop (mkF m 216 _ [(.int (lcmpW (0 : Int64) (0 : Int64)))]))
  rw [show (lcmpW (0 : Int64) (0 : Int64)) = (0 : Int32) from by decide]
  have hc216 : (0 : Int32) = (0 : Int32) := by decide
  refine gs.ifYes 221 X8.here hx (hb hby at_216) ((if0 _ _).trans (teq hc216).1) rfl ?_
  refine gs.iload X8.here hx (hb hby at_221) rfl ?_
  have hc223 : (0 : Int32) = (0 : Int32) := by decide
  refine gs.ifNo X8.here hx (hb hby at_223) ((if0 _ _).trans (teq hc223).2) ?_
  refine gs.iconst 1 X8.here hx (hb hby at_226) rfl ?_
  refine GoW.retZ X8 S0 (by rw [e8]; exact hk7) hx (t := .boolean) hret (by simp) hlk (hb hby at_227) (by rw [e8]; exact (hQ _ _ N8)) (by decide) (by decide)
theorem d13_0 : decode c_13 0 = .ok (.aload_n 0, 1) := by decide +kernel
theorem d13_1 : decode c_13 1 = .ok (.dup, 1) := by decide +kernel
theorem d13_2 : decode c_13 2 = .ok (.getfield 63, 3) := by decide +kernel
theorem d13_5 : decode c_13 5 = .ok (.iconst 1, 1) := by decide +kernel
theorem d13_6 : decode c_13 6 = .ok (.iadd, 1) := by decide +kernel
theorem d13_7 : decode c_13 7 = .ok (.putfield 63, 3) := by decide +kernel
theorem d13_10 : decode c_13 10 = .ok (.aload_n 0, 1) := by decide +kernel
theorem d13_11 : decode c_13 11 = .ok (.aload_n 1, 1) := by decide +kernel
theorem d13_12 : decode c_13 12 = .ok (.aload_n 0, 1) := by decide +kernel
theorem d13_13 : decode c_13 13 = .ok (.getfield 9, 3) := by decide +kernel
theorem d13_16 : decode c_13 16 = .ok (.aload_n 0, 1) := by decide +kernel
theorem d13_17 : decode c_13 17 = .ok (.getfield 48, 3) := by decide +kernel
theorem d13_20 : decode c_13 20 = .ok (.invokevirtual 131, 3) := by decide +kernel
theorem d14_0 : decode c_14 0 = .ok (.iload_n 3, 1) := by decide +kernel
theorem d14_1 : decode c_14 1 = .ok (.aload_n 2, 1) := by decide +kernel
theorem d14_2 : decode c_14 2 = .ok (.arraylength, 1) := by decide +kernel
theorem d14_3 : decode c_14 3 = .ok (.if_icmp .ne 8, 3) := by decide +kernel
theorem d14_6 : decode c_14 6 = .ok (.aload_n 0, 1) := by decide +kernel
theorem d14_7 : decode c_14 7 = .ok (.invokevirtual 129, 3) := by decide +kernel
theorem d15_0 : decode c_15 0 = .ok (.aload_n 0, 1) := by decide +kernel
theorem d15_1 : decode c_15 1 = .ok (.aload_n 0, 1) := by decide +kernel
theorem d15_2 : decode c_15 2 = .ok (.getfield 48, 3) := by decide +kernel
theorem d15_5 : decode c_15 5 = .ok (.iconst 1, 1) := by decide +kernel
theorem d15_6 : decode c_15 6 = .ok (.iadd, 1) := by decide +kernel
theorem d15_7 : decode c_15 7 = .ok (.invokevirtual 69, 3) := by decide +kernel
theorem d16_0 : decode c_16 0 = .ok (.aload_n 0, 1) := by decide +kernel
theorem d16_1 : decode c_16 1 = .ok (.getfield 9, 3) := by decide +kernel
theorem d16_4 : decode c_16 4 = .ok (.arraylength, 1) := by decide +kernel
theorem d16_5 : decode c_16 5 = .ok (.istore_n 2, 1) := by decide +kernel
theorem d16_6 : decode c_16 6 = .ok (.iload_n 2, 1) := by decide +kernel
theorem d16_7 : decode c_16 7 = .ok (.ifCond .gt 13, 3) := by decide +kernel
theorem d16_10 : decode c_16 10 = .ok (.aload_n 0, 1) := by decide +kernel
theorem d16_11 : decode c_16 11 = .ok (.getfield 9, 3) := by decide +kernel
theorem d16_14 : decode c_16 14 = .ok (.getstatic 39, 3) := by decide +kernel
theorem d16_17 : decode c_16 17 = .ok (.if_acmp .eq 28, 3) := by decide +kernel
theorem d16_45 : decode c_16 45 = .ok (.aload_n 0, 1) := by decide +kernel
theorem d16_46 : decode c_16 46 = .ok (.bipush 10, 2) := by decide +kernel
theorem d16_48 : decode c_16 48 = .ok (.iload_n 1, 1) := by decide +kernel
theorem d16_49 : decode c_16 49 = .ok (.invokestatic 79, 3) := by decide +kernel
theorem pd_8 : parseMethodDescriptor "(II)I" = some ⟨[.int, .int], some .int⟩ := by decide +kernel
theorem d16_52 : decode c_16 52 = .ok (.anewarray 7, 3) := by decide +kernel
theorem d16_55 : decode c_16 55 = .ok (.dup_x1, 1) := by decide +kernel
theorem d16_56 : decode c_16 56 = .ok (.putfield 9, 3) := by decide +kernel
theorem d16_59 : decode c_16 59 = .ok (.areturn, 1) := by decide +kernel
theorem ef_am16_1 (m : MethodId) (x0 : Addr) (x1 : Int32)  : entryFrame m #[(.ref x0), (.int x1)] 4 = mkF m 0 #[.val (.ref x0), .val (.int x1), .unset, .unset] [] := by first | (simp [entryFrame, mkF, argsToLocals, Value.category]; done) | rfl
def Q_am16_1 (Z : State) (u_1 : Addr) (aw0 : Addr) (u_0 : ClassId) (kaw0 : ClassId) (ad1 : Addr) (h0 : Heap) (n0 : Nat) (v : Option Value) (h : Heap) (L : List Loc) : Prop := ∃ fr1 : Addr, ∃ kx1 : ClassId, v = some (.ref fr1) ∧ h0.size ≤ fr1 ∧ Fr n0 L ∧ Keep h0 h [ad1] ∧ (Exa Z h ad1 "java/util/ArrayList") ∧ (Fld Z h ad1 "java/util/AbstractList" "modCount" "I" (.int (1 : Int32))) ∧ (Fld Z h ad1 "java/util/ArrayList" "elementData" "[Ljava/lang/Object;" (.ref fr1)) ∧ (Fld Z h ad1 "java/util/ArrayList" "size" "I" (.int (0 : Int32))) ∧ (Arv Z h fr1 kx1 (.object "java/lang/Object") (10 : Int32) [.null, .null, .null, .null, .null, .null, .null, .null, .null, .null] .null) ∧ (Ovr Z kx1 "java/lang/Object")
set_option maxRecDepth 65536 in
set_option maxHeartbeats 40000000 in
theorem am16_1 (l : Launch) (Z : State) (a0 : Array Value) (hw : ∀ d ∈ tables_1, d.before a0 Z = true) (ws : List Jvm.Cond) (u_1 : Addr) (aw0 : Addr) (u_0 : ClassId) (kaw0 : ClassId) (HW : Wd Z u_1 aw0 u_0 kaw0) (ad1 : Addr) (h0 : Heap) (n0 : Nat) (Ol : Old Z n0 h0) (HE_ad1 : Exa Z h0 ad1 "java/util/ArrayList") (HF_ad1_AbstractList_modCount : Fld Z h0 ad1 "java/util/AbstractList" "modCount" "I" (.int (1 : Int32))) (HF_ad1_ArrayList_elementData : Fld Z h0 ad1 "java/util/ArrayList" "elementData" "[Ljava/lang/Object;" (.ref aw0)) (HF_ad1_ArrayList_size : Fld Z h0 ad1 "java/util/ArrayList" "size" "I" (.int (0 : Int32))) (nn_ad1 : n0 ≤ ad1) :
    MetFree l y_16 (head1 (Jvm.Cond.code y_16 jdk_38_method_6_code 4 (some (.array (.object "java/lang/Object"))) :: ws) (rm 1 1 10 14)) (fun a_ U_ => a_ = #[(.ref ad1), (.int (1 : Int32))] ∧ Z.Warmed39 U_.vm ∧ U_.heap = h0) (fun _ _ _ _ _ => True) (fun _ U_ o_ V_ => ∃ v_ L_, o_ = .returned v_ ∧ Q_am16_1 Z u_1 aw0 u_0 kaw0 ad1 h0 n0 v_ V_.heap L_ ∧ FrameEnd U_ o_ V_ L_ (rm 1 1 10 14).cells (rm 1 1 10 14).slots) := by
  refine MetFree.of_bodySF (plainFor_of_name pn_6) hisR ?_
  intro p e s m args below meth c s₁ Bd hml0 hP hK
  obtain ⟨rfl, hZ, hh⟩ := hP
  have hx := Bd.exec
  have hby := Bd.bytes
  have hml : c.maxLocals = 4 := hml0
  have hown : s.vm.findClass "java/util/ArrayList" = some m.cls := findClass_of_methodNamed Bd.named
  have hnm := (name_of_methodNamed Bd.named Bd.method).1
  have X0 : Stand p l e (rm 1 1 10 14) s m #[(.ref ad1), (.int (1 : Int32))] below meth c s₁ [] 0 0 := Stand.of_body Bd
  have e0 : s₁.heap = h0 := by rw [← hh, Bd.state]; rfl
  have N0 := Fr.nil n0
  have kp0 := Keep.refl h0 [ad1]
  show Go p e below (Fin1 s below (Q_am16_1 Z u_1 aw0 u_0 kaw0 ad1 h0 n0) (rm 1 1 10 14).cells (rm 1 1 10 14).slots) _
  refine Go.step (fun t_ k_ => castTop (ef_am16_1 m ad1 (1 : Int32)) k_) ?_
  obtain ⟨Eu_1, Su_1, Eaw0, Saw0, Au_1, Aaw0⟩ := id HW
  show Go p e below _ (s₁.setTop (mkF m 0 #[.val (.ref ad1), .val (.int (1 : Int32)), .unset, .unset] []))
  refine gs.aloadN X0.here hx (hb hby d16_0) rfl rfl ?_
  refine gs.getF X0 hx hZ hown (wd hw 74 rfl) Via.refl e0 HF_ad1_ArrayList_elementData (hb hby d16_1) fun T1 X1 e1 => ?_
  obtain ⟨cl2, Ar2, -, Sz2, Ng2, -, -⟩ := id (Aaw0.ext Ol.2)
  refine Go.fin (fun t_ k_ => X1.arraylength hx (by rw [e1]; exact Ar2.1) (State.isArrayOf_alike hZ.alike Ar2.2.1) (g := mkF m 4 _ _) rfl rfl (hb hby d16_4) _ k_) ?_
  rw [len_of Sz2 Ng2]
  show Go p e below _ (T1.setTop (mkF m 5 _ [(.int (0 : Int32))]))
  refine gs.istoreN X1.here hx (hb hby d16_5) (l' := #[.val (.ref ad1), .val (.int (1 : Int32)), .val (.int (0 : Int32)), .unset]) rfl ?_
  refine gs.iloadN X1.here hx (hb hby d16_6) rfl ?_
  have hc7 : ¬ ((0 : Int32) < (0 : Int32)) := by decide
  refine gs.ifNo X1.here hx (hb hby d16_7) ((if0 _ _).trans (flt hc7).2.2.1) ?_
  refine gs.aloadN X1.here hx (hb hby d16_10) rfl rfl ?_
  refine gs.getF X1 hx hZ hown (wd hw 74 rfl) Via.refl e1 HF_ad1_ArrayList_elementData (hb hby d16_11) fun T3 X3 e3 => ?_
  obtain ⟨T4, X4, e4, st4⟩ := getS2 X3 hx hZ hown (host := "") (Or.inl (wd hw 73 rfl)) Via.refl e3 (Saw0.ext Ol.2) (g := (mkF m 14 #[.val (.ref ad1), .val (.int (1 : Int32)), .val (.int (0 : Int32)), .unset] [(.ref aw0)])) rfl (hb hby d16_14)
  refine Go.fin st4 ?_
  show Go p e below _ (T4.setTop (mkF m 17 _ [(.ref aw0), (.ref aw0)]))
  refine Go.step (fun t_ k_ => Jvm.RoadKit.acmp (g := (mkF m 17 #[.val (.ref ad1), .val (.int (1 : Int32)), .val (.int (0 : Int32)), .unset] [(.ref aw0), (.ref aw0)])) X4 hx rfl rfl rfl (pc0 := 17) (pc' := 45) (same := true) rfl (hb hby d16_17) rfl (decide_eq_true rfl) (by decide) (by decide) k_) ?_
  show Go p e below _ (T4.setTop (mkF m 45 #[.val (.ref ad1), .val (.int (1 : Int32)), .val (.int (0 : Int32)), .unset] []))
  refine gs.aloadN X4.here hx (hb hby d16_45) rfl rfl ?_
  refine gs.bipush 10 X4.here hx (hb hby d16_46) rfl ?_
  refine gs.iloadN X4.here hx (hb hby d16_48) rfl ?_
  refine gs.stat 1 X4 hx hZ hown (rm17 l Z a0 hw [] u_1 aw0 u_0 kaw0 HW (10 : Int32) (1 : Int32) (10 : Int32) h0 n0 Ol (by decide)) (wd hw 144 rfl) (wd hw 143 rfl) (wd hw 141 rfl) (wd hw 142 rfl) (by decide) (by decide) (by decide) (by rw [hml]; rfl) [(.int (10 : Int32)), (.int (1 : Int32))] (lenOf pd_8 rfl) rfl (Nat.le_of_eq rfl) (hb hby d16_49) rfl e4 (by decide) (by decide) fun T5 Lc5 v5 X5 hQ5 => ?_
  obtain ⟨rfl, Nq5, e5⟩ := hQ5
  have N5 := Fr.app N0 Nq5
  show Go p e below _ (T5.setTop (mkF m 52 _ [(.int (10 : Int32)), (.ref ad1)]))
  obtain ⟨T6, h6, k6, X6, e6, E6, A6, O6, st6⟩ := newR X5 hx hZ hown (wd hw 145 rfl) (wd hw 146 rfl) e5 (g := (mkF m 52 #[.val (.ref ad1), .val (.int (1 : Int32)), .val (.int (0 : Int32)), .unset] [(.int (10 : Int32)), (.ref ad1)])) rfl (hb hby d16_52) rfl (by decide) (cap := 10) (by decide) (by decide) (by decide) (by decide)
  obtain ⟨b6, g6⟩ : ∃ z, z = h0.size := ⟨_, rfl⟩
  rw [← g6] at A6 st6
  have nn_b6 : n0 ≤ b6 := Nat.le_trans (old_z0 Ol) (Nat.le_of_eq g6.symm)
  have sz_b6 : h0.size ≤ b6 := Nat.le_trans kp0.1 (Nat.le_of_eq g6.symm)
  have old6 := Ol.ext E6
  have kp6 := kp0.ext E6
  have V6 : Arv Z h6 b6 k6 (.object "java/lang/Object") (10 : Int32) [.null, .null, .null, .null, .null, .null, .null, .null, .null, .null] .null := (Arv.new A6 (by decide)).pad (pad_rep [] .null 10)
  refine Go.fin st6 ?_
  show Go p e below _ (T6.setTop (mkF m 55 _ [(.ref b6), (.ref ad1)]))
  refine Go.fin (fun t_ k_ => XS.dupX1 X6.here hx rfl (hb hby d16_55) rfl rfl rfl k_) ?_
  show Go p e below _ (T6.setTop (mkF m 56 _ [(.ref b6), (.ref ad1), (.ref b6)]))
  have f7 := (HF_ad1_ArrayList_elementData.ext E6)
  have f8 := (HE_ad1.ext E6)
  obtain ⟨T9, h9, X9, e9, W9, st9⟩ := putF X6 hx hZ hown (host := "") (Or.inl (wd hw 74 rfl)) Via.refl e6 f7 f8 (Or.inl (wd hw 75 rfl)) (wd hw 53 rfl) (ty := (.array (.object "java/lang/Object"))) (by decide) rfl rfl (g := (mkF m 56 #[.val (.ref ad1), .val (.int (1 : Int32)), .val (.int (0 : Int32)), .unset] [(.ref b6), (.ref ad1), (.ref b6)])) rfl rfl (hb hby d16_56)
  have N9 := Fr.snoc X9 N5 nn_ad1
  have old9 := old6.wr W9 nn_ad1
  have kp9 := kp6.wr W9 (Or.inl (List.mem_of_getElem? (i := 0) rfl))
  have F9 := f7.same W9
  refine Go.fin st9 ?_
  show Go p e below _ (T9.setTop (mkF m 59 _ [(.ref b6)]))
  have f10 := (f8.wr W9)
  have f11 := ((HF_ad1_AbstractList_modCount.ext E6).other W9 (Or.inr (sn11 hw)))
  have f12 := ((HF_ad1_ArrayList_size.ext E6).other W9 (Or.inr (sn12 hw)))
  have ne_ad1_b6 : ad1 ≠ b6 := Nat.ne_of_lt (Nat.lt_of_lt_of_le HE_ad1.lt (Nat.le_of_eq g6.symm))
  have f13 := (V6.other W9 (Ne.symm ne_ad1_b6))
  refine Go.retR X9 hx Bd.returns rfl rfl Bd.notSynchronized (hb hby d16_59) (by rw [e9]; exact ⟨b6, k6, rfl, sz_b6, N9, kp9, f10, f11, F9, f12, f13, O6⟩) (by decide) (by decide)
theorem pd_9 : parseMethodDescriptor "(I)[Ljava/lang/Object;" = some ⟨[.int], some (.array (.object "java/lang/Object"))⟩ := by decide +kernel
theorem d15_10 : decode c_15 10 = .ok (.areturn, 1) := by decide +kernel
theorem ef_am15_1 (m : MethodId) (x0 : Addr)  : entryFrame m #[(.ref x0)] 1 = mkF m 0 #[.val (.ref x0)] [] := by first | (simp [entryFrame, mkF, argsToLocals, Value.category]; done) | rfl
def Q_am15_1 (Z : State) (u_1 : Addr) (aw0 : Addr) (u_0 : ClassId) (kaw0 : ClassId) (ad1 : Addr) (h0 : Heap) (n0 : Nat) (v : Option Value) (h : Heap) (L : List Loc) : Prop := ∃ fr1 : Addr, ∃ kx1 : ClassId, v = some (.ref fr1) ∧ h0.size ≤ fr1 ∧ Fr n0 L ∧ Keep h0 h [ad1] ∧ (Exa Z h ad1 "java/util/ArrayList") ∧ (Fld Z h ad1 "java/util/AbstractList" "modCount" "I" (.int (1 : Int32))) ∧ (Fld Z h ad1 "java/util/ArrayList" "elementData" "[Ljava/lang/Object;" (.ref fr1)) ∧ (Fld Z h ad1 "java/util/ArrayList" "size" "I" (.int (0 : Int32))) ∧ (Arv Z h fr1 kx1 (.object "java/lang/Object") (10 : Int32) [.null, .null, .null, .null, .null, .null, .null, .null, .null, .null] .null) ∧ (Ovr Z kx1 "java/lang/Object")
set_option maxRecDepth 65536 in
set_option maxHeartbeats 40000000 in
theorem am15_1 (l : Launch) (Z : State) (a0 : Array Value) (hw : ∀ d ∈ tables_1, d.before a0 Z = true) (ws : List Jvm.Cond) (u_1 : Addr) (aw0 : Addr) (u_0 : ClassId) (kaw0 : ClassId) (HW : Wd Z u_1 aw0 u_0 kaw0) (ad1 : Addr) (h0 : Heap) (n0 : Nat) (Ol : Old Z n0 h0) (HE_ad1 : Exa Z h0 ad1 "java/util/ArrayList") (HF_ad1_AbstractList_modCount : Fld Z h0 ad1 "java/util/AbstractList" "modCount" "I" (.int (1 : Int32))) (HF_ad1_ArrayList_elementData : Fld Z h0 ad1 "java/util/ArrayList" "elementData" "[Ljava/lang/Object;" (.ref aw0)) (HF_ad1_ArrayList_size : Fld Z h0 ad1 "java/util/ArrayList" "size" "I" (.int (0 : Int32))) (nn_ad1 : n0 ≤ ad1) :
    MetFree l y_15 (head1 (Jvm.Cond.code y_15 jdk_38_method_7_code 1 (some (.array (.object "java/lang/Object"))) :: ws) (rm 2 1 10 29)) (fun a_ U_ => a_ = #[(.ref ad1)] ∧ Z.Warmed39 U_.vm ∧ U_.heap = h0) (fun _ _ _ _ _ => True) (fun _ U_ o_ V_ => ∃ v_ L_, o_ = .returned v_ ∧ Q_am15_1 Z u_1 aw0 u_0 kaw0 ad1 h0 n0 v_ V_.heap L_ ∧ FrameEnd U_ o_ V_ L_ (rm 2 1 10 29).cells (rm 2 1 10 29).slots) := by
  refine MetFree.of_bodySF (plainFor_of_name pn_6) hisR ?_
  intro p e s m args below meth c s₁ Bd hml0 hP hK
  obtain ⟨rfl, hZ, hh⟩ := hP
  have hx := Bd.exec
  have hby := Bd.bytes
  have hml : c.maxLocals = 1 := hml0
  have hown : s.vm.findClass "java/util/ArrayList" = some m.cls := findClass_of_methodNamed Bd.named
  have hnm := (name_of_methodNamed Bd.named Bd.method).1
  have X0 : Stand p l e (rm 2 1 10 29) s m #[(.ref ad1)] below meth c s₁ [] 0 0 := Stand.of_body Bd
  have e0 : s₁.heap = h0 := by rw [← hh, Bd.state]; rfl
  have N0 := Fr.nil n0
  have kp0 := Keep.refl h0 [ad1]
  show Go p e below (Fin1 s below (Q_am15_1 Z u_1 aw0 u_0 kaw0 ad1 h0 n0) (rm 2 1 10 29).cells (rm 2 1 10 29).slots) _
  refine Go.step (fun t_ k_ => castTop (ef_am15_1 m ad1) k_) ?_
  obtain ⟨Eu_1, Su_1, Eaw0, Saw0, Au_1, Aaw0⟩ := id HW
  show Go p e below _ (s₁.setTop (mkF m 0 #[.val (.ref ad1)] []))
  refine gs.aloadN X0.here hx (hb hby d15_0) rfl rfl ?_
  refine gs.aloadN X0.here hx (hb hby d15_1) rfl rfl ?_
  refine gs.getF X0 hx hZ hown (wd hw 98 rfl) Via.refl e0 HF_ad1_ArrayList_size (hb hby d15_2) fun T1 X1 e1 => ?_
  refine gs.iconst 1 X1.here hx (hb hby d15_5) rfl ?_
  refine gs.iadd X1.here hx (hb hby d15_6) ?_
  rw [show ((0 : Int32) + (1 : Int32)) = (1 : Int32) from by decide]
  refine gs.priv 0 X1 hx hZ hown (am16_1 l Z a0 hw [] u_1 aw0 u_0 kaw0 HW (ad1) h0 n0 Ol HE_ad1 HF_ad1_AbstractList_modCount HF_ad1_ArrayList_elementData HF_ad1_ArrayList_size nn_ad1) (wd hw 140 rfl) (wd hw 54 rfl) (wd hw 136 rfl) (wd hw 137 rfl) (mvT hZ (wd hw 139 rfl)) (wd hw 138 rfl) (by decide) HE_ad1 (by decide) (by decide) (by rw [hml]; rfl) [(.int (1 : Int32))] (lenOf pd_9 rfl) rfl (Nat.le_of_eq rfl) (hb hby d15_7) rfl e1 (by decide) (by decide) fun T2 Lc2 v2 X2 hQ2 => ?_
  obtain ⟨b2_0, kx2_0, rfl, gb_b2_0, Nq2, K2, p2_0, p2_1, p2_2, p2_3, p2_4, ov2_0⟩ := hQ2
  have nn_b2_0 : n0 ≤ b2_0 := Nat.le_trans (old_z0 Ol) gb_b2_0
  have sz_b2_0 : h0.size ≤ b2_0 := Nat.le_trans kp0.1 gb_b2_0
  have old2 := Ol.keep K2 (allS nn_ad1 all0)
  have kp2 := kp0.trans K2 (allS (Or.inl (List.mem_of_getElem? (i := 0) rfl)) all0)
  have N2 := Fr.app N0 Nq2
  show Go p e below _ (T2.setTop (mkF m 10 _ [(.ref b2_0)]))
  refine Go.retR X2 hx Bd.returns rfl rfl Bd.notSynchronized (hb hby d15_10) (by exact ⟨b2_0, kx2_0, rfl, sz_b2_0, N2, kp2, p2_0, p2_1, p2_2, p2_3, p2_4, ov2_0⟩) (by decide) (by decide)
theorem pd_10 : parseMethodDescriptor "()[Ljava/lang/Object;" = some ⟨[], some (.array (.object "java/lang/Object"))⟩ := by decide +kernel
theorem d14_10 : decode c_14 10 = .ok (.astore_n 2, 1) := by decide +kernel
theorem d14_11 : decode c_14 11 = .ok (.aload_n 2, 1) := by decide +kernel
theorem d14_12 : decode c_14 12 = .ok (.iload_n 3, 1) := by decide +kernel
theorem d14_13 : decode c_14 13 = .ok (.aload_n 1, 1) := by decide +kernel
theorem d14_14 : decode c_14 14 = .ok (.aastore, 1) := by decide +kernel
theorem d14_15 : decode c_14 15 = .ok (.aload_n 0, 1) := by decide +kernel
theorem d14_16 : decode c_14 16 = .ok (.iload_n 3, 1) := by decide +kernel
theorem d14_17 : decode c_14 17 = .ok (.iconst 1, 1) := by decide +kernel
theorem d14_18 : decode c_14 18 = .ok (.iadd, 1) := by decide +kernel
theorem d14_19 : decode c_14 19 = .ok (.putfield 48, 3) := by decide +kernel
theorem d14_22 : decode c_14 22 = .ok (.return_, 1) := by decide +kernel
theorem sn71 {a0 : Array Value} {Z : State} (hw : ∀ d ∈ tables_1, d.before a0 Z = true) : SN Z "java/util/AbstractList" "modCount" "I" "java/util/ArrayList" "size" "I" := slot_ne (Or.inl (wd hw 72 rfl)) (Or.inl (wd hw 99 rfl)) (by decide) (t := .int) (t' := .int) (by decide) (by decide)
theorem sn72 {a0 : Array Value} {Z : State} (hw : ∀ d ∈ tables_1, d.before a0 Z = true) : SN Z "java/util/ArrayList" "elementData" "[Ljava/lang/Object;" "java/util/ArrayList" "size" "I" := slot_ne (Or.inl (wd hw 75 rfl)) (Or.inl (wd hw 99 rfl)) (by decide) (t := (.array (.object "java/lang/Object"))) (t' := .int) (by decide) (by decide)
theorem ef_am14_1 (m : MethodId) (x0 : Addr) (x1 : Addr) (x2 : Addr) (x3 : Int32)  : entryFrame m #[(.ref x0), (.ref x1), (.ref x2), (.int x3)] 4 = mkF m 0 #[.val (.ref x0), .val (.ref x1), .val (.ref x2), .val (.int x3)] [] := by first | (simp [entryFrame, mkF, argsToLocals, Value.category]; done) | rfl
def Q_am14_1 (Z : State) (u_1 : Addr) (aw0 : Addr) (u_0 : ClassId) (kaw0 : ClassId) (ad1 : Addr) (ad2 : Addr) (h0 : Heap) (n0 : Nat) (v : Option Value) (h : Heap) (L : List Loc) : Prop := ∃ fr1 : Addr, ∃ kx1 : ClassId, v = none ∧ h0.size ≤ fr1 ∧ Fr n0 L ∧ Keep h0 h [ad1] ∧ (Exa Z h ad1 "java/util/ArrayList") ∧ (Fld Z h ad1 "java/util/AbstractList" "modCount" "I" (.int (1 : Int32))) ∧ (Fld Z h ad1 "java/util/ArrayList" "elementData" "[Ljava/lang/Object;" (.ref fr1)) ∧ (Fld Z h ad1 "java/util/ArrayList" "size" "I" (.int (1 : Int32))) ∧ (Arv Z h fr1 kx1 (.object "java/lang/Object") (10 : Int32) [(.ref ad2), .null, .null, .null, .null, .null, .null, .null, .null, .null] .null) ∧ (Ovr Z kx1 "java/lang/Object")
set_option maxRecDepth 65536 in
set_option maxHeartbeats 40000000 in
theorem am14_1 (l : Launch) (Z : State) (a0 : Array Value) (hw : ∀ d ∈ tables_1, d.before a0 Z = true) (ws : List Jvm.Cond) (u_1 : Addr) (aw0 : Addr) (u_0 : ClassId) (kaw0 : ClassId) (HW : Wd Z u_1 aw0 u_0 kaw0) (ad1 : Addr) (ad2 : Addr) (h0 : Heap) (n0 : Nat) (Ol : Old Z n0 h0) (HE_ad2 : Exa Z h0 ad2 "com/example/monarc/monarc/Variable") (HE_ad1 : Exa Z h0 ad1 "java/util/ArrayList") (HF_ad1_AbstractList_modCount : Fld Z h0 ad1 "java/util/AbstractList" "modCount" "I" (.int (1 : Int32))) (HF_ad1_ArrayList_elementData : Fld Z h0 ad1 "java/util/ArrayList" "elementData" "[Ljava/lang/Object;" (.ref aw0)) (HF_ad1_ArrayList_size : Fld Z h0 ad1 "java/util/ArrayList" "size" "I" (.int (0 : Int32))) (nn_ad1 : n0 ≤ ad1) :
    MetFree l y_14 (head1 (Jvm.Cond.code y_14 jdk_38_method_24_code 4 none :: ws) (rm 3 1 10 41)) (fun a_ U_ => a_ = #[(.ref ad1), (.ref ad2), (.ref aw0), (.int (0 : Int32))] ∧ Z.Warmed39 U_.vm ∧ U_.heap = h0) (fun _ _ _ _ _ => True) (fun _ U_ o_ V_ => ∃ v_ L_, o_ = .returned v_ ∧ Q_am14_1 Z u_1 aw0 u_0 kaw0 ad1 ad2 h0 n0 v_ V_.heap L_ ∧ FrameEnd U_ o_ V_ L_ (rm 3 1 10 41).cells (rm 3 1 10 41).slots) := by
  refine MetFree.of_bodySF (plainFor_of_name pn_6) hisR ?_
  intro p e s m args below meth c s₁ Bd hml0 hP hK
  obtain ⟨rfl, hZ, hh⟩ := hP
  have hx := Bd.exec
  have hby := Bd.bytes
  have hml : c.maxLocals = 4 := hml0
  have hown : s.vm.findClass "java/util/ArrayList" = some m.cls := findClass_of_methodNamed Bd.named
  have hnm := (name_of_methodNamed Bd.named Bd.method).1
  have X0 : Stand p l e (rm 3 1 10 41) s m #[(.ref ad1), (.ref ad2), (.ref aw0), (.int (0 : Int32))] below meth c s₁ [] 0 0 := Stand.of_body Bd
  have e0 : s₁.heap = h0 := by rw [← hh, Bd.state]; rfl
  have N0 := Fr.nil n0
  have kp0 := Keep.refl h0 [ad1]
  show Go p e below (Fin1 s below (Q_am14_1 Z u_1 aw0 u_0 kaw0 ad1 ad2 h0 n0) (rm 3 1 10 41).cells (rm 3 1 10 41).slots) _
  refine Go.step (fun t_ k_ => castTop (ef_am14_1 m ad1 ad2 aw0 (0 : Int32)) k_) ?_
  obtain ⟨Eu_1, Su_1, Eaw0, Saw0, Au_1, Aaw0⟩ := id HW
  show Go p e below _ (s₁.setTop (mkF m 0 #[.val (.ref ad1), .val (.ref ad2), .val (.ref aw0), .val (.int (0 : Int32))] []))
  refine gs.iloadN X0.here hx (hb hby d14_0) rfl ?_
  refine gs.aloadN X0.here hx (hb hby d14_1) rfl rfl ?_
  obtain ⟨cl1, Ar1, -, Sz1, Ng1, -, -⟩ := id (Aaw0.ext Ol.2)
  refine Go.fin (fun t_ k_ => X0.arraylength hx (by rw [e0]; exact Ar1.1) (State.isArrayOf_alike hZ.alike Ar1.2.1) (g := mkF m 2 _ _) rfl rfl (hb hby d14_2) _ k_) ?_
  rw [len_of Sz1 Ng1]
  show Go p e below _ (s₁.setTop (mkF m 3 _ [(.int (0 : Int32)), (.int (0 : Int32))]))
  have hc3 : (0 : Int32) = (0 : Int32) := by decide
  refine gs.icmpNo X0.here hx (hb hby d14_3) (teq hc3).2 ?_
  refine gs.aloadN X0.here hx (hb hby d14_6) rfl rfl ?_
  refine gs.priv 0 X0 hx hZ hown (am15_1 l Z a0 hw [] u_1 aw0 u_0 kaw0 HW (ad1) h0 n0 Ol HE_ad1 HF_ad1_AbstractList_modCount HF_ad1_ArrayList_elementData HF_ad1_ArrayList_size nn_ad1) (wd hw 135 rfl) (wd hw 54 rfl) (wd hw 131 rfl) (wd hw 132 rfl) (mvT hZ (wd hw 134 rfl)) (wd hw 133 rfl) (by decide) HE_ad1 (by decide) (by decide) (by rw [hml]; rfl) [] (lenOf pd_10 rfl) rfl (Nat.le_of_eq rfl) (hb hby d14_7) rfl e0 (by decide) (by decide) fun T2 Lc2 v2 X2 hQ2 => ?_
  obtain ⟨b2_0, kx2_0, rfl, gb_b2_0, Nq2, K2, p2_0, p2_1, p2_2, p2_3, p2_4, ov2_0⟩ := hQ2
  have nn_b2_0 : n0 ≤ b2_0 := Nat.le_trans (old_z0 Ol) gb_b2_0
  have sz_b2_0 : h0.size ≤ b2_0 := Nat.le_trans kp0.1 gb_b2_0
  have old2 := Ol.keep K2 (allS nn_ad1 all0)
  have kp2 := kp0.trans K2 (allS (Or.inl (List.mem_of_getElem? (i := 0) rfl)) all0)
  have N2 := Fr.app N0 Nq2
  show Go p e below _ (T2.setTop (mkF m 10 _ [(.ref b2_0)]))
  refine gs.astoreN X2.here hx (hb hby d14_10) rfl (l' := #[.val (.ref ad1), .val (.ref ad2), .val (.ref b2_0), .val (.int (0 : Int32))]) rfl ?_
  refine gs.aloadN X2.here hx (hb hby d14_11) rfl rfl ?_
  refine gs.iloadN X2.here hx (hb hby d14_12) rfl ?_
  refine gs.aloadN X2.here hx (hb hby d14_13) rfl rfl ?_
  obtain ⟨cl3, Ar3, q3, Sz3, Ng3, Hs3, G3⟩ := id p2_4
  have hin3 : ¬ ((0 : Int32) < 0 ∨ cl3.slots.size ≤ ((0 : Int32)).toNatClampNeg) := inb_of Sz3 ⟨by decide, by decide⟩
  have f4 := (HE_ad2.keep K2)
  obtain ⟨T5, h5, X5, e5, W5, st5⟩ := stR X2 hx hZ rfl Ar3 (j := (0 : Int32)) hin3 rfl (Sto.ofV Ar3 q3 ov2_0 (Ins.of_exa f4 (wd hw 147 rfl))) (g := (mkF m 14 #[.val (.ref ad1), .val (.ref ad2), .val (.ref b2_0), .val (.int (0 : Int32))] [(.ref ad2), (.int (0 : Int32)), (.ref b2_0)])) rfl rfl (hb hby d14_14)
  have N5 := Fr.snoc X5 N2 nn_b2_0
  have old5 := old2.wr W5 nn_b2_0
  have kp5 := kp2.wr W5 (Or.inr sz_b2_0)
  have V5 : Arv Z h5 b2_0 kx2_0 (.object "java/lang/Object") (10 : Int32) [(.ref ad2), .null, .null, .null, .null, .null, .null, .null, .null, .null] .null := Arv.set Ar3 q3 Sz3 Ng3 Hs3 G3 rfl W5 0 rfl (Nat.le_of_ble_eq_true rfl)
  refine Go.fin st5 ?_
  show Go p e below _ (T5.setTop (mkF m 15 _ []))
  refine gs.aloadN X5.here hx (hb hby d14_15) rfl rfl ?_
  refine gs.iloadN X5.here hx (hb hby d14_16) rfl ?_
  refine gs.iconst 1 X5.here hx (hb hby d14_17) rfl ?_
  refine gs.iadd X5.here hx (hb hby d14_18) ?_
  rw [show ((0 : Int32) + (1 : Int32)) = (1 : Int32) from by decide]
  have ne_ad1_b2_0 : ad1 ≠ b2_0 := Nat.ne_of_lt (Nat.lt_of_lt_of_le HE_ad1.lt gb_b2_0)
  have f6 := (p2_3.other W5 (Or.inl ne_ad1_b2_0))
  have f7 := (p2_0.wr W5)
  obtain ⟨T8, h8, X8, e8, W8, st8⟩ := putF X5 hx hZ hown (host := "") (Or.inl (wd hw 98 rfl)) Via.refl e5 f6 f7 (Or.inl (wd hw 99 rfl)) (wd hw 53 rfl) (ty := .int) (by decide) rfl rfl (g := (mkF m 19 #[.val (.ref ad1), .val (.ref ad2), .val (.ref b2_0), .val (.int (0 : Int32))] [(.int (1 : Int32)), (.ref ad1)])) rfl rfl (hb hby d14_19)
  have N8 := Fr.snoc X8 N5 nn_ad1
  have old8 := old5.wr W8 nn_ad1
  have kp8 := kp5.wr W8 (Or.inl (List.mem_of_getElem? (i := 0) rfl))
  have F8 := f6.same W8
  refine Go.fin st8 ?_
  show Go p e below _ (T8.setTop (mkF m 22 _ []))
  have f9 := (f7.wr W8)
  have f10 := ((p2_1.other W5 (Or.inl ne_ad1_b2_0)).other W8 (Or.inr (sn71 hw)))
  have f11 := ((p2_2.other W5 (Or.inl ne_ad1_b2_0)).other W8 (Or.inr (sn72 hw)))
  have f12 := (V5.other W8 (Ne.symm ne_ad1_b2_0))
  refine Go.retV X8 hx Bd.returns Bd.notSynchronized (hb hby d14_22) (by rw [e8]; exact ⟨b2_0, kx2_0, rfl, sz_b2_0, N8, kp8, f9, f10, f11, F8, f12, ov2_0⟩) (by decide) (by decide)
theorem pd_11 : parseMethodDescriptor "(Ljava/lang/Object;[Ljava/lang/Object;I)V" = some ⟨[(.object "java/lang/Object"), (.array (.object "java/lang/Object")), .int], none⟩ := by decide +kernel
theorem d13_23 : decode c_13 23 = .ok (.iconst 1, 1) := by decide +kernel
theorem d13_24 : decode c_13 24 = .ok (.ireturn, 1) := by decide +kernel
theorem ef_am13_1 (m : MethodId) (x0 : Addr) (x1 : Addr)  : entryFrame m #[(.ref x0), (.ref x1)] 2 = mkF m 0 #[.val (.ref x0), .val (.ref x1)] [] := by first | (simp [entryFrame, mkF, argsToLocals, Value.category]; done) | rfl
def Q_am13_1 (Z : State) (u_1 : Addr) (aw0 : Addr) (u_0 : ClassId) (kaw0 : ClassId) (ad1 : Addr) (ad2 : Addr) (h0 : Heap) (n0 : Nat) (v : Option Value) (h : Heap) (L : List Loc) : Prop := ∃ fr1 : Addr, ∃ kx1 : ClassId, v = some (.int (1 : Int32)) ∧ h0.size ≤ fr1 ∧ Fr n0 L ∧ Keep h0 h [ad1] ∧ (Exa Z h ad1 "java/util/ArrayList") ∧ (Fld Z h ad1 "java/util/AbstractList" "modCount" "I" (.int (1 : Int32))) ∧ (Fld Z h ad1 "java/util/ArrayList" "elementData" "[Ljava/lang/Object;" (.ref fr1)) ∧ (Fld Z h ad1 "java/util/ArrayList" "size" "I" (.int (1 : Int32))) ∧ (Arv Z h fr1 kx1 (.object "java/lang/Object") (10 : Int32) [(.ref ad2), .null, .null, .null, .null, .null, .null, .null, .null, .null] .null) ∧ (Ovr Z kx1 "java/lang/Object")
set_option maxRecDepth 65536 in
set_option maxHeartbeats 40000000 in
theorem am13_1 (l : Launch) (Z : State) (a0 : Array Value) (hw : ∀ d ∈ tables_1, d.before a0 Z = true) (ws : List Jvm.Cond) (u_1 : Addr) (aw0 : Addr) (u_0 : ClassId) (kaw0 : ClassId) (HW : Wd Z u_1 aw0 u_0 kaw0) (ad1 : Addr) (ad2 : Addr) (h0 : Heap) (n0 : Nat) (Ol : Old Z n0 h0) (HE_ad2 : Exa Z h0 ad2 "com/example/monarc/monarc/Variable") (HE_ad1 : Exa Z h0 ad1 "java/util/ArrayList") (HF_ad1_AbstractList_modCount : Fld Z h0 ad1 "java/util/AbstractList" "modCount" "I" (.int (0 : Int32))) (HF_ad1_ArrayList_elementData : Fld Z h0 ad1 "java/util/ArrayList" "elementData" "[Ljava/lang/Object;" (.ref aw0)) (HF_ad1_ArrayList_size : Fld Z h0 ad1 "java/util/ArrayList" "size" "I" (.int (0 : Int32))) (nn_ad1 : n0 ≤ ad1) :
    MetFree l y_13 (head1 (Jvm.Cond.code y_13 jdk_38_method_25_code 2 (some .boolean) :: ws) (rm 4 1 10 56)) (fun a_ U_ => a_ = #[(.ref ad1), (.ref ad2)] ∧ Z.Warmed39 U_.vm ∧ U_.heap = h0) (fun _ _ _ _ _ => True) (fun _ U_ o_ V_ => ∃ v_ L_, o_ = .returned v_ ∧ Q_am13_1 Z u_1 aw0 u_0 kaw0 ad1 ad2 h0 n0 v_ V_.heap L_ ∧ FrameEnd U_ o_ V_ L_ (rm 4 1 10 56).cells (rm 4 1 10 56).slots) := by
  refine MetFree.of_bodySF (plainFor_of_name pn_6) hisR ?_
  intro p e s m args below meth c s₁ Bd hml0 hP hK
  obtain ⟨rfl, hZ, hh⟩ := hP
  have hx := Bd.exec
  have hby := Bd.bytes
  have hml : c.maxLocals = 2 := hml0
  have hown : s.vm.findClass "java/util/ArrayList" = some m.cls := findClass_of_methodNamed Bd.named
  have hnm := (name_of_methodNamed Bd.named Bd.method).1
  have X0 : Stand p l e (rm 4 1 10 56) s m #[(.ref ad1), (.ref ad2)] below meth c s₁ [] 0 0 := Stand.of_body Bd
  have e0 : s₁.heap = h0 := by rw [← hh, Bd.state]; rfl
  have N0 := Fr.nil n0
  have kp0 := Keep.refl h0 [ad1]
  show Go p e below (Fin1 s below (Q_am13_1 Z u_1 aw0 u_0 kaw0 ad1 ad2 h0 n0) (rm 4 1 10 56).cells (rm 4 1 10 56).slots) _
  refine Go.step (fun t_ k_ => castTop (ef_am13_1 m ad1 ad2) k_) ?_
  obtain ⟨Eu_1, Su_1, Eaw0, Saw0, Au_1, Aaw0⟩ := id HW
  show Go p e below _ (s₁.setTop (mkF m 0 #[.val (.ref ad1), .val (.ref ad2)] []))
  refine gs.aloadN X0.here hx (hb hby d13_0) rfl rfl ?_
  refine gs.dup X0.here hx (hb hby d13_1) rfl ?_
  refine gs.getF X0 hx hZ hown (wd hw 124 rfl) (Via.of (wd hw 125 rfl)) e0 HF_ad1_AbstractList_modCount (hb hby d13_2) fun T1 X1 e1 => ?_
  refine gs.iconst 1 X1.here hx (hb hby d13_5) rfl ?_
  refine gs.iadd X1.here hx (hb hby d13_6) ?_
  rw [show ((0 : Int32) + (1 : Int32)) = (1 : Int32) from by decide]
  obtain ⟨T2, h2, X2, e2, W2, st2⟩ := putF X1 hx hZ hown (host := "") (Or.inl (wd hw 124 rfl)) (Via.of (wd hw 125 rfl)) e1 HF_ad1_AbstractList_modCount HE_ad1 (Or.inl (wd hw 72 rfl)) (wd hw 53 rfl) (ty := .int) (by decide) rfl rfl (g := (mkF m 7 #[.val (.ref ad1), .val (.ref ad2)] [(.int (1 : Int32)), (.ref ad1)])) rfl rfl (hb hby d13_7)
  have N2 := Fr.snoc X2 N0 nn_ad1
  have old2 := Ol.wr W2 nn_ad1
  have kp2 := kp0.wr W2 (Or.inl (List.mem_of_getElem? (i := 0) rfl))
  have F2 := HF_ad1_AbstractList_modCount.same W2
  refine Go.fin st2 ?_
  show Go p e below _ (T2.setTop (mkF m 10 _ []))
  refine gs.aloadN X2.here hx (hb hby d13_10) rfl rfl ?_
  refine gs.aloadN X2.here hx (hb hby d13_11) rfl rfl ?_
  refine gs.aloadN X2.here hx (hb hby d13_12) rfl rfl ?_
  have f3 := (HF_ad1_ArrayList_elementData.other W2 (Or.inr (sn9 hw)))
  refine gs.getF X2 hx hZ hown (wd hw 74 rfl) Via.refl e2 f3 (hb hby d13_13) fun T4 X4 e4 => ?_
  refine gs.aloadN X4.here hx (hb hby d13_16) rfl rfl ?_
  have f5 := (HF_ad1_ArrayList_size.other W2 (Or.inr (sn10 hw)))
  refine gs.getF X4 hx hZ hown (wd hw 98 rfl) Via.refl e4 f5 (hb hby d13_17) fun T6 X6 e6 => ?_
  have f7 := (HE_ad1.wr W2)
  have f8 := (HE_ad2.wr W2)
  refine gs.priv 0 X6 hx hZ hown (am14_1 l Z a0 hw [] u_1 aw0 u_0 kaw0 HW (ad1) (ad2) h2 n0 old2 f8 f7 F2 f3 f5 nn_ad1) (wd hw 130 rfl) (wd hw 54 rfl) (wd hw 126 rfl) (wd hw 127 rfl) (mvT hZ (wd hw 129 rfl)) (wd hw 128 rfl) (by decide) f7 (by decide) (by decide) (by rw [hml]; rfl) [(.ref ad2), (.ref aw0), (.int (0 : Int32))] (lenOf pd_11 rfl) rfl (Nat.le_of_eq rfl) (hb hby d13_20) rfl e6 (by decide) (by decide) fun T9 Lc9 v9 X9 hQ9 => ?_
  obtain ⟨b9_0, kx9_0, rfl, gb_b9_0, Nq9, K9, p9_0, p9_1, p9_2, p9_3, p9_4, ov9_0⟩ := hQ9
  have nn_b9_0 : n0 ≤ b9_0 := Nat.le_trans (old_z0 old2) gb_b9_0
  have sz_b9_0 : h0.size ≤ b9_0 := Nat.le_trans kp2.1 gb_b9_0
  have old9 := old2.keep K9 (allS nn_ad1 all0)
  have kp9 := kp2.trans K9 (allS (Or.inl (List.mem_of_getElem? (i := 0) rfl)) all0)
  have N9 := Fr.app N2 Nq9
  show Go p e below _ (T9.setTop (mkF m 23 _ []))
  refine gs.iconst 1 X9.here hx (hb hby d13_23) rfl ?_
  refine Go.retZ X9 hx (t := .boolean) Bd.returns (by simp) Bd.notSynchronized (hb hby d13_24) (by exact ⟨b9_0, kx9_0, rfl, sz_b9_0, N9, kp9, p9_0, p9_1, p9_2, p9_3, p9_4, ov9_0⟩) (by decide) (by decide)
theorem pd_12 : parseMethodDescriptor "(Ljava/lang/Object;)Z" = some ⟨[(.object "java/lang/Object")], some .boolean⟩ := by decide +kernel
def Q_am11_2 (Z : State) (u_1 : Addr) (aw0 : Addr) (u_0 : ClassId) (kaw0 : ClassId) (ad1 : Addr) (h0 : Heap) (n0 : Nat) (v : Option Value) (h : Heap) (L : List Loc) : Prop := v = some (.int (1 : Int32)) ∧ Fr n0 L ∧ h = h0
set_option maxRecDepth 65536 in
set_option maxHeartbeats 40000000 in
theorem am11_2 (l : Launch) (Z : State) (a0 : Array Value) (hw : ∀ d ∈ tables_1, d.before a0 Z = true) (ws : List Jvm.Cond) (u_1 : Addr) (aw0 : Addr) (u_0 : ClassId) (kaw0 : ClassId) (HW : Wd Z u_1 aw0 u_0 kaw0) (ad1 : Addr) (h0 : Heap) (n0 : Nat) (Ol : Old Z n0 h0) (HF_ad1_ArrayList_size : Fld Z h0 ad1 "java/util/ArrayList" "size" "I" (.int (1 : Int32))) :
    MetFree l y_11 (head1 (Jvm.Cond.code y_11 jdk_38_method_8_code 1 (some .int) :: ws) (rm 0 0 0 0)) (fun a_ U_ => a_ = #[(.ref ad1)] ∧ Z.Warmed39 U_.vm ∧ U_.heap = h0) (fun _ _ _ _ _ => True) (fun _ U_ o_ V_ => ∃ v_ L_, o_ = .returned v_ ∧ Q_am11_2 Z u_1 aw0 u_0 kaw0 ad1 h0 n0 v_ V_.heap L_ ∧ FrameEnd U_ o_ V_ L_ (rm 0 0 0 0).cells (rm 0 0 0 0).slots) := by
  refine MetFree.of_bodySF (plainFor_of_name pn_6) hisR ?_
  intro p e s m args below meth c s₁ Bd hml0 hP hK
  obtain ⟨rfl, hZ, hh⟩ := hP
  have hx := Bd.exec
  have hby := Bd.bytes
  have hml : c.maxLocals = 1 := hml0
  have hown : s.vm.findClass "java/util/ArrayList" = some m.cls := findClass_of_methodNamed Bd.named
  have hnm := (name_of_methodNamed Bd.named Bd.method).1
  have X0 : Stand p l e (rm 0 0 0 0) s m #[(.ref ad1)] below meth c s₁ [] 0 0 := Stand.of_body Bd
  have e0 : s₁.heap = h0 := by rw [← hh, Bd.state]; rfl
  have N0 := Fr.nil n0
  have kp0 := Keep.refl h0 []
  show Go p e below (Fin1 s below (Q_am11_2 Z u_1 aw0 u_0 kaw0 ad1 h0 n0) (rm 0 0 0 0).cells (rm 0 0 0 0).slots) _
  refine Go.step (fun t_ k_ => castTop (ef_am11_1 m ad1) k_) ?_
  obtain ⟨Eu_1, Su_1, Eaw0, Saw0, Au_1, Aaw0⟩ := id HW
  show Go p e below _ (s₁.setTop (mkF m 0 #[.val (.ref ad1)] []))
  refine gs.aloadN X0.here hx (hb hby d11_0) rfl rfl ?_
  refine gs.getF X0 hx hZ hown (wd hw 98 rfl) Via.refl e0 HF_ad1_ArrayList_size (hb hby d11_1) fun T1 X1 e1 => ?_
  refine Go.retI X1 hx Bd.returns Bd.notSynchronized (hb hby d11_4) (by rw [e1]; exact ⟨rfl, N0, rfl⟩) (by decide) (by decide)
theorem d10_72 : decode c_10 72 = .ok (.aload_n 0, 1) := by decide +kernel
theorem d10_73 : decode c_10 73 = .ok (.getfield 25, 3) := by decide +kernel
theorem d10_76 : decode c_10 76 = .ok (.iload_n 3, 1) := by decide +kernel
theorem d10_77 : decode c_10 77 = .ok (.aload_n 1, 1) := by decide +kernel
theorem d10_78 : decode c_10 78 = .ok (.iload_n 3, 1) := by decide +kernel
theorem d10_79 : decode c_10 79 = .ok (.invokeinterface 43 2, 5) := by decide +kernel
theorem d18_0 : decode c_18 0 = .ok (.iload_n 1, 1) := by decide +kernel
theorem d18_1 : decode c_18 1 = .ok (.aload_n 0, 1) := by decide +kernel
theorem d18_2 : decode c_18 2 = .ok (.getfield 48, 3) := by decide +kernel
theorem d18_5 : decode c_18 5 = .ok (.invokestatic 118, 3) := by decide +kernel
theorem d19_0 : decode c_19 0 = .ok (.iload_n 0, 1) := by decide +kernel
theorem d19_1 : decode c_19 1 = .ok (.iload_n 1, 1) := by decide +kernel
theorem d19_2 : decode c_19 2 = .ok (.aconst_null, 1) := by decide +kernel
theorem d19_3 : decode c_19 3 = .ok (.invokestatic 105, 3) := by decide +kernel
theorem d20_0 : decode c_20 0 = .ok (.iload_n 0, 1) := by decide +kernel
theorem d20_1 : decode c_20 1 = .ok (.ifCond .lt 8, 3) := by decide +kernel
theorem d20_4 : decode c_20 4 = .ok (.iload_n 0, 1) := by decide +kernel
theorem d20_5 : decode c_20 5 = .ok (.iload_n 1, 1) := by decide +kernel
theorem d20_6 : decode c_20 6 = .ok (.if_icmp .lt 10, 3) := by decide +kernel
theorem d20_16 : decode c_20 16 = .ok (.iload_n 0, 1) := by decide +kernel
theorem d20_17 : decode c_20 17 = .ok (.ireturn, 1) := by decide +kernel
theorem pn_8 : plainName "jdk/internal/util/Preconditions" = true := by first | (simp [plainName, overriddenIn]; done) | decide +kernel
theorem ef_am20_1 (m : MethodId) (x0 : Int32) (x1 : Int32)  : entryFrame m #[(.int x0), (.int x1), .null] 3 = mkF m 0 #[.val (.int x0), .val (.int x1), .val .null] [] := by first | (simp [entryFrame, mkF, argsToLocals, Value.category]; done) | rfl
def Q_am20_1 (Z : State) (u_1 : Addr) (aw0 : Addr) (u_0 : ClassId) (kaw0 : ClassId) (iv1 : Int32) (iv2 : Int32) (h0 : Heap) (n0 : Nat) (v : Option Value) (h : Heap) (L : List Loc) : Prop := v = some (.int iv1) ∧ Fr n0 L ∧ h = h0
set_option maxRecDepth 65536 in
set_option maxHeartbeats 40000000 in
theorem am20_1 (l : Launch) (Z : State) (a0 : Array Value) (hw : ∀ d ∈ tables_1, d.before a0 Z = true) (ws : List Jvm.Cond) (u_1 : Addr) (aw0 : Addr) (u_0 : ClassId) (kaw0 : ClassId) (HW : Wd Z u_1 aw0 u_0 kaw0) (iv1 : Int32) (iv2 : Int32) (h0 : Heap) (n0 : Nat) (Ol : Old Z n0 h0) (as0 : ¬ (iv1 < (0 : Int32))) (as1 : iv1 < iv2) :
    MetFree l y_20 (head1 (Jvm.Cond.code y_20 jdk_41_method_11_code 3 (some .int) :: ws) (rm 0 0 0 0)) (fun a_ U_ => a_ = #[(.int iv1), (.int iv2), .null] ∧ Z.Warmed39 U_.vm ∧ U_.heap = h0) (fun _ _ _ _ _ => True) (fun _ U_ o_ V_ => ∃ v_ L_, o_ = .returned v_ ∧ Q_am20_1 Z u_1 aw0 u_0 kaw0 iv1 iv2 h0 n0 v_ V_.heap L_ ∧ FrameEnd U_ o_ V_ L_ (rm 0 0 0 0).cells (rm 0 0 0 0).slots) := by
  refine MetFree.of_bodySF (plainFor_of_name pn_8) hisR ?_
  intro p e s m args below meth c s₁ Bd hml0 hP hK
  obtain ⟨rfl, hZ, hh⟩ := hP
  have hx := Bd.exec
  have hby := Bd.bytes
  have hml : c.maxLocals = 3 := hml0
  have hown : s.vm.findClass "jdk/internal/util/Preconditions" = some m.cls := findClass_of_methodNamed Bd.named
  have hnm := (name_of_methodNamed Bd.named Bd.method).1
  have X0 : Stand p l e (rm 0 0 0 0) s m #[(.int iv1), (.int iv2), .null] below meth c s₁ [] 0 0 := Stand.of_body Bd
  have e0 : s₁.heap = h0 := by rw [← hh, Bd.state]; rfl
  have N0 := Fr.nil n0
  have kp0 := Keep.refl h0 []
  show Go p e below (Fin1 s below (Q_am20_1 Z u_1 aw0 u_0 kaw0 iv1 iv2 h0 n0) (rm 0 0 0 0).cells (rm 0 0 0 0).slots) _
  refine Go.step (fun t_ k_ => castTop (ef_am20_1 m iv1 iv2) k_) ?_
  obtain ⟨Eu_1, Su_1, Eaw0, Saw0, Au_1, Aaw0⟩ := id HW
  show Go p e below _ (s₁.setTop (mkF m 0 #[.val (.int iv1), .val (.int iv2), .val .null] []))
  refine gs.iloadN X0.here hx (hb hby d20_0) rfl ?_
  have hc1 : ¬ (iv1 < (0 : Int32)) := as0
  refine gs.ifNo X0.here hx (hb hby d20_1) ((if0 _ _).trans (flt hc1).1) ?_
  refine gs.iloadN X0.here hx (hb hby d20_4) rfl ?_
  refine gs.iloadN X0.here hx (hb hby d20_5) rfl ?_
  have hc6 : iv1 < iv2 := as1
  refine gs.icmpYes 16 X0.here hx (hb hby d20_6) (tlt hc6).1 rfl ?_
  refine gs.iloadN X0.here hx (hb hby d20_16) rfl ?_
  refine Go.retI X0 hx Bd.returns Bd.notSynchronized (hb hby d20_17) (by rw [e0]; exact ⟨rfl, N0, rfl⟩) (by decide) (by decide)
theorem pd_13 : parseMethodDescriptor "(IILjava/util/function/BiFunction;)I" = some ⟨[.int, .int, (.object "java/util/function/BiFunction")], some .int⟩ := by decide +kernel
theorem d19_6 : decode c_19 6 = .ok (.ireturn, 1) := by decide +kernel
theorem pn_9 : plainName "java/util/Objects" = true := by first | (simp [plainName, overriddenIn]; done) | decide +kernel
theorem ef_am19_1 (m : MethodId) (x0 : Int32) (x1 : Int32)  : entryFrame m #[(.int x0), (.int x1)] 2 = mkF m 0 #[.val (.int x0), .val (.int x1)] [] := by first | (simp [entryFrame, mkF, argsToLocals, Value.category]; done) | rfl
def Q_am19_1 (Z : State) (u_1 : Addr) (aw0 : Addr) (u_0 : ClassId) (kaw0 : ClassId) (iv1 : Int32) (iv2 : Int32) (h0 : Heap) (n0 : Nat) (v : Option Value) (h : Heap) (L : List Loc) : Prop := v = some (.int iv1) ∧ Fr n0 L ∧ h = h0
set_option maxRecDepth 65536 in
set_option maxHeartbeats 40000000 in
theorem am19_1 (l : Launch) (Z : State) (a0 : Array Value) (hw : ∀ d ∈ tables_1, d.before a0 Z = true) (ws : List Jvm.Cond) (u_1 : Addr) (aw0 : Addr) (u_0 : ClassId) (kaw0 : ClassId) (HW : Wd Z u_1 aw0 u_0 kaw0) (iv1 : Int32) (iv2 : Int32) (h0 : Heap) (n0 : Nat) (Ol : Old Z n0 h0) (as0 : ¬ (iv1 < (0 : Int32))) (as1 : iv1 < iv2) :
    MetFree l y_19 (head1 (Jvm.Cond.code y_19 jdk_31_method_17_code 2 (some .int) :: ws) (rm 1 0 0 14)) (fun a_ U_ => a_ = #[(.int iv1), (.int iv2)] ∧ Z.Warmed39 U_.vm ∧ U_.heap = h0) (fun _ _ _ _ _ => True) (fun _ U_ o_ V_ => ∃ v_ L_, o_ = .returned v_ ∧ Q_am19_1 Z u_1 aw0 u_0 kaw0 iv1 iv2 h0 n0 v_ V_.heap L_ ∧ FrameEnd U_ o_ V_ L_ (rm 1 0 0 14).cells (rm 1 0 0 14).slots) := by
  refine MetFree.of_bodySF (plainFor_of_name pn_9) hisR ?_
  intro p e s m args below meth c s₁ Bd hml0 hP hK
  obtain ⟨rfl, hZ, hh⟩ := hP
  have hx := Bd.exec
  have hby := Bd.bytes
  have hml : c.maxLocals = 2 := hml0
  have hown : s.vm.findClass "java/util/Objects" = some m.cls := findClass_of_methodNamed Bd.named
  have hnm := (name_of_methodNamed Bd.named Bd.method).1
  have X0 : Stand p l e (rm 1 0 0 14) s m #[(.int iv1), (.int iv2)] below meth c s₁ [] 0 0 := Stand.of_body Bd
  have e0 : s₁.heap = h0 := by rw [← hh, Bd.state]; rfl
  have N0 := Fr.nil n0
  have kp0 := Keep.refl h0 []
  show Go p e below (Fin1 s below (Q_am19_1 Z u_1 aw0 u_0 kaw0 iv1 iv2 h0 n0) (rm 1 0 0 14).cells (rm 1 0 0 14).slots) _
  refine Go.step (fun t_ k_ => castTop (ef_am19_1 m iv1 iv2) k_) ?_
  obtain ⟨Eu_1, Su_1, Eaw0, Saw0, Au_1, Aaw0⟩ := id HW
  show Go p e below _ (s₁.setTop (mkF m 0 #[.val (.int iv1), .val (.int iv2)] []))
  refine gs.iloadN X0.here hx (hb hby d19_0) rfl ?_
  refine gs.iloadN X0.here hx (hb hby d19_1) rfl ?_
  refine gs.aconstNull X0.here hx (hb hby d19_2) ?_
  refine gs.stat 0 X0 hx hZ hown (am20_1 l Z a0 hw [] u_1 aw0 u_0 kaw0 HW (iv1) (iv2) h0 n0 Ol as0 as1) (wd hw 163 rfl) (wd hw 162 rfl) (wd hw 160 rfl) (wd hw 161 rfl) (by decide) (by decide) (by decide) (by rw [hml]; rfl) [(.int iv1), (.int iv2), .null] (lenOf pd_13 rfl) rfl (Nat.le_of_eq rfl) (hb hby d19_3) rfl e0 (by decide) (by decide) fun T1 Lc1 v1 X1 hQ1 => ?_
  obtain ⟨rfl, Nq1, e1⟩ := hQ1
  have N1 := Fr.app N0 Nq1
  show Go p e below _ (T1.setTop (mkF m 6 _ [(.int iv1)]))
  refine Go.retI X1 hx Bd.returns Bd.notSynchronized (hb hby d19_6) (by rw [e1]; exact ⟨rfl, N1, rfl⟩) (by decide) (by decide)
theorem d18_8 : decode c_18 8 = .ok (.pop, 1) := by decide +kernel
theorem d18_9 : decode c_18 9 = .ok (.aload_n 0, 1) := by decide +kernel
theorem d18_10 : decode c_18 10 = .ok (.iload_n 1, 1) := by decide +kernel
theorem d18_11 : decode c_18 11 = .ok (.invokevirtual 123, 3) := by decide +kernel
theorem d21_0 : decode c_21 0 = .ok (.aload_n 0, 1) := by decide +kernel
theorem d21_1 : decode c_21 1 = .ok (.getfield 9, 3) := by decide +kernel
theorem d21_4 : decode c_21 4 = .ok (.iload_n 1, 1) := by decide +kernel
theorem d21_5 : decode c_21 5 = .ok (.aaload, 1) := by decide +kernel
theorem d21_6 : decode c_21 6 = .ok (.areturn, 1) := by decide +kernel
theorem ef_am21_1 (m : MethodId) (x0 : Addr) (x1 : Int32)  : entryFrame m #[(.ref x0), (.int x1)] 2 = mkF m 0 #[.val (.ref x0), .val (.int x1)] [] := by first | (simp [entryFrame, mkF, argsToLocals, Value.category]; done) | rfl
def Q_am21_1 (Z : State) (u_1 : Addr) (aw0 : Addr) (u_0 : ClassId) (kaw0 : ClassId) (ad1 : Addr) (iv1 : Int32) (ad3 : Addr) (ad4 : Addr) (kc1 : ClassId) (fv4 : Nat → Value) (h0 : Heap) (n0 : Nat) (v : Option Value) (h : Heap) (L : List Loc) : Prop := v = some (.ref ad3) ∧ Fr n0 L ∧ h = h0
set_option maxRecDepth 65536 in
set_option maxHeartbeats 40000000 in
theorem am21_1 (l : Launch) (Z : State) (a0 : Array Value) (hw : ∀ d ∈ tables_1, d.before a0 Z = true) (ws : List Jvm.Cond) (u_1 : Addr) (aw0 : Addr) (u_0 : ClassId) (kaw0 : ClassId) (HW : Wd Z u_1 aw0 u_0 kaw0) (ad1 : Addr) (iv1 : Int32) (ad3 : Addr) (ad4 : Addr) (kc1 : ClassId) (fv4 : Nat → Value) (h0 : Heap) (n0 : Nat) (Ol : Old Z n0 h0) (HF_ad1_ArrayList_elementData : Fld Z h0 ad1 "java/util/ArrayList" "elementData" "[Ljava/lang/Object;" (.ref ad4)) (HG_ad4 : Arw Z h0 ad4 kc1 (.object "java/lang/Object") (10 : Int32) fv4) (as0 : 0 ≤ (iv1).toInt ∧ (iv1).toInt < ((10 : Int32)).toInt) (rq0 : (fv4 (iv1).toNatClampNeg) = (.ref ad3)) :
    MetFree l y_21 (head1 (Jvm.Cond.code y_21 jdk_38_method_18_code 2 (some (.object "java/lang/Object")) :: ws) (rm 0 0 0 0)) (fun a_ U_ => a_ = #[(.ref ad1), (.int iv1)] ∧ Z.Warmed39 U_.vm ∧ U_.heap = h0) (fun _ _ _ _ _ => True) (fun _ U_ o_ V_ => ∃ v_ L_, o_ = .returned v_ ∧ Q_am21_1 Z u_1 aw0 u_0 kaw0 ad1 iv1 ad3 ad4 kc1 fv4 h0 n0 v_ V_.heap L_ ∧ FrameEnd U_ o_ V_ L_ (rm 0 0 0 0).cells (rm 0 0 0 0).slots) := by
  refine MetFree.of_bodySF (plainFor_of_name pn_6) hisR ?_
  intro p e s m args below meth c s₁ Bd hml0 hP hK
  obtain ⟨rfl, hZ, hh⟩ := hP
  have hx := Bd.exec
  have hby := Bd.bytes
  have hml : c.maxLocals = 2 := hml0
  have hown : s.vm.findClass "java/util/ArrayList" = some m.cls := findClass_of_methodNamed Bd.named
  have hnm := (name_of_methodNamed Bd.named Bd.method).1
  have X0 : Stand p l e (rm 0 0 0 0) s m #[(.ref ad1), (.int iv1)] below meth c s₁ [] 0 0 := Stand.of_body Bd
  have e0 : s₁.heap = h0 := by rw [← hh, Bd.state]; rfl
  have N0 := Fr.nil n0
  have kp0 := Keep.refl h0 []
  show Go p e below (Fin1 s below (Q_am21_1 Z u_1 aw0 u_0 kaw0 ad1 iv1 ad3 ad4 kc1 fv4 h0 n0) (rm 0 0 0 0).cells (rm 0 0 0 0).slots) _
  refine Go.step (fun t_ k_ => castTop (ef_am21_1 m ad1 iv1) k_) ?_
  obtain ⟨Eu_1, Su_1, Eaw0, Saw0, Au_1, Aaw0⟩ := id HW
  show Go p e below _ (s₁.setTop (mkF m 0 #[.val (.ref ad1), .val (.int iv1)] []))
  refine gs.aloadN X0.here hx (hb hby d21_0) rfl rfl ?_
  refine gs.getF X0 hx hZ hown (wd hw 74 rfl) Via.refl e0 HF_ad1_ArrayList_elementData (hb hby d21_1) fun T1 X1 e1 => ?_
  refine gs.iloadN X1.here hx (hb hby d21_4) rfl ?_
  obtain ⟨cl2, Ar2, q2, Sz2, Ng2, Hs2⟩ := id HG_ad4
  have hin2 : ¬ (iv1 < 0 ∨ cl2.slots.size ≤ (iv1).toNatClampNeg) := inb_of Sz2 (inb_int as0)
  have hat2 : cl2.slots[(iv1).toNatClampNeg]? = some (fv4 (iv1).toNatClampNeg) := Hs2 _ (lt_of_in hin2)
  rw [show (fv4 (iv1).toNatClampNeg) = (.ref ad3) from rq0] at hat2
  refine Go.fin (fun t_ k_ => X1.aaload hx (j := iv1) (v := (.ref ad3)) (by rw [e1]; exact Ar2.1) (State.isArrayOf_alike hZ.alike Ar2.2.1) rfl Ar2.2.2 hin2 hat2 (g := mkF m 5 _ _) rfl rfl (hb hby d21_5) _ k_) ?_
  show Go p e below _ (T1.setTop (mkF m 6 _ [(.ref ad3)]))
  refine Go.retR X1 hx Bd.returns rfl rfl Bd.notSynchronized (hb hby d21_6) (by rw [e1]; exact ⟨rfl, N0, rfl⟩) (by decide) (by decide)
theorem pd_14 : parseMethodDescriptor "(I)Ljava/lang/Object;" = some ⟨[.int], some (.object "java/lang/Object")⟩ := by decide +kernel
theorem d18_14 : decode c_18 14 = .ok (.areturn, 1) := by decide +kernel
theorem ef_am18_1 (m : MethodId) (x0 : Addr) (x1 : Int32)  : entryFrame m #[(.ref x0), (.int x1)] 2 = mkF m 0 #[.val (.ref x0), .val (.int x1)] [] := by first | (simp [entryFrame, mkF, argsToLocals, Value.category]; done) | rfl
def Q_am18_1 (Z : State) (u_1 : Addr) (aw0 : Addr) (u_0 : ClassId) (kaw0 : ClassId) (ad1 : Addr) (so1 : Int32) (ad3 : Addr) (ad4 : Addr) (so2 : Int32) (kc1 : ClassId) (fv2 : Nat → Value) (h0 : Heap) (n0 : Nat) (v : Option Value) (h : Heap) (L : List Loc) : Prop := v = some (.ref ad3) ∧ Fr n0 L ∧ h = h0
set_option maxRecDepth 65536 in
set_option maxHeartbeats 40000000 in
theorem am18_1 (l : Launch) (Z : State) (a0 : Array Value) (hw : ∀ d ∈ tables_1, d.before a0 Z = true) (ws : List Jvm.Cond) (u_1 : Addr) (aw0 : Addr) (u_0 : ClassId) (kaw0 : ClassId) (HW : Wd Z u_1 aw0 u_0 kaw0) (ad1 : Addr) (so1 : Int32) (ad3 : Addr) (ad4 : Addr) (so2 : Int32) (kc1 : ClassId) (fv2 : Nat → Value) (h0 : Heap) (n0 : Nat) (Ol : Old Z n0 h0) (HE_ad1 : Exa Z h0 ad1 "java/util/ArrayList") (HF_ad1_ArrayList_elementData : Fld Z h0 ad1 "java/util/ArrayList" "elementData" "[Ljava/lang/Object;" (.ref ad4)) (HF_ad1_ArrayList_size : Fld Z h0 ad1 "java/util/ArrayList" "size" "I" (.int so2)) (HG_ad4 : Arw Z h0 ad4 kc1 (.object "java/lang/Object") (10 : Int32) fv2) (as0 : 0 ≤ (so1).toInt ∧ (so1).toInt < ((10 : Int32)).toInt) (as1 : ¬ (so1 < (0 : Int32))) (as2 : so1 < so2) (rq0 : (fv2 (so1).toNatClampNeg) = (.ref ad3)) :
    MetFree l y_18 (head1 (Jvm.Cond.code y_18 jdk_38_method_20_code 2 (some (.object "java/lang/Object")) :: ws) (rm 2 0 0 27)) (fun a_ U_ => a_ = #[(.ref ad1), (.int so1)] ∧ Z.Warmed39 U_.vm ∧ U_.heap = h0) (fun _ _ _ _ _ => True) (fun _ U_ o_ V_ => ∃ v_ L_, o_ = .returned v_ ∧ Q_am18_1 Z u_1 aw0 u_0 kaw0 ad1 so1 ad3 ad4 so2 kc1 fv2 h0 n0 v_ V_.heap L_ ∧ FrameEnd U_ o_ V_ L_ (rm 2 0 0 27).cells (rm 2 0 0 27).slots) := by
  refine MetFree.of_bodySF (plainFor_of_name pn_6) hisR ?_
  intro p e s m args below meth c s₁ Bd hml0 hP hK
  obtain ⟨rfl, hZ, hh⟩ := hP
  have hx := Bd.exec
  have hby := Bd.bytes
  have hml : c.maxLocals = 2 := hml0
  have hown : s.vm.findClass "java/util/ArrayList" = some m.cls := findClass_of_methodNamed Bd.named
  have hnm := (name_of_methodNamed Bd.named Bd.method).1
  have X0 : Stand p l e (rm 2 0 0 27) s m #[(.ref ad1), (.int so1)] below meth c s₁ [] 0 0 := Stand.of_body Bd
  have e0 : s₁.heap = h0 := by rw [← hh, Bd.state]; rfl
  have N0 := Fr.nil n0
  have kp0 := Keep.refl h0 []
  show Go p e below (Fin1 s below (Q_am18_1 Z u_1 aw0 u_0 kaw0 ad1 so1 ad3 ad4 so2 kc1 fv2 h0 n0) (rm 2 0 0 27).cells (rm 2 0 0 27).slots) _
  refine Go.step (fun t_ k_ => castTop (ef_am18_1 m ad1 so1) k_) ?_
  obtain ⟨Eu_1, Su_1, Eaw0, Saw0, Au_1, Aaw0⟩ := id HW
  show Go p e below _ (s₁.setTop (mkF m 0 #[.val (.ref ad1), .val (.int so1)] []))
  refine gs.iloadN X0.here hx (hb hby d18_0) rfl ?_
  refine gs.aloadN X0.here hx (hb hby d18_1) rfl rfl ?_
  refine gs.getF X0 hx hZ hown (wd hw 98 rfl) Via.refl e0 HF_ad1_ArrayList_size (hb hby d18_2) fun T1 X1 e1 => ?_
  refine gs.stat 0 X1 hx hZ hown (am19_1 l Z a0 hw [] u_1 aw0 u_0 kaw0 HW (so1) (so2) h0 n0 Ol as1 as2) (wd hw 159 rfl) (wd hw 158 rfl) (wd hw 156 rfl) (wd hw 157 rfl) (by decide) (by decide) (by decide) (by rw [hml]; rfl) [(.int so1), (.int so2)] (lenOf pd_8 rfl) rfl (Nat.le_of_eq rfl) (hb hby d18_5) rfl e1 (by decide) (by decide) fun T2 Lc2 v2 X2 hQ2 => ?_
  obtain ⟨rfl, Nq2, e2⟩ := hQ2
  have N2 := Fr.app N0 Nq2
  show Go p e below _ (T2.setTop (mkF m 8 _ [(.int so1)]))
  refine gs.pop X2.here hx (hb hby d18_8) rfl ?_
  refine gs.aloadN X2.here hx (hb hby d18_9) rfl rfl ?_
  refine gs.iloadN X2.here hx (hb hby d18_10) rfl ?_
  refine gs.virt 0 X2 hx hZ hown (am21_1 l Z a0 hw [] u_1 aw0 u_0 kaw0 HW (ad1) (so1) (ad3) (ad4) (kc1) (fv2) h0 n0 Ol HF_ad1_ArrayList_elementData HG_ad4 as0 rq0) (wd hw 168 rfl) (wd hw 54 rfl) (wd hw 164 rfl) (wd hw 165 rfl) (notFace_of_selects (args := #[]) (mvT hZ (wd hw 167 rfl))) (wd hw 167 rfl) (wd hw 166 rfl) (by decide) HE_ad1 (by decide) (by decide) (by rw [hml]; rfl) [(.int so1)] (lenOf pd_14 rfl) rfl (Nat.le_of_eq rfl) (hb hby d18_11) rfl e2 (by decide) (by decide) fun T3 Lc3 v3 X3 hQ3 => ?_
  obtain ⟨rfl, Nq3, e3⟩ := hQ3
  have N3 := Fr.app N2 Nq3
  show Go p e below _ (T3.setTop (mkF m 14 _ [(.ref ad3)]))
  refine Go.retR X3 hx Bd.returns rfl rfl Bd.notSynchronized (hb hby d18_14) (by rw [e3]; exact ⟨rfl, N3, rfl⟩) (by decide) (by decide)
theorem d10_84 : decode c_10 84 = .ok (.checkcast 47, 3) := by decide +kernel
theorem d10_87 : decode c_10 87 = .ok (.invokevirtual 49, 3) := by decide +kernel
theorem d22_0 : decode c_22 0 = .ok (.aload_n 0, 1) := by decide +kernel
theorem d22_1 : decode c_22 1 = .ok (.getfield 17, 3) := by decide +kernel
theorem d22_4 : decode c_22 4 = .ok (.areturn, 1) := by decide +kernel
theorem ef_am22_1 (m : MethodId) (x0 : Addr)  : entryFrame m #[(.ref x0)] 1 = mkF m 0 #[.val (.ref x0)] [] := by first | (simp [entryFrame, mkF, argsToLocals, Value.category]; done) | rfl
def Q_am22_1 (Z : State) (u_1 : Addr) (aw0 : Addr) (u_0 : ClassId) (kaw0 : ClassId) (ad1 : Addr) (ad2 : Addr) (h0 : Heap) (n0 : Nat) (v : Option Value) (h : Heap) (L : List Loc) : Prop := v = some (.ref ad2) ∧ Fr n0 L ∧ h = h0
set_option maxRecDepth 65536 in
set_option maxHeartbeats 40000000 in
theorem am22_1 (l : Launch) (Z : State) (a0 : Array Value) (hw : ∀ d ∈ tables_1, d.before a0 Z = true) (ws : List Jvm.Cond) (u_1 : Addr) (aw0 : Addr) (u_0 : ClassId) (kaw0 : ClassId) (HW : Wd Z u_1 aw0 u_0 kaw0) (ad1 : Addr) (ad2 : Addr) (h0 : Heap) (n0 : Nat) (Ol : Old Z n0 h0) (HF_ad1_Variable_domain : Fld Z h0 ad1 "com/example/monarc/monarc/Variable" "domain" "Lcom/example/monarc/monarc/InitialDomain;" (.ref ad2)) :
    MetFree l y_22 (head1 (Jvm.Cond.code y_22 prog_76_method_4_code 1 (some (.object "com/example/monarc/monarc/InitialDomain")) :: ws) (rm 0 0 0 0)) (fun a_ U_ => a_ = #[(.ref ad1)] ∧ Z.Warmed39 U_.vm ∧ U_.heap = h0) (fun _ _ _ _ _ => True) (fun _ U_ o_ V_ => ∃ v_ L_, o_ = .returned v_ ∧ Q_am22_1 Z u_1 aw0 u_0 kaw0 ad1 ad2 h0 n0 v_ V_.heap L_ ∧ FrameEnd U_ o_ V_ L_ (rm 0 0 0 0).cells (rm 0 0 0 0).slots) := by
  refine MetFree.of_bodySF (plainFor_of_name pn_3) hisR ?_
  intro p e s m args below meth c s₁ Bd hml0 hP hK
  obtain ⟨rfl, hZ, hh⟩ := hP
  have hx := Bd.exec
  have hby := Bd.bytes
  have hml : c.maxLocals = 1 := hml0
  have hown : s.vm.findClass "com/example/monarc/monarc/Variable" = some m.cls := findClass_of_methodNamed Bd.named
  have hnm := (name_of_methodNamed Bd.named Bd.method).1
  have X0 : Stand p l e (rm 0 0 0 0) s m #[(.ref ad1)] below meth c s₁ [] 0 0 := Stand.of_body Bd
  have e0 : s₁.heap = h0 := by rw [← hh, Bd.state]; rfl
  have N0 := Fr.nil n0
  have kp0 := Keep.refl h0 []
  show Go p e below (Fin1 s below (Q_am22_1 Z u_1 aw0 u_0 kaw0 ad1 ad2 h0 n0) (rm 0 0 0 0).cells (rm 0 0 0 0).slots) _
  refine Go.step (fun t_ k_ => castTop (ef_am22_1 m ad1) k_) ?_
  obtain ⟨Eu_1, Su_1, Eaw0, Saw0, Au_1, Aaw0⟩ := id HW
  show Go p e below _ (s₁.setTop (mkF m 0 #[.val (.ref ad1)] []))
  refine gs.aloadN X0.here hx (hb hby d22_0) rfl rfl ?_
  refine gs.getF X0 hx hZ hown (wd hw 48 rfl) Via.refl e0 HF_ad1_Variable_domain (hb hby d22_1) fun T1 X1 e1 => ?_
  refine Go.retR X1 hx Bd.returns rfl rfl Bd.notSynchronized (hb hby d22_4) (by rw [e1]; exact ⟨rfl, N0, rfl⟩) (by decide) (by decide)
theorem pd_15 : parseMethodDescriptor "()Lcom/example/monarc/monarc/InitialDomain;" = some ⟨[], some (.object "com/example/monarc/monarc/InitialDomain")⟩ := by decide +kernel
theorem d10_90 : decode c_10 90 = .ok (.aastore, 1) := by decide +kernel
theorem d10_91 : decode c_10 91 = .ok (.aload_n 0, 1) := by decide +kernel
theorem d10_92 : decode c_10 92 = .ok (.getfield 40, 3) := by decide +kernel
theorem d10_95 : decode c_10 95 = .ok (.iload_n 3, 1) := by decide +kernel
theorem d10_96 : decode c_10 96 = .ok (.aload_n 0, 1) := by decide +kernel
theorem d10_97 : decode c_10 97 = .ok (.getfield 25, 3) := by decide +kernel
theorem d10_100 : decode c_10 100 = .ok (.iload_n 3, 1) := by decide +kernel
theorem d10_101 : decode c_10 101 = .ok (.aaload, 1) := by decide +kernel
theorem d10_102 : decode c_10 102 = .ok (.invokevirtual 53, 3) := by decide +kernel
theorem d23_0 : decode c_23 0 = .ok (.aload_n 0, 1) := by decide +kernel
theorem d23_1 : decode c_23 1 = .ok (.getfield 24, 3) := by decide +kernel
theorem d23_4 : decode c_23 4 = .ok (.ireturn, 1) := by decide +kernel
theorem ef_am23_1 (m : MethodId) (x0 : Addr)  : entryFrame m #[(.ref x0)] 1 = mkF m 0 #[.val (.ref x0)] [] := by first | (simp [entryFrame, mkF, argsToLocals, Value.category]; done) | rfl
def Q_am23_1 (Z : State) (u_1 : Addr) (aw0 : Addr) (u_0 : ClassId) (kaw0 : ClassId) (ad1 : Addr) (iv1 : Int32) (h0 : Heap) (n0 : Nat) (v : Option Value) (h : Heap) (L : List Loc) : Prop := v = some (.int iv1) ∧ Fr n0 L ∧ h = h0
set_option maxRecDepth 65536 in
set_option maxHeartbeats 40000000 in
theorem am23_1 (l : Launch) (Z : State) (a0 : Array Value) (hw : ∀ d ∈ tables_1, d.before a0 Z = true) (ws : List Jvm.Cond) (u_1 : Addr) (aw0 : Addr) (u_0 : ClassId) (kaw0 : ClassId) (HW : Wd Z u_1 aw0 u_0 kaw0) (ad1 : Addr) (iv1 : Int32) (h0 : Heap) (n0 : Nat) (Ol : Old Z n0 h0) (HF_ad1_InitialDomain_size : Fld Z h0 ad1 "com/example/monarc/monarc/InitialDomain" "size" "I" (.int iv1)) :
    MetFree l y_23 (head1 (Jvm.Cond.code y_23 prog_20_method_5_code 1 (some .int) :: ws) (rm 0 0 0 0)) (fun a_ U_ => a_ = #[(.ref ad1)] ∧ Z.Warmed39 U_.vm ∧ U_.heap = h0) (fun _ _ _ _ _ => True) (fun _ U_ o_ V_ => ∃ v_ L_, o_ = .returned v_ ∧ Q_am23_1 Z u_1 aw0 u_0 kaw0 ad1 iv1 h0 n0 v_ V_.heap L_ ∧ FrameEnd U_ o_ V_ L_ (rm 0 0 0 0).cells (rm 0 0 0 0).slots) := by
  refine MetFree.of_bodySF (plainFor_of_name pn_1) hisR ?_
  intro p e s m args below meth c s₁ Bd hml0 hP hK
  obtain ⟨rfl, hZ, hh⟩ := hP
  have hx := Bd.exec
  have hby := Bd.bytes
  have hml : c.maxLocals = 1 := hml0
  have hown : s.vm.findClass "com/example/monarc/monarc/InitialDomain" = some m.cls := findClass_of_methodNamed Bd.named
  have hnm := (name_of_methodNamed Bd.named Bd.method).1
  have X0 : Stand p l e (rm 0 0 0 0) s m #[(.ref ad1)] below meth c s₁ [] 0 0 := Stand.of_body Bd
  have e0 : s₁.heap = h0 := by rw [← hh, Bd.state]; rfl
  have N0 := Fr.nil n0
  have kp0 := Keep.refl h0 []
  show Go p e below (Fin1 s below (Q_am23_1 Z u_1 aw0 u_0 kaw0 ad1 iv1 h0 n0) (rm 0 0 0 0).cells (rm 0 0 0 0).slots) _
  refine Go.step (fun t_ k_ => castTop (ef_am23_1 m ad1) k_) ?_
  obtain ⟨Eu_1, Su_1, Eaw0, Saw0, Au_1, Aaw0⟩ := id HW
  show Go p e below _ (s₁.setTop (mkF m 0 #[.val (.ref ad1)] []))
  refine gs.aloadN X0.here hx (hb hby d23_0) rfl rfl ?_
  refine gs.getF X0 hx hZ hown (wd hw 20 rfl) Via.refl e0 HF_ad1_InitialDomain_size (hb hby d23_1) fun T1 X1 e1 => ?_
  refine Go.retI X1 hx Bd.returns Bd.notSynchronized (hb hby d23_4) (by rw [e1]; exact ⟨rfl, N0, rfl⟩) (by decide) (by decide)
theorem d10_105 : decode c_10 105 = .ok (.iastore, 1) := by decide +kernel
theorem d10_106 : decode c_10 106 = .ok (.aload_n 0, 1) := by decide +kernel
theorem d10_107 : decode c_10 107 = .ok (.getfield 32, 3) := by decide +kernel
theorem d10_110 : decode c_10 110 = .ok (.iload_n 3, 1) := by decide +kernel
theorem d10_111 : decode c_10 111 = .ok (.aload_n 0, 1) := by decide +kernel
theorem d10_112 : decode c_10 112 = .ok (.getfield 40, 3) := by decide +kernel
theorem d10_115 : decode c_10 115 = .ok (.iload_n 3, 1) := by decide +kernel
theorem d10_116 : decode c_10 116 = .ok (.iaload, 1) := by decide +kernel
theorem d10_117 : decode c_10 117 = .ok (.iconst 1, 1) := by decide +kernel
theorem d10_118 : decode c_10 118 = .ok (.isub, 1) := by decide +kernel
theorem d10_119 : decode c_10 119 = .ok (.iastore, 1) := by decide +kernel
theorem d10_120 : decode c_10 120 = .ok (.aload_n 0, 1) := by decide +kernel
theorem d10_121 : decode c_10 121 = .ok (.dup, 1) := by decide +kernel
theorem d10_122 : decode c_10 122 = .ok (.getfield 54, 3) := by decide +kernel
theorem d10_125 : decode c_10 125 = .ok (.aload_n 0, 1) := by decide +kernel
theorem d10_126 : decode c_10 126 = .ok (.getfield 40, 3) := by decide +kernel
theorem d10_129 : decode c_10 129 = .ok (.iload_n 3, 1) := by decide +kernel
theorem d10_130 : decode c_10 130 = .ok (.iaload, 1) := by decide +kernel
theorem d10_131 : decode c_10 131 = .ok (.iconst 1, 1) := by decide +kernel
theorem d10_140 : decode c_10 140 = .ok (.iadd, 1) := by decide +kernel
theorem d10_141 : decode c_10 141 = .ok (.putfield 54, 3) := by decide +kernel
theorem d10_144 : decode c_10 144 = .ok (.iinc 3 1, 3) := by decide +kernel
theorem d10_147 : decode c_10 147 = .ok (.goto (-80), 3) := by decide +kernel
theorem d10_132 : decode c_10 132 = .ok (.if_icmp .ne 7, 3) := by decide +kernel
theorem d10_135 : decode c_10 135 = .ok (.iconst 1, 1) := by decide +kernel
theorem d10_136 : decode c_10 136 = .ok (.goto 4, 3) := by decide +kernel
theorem d10_139 : decode c_10 139 = .ok (.iconst 0, 1) := by decide +kernel
theorem sn73 {a0 : Array Value} {Z : State} (hw : ∀ d ∈ tables_1, d.before a0 Z = true) : SN Z "com/example/monarc/monarc/Domains" "holes" "[[J" "com/example/monarc/monarc/Domains" "withOneValue" "I" := slot_ne (Or.inr (wd hw 111 rfl)) (Or.inl (wd hw 183 rfl)) (by decide) (t := (.array (.array .long))) (t' := .int) (by decide) (by decide)
theorem sn74 {a0 : Array Value} {Z : State} (hw : ∀ d ∈ tables_1, d.before a0 Z = true) : SN Z "com/example/monarc/monarc/Domains" "initial" "[Lcom/example/monarc/monarc/InitialDomain;" "com/example/monarc/monarc/Domains" "withOneValue" "I" := slot_ne (Or.inr (wd hw 103 rfl)) (Or.inl (wd hw 183 rfl)) (by decide) (t := (.array (.object "com/example/monarc/monarc/InitialDomain"))) (t' := .int) (by decide) (by decide)
theorem sn75 {a0 : Array Value} {Z : State} (hw : ∀ d ∈ tables_1, d.before a0 Z = true) : SN Z "com/example/monarc/monarc/Domains" "lower" "[I" "com/example/monarc/monarc/Domains" "withOneValue" "I" := slot_ne (Or.inr (wd hw 105 rfl)) (Or.inl (wd hw 183 rfl)) (by decide) (t := (.array .int)) (t' := .int) (by decide) (by decide)
theorem sn76 {a0 : Array Value} {Z : State} (hw : ∀ d ∈ tables_1, d.before a0 Z = true) : SN Z "com/example/monarc/monarc/Domains" "resized" "Ljava/util/function/IntConsumer;" "com/example/monarc/monarc/Domains" "withOneValue" "I" := slot_ne (Or.inl (wd hw 224 rfl)) (Or.inl (wd hw 183 rfl)) (by decide) (t := (.object "java/util/function/IntConsumer")) (t' := .int) (by decide) (by decide)
theorem sn77 {a0 : Array Value} {Z : State} (hw : ∀ d ∈ tables_1, d.before a0 Z = true) : SN Z "com/example/monarc/monarc/Domains" "sizes" "[I" "com/example/monarc/monarc/Domains" "withOneValue" "I" := slot_ne (Or.inr (wd hw 113 rfl)) (Or.inl (wd hw 183 rfl)) (by decide) (t := (.array .int)) (t' := .int) (by decide) (by decide)
theorem sn78 {a0 : Array Value} {Z : State} (hw : ∀ d ∈ tables_1, d.before a0 Z = true) : SN Z "com/example/monarc/monarc/Domains" "trail" "[J" "com/example/monarc/monarc/Domains" "withOneValue" "I" := slot_ne (Or.inl (wd hw 85 rfl)) (Or.inl (wd hw 183 rfl)) (by decide) (t := (.array .long)) (t' := .int) (by decide) (by decide)
theorem sn79 {a0 : Array Value} {Z : State} (hw : ∀ d ∈ tables_1, d.before a0 Z = true) : SN Z "com/example/monarc/monarc/Domains" "trailSize" "I" "com/example/monarc/monarc/Domains" "withOneValue" "I" := slot_ne (Or.inl (wd hw 222 rfl)) (Or.inl (wd hw 183 rfl)) (by decide) (t := .int) (t' := .int) (by decide) (by decide)
theorem sn80 {a0 : Array Value} {Z : State} (hw : ∀ d ∈ tables_1, d.before a0 Z = true) : SN Z "com/example/monarc/monarc/Domains" "upper" "[I" "com/example/monarc/monarc/Domains" "withOneValue" "I" := slot_ne (Or.inr (wd hw 107 rfl)) (Or.inl (wd hw 183 rfl)) (by decide) (t := (.array .int)) (t' := .int) (by decide) (by decide)
def Q_am10_2 (Z : State) (u_1 : Addr) (aw0 : Addr) (u_0 : ClassId) (kaw0 : ClassId) (ad1 : Addr) (ad2 : Addr) (ad3 : Addr) (iv1 : Int32) (ad4 : Addr) (ad5 : Addr) (kc1 : ClassId) (h0 : Heap) (n0 : Nat) (v : Option Value) (h : Heap) (L : List Loc) : Prop := ∃ fr1 : Addr, ∃ fr2 : Addr, ∃ fr3 : Addr, ∃ fr4 : Addr, ∃ fr5 : Addr, ∃ fr6 : Addr, ∃ kx1 : ClassId, ∃ kx2 : ClassId, ∃ kx3 : ClassId, ∃ kx4 : ClassId, ∃ kx5 : ClassId, ∃ kx6 : ClassId, ∃ ex1 : Int32, v = none ∧ h0.size ≤ fr1 ∧ h0.size ≤ fr2 ∧ h0.size ≤ fr3 ∧ h0.size ≤ fr4 ∧ h0.size ≤ fr5 ∧ h0.size ≤ fr6 ∧ fr1 ≠ fr2 ∧ fr1 ≠ fr3 ∧ fr1 ≠ fr4 ∧ fr1 ≠ fr5 ∧ fr1 ≠ fr6 ∧ fr2 ≠ fr3 ∧ fr2 ≠ fr4 ∧ fr2 ≠ fr5 ∧ fr2 ≠ fr6 ∧ fr3 ≠ fr4 ∧ fr3 ≠ fr5 ∧ fr3 ≠ fr6 ∧ fr4 ≠ fr5 ∧ fr4 ≠ fr6 ∧ fr5 ≠ fr6 ∧ Fr n0 L ∧ Keep h0 h [ad1] ∧ (Exa Z h ad1 "com/example/monarc/monarc/Domains") ∧ (Fld Z h ad1 "com/example/monarc/monarc/Domains" "holes" "[[J" (.ref fr1)) ∧ (Fld Z h ad1 "com/example/monarc/monarc/Domains" "initial" "[Lcom/example/monarc/monarc/InitialDomain;" (.ref fr2)) ∧ (Fld Z h ad1 "com/example/monarc/monarc/Domains" "lower" "[I" (.ref fr3)) ∧ (Fld Z h ad1 "com/example/monarc/monarc/Domains" "resized" "Ljava/util/function/IntConsumer;" .null) ∧ (Fld Z h ad1 "com/example/monarc/monarc/Domains" "sizes" "[I" (.ref fr4)) ∧ (Fld Z h ad1 "com/example/monarc/monarc/Domains" "trail" "[J" (.ref fr5)) ∧ (Fld Z h ad1 "com/example/monarc/monarc/Domains" "trailSize" "I" (.int (0 : Int32))) ∧ (Fld Z h ad1 "com/example/monarc/monarc/Domains" "upper" "[I" (.ref fr6)) ∧ (Fld Z h ad1 "com/example/monarc/monarc/Domains" "withOneValue" "I" (.int ex1)) ∧ (Exa Z h fr1 "[[J") ∧ (Arv Z h fr1 kx1 (.array .long) (1 : Int32) [.null] .null) ∧ (Arv Z h fr2 kx2 (.object "com/example/monarc/monarc/InitialDomain") (1 : Int32) [(.ref ad3)] .null) ∧ (Arv Z h fr3 kx3 .int (1 : Int32) [(.int (0 : Int32))] (.int (0 : Int32))) ∧ (Arv Z h fr4 kx4 .int (1 : Int32) [(.int iv1)] (.int (0 : Int32))) ∧ (Arv Z h fr5 kx5 .long (1024 : Int32) [] (.long (0 : Int64))) ∧ (Arv Z h fr6 kx6 .int (1 : Int32) [(.int (iv1 - (1 : Int32)))] (.int (0 : Int32))) ∧ (OvrA Z kx1 .long "[J") ∧ (Ovr Z kx2 "com/example/monarc/monarc/InitialDomain")
set_option maxRecDepth 65536 in
set_option maxHeartbeats 40000000 in
theorem am10_2 (l : Launch) (Z : State) (a0 : Array Value) (hw : ∀ d ∈ tables_1, d.before a0 Z = true) (ws : List Jvm.Cond) (u_1 : Addr) (aw0 : Addr) (u_0 : ClassId) (kaw0 : ClassId) (HW : Wd Z u_1 aw0 u_0 kaw0) (ad1 : Addr) (ad2 : Addr) (ad3 : Addr) (iv1 : Int32) (ad4 : Addr) (ad5 : Addr) (kc1 : ClassId) (h0 : Heap) (n0 : Nat) (Ol : Old Z n0 h0) (HE_ad3 : Exa Z h0 ad3 "com/example/monarc/monarc/InitialDomain") (HF_ad3_InitialDomain_size : Fld Z h0 ad3 "com/example/monarc/monarc/InitialDomain" "size" "I" (.int iv1)) (HE_ad4 : Exa Z h0 ad4 "com/example/monarc/monarc/Variable") (HF_ad4_Variable_domain : Fld Z h0 ad4 "com/example/monarc/monarc/Variable" "domain" "Lcom/example/monarc/monarc/InitialDomain;" (.ref ad3)) (HE_ad2 : Exa Z h0 ad2 "java/util/ArrayList") (HF_ad2_ArrayList_elementData : Fld Z h0 ad2 "java/util/ArrayList" "elementData" "[Ljava/lang/Object;" (.ref ad5)) (HF_ad2_ArrayList_size : Fld Z h0 ad2 "java/util/ArrayList" "size" "I" (.int (1 : Int32))) (HV_ad5 : Arv Z h0 ad5 kc1 (.object "java/lang/Object") (10 : Int32) [(.ref ad4), .null, .null, .null, .null, .null, .null, .null, .null, .null] .null) (HE_ad1 : Exa Z h0 ad1 "com/example/monarc/monarc/Domains") (HF_ad1_Domains_trail : Fld Z h0 ad1 "com/example/monarc/monarc/Domains" "trail" "[J" .null) (HF_ad1_Domains_marks : Fld Z h0 ad1 "com/example/monarc/monarc/Domains" "marks" "[I" .null) (HF_ad1_Domains_initial : Fld Z h0 ad1 "com/example/monarc/monarc/Domains" "initial" "[Lcom/example/monarc/monarc/InitialDomain;" .null) (HF_ad1_Domains_lower : Fld Z h0 ad1 "com/example/monarc/monarc/Domains" "lower" "[I" .null) (HF_ad1_Domains_upper : Fld Z h0 ad1 "com/example/monarc/monarc/Domains" "upper" "[I" .null) (HF_ad1_Domains_holes : Fld Z h0 ad1 "com/example/monarc/monarc/Domains" "holes" "[[J" .null) (HF_ad1_Domains_sizes : Fld Z h0 ad1 "com/example/monarc/monarc/Domains" "sizes" "[I" .null) (HF_ad1_Domains_withOneValue : Fld Z h0 ad1 "com/example/monarc/monarc/Domains" "withOneValue" "I" (.int (0 : Int32))) (HF_ad1_Domains_trailSize : Fld Z h0 ad1 "com/example/monarc/monarc/Domains" "trailSize" "I" (.int (0 : Int32))) (HF_ad1_Domains_resized : Fld Z h0 ad1 "com/example/monarc/monarc/Domains" "resized" "Ljava/util/function/IntConsumer;" .null) (nn_ad1 : n0 ≤ ad1) (ne_ad1_ad2 : ad1 ≠ ad2) (ne_ad1_ad3 : ad1 ≠ ad3) (ne_ad1_ad4 : ad1 ≠ ad4) (ne_ad1_ad5 : ad1 ≠ ad5) (hO_ad5 : Ovr Z kc1 "java/lang/Object") :
    MetFree l y_10 (head1 (Jvm.Cond.code y_10 prog_11_method_1_code 4 none :: ws) (rm 3 7 1093 42)) (fun a_ U_ => a_ = #[(.ref ad1), (.ref ad2)] ∧ Z.Warmed39 U_.vm ∧ U_.heap = h0) (fun _ _ _ _ _ => True) (fun _ U_ o_ V_ => ∃ v_ L_, o_ = .returned v_ ∧ Q_am10_2 Z u_1 aw0 u_0 kaw0 ad1 ad2 ad3 iv1 ad4 ad5 kc1 h0 n0 v_ V_.heap L_ ∧ FrameEnd U_ o_ V_ L_ (rm 3 7 1093 42).cells (rm 3 7 1093 42).slots) := by
  refine MetFree.of_bodySF (plainFor_of_name pn_7) hisR ?_
  intro p e s m args below meth c s₁ Bd hml0 hP hK
  obtain ⟨rfl, hZ, hh⟩ := hP
  have hx := Bd.exec
  have hby := Bd.bytes
  have hml : c.maxLocals = 4 := hml0
  have hown : s.vm.findClass "com/example/monarc/monarc/Domains" = some m.cls := findClass_of_methodNamed Bd.named
  have hnm := (name_of_methodNamed Bd.named Bd.method).1
  have X0 : Stand p l e (rm 3 7 1093 42) s m #[(.ref ad1), (.ref ad2)] below meth c s₁ [] 0 0 := Stand.of_body Bd
  have e0 : s₁.heap = h0 := by rw [← hh, Bd.state]; rfl
  have N0 := Fr.nil n0
  have kp0 := Keep.refl h0 [ad1]
  show Go p e below (Fin1 s below (Q_am10_2 Z u_1 aw0 u_0 kaw0 ad1 ad2 ad3 iv1 ad4 ad5 kc1 h0 n0) (rm 3 7 1093 42).cells (rm 3 7 1093 42).slots) _
  refine Go.step (fun t_ k_ => castTop (ef_am10_1 m ad1 ad2) k_) ?_
  obtain ⟨Eu_1, Su_1, Eaw0, Saw0, Au_1, Aaw0⟩ := id HW
  show Go p e below _ (s₁.setTop (mkF m 0 #[.val (.ref ad1), .val (.ref ad2), .unset, .unset] []))
  obtain ⟨fe, hd_fe⟩ : ∃ z : Nat → Value, z = fun i => ([(.ref ad4), .null, .null, .null, .null, .null, .null, .null, .null, .null] : List Value).getD i .null := ⟨_, rfl⟩
  have g1_ : Arw Z h0 ad5 kc1 (.object "java/lang/Object") (10 : Int32) fe := Arw.of_list HV_ad5 (by rw [hd_fe]; intro i hi; rfl)
  have hv_fe0 : (fe ((0 : Int32)).toNatClampNeg) = (.ref ad4) := by rw [hd_fe]; rfl
  refine gs.aloadN X0.here hx (hb hby d10_0) rfl rfl ?_
  obtain ⟨T2, X2, e2, st2⟩ := initO X0 hx hZ hown (wd hw 82 rfl) (wd hw 15 rfl) (wd hw 16 rfl) e0 (g := (mkF m 1 #[.val (.ref ad1), .val (.ref ad2), .unset, .unset] [(.ref ad1)])) rfl (by rw [hml]; rfl) rfl (hb hby d10_1) (by decide) (W := 0) (by show 2 * 0 + _ ≤ _; exact Nat.le_of_eq rfl) (by decide)
  refine Go.step st2 ?_
  show Go p e below _ (T2.setTop (mkF m 4 #[.val (.ref ad1), .val (.ref ad2), .unset, .unset] []))
  refine gs.aloadN X2.here hx (hb hby d10_4) rfl rfl ?_
  refine gs.sipush 1024 X2.here hx (hb hby d10_5) rfl ?_
  obtain ⟨T3, h3, k3, X3, e3, E3, A3, st3⟩ := newP X2 hx hZ (wd hw 83 rfl) e2 (g := (mkF m 8 #[.val (.ref ad1), .val (.ref ad2), .unset, .unset] [(.int (1024 : Int32)), (.ref ad1)])) rfl (hb hby d10_8) rfl (by decide) (cap := 1024) (by decide) (by decide) (by decide) (by decide)
  obtain ⟨b3, g3⟩ : ∃ z, z = h0.size := ⟨_, rfl⟩
  rw [← g3] at A3 st3
  have nn_b3 : n0 ≤ b3 := Nat.le_trans (old_z0 Ol) (Nat.le_of_eq g3.symm)
  have sz_b3 : h0.size ≤ b3 := Nat.le_trans kp0.1 (Nat.le_of_eq g3.symm)
  have old3 := Ol.ext E3
  have kp3 := kp0.ext E3
  have V3 : Arv Z h3 b3 k3 .long (1024 : Int32) [] (.long (0 : Int64)) := (Arv.new A3 (by decide)).pad (pad_rep [] (.long (0 : Int64)) 0)
  refine Go.fin st3 ?_
  show Go p e below _ (T3.setTop (mkF m 10 _ [(.ref b3), (.ref ad1)]))
  have f4 := (HF_ad1_Domains_trail.ext E3)
  have f5 := (HE_ad1.ext E3)
  obtain ⟨T6, h6, X6, e6, W6, st6⟩ := putF X3 hx hZ hown (host := "") (Or.inl (wd hw 84 rfl)) Via.refl e3 f4 f5 (Or.inl (wd hw 85 rfl)) (wd hw 77 rfl) (ty := (.array .long)) (by decide) rfl rfl (g := (mkF m 10 #[.val (.ref ad1), .val (.ref ad2), .unset, .unset] [(.ref b3), (.ref ad1)])) rfl rfl (hb hby d10_10)
  have N6 := Fr.snoc X6 N0 nn_ad1
  have old6 := old3.wr W6 nn_ad1
  have kp6 := kp3.wr W6 (Or.inl (List.mem_of_getElem? (i := 0) rfl))
  have F6 := f4.same W6
  refine Go.fin st6 ?_
  show Go p e below _ (T6.setTop (mkF m 13 _ []))
  refine gs.aloadN X6.here hx (hb hby d10_13) rfl rfl ?_
  refine gs.bipush 64 X6.here hx (hb hby d10_14) rfl ?_
  obtain ⟨T7, h7, k7, X7, e7, E7, A7, st7⟩ := newP X6 hx hZ (wd hw 86 rfl) e6 (g := (mkF m 16 #[.val (.ref ad1), .val (.ref ad2), .unset, .unset] [(.int (64 : Int32)), (.ref ad1)])) rfl (hb hby d10_16) rfl (by decide) (cap := 64) (by decide) (by decide) (by decide) (by decide)
  obtain ⟨b7, g7⟩ : ∃ z, z = h6.size := ⟨_, rfl⟩
  rw [← g7] at A7 st7
  have nn_b7 : n0 ≤ b7 := Nat.le_trans (old_z0 old6) (Nat.le_of_eq g7.symm)
  have sz_b7 : h0.size ≤ b7 := Nat.le_trans kp6.1 (Nat.le_of_eq g7.symm)
  have old7 := old6.ext E7
  have kp7 := kp6.ext E7
  have V7 : Arv Z h7 b7 k7 .int (64 : Int32) [] (.int (0 : Int32)) := (Arv.new A7 (by decide)).pad (pad_rep [] (.int (0 : Int32)) 0)
  refine Go.fin st7 ?_
  show Go p e below _ (T7.setTop (mkF m 18 _ [(.ref b7), (.ref ad1)]))
  have f8 := (((HF_ad1_Domains_marks.ext E3).other W6 (Or.inr (sn13 hw))).ext E7)
  have f9 := ((f5.wr W6).ext E7)
  obtain ⟨T10, h10, X10, e10, W10, st10⟩ := putF X7 hx hZ hown (host := "") (Or.inl (wd hw 87 rfl)) Via.refl e7 f8 f9 (Or.inl (wd hw 88 rfl)) (wd hw 77 rfl) (ty := (.array .int)) (by decide) rfl rfl (g := (mkF m 18 #[.val (.ref ad1), .val (.ref ad2), .unset, .unset] [(.ref b7), (.ref ad1)])) rfl rfl (hb hby d10_18)
  have N10 := Fr.snoc X10 N6 nn_ad1
  have old10 := old7.wr W10 nn_ad1
  have kp10 := kp7.wr W10 (Or.inl (List.mem_of_getElem? (i := 0) rfl))
  have F10 := f8.same W10
  refine Go.fin st10 ?_
  show Go p e below _ (T10.setTop (mkF m 21 _ []))
  refine gs.aloadN X10.here hx (hb hby d10_21) rfl rfl ?_
  have f11 := ((((HE_ad2.ext E3).wr W6).ext E7).wr W10)
  have f12 := ((((HF_ad2_ArrayList_size.ext E3).other W6 (Or.inl (Ne.symm ne_ad1_ad2))).ext E7).other W10 (Or.inl (Ne.symm ne_ad1_ad2)))
  refine gs.face 0 X10 hx hZ hown (am11_2 l Z a0 hw [] u_1 aw0 u_0 kaw0 HW (ad2) h10 n0 old10 f12) (wd hw 97 rfl) (wd hw 54 rfl) (wd hw 89 rfl) (wd hw 90 rfl) (mvT hZ (wd hw 91 rfl)) (wd hw 92 rfl) (wd hw 93 rfl) (wd hw 94 rfl) (wd hw 95 rfl) (wd hw 96 rfl) (by decide) f11 (by decide) (by decide) (by rw [hml]; rfl) [] (lenOf pd_5 rfl) rfl (Nat.le_of_eq rfl) (hb hby d10_22) rfl e10 (by decide) (by decide) fun T13 Lc13 v13 X13 hQ13 => ?_
  obtain ⟨rfl, Nq13, e13⟩ := hQ13
  have N13 := Fr.app N10 Nq13
  show Go p e below _ (T13.setTop (mkF m 27 _ [(.int (1 : Int32))]))
  refine gs.istoreN X13.here hx (hb hby d10_27) (l' := #[.val (.ref ad1), .val (.ref ad2), .val (.int (1 : Int32)), .unset]) rfl ?_
  refine gs.aloadN X13.here hx (hb hby d10_28) rfl rfl ?_
  refine gs.iloadN X13.here hx (hb hby d10_29) rfl ?_
  obtain ⟨T14, h14, k14, X14, e14, E14, A14, O14, st14⟩ := newR X13 hx hZ hown (wd hw 100 rfl) (wd hw 101 rfl) e13 (g := (mkF m 30 #[.val (.ref ad1), .val (.ref ad2), .val (.int (1 : Int32)), .unset] [(.int (1 : Int32)), (.ref ad1)])) rfl (hb hby d10_30) rfl (by decide) (cap := 1) (by decide) (by decide) (by decide) (by decide)
  obtain ⟨b14, g14⟩ : ∃ z, z = h10.size := ⟨_, rfl⟩
  rw [← g14] at A14 st14
  have nn_b14 : n0 ≤ b14 := Nat.le_trans (old_z0 old10) (Nat.le_of_eq g14.symm)
  have sz_b14 : h0.size ≤ b14 := Nat.le_trans kp10.1 (Nat.le_of_eq g14.symm)
  have old14 := old10.ext E14
  have kp14 := kp10.ext E14
  have V14 : Arv Z h14 b14 k14 (.object "com/example/monarc/monarc/InitialDomain") (1 : Int32) [.null] .null := (Arv.new A14 (by decide)).pad (pad_rep [] .null 1)
  refine Go.fin st14 ?_
  show Go p e below _ (T14.setTop (mkF m 33 _ [(.ref b14), (.ref ad1)]))
  have f15 := (((((HF_ad1_Domains_initial.ext E3).other W6 (Or.inr (sn14 hw))).ext E7).other W10 (Or.inr (sn15 hw))).ext E14)
  have f16 := ((f9.wr W10).ext E14)
  obtain ⟨T17, h17, X17, e17, W17, st17⟩ := putF X14 hx hZ hown (host := "") (Or.inl (wd hw 102 rfl)) Via.refl e14 f15 f16 (Or.inr ⟨(wd hw 103 rfl), rfl, hnm⟩) (wd hw 77 rfl) (ty := (.array (.object "com/example/monarc/monarc/InitialDomain"))) (by decide) rfl rfl (g := (mkF m 33 #[.val (.ref ad1), .val (.ref ad2), .val (.int (1 : Int32)), .unset] [(.ref b14), (.ref ad1)])) rfl rfl (hb hby d10_33)
  have N17 := Fr.snoc X17 N13 nn_ad1
  have old17 := old14.wr W17 nn_ad1
  have kp17 := kp14.wr W17 (Or.inl (List.mem_of_getElem? (i := 0) rfl))
  have F17 := f15.same W17
  refine Go.fin st17 ?_
  show Go p e below _ (T17.setTop (mkF m 36 _ []))
  refine gs.aloadN X17.here hx (hb hby d10_36) rfl rfl ?_
  refine gs.iloadN X17.here hx (hb hby d10_37) rfl ?_
  obtain ⟨T18, h18, k18, X18, e18, E18, A18, st18⟩ := newP X17 hx hZ (wd hw 86 rfl) e17 (g := (mkF m 38 #[.val (.ref ad1), .val (.ref ad2), .val (.int (1 : Int32)), .unset] [(.int (1 : Int32)), (.ref ad1)])) rfl (hb hby d10_38) rfl (by decide) (cap := 1) (by decide) (by decide) (by decide) (by decide)
  obtain ⟨b18, g18⟩ : ∃ z, z = h17.size := ⟨_, rfl⟩
  rw [← g18] at A18 st18
  have nn_b18 : n0 ≤ b18 := Nat.le_trans (old_z0 old17) (Nat.le_of_eq g18.symm)
  have sz_b18 : h0.size ≤ b18 := Nat.le_trans kp17.1 (Nat.le_of_eq g18.symm)
  have old18 := old17.ext E18
  have kp18 := kp17.ext E18
  have V18 : Arv Z h18 b18 k18 .int (1 : Int32) [(.int (0 : Int32))] (.int (0 : Int32)) := (Arv.new A18 (by decide)).pad (pad_rep [] (.int (0 : Int32)) 1)
  refine Go.fin st18 ?_
  show Go p e below _ (T18.setTop (mkF m 40 _ [(.ref b18), (.ref ad1)]))
  have f19 := (((((((HF_ad1_Domains_lower.ext E3).other W6 (Or.inr (sn16 hw))).ext E7).other W10 (Or.inr (sn17 hw))).ext E14).other W17 (Or.inr (sn18 hw))).ext E18)
  have f20 := ((f16.wr W17).ext E18)
  obtain ⟨T21, h21, X21, e21, W21, st21⟩ := putF X18 hx hZ hown (host := "") (Or.inl (wd hw 104 rfl)) Via.refl e18 f19 f20 (Or.inr ⟨(wd hw 105 rfl), rfl, hnm⟩) (wd hw 77 rfl) (ty := (.array .int)) (by decide) rfl rfl (g := (mkF m 40 #[.val (.ref ad1), .val (.ref ad2), .val (.int (1 : Int32)), .unset] [(.ref b18), (.ref ad1)])) rfl rfl (hb hby d10_40)
  have N21 := Fr.snoc X21 N17 nn_ad1
  have old21 := old18.wr W21 nn_ad1
  have kp21 := kp18.wr W21 (Or.inl (List.mem_of_getElem? (i := 0) rfl))
  have F21 := f19.same W21
  refine Go.fin st21 ?_
  show Go p e below _ (T21.setTop (mkF m 43 _ []))
  refine gs.aloadN X21.here hx (hb hby d10_43) rfl rfl ?_
  refine gs.iloadN X21.here hx (hb hby d10_44) rfl ?_
  obtain ⟨T22, h22, k22, X22, e22, E22, A22, st22⟩ := newP X21 hx hZ (wd hw 86 rfl) e21 (g := (mkF m 45 #[.val (.ref ad1), .val (.ref ad2), .val (.int (1 : Int32)), .unset] [(.int (1 : Int32)), (.ref ad1)])) rfl (hb hby d10_45) rfl (by decide) (cap := 1) (by decide) (by decide) (by decide) (by decide)
  obtain ⟨b22, g22⟩ : ∃ z, z = h21.size := ⟨_, rfl⟩
  rw [← g22] at A22 st22
  have nn_b22 : n0 ≤ b22 := Nat.le_trans (old_z0 old21) (Nat.le_of_eq g22.symm)
  have sz_b22 : h0.size ≤ b22 := Nat.le_trans kp21.1 (Nat.le_of_eq g22.symm)
  have old22 := old21.ext E22
  have kp22 := kp21.ext E22
  have V22 : Arv Z h22 b22 k22 .int (1 : Int32) [(.int (0 : Int32))] (.int (0 : Int32)) := (Arv.new A22 (by decide)).pad (pad_rep [] (.int (0 : Int32)) 1)
  refine Go.fin st22 ?_
  show Go p e below _ (T22.setTop (mkF m 47 _ [(.ref b22), (.ref ad1)]))
  have f23 := (((((((((HF_ad1_Domains_upper.ext E3).other W6 (Or.inr (sn19 hw))).ext E7).other W10 (Or.inr (sn20 hw))).ext E14).other W17 (Or.inr (sn21 hw))).ext E18).other W21 (Or.inr (sn22 hw))).ext E22)
  have f24 := ((f20.wr W21).ext E22)
  obtain ⟨T25, h25, X25, e25, W25, st25⟩ := putF X22 hx hZ hown (host := "") (Or.inl (wd hw 106 rfl)) Via.refl e22 f23 f24 (Or.inr ⟨(wd hw 107 rfl), rfl, hnm⟩) (wd hw 77 rfl) (ty := (.array .int)) (by decide) rfl rfl (g := (mkF m 47 #[.val (.ref ad1), .val (.ref ad2), .val (.int (1 : Int32)), .unset] [(.ref b22), (.ref ad1)])) rfl rfl (hb hby d10_47)
  have N25 := Fr.snoc X25 N21 nn_ad1
  have old25 := old22.wr W25 nn_ad1
  have kp25 := kp22.wr W25 (Or.inl (List.mem_of_getElem? (i := 0) rfl))
  have F25 := f23.same W25
  refine Go.fin st25 ?_
  show Go p e below _ (T25.setTop (mkF m 50 _ []))
  refine gs.aloadN X25.here hx (hb hby d10_50) rfl rfl ?_
  refine gs.iloadN X25.here hx (hb hby d10_51) rfl ?_
  obtain ⟨T26, h26, k26, X26, e26, E26, A26, B26, O26, st26⟩ := newRA X25 hx hZ (ty := .long) hown (by decide) (wd hw 108 rfl) (wd hw 109 rfl) e25 (g := (mkF m 52 #[.val (.ref ad1), .val (.ref ad2), .val (.int (1 : Int32)), .unset] [(.int (1 : Int32)), (.ref ad1)])) rfl (hb hby d10_52) rfl (by decide) (cap := 1) (by decide) (by decide) (by decide) (by decide) (ad := "[[J") (by decide)
  obtain ⟨b26, g26⟩ : ∃ z, z = h25.size := ⟨_, rfl⟩
  rw [← g26] at A26 B26 st26
  have nn_b26 : n0 ≤ b26 := Nat.le_trans (old_z0 old25) (Nat.le_of_eq g26.symm)
  have sz_b26 : h0.size ≤ b26 := Nat.le_trans kp25.1 (Nat.le_of_eq g26.symm)
  have old26 := old25.ext E26
  have kp26 := kp25.ext E26
  have V26 : Arv Z h26 b26 k26 (.array .long) (1 : Int32) [.null] .null := (Arv.new A26 (by decide)).pad (pad_rep [] .null 1)
  refine Go.fin st26 ?_
  show Go p e below _ (T26.setTop (mkF m 55 _ [(.ref b26), (.ref ad1)]))
  have f27 := (((((((((((HF_ad1_Domains_holes.ext E3).other W6 (Or.inr (sn23 hw))).ext E7).other W10 (Or.inr (sn24 hw))).ext E14).other W17 (Or.inr (sn25 hw))).ext E18).other W21 (Or.inr (sn26 hw))).ext E22).other W25 (Or.inr (sn27 hw))).ext E26)
  have f28 := ((f24.wr W25).ext E26)
  obtain ⟨T29, h29, X29, e29, W29, st29⟩ := putF X26 hx hZ hown (host := "") (Or.inl (wd hw 110 rfl)) Via.refl e26 f27 f28 (Or.inr ⟨(wd hw 111 rfl), rfl, hnm⟩) (wd hw 77 rfl) (ty := (.array (.array .long))) (by decide) rfl rfl (g := (mkF m 55 #[.val (.ref ad1), .val (.ref ad2), .val (.int (1 : Int32)), .unset] [(.ref b26), (.ref ad1)])) rfl rfl (hb hby d10_55)
  have N29 := Fr.snoc X29 N25 nn_ad1
  have old29 := old26.wr W29 nn_ad1
  have kp29 := kp26.wr W29 (Or.inl (List.mem_of_getElem? (i := 0) rfl))
  have F29 := f27.same W29
  refine Go.fin st29 ?_
  show Go p e below _ (T29.setTop (mkF m 58 _ []))
  refine gs.aloadN X29.here hx (hb hby d10_58) rfl rfl ?_
  refine gs.iloadN X29.here hx (hb hby d10_59) rfl ?_
  obtain ⟨T30, h30, k30, X30, e30, E30, A30, st30⟩ := newP X29 hx hZ (wd hw 86 rfl) e29 (g := (mkF m 60 #[.val (.ref ad1), .val (.ref ad2), .val (.int (1 : Int32)), .unset] [(.int (1 : Int32)), (.ref ad1)])) rfl (hb hby d10_60) rfl (by decide) (cap := 1) (by decide) (by decide) (by decide) (by decide)
  obtain ⟨b30, g30⟩ : ∃ z, z = h29.size := ⟨_, rfl⟩
  rw [← g30] at A30 st30
  have nn_b30 : n0 ≤ b30 := Nat.le_trans (old_z0 old29) (Nat.le_of_eq g30.symm)
  have sz_b30 : h0.size ≤ b30 := Nat.le_trans kp29.1 (Nat.le_of_eq g30.symm)
  have old30 := old29.ext E30
  have kp30 := kp29.ext E30
  have V30 : Arv Z h30 b30 k30 .int (1 : Int32) [(.int (0 : Int32))] (.int (0 : Int32)) := (Arv.new A30 (by decide)).pad (pad_rep [] (.int (0 : Int32)) 1)
  refine Go.fin st30 ?_
  show Go p e below _ (T30.setTop (mkF m 62 _ [(.ref b30), (.ref ad1)]))
  have f31 := (((((((((((((HF_ad1_Domains_sizes.ext E3).other W6 (Or.inr (sn28 hw))).ext E7).other W10 (Or.inr (sn29 hw))).ext E14).other W17 (Or.inr (sn30 hw))).ext E18).other W21 (Or.inr (sn31 hw))).ext E22).other W25 (Or.inr (sn32 hw))).ext E26).other W29 (Or.inr (sn33 hw))).ext E30)
  have f32 := ((f28.wr W29).ext E30)
  obtain ⟨T33, h33, X33, e33, W33, st33⟩ := putF X30 hx hZ hown (host := "") (Or.inl (wd hw 112 rfl)) Via.refl e30 f31 f32 (Or.inr ⟨(wd hw 113 rfl), rfl, hnm⟩) (wd hw 77 rfl) (ty := (.array .int)) (by decide) rfl rfl (g := (mkF m 62 #[.val (.ref ad1), .val (.ref ad2), .val (.int (1 : Int32)), .unset] [(.ref b30), (.ref ad1)])) rfl rfl (hb hby d10_62)
  have N33 := Fr.snoc X33 N29 nn_ad1
  have old33 := old30.wr W33 nn_ad1
  have kp33 := kp30.wr W33 (Or.inl (List.mem_of_getElem? (i := 0) rfl))
  have F33 := f31.same W33
  refine Go.fin st33 ?_
  show Go p e below _ (T33.setTop (mkF m 65 _ []))
  refine gs.iconst 0 X33.here hx (hb hby d10_65) rfl ?_
  refine gs.istoreN X33.here hx (hb hby d10_66) (l' := #[.val (.ref ad1), .val (.ref ad2), .val (.int (1 : Int32)), .val (.int (0 : Int32))]) rfl ?_
  refine gs.iloadN X33.here hx (hb hby d10_67) rfl ?_
  refine gs.iloadN X33.here hx (hb hby d10_68) rfl ?_
  have hc69 : (0 : Int32) < (1 : Int32) := by decide
  refine gs.icmpNo X33.here hx (hb hby d10_69) (tlt hc69).2.1 ?_
  refine gs.aloadN X33.here hx (hb hby d10_72) rfl rfl ?_
  have f34 := ((((((((F17.ext E18).other W21 (Or.inr (sn35 hw))).ext E22).other W25 (Or.inr (sn36 hw))).ext E26).other W29 (Or.inr (sn37 hw))).ext E30).other W33 (Or.inr (sn38 hw)))
  refine gs.getF X33 hx hZ hown (wd hw 102 rfl) Via.refl e33 f34 (hb hby d10_73) fun T35 X35 e35 => ?_
  refine gs.iloadN X35.here hx (hb hby d10_76) rfl ?_
  refine gs.aloadN X35.here hx (hb hby d10_77) rfl rfl ?_
  refine gs.iloadN X35.here hx (hb hby d10_78) rfl ?_
  show Go p e below _ (T35.setTop (mkF m 79 _ _))
  have f36 := ((((((((((f11.ext E14).wr W17).ext E18).wr W21).ext E22).wr W25).ext E26).wr W29).ext E30).wr W33)
  have f37 := ((((((((((((((HF_ad2_ArrayList_elementData.ext E3).other W6 (Or.inl (Ne.symm ne_ad1_ad2))).ext E7).other W10 (Or.inl (Ne.symm ne_ad1_ad2))).ext E14).other W17 (Or.inl (Ne.symm ne_ad1_ad2))).ext E18).other W21 (Or.inl (Ne.symm ne_ad1_ad2))).ext E22).other W25 (Or.inl (Ne.symm ne_ad1_ad2))).ext E26).other W29 (Or.inl (Ne.symm ne_ad1_ad2))).ext E30).other W33 (Or.inl (Ne.symm ne_ad1_ad2)))
  have f38 := ((((((((((f12.ext E14).other W17 (Or.inl (Ne.symm ne_ad1_ad2))).ext E18).other W21 (Or.inl (Ne.symm ne_ad1_ad2))).ext E22).other W25 (Or.inl (Ne.symm ne_ad1_ad2))).ext E26).other W29 (Or.inl (Ne.symm ne_ad1_ad2))).ext E30).other W33 (Or.inl (Ne.symm ne_ad1_ad2)))
  have f39 := ((((((((((((((g1_.ext E3).other W6 (Ne.symm ne_ad1_ad5)).ext E7).other W10 (Ne.symm ne_ad1_ad5)).ext E14).other W17 (Ne.symm ne_ad1_ad5)).ext E18).other W21 (Ne.symm ne_ad1_ad5)).ext E22).other W25 (Ne.symm ne_ad1_ad5)).ext E26).other W29 (Ne.symm ne_ad1_ad5)).ext E30).other W33 (Ne.symm ne_ad1_ad5))
  refine gs.face 2 X35 hx hZ hown (am18_1 l Z a0 hw [] u_1 aw0 u_0 kaw0 HW (ad2) ((0 : Int32)) (ad4) (ad5) ((1 : Int32)) (kc1) (fe) h33 n0 old33 f36 f37 f38 f39 (by decide) (by decide) (by decide) hv_fe0) (wd hw 155 rfl) (wd hw 54 rfl) (wd hw 148 rfl) (wd hw 149 rfl) (mvT hZ (wd hw 150 rfl)) (wd hw 151 rfl) (wd hw 152 rfl) (wd hw 153 rfl) (wd hw 154 rfl) (wd hw 96 rfl) (by decide) f36 (by decide) (by decide) (by rw [hml]; rfl) [(.int (0 : Int32))] (lenOf pd_14 rfl) rfl (Nat.le_of_eq rfl) (hb hby d10_79) rfl e35 (by decide) (by decide) fun T40 Lc40 v40 X40 hQ40 => ?_
  obtain ⟨rfl, Nq40, e40⟩ := hQ40
  have N40 := Fr.app N33 Nq40
  show Go p e below _ (T40.setTop (mkF m 84 _ [(.ref ad4), (.int (0 : Int32)), (.ref b14)]))
  have f41 := ((((((((((((((HE_ad4.ext E3).wr W6).ext E7).wr W10).ext E14).wr W17).ext E18).wr W21).ext E22).wr W25).ext E26).wr W29).ext E30).wr W33)
  obtain ⟨T42, X42, e42, st42⟩ := castY X40 hx hZ hown (wd hw 169 rfl) e40 (Ins.self f41) (g := (mkF m 84 #[.val (.ref ad1), .val (.ref ad2), .val (.int (1 : Int32)), .val (.int (0 : Int32))] [(.ref ad4), (.int (0 : Int32)), (.ref b14)])) rfl rfl (hb hby d10_84)
  refine Go.step st42 ?_
  show Go p e below _ (T42.setTop (mkF m 87 _ [(.ref ad4), (.int (0 : Int32)), (.ref b14)]))
  have f43 := ((((((((((((((HF_ad4_Variable_domain.ext E3).other W6 (Or.inl (Ne.symm ne_ad1_ad4))).ext E7).other W10 (Or.inl (Ne.symm ne_ad1_ad4))).ext E14).other W17 (Or.inl (Ne.symm ne_ad1_ad4))).ext E18).other W21 (Or.inl (Ne.symm ne_ad1_ad4))).ext E22).other W25 (Or.inl (Ne.symm ne_ad1_ad4))).ext E26).other W29 (Or.inl (Ne.symm ne_ad1_ad4))).ext E30).other W33 (Or.inl (Ne.symm ne_ad1_ad4)))
  refine gs.virt 2 X42 hx hZ hown (am22_1 l Z a0 hw [] u_1 aw0 u_0 kaw0 HW (ad4) (ad3) h33 n0 old33 f43) (wd hw 175 rfl) (wd hw 26 rfl) (wd hw 171 rfl) (wd hw 172 rfl) (notFace_of_selects (args := #[]) (mvT hZ (wd hw 174 rfl))) (wd hw 174 rfl) (wd hw 173 rfl) (by decide) f41 (by decide) (by decide) (by rw [hml]; rfl) [] (lenOf pd_15 rfl) rfl (Nat.le_of_eq rfl) (hb hby d10_87) rfl e42 (by decide) (by decide) fun T44 Lc44 v44 X44 hQ44 => ?_
  obtain ⟨rfl, Nq44, e44⟩ := hQ44
  have N44 := Fr.app N40 Nq44
  show Go p e below _ (T44.setTop (mkF m 90 _ [(.ref ad3), (.int (0 : Int32)), (.ref b14)]))
  have ne_ad1_b14 : ad1 ≠ b14 := Nat.ne_of_lt (Nat.lt_of_lt_of_le (f9.wr W10).lt (Nat.le_of_eq g14.symm))
  have f45 := (((((((((V14.other W17 (Ne.symm ne_ad1_b14)).ext E18).other W21 (Ne.symm ne_ad1_b14)).ext E22).other W25 (Ne.symm ne_ad1_b14)).ext E26).other W29 (Ne.symm ne_ad1_b14)).ext E30).other W33 (Ne.symm ne_ad1_b14))
  obtain ⟨cl46, Ar46, q46, Sz46, Ng46, Hs46, G46⟩ := id f45
  have hin46 : ¬ ((0 : Int32) < 0 ∨ cl46.slots.size ≤ ((0 : Int32)).toNatClampNeg) := inb_of Sz46 ⟨by decide, by decide⟩
  have f47 := ((((((((((((((HE_ad3.ext E3).wr W6).ext E7).wr W10).ext E14).wr W17).ext E18).wr W21).ext E22).wr W25).ext E26).wr W29).ext E30).wr W33)
  obtain ⟨T48, h48, X48, e48, W48, st48⟩ := stR X44 hx hZ e44 Ar46 (j := (0 : Int32)) hin46 rfl (Sto.ofV Ar46 q46 O14 (Ins.self f47)) (g := (mkF m 90 #[.val (.ref ad1), .val (.ref ad2), .val (.int (1 : Int32)), .val (.int (0 : Int32))] [(.ref ad3), (.int (0 : Int32)), (.ref b14)])) rfl rfl (hb hby d10_90)
  have N48 := Fr.snoc X48 N44 nn_b14
  have old48 := old33.wr W48 nn_b14
  have kp48 := kp33.wr W48 (Or.inr sz_b14)
  have V48 : Arv Z h48 b14 k14 (.object "com/example/monarc/monarc/InitialDomain") (1 : Int32) [(.ref ad3)] .null := Arv.set Ar46 q46 Sz46 Ng46 Hs46 G46 rfl W48 0 rfl (Nat.le_of_ble_eq_true rfl)
  refine Go.fin st48 ?_
  show Go p e below _ (T48.setTop (mkF m 91 _ []))
  refine gs.aloadN X48.here hx (hb hby d10_91) rfl rfl ?_
  have f49 := (F33.other W48 (Or.inl ne_ad1_b14))
  refine gs.getF X48 hx hZ hown (wd hw 112 rfl) Via.refl e48 f49 (hb hby d10_92) fun T50 X50 e50 => ?_
  refine gs.iloadN X50.here hx (hb hby d10_95) rfl ?_
  refine gs.aloadN X50.here hx (hb hby d10_96) rfl rfl ?_
  have f51 := (f34.other W48 (Or.inl ne_ad1_b14))
  refine gs.getF X50 hx hZ hown (wd hw 102 rfl) Via.refl e50 f51 (hb hby d10_97) fun T52 X52 e52 => ?_
  refine gs.iloadN X52.here hx (hb hby d10_100) rfl ?_
  obtain ⟨cl53, Ar53, q53, Sz53, Ng53, Hs53, G53⟩ := id V48
  have hin53 : ¬ ((0 : Int32) < 0 ∨ cl53.slots.size ≤ ((0 : Int32)).toNatClampNeg) := inb_of Sz53 ⟨by decide, by decide⟩
  have hat53 : cl53.slots[((0 : Int32)).toNatClampNeg]? = some (.ref ad3) := Has.at Hs53 hin53 rfl
  refine Go.fin (fun t_ k_ => X52.aaload hx (j := (0 : Int32)) (v := (.ref ad3)) (by rw [e52]; exact Ar53.1) (State.isArrayOf_alike hZ.alike Ar53.2.1) rfl Ar53.2.2 hin53 hat53 (g := mkF m 101 _ _) rfl rfl (hb hby d10_101) _ k_) ?_
  show Go p e below _ (T52.setTop (mkF m 102 _ [(.ref ad3), (.int (0 : Int32)), (.ref b30)]))
  have f54 := (f47.wr W48)
  have ne_ad3_b14 : ad3 ≠ b14 := Nat.ne_of_lt (Nat.lt_of_lt_of_le ((((HE_ad3.ext E3).wr W6).ext E7).wr W10).lt (Nat.le_of_eq g14.symm))
  have f55 := (((((((((((((((HF_ad3_InitialDomain_size.ext E3).other W6 (Or.inl (Ne.symm ne_ad1_ad3))).ext E7).other W10 (Or.inl (Ne.symm ne_ad1_ad3))).ext E14).other W17 (Or.inl (Ne.symm ne_ad1_ad3))).ext E18).other W21 (Or.inl (Ne.symm ne_ad1_ad3))).ext E22).other W25 (Or.inl (Ne.symm ne_ad1_ad3))).ext E26).other W29 (Or.inl (Ne.symm ne_ad1_ad3))).ext E30).other W33 (Or.inl (Ne.symm ne_ad1_ad3))).other W48 (Or.inl ne_ad3_b14))
  refine gs.virt 2 X52 hx hZ hown (am23_1 l Z a0 hw [] u_1 aw0 u_0 kaw0 HW (ad3) (iv1) h48 n0 old48 f55) (wd hw 181 rfl) (wd hw 7 rfl) (wd hw 177 rfl) (wd hw 178 rfl) (notFace_of_selects (args := #[]) (mvT hZ (wd hw 180 rfl))) (wd hw 180 rfl) (wd hw 179 rfl) (by decide) f54 (by decide) (by decide) (by rw [hml]; rfl) [] (lenOf pd_5 rfl) rfl (Nat.le_of_eq rfl) (hb hby d10_102) rfl e52 (by decide) (by decide) fun T56 Lc56 v56 X56 hQ56 => ?_
  obtain ⟨rfl, Nq56, e56⟩ := hQ56
  have N56 := Fr.app N48 Nq56
  show Go p e below _ (T56.setTop (mkF m 105 _ [(.int iv1), (.int (0 : Int32)), (.ref b30)]))
  have ne_ad1_b30 : ad1 ≠ b30 := Nat.ne_of_lt (Nat.lt_of_lt_of_le (f28.wr W29).lt (Nat.le_of_eq g30.symm))
  have ne_b14_b30 : b14 ≠ b30 := Nat.ne_of_lt (Nat.lt_of_lt_of_le (((((((V14.other W17 (Ne.symm ne_ad1_b14)).ext E18).other W21 (Ne.symm ne_ad1_b14)).ext E22).other W25 (Ne.symm ne_ad1_b14)).ext E26).other W29 (Ne.symm ne_ad1_b14)).lt (Nat.le_of_eq g30.symm))
  have f57 := ((V30.other W33 (Ne.symm ne_ad1_b30)).other W48 (Ne.symm ne_b14_b30))
  obtain ⟨cl58, Ar58, q58, Sz58, Ng58, Hs58, G58⟩ := id f57
  have hin58 : ¬ ((0 : Int32) < 0 ∨ cl58.slots.size ≤ ((0 : Int32)).toNatClampNeg) := inb_of Sz58 ⟨by decide, by decide⟩
  obtain ⟨T59, h59, X59, e59, W59, st59⟩ := stI X56 hx hZ e56 Ar58 (j := (0 : Int32)) hin58 (g := (mkF m 105 #[.val (.ref ad1), .val (.ref ad2), .val (.int (1 : Int32)), .val (.int (0 : Int32))] [(.int iv1), (.int (0 : Int32)), (.ref b30)])) rfl rfl (hb hby d10_105)
  have N59 := Fr.snoc X59 N56 nn_b30
  have old59 := old48.wr W59 nn_b30
  have kp59 := kp48.wr W59 (Or.inr sz_b30)
  have V59 : Arv Z h59 b30 k30 .int (1 : Int32) [(.int iv1)] (.int (0 : Int32)) := Arv.set Ar58 q58 Sz58 Ng58 Hs58 G58 rfl W59 0 rfl (Nat.le_of_ble_eq_true rfl)
  refine Go.fin st59 ?_
  show Go p e below _ (T59.setTop (mkF m 106 _ []))
  refine gs.aloadN X59.here hx (hb hby d10_106) rfl rfl ?_
  have f60 := ((((((F25.ext E26).other W29 (Or.inr (sn62 hw))).ext E30).other W33 (Or.inr (sn63 hw))).other W48 (Or.inl ne_ad1_b14)).other W59 (Or.inl ne_ad1_b30))
  refine gs.getF X59 hx hZ hown (wd hw 106 rfl) Via.refl e59 f60 (hb hby d10_107) fun T61 X61 e61 => ?_
  refine gs.iloadN X61.here hx (hb hby d10_110) rfl ?_
  refine gs.aloadN X61.here hx (hb hby d10_111) rfl rfl ?_
  have f62 := (f49.other W59 (Or.inl ne_ad1_b30))
  refine gs.getF X61 hx hZ hown (wd hw 112 rfl) Via.refl e61 f62 (hb hby d10_112) fun T63 X63 e63 => ?_
  refine gs.iloadN X63.here hx (hb hby d10_115) rfl ?_
  obtain ⟨cl64, Ar64, q64, Sz64, Ng64, Hs64, G64⟩ := id V59
  have hin64 : ¬ ((0 : Int32) < 0 ∨ cl64.slots.size ≤ ((0 : Int32)).toNatClampNeg) := inb_of Sz64 ⟨by decide, by decide⟩
  have hat64 : cl64.slots[((0 : Int32)).toNatClampNeg]? = some (.int iv1) := Has.at Hs64 hin64 rfl
  refine Go.fin (fun t_ k_ => X63.iaload hx (j := (0 : Int32)) (v := (.int iv1)) (by rw [e63]; exact Ar64.1) (State.isArrayOf_alike hZ.alike Ar64.2.1) Ar64.2.2 hin64 hat64 (g := mkF m 116 _ _) rfl rfl (hb hby d10_116) _ k_) ?_
  show Go p e below _ (T63.setTop (mkF m 117 _ [(.int iv1), (.int (0 : Int32)), (.ref b22)]))
  refine gs.iconst 1 X63.here hx (hb hby d10_117) rfl ?_
  refine gs.isub X63.here hx (hb hby d10_118) ?_
  have ne_ad1_b22 : ad1 ≠ b22 := Nat.ne_of_lt (Nat.lt_of_lt_of_le (f20.wr W21).lt (Nat.le_of_eq g22.symm))
  have ne_b14_b22 : b14 ≠ b22 := Nat.ne_of_lt (Nat.lt_of_lt_of_le (((V14.other W17 (Ne.symm ne_ad1_b14)).ext E18).other W21 (Ne.symm ne_ad1_b14)).lt (Nat.le_of_eq g22.symm))
  have ne_b22_b30 : b22 ≠ b30 := Nat.ne_of_lt (Nat.lt_of_lt_of_le (((V22.other W25 (Ne.symm ne_ad1_b22)).ext E26).other W29 (Ne.symm ne_ad1_b22)).lt (Nat.le_of_eq g30.symm))
  have f65 := (((((((V22.other W25 (Ne.symm ne_ad1_b22)).ext E26).other W29 (Ne.symm ne_ad1_b22)).ext E30).other W33 (Ne.symm ne_ad1_b22)).other W48 (Ne.symm ne_b14_b22)).other W59 ne_b22_b30)
  obtain ⟨cl66, Ar66, q66, Sz66, Ng66, Hs66, G66⟩ := id f65
  have hin66 : ¬ ((0 : Int32) < 0 ∨ cl66.slots.size ≤ ((0 : Int32)).toNatClampNeg) := inb_of Sz66 ⟨by decide, by decide⟩
  obtain ⟨T67, h67, X67, e67, W67, st67⟩ := stI X63 hx hZ e63 Ar66 (j := (0 : Int32)) hin66 (g := (mkF m 119 #[.val (.ref ad1), .val (.ref ad2), .val (.int (1 : Int32)), .val (.int (0 : Int32))] [(.int (iv1 - (1 : Int32))), (.int (0 : Int32)), (.ref b22)])) rfl rfl (hb hby d10_119)
  have N67 := Fr.snoc X67 N59 nn_b22
  have old67 := old59.wr W67 nn_b22
  have kp67 := kp59.wr W67 (Or.inr sz_b22)
  have V67 : Arv Z h67 b22 k22 .int (1 : Int32) [(.int (iv1 - (1 : Int32)))] (.int (0 : Int32)) := Arv.set Ar66 q66 Sz66 Ng66 Hs66 G66 rfl W67 0 rfl (Nat.le_of_ble_eq_true rfl)
  refine Go.fin st67 ?_
  show Go p e below _ (T67.setTop (mkF m 120 _ []))
  refine gs.aloadN X67.here hx (hb hby d10_120) rfl rfl ?_
  refine gs.dup X67.here hx (hb hby d10_121) rfl ?_
  have f68 := (((((((((((((((((HF_ad1_Domains_withOneValue.ext E3).other W6 (Or.inr (sn64 hw))).ext E7).other W10 (Or.inr (sn65 hw))).ext E14).other W17 (Or.inr (sn66 hw))).ext E18).other W21 (Or.inr (sn67 hw))).ext E22).other W25 (Or.inr (sn68 hw))).ext E26).other W29 (Or.inr (sn69 hw))).ext E30).other W33 (Or.inr (sn70 hw))).other W48 (Or.inl ne_ad1_b14)).other W59 (Or.inl ne_ad1_b30)).other W67 (Or.inl ne_ad1_b22))
  refine gs.getF X67 hx hZ hown (wd hw 182 rfl) Via.refl e67 f68 (hb hby d10_122) fun T69 X69 e69 => ?_
  refine gs.aloadN X69.here hx (hb hby d10_125) rfl rfl ?_
  have f70 := (f62.other W67 (Or.inl ne_ad1_b22))
  refine gs.getF X69 hx hZ hown (wd hw 112 rfl) Via.refl e69 f70 (hb hby d10_126) fun T71 X71 e71 => ?_
  refine gs.iloadN X71.here hx (hb hby d10_129) rfl ?_
  have f72 := (V59.other W67 (Ne.symm ne_b22_b30))
  obtain ⟨cl73, Ar73, q73, Sz73, Ng73, Hs73, G73⟩ := id f72
  have hin73 : ¬ ((0 : Int32) < 0 ∨ cl73.slots.size ≤ ((0 : Int32)).toNatClampNeg) := inb_of Sz73 ⟨by decide, by decide⟩
  have hat73 : cl73.slots[((0 : Int32)).toNatClampNeg]? = some (.int iv1) := Has.at Hs73 hin73 rfl
  refine Go.fin (fun t_ k_ => X71.iaload hx (j := (0 : Int32)) (v := (.int iv1)) (by rw [e71]; exact Ar73.1) (State.isArrayOf_alike hZ.alike Ar73.2.1) Ar73.2.2 hin73 hat73 (g := mkF m 130 _ _) rfl rfl (hb hby d10_130) _ k_) ?_
  show Go p e below _ (T71.setTop (mkF m 131 _ [(.int iv1), (.int (0 : Int32)), (.ref ad1)]))
  refine gs.iconst 1 X71.here hx (hb hby d10_131) rfl ?_
  have J74 : ∀ z_74 : Int32, Go p e below (Fin1 s below (Q_am10_2 Z u_1 aw0 u_0 kaw0 ad1 ad2 ad3 iv1 ad4 ad5 kc1 h0 n0) (rm 3 7 1093 42).cells (rm 3 7 1093 42).slots) (T71.setTop (mkF m 140 #[.val (.ref ad1), .val (.ref ad2), .val (.int (1 : Int32)), .val (.int (0 : Int32))] [(.int z_74), (.int (0 : Int32)), (.ref ad1)])) := by
    intro z_74
    refine gs.iadd X71.here hx (hb hby d10_140) ?_
    have f75 := ((((f32.wr W33).wr W48).wr W59).wr W67)
    obtain ⟨T76, h76, X76, e76, W76, st76⟩ := putF X71 hx hZ hown (host := "") (Or.inl (wd hw 182 rfl)) Via.refl e71 f68 f75 (Or.inl (wd hw 183 rfl)) (wd hw 77 rfl) (ty := .int) (by decide) rfl rfl (g := (mkF m 141 #[.val (.ref ad1), .val (.ref ad2), .val (.int (1 : Int32)), .val (.int (0 : Int32))] [(.int ((0 : Int32) + z_74)), (.ref ad1)])) rfl rfl (hb hby d10_141)
    have N76 := Fr.snoc X76 N67 nn_ad1
    have old76 := old67.wr W76 nn_ad1
    have kp76 := kp67.wr W76 (Or.inl (List.mem_of_getElem? (i := 0) rfl))
    have F76 := f68.same W76
    refine Go.fin st76 ?_
    show Go p e below _ (T76.setTop (mkF m 144 _ []))
    refine Go.step (fun t_ k_ => XS.iinc X76.here hx rfl (hb hby d10_144) rfl (l' := #[.val (.ref ad1), .val (.ref ad2), .val (.int (1 : Int32)), .val (.int ((0 : Int32) + (1 : Int32)))]) rfl k_) ?_
    show Go p e below _ (T76.setTop (mkF m 147 #[.val (.ref ad1), .val (.ref ad2), .val (.int (1 : Int32)), .val (.int ((0 : Int32) + (1 : Int32)))] []))
    rw [show ((0 : Int32) + (1 : Int32)) = (1 : Int32) from by decide]
    refine gs.goto 67 X76.here hx (hb hby d10_147) rfl ?_
    refine gs.iloadN X76.here hx (hb hby d10_67) rfl ?_
    refine gs.iloadN X76.here hx (hb hby d10_68) rfl ?_
    have hc69_2 : ¬ ((1 : Int32) < (1 : Int32)) := by decide
    refine gs.icmpYes 150 X76.here hx (hb hby d10_69) (flt hc69_2).2.1 rfl ?_
    have ne_b14_b26 : b14 ≠ b26 := Nat.ne_of_lt (Nat.lt_of_lt_of_le (((((V14.other W17 (Ne.symm ne_ad1_b14)).ext E18).other W21 (Ne.symm ne_ad1_b14)).ext E22).other W25 (Ne.symm ne_ad1_b14)).lt (Nat.le_of_eq g26.symm))
    have ne_ad1_b18 : ad1 ≠ b18 := Nat.ne_of_lt (Nat.lt_of_lt_of_le (f16.wr W17).lt (Nat.le_of_eq g18.symm))
    have ne_b18_b26 : b18 ≠ b26 := Nat.ne_of_lt (Nat.lt_of_lt_of_le (((V18.other W21 (Ne.symm ne_ad1_b18)).ext E22).other W25 (Ne.symm ne_ad1_b18)).lt (Nat.le_of_eq g26.symm))
    have ne_b26_b30 : b26 ≠ b30 := Nat.ne_of_lt (Nat.lt_of_lt_of_le (B26.wr W29).lt (Nat.le_of_eq g30.symm))
    have ne_ad1_b3 : ad1 ≠ b3 := Nat.ne_of_lt (Nat.lt_of_lt_of_le HE_ad1.lt (Nat.le_of_eq g3.symm))
    have ne_b3_b26 : b3 ≠ b26 := Nat.ne_of_lt (Nat.lt_of_lt_of_le (((((((((V3.other W6 (Ne.symm ne_ad1_b3)).ext E7).other W10 (Ne.symm ne_ad1_b3)).ext E14).other W17 (Ne.symm ne_ad1_b3)).ext E18).other W21 (Ne.symm ne_ad1_b3)).ext E22).other W25 (Ne.symm ne_ad1_b3)).lt (Nat.le_of_eq g26.symm))
    have ne_b22_b26 : b22 ≠ b26 := Nat.ne_of_lt (Nat.lt_of_lt_of_le (V22.other W25 (Ne.symm ne_ad1_b22)).lt (Nat.le_of_eq g26.symm))
    have ne_b14_b18 : b14 ≠ b18 := Nat.ne_of_lt (Nat.lt_of_lt_of_le (V14.other W17 (Ne.symm ne_ad1_b14)).lt (Nat.le_of_eq g18.symm))
    have ne_b3_b14 : b3 ≠ b14 := Nat.ne_of_lt (Nat.lt_of_lt_of_le (((V3.other W6 (Ne.symm ne_ad1_b3)).ext E7).other W10 (Ne.symm ne_ad1_b3)).lt (Nat.le_of_eq g14.symm))
    have ne_b18_b30 : b18 ≠ b30 := Nat.ne_of_lt (Nat.lt_of_lt_of_le (((((V18.other W21 (Ne.symm ne_ad1_b18)).ext E22).other W25 (Ne.symm ne_ad1_b18)).ext E26).other W29 (Ne.symm ne_ad1_b18)).lt (Nat.le_of_eq g30.symm))
    have ne_b3_b18 : b3 ≠ b18 := Nat.ne_of_lt (Nat.lt_of_lt_of_le (((((V3.other W6 (Ne.symm ne_ad1_b3)).ext E7).other W10 (Ne.symm ne_ad1_b3)).ext E14).other W17 (Ne.symm ne_ad1_b3)).lt (Nat.le_of_eq g18.symm))
    have ne_b18_b22 : b18 ≠ b22 := Nat.ne_of_lt (Nat.lt_of_lt_of_le (V18.other W21 (Ne.symm ne_ad1_b18)).lt (Nat.le_of_eq g22.symm))
    have ne_b3_b30 : b3 ≠ b30 := Nat.ne_of_lt (Nat.lt_of_lt_of_le (((((((((((V3.other W6 (Ne.symm ne_ad1_b3)).ext E7).other W10 (Ne.symm ne_ad1_b3)).ext E14).other W17 (Ne.symm ne_ad1_b3)).ext E18).other W21 (Ne.symm ne_ad1_b3)).ext E22).other W25 (Ne.symm ne_ad1_b3)).ext E26).other W29 (Ne.symm ne_ad1_b3)).lt (Nat.le_of_eq g30.symm))
    have ne_b3_b22 : b3 ≠ b22 := Nat.ne_of_lt (Nat.lt_of_lt_of_le (((((((V3.other W6 (Ne.symm ne_ad1_b3)).ext E7).other W10 (Ne.symm ne_ad1_b3)).ext E14).other W17 (Ne.symm ne_ad1_b3)).ext E18).other W21 (Ne.symm ne_ad1_b3)).lt (Nat.le_of_eq g22.symm))
    have f77 := (f75.wr W76)
    have f78 := ((((((F29.ext E30).other W33 (Or.inr (sn34 hw))).other W48 (Or.inl ne_ad1_b14)).other W59 (Or.inl ne_ad1_b30)).other W67 (Or.inl ne_ad1_b22)).other W76 (Or.inr (sn73 hw)))
    have f79 := (((f51.other W59 (Or.inl ne_ad1_b30)).other W67 (Or.inl ne_ad1_b22)).other W76 (Or.inr (sn74 hw)))
    have f80 := ((((((((((F21.ext E22).other W25 (Or.inr (sn39 hw))).ext E26).other W29 (Or.inr (sn40 hw))).ext E30).other W33 (Or.inr (sn41 hw))).other W48 (Or.inl ne_ad1_b14)).other W59 (Or.inl ne_ad1_b30)).other W67 (Or.inl ne_ad1_b22)).other W76 (Or.inr (sn75 hw)))
    have f81 := ((((((((((((((((((HF_ad1_Domains_resized.ext E3).other W6 (Or.inr (sn42 hw))).ext E7).other W10 (Or.inr (sn43 hw))).ext E14).other W17 (Or.inr (sn44 hw))).ext E18).other W21 (Or.inr (sn45 hw))).ext E22).other W25 (Or.inr (sn46 hw))).ext E26).other W29 (Or.inr (sn47 hw))).ext E30).other W33 (Or.inr (sn48 hw))).other W48 (Or.inl ne_ad1_b14)).other W59 (Or.inl ne_ad1_b30)).other W67 (Or.inl ne_ad1_b22)).other W76 (Or.inr (sn76 hw)))
    have f82 := (f70.other W76 (Or.inr (sn77 hw)))
    have f83 := ((((((((((((((((F6.ext E7).other W10 (Or.inr (sn49 hw))).ext E14).other W17 (Or.inr (sn50 hw))).ext E18).other W21 (Or.inr (sn51 hw))).ext E22).other W25 (Or.inr (sn52 hw))).ext E26).other W29 (Or.inr (sn53 hw))).ext E30).other W33 (Or.inr (sn54 hw))).other W48 (Or.inl ne_ad1_b14)).other W59 (Or.inl ne_ad1_b30)).other W67 (Or.inl ne_ad1_b22)).other W76 (Or.inr (sn78 hw)))
    have f84 := ((((((((((((((((((HF_ad1_Domains_trailSize.ext E3).other W6 (Or.inr (sn55 hw))).ext E7).other W10 (Or.inr (sn56 hw))).ext E14).other W17 (Or.inr (sn57 hw))).ext E18).other W21 (Or.inr (sn58 hw))).ext E22).other W25 (Or.inr (sn59 hw))).ext E26).other W29 (Or.inr (sn60 hw))).ext E30).other W33 (Or.inr (sn61 hw))).other W48 (Or.inl ne_ad1_b14)).other W59 (Or.inl ne_ad1_b30)).other W67 (Or.inl ne_ad1_b22)).other W76 (Or.inr (sn79 hw)))
    have f85 := ((f60.other W67 (Or.inl ne_ad1_b22)).other W76 (Or.inr (sn80 hw)))
    have f86 := (((((((B26.wr W29).ext E30).wr W33).wr W48).wr W59).wr W67).wr W76)
    have ne_ad1_b26 : ad1 ≠ b26 := Nat.ne_of_lt (Nat.lt_of_lt_of_le (f24.wr W25).lt (Nat.le_of_eq g26.symm))
    have f87 := (((((((V26.other W29 (Ne.symm ne_ad1_b26)).ext E30).other W33 (Ne.symm ne_ad1_b26)).other W48 (Ne.symm ne_b14_b26)).other W59 ne_b26_b30).other W67 (Ne.symm ne_b22_b26)).other W76 (Ne.symm ne_ad1_b26))
    have f88 := (((V48.other W59 ne_b14_b30).other W67 ne_b14_b22).other W76 (Ne.symm ne_ad1_b14))
    have f89 := (((((((((((V18.other W21 (Ne.symm ne_ad1_b18)).ext E22).other W25 (Ne.symm ne_ad1_b18)).ext E26).other W29 (Ne.symm ne_ad1_b18)).ext E30).other W33 (Ne.symm ne_ad1_b18)).other W48 (Ne.symm ne_b14_b18)).other W59 ne_b18_b30).other W67 ne_b18_b22).other W76 (Ne.symm ne_ad1_b18))
    have f90 := (f72.other W76 (Ne.symm ne_ad1_b30))
    have f91 := (((((((((((((((((V3.other W6 (Ne.symm ne_ad1_b3)).ext E7).other W10 (Ne.symm ne_ad1_b3)).ext E14).other W17 (Ne.symm ne_ad1_b3)).ext E18).other W21 (Ne.symm ne_ad1_b3)).ext E22).other W25 (Ne.symm ne_ad1_b3)).ext E26).other W29 (Ne.symm ne_ad1_b3)).ext E30).other W33 (Ne.symm ne_ad1_b3)).other W48 ne_b3_b14).other W59 ne_b3_b30).other W67 ne_b3_b22).other W76 (Ne.symm ne_ad1_b3))
    have f92 := (V67.other W76 (Ne.symm ne_ad1_b22))
    refine Go.retV X76 hx Bd.returns Bd.notSynchronized (hb hby d10_150) (by rw [e76]; exact ⟨b26, b14, b18, b30, b3, b22, k26, k14, k18, k30, k3, k22, (((0 : Int32) + z_74)), rfl, sz_b26, sz_b14, sz_b18, sz_b30, sz_b3, sz_b22, (Ne.symm ne_b14_b26), (Ne.symm ne_b18_b26), ne_b26_b30, (Ne.symm ne_b3_b26), (Ne.symm ne_b22_b26), ne_b14_b18, ne_b14_b30, (Ne.symm ne_b3_b14), ne_b14_b22, ne_b18_b30, (Ne.symm ne_b3_b18), ne_b18_b22, (Ne.symm ne_b3_b30), (Ne.symm ne_b22_b30), ne_b3_b22, N76, kp76, f77, f78, f79, f80, f81, f82, f83, f84, f85, F76, f86, f87, f88, f89, f90, f91, f92, O26, O14⟩) (by decide) (by decide)
  by_cases hc132 : iv1 = (1 : Int32)
  case pos =>
    refine gs.icmpNo X71.here hx (hb hby d10_132) (teq hc132).2 ?_
    refine gs.iconst 1 X71.here hx (hb hby d10_135) rfl ?_
    refine gs.goto 140 X71.here hx (hb hby d10_136) rfl ?_
    exact J74 _
  case neg =>
    refine gs.icmpYes 139 X71.here hx (hb hby d10_132) (feq hc132).2 rfl ?_
    refine gs.iconst 0 X71.here hx (hb hby d10_139) rfl ?_
    exact J74 _
theorem d12_21 : decode c_12 21 = .ok (.aload_n 3, 1) := by decide +kernel
theorem d12_22 : decode c_12 22 = .ok (.iload 5, 2) := by decide +kernel
theorem d12_24 : decode c_12 24 = .ok (.iaload, 1) := by decide +kernel
theorem d12_25 : decode c_12 25 = .ok (.istore 6, 2) := by decide +kernel
theorem d12_27 : decode c_12 27 = .ok (.lload_n 1, 1) := by decide +kernel
theorem d12_28 : decode c_12 28 = .ok (.iload 6, 2) := by decide +kernel
theorem d12_30 : decode c_12 30 = .ok (.i2l, 1) := by decide +kernel
theorem d12_31 : decode c_12 31 = .ok (.ladd, 1) := by decide +kernel
theorem d12_32 : decode c_12 32 = .ok (.lstore_n 1, 1) := by decide +kernel
theorem d12_33 : decode c_12 33 = .ok (.iinc 5 1, 3) := by decide +kernel
theorem d12_36 : decode c_12 36 = .ok (.goto (-22), 3) := by decide +kernel
def Q_am12_2 (Z : State) (u_1 : Addr) (aw0 : Addr) (u_0 : ClassId) (kaw0 : ClassId) (ad1 : Addr) (ad7 : Addr) (kc1 : ClassId) (fv3 : Nat → Int32) (h0 : Heap) (n0 : Nat) (v : Option Value) (h : Heap) (L : List Loc) : Prop := v = some (.long ((0 : Int64) + ((fv3 ((0 : Int32)).toNatClampNeg).toInt64))) ∧ Fr n0 L ∧ h = h0
set_option maxRecDepth 65536 in
set_option maxHeartbeats 40000000 in
theorem am12_2 (l : Launch) (Z : State) (a0 : Array Value) (hw : ∀ d ∈ tables_1, d.before a0 Z = true) (ws : List Jvm.Cond) (u_1 : Addr) (aw0 : Addr) (u_0 : ClassId) (kaw0 : ClassId) (HW : Wd Z u_1 aw0 u_0 kaw0) (ad1 : Addr) (ad7 : Addr) (kc1 : ClassId) (fv3 : Nat → Int32) (h0 : Heap) (n0 : Nat) (Ol : Old Z n0 h0) (HF_ad1_Domains_sizes : Fld Z h0 ad1 "com/example/monarc/monarc/Domains" "sizes" "[I" (.ref ad7)) (HG_ad7 : Ari Z h0 ad7 kc1 (1 : Int32) fv3) (as0 : 0 ≤ ((0 : Int32)).toInt ∧ ((0 : Int32)).toInt < ((1 : Int32)).toInt) :
    MetFree l y_12 (head1 (Jvm.Cond.code y_12 prog_11_method_5_code 7 (some .long) :: ws) (rm 0 0 0 0)) (fun a_ U_ => a_ = #[(.ref ad1)] ∧ Z.Warmed39 U_.vm ∧ U_.heap = h0) (fun _ _ _ _ _ => True) (fun _ U_ o_ V_ => ∃ v_ L_, o_ = .returned v_ ∧ Q_am12_2 Z u_1 aw0 u_0 kaw0 ad1 ad7 kc1 fv3 h0 n0 v_ V_.heap L_ ∧ FrameEnd U_ o_ V_ L_ (rm 0 0 0 0).cells (rm 0 0 0 0).slots) := by
  refine MetFree.of_bodySF (plainFor_of_name pn_7) hisR ?_
  intro p e s m args below meth c s₁ Bd hml0 hP hK
  obtain ⟨rfl, hZ, hh⟩ := hP
  have hx := Bd.exec
  have hby := Bd.bytes
  have hml : c.maxLocals = 7 := hml0
  have hown : s.vm.findClass "com/example/monarc/monarc/Domains" = some m.cls := findClass_of_methodNamed Bd.named
  have hnm := (name_of_methodNamed Bd.named Bd.method).1
  have X0 : Stand p l e (rm 0 0 0 0) s m #[(.ref ad1)] below meth c s₁ [] 0 0 := Stand.of_body Bd
  have e0 : s₁.heap = h0 := by rw [← hh, Bd.state]; rfl
  have N0 := Fr.nil n0
  have kp0 := Keep.refl h0 []
  show Go p e below (Fin1 s below (Q_am12_2 Z u_1 aw0 u_0 kaw0 ad1 ad7 kc1 fv3 h0 n0) (rm 0 0 0 0).cells (rm 0 0 0 0).slots) _
  refine Go.step (fun t_ k_ => castTop (ef_am12_1 m ad1) k_) ?_
  obtain ⟨Eu_1, Su_1, Eaw0, Saw0, Au_1, Aaw0⟩ := id HW
  show Go p e below _ (s₁.setTop (mkF m 0 #[.val (.ref ad1), .unset, .unset, .unset, .unset, .unset, .unset] []))
  refine Go.fin (fun t_ k_ => XS.lconst X0.here hx rfl (hb hby d12_0) k_) ?_
  show Go p e below _ (s₁.setTop (mkF m 1 _ [(.long (0 : Int64))]))
  refine gs.lstoreN X0.here hx (hb hby d12_1) (l' := #[.val (.ref ad1), .val (.long (0 : Int64)), .second, .unset, .unset, .unset, .unset]) rfl ?_
  refine gs.aloadN X0.here hx (hb hby d12_2) rfl rfl ?_
  refine gs.getF X0 hx hZ hown (wd hw 112 rfl) Via.refl e0 HF_ad1_Domains_sizes (hb hby d12_3) fun T1 X1 e1 => ?_
  refine gs.astoreN X1.here hx (hb hby d12_6) rfl (l' := #[.val (.ref ad1), .val (.long (0 : Int64)), .second, .val (.ref ad7), .unset, .unset, .unset]) rfl ?_
  refine gs.aloadN X1.here hx (hb hby d12_7) rfl rfl ?_
  obtain ⟨cl2, Ar2, -, Sz2, Ng2, -⟩ := id HG_ad7
  refine Go.fin (fun t_ k_ => X1.arraylength hx (by rw [e1]; exact Ar2.1) (State.isArrayOf_alike hZ.alike Ar2.2.1) (g := mkF m 8 _ _) rfl rfl (hb hby d12_8) _ k_) ?_
  rw [len_of Sz2 Ng2]
  show Go p e below _ (T1.setTop (mkF m 9 _ [(.int (1 : Int32))]))
  refine gs.istore X1.here hx (hb hby d12_9) (l' := #[.val (.ref ad1), .val (.long (0 : Int64)), .second, .val (.ref ad7), .val (.int (1 : Int32)), .unset, .unset]) rfl ?_
  refine gs.iconst 0 X1.here hx (hb hby d12_11) rfl ?_
  refine gs.istore X1.here hx (hb hby d12_12) (l' := #[.val (.ref ad1), .val (.long (0 : Int64)), .second, .val (.ref ad7), .val (.int (1 : Int32)), .val (.int (0 : Int32)), .unset]) rfl ?_
  refine gs.iload X1.here hx (hb hby d12_14) rfl ?_
  refine gs.iload X1.here hx (hb hby d12_16) rfl ?_
  have hc18 : (0 : Int32) < (1 : Int32) := by decide
  refine gs.icmpNo X1.here hx (hb hby d12_18) (tlt hc18).2.1 ?_
  refine gs.aloadN X1.here hx (hb hby d12_21) rfl rfl ?_
  refine gs.iload X1.here hx (hb hby d12_22) rfl ?_
  obtain ⟨cl3, Ar3, q3, Sz3, Ng3, Hs3⟩ := id HG_ad7
  have hin3 : ¬ ((0 : Int32) < 0 ∨ cl3.slots.size ≤ ((0 : Int32)).toNatClampNeg) := inb_of Sz3 (inb_int as0)
  have hat3 : cl3.slots[((0 : Int32)).toNatClampNeg]? = some (.int (fv3 ((0 : Int32)).toNatClampNeg)) := Hs3 _ (lt_of_in hin3)
  refine Go.fin (fun t_ k_ => X1.iaload hx (j := (0 : Int32)) (v := (.int (fv3 ((0 : Int32)).toNatClampNeg))) (by rw [e1]; exact Ar3.1) (State.isArrayOf_alike hZ.alike Ar3.2.1) Ar3.2.2 hin3 hat3 (g := mkF m 24 _ _) rfl rfl (hb hby d12_24) _ k_) ?_
  show Go p e below _ (T1.setTop (mkF m 25 _ [(.int (fv3 ((0 : Int32)).toNatClampNeg))]))
  refine gs.istore X1.here hx (hb hby d12_25) (l' := #[.val (.ref ad1), .val (.long (0 : Int64)), .second, .val (.ref ad7), .val (.int (1 : Int32)), .val (.int (0 : Int32)), .val (.int (fv3 ((0 : Int32)).toNatClampNeg))]) rfl ?_
  refine gs.lloadN X1.here hx (hb hby d12_27) rfl ?_
  refine gs.iload X1.here hx (hb hby d12_28) rfl ?_
  refine Go.fin (fun t_ k_ => XS.i2l X1.here hx rfl (hb hby d12_30) rfl k_) ?_
  show Go p e below _ (T1.setTop (mkF m 31 _ [(.long ((fv3 ((0 : Int32)).toNatClampNeg).toInt64)), (.long (0 : Int64))]))
  refine gs.ladd X1.here hx (hb hby d12_31) ?_
  refine gs.lstoreN X1.here hx (hb hby d12_32) (l' := #[.val (.ref ad1), .val (.long ((0 : Int64) + ((fv3 ((0 : Int32)).toNatClampNeg).toInt64))), .second, .val (.ref ad7), .val (.int (1 : Int32)), .val (.int (0 : Int32)), .val (.int (fv3 ((0 : Int32)).toNatClampNeg))]) rfl ?_
  refine Go.step (fun t_ k_ => XS.iinc X1.here hx rfl (hb hby d12_33) rfl (l' := #[.val (.ref ad1), .val (.long ((0 : Int64) + ((fv3 ((0 : Int32)).toNatClampNeg).toInt64))), .second, .val (.ref ad7), .val (.int (1 : Int32)), .val (.int ((0 : Int32) + (1 : Int32))), .val (.int (fv3 ((0 : Int32)).toNatClampNeg))]) rfl k_) ?_
  show Go p e below _ (T1.setTop (mkF m 36 #[.val (.ref ad1), .val (.long ((0 : Int64) + ((fv3 ((0 : Int32)).toNatClampNeg).toInt64))), .second, .val (.ref ad7), .val (.int (1 : Int32)), .val (.int ((0 : Int32) + (1 : Int32))), .val (.int (fv3 ((0 : Int32)).toNatClampNeg))] []))
  rw [show ((0 : Int32) + (1 : Int32)) = (1 : Int32) from by decide]
  refine gs.goto 14 X1.here hx (hb hby d12_36) rfl ?_
  refine gs.iload X1.here hx (hb hby d12_14) rfl ?_
  refine gs.iload X1.here hx (hb hby d12_16) rfl ?_
  have hc18_2 : ¬ ((1 : Int32) < (1 : Int32)) := by decide
  refine gs.icmpYes 39 X1.here hx (hb hby d12_18) (flt hc18_2).2.1 rfl ?_
  refine gs.lloadN X1.here hx (hb hby d12_39) rfl ?_
  refine Go.retJ X1 hx Bd.returns Bd.notSynchronized (hb hby d12_40) (by rw [e1]; exact ⟨rfl, N0, rfl⟩) (by decide) (by decide)
theorem pd_16 : parseMethodDescriptor "(JJ)J" = some ⟨[.long, .long], some .long⟩ := by decide +kernel
theorem d26_0 : decode c_26 0 = .ok (.aload_n 0, 1) := by decide +kernel
theorem d26_1 : decode c_26 1 = .ok (.getfield 25, 3) := by decide +kernel
theorem d26_4 : decode c_26 4 = .ok (.iload_n 1, 1) := by decide +kernel
theorem d26_5 : decode c_26 5 = .ok (.aaload, 1) := by decide +kernel
theorem d26_6 : decode c_26 6 = .ok (.lload_n 2, 1) := by decide +kernel
theorem d26_7 : decode c_26 7 = .ok (.invokevirtual 137, 3) := by decide +kernel
theorem d27_0 : decode c_27 0 = .ok (.ldc2_w 72, 3) := by decide +kernel
theorem d27_3 : decode c_27 3 = .ok (.lload_n 1, 1) := by decide +kernel
theorem d27_4 : decode c_27 4 = .ok (.ldc2_w 74, 3) := by decide +kernel
theorem d27_7 : decode c_27 7 = .ok (.invokestatic 76, 3) := by decide +kernel
theorem d27_10 : decode c_27 10 = .ok (.invokestatic 82, 3) := by decide +kernel
theorem d27_13 : decode c_27 13 = .ok (.lstore_n 3, 1) := by decide +kernel
theorem d27_14 : decode c_27 14 = .ok (.aload_n 0, 1) := by decide +kernel
theorem d27_15 : decode c_27 15 = .ok (.getfield 27, 3) := by decide +kernel
theorem d27_18 : decode c_27 18 = .ok (.ifnonnull 24, 3) := by decide +kernel
theorem d27_21 : decode c_27 21 = .ok (.aload_n 0, 1) := by decide +kernel
theorem d27_22 : decode c_27 22 = .ok (.getfield 24, 3) := by decide +kernel
theorem d27_25 : decode c_27 25 = .ok (.i2l, 1) := by decide +kernel
theorem d27_26 : decode c_27 26 = .ok (.lconst 0, 1) := by decide +kernel
theorem d27_27 : decode c_27 27 = .ok (.lload_n 3, 1) := by decide +kernel
theorem d27_28 : decode c_27 28 = .ok (.aload_n 0, 1) := by decide +kernel
theorem d27_29 : decode c_27 29 = .ok (.getfield 20, 3) := by decide +kernel
theorem d27_32 : decode c_27 32 = .ok (.i2l, 1) := by decide +kernel
theorem d27_33 : decode c_27 33 = .ok (.lsub, 1) := by decide +kernel
theorem d27_34 : decode c_27 34 = .ok (.invokestatic 82, 3) := by decide +kernel
theorem d27_37 : decode c_27 37 = .ok (.invokestatic 76, 3) := by decide +kernel
theorem d27_40 : decode c_27 40 = .ok (.l2i, 1) := by decide +kernel
theorem d27_41 : decode c_27 41 = .ok (.ireturn, 1) := by decide +kernel
theorem ef_am27_1 (m : MethodId) (x0 : Addr) (x1 : Int64)  : entryFrame m #[(.ref x0), (.long x1)] 6 = mkF m 0 #[.val (.ref x0), .val (.long x1), .second, .unset, .unset, .unset] [] := by first | (simp [entryFrame, mkF, argsToLocals, Value.category]; done) | rfl
def Q_am27_1 (Z : State) (u_1 : Addr) (aw0 : Addr) (u_0 : ClassId) (kaw0 : ClassId) (ad1 : Addr) (lv1 : Int64) (iv2 : Int32) (iv3 : Int32) (h0 : Heap) (n0 : Nat) (v : Option Value) (h : Heap) (L : List Loc) : Prop := v = some (.int iv3) ∧ Fr n0 L ∧ h = h0
set_option maxRecDepth 65536 in
set_option maxHeartbeats 40000000 in
theorem am27_1 (l : Launch) (Z : State) (a0 : Array Value) (hw : ∀ d ∈ tables_1, d.before a0 Z = true) (ws : List Jvm.Cond) (u_1 : Addr) (aw0 : Addr) (u_0 : ClassId) (kaw0 : ClassId) (HW : Wd Z u_1 aw0 u_0 kaw0) (ad1 : Addr) (lv1 : Int64) (iv2 : Int32) (iv3 : Int32) (h0 : Heap) (n0 : Nat) (Ol : Old Z n0 h0) (HF_ad1_InitialDomain_lowest : Fld Z h0 ad1 "com/example/monarc/monarc/InitialDomain" "lowest" "I" (.int (0 : Int32))) (HF_ad1_InitialDomain_size : Fld Z h0 ad1 "com/example/monarc/monarc/InitialDomain" "size" "I" (.int iv2)) (HF_ad1_InitialDomain_values : Fld Z h0 ad1 "com/example/monarc/monarc/InitialDomain" "values" "[I" .null) (eq0 : ((mnL (iv2.toInt64) (mxL (0 : Int64) ((mxL (-2147483648 : Int64) (mnL lv1 (2147483648 : Int64))) - (0 : Int64)))).toInt32) = iv3) :
    MetFree l y_27 (head1 (Jvm.Cond.code y_27 prog_20_method_8_code 6 (some .int) :: ws) (rm 1 0 0 17)) (fun a_ U_ => a_ = #[(.ref ad1), (.long lv1)] ∧ Z.Warmed39 U_.vm ∧ U_.heap = h0) (fun _ _ _ _ _ => True) (fun _ U_ o_ V_ => ∃ v_ L_, o_ = .returned v_ ∧ Q_am27_1 Z u_1 aw0 u_0 kaw0 ad1 lv1 iv2 iv3 h0 n0 v_ V_.heap L_ ∧ FrameEnd U_ o_ V_ L_ (rm 1 0 0 17).cells (rm 1 0 0 17).slots) := by
  refine MetFree.of_bodySF (plainFor_of_name pn_1) hisR ?_
  intro p e s m args below meth c s₁ Bd hml0 hP hK
  obtain ⟨rfl, hZ, hh⟩ := hP
  have hx := Bd.exec
  have hby := Bd.bytes
  have hml : c.maxLocals = 6 := hml0
  have hown : s.vm.findClass "com/example/monarc/monarc/InitialDomain" = some m.cls := findClass_of_methodNamed Bd.named
  have hnm := (name_of_methodNamed Bd.named Bd.method).1
  have X0 : Stand p l e (rm 1 0 0 17) s m #[(.ref ad1), (.long lv1)] below meth c s₁ [] 0 0 := Stand.of_body Bd
  have e0 : s₁.heap = h0 := by rw [← hh, Bd.state]; rfl
  have N0 := Fr.nil n0
  have kp0 := Keep.refl h0 []
  show Go p e below (Fin1 s below (Q_am27_1 Z u_1 aw0 u_0 kaw0 ad1 lv1 iv2 iv3 h0 n0) (rm 1 0 0 17).cells (rm 1 0 0 17).slots) _
  refine Go.step (fun t_ k_ => castTop (ef_am27_1 m ad1 lv1) k_) ?_
  obtain ⟨Eu_1, Su_1, Eaw0, Saw0, Au_1, Aaw0⟩ := id HW
  show Go p e below _ (s₁.setTop (mkF m 0 #[.val (.ref ad1), .val (.long lv1), .second, .unset, .unset, .unset] []))
  refine Go.fin (fun t_ k_ => X0.ldc2Long hx hown (mvT hZ (wd hw 200 rfl)) (g := mkF m 0 _ _) rfl (hb hby d27_0) _ k_) ?_
  show Go p e below _ (s₁.setTop (mkF m 3 _ [(.long (-2147483648 : Int64))]))
  refine gs.lloadN X0.here hx (hb hby d27_3) rfl ?_
  refine Go.fin (fun t_ k_ => X0.ldc2Long hx hown (mvT hZ (wd hw 201 rfl)) (g := mkF m 4 _ _) rfl (hb hby d27_4) _ k_) ?_
  show Go p e below _ (s₁.setTop (mkF m 7 _ [(.long (2147483648 : Int64)), (.long lv1), (.long (-2147483648 : Int64))]))
  refine gs.stat 2 X0 hx hZ hown (rm25 l Z a0 hw [] u_1 aw0 u_0 kaw0 HW lv1 (2147483648 : Int64) (mnL lv1 (2147483648 : Int64)) h0 n0 Ol rfl) (wd hw 189 rfl) (wd hw 143 rfl) (wd hw 202 rfl) (wd hw 188 rfl) (by decide) (by decide) (by decide) (by rw [hml]; rfl) [(.long lv1), (.long (2147483648 : Int64))] (lenOf pd_16 rfl) rfl (Nat.le_of_eq rfl) (hb hby d27_7) rfl e0 (by decide) (by decide) fun T1 Lc1 v1 X1 hQ1 => ?_
  obtain ⟨rfl, Nq1, e1⟩ := hQ1
  have N1 := Fr.app N0 Nq1
  show Go p e below _ (T1.setTop (mkF m 10 _ [(.long (mnL lv1 (2147483648 : Int64))), (.long (-2147483648 : Int64))]))
  refine gs.stat 0 X1 hx hZ hown (rm24 l Z a0 hw [] u_1 aw0 u_0 kaw0 HW (-2147483648 : Int64) (mnL lv1 (2147483648 : Int64)) (mxL (-2147483648 : Int64) (mnL lv1 (2147483648 : Int64))) h0 n0 Ol rfl) (wd hw 186 rfl) (wd hw 143 rfl) (wd hw 203 rfl) (wd hw 185 rfl) (by decide) (by decide) (by decide) (by rw [hml]; rfl) [(.long (-2147483648 : Int64)), (.long (mnL lv1 (2147483648 : Int64)))] (lenOf pd_16 rfl) rfl (Nat.le_of_eq rfl) (hb hby d27_10) rfl e1 (by decide) (by decide) fun T2 Lc2 v2 X2 hQ2 => ?_
  obtain ⟨rfl, Nq2, e2⟩ := hQ2
  have N2 := Fr.app N1 Nq2
  show Go p e below _ (T2.setTop (mkF m 13 _ [(.long (mxL (-2147483648 : Int64) (mnL lv1 (2147483648 : Int64))))]))
  refine gs.lstoreN X2.here hx (hb hby d27_13) (l' := #[.val (.ref ad1), .val (.long lv1), .second, .val (.long (mxL (-2147483648 : Int64) (mnL lv1 (2147483648 : Int64)))), .second, .unset]) rfl ?_
  refine gs.aloadN X2.here hx (hb hby d27_14) rfl rfl ?_
  refine gs.getF X2 hx hZ hown (wd hw 22 rfl) Via.refl e2 HF_ad1_InitialDomain_values (hb hby d27_15) fun T3 X3 e3 => ?_
  refine Go.fin (fun t_ k_ => XS.ifnonnullNo X3.here hx rfl (hb hby d27_18) rfl k_) ?_
  show Go p e below _ (T3.setTop (mkF m 21 _ []))
  refine gs.aloadN X3.here hx (hb hby d27_21) rfl rfl ?_
  refine gs.getF X3 hx hZ hown (wd hw 20 rfl) Via.refl e3 HF_ad1_InitialDomain_size (hb hby d27_22) fun T4 X4 e4 => ?_
  refine Go.fin (fun t_ k_ => XS.i2l X4.here hx rfl (hb hby d27_25) rfl k_) ?_
  show Go p e below _ (T4.setTop (mkF m 26 _ [(.long (iv2.toInt64))]))
  refine Go.fin (fun t_ k_ => XS.lconst X4.here hx rfl (hb hby d27_26) k_) ?_
  show Go p e below _ (T4.setTop (mkF m 27 _ [(.long (0 : Int64)), (.long (iv2.toInt64))]))
  refine gs.lloadN X4.here hx (hb hby d27_27) rfl ?_
  refine gs.aloadN X4.here hx (hb hby d27_28) rfl rfl ?_
  refine gs.getF X4 hx hZ hown (wd hw 18 rfl) Via.refl e4 HF_ad1_InitialDomain_lowest (hb hby d27_29) fun T5 X5 e5 => ?_
  refine Go.fin (fun t_ k_ => XS.i2l X5.here hx rfl (hb hby d27_32) rfl k_) ?_
  show Go p e below _ (T5.setTop (mkF m 33 _ [(.long ((0 : Int32).toInt64)), (.long (mxL (-2147483648 : Int64) (mnL lv1 (2147483648 : Int64)))), (.long (0 : Int64)), (.long (iv2.toInt64))]))
  rw [show ((0 : Int32).toInt64) = (0 : Int64) from by decide]
  refine gs.lsub X5.here hx (hb hby d27_33) ?_
  refine gs.stat 2 X5 hx hZ hown (rm24 l Z a0 hw [] u_1 aw0 u_0 kaw0 HW (0 : Int64) ((mxL (-2147483648 : Int64) (mnL lv1 (2147483648 : Int64))) - (0 : Int64)) (mxL (0 : Int64) ((mxL (-2147483648 : Int64) (mnL lv1 (2147483648 : Int64))) - (0 : Int64))) h0 n0 Ol rfl) (wd hw 186 rfl) (wd hw 143 rfl) (wd hw 203 rfl) (wd hw 185 rfl) (by decide) (by decide) (by decide) (by rw [hml]; rfl) [(.long (0 : Int64)), (.long ((mxL (-2147483648 : Int64) (mnL lv1 (2147483648 : Int64))) - (0 : Int64)))] (lenOf pd_16 rfl) rfl (Nat.le_of_eq rfl) (hb hby d27_34) rfl e5 (by decide) (by decide) fun T6 Lc6 v6 X6 hQ6 => ?_
  obtain ⟨rfl, Nq6, e6⟩ := hQ6
  have N6 := Fr.app N2 Nq6
  show Go p e below _ (T6.setTop (mkF m 37 _ [(.long (mxL (0 : Int64) ((mxL (-2147483648 : Int64) (mnL lv1 (2147483648 : Int64))) - (0 : Int64)))), (.long (iv2.toInt64))]))
  refine gs.stat 0 X6 hx hZ hown (rm25 l Z a0 hw [] u_1 aw0 u_0 kaw0 HW (iv2.toInt64) (mxL (0 : Int64) ((mxL (-2147483648 : Int64) (mnL lv1 (2147483648 : Int64))) - (0 : Int64))) (mnL (iv2.toInt64) (mxL (0 : Int64) ((mxL (-2147483648 : Int64) (mnL lv1 (2147483648 : Int64))) - (0 : Int64)))) h0 n0 Ol rfl) (wd hw 189 rfl) (wd hw 143 rfl) (wd hw 202 rfl) (wd hw 188 rfl) (by decide) (by decide) (by decide) (by rw [hml]; rfl) [(.long (iv2.toInt64)), (.long (mxL (0 : Int64) ((mxL (-2147483648 : Int64) (mnL lv1 (2147483648 : Int64))) - (0 : Int64))))] (lenOf pd_16 rfl) rfl (Nat.le_of_eq rfl) (hb hby d27_37) rfl e6 (by decide) (by decide) fun T7 Lc7 v7 X7 hQ7 => ?_
  obtain ⟨rfl, Nq7, e7⟩ := hQ7
  have N7 := Fr.app N6 Nq7
  show Go p e below _ (T7.setTop (mkF m 40 _ [(.long (mnL (iv2.toInt64) (mxL (0 : Int64) ((mxL (-2147483648 : Int64) (mnL lv1 (2147483648 : Int64))) - (0 : Int64)))))]))
  refine Go.fin (fun t_ k_ => XS.l2i X7.here hx rfl (hb hby d27_40) rfl k_) ?_
  show Go p e below _ (T7.setTop (mkF m 41 _ [(.int ((mnL (iv2.toInt64) (mxL (0 : Int64) ((mxL (-2147483648 : Int64) (mnL lv1 (2147483648 : Int64))) - (0 : Int64)))).toInt32))]))
  rw [show ((mnL (iv2.toInt64) (mxL (0 : Int64) ((mxL (-2147483648 : Int64) (mnL lv1 (2147483648 : Int64))) - (0 : Int64)))).toInt32) = iv3 from eq0]
  refine Go.retI X7 hx Bd.returns Bd.notSynchronized (hb hby d27_41) (by rw [e7]; exact ⟨rfl, N7, rfl⟩) (by decide) (by decide)
theorem pd_17 : parseMethodDescriptor "(J)I" = some ⟨[.long], some .int⟩ := by decide +kernel
theorem d26_10 : decode c_26 10 = .ok (.istore 4, 2) := by decide +kernel
theorem d26_12 : decode c_26 12 = .ok (.aload_n 0, 1) := by decide +kernel
theorem d26_13 : decode c_26 13 = .ok (.getfield 40, 3) := by decide +kernel
theorem d26_16 : decode c_26 16 = .ok (.iload_n 1, 1) := by decide +kernel
theorem d26_17 : decode c_26 17 = .ok (.iaload, 1) := by decide +kernel
theorem d26_18 : decode c_26 18 = .ok (.ifCond .le 21, 3) := by decide +kernel
theorem d26_21 : decode c_26 21 = .ok (.iload 4, 2) := by decide +kernel
theorem d26_23 : decode c_26 23 = .ok (.aload_n 0, 1) := by decide +kernel
theorem d26_24 : decode c_26 24 = .ok (.getfield 29, 3) := by decide +kernel
theorem d26_27 : decode c_26 27 = .ok (.iload_n 1, 1) := by decide +kernel
theorem d26_28 : decode c_26 28 = .ok (.iaload, 1) := by decide +kernel
theorem d26_29 : decode c_26 29 = .ok (.if_icmp .le 10, 3) := by decide +kernel
theorem d26_32 : decode c_26 32 = .ok (.aload_n 0, 1) := by decide +kernel
theorem d26_33 : decode c_26 33 = .ok (.iload_n 1, 1) := by decide +kernel
theorem d26_34 : decode c_26 34 = .ok (.iload 4, 2) := by decide +kernel
theorem d26_36 : decode c_26 36 = .ok (.invokevirtual 117, 3) := by decide +kernel
theorem d28_0 : decode c_28 0 = .ok (.iload_n 2, 1) := by decide +kernel
theorem d28_1 : decode c_28 1 = .ok (.aload_n 0, 1) := by decide +kernel
theorem d28_2 : decode c_28 2 = .ok (.getfield 32, 3) := by decide +kernel
theorem d28_5 : decode c_28 5 = .ok (.iload_n 1, 1) := by decide +kernel
theorem d28_6 : decode c_28 6 = .ok (.iaload, 1) := by decide +kernel
theorem d28_7 : decode c_28 7 = .ok (.if_icmp .le 14, 3) := by decide +kernel
theorem d28_10 : decode c_28 10 = .ok (.aload_n 0, 1) := by decide +kernel
theorem d28_11 : decode c_28 11 = .ok (.getfield 32, 3) := by decide +kernel
theorem d28_14 : decode c_28 14 = .ok (.iload_n 1, 1) := by decide +kernel
theorem d28_15 : decode c_28 15 = .ok (.iaload, 1) := by decide +kernel
theorem d28_16 : decode c_28 16 = .ok (.iconst 1, 1) := by decide +kernel
theorem d28_17 : decode c_28 17 = .ok (.iadd, 1) := by decide +kernel
theorem d28_18 : decode c_28 18 = .ok (.goto 9, 3) := by decide +kernel
theorem d28_27 : decode c_28 27 = .ok (.istore_n 3, 1) := by decide +kernel
theorem d28_28 : decode c_28 28 = .ok (.aload_n 0, 1) := by decide +kernel
theorem d28_29 : decode c_28 29 = .ok (.getfield 29, 3) := by decide +kernel
theorem d28_32 : decode c_28 32 = .ok (.iload_n 1, 1) := by decide +kernel
theorem d28_33 : decode c_28 33 = .ok (.iaload, 1) := by decide +kernel
theorem d28_34 : decode c_28 34 = .ok (.istore 4, 2) := by decide +kernel
theorem d28_36 : decode c_28 36 = .ok (.aload_n 0, 1) := by decide +kernel
theorem d28_37 : decode c_28 37 = .ok (.iload_n 1, 1) := by decide +kernel
theorem d28_38 : decode c_28 38 = .ok (.aload_n 0, 1) := by decide +kernel
theorem d28_39 : decode c_28 39 = .ok (.getfield 40, 3) := by decide +kernel
theorem d28_42 : decode c_28 42 = .ok (.iload_n 1, 1) := by decide +kernel
theorem d28_43 : decode c_28 43 = .ok (.iaload, 1) := by decide +kernel
theorem d28_44 : decode c_28 44 = .ok (.aload_n 0, 1) := by decide +kernel
theorem d28_45 : decode c_28 45 = .ok (.iload_n 1, 1) := by decide +kernel
theorem d28_46 : decode c_28 46 = .ok (.iload 4, 2) := by decide +kernel
theorem d28_48 : decode c_28 48 = .ok (.iload_n 3, 1) := by decide +kernel
theorem d28_49 : decode c_28 49 = .ok (.invokevirtual 143, 3) := by decide +kernel
theorem d29_0 : decode c_29 0 = .ok (.aload_n 0, 1) := by decide +kernel
theorem d29_1 : decode c_29 1 = .ok (.getfield 36, 3) := by decide +kernel
theorem d29_4 : decode c_29 4 = .ok (.iload_n 1, 1) := by decide +kernel
theorem d29_5 : decode c_29 5 = .ok (.aaload, 1) := by decide +kernel
theorem d29_6 : decode c_29 6 = .ok (.astore 4, 2) := by decide +kernel
theorem d29_8 : decode c_29 8 = .ok (.aload 4, 2) := by decide +kernel
theorem d29_10 : decode c_29 10 = .ok (.ifnull 8, 3) := by decide +kernel
theorem d29_18 : decode c_29 18 = .ok (.iconst 0, 1) := by decide +kernel
theorem d29_19 : decode c_29 19 = .ok (.iload_n 3, 1) := by decide +kernel
theorem d29_20 : decode c_29 20 = .ok (.iload_n 2, 1) := by decide +kernel
theorem d29_21 : decode c_29 21 = .ok (.isub, 1) := by decide +kernel
theorem d29_22 : decode c_29 22 = .ok (.invokestatic 71, 3) := by decide +kernel
theorem d29_25 : decode c_29 25 = .ok (.ireturn, 1) := by decide +kernel
theorem ef_am29_1 (m : MethodId) (x0 : Addr) (x1 : Int32) (x2 : Int32) (x3 : Int32)  : entryFrame m #[(.ref x0), (.int x1), (.int x2), (.int x3)] 13 = mkF m 0 #[.val (.ref x0), .val (.int x1), .val (.int x2), .val (.int x3), .unset, .unset, .unset, .unset, .unset, .unset, .unset, .unset, .unset] [] := by first | (simp [entryFrame, mkF, argsToLocals, Value.category]; done) | rfl
def Q_am29_1 (Z : State) (u_1 : Addr) (aw0 : Addr) (u_0 : ClassId) (kaw0 : ClassId) (ad1 : Addr) (iv1 : Int32) (iv2 : Int32) (ad7 : Addr) (iv6 : Int32) (kc4 : ClassId) (h0 : Heap) (n0 : Nat) (v : Option Value) (h : Heap) (L : List Loc) : Prop := v = some (.int (mxI (0 : Int32) (iv2 - (0 : Int32)))) ∧ Fr n0 L ∧ h = h0
set_option maxRecDepth 65536 in
set_option maxHeartbeats 40000000 in
theorem am29_1 (l : Launch) (Z : State) (a0 : Array Value) (hw : ∀ d ∈ tables_1, d.before a0 Z = true) (ws : List Jvm.Cond) (u_1 : Addr) (aw0 : Addr) (u_0 : ClassId) (kaw0 : ClassId) (HW : Wd Z u_1 aw0 u_0 kaw0) (ad1 : Addr) (iv1 : Int32) (iv2 : Int32) (ad7 : Addr) (iv6 : Int32) (kc4 : ClassId) (h0 : Heap) (n0 : Nat) (Ol : Old Z n0 h0) (HF_ad1_Domains_holes : Fld Z h0 ad1 "com/example/monarc/monarc/Domains" "holes" "[[J" (.ref ad7)) (HG_ad7 : Arw Z h0 ad7 kc4 (.array .long) iv6 (fun _ => .null)) (as0 : 0 ≤ (iv1).toInt ∧ (iv1).toInt < (iv6).toInt) (hO_ad7 : OvrA Z kc4 .long "[J") :
    MetFree l y_29 (head1 (Jvm.Cond.code y_29 prog_11_method_16_code 13 (some .int) :: ws) (rm 1 0 0 13)) (fun a_ U_ => a_ = #[(.ref ad1), (.int iv1), (.int (0 : Int32)), (.int iv2)] ∧ Z.Warmed39 U_.vm ∧ U_.heap = h0) (fun _ _ _ _ _ => True) (fun _ U_ o_ V_ => ∃ v_ L_, o_ = .returned v_ ∧ Q_am29_1 Z u_1 aw0 u_0 kaw0 ad1 iv1 iv2 ad7 iv6 kc4 h0 n0 v_ V_.heap L_ ∧ FrameEnd U_ o_ V_ L_ (rm 1 0 0 13).cells (rm 1 0 0 13).slots) := by
  refine MetFree.of_bodySF (plainFor_of_name pn_7) hisR ?_
  intro p e s m args below meth c s₁ Bd hml0 hP hK
  obtain ⟨rfl, hZ, hh⟩ := hP
  have hx := Bd.exec
  have hby := Bd.bytes
  have hml : c.maxLocals = 13 := hml0
  have hown : s.vm.findClass "com/example/monarc/monarc/Domains" = some m.cls := findClass_of_methodNamed Bd.named
  have hnm := (name_of_methodNamed Bd.named Bd.method).1
  have X0 : Stand p l e (rm 1 0 0 13) s m #[(.ref ad1), (.int iv1), (.int (0 : Int32)), (.int iv2)] below meth c s₁ [] 0 0 := Stand.of_body Bd
  have e0 : s₁.heap = h0 := by rw [← hh, Bd.state]; rfl
  have N0 := Fr.nil n0
  have kp0 := Keep.refl h0 []
  show Go p e below (Fin1 s below (Q_am29_1 Z u_1 aw0 u_0 kaw0 ad1 iv1 iv2 ad7 iv6 kc4 h0 n0) (rm 1 0 0 13).cells (rm 1 0 0 13).slots) _
  refine Go.step (fun t_ k_ => castTop (ef_am29_1 m ad1 iv1 (0 : Int32) iv2) k_) ?_
  obtain ⟨Eu_1, Su_1, Eaw0, Saw0, Au_1, Aaw0⟩ := id HW
  show Go p e below _ (s₁.setTop (mkF m 0 #[.val (.ref ad1), .val (.int iv1), .val (.int (0 : Int32)), .val (.int iv2), .unset, .unset, .unset, .unset, .unset, .unset, .unset, .unset, .unset] []))
  refine gs.aloadN X0.here hx (hb hby d29_0) rfl rfl ?_
  refine gs.getF X0 hx hZ hown (wd hw 110 rfl) Via.refl e0 HF_ad1_Domains_holes (hb hby d29_1) fun T1 X1 e1 => ?_
  refine gs.iloadN X1.here hx (hb hby d29_4) rfl ?_
  obtain ⟨cl2, Ar2, q2, Sz2, Ng2, Hs2⟩ := id HG_ad7
  have hin2 : ¬ (iv1 < 0 ∨ cl2.slots.size ≤ (iv1).toNatClampNeg) := inb_of Sz2 (inb_int as0)
  have hat2 : cl2.slots[(iv1).toNatClampNeg]? = some ((fun _ => .null) (iv1).toNatClampNeg) := Hs2 _ (lt_of_in hin2)
  replace hat2 : cl2.slots[(iv1).toNatClampNeg]? = some .null := hat2
  refine Go.fin (fun t_ k_ => X1.aaload hx (j := iv1) (v := .null) (by rw [e1]; exact Ar2.1) (State.isArrayOf_alike hZ.alike Ar2.2.1) rfl Ar2.2.2 hin2 hat2 (g := mkF m 5 _ _) rfl rfl (hb hby d29_5) _ k_) ?_
  show Go p e below _ (T1.setTop (mkF m 6 _ [.null]))
  refine gs.astore X1.here hx (hb hby d29_6) rfl (l' := #[.val (.ref ad1), .val (.int iv1), .val (.int (0 : Int32)), .val (.int iv2), .val .null, .unset, .unset, .unset, .unset, .unset, .unset, .unset, .unset]) rfl ?_
  refine gs.aload X1.here hx (hb hby d29_8) rfl rfl ?_
  refine Go.fin (fun t_ k_ => XS.ifnullYes X1.here hx rfl (pc0 := 10) (pc' := 18) rfl (hb hby d29_10) rfl (by decide) (by decide) k_) ?_
  show Go p e below _ (T1.setTop (mkF m 18 _ []))
  refine gs.iconst 0 X1.here hx (hb hby d29_18) rfl ?_
  refine gs.iloadN X1.here hx (hb hby d29_19) rfl ?_
  refine gs.iloadN X1.here hx (hb hby d29_20) rfl ?_
  refine gs.isub X1.here hx (hb hby d29_21) ?_
  refine gs.stat 0 X1 hx hZ hown (rm17 l Z a0 hw [] u_1 aw0 u_0 kaw0 HW (0 : Int32) (iv2 - (0 : Int32)) (mxI (0 : Int32) (iv2 - (0 : Int32))) h0 n0 Ol rfl) (wd hw 144 rfl) (wd hw 143 rfl) (wd hw 212 rfl) (wd hw 142 rfl) (by decide) (by decide) (by decide) (by rw [hml]; rfl) [(.int (0 : Int32)), (.int (iv2 - (0 : Int32)))] (lenOf pd_8 rfl) rfl (Nat.le_of_eq rfl) (hb hby d29_22) rfl e1 (by decide) (by decide) fun T3 Lc3 v3 X3 hQ3 => ?_
  obtain ⟨rfl, Nq3, e3⟩ := hQ3
  have N3 := Fr.app N0 Nq3
  show Go p e below _ (T3.setTop (mkF m 25 _ [(.int (mxI (0 : Int32) (iv2 - (0 : Int32))))]))
  refine Go.retI X3 hx Bd.returns Bd.notSynchronized (hb hby d29_25) (by rw [e3]; exact ⟨rfl, N3, rfl⟩) (by decide) (by decide)
theorem pd_18 : parseMethodDescriptor "(III)I" = some ⟨[.int, .int, .int], some .int⟩ := by decide +kernel
theorem d28_52 : decode c_28 52 = .ok (.isub, 1) := by decide +kernel
theorem d28_53 : decode c_28 53 = .ok (.invokevirtual 130, 3) := by decide +kernel
theorem d30_0 : decode c_30 0 = .ok (.aload_n 0, 1) := by decide +kernel
theorem d30_1 : decode c_30 1 = .ok (.dup, 1) := by decide +kernel
theorem d30_2 : decode c_30 2 = .ok (.getfield 54, 3) := by decide +kernel
theorem d30_5 : decode c_30 5 = .ok (.iload_n 2, 1) := by decide +kernel
theorem d30_6 : decode c_30 6 = .ok (.iconst 1, 1) := by decide +kernel
theorem d30_15 : decode c_30 15 = .ok (.aload_n 0, 1) := by decide +kernel
theorem d30_16 : decode c_30 16 = .ok (.getfield 40, 3) := by decide +kernel
theorem d30_19 : decode c_30 19 = .ok (.iload_n 1, 1) := by decide +kernel
theorem d30_20 : decode c_30 20 = .ok (.iaload, 1) := by decide +kernel
theorem d30_21 : decode c_30 21 = .ok (.iconst 1, 1) := by decide +kernel
theorem d30_30 : decode c_30 30 = .ok (.isub, 1) := by decide +kernel
theorem d30_31 : decode c_30 31 = .ok (.iadd, 1) := by decide +kernel
theorem d30_32 : decode c_30 32 = .ok (.putfield 54, 3) := by decide +kernel
theorem d30_35 : decode c_30 35 = .ok (.aload_n 0, 1) := by decide +kernel
theorem d30_36 : decode c_30 36 = .ok (.getfield 40, 3) := by decide +kernel
theorem d30_39 : decode c_30 39 = .ok (.iload_n 1, 1) := by decide +kernel
theorem d30_40 : decode c_30 40 = .ok (.iload_n 2, 1) := by decide +kernel
theorem d30_41 : decode c_30 41 = .ok (.iastore, 1) := by decide +kernel
theorem d30_42 : decode c_30 42 = .ok (.return_, 1) := by decide +kernel
theorem d30_22 : decode c_30 22 = .ok (.if_icmp .ne 7, 3) := by decide +kernel
theorem d30_25 : decode c_30 25 = .ok (.iconst 1, 1) := by decide +kernel
theorem d30_26 : decode c_30 26 = .ok (.goto 4, 3) := by decide +kernel
theorem d30_29 : decode c_30 29 = .ok (.iconst 0, 1) := by decide +kernel
theorem d30_7 : decode c_30 7 = .ok (.if_icmp .ne 7, 3) := by decide +kernel
theorem d30_10 : decode c_30 10 = .ok (.iconst 1, 1) := by decide +kernel
theorem d30_11 : decode c_30 11 = .ok (.goto 4, 3) := by decide +kernel
theorem d30_14 : decode c_30 14 = .ok (.iconst 0, 1) := by decide +kernel
theorem ef_am30_1 (m : MethodId) (x0 : Addr) (x1 : Int32) (x2 : Int32)  : entryFrame m #[(.ref x0), (.int x1), (.int x2)] 3 = mkF m 0 #[.val (.ref x0), .val (.int x1), .val (.int x2)] [] := by first | (simp [entryFrame, mkF, argsToLocals, Value.category]; done) | rfl
def Q_am30_1 (Z : State) (u_1 : Addr) (aw0 : Addr) (u_0 : ClassId) (kaw0 : ClassId) (ad1 : Addr) (iv1 : Int32) (iv2 : Int32) (iv3 : Int32) (ad3 : Addr) (ad4 : Addr) (ad5 : Addr) (ad6 : Addr) (ad7 : Addr) (ad8 : Addr) (iv4 : Int32) (iv5 : Int32) (kc1 : ClassId) (iv6 : Int32) (fv7 : Nat → Int32) (h0 : Heap) (n0 : Nat) (v : Option Value) (h : Heap) (L : List Loc) : Prop := ∃ ex1 : Int32, v = none ∧ Fr n0 L ∧ Keep h0 h [ad1, ad8] ∧ (Exa Z h ad1 "com/example/monarc/monarc/Domains") ∧ (Fld Z h ad1 "com/example/monarc/monarc/Domains" "holes" "[[J" (.ref ad7)) ∧ (Fld Z h ad1 "com/example/monarc/monarc/Domains" "initial" "[Lcom/example/monarc/monarc/InitialDomain;" (.ref ad4)) ∧ (Fld Z h ad1 "com/example/monarc/monarc/Domains" "lower" "[I" (.ref ad5)) ∧ (Fld Z h ad1 "com/example/monarc/monarc/Domains" "resized" "Ljava/util/function/IntConsumer;" .null) ∧ (Fld Z h ad1 "com/example/monarc/monarc/Domains" "sizes" "[I" (.ref ad8)) ∧ (Fld Z h ad1 "com/example/monarc/monarc/Domains" "trail" "[J" (.ref ad3)) ∧ (Fld Z h ad1 "com/example/monarc/monarc/Domains" "trailSize" "I" (.int iv5)) ∧ (Fld Z h ad1 "com/example/monarc/monarc/Domains" "upper" "[I" (.ref ad6)) ∧ (Fld Z h ad1 "com/example/monarc/monarc/Domains" "withOneValue" "I" (.int ex1)) ∧ (Ari Z h ad8 kc1 iv6 (fun i => if i = (iv1).toNatClampNeg then iv2 else fv7 i))
set_option maxRecDepth 65536 in
set_option maxHeartbeats 40000000 in
theorem am30_1 (l : Launch) (Z : State) (a0 : Array Value) (hw : ∀ d ∈ tables_1, d.before a0 Z = true) (ws : List Jvm.Cond) (u_1 : Addr) (aw0 : Addr) (u_0 : ClassId) (kaw0 : ClassId) (HW : Wd Z u_1 aw0 u_0 kaw0) (ad1 : Addr) (iv1 : Int32) (iv2 : Int32) (iv3 : Int32) (ad3 : Addr) (ad4 : Addr) (ad5 : Addr) (ad6 : Addr) (ad7 : Addr) (ad8 : Addr) (iv4 : Int32) (iv5 : Int32) (kc1 : ClassId) (iv6 : Int32) (fv7 : Nat → Int32) (h0 : Heap) (n0 : Nat) (Ol : Old Z n0 h0) (HE_ad1 : Exa Z h0 ad1 "com/example/monarc/monarc/Domains") (HF_ad1_Domains_trail : Fld Z h0 ad1 "com/example/monarc/monarc/Domains" "trail" "[J" (.ref ad3)) (HF_ad1_Domains_initial : Fld Z h0 ad1 "com/example/monarc/monarc/Domains" "initial" "[Lcom/example/monarc/monarc/InitialDomain;" (.ref ad4)) (HF_ad1_Domains_lower : Fld Z h0 ad1 "com/example/monarc/monarc/Domains" "lower" "[I" (.ref ad5)) (HF_ad1_Domains_upper : Fld Z h0 ad1 "com/example/monarc/monarc/Domains" "upper" "[I" (.ref ad6)) (HF_ad1_Domains_holes : Fld Z h0 ad1 "com/example/monarc/monarc/Domains" "holes" "[[J" (.ref ad7)) (HF_ad1_Domains_sizes : Fld Z h0 ad1 "com/example/monarc/monarc/Domains" "sizes" "[I" (.ref ad8)) (HF_ad1_Domains_withOneValue : Fld Z h0 ad1 "com/example/monarc/monarc/Domains" "withOneValue" "I" (.int iv4)) (HF_ad1_Domains_trailSize : Fld Z h0 ad1 "com/example/monarc/monarc/Domains" "trailSize" "I" (.int iv5)) (HF_ad1_Domains_resized : Fld Z h0 ad1 "com/example/monarc/monarc/Domains" "resized" "Ljava/util/function/IntConsumer;" .null) (HG_ad8 : Ari Z h0 ad8 kc1 iv6 fv7) (nn_ad1 : n0 ≤ ad1) (nn_ad8 : n0 ≤ ad8) (ne_ad1_ad8 : ad1 ≠ ad8) (as0 : 0 ≤ (iv1).toInt ∧ (iv1).toInt < (iv6).toInt) (eq0 : (fv7 (iv1).toNatClampNeg) = iv3) :
    MetFree l y_30 (head1 (Jvm.Cond.code y_30 prog_11_method_25_code 3 none :: ws) (rm 0 0 0 0)) (fun a_ U_ => a_ = #[(.ref ad1), (.int iv1), (.int iv2)] ∧ Z.Warmed39 U_.vm ∧ U_.heap = h0) (fun _ _ _ _ _ => True) (fun _ U_ o_ V_ => ∃ v_ L_, o_ = .returned v_ ∧ Q_am30_1 Z u_1 aw0 u_0 kaw0 ad1 iv1 iv2 iv3 ad3 ad4 ad5 ad6 ad7 ad8 iv4 iv5 kc1 iv6 fv7 h0 n0 v_ V_.heap L_ ∧ FrameEnd U_ o_ V_ L_ (rm 0 0 0 0).cells (rm 0 0 0 0).slots) := by
  refine MetFree.of_bodySF (plainFor_of_name pn_7) hisR ?_
  intro p e s m args below meth c s₁ Bd hml0 hP hK
  obtain ⟨rfl, hZ, hh⟩ := hP
  have hx := Bd.exec
  have hby := Bd.bytes
  have hml : c.maxLocals = 3 := hml0
  have hown : s.vm.findClass "com/example/monarc/monarc/Domains" = some m.cls := findClass_of_methodNamed Bd.named
  have hnm := (name_of_methodNamed Bd.named Bd.method).1
  have X0 : Stand p l e (rm 0 0 0 0) s m #[(.ref ad1), (.int iv1), (.int iv2)] below meth c s₁ [] 0 0 := Stand.of_body Bd
  have e0 : s₁.heap = h0 := by rw [← hh, Bd.state]; rfl
  have N0 := Fr.nil n0
  have kp0 := Keep.refl h0 [ad1, ad8]
  show Go p e below (Fin1 s below (Q_am30_1 Z u_1 aw0 u_0 kaw0 ad1 iv1 iv2 iv3 ad3 ad4 ad5 ad6 ad7 ad8 iv4 iv5 kc1 iv6 fv7 h0 n0) (rm 0 0 0 0).cells (rm 0 0 0 0).slots) _
  refine Go.step (fun t_ k_ => castTop (ef_am30_1 m ad1 iv1 iv2) k_) ?_
  obtain ⟨Eu_1, Su_1, Eaw0, Saw0, Au_1, Aaw0⟩ := id HW
  show Go p e below _ (s₁.setTop (mkF m 0 #[.val (.ref ad1), .val (.int iv1), .val (.int iv2)] []))
  refine gs.aloadN X0.here hx (hb hby d30_0) rfl rfl ?_
  refine gs.dup X0.here hx (hb hby d30_1) rfl ?_
  refine gs.getF X0 hx hZ hown (wd hw 182 rfl) Via.refl e0 HF_ad1_Domains_withOneValue (hb hby d30_2) fun T1 X1 e1 => ?_
  refine gs.iloadN X1.here hx (hb hby d30_5) rfl ?_
  refine gs.iconst 1 X1.here hx (hb hby d30_6) rfl ?_
  have J2 : ∀ z_2 : Int32, Go p e below (Fin1 s below (Q_am30_1 Z u_1 aw0 u_0 kaw0 ad1 iv1 iv2 iv3 ad3 ad4 ad5 ad6 ad7 ad8 iv4 iv5 kc1 iv6 fv7 h0 n0) (rm 0 0 0 0).cells (rm 0 0 0 0).slots) (T1.setTop (mkF m 15 #[.val (.ref ad1), .val (.int iv1), .val (.int iv2)] [(.int z_2), (.int iv4), (.ref ad1)])) := by
    intro z_2
    refine gs.aloadN X1.here hx (hb hby d30_15) rfl rfl ?_
    refine gs.getF X1 hx hZ hown (wd hw 112 rfl) Via.refl e1 HF_ad1_Domains_sizes (hb hby d30_16) fun T3 X3 e3 => ?_
    refine gs.iloadN X3.here hx (hb hby d30_19) rfl ?_
    obtain ⟨cl4, Ar4, q4, Sz4, Ng4, Hs4⟩ := id HG_ad8
    have hin4 : ¬ (iv1 < 0 ∨ cl4.slots.size ≤ (iv1).toNatClampNeg) := inb_of Sz4 (inb_int as0)
    have hat4 : cl4.slots[(iv1).toNatClampNeg]? = some (.int (fv7 (iv1).toNatClampNeg)) := Hs4 _ (lt_of_in hin4)
    refine Go.fin (fun t_ k_ => X3.iaload hx (j := iv1) (v := (.int (fv7 (iv1).toNatClampNeg))) (by rw [e3]; exact Ar4.1) (State.isArrayOf_alike hZ.alike Ar4.2.1) Ar4.2.2 hin4 hat4 (g := mkF m 20 _ _) rfl rfl (hb hby d30_20) _ k_) ?_
    show Go p e below _ (T3.setTop (mkF m 21 _ [(.int (fv7 (iv1).toNatClampNeg)), (.int z_2), (.int iv4), (.ref ad1)]))
    rw [show (fv7 (iv1).toNatClampNeg) = iv3 from eq0]
    refine gs.iconst 1 X3.here hx (hb hby d30_21) rfl ?_
    have J5 : ∀ z_5 : Int32, Go p e below (Fin1 s below (Q_am30_1 Z u_1 aw0 u_0 kaw0 ad1 iv1 iv2 iv3 ad3 ad4 ad5 ad6 ad7 ad8 iv4 iv5 kc1 iv6 fv7 h0 n0) (rm 0 0 0 0).cells (rm 0 0 0 0).slots) (T3.setTop (mkF m 30 #[.val (.ref ad1), .val (.int iv1), .val (.int iv2)] [(.int z_5), (.int z_2), (.int iv4), (.ref ad1)])) := by
      intro z_5
      refine gs.isub X3.here hx (hb hby d30_30) ?_
      refine gs.iadd X3.here hx (hb hby d30_31) ?_
      obtain ⟨T6, h6, X6, e6, W6, st6⟩ := putF X3 hx hZ hown (host := "") (Or.inl (wd hw 182 rfl)) Via.refl e3 HF_ad1_Domains_withOneValue HE_ad1 (Or.inl (wd hw 183 rfl)) (wd hw 77 rfl) (ty := .int) (by decide) rfl rfl (g := (mkF m 32 #[.val (.ref ad1), .val (.int iv1), .val (.int iv2)] [(.int (iv4 + (z_2 - z_5))), (.ref ad1)])) rfl rfl (hb hby d30_32)
      have N6 := Fr.snoc X6 N0 nn_ad1
      have old6 := Ol.wr W6 nn_ad1
      have kp6 := kp0.wr W6 (Or.inl (List.mem_of_getElem? (i := 0) rfl))
      have F6 := HF_ad1_Domains_withOneValue.same W6
      refine Go.fin st6 ?_
      show Go p e below _ (T6.setTop (mkF m 35 _ []))
      refine gs.aloadN X6.here hx (hb hby d30_35) rfl rfl ?_
      have f7 := (HF_ad1_Domains_sizes.other W6 (Or.inr (sn77 hw)))
      refine gs.getF X6 hx hZ hown (wd hw 112 rfl) Via.refl e6 f7 (hb hby d30_36) fun T8 X8 e8 => ?_
      refine gs.iloadN X8.here hx (hb hby d30_39) rfl ?_
      refine gs.iloadN X8.here hx (hb hby d30_40) rfl ?_
      have f9 := (HG_ad8.other W6 (Ne.symm ne_ad1_ad8))
      obtain ⟨cl10, Ar10, q10, Sz10, Ng10, Hs10⟩ := id f9
      have hin10 : ¬ (iv1 < 0 ∨ cl10.slots.size ≤ (iv1).toNatClampNeg) := inb_of Sz10 (inb_int as0)
      obtain ⟨T11, h11, X11, e11, W11, st11⟩ := stI X8 hx hZ e8 Ar10 (j := iv1) hin10 (g := (mkF m 41 #[.val (.ref ad1), .val (.int iv1), .val (.int iv2)] [(.int iv2), (.int iv1), (.ref ad8)])) rfl rfl (hb hby d30_41)
      have N11 := Fr.snoc X11 N6 nn_ad8
      have old11 := old6.wr W11 nn_ad8
      have kp11 := kp6.wr W11 (Or.inl (List.mem_of_getElem? (i := 1) rfl))
      have V11 : Ari Z h11 ad8 kc1 iv6 (fun i => if i = (iv1).toNatClampNeg then iv2 else fv7 i) := Ari.set Ar10 q10 Sz10 Ng10 Hs10 W11
      refine Go.fin st11 ?_
      show Go p e below _ (T11.setTop (mkF m 42 _ []))
      have f12 := ((HE_ad1.wr W6).wr W11)
      have f13 := ((HF_ad1_Domains_holes.other W6 (Or.inr (sn73 hw))).other W11 (Or.inl ne_ad1_ad8))
      have f14 := ((HF_ad1_Domains_initial.other W6 (Or.inr (sn74 hw))).other W11 (Or.inl ne_ad1_ad8))
      have f15 := ((HF_ad1_Domains_lower.other W6 (Or.inr (sn75 hw))).other W11 (Or.inl ne_ad1_ad8))
      have f16 := ((HF_ad1_Domains_resized.other W6 (Or.inr (sn76 hw))).other W11 (Or.inl ne_ad1_ad8))
      have f17 := (f7.other W11 (Or.inl ne_ad1_ad8))
      have f18 := ((HF_ad1_Domains_trail.other W6 (Or.inr (sn78 hw))).other W11 (Or.inl ne_ad1_ad8))
      have f19 := ((HF_ad1_Domains_trailSize.other W6 (Or.inr (sn79 hw))).other W11 (Or.inl ne_ad1_ad8))
      have f20 := ((HF_ad1_Domains_upper.other W6 (Or.inr (sn80 hw))).other W11 (Or.inl ne_ad1_ad8))
      have f21 := (F6.other W11 (Or.inl ne_ad1_ad8))
      refine Go.retV X11 hx Bd.returns Bd.notSynchronized (hb hby d30_42) (by rw [e11]; exact ⟨((iv4 + (z_2 - z_5))), rfl, N11, kp11, f12, f13, f14, f15, f16, f17, f18, f19, f20, f21, V11⟩) (by decide) (by decide)
    by_cases hc22 : iv3 = (1 : Int32)
    case pos =>
      refine gs.icmpNo X3.here hx (hb hby d30_22) (teq hc22).2 ?_
      refine gs.iconst 1 X3.here hx (hb hby d30_25) rfl ?_
      refine gs.goto 30 X3.here hx (hb hby d30_26) rfl ?_
      exact J5 _
    case neg =>
      refine gs.icmpYes 29 X3.here hx (hb hby d30_22) (feq hc22).2 rfl ?_
      refine gs.iconst 0 X3.here hx (hb hby d30_29) rfl ?_
      exact J5 _
  by_cases hc7 : iv2 = (1 : Int32)
  case pos =>
    refine gs.icmpNo X1.here hx (hb hby d30_7) (teq hc7).2 ?_
    refine gs.iconst 1 X1.here hx (hb hby d30_10) rfl ?_
    refine gs.goto 15 X1.here hx (hb hby d30_11) rfl ?_
    exact J2 _
  case neg =>
    refine gs.icmpYes 14 X1.here hx (hb hby d30_7) (feq hc7).2 rfl ?_
    refine gs.iconst 0 X1.here hx (hb hby d30_14) rfl ?_
    exact J2 _
theorem pd_19 : parseMethodDescriptor "(II)V" = some ⟨[.int, .int], none⟩ := by decide +kernel
theorem d28_56 : decode c_28 56 = .ok (.aload_n 0, 1) := by decide +kernel
theorem d28_57 : decode c_28 57 = .ok (.getfield 29, 3) := by decide +kernel
theorem d28_60 : decode c_28 60 = .ok (.iload_n 1, 1) := by decide +kernel
theorem d28_61 : decode c_28 61 = .ok (.iload_n 3, 1) := by decide +kernel
theorem d28_62 : decode c_28 62 = .ok (.iastore, 1) := by decide +kernel
theorem d28_63 : decode c_28 63 = .ok (.aload_n 0, 1) := by decide +kernel
theorem d28_64 : decode c_28 64 = .ok (.iload_n 1, 1) := by decide +kernel
theorem d28_65 : decode c_28 65 = .ok (.iconst 1, 1) := by decide +kernel
theorem d28_66 : decode c_28 66 = .ok (.iload 4, 2) := by decide +kernel
theorem d28_68 : decode c_28 68 = .ok (.invokevirtual 133, 3) := by decide +kernel
theorem d31_0 : decode c_31 0 = .ok (.aload_n 0, 1) := by decide +kernel
theorem d31_1 : decode c_31 1 = .ok (.getfield 147, 3) := by decide +kernel
theorem d31_4 : decode c_31 4 = .ok (.aload_n 0, 1) := by decide +kernel
theorem d31_5 : decode c_31 5 = .ok (.getfield 9, 3) := by decide +kernel
theorem d31_8 : decode c_31 8 = .ok (.arraylength, 1) := by decide +kernel
theorem d31_9 : decode c_31 9 = .ok (.if_icmp .ne 20, 3) := by decide +kernel
theorem d31_29 : decode c_31 29 = .ok (.aload_n 0, 1) := by decide +kernel
theorem d31_30 : decode c_31 30 = .ok (.getfield 9, 3) := by decide +kernel
theorem d31_33 : decode c_31 33 = .ok (.aload_n 0, 1) := by decide +kernel
theorem d31_34 : decode c_31 34 = .ok (.dup, 1) := by decide +kernel
theorem d31_35 : decode c_31 35 = .ok (.getfield 147, 3) := by decide +kernel
theorem d31_38 : decode c_31 38 = .ok (.dup_x1, 1) := by decide +kernel
theorem d31_39 : decode c_31 39 = .ok (.iconst 1, 1) := by decide +kernel
theorem d31_40 : decode c_31 40 = .ok (.iadd, 1) := by decide +kernel
theorem d31_41 : decode c_31 41 = .ok (.putfield 147, 3) := by decide +kernel
theorem d31_44 : decode c_31 44 = .ok (.iload_n 1, 1) := by decide +kernel
theorem d31_45 : decode c_31 45 = .ok (.i2l, 1) := by decide +kernel
theorem d31_46 : decode c_31 46 = .ok (.bipush 32, 2) := by decide +kernel
theorem d31_48 : decode c_31 48 = .ok (.lshl, 1) := by decide +kernel
theorem d31_49 : decode c_31 49 = .ok (.iload_n 2, 1) := by decide +kernel
theorem d31_50 : decode c_31 50 = .ok (.i2l, 1) := by decide +kernel
theorem d31_51 : decode c_31 51 = .ok (.bipush 30, 2) := by decide +kernel
theorem d31_53 : decode c_31 53 = .ok (.lshl, 1) := by decide +kernel
theorem d31_54 : decode c_31 54 = .ok (.lor, 1) := by decide +kernel
theorem d31_55 : decode c_31 55 = .ok (.iload_n 3, 1) := by decide +kernel
theorem d31_56 : decode c_31 56 = .ok (.i2l, 1) := by decide +kernel
theorem d31_57 : decode c_31 57 = .ok (.lor, 1) := by decide +kernel
theorem d31_58 : decode c_31 58 = .ok (.lastore, 1) := by decide +kernel
theorem d31_59 : decode c_31 59 = .ok (.aload_n 0, 1) := by decide +kernel
theorem d31_60 : decode c_31 60 = .ok (.getfield 104, 3) := by decide +kernel
theorem sn81 {a0 : Array Value} {Z : State} (hw : ∀ d ∈ tables_1, d.before a0 Z = true) : SN Z "com/example/monarc/monarc/Domains" "resized" "Ljava/util/function/IntConsumer;" "com/example/monarc/monarc/Domains" "trailSize" "I" := slot_ne (Or.inl (wd hw 224 rfl)) (Or.inl (wd hw 222 rfl)) (by decide) (t := (.object "java/util/function/IntConsumer")) (t' := .int) (by decide) (by decide)
theorem d31_63 : decode c_31 63 = .ok (.ifnull 13, 3) := by decide +kernel
theorem d31_76 : decode c_31 76 = .ok (.return_, 1) := by decide +kernel
theorem sn82 {a0 : Array Value} {Z : State} (hw : ∀ d ∈ tables_1, d.before a0 Z = true) : SN Z "com/example/monarc/monarc/Domains" "holes" "[[J" "com/example/monarc/monarc/Domains" "trailSize" "I" := slot_ne (Or.inr (wd hw 111 rfl)) (Or.inl (wd hw 222 rfl)) (by decide) (t := (.array (.array .long))) (t' := .int) (by decide) (by decide)
theorem sn83 {a0 : Array Value} {Z : State} (hw : ∀ d ∈ tables_1, d.before a0 Z = true) : SN Z "com/example/monarc/monarc/Domains" "initial" "[Lcom/example/monarc/monarc/InitialDomain;" "com/example/monarc/monarc/Domains" "trailSize" "I" := slot_ne (Or.inr (wd hw 103 rfl)) (Or.inl (wd hw 222 rfl)) (by decide) (t := (.array (.object "com/example/monarc/monarc/InitialDomain"))) (t' := .int) (by decide) (by decide)
theorem sn84 {a0 : Array Value} {Z : State} (hw : ∀ d ∈ tables_1, d.before a0 Z = true) : SN Z "com/example/monarc/monarc/Domains" "lower" "[I" "com/example/monarc/monarc/Domains" "trailSize" "I" := slot_ne (Or.inr (wd hw 105 rfl)) (Or.inl (wd hw 222 rfl)) (by decide) (t := (.array .int)) (t' := .int) (by decide) (by decide)
theorem sn85 {a0 : Array Value} {Z : State} (hw : ∀ d ∈ tables_1, d.before a0 Z = true) : SN Z "com/example/monarc/monarc/Domains" "sizes" "[I" "com/example/monarc/monarc/Domains" "trailSize" "I" := slot_ne (Or.inr (wd hw 113 rfl)) (Or.inl (wd hw 222 rfl)) (by decide) (t := (.array .int)) (t' := .int) (by decide) (by decide)
theorem sn86 {a0 : Array Value} {Z : State} (hw : ∀ d ∈ tables_1, d.before a0 Z = true) : SN Z "com/example/monarc/monarc/Domains" "trail" "[J" "com/example/monarc/monarc/Domains" "trailSize" "I" := slot_ne (Or.inl (wd hw 85 rfl)) (Or.inl (wd hw 222 rfl)) (by decide) (t := (.array .long)) (t' := .int) (by decide) (by decide)
theorem sn87 {a0 : Array Value} {Z : State} (hw : ∀ d ∈ tables_1, d.before a0 Z = true) : SN Z "com/example/monarc/monarc/Domains" "upper" "[I" "com/example/monarc/monarc/Domains" "trailSize" "I" := slot_ne (Or.inr (wd hw 107 rfl)) (Or.inl (wd hw 222 rfl)) (by decide) (t := (.array .int)) (t' := .int) (by decide) (by decide)
theorem sn88 {a0 : Array Value} {Z : State} (hw : ∀ d ∈ tables_1, d.before a0 Z = true) : SN Z "com/example/monarc/monarc/Domains" "withOneValue" "I" "com/example/monarc/monarc/Domains" "trailSize" "I" := slot_ne (Or.inl (wd hw 183 rfl)) (Or.inl (wd hw 222 rfl)) (by decide) (t := .int) (t' := .int) (by decide) (by decide)
theorem ef_am31_1 (m : MethodId) (x0 : Addr) (x1 : Int32) (x2 : Int32) (x3 : Int32)  : entryFrame m #[(.ref x0), (.int x1), (.int x2), (.int x3)] 4 = mkF m 0 #[.val (.ref x0), .val (.int x1), .val (.int x2), .val (.int x3)] [] := by first | (simp [entryFrame, mkF, argsToLocals, Value.category]; done) | rfl
def Q_am31_1 (Z : State) (u_1 : Addr) (aw0 : Addr) (u_0 : ClassId) (kaw0 : ClassId) (ad1 : Addr) (iv1 : Int32) (ad3 : Addr) (ad4 : Addr) (ad5 : Addr) (ad6 : Addr) (ad7 : Addr) (ad8 : Addr) (iv3 : Int32) (iv4 : Int32) (kc6 : ClassId) (fv10 : Nat → Int64) (h0 : Heap) (n0 : Nat) (v : Option Value) (h : Heap) (L : List Loc) : Prop := v = none ∧ Fr n0 L ∧ Keep h0 h [ad1, ad3] ∧ (Exa Z h ad1 "com/example/monarc/monarc/Domains") ∧ (Fld Z h ad1 "com/example/monarc/monarc/Domains" "holes" "[[J" (.ref ad7)) ∧ (Fld Z h ad1 "com/example/monarc/monarc/Domains" "initial" "[Lcom/example/monarc/monarc/InitialDomain;" (.ref ad4)) ∧ (Fld Z h ad1 "com/example/monarc/monarc/Domains" "lower" "[I" (.ref ad5)) ∧ (Fld Z h ad1 "com/example/monarc/monarc/Domains" "resized" "Ljava/util/function/IntConsumer;" .null) ∧ (Fld Z h ad1 "com/example/monarc/monarc/Domains" "sizes" "[I" (.ref ad8)) ∧ (Fld Z h ad1 "com/example/monarc/monarc/Domains" "trail" "[J" (.ref ad3)) ∧ (Fld Z h ad1 "com/example/monarc/monarc/Domains" "trailSize" "I" (.int (iv4 + (1 : Int32)))) ∧ (Fld Z h ad1 "com/example/monarc/monarc/Domains" "upper" "[I" (.ref ad6)) ∧ (Fld Z h ad1 "com/example/monarc/monarc/Domains" "withOneValue" "I" (.int iv3)) ∧ (Arf Z h ad3 kc6 (1024 : Int32) (fun i => if i = (iv4).toNatClampNeg then ((((iv1.toInt64) <<< ((32 : Int32) &&& 0x3f).toInt64) ||| ((1 : Int64) <<< ((30 : Int32) &&& 0x3f).toInt64)) ||| (0 : Int64)) else fv10 i))
set_option maxRecDepth 65536 in
set_option maxHeartbeats 40000000 in
theorem am31_1 (l : Launch) (Z : State) (a0 : Array Value) (hw : ∀ d ∈ tables_1, d.before a0 Z = true) (ws : List Jvm.Cond) (u_1 : Addr) (aw0 : Addr) (u_0 : ClassId) (kaw0 : ClassId) (HW : Wd Z u_1 aw0 u_0 kaw0) (ad1 : Addr) (iv1 : Int32) (ad3 : Addr) (ad4 : Addr) (ad5 : Addr) (ad6 : Addr) (ad7 : Addr) (ad8 : Addr) (iv3 : Int32) (iv4 : Int32) (kc6 : ClassId) (fv10 : Nat → Int64) (h0 : Heap) (n0 : Nat) (Ol : Old Z n0 h0) (HE_ad1 : Exa Z h0 ad1 "com/example/monarc/monarc/Domains") (HF_ad1_Domains_trail : Fld Z h0 ad1 "com/example/monarc/monarc/Domains" "trail" "[J" (.ref ad3)) (HF_ad1_Domains_initial : Fld Z h0 ad1 "com/example/monarc/monarc/Domains" "initial" "[Lcom/example/monarc/monarc/InitialDomain;" (.ref ad4)) (HF_ad1_Domains_lower : Fld Z h0 ad1 "com/example/monarc/monarc/Domains" "lower" "[I" (.ref ad5)) (HF_ad1_Domains_upper : Fld Z h0 ad1 "com/example/monarc/monarc/Domains" "upper" "[I" (.ref ad6)) (HF_ad1_Domains_holes : Fld Z h0 ad1 "com/example/monarc/monarc/Domains" "holes" "[[J" (.ref ad7)) (HF_ad1_Domains_sizes : Fld Z h0 ad1 "com/example/monarc/monarc/Domains" "sizes" "[I" (.ref ad8)) (HF_ad1_Domains_withOneValue : Fld Z h0 ad1 "com/example/monarc/monarc/Domains" "withOneValue" "I" (.int iv3)) (HF_ad1_Domains_trailSize : Fld Z h0 ad1 "com/example/monarc/monarc/Domains" "trailSize" "I" (.int iv4)) (HF_ad1_Domains_resized : Fld Z h0 ad1 "com/example/monarc/monarc/Domains" "resized" "Ljava/util/function/IntConsumer;" .null) (HG_ad3 : Arf Z h0 ad3 kc6 (1024 : Int32) fv10) (nn_ad1 : n0 ≤ ad1) (nn_ad3 : n0 ≤ ad3) (ne_ad1_ad3 : ad1 ≠ ad3) (as0 : 0 ≤ (iv4).toInt ∧ (iv4).toInt < ((1024 : Int32)).toInt) (as1 : ¬ (iv4 = (1024 : Int32))) :
    MetFree l y_31 (head1 (Jvm.Cond.code y_31 prog_11_method_26_code 4 none :: ws) (rm 0 0 0 0)) (fun a_ U_ => a_ = #[(.ref ad1), (.int iv1), (.int (1 : Int32)), (.int (0 : Int32))] ∧ Z.Warmed39 U_.vm ∧ U_.heap = h0) (fun _ _ _ _ _ => True) (fun _ U_ o_ V_ => ∃ v_ L_, o_ = .returned v_ ∧ Q_am31_1 Z u_1 aw0 u_0 kaw0 ad1 iv1 ad3 ad4 ad5 ad6 ad7 ad8 iv3 iv4 kc6 fv10 h0 n0 v_ V_.heap L_ ∧ FrameEnd U_ o_ V_ L_ (rm 0 0 0 0).cells (rm 0 0 0 0).slots) := by
  refine MetFree.of_bodySF (plainFor_of_name pn_7) hisR ?_
  intro p e s m args below meth c s₁ Bd hml0 hP hK
  obtain ⟨rfl, hZ, hh⟩ := hP
  have hx := Bd.exec
  have hby := Bd.bytes
  have hml : c.maxLocals = 4 := hml0
  have hown : s.vm.findClass "com/example/monarc/monarc/Domains" = some m.cls := findClass_of_methodNamed Bd.named
  have hnm := (name_of_methodNamed Bd.named Bd.method).1
  have X0 : Stand p l e (rm 0 0 0 0) s m #[(.ref ad1), (.int iv1), (.int (1 : Int32)), (.int (0 : Int32))] below meth c s₁ [] 0 0 := Stand.of_body Bd
  have e0 : s₁.heap = h0 := by rw [← hh, Bd.state]; rfl
  have N0 := Fr.nil n0
  have kp0 := Keep.refl h0 [ad1, ad3]
  show Go p e below (Fin1 s below (Q_am31_1 Z u_1 aw0 u_0 kaw0 ad1 iv1 ad3 ad4 ad5 ad6 ad7 ad8 iv3 iv4 kc6 fv10 h0 n0) (rm 0 0 0 0).cells (rm 0 0 0 0).slots) _
  refine Go.step (fun t_ k_ => castTop (ef_am31_1 m ad1 iv1 (1 : Int32) (0 : Int32)) k_) ?_
  obtain ⟨Eu_1, Su_1, Eaw0, Saw0, Au_1, Aaw0⟩ := id HW
  show Go p e below _ (s₁.setTop (mkF m 0 #[.val (.ref ad1), .val (.int iv1), .val (.int (1 : Int32)), .val (.int (0 : Int32))] []))
  refine gs.aloadN X0.here hx (hb hby d31_0) rfl rfl ?_
  refine gs.getF X0 hx hZ hown (wd hw 221 rfl) Via.refl e0 HF_ad1_Domains_trailSize (hb hby d31_1) fun T1 X1 e1 => ?_
  refine gs.aloadN X1.here hx (hb hby d31_4) rfl rfl ?_
  refine gs.getF X1 hx hZ hown (wd hw 84 rfl) Via.refl e1 HF_ad1_Domains_trail (hb hby d31_5) fun T2 X2 e2 => ?_
  obtain ⟨cl3, Ar3, -, Sz3, Ng3, -⟩ := id HG_ad3
  refine Go.fin (fun t_ k_ => X2.arraylength hx (by rw [e2]; exact Ar3.1) (State.isArrayOf_alike hZ.alike Ar3.2.1) (g := mkF m 8 _ _) rfl rfl (hb hby d31_8) _ k_) ?_
  rw [len_of Sz3 Ng3]
  show Go p e below _ (T2.setTop (mkF m 9 _ [(.int (1024 : Int32)), (.int iv4)]))
  have hc9 : ¬ (iv4 = (1024 : Int32)) := as1
  refine gs.icmpYes 29 X2.here hx (hb hby d31_9) (feq hc9).2 rfl ?_
  refine gs.aloadN X2.here hx (hb hby d31_29) rfl rfl ?_
  refine gs.getF X2 hx hZ hown (wd hw 84 rfl) Via.refl e2 HF_ad1_Domains_trail (hb hby d31_30) fun T4 X4 e4 => ?_
  refine gs.aloadN X4.here hx (hb hby d31_33) rfl rfl ?_
  refine gs.dup X4.here hx (hb hby d31_34) rfl ?_
  refine gs.getF X4 hx hZ hown (wd hw 221 rfl) Via.refl e4 HF_ad1_Domains_trailSize (hb hby d31_35) fun T5 X5 e5 => ?_
  refine Go.fin (fun t_ k_ => XS.dupX1 X5.here hx rfl (hb hby d31_38) rfl rfl rfl k_) ?_
  show Go p e below _ (T5.setTop (mkF m 39 _ [(.int iv4), (.ref ad1), (.int iv4), (.ref ad3)]))
  refine gs.iconst 1 X5.here hx (hb hby d31_39) rfl ?_
  refine gs.iadd X5.here hx (hb hby d31_40) ?_
  obtain ⟨T6, h6, X6, e6, W6, st6⟩ := putF X5 hx hZ hown (host := "") (Or.inl (wd hw 221 rfl)) Via.refl e5 HF_ad1_Domains_trailSize HE_ad1 (Or.inl (wd hw 222 rfl)) (wd hw 77 rfl) (ty := .int) (by decide) rfl rfl (g := (mkF m 41 #[.val (.ref ad1), .val (.int iv1), .val (.int (1 : Int32)), .val (.int (0 : Int32))] [(.int (iv4 + (1 : Int32))), (.ref ad1), (.int iv4), (.ref ad3)])) rfl rfl (hb hby d31_41)
  have N6 := Fr.snoc X6 N0 nn_ad1
  have old6 := Ol.wr W6 nn_ad1
  have kp6 := kp0.wr W6 (Or.inl (List.mem_of_getElem? (i := 0) rfl))
  have F6 := HF_ad1_Domains_trailSize.same W6
  refine Go.fin st6 ?_
  show Go p e below _ (T6.setTop (mkF m 44 _ [(.int iv4), (.ref ad3)]))
  refine gs.iloadN X6.here hx (hb hby d31_44) rfl ?_
  refine Go.fin (fun t_ k_ => XS.i2l X6.here hx rfl (hb hby d31_45) rfl k_) ?_
  show Go p e below _ (T6.setTop (mkF m 46 _ [(.long (iv1.toInt64)), (.int iv4), (.ref ad3)]))
  refine gs.bipush 32 X6.here hx (hb hby d31_46) rfl ?_
  refine Go.fin (fun t_ k_ => XS.lshl X6.here hx rfl (hb hby d31_48) rfl k_) ?_
  show Go p e below _ (T6.setTop (mkF m 49 _ [(.long ((iv1.toInt64) <<< ((32 : Int32) &&& 0x3f).toInt64)), (.int iv4), (.ref ad3)]))
  refine gs.iloadN X6.here hx (hb hby d31_49) rfl ?_
  refine Go.fin (fun t_ k_ => XS.i2l X6.here hx rfl (hb hby d31_50) rfl k_) ?_
  show Go p e below _ (T6.setTop (mkF m 51 _ [(.long ((1 : Int32).toInt64)), (.long ((iv1.toInt64) <<< ((32 : Int32) &&& 0x3f).toInt64)), (.int iv4), (.ref ad3)]))
  rw [show ((1 : Int32).toInt64) = (1 : Int64) from by decide]
  refine gs.bipush 30 X6.here hx (hb hby d31_51) rfl ?_
  refine Go.fin (fun t_ k_ => XS.lshl X6.here hx rfl (hb hby d31_53) rfl k_) ?_
  show Go p e below _ (T6.setTop (mkF m 54 _ [(.long ((1 : Int64) <<< ((30 : Int32) &&& 0x3f).toInt64)), (.long ((iv1.toInt64) <<< ((32 : Int32) &&& 0x3f).toInt64)), (.int iv4), (.ref ad3)]))
  refine gs.lor X6.here hx (hb hby d31_54) ?_
  refine gs.iloadN X6.here hx (hb hby d31_55) rfl ?_
  refine Go.fin (fun t_ k_ => XS.i2l X6.here hx rfl (hb hby d31_56) rfl k_) ?_
  show Go p e below _ (T6.setTop (mkF m 57 _ [(.long ((0 : Int32).toInt64)), (.long (((iv1.toInt64) <<< ((32 : Int32) &&& 0x3f).toInt64) ||| ((1 : Int64) <<< ((30 : Int32) &&& 0x3f).toInt64))), (.int iv4), (.ref ad3)]))
  rw [show ((0 : Int32).toInt64) = (0 : Int64) from by decide]
  refine gs.lor X6.here hx (hb hby d31_57) ?_
  have f7 := (HG_ad3.other W6 (Ne.symm ne_ad1_ad3))
  obtain ⟨cl8, Ar8, q8, Sz8, Ng8, Hs8⟩ := id f7
  have hin8 : ¬ (iv4 < 0 ∨ cl8.slots.size ≤ (iv4).toNatClampNeg) := inb_of Sz8 (inb_int as0)
  obtain ⟨T9, h9, X9, e9, W9, st9⟩ := stJ X6 hx hZ e6 Ar8 (j := iv4) hin8 (g := (mkF m 58 #[.val (.ref ad1), .val (.int iv1), .val (.int (1 : Int32)), .val (.int (0 : Int32))] [(.long ((((iv1.toInt64) <<< ((32 : Int32) &&& 0x3f).toInt64) ||| ((1 : Int64) <<< ((30 : Int32) &&& 0x3f).toInt64)) ||| (0 : Int64))), (.int iv4), (.ref ad3)])) rfl rfl (hb hby d31_58)
  have N9 := Fr.snoc X9 N6 nn_ad3
  have old9 := old6.wr W9 nn_ad3
  have kp9 := kp6.wr W9 (Or.inl (List.mem_of_getElem? (i := 1) rfl))
  have V9 : Arf Z h9 ad3 kc6 (1024 : Int32) (fun i => if i = (iv4).toNatClampNeg then ((((iv1.toInt64) <<< ((32 : Int32) &&& 0x3f).toInt64) ||| ((1 : Int64) <<< ((30 : Int32) &&& 0x3f).toInt64)) ||| (0 : Int64)) else fv10 i) := Arf.set Ar8 q8 Sz8 Ng8 Hs8 W9
  refine Go.fin st9 ?_
  show Go p e below _ (T9.setTop (mkF m 59 _ []))
  refine gs.aloadN X9.here hx (hb hby d31_59) rfl rfl ?_
  have f10 := ((HF_ad1_Domains_resized.other W6 (Or.inr (sn81 hw))).other W9 (Or.inl ne_ad1_ad3))
  refine gs.getF X9 hx hZ hown (wd hw 223 rfl) Via.refl e9 f10 (hb hby d31_60) fun T11 X11 e11 => ?_
  refine Go.fin (fun t_ k_ => XS.ifnullYes X11.here hx rfl (pc0 := 63) (pc' := 76) rfl (hb hby d31_63) rfl (by decide) (by decide) k_) ?_
  show Go p e below _ (T11.setTop (mkF m 76 _ []))
  have f12 := ((HE_ad1.wr W6).wr W9)
  have f13 := ((HF_ad1_Domains_holes.other W6 (Or.inr (sn82 hw))).other W9 (Or.inl ne_ad1_ad3))
  have f14 := ((HF_ad1_Domains_initial.other W6 (Or.inr (sn83 hw))).other W9 (Or.inl ne_ad1_ad3))
  have f15 := ((HF_ad1_Domains_lower.other W6 (Or.inr (sn84 hw))).other W9 (Or.inl ne_ad1_ad3))
  have f16 := ((HF_ad1_Domains_sizes.other W6 (Or.inr (sn85 hw))).other W9 (Or.inl ne_ad1_ad3))
  have f17 := ((HF_ad1_Domains_trail.other W6 (Or.inr (sn86 hw))).other W9 (Or.inl ne_ad1_ad3))
  have f18 := (F6.other W9 (Or.inl ne_ad1_ad3))
  have f19 := ((HF_ad1_Domains_upper.other W6 (Or.inr (sn87 hw))).other W9 (Or.inl ne_ad1_ad3))
  have f20 := ((HF_ad1_Domains_withOneValue.other W6 (Or.inr (sn88 hw))).other W9 (Or.inl ne_ad1_ad3))
  refine Go.retV X11 hx Bd.returns Bd.notSynchronized (hb hby d31_76) (by rw [e11]; exact ⟨rfl, N9, kp9, f12, f13, f14, f15, f10, f16, f17, f18, f19, f20, V9⟩) (by decide) (by decide)
theorem pd_20 : parseMethodDescriptor "(III)V" = some ⟨[.int, .int, .int], none⟩ := by decide +kernel
theorem d28_71 : decode c_28 71 = .ok (.return_, 1) := by decide +kernel
theorem ef_am28_1 (m : MethodId) (x0 : Addr) (x1 : Int32) (x2 : Int32)  : entryFrame m #[(.ref x0), (.int x1), (.int x2)] 5 = mkF m 0 #[.val (.ref x0), .val (.int x1), .val (.int x2), .unset, .unset] [] := by first | (simp [entryFrame, mkF, argsToLocals, Value.category]; done) | rfl
def Q_am28_1 (Z : State) (u_1 : Addr) (aw0 : Addr) (u_0 : ClassId) (kaw0 : ClassId) (ad1 : Addr) (iv1 : Int32) (iv2 : Int32) (iv3 : Int32) (ad3 : Addr) (ad4 : Addr) (ad5 : Addr) (ad6 : Addr) (ad7 : Addr) (ad8 : Addr) (iv4 : Int32) (iv5 : Int32) (kc1 : ClassId) (iv6 : Int32) (fv7 : Nat → Int32) (kc2 : ClassId) (fv8 : Nat → Int32) (kc3 : ClassId) (kc4 : ClassId) (kc6 : ClassId) (fv10 : Nat → Int64) (iv11 : Int32) (h0 : Heap) (n0 : Nat) (v : Option Value) (h : Heap) (L : List Loc) : Prop := ∃ ex1 : Int32, v = none ∧ Fr n0 L ∧ Keep h0 h [ad1, ad3, ad5, ad8] ∧ (Exa Z h ad1 "com/example/monarc/monarc/Domains") ∧ (Fld Z h ad1 "com/example/monarc/monarc/Domains" "holes" "[[J" (.ref ad7)) ∧ (Fld Z h ad1 "com/example/monarc/monarc/Domains" "initial" "[Lcom/example/monarc/monarc/InitialDomain;" (.ref ad4)) ∧ (Fld Z h ad1 "com/example/monarc/monarc/Domains" "lower" "[I" (.ref ad5)) ∧ (Fld Z h ad1 "com/example/monarc/monarc/Domains" "resized" "Ljava/util/function/IntConsumer;" .null) ∧ (Fld Z h ad1 "com/example/monarc/monarc/Domains" "sizes" "[I" (.ref ad8)) ∧ (Fld Z h ad1 "com/example/monarc/monarc/Domains" "trail" "[J" (.ref ad3)) ∧ (Fld Z h ad1 "com/example/monarc/monarc/Domains" "trailSize" "I" (.int (iv5 + (1 : Int32)))) ∧ (Fld Z h ad1 "com/example/monarc/monarc/Domains" "upper" "[I" (.ref ad6)) ∧ (Fld Z h ad1 "com/example/monarc/monarc/Domains" "withOneValue" "I" (.int ex1)) ∧ (Arf Z h ad3 kc6 (1024 : Int32) (fun i => if i = (iv5).toNatClampNeg then ((((iv1.toInt64) <<< ((32 : Int32) &&& 0x3f).toInt64) ||| ((1 : Int64) <<< ((30 : Int32) &&& 0x3f).toInt64)) ||| (0 : Int64)) else fv10 i)) ∧ (Ari Z h ad5 kc3 iv6 (fun i => if i = (iv1).toNatClampNeg then (iv11 + (1 : Int32)) else (fun _ => (0 : Int32)) i)) ∧ (Ari Z h ad8 kc1 iv6 (fun i => if i = (iv1).toNatClampNeg then (iv3 - (mxI (0 : Int32) ((iv11 + (1 : Int32)) - (0 : Int32)))) else fv7 i))
set_option maxRecDepth 65536 in
set_option maxHeartbeats 40000000 in
theorem am28_1 (l : Launch) (Z : State) (a0 : Array Value) (hw : ∀ d ∈ tables_1, d.before a0 Z = true) (ws : List Jvm.Cond) (u_1 : Addr) (aw0 : Addr) (u_0 : ClassId) (kaw0 : ClassId) (HW : Wd Z u_1 aw0 u_0 kaw0) (ad1 : Addr) (iv1 : Int32) (iv2 : Int32) (iv3 : Int32) (ad3 : Addr) (ad4 : Addr) (ad5 : Addr) (ad6 : Addr) (ad7 : Addr) (ad8 : Addr) (iv4 : Int32) (iv5 : Int32) (kc1 : ClassId) (iv6 : Int32) (fv7 : Nat → Int32) (kc2 : ClassId) (fv8 : Nat → Int32) (kc3 : ClassId) (kc4 : ClassId) (kc6 : ClassId) (fv10 : Nat → Int64) (iv11 : Int32) (h0 : Heap) (n0 : Nat) (Ol : Old Z n0 h0) (HE_ad1 : Exa Z h0 ad1 "com/example/monarc/monarc/Domains") (HF_ad1_Domains_trail : Fld Z h0 ad1 "com/example/monarc/monarc/Domains" "trail" "[J" (.ref ad3)) (HF_ad1_Domains_initial : Fld Z h0 ad1 "com/example/monarc/monarc/Domains" "initial" "[Lcom/example/monarc/monarc/InitialDomain;" (.ref ad4)) (HF_ad1_Domains_lower : Fld Z h0 ad1 "com/example/monarc/monarc/Domains" "lower" "[I" (.ref ad5)) (HF_ad1_Domains_upper : Fld Z h0 ad1 "com/example/monarc/monarc/Domains" "upper" "[I" (.ref ad6)) (HF_ad1_Domains_holes : Fld Z h0 ad1 "com/example/monarc/monarc/Domains" "holes" "[[J" (.ref ad7)) (HF_ad1_Domains_sizes : Fld Z h0 ad1 "com/example/monarc/monarc/Domains" "sizes" "[I" (.ref ad8)) (HF_ad1_Domains_withOneValue : Fld Z h0 ad1 "com/example/monarc/monarc/Domains" "withOneValue" "I" (.int iv4)) (HF_ad1_Domains_trailSize : Fld Z h0 ad1 "com/example/monarc/monarc/Domains" "trailSize" "I" (.int iv5)) (HF_ad1_Domains_resized : Fld Z h0 ad1 "com/example/monarc/monarc/Domains" "resized" "Ljava/util/function/IntConsumer;" .null) (HG_ad8 : Ari Z h0 ad8 kc1 iv6 fv7) (HG_ad6 : Ari Z h0 ad6 kc2 iv6 fv8) (HG_ad5 : Ari Z h0 ad5 kc3 iv6 (fun _ => (0 : Int32))) (HG_ad7 : Arw Z h0 ad7 kc4 (.array .long) iv6 (fun _ => .null)) (HG_ad3 : Arf Z h0 ad3 kc6 (1024 : Int32) fv10) (nn_ad1 : n0 ≤ ad1) (nn_ad3 : n0 ≤ ad3) (nn_ad5 : n0 ≤ ad5) (nn_ad8 : n0 ≤ ad8) (ne_ad1_ad3 : ad1 ≠ ad3) (ne_ad1_ad5 : ad1 ≠ ad5) (ne_ad1_ad8 : ad1 ≠ ad8) (ne_ad3_ad5 : ad3 ≠ ad5) (ne_ad3_ad8 : ad3 ≠ ad8) (ne_ad5_ad8 : ad5 ≠ ad8) (as0 : 0 ≤ (iv1).toInt ∧ (iv1).toInt < (iv6).toInt) (as1 : 0 ≤ (iv5).toInt ∧ (iv5).toInt < ((1024 : Int32)).toInt) (as2 : iv11 < iv2) (as3 : ¬ (iv5 = (1024 : Int32))) (eq0 : (fv7 (iv1).toNatClampNeg) = iv3) (eq1 : (fv8 (iv1).toNatClampNeg) = iv11) (hO_ad7 : OvrA Z kc4 .long "[J") :
    MetFree l y_28 (head1 (Jvm.Cond.code y_28 prog_11_method_23_code 5 none :: ws) (rm 2 0 0 40)) (fun a_ U_ => a_ = #[(.ref ad1), (.int iv1), (.int iv2)] ∧ Z.Warmed39 U_.vm ∧ U_.heap = h0) (fun _ _ _ _ _ => True) (fun _ U_ o_ V_ => ∃ v_ L_, o_ = .returned v_ ∧ Q_am28_1 Z u_1 aw0 u_0 kaw0 ad1 iv1 iv2 iv3 ad3 ad4 ad5 ad6 ad7 ad8 iv4 iv5 kc1 iv6 fv7 kc2 fv8 kc3 kc4 kc6 fv10 iv11 h0 n0 v_ V_.heap L_ ∧ FrameEnd U_ o_ V_ L_ (rm 2 0 0 40).cells (rm 2 0 0 40).slots) := by
  refine MetFree.of_bodySF (plainFor_of_name pn_7) hisR ?_
  intro p e s m args below meth c s₁ Bd hml0 hP hK
  obtain ⟨rfl, hZ, hh⟩ := hP
  have hx := Bd.exec
  have hby := Bd.bytes
  have hml : c.maxLocals = 5 := hml0
  have hown : s.vm.findClass "com/example/monarc/monarc/Domains" = some m.cls := findClass_of_methodNamed Bd.named
  have hnm := (name_of_methodNamed Bd.named Bd.method).1
  have X0 : Stand p l e (rm 2 0 0 40) s m #[(.ref ad1), (.int iv1), (.int iv2)] below meth c s₁ [] 0 0 := Stand.of_body Bd
  have e0 : s₁.heap = h0 := by rw [← hh, Bd.state]; rfl
  have N0 := Fr.nil n0
  have kp0 := Keep.refl h0 [ad1, ad3, ad5, ad8]
  show Go p e below (Fin1 s below (Q_am28_1 Z u_1 aw0 u_0 kaw0 ad1 iv1 iv2 iv3 ad3 ad4 ad5 ad6 ad7 ad8 iv4 iv5 kc1 iv6 fv7 kc2 fv8 kc3 kc4 kc6 fv10 iv11 h0 n0) (rm 2 0 0 40).cells (rm 2 0 0 40).slots) _
  refine Go.step (fun t_ k_ => castTop (ef_am28_1 m ad1 iv1 iv2) k_) ?_
  obtain ⟨Eu_1, Su_1, Eaw0, Saw0, Au_1, Aaw0⟩ := id HW
  show Go p e below _ (s₁.setTop (mkF m 0 #[.val (.ref ad1), .val (.int iv1), .val (.int iv2), .unset, .unset] []))
  refine gs.iloadN X0.here hx (hb hby d28_0) rfl ?_
  refine gs.aloadN X0.here hx (hb hby d28_1) rfl rfl ?_
  refine gs.getF X0 hx hZ hown (wd hw 106 rfl) Via.refl e0 HF_ad1_Domains_upper (hb hby d28_2) fun T1 X1 e1 => ?_
  refine gs.iloadN X1.here hx (hb hby d28_5) rfl ?_
  obtain ⟨cl2, Ar2, q2, Sz2, Ng2, Hs2⟩ := id HG_ad6
  have hin2 : ¬ (iv1 < 0 ∨ cl2.slots.size ≤ (iv1).toNatClampNeg) := inb_of Sz2 (inb_int as0)
  have hat2 : cl2.slots[(iv1).toNatClampNeg]? = some (.int (fv8 (iv1).toNatClampNeg)) := Hs2 _ (lt_of_in hin2)
  refine Go.fin (fun t_ k_ => X1.iaload hx (j := iv1) (v := (.int (fv8 (iv1).toNatClampNeg))) (by rw [e1]; exact Ar2.1) (State.isArrayOf_alike hZ.alike Ar2.2.1) Ar2.2.2 hin2 hat2 (g := mkF m 6 _ _) rfl rfl (hb hby d28_6) _ k_) ?_
  show Go p e below _ (T1.setTop (mkF m 7 _ [(.int (fv8 (iv1).toNatClampNeg)), (.int iv2)]))
  rw [show (fv8 (iv1).toNatClampNeg) = iv11 from eq1]
  have hc7 : iv11 < iv2 := as2
  refine gs.icmpNo X1.here hx (hb hby d28_7) (tlt hc7).2.2.2 ?_
  refine gs.aloadN X1.here hx (hb hby d28_10) rfl rfl ?_
  refine gs.getF X1 hx hZ hown (wd hw 106 rfl) Via.refl e1 HF_ad1_Domains_upper (hb hby d28_11) fun T3 X3 e3 => ?_
  refine gs.iloadN X3.here hx (hb hby d28_14) rfl ?_
  obtain ⟨cl4, Ar4, q4, Sz4, Ng4, Hs4⟩ := id HG_ad6
  have hin4 : ¬ (iv1 < 0 ∨ cl4.slots.size ≤ (iv1).toNatClampNeg) := inb_of Sz4 (inb_int as0)
  have hat4 : cl4.slots[(iv1).toNatClampNeg]? = some (.int (fv8 (iv1).toNatClampNeg)) := Hs4 _ (lt_of_in hin4)
  refine Go.fin (fun t_ k_ => X3.iaload hx (j := iv1) (v := (.int (fv8 (iv1).toNatClampNeg))) (by rw [e3]; exact Ar4.1) (State.isArrayOf_alike hZ.alike Ar4.2.1) Ar4.2.2 hin4 hat4 (g := mkF m 15 _ _) rfl rfl (hb hby d28_15) _ k_) ?_
  show Go p e below _ (T3.setTop (mkF m 16 _ [(.int (fv8 (iv1).toNatClampNeg))]))
  rw [show (fv8 (iv1).toNatClampNeg) = iv11 from eq1]
  refine gs.iconst 1 X3.here hx (hb hby d28_16) rfl ?_
  refine gs.iadd X3.here hx (hb hby d28_17) ?_
  refine gs.goto 27 X3.here hx (hb hby d28_18) rfl ?_
  refine gs.istoreN X3.here hx (hb hby d28_27) (l' := #[.val (.ref ad1), .val (.int iv1), .val (.int iv2), .val (.int (iv11 + (1 : Int32))), .unset]) rfl ?_
  refine gs.aloadN X3.here hx (hb hby d28_28) rfl rfl ?_
  refine gs.getF X3 hx hZ hown (wd hw 104 rfl) Via.refl e3 HF_ad1_Domains_lower (hb hby d28_29) fun T5 X5 e5 => ?_
  refine gs.iloadN X5.here hx (hb hby d28_32) rfl ?_
  obtain ⟨cl6, Ar6, q6, Sz6, Ng6, Hs6⟩ := id HG_ad5
  have hin6 : ¬ (iv1 < 0 ∨ cl6.slots.size ≤ (iv1).toNatClampNeg) := inb_of Sz6 (inb_int as0)
  have hat6 : cl6.slots[(iv1).toNatClampNeg]? = some (.int ((fun _ => (0 : Int32)) (iv1).toNatClampNeg)) := Hs6 _ (lt_of_in hin6)
  rw [show ((fun _ => (0 : Int32)) (iv1).toNatClampNeg) = (0 : Int32) from rfl] at hat6
  refine Go.fin (fun t_ k_ => X5.iaload hx (j := iv1) (v := (.int (0 : Int32))) (by rw [e5]; exact Ar6.1) (State.isArrayOf_alike hZ.alike Ar6.2.1) Ar6.2.2 hin6 hat6 (g := mkF m 33 _ _) rfl rfl (hb hby d28_33) _ k_) ?_
  show Go p e below _ (T5.setTop (mkF m 34 _ [(.int (0 : Int32))]))
  refine gs.istore X5.here hx (hb hby d28_34) (l' := #[.val (.ref ad1), .val (.int iv1), .val (.int iv2), .val (.int (iv11 + (1 : Int32))), .val (.int (0 : Int32))]) rfl ?_
  refine gs.aloadN X5.here hx (hb hby d28_36) rfl rfl ?_
  refine gs.iloadN X5.here hx (hb hby d28_37) rfl ?_
  refine gs.aloadN X5.here hx (hb hby d28_38) rfl rfl ?_
  refine gs.getF X5 hx hZ hown (wd hw 112 rfl) Via.refl e5 HF_ad1_Domains_sizes (hb hby d28_39) fun T7 X7 e7 => ?_
  refine gs.iloadN X7.here hx (hb hby d28_42) rfl ?_
  obtain ⟨cl8, Ar8, q8, Sz8, Ng8, Hs8⟩ := id HG_ad8
  have hin8 : ¬ (iv1 < 0 ∨ cl8.slots.size ≤ (iv1).toNatClampNeg) := inb_of Sz8 (inb_int as0)
  have hat8 : cl8.slots[(iv1).toNatClampNeg]? = some (.int (fv7 (iv1).toNatClampNeg)) := Hs8 _ (lt_of_in hin8)
  refine Go.fin (fun t_ k_ => X7.iaload hx (j := iv1) (v := (.int (fv7 (iv1).toNatClampNeg))) (by rw [e7]; exact Ar8.1) (State.isArrayOf_alike hZ.alike Ar8.2.1) Ar8.2.2 hin8 hat8 (g := mkF m 43 _ _) rfl rfl (hb hby d28_43) _ k_) ?_
  show Go p e below _ (T7.setTop (mkF m 44 _ [(.int (fv7 (iv1).toNatClampNeg)), (.int iv1), (.ref ad1)]))
  rw [show (fv7 (iv1).toNatClampNeg) = iv3 from eq0]
  refine gs.aloadN X7.here hx (hb hby d28_44) rfl rfl ?_
  refine gs.iloadN X7.here hx (hb hby d28_45) rfl ?_
  refine gs.iload X7.here hx (hb hby d28_46) rfl ?_
  refine gs.iloadN X7.here hx (hb hby d28_48) rfl ?_
  refine gs.priv 3 X7 hx hZ hown (am29_1 l Z a0 hw [] u_1 aw0 u_0 kaw0 HW (ad1) (iv1) ((iv11 + (1 : Int32))) (ad7) (iv6) (kc4) h0 n0 Ol HF_ad1_Domains_holes HG_ad7 as0 hO_ad7) (wd hw 211 rfl) (wd hw 78 rfl) (wd hw 208 rfl) (wd hw 209 rfl) (sel_priv hZ (wd hw 77 rfl) (wd hw 210 rfl) (wd hw 209 rfl) (by decide)) (wd hw 210 rfl) (by decide) HE_ad1 (by decide) (by decide) (by rw [hml]; rfl) [(.int iv1), (.int (0 : Int32)), (.int (iv11 + (1 : Int32)))] (lenOf pd_18 rfl) rfl (Nat.le_of_eq rfl) (hb hby d28_49) rfl e7 (by decide) (by decide) fun T9 Lc9 v9 X9 hQ9 => ?_
  obtain ⟨rfl, Nq9, e9⟩ := hQ9
  have N9 := Fr.app N0 Nq9
  show Go p e below _ (T9.setTop (mkF m 52 _ [(.int (mxI (0 : Int32) ((iv11 + (1 : Int32)) - (0 : Int32)))), (.int iv3), (.int iv1), (.ref ad1)]))
  refine gs.isub X9.here hx (hb hby d28_52) ?_
  refine gs.priv 0 X9 hx hZ hown (am30_1 l Z a0 hw [] u_1 aw0 u_0 kaw0 HW (ad1) (iv1) ((iv3 - (mxI (0 : Int32) ((iv11 + (1 : Int32)) - (0 : Int32))))) (iv3) (ad3) (ad4) (ad5) (ad6) (ad7) (ad8) (iv4) (iv5) (kc1) (iv6) (fv7) h0 n0 Ol HE_ad1 HF_ad1_Domains_trail HF_ad1_Domains_initial HF_ad1_Domains_lower HF_ad1_Domains_upper HF_ad1_Domains_holes HF_ad1_Domains_sizes HF_ad1_Domains_withOneValue HF_ad1_Domains_trailSize HF_ad1_Domains_resized HG_ad8 nn_ad1 nn_ad8 ne_ad1_ad8 as0 eq0) (wd hw 216 rfl) (wd hw 78 rfl) (wd hw 213 rfl) (wd hw 214 rfl) (sel_priv hZ (wd hw 77 rfl) (wd hw 215 rfl) (wd hw 214 rfl) (by decide)) (wd hw 215 rfl) (by decide) HE_ad1 (by decide) (by decide) (by rw [hml]; rfl) [(.int iv1), (.int (iv3 - (mxI (0 : Int32) ((iv11 + (1 : Int32)) - (0 : Int32)))))] (lenOf pd_19 rfl) rfl (Nat.le_of_eq rfl) (hb hby d28_53) rfl e9 (by decide) (by decide) fun T10 Lc10 v10 X10 hQ10 => ?_
  obtain ⟨ex10_0, rfl, Nq10, K10, p10_0, p10_1, p10_2, p10_3, p10_4, p10_5, p10_6, p10_7, p10_8, p10_9, p10_10⟩ := hQ10
  have old10 := Ol.keep K10 (allS nn_ad1 (allS nn_ad8 all0))
  have kp10 := kp0.trans K10 (allS (Or.inl (List.mem_of_getElem? (i := 0) rfl)) (allS (Or.inl (List.mem_of_getElem? (i := 3) rfl)) all0))
  have N10 := Fr.app N9 Nq10
  show Go p e below _ (T10.setTop (mkF m 56 _ []))
  refine gs.aloadN X10.here hx (hb hby d28_56) rfl rfl ?_
  refine gs.getF X10 hx hZ hown (wd hw 104 rfl) Via.refl rfl p10_3 (hb hby d28_57) fun T11 X11 e11 => ?_
  refine gs.iloadN X11.here hx (hb hby d28_60) rfl ?_
  refine gs.iloadN X11.here hx (hb hby d28_61) rfl ?_
  have f12 := (HG_ad5.keep K10 (ninS (Ne.symm ne_ad1_ad5) (ninS ne_ad5_ad8 nin0)))
  obtain ⟨cl13, Ar13, q13, Sz13, Ng13, Hs13⟩ := id f12
  have hin13 : ¬ (iv1 < 0 ∨ cl13.slots.size ≤ (iv1).toNatClampNeg) := inb_of Sz13 (inb_int as0)
  obtain ⟨T14, h14, X14, e14, W14, st14⟩ := stI X11 hx hZ e11 Ar13 (j := iv1) hin13 (g := (mkF m 62 #[.val (.ref ad1), .val (.int iv1), .val (.int iv2), .val (.int (iv11 + (1 : Int32))), .val (.int (0 : Int32))] [(.int (iv11 + (1 : Int32))), (.int iv1), (.ref ad5)])) rfl rfl (hb hby d28_62)
  have N14 := Fr.snoc X14 N10 nn_ad5
  have old14 := old10.wr W14 nn_ad5
  have kp14 := kp10.wr W14 (Or.inl (List.mem_of_getElem? (i := 2) rfl))
  have V14 : Ari Z h14 ad5 kc3 iv6 (fun i => if i = (iv1).toNatClampNeg then (iv11 + (1 : Int32)) else (fun _ => (0 : Int32)) i) := Ari.set Ar13 q13 Sz13 Ng13 Hs13 W14
  refine Go.fin st14 ?_
  show Go p e below _ (T14.setTop (mkF m 63 _ []))
  refine gs.aloadN X14.here hx (hb hby d28_63) rfl rfl ?_
  refine gs.iloadN X14.here hx (hb hby d28_64) rfl ?_
  refine gs.iconst 1 X14.here hx (hb hby d28_65) rfl ?_
  refine gs.iload X14.here hx (hb hby d28_66) rfl ?_
  have f15 := (p10_0.wr W14)
  have f16 := (p10_6.other W14 (Or.inl ne_ad1_ad5))
  have f17 := (p10_2.other W14 (Or.inl ne_ad1_ad5))
  have f18 := (p10_3.other W14 (Or.inl ne_ad1_ad5))
  have f19 := (p10_8.other W14 (Or.inl ne_ad1_ad5))
  have f20 := (p10_1.other W14 (Or.inl ne_ad1_ad5))
  have f21 := (p10_5.other W14 (Or.inl ne_ad1_ad5))
  have f22 := (p10_9.other W14 (Or.inl ne_ad1_ad5))
  have f23 := (p10_7.other W14 (Or.inl ne_ad1_ad5))
  have f24 := (p10_4.other W14 (Or.inl ne_ad1_ad5))
  have f25 := ((HG_ad3.keep K10 (ninS (Ne.symm ne_ad1_ad3) (ninS ne_ad3_ad8 nin0))).other W14 ne_ad3_ad5)
  refine gs.priv 0 X14 hx hZ hown (am31_1 l Z a0 hw [] u_1 aw0 u_0 kaw0 HW (ad1) (iv1) (ad3) (ad4) (ad5) (ad6) (ad7) (ad8) (ex10_0) (iv5) (kc6) (fv10) h14 n0 old14 f15 f16 f17 f18 f19 f20 f21 f22 f23 f24 f25 nn_ad1 nn_ad3 ne_ad1_ad3 as1 as3) (wd hw 220 rfl) (wd hw 78 rfl) (wd hw 217 rfl) (wd hw 218 rfl) (sel_priv hZ (wd hw 77 rfl) (wd hw 219 rfl) (wd hw 218 rfl) (by decide)) (wd hw 219 rfl) (by decide) f15 (by decide) (by decide) (by rw [hml]; rfl) [(.int iv1), (.int (1 : Int32)), (.int (0 : Int32))] (lenOf pd_20 rfl) rfl (Nat.le_of_eq rfl) (hb hby d28_68) rfl e14 (by decide) (by decide) fun T26 Lc26 v26 X26 hQ26 => ?_
  obtain ⟨rfl, Nq26, K26, p26_0, p26_1, p26_2, p26_3, p26_4, p26_5, p26_6, p26_7, p26_8, p26_9, p26_10⟩ := hQ26
  have old26 := old14.keep K26 (allS nn_ad1 (allS nn_ad3 all0))
  have kp26 := kp14.trans K26 (allS (Or.inl (List.mem_of_getElem? (i := 0) rfl)) (allS (Or.inl (List.mem_of_getElem? (i := 1) rfl)) all0))
  have N26 := Fr.app N14 Nq26
  show Go p e below _ (T26.setTop (mkF m 71 _ []))
  have f27 := (V14.keep K26 (ninS (Ne.symm ne_ad1_ad5) (ninS (Ne.symm ne_ad3_ad5) nin0)))
  have f28 := ((p10_10.other W14 (Ne.symm ne_ad5_ad8)).keep K26 (ninS (Ne.symm ne_ad1_ad8) (ninS (Ne.symm ne_ad3_ad8) nin0)))
  refine Go.retV X26 hx Bd.returns Bd.notSynchronized (hb hby d28_71) (by exact ⟨(ex10_0), rfl, N26, kp26, p26_0, p26_1, p26_2, p26_3, p26_4, p26_5, p26_6, p26_7, p26_8, p26_9, p26_10, f27, f28⟩) (by decide) (by decide)
theorem d26_39 : decode c_26 39 = .ok (.return_, 1) := by decide +kernel
theorem ef_am26_1 (m : MethodId) (x0 : Addr) (x1 : Int32) (x2 : Int64)  : entryFrame m #[(.ref x0), (.int x1), (.long x2)] 5 = mkF m 0 #[.val (.ref x0), .val (.int x1), .val (.long x2), .second, .unset] [] := by first | (simp [entryFrame, mkF, argsToLocals, Value.category]; done) | rfl
def Q_am26_1 (Z : State) (u_1 : Addr) (aw0 : Addr) (u_0 : ClassId) (kaw0 : ClassId) (ad1 : Addr) (iv1 : Int32) (lv2 : Int64) (ad2 : Addr) (iv3 : Int32) (ad3 : Addr) (ad4 : Addr) (ad5 : Addr) (ad6 : Addr) (ad7 : Addr) (ad8 : Addr) (iv4 : Int32) (iv5 : Int32) (kc1 : ClassId) (iv6 : Int32) (fv7 : Nat → Int32) (kc2 : ClassId) (fv8 : Nat → Int32) (kc3 : ClassId) (kc4 : ClassId) (kc5 : ClassId) (fv9 : Nat → Addr) (kc6 : ClassId) (fv10 : Nat → Int64) (iv11 : Int32) (iv12 : Int32) (h0 : Heap) (n0 : Nat) (v : Option Value) (h : Heap) (L : List Loc) : Prop := ∃ ex1 : Int32, v = none ∧ Fr n0 L ∧ Keep h0 h [ad1, ad3, ad5, ad8] ∧ (Exa Z h ad1 "com/example/monarc/monarc/Domains") ∧ (Fld Z h ad1 "com/example/monarc/monarc/Domains" "holes" "[[J" (.ref ad7)) ∧ (Fld Z h ad1 "com/example/monarc/monarc/Domains" "initial" "[Lcom/example/monarc/monarc/InitialDomain;" (.ref ad4)) ∧ (Fld Z h ad1 "com/example/monarc/monarc/Domains" "lower" "[I" (.ref ad5)) ∧ (Fld Z h ad1 "com/example/monarc/monarc/Domains" "resized" "Ljava/util/function/IntConsumer;" .null) ∧ (Fld Z h ad1 "com/example/monarc/monarc/Domains" "sizes" "[I" (.ref ad8)) ∧ (Fld Z h ad1 "com/example/monarc/monarc/Domains" "trail" "[J" (.ref ad3)) ∧ (Fld Z h ad1 "com/example/monarc/monarc/Domains" "trailSize" "I" (.int (iv5 + (1 : Int32)))) ∧ (Fld Z h ad1 "com/example/monarc/monarc/Domains" "upper" "[I" (.ref ad6)) ∧ (Fld Z h ad1 "com/example/monarc/monarc/Domains" "withOneValue" "I" (.int ex1)) ∧ (Arf Z h ad3 kc6 (1024 : Int32) (fun i => if i = (iv5).toNatClampNeg then ((((iv1.toInt64) <<< ((32 : Int32) &&& 0x3f).toInt64) ||| ((1 : Int64) <<< ((30 : Int32) &&& 0x3f).toInt64)) ||| (0 : Int64)) else fv10 i)) ∧ (Ari Z h ad5 kc3 iv6 (fun i => if i = (iv1).toNatClampNeg then (iv12 + (1 : Int32)) else (fun _ => (0 : Int32)) i)) ∧ (Ari Z h ad8 kc1 iv6 (fun i => if i = (iv1).toNatClampNeg then (iv3 - (mxI (0 : Int32) ((iv12 + (1 : Int32)) - (0 : Int32)))) else fv7 i))
set_option maxRecDepth 65536 in
set_option maxHeartbeats 40000000 in
theorem am26_1 (l : Launch) (Z : State) (a0 : Array Value) (hw : ∀ d ∈ tables_1, d.before a0 Z = true) (ws : List Jvm.Cond) (u_1 : Addr) (aw0 : Addr) (u_0 : ClassId) (kaw0 : ClassId) (HW : Wd Z u_1 aw0 u_0 kaw0) (ad1 : Addr) (iv1 : Int32) (lv2 : Int64) (ad2 : Addr) (iv3 : Int32) (ad3 : Addr) (ad4 : Addr) (ad5 : Addr) (ad6 : Addr) (ad7 : Addr) (ad8 : Addr) (iv4 : Int32) (iv5 : Int32) (kc1 : ClassId) (iv6 : Int32) (fv7 : Nat → Int32) (kc2 : ClassId) (fv8 : Nat → Int32) (kc3 : ClassId) (kc4 : ClassId) (kc5 : ClassId) (fv9 : Nat → Addr) (kc6 : ClassId) (fv10 : Nat → Int64) (iv11 : Int32) (iv12 : Int32) (h0 : Heap) (n0 : Nat) (Ol : Old Z n0 h0) (HE_ad2 : Exa Z h0 ad2 "com/example/monarc/monarc/InitialDomain") (HF_ad2_InitialDomain_lowest : Fld Z h0 ad2 "com/example/monarc/monarc/InitialDomain" "lowest" "I" (.int (0 : Int32))) (HF_ad2_InitialDomain_size : Fld Z h0 ad2 "com/example/monarc/monarc/InitialDomain" "size" "I" (.int iv3)) (HF_ad2_InitialDomain_values : Fld Z h0 ad2 "com/example/monarc/monarc/InitialDomain" "values" "[I" .null) (HE_ad1 : Exa Z h0 ad1 "com/example/monarc/monarc/Domains") (HF_ad1_Domains_trail : Fld Z h0 ad1 "com/example/monarc/monarc/Domains" "trail" "[J" (.ref ad3)) (HF_ad1_Domains_initial : Fld Z h0 ad1 "com/example/monarc/monarc/Domains" "initial" "[Lcom/example/monarc/monarc/InitialDomain;" (.ref ad4)) (HF_ad1_Domains_lower : Fld Z h0 ad1 "com/example/monarc/monarc/Domains" "lower" "[I" (.ref ad5)) (HF_ad1_Domains_upper : Fld Z h0 ad1 "com/example/monarc/monarc/Domains" "upper" "[I" (.ref ad6)) (HF_ad1_Domains_holes : Fld Z h0 ad1 "com/example/monarc/monarc/Domains" "holes" "[[J" (.ref ad7)) (HF_ad1_Domains_sizes : Fld Z h0 ad1 "com/example/monarc/monarc/Domains" "sizes" "[I" (.ref ad8)) (HF_ad1_Domains_withOneValue : Fld Z h0 ad1 "com/example/monarc/monarc/Domains" "withOneValue" "I" (.int iv4)) (HF_ad1_Domains_trailSize : Fld Z h0 ad1 "com/example/monarc/monarc/Domains" "trailSize" "I" (.int iv5)) (HF_ad1_Domains_resized : Fld Z h0 ad1 "com/example/monarc/monarc/Domains" "resized" "Ljava/util/function/IntConsumer;" .null) (HG_ad8 : Ari Z h0 ad8 kc1 iv6 fv7) (HG_ad6 : Ari Z h0 ad6 kc2 iv6 fv8) (HG_ad5 : Ari Z h0 ad5 kc3 iv6 (fun _ => (0 : Int32))) (HG_ad7 : Arw Z h0 ad7 kc4 (.array .long) iv6 (fun _ => .null)) (HG_ad4 : Ara Z h0 ad4 kc5 (.object "com/example/monarc/monarc/InitialDomain") iv6 fv9) (HG_ad3 : Arf Z h0 ad3 kc6 (1024 : Int32) fv10) (nn_ad1 : n0 ≤ ad1) (nn_ad3 : n0 ≤ ad3) (nn_ad5 : n0 ≤ ad5) (nn_ad8 : n0 ≤ ad8) (ne_ad1_ad3 : ad1 ≠ ad3) (ne_ad1_ad5 : ad1 ≠ ad5) (ne_ad1_ad8 : ad1 ≠ ad8) (ne_ad3_ad5 : ad3 ≠ ad5) (ne_ad3_ad8 : ad3 ≠ ad8) (ne_ad5_ad8 : ad5 ≠ ad8) (as0 : (0 : Int32) < iv11) (as1 : (0 : Int32) < iv3) (as2 : 0 ≤ (iv1).toInt ∧ (iv1).toInt < (iv6).toInt) (as3 : 0 ≤ (iv5).toInt ∧ (iv5).toInt < ((1024 : Int32)).toInt) (as4 : iv12 < iv11) (as5 : ¬ (iv5 = (1024 : Int32))) (eq0 : ((mnL (iv3.toInt64) (mxL (0 : Int64) ((mxL (-2147483648 : Int64) (mnL lv2 (2147483648 : Int64))) - (0 : Int64)))).toInt32) = iv11) (eq1 : (fv7 (iv1).toNatClampNeg) = iv3) (eq2 : (fv8 (iv1).toNatClampNeg) = iv12) (rq0 : (fv9 (iv1).toNatClampNeg) = ad2) (hO_ad7 : OvrA Z kc4 .long "[J") (hO_ad4 : Ovr Z kc5 "com/example/monarc/monarc/InitialDomain") :
    MetFree l y_26 (head1 (Jvm.Cond.code y_26 prog_11_method_20_code 5 none :: ws) (rm 3 0 0 56)) (fun a_ U_ => a_ = #[(.ref ad1), (.int iv1), (.long lv2)] ∧ Z.Warmed39 U_.vm ∧ U_.heap = h0) (fun _ _ _ _ _ => True) (fun _ U_ o_ V_ => ∃ v_ L_, o_ = .returned v_ ∧ Q_am26_1 Z u_1 aw0 u_0 kaw0 ad1 iv1 lv2 ad2 iv3 ad3 ad4 ad5 ad6 ad7 ad8 iv4 iv5 kc1 iv6 fv7 kc2 fv8 kc3 kc4 kc5 fv9 kc6 fv10 iv11 iv12 h0 n0 v_ V_.heap L_ ∧ FrameEnd U_ o_ V_ L_ (rm 3 0 0 56).cells (rm 3 0 0 56).slots) := by
  refine MetFree.of_bodySF (plainFor_of_name pn_7) hisR ?_
  intro p e s m args below meth c s₁ Bd hml0 hP hK
  obtain ⟨rfl, hZ, hh⟩ := hP
  have hx := Bd.exec
  have hby := Bd.bytes
  have hml : c.maxLocals = 5 := hml0
  have hown : s.vm.findClass "com/example/monarc/monarc/Domains" = some m.cls := findClass_of_methodNamed Bd.named
  have hnm := (name_of_methodNamed Bd.named Bd.method).1
  have X0 : Stand p l e (rm 3 0 0 56) s m #[(.ref ad1), (.int iv1), (.long lv2)] below meth c s₁ [] 0 0 := Stand.of_body Bd
  have e0 : s₁.heap = h0 := by rw [← hh, Bd.state]; rfl
  have N0 := Fr.nil n0
  have kp0 := Keep.refl h0 [ad1, ad3, ad5, ad8]
  show Go p e below (Fin1 s below (Q_am26_1 Z u_1 aw0 u_0 kaw0 ad1 iv1 lv2 ad2 iv3 ad3 ad4 ad5 ad6 ad7 ad8 iv4 iv5 kc1 iv6 fv7 kc2 fv8 kc3 kc4 kc5 fv9 kc6 fv10 iv11 iv12 h0 n0) (rm 3 0 0 56).cells (rm 3 0 0 56).slots) _
  refine Go.step (fun t_ k_ => castTop (ef_am26_1 m ad1 iv1 lv2) k_) ?_
  obtain ⟨Eu_1, Su_1, Eaw0, Saw0, Au_1, Aaw0⟩ := id HW
  show Go p e below _ (s₁.setTop (mkF m 0 #[.val (.ref ad1), .val (.int iv1), .val (.long lv2), .second, .unset] []))
  refine gs.aloadN X0.here hx (hb hby d26_0) rfl rfl ?_
  refine gs.getF X0 hx hZ hown (wd hw 102 rfl) Via.refl e0 HF_ad1_Domains_initial (hb hby d26_1) fun T1 X1 e1 => ?_
  refine gs.iloadN X1.here hx (hb hby d26_4) rfl ?_
  obtain ⟨cl2, Ar2, q2, Sz2, Ng2, Hs2⟩ := id HG_ad4
  have hin2 : ¬ (iv1 < 0 ∨ cl2.slots.size ≤ (iv1).toNatClampNeg) := inb_of Sz2 (inb_int as2)
  have hat2 : cl2.slots[(iv1).toNatClampNeg]? = some (.ref (fv9 (iv1).toNatClampNeg)) := Hs2 _ (lt_of_in hin2)
  rw [show (fv9 (iv1).toNatClampNeg) = ad2 from rq0] at hat2
  refine Go.fin (fun t_ k_ => X1.aaload hx (j := iv1) (v := (.ref ad2)) (by rw [e1]; exact Ar2.1) (State.isArrayOf_alike hZ.alike Ar2.2.1) rfl Ar2.2.2 hin2 hat2 (g := mkF m 5 _ _) rfl rfl (hb hby d26_5) _ k_) ?_
  show Go p e below _ (T1.setTop (mkF m 6 _ [(.ref ad2)]))
  refine gs.lloadN X1.here hx (hb hby d26_6) rfl ?_
  refine gs.virt 0 X1 hx hZ hown (am27_1 l Z a0 hw [] u_1 aw0 u_0 kaw0 HW (ad2) (lv2) (iv3) (iv11) h0 n0 Ol HF_ad2_InitialDomain_lowest HF_ad2_InitialDomain_size HF_ad2_InitialDomain_values eq0) (wd hw 199 rfl) (wd hw 7 rfl) (wd hw 195 rfl) (wd hw 196 rfl) (notFace_of_selects (args := #[]) (mvT hZ (wd hw 198 rfl))) (wd hw 198 rfl) (wd hw 197 rfl) (by decide) HE_ad2 (by decide) (by decide) (by rw [hml]; rfl) [(.long lv2)] (lenOf pd_17 rfl) rfl (Nat.le_of_eq rfl) (hb hby d26_7) rfl e1 (by decide) (by decide) fun T3 Lc3 v3 X3 hQ3 => ?_
  obtain ⟨rfl, Nq3, e3⟩ := hQ3
  have N3 := Fr.app N0 Nq3
  show Go p e below _ (T3.setTop (mkF m 10 _ [(.int iv11)]))
  refine gs.istore X3.here hx (hb hby d26_10) (l' := #[.val (.ref ad1), .val (.int iv1), .val (.long lv2), .second, .val (.int iv11)]) rfl ?_
  refine gs.aloadN X3.here hx (hb hby d26_12) rfl rfl ?_
  refine gs.getF X3 hx hZ hown (wd hw 112 rfl) Via.refl e3 HF_ad1_Domains_sizes (hb hby d26_13) fun T4 X4 e4 => ?_
  refine gs.iloadN X4.here hx (hb hby d26_16) rfl ?_
  obtain ⟨cl5, Ar5, q5, Sz5, Ng5, Hs5⟩ := id HG_ad8
  have hin5 : ¬ (iv1 < 0 ∨ cl5.slots.size ≤ (iv1).toNatClampNeg) := inb_of Sz5 (inb_int as2)
  have hat5 : cl5.slots[(iv1).toNatClampNeg]? = some (.int (fv7 (iv1).toNatClampNeg)) := Hs5 _ (lt_of_in hin5)
  refine Go.fin (fun t_ k_ => X4.iaload hx (j := iv1) (v := (.int (fv7 (iv1).toNatClampNeg))) (by rw [e4]; exact Ar5.1) (State.isArrayOf_alike hZ.alike Ar5.2.1) Ar5.2.2 hin5 hat5 (g := mkF m 17 _ _) rfl rfl (hb hby d26_17) _ k_) ?_
  show Go p e below _ (T4.setTop (mkF m 18 _ [(.int (fv7 (iv1).toNatClampNeg))]))
  rw [show (fv7 (iv1).toNatClampNeg) = iv3 from eq1]
  have hc18 : (0 : Int32) < iv3 := as1
  refine gs.ifNo X4.here hx (hb hby d26_18) ((if0 _ _).trans (tlt hc18).2.2.2) ?_
  refine gs.iload X4.here hx (hb hby d26_21) rfl ?_
  refine gs.aloadN X4.here hx (hb hby d26_23) rfl rfl ?_
  refine gs.getF X4 hx hZ hown (wd hw 104 rfl) Via.refl e4 HF_ad1_Domains_lower (hb hby d26_24) fun T6 X6 e6 => ?_
  refine gs.iloadN X6.here hx (hb hby d26_27) rfl ?_
  obtain ⟨cl7, Ar7, q7, Sz7, Ng7, Hs7⟩ := id HG_ad5
  have hin7 : ¬ (iv1 < 0 ∨ cl7.slots.size ≤ (iv1).toNatClampNeg) := inb_of Sz7 (inb_int as2)
  have hat7 : cl7.slots[(iv1).toNatClampNeg]? = some (.int ((fun _ => (0 : Int32)) (iv1).toNatClampNeg)) := Hs7 _ (lt_of_in hin7)
  rw [show ((fun _ => (0 : Int32)) (iv1).toNatClampNeg) = (0 : Int32) from rfl] at hat7
  refine Go.fin (fun t_ k_ => X6.iaload hx (j := iv1) (v := (.int (0 : Int32))) (by rw [e6]; exact Ar7.1) (State.isArrayOf_alike hZ.alike Ar7.2.1) Ar7.2.2 hin7 hat7 (g := mkF m 28 _ _) rfl rfl (hb hby d26_28) _ k_) ?_
  show Go p e below _ (T6.setTop (mkF m 29 _ [(.int (0 : Int32)), (.int iv11)]))
  have hc29 : (0 : Int32) < iv11 := as0
  refine gs.icmpNo X6.here hx (hb hby d26_29) (tlt hc29).2.2.2 ?_
  refine gs.aloadN X6.here hx (hb hby d26_32) rfl rfl ?_
  refine gs.iloadN X6.here hx (hb hby d26_33) rfl ?_
  refine gs.iload X6.here hx (hb hby d26_34) rfl ?_
  refine gs.priv 0 X6 hx hZ hown (am28_1 l Z a0 hw [] u_1 aw0 u_0 kaw0 HW (ad1) (iv1) (iv11) (iv3) (ad3) (ad4) (ad5) (ad6) (ad7) (ad8) (iv4) (iv5) (kc1) (iv6) (fv7) (kc2) (fv8) (kc3) (kc4) (kc6) (fv10) (iv12) h0 n0 Ol HE_ad1 HF_ad1_Domains_trail HF_ad1_Domains_initial HF_ad1_Domains_lower HF_ad1_Domains_upper HF_ad1_Domains_holes HF_ad1_Domains_sizes HF_ad1_Domains_withOneValue HF_ad1_Domains_trailSize HF_ad1_Domains_resized HG_ad8 HG_ad6 HG_ad5 HG_ad7 HG_ad3 nn_ad1 nn_ad3 nn_ad5 nn_ad8 ne_ad1_ad3 ne_ad1_ad5 ne_ad1_ad8 ne_ad3_ad5 ne_ad3_ad8 ne_ad5_ad8 as2 as3 as4 as5 eq1 eq2 hO_ad7) (wd hw 207 rfl) (wd hw 78 rfl) (wd hw 204 rfl) (wd hw 205 rfl) (sel_priv hZ (wd hw 77 rfl) (wd hw 206 rfl) (wd hw 205 rfl) (by decide)) (wd hw 206 rfl) (by decide) HE_ad1 (by decide) (by decide) (by rw [hml]; rfl) [(.int iv1), (.int iv11)] (lenOf pd_19 rfl) rfl (Nat.le_of_eq rfl) (hb hby d26_36) rfl e6 (by decide) (by decide) fun T8 Lc8 v8 X8 hQ8 => ?_
  obtain ⟨ex8_0, rfl, Nq8, K8, p8_0, p8_1, p8_2, p8_3, p8_4, p8_5, p8_6, p8_7, p8_8, p8_9, p8_10, p8_11, p8_12⟩ := hQ8
  have old8 := Ol.keep K8 (allS nn_ad1 (allS nn_ad3 (allS nn_ad5 (allS nn_ad8 all0))))
  have kp8 := kp0.trans K8 (allS (Or.inl (List.mem_of_getElem? (i := 0) rfl)) (allS (Or.inl (List.mem_of_getElem? (i := 1) rfl)) (allS (Or.inl (List.mem_of_getElem? (i := 2) rfl)) (allS (Or.inl (List.mem_of_getElem? (i := 3) rfl)) all0))))
  have N8 := Fr.app N3 Nq8
  show Go p e below _ (T8.setTop (mkF m 39 _ []))
  refine Go.retV X8 hx Bd.returns Bd.notSynchronized (hb hby d26_39) (by exact ⟨(ex8_0), rfl, N8, kp8, p8_0, p8_1, p8_2, p8_3, p8_4, p8_5, p8_6, p8_7, p8_8, p8_9, p8_10, p8_11, p8_12⟩) (by decide) (by decide)
theorem pd_21 : parseMethodDescriptor "(IJ)V" = some ⟨[.int, .long], none⟩ := by decide +kernel
theorem d28_21 : decode c_28 21 = .ok (.aload_n 0, 1) := by decide +kernel
theorem d28_22 : decode c_28 22 = .ok (.iload_n 1, 1) := by decide +kernel
theorem d28_23 : decode c_28 23 = .ok (.iload_n 2, 1) := by decide +kernel
theorem d28_24 : decode c_28 24 = .ok (.invokevirtual 84, 3) := by decide +kernel
theorem d32_0 : decode c_32 0 = .ok (.iload_n 2, 1) := by decide +kernel
theorem d32_1 : decode c_32 1 = .ok (.aload_n 0, 1) := by decide +kernel
theorem d32_2 : decode c_32 2 = .ok (.getfield 32, 3) := by decide +kernel
theorem d32_5 : decode c_32 5 = .ok (.iload_n 1, 1) := by decide +kernel
theorem d32_6 : decode c_32 6 = .ok (.iaload, 1) := by decide +kernel
theorem d32_7 : decode c_32 7 = .ok (.if_icmp .le 5, 3) := by decide +kernel
theorem d32_12 : decode c_32 12 = .ok (.aload_n 0, 1) := by decide +kernel
theorem d32_13 : decode c_32 13 = .ok (.getfield 36, 3) := by decide +kernel
theorem d32_16 : decode c_32 16 = .ok (.iload_n 1, 1) := by decide +kernel
theorem d32_17 : decode c_32 17 = .ok (.aaload, 1) := by decide +kernel
theorem d32_18 : decode c_32 18 = .ok (.astore_n 3, 1) := by decide +kernel
theorem d32_19 : decode c_32 19 = .ok (.aload_n 3, 1) := by decide +kernel
theorem d32_20 : decode c_32 20 = .ok (.ifnonnull 5, 3) := by decide +kernel
theorem d32_23 : decode c_32 23 = .ok (.iload_n 2, 1) := by decide +kernel
theorem d32_24 : decode c_32 24 = .ok (.ireturn, 1) := by decide +kernel
theorem ef_am32_1 (m : MethodId) (x0 : Addr) (x1 : Int32) (x2 : Int32)  : entryFrame m #[(.ref x0), (.int x1), (.int x2)] 7 = mkF m 0 #[.val (.ref x0), .val (.int x1), .val (.int x2), .unset, .unset, .unset, .unset] [] := by first | (simp [entryFrame, mkF, argsToLocals, Value.category]; done) | rfl
def Q_am32_1 (Z : State) (u_1 : Addr) (aw0 : Addr) (u_0 : ClassId) (kaw0 : ClassId) (ad1 : Addr) (iv1 : Int32) (iv2 : Int32) (ad6 : Addr) (ad7 : Addr) (iv6 : Int32) (kc2 : ClassId) (fv8 : Nat → Int32) (kc4 : ClassId) (iv11 : Int32) (h0 : Heap) (n0 : Nat) (v : Option Value) (h : Heap) (L : List Loc) : Prop := v = some (.int iv2) ∧ Fr n0 L ∧ h = h0
set_option maxRecDepth 65536 in
set_option maxHeartbeats 40000000 in
theorem am32_1 (l : Launch) (Z : State) (a0 : Array Value) (hw : ∀ d ∈ tables_1, d.before a0 Z = true) (ws : List Jvm.Cond) (u_1 : Addr) (aw0 : Addr) (u_0 : ClassId) (kaw0 : ClassId) (HW : Wd Z u_1 aw0 u_0 kaw0) (ad1 : Addr) (iv1 : Int32) (iv2 : Int32) (ad6 : Addr) (ad7 : Addr) (iv6 : Int32) (kc2 : ClassId) (fv8 : Nat → Int32) (kc4 : ClassId) (iv11 : Int32) (h0 : Heap) (n0 : Nat) (Ol : Old Z n0 h0) (HF_ad1_Domains_upper : Fld Z h0 ad1 "com/example/monarc/monarc/Domains" "upper" "[I" (.ref ad6)) (HF_ad1_Domains_holes : Fld Z h0 ad1 "com/example/monarc/monarc/Domains" "holes" "[[J" (.ref ad7)) (HG_ad6 : Ari Z h0 ad6 kc2 iv6 fv8) (HG_ad7 : Arw Z h0 ad7 kc4 (.array .long) iv6 (fun _ => .null)) (as0 : 0 ≤ (iv1).toInt ∧ (iv1).toInt < (iv6).toInt) (as1 : ¬ (iv11 < iv2)) (eq0 : (fv8 (iv1).toNatClampNeg) = iv11) (hO_ad7 : OvrA Z kc4 .long "[J") :
    MetFree l y_32 (head1 (Jvm.Cond.code y_32 prog_11_method_14_code 7 (some .int) :: ws) (rm 0 0 0 0)) (fun a_ U_ => a_ = #[(.ref ad1), (.int iv1), (.int iv2)] ∧ Z.Warmed39 U_.vm ∧ U_.heap = h0) (fun _ _ _ _ _ => True) (fun _ U_ o_ V_ => ∃ v_ L_, o_ = .returned v_ ∧ Q_am32_1 Z u_1 aw0 u_0 kaw0 ad1 iv1 iv2 ad6 ad7 iv6 kc2 fv8 kc4 iv11 h0 n0 v_ V_.heap L_ ∧ FrameEnd U_ o_ V_ L_ (rm 0 0 0 0).cells (rm 0 0 0 0).slots) := by
  refine MetFree.of_bodySF (plainFor_of_name pn_7) hisR ?_
  intro p e s m args below meth c s₁ Bd hml0 hP hK
  obtain ⟨rfl, hZ, hh⟩ := hP
  have hx := Bd.exec
  have hby := Bd.bytes
  have hml : c.maxLocals = 7 := hml0
  have hown : s.vm.findClass "com/example/monarc/monarc/Domains" = some m.cls := findClass_of_methodNamed Bd.named
  have hnm := (name_of_methodNamed Bd.named Bd.method).1
  have X0 : Stand p l e (rm 0 0 0 0) s m #[(.ref ad1), (.int iv1), (.int iv2)] below meth c s₁ [] 0 0 := Stand.of_body Bd
  have e0 : s₁.heap = h0 := by rw [← hh, Bd.state]; rfl
  have N0 := Fr.nil n0
  have kp0 := Keep.refl h0 []
  show Go p e below (Fin1 s below (Q_am32_1 Z u_1 aw0 u_0 kaw0 ad1 iv1 iv2 ad6 ad7 iv6 kc2 fv8 kc4 iv11 h0 n0) (rm 0 0 0 0).cells (rm 0 0 0 0).slots) _
  refine Go.step (fun t_ k_ => castTop (ef_am32_1 m ad1 iv1 iv2) k_) ?_
  obtain ⟨Eu_1, Su_1, Eaw0, Saw0, Au_1, Aaw0⟩ := id HW
  show Go p e below _ (s₁.setTop (mkF m 0 #[.val (.ref ad1), .val (.int iv1), .val (.int iv2), .unset, .unset, .unset, .unset] []))
  refine gs.iloadN X0.here hx (hb hby d32_0) rfl ?_
  refine gs.aloadN X0.here hx (hb hby d32_1) rfl rfl ?_
  refine gs.getF X0 hx hZ hown (wd hw 106 rfl) Via.refl e0 HF_ad1_Domains_upper (hb hby d32_2) fun T1 X1 e1 => ?_
  refine gs.iloadN X1.here hx (hb hby d32_5) rfl ?_
  obtain ⟨cl2, Ar2, q2, Sz2, Ng2, Hs2⟩ := id HG_ad6
  have hin2 : ¬ (iv1 < 0 ∨ cl2.slots.size ≤ (iv1).toNatClampNeg) := inb_of Sz2 (inb_int as0)
  have hat2 : cl2.slots[(iv1).toNatClampNeg]? = some (.int (fv8 (iv1).toNatClampNeg)) := Hs2 _ (lt_of_in hin2)
  refine Go.fin (fun t_ k_ => X1.iaload hx (j := iv1) (v := (.int (fv8 (iv1).toNatClampNeg))) (by rw [e1]; exact Ar2.1) (State.isArrayOf_alike hZ.alike Ar2.2.1) Ar2.2.2 hin2 hat2 (g := mkF m 6 _ _) rfl rfl (hb hby d32_6) _ k_) ?_
  show Go p e below _ (T1.setTop (mkF m 7 _ [(.int (fv8 (iv1).toNatClampNeg)), (.int iv2)]))
  rw [show (fv8 (iv1).toNatClampNeg) = iv11 from eq0]
  have hc7 : ¬ (iv11 < iv2) := as1
  refine gs.icmpYes 12 X1.here hx (hb hby d32_7) (flt hc7).2.2.2 rfl ?_
  refine gs.aloadN X1.here hx (hb hby d32_12) rfl rfl ?_
  refine gs.getF X1 hx hZ hown (wd hw 110 rfl) Via.refl e1 HF_ad1_Domains_holes (hb hby d32_13) fun T3 X3 e3 => ?_
  refine gs.iloadN X3.here hx (hb hby d32_16) rfl ?_
  obtain ⟨cl4, Ar4, q4, Sz4, Ng4, Hs4⟩ := id HG_ad7
  have hin4 : ¬ (iv1 < 0 ∨ cl4.slots.size ≤ (iv1).toNatClampNeg) := inb_of Sz4 (inb_int as0)
  have hat4 : cl4.slots[(iv1).toNatClampNeg]? = some ((fun _ => .null) (iv1).toNatClampNeg) := Hs4 _ (lt_of_in hin4)
  replace hat4 : cl4.slots[(iv1).toNatClampNeg]? = some .null := hat4
  refine Go.fin (fun t_ k_ => X3.aaload hx (j := iv1) (v := .null) (by rw [e3]; exact Ar4.1) (State.isArrayOf_alike hZ.alike Ar4.2.1) rfl Ar4.2.2 hin4 hat4 (g := mkF m 17 _ _) rfl rfl (hb hby d32_17) _ k_) ?_
  show Go p e below _ (T3.setTop (mkF m 18 _ [.null]))
  refine gs.astoreN X3.here hx (hb hby d32_18) rfl (l' := #[.val (.ref ad1), .val (.int iv1), .val (.int iv2), .val .null, .unset, .unset, .unset]) rfl ?_
  refine gs.aloadN X3.here hx (hb hby d32_19) rfl rfl ?_
  refine Go.fin (fun t_ k_ => XS.ifnonnullNo X3.here hx rfl (hb hby d32_20) rfl k_) ?_
  show Go p e below _ (T3.setTop (mkF m 23 _ []))
  refine gs.iloadN X3.here hx (hb hby d32_23) rfl ?_
  refine Go.retI X3 hx Bd.returns Bd.notSynchronized (hb hby d32_24) (by rw [e3]; exact ⟨rfl, N0, rfl⟩) (by decide) (by decide)
def Q_am28_2 (Z : State) (u_1 : Addr) (aw0 : Addr) (u_0 : ClassId) (kaw0 : ClassId) (ad1 : Addr) (iv1 : Int32) (iv2 : Int32) (iv3 : Int32) (ad3 : Addr) (ad4 : Addr) (ad5 : Addr) (ad6 : Addr) (ad7 : Addr) (ad8 : Addr) (iv4 : Int32) (iv5 : Int32) (kc1 : ClassId) (iv6 : Int32) (fv7 : Nat → Int32) (kc2 : ClassId) (fv8 : Nat → Int32) (kc3 : ClassId) (kc4 : ClassId) (kc6 : ClassId) (fv10 : Nat → Int64) (iv11 : Int32) (h0 : Heap) (n0 : Nat) (v : Option Value) (h : Heap) (L : List Loc) : Prop := ∃ ex1 : Int32, v = none ∧ Fr n0 L ∧ Keep h0 h [ad1, ad3, ad5, ad8] ∧ (Exa Z h ad1 "com/example/monarc/monarc/Domains") ∧ (Fld Z h ad1 "com/example/monarc/monarc/Domains" "holes" "[[J" (.ref ad7)) ∧ (Fld Z h ad1 "com/example/monarc/monarc/Domains" "initial" "[Lcom/example/monarc/monarc/InitialDomain;" (.ref ad4)) ∧ (Fld Z h ad1 "com/example/monarc/monarc/Domains" "lower" "[I" (.ref ad5)) ∧ (Fld Z h ad1 "com/example/monarc/monarc/Domains" "resized" "Ljava/util/function/IntConsumer;" .null) ∧ (Fld Z h ad1 "com/example/monarc/monarc/Domains" "sizes" "[I" (.ref ad8)) ∧ (Fld Z h ad1 "com/example/monarc/monarc/Domains" "trail" "[J" (.ref ad3)) ∧ (Fld Z h ad1 "com/example/monarc/monarc/Domains" "trailSize" "I" (.int (iv5 + (1 : Int32)))) ∧ (Fld Z h ad1 "com/example/monarc/monarc/Domains" "upper" "[I" (.ref ad6)) ∧ (Fld Z h ad1 "com/example/monarc/monarc/Domains" "withOneValue" "I" (.int ex1)) ∧ (Arf Z h ad3 kc6 (1024 : Int32) (fun i => if i = (iv5).toNatClampNeg then ((((iv1.toInt64) <<< ((32 : Int32) &&& 0x3f).toInt64) ||| ((1 : Int64) <<< ((30 : Int32) &&& 0x3f).toInt64)) ||| (0 : Int64)) else fv10 i)) ∧ (Ari Z h ad5 kc3 iv6 (fun i => if i = (iv1).toNatClampNeg then iv2 else (fun _ => (0 : Int32)) i)) ∧ (Ari Z h ad8 kc1 iv6 (fun i => if i = (iv1).toNatClampNeg then (iv3 - (mxI (0 : Int32) (iv2 - (0 : Int32)))) else fv7 i))
set_option maxRecDepth 65536 in
set_option maxHeartbeats 40000000 in
theorem am28_2 (l : Launch) (Z : State) (a0 : Array Value) (hw : ∀ d ∈ tables_1, d.before a0 Z = true) (ws : List Jvm.Cond) (u_1 : Addr) (aw0 : Addr) (u_0 : ClassId) (kaw0 : ClassId) (HW : Wd Z u_1 aw0 u_0 kaw0) (ad1 : Addr) (iv1 : Int32) (iv2 : Int32) (iv3 : Int32) (ad3 : Addr) (ad4 : Addr) (ad5 : Addr) (ad6 : Addr) (ad7 : Addr) (ad8 : Addr) (iv4 : Int32) (iv5 : Int32) (kc1 : ClassId) (iv6 : Int32) (fv7 : Nat → Int32) (kc2 : ClassId) (fv8 : Nat → Int32) (kc3 : ClassId) (kc4 : ClassId) (kc6 : ClassId) (fv10 : Nat → Int64) (iv11 : Int32) (h0 : Heap) (n0 : Nat) (Ol : Old Z n0 h0) (HE_ad1 : Exa Z h0 ad1 "com/example/monarc/monarc/Domains") (HF_ad1_Domains_trail : Fld Z h0 ad1 "com/example/monarc/monarc/Domains" "trail" "[J" (.ref ad3)) (HF_ad1_Domains_initial : Fld Z h0 ad1 "com/example/monarc/monarc/Domains" "initial" "[Lcom/example/monarc/monarc/InitialDomain;" (.ref ad4)) (HF_ad1_Domains_lower : Fld Z h0 ad1 "com/example/monarc/monarc/Domains" "lower" "[I" (.ref ad5)) (HF_ad1_Domains_upper : Fld Z h0 ad1 "com/example/monarc/monarc/Domains" "upper" "[I" (.ref ad6)) (HF_ad1_Domains_holes : Fld Z h0 ad1 "com/example/monarc/monarc/Domains" "holes" "[[J" (.ref ad7)) (HF_ad1_Domains_sizes : Fld Z h0 ad1 "com/example/monarc/monarc/Domains" "sizes" "[I" (.ref ad8)) (HF_ad1_Domains_withOneValue : Fld Z h0 ad1 "com/example/monarc/monarc/Domains" "withOneValue" "I" (.int iv4)) (HF_ad1_Domains_trailSize : Fld Z h0 ad1 "com/example/monarc/monarc/Domains" "trailSize" "I" (.int iv5)) (HF_ad1_Domains_resized : Fld Z h0 ad1 "com/example/monarc/monarc/Domains" "resized" "Ljava/util/function/IntConsumer;" .null) (HG_ad8 : Ari Z h0 ad8 kc1 iv6 fv7) (HG_ad6 : Ari Z h0 ad6 kc2 iv6 fv8) (HG_ad5 : Ari Z h0 ad5 kc3 iv6 (fun _ => (0 : Int32))) (HG_ad7 : Arw Z h0 ad7 kc4 (.array .long) iv6 (fun _ => .null)) (HG_ad3 : Arf Z h0 ad3 kc6 (1024 : Int32) fv10) (nn_ad1 : n0 ≤ ad1) (nn_ad3 : n0 ≤ ad3) (nn_ad5 : n0 ≤ ad5) (nn_ad8 : n0 ≤ ad8) (ne_ad1_ad3 : ad1 ≠ ad3) (ne_ad1_ad5 : ad1 ≠ ad5) (ne_ad1_ad8 : ad1 ≠ ad8) (ne_ad3_ad5 : ad3 ≠ ad5) (ne_ad3_ad8 : ad3 ≠ ad8) (ne_ad5_ad8 : ad5 ≠ ad8) (as0 : 0 ≤ (iv1).toInt ∧ (iv1).toInt < (iv6).toInt) (as1 : 0 ≤ (iv5).toInt ∧ (iv5).toInt < ((1024 : Int32)).toInt) (as2 : ¬ (iv11 < iv2)) (as3 : ¬ (iv5 = (1024 : Int32))) (eq0 : (fv7 (iv1).toNatClampNeg) = iv3) (eq1 : (fv8 (iv1).toNatClampNeg) = iv11) (hO_ad7 : OvrA Z kc4 .long "[J") :
    MetFree l y_28 (head1 (Jvm.Cond.code y_28 prog_11_method_23_code 5 none :: ws) (rm 2 0 0 40)) (fun a_ U_ => a_ = #[(.ref ad1), (.int iv1), (.int iv2)] ∧ Z.Warmed39 U_.vm ∧ U_.heap = h0) (fun _ _ _ _ _ => True) (fun _ U_ o_ V_ => ∃ v_ L_, o_ = .returned v_ ∧ Q_am28_2 Z u_1 aw0 u_0 kaw0 ad1 iv1 iv2 iv3 ad3 ad4 ad5 ad6 ad7 ad8 iv4 iv5 kc1 iv6 fv7 kc2 fv8 kc3 kc4 kc6 fv10 iv11 h0 n0 v_ V_.heap L_ ∧ FrameEnd U_ o_ V_ L_ (rm 2 0 0 40).cells (rm 2 0 0 40).slots) := by
  refine MetFree.of_bodySF (plainFor_of_name pn_7) hisR ?_
  intro p e s m args below meth c s₁ Bd hml0 hP hK
  obtain ⟨rfl, hZ, hh⟩ := hP
  have hx := Bd.exec
  have hby := Bd.bytes
  have hml : c.maxLocals = 5 := hml0
  have hown : s.vm.findClass "com/example/monarc/monarc/Domains" = some m.cls := findClass_of_methodNamed Bd.named
  have hnm := (name_of_methodNamed Bd.named Bd.method).1
  have X0 : Stand p l e (rm 2 0 0 40) s m #[(.ref ad1), (.int iv1), (.int iv2)] below meth c s₁ [] 0 0 := Stand.of_body Bd
  have e0 : s₁.heap = h0 := by rw [← hh, Bd.state]; rfl
  have N0 := Fr.nil n0
  have kp0 := Keep.refl h0 [ad1, ad3, ad5, ad8]
  show Go p e below (Fin1 s below (Q_am28_2 Z u_1 aw0 u_0 kaw0 ad1 iv1 iv2 iv3 ad3 ad4 ad5 ad6 ad7 ad8 iv4 iv5 kc1 iv6 fv7 kc2 fv8 kc3 kc4 kc6 fv10 iv11 h0 n0) (rm 2 0 0 40).cells (rm 2 0 0 40).slots) _
  refine Go.step (fun t_ k_ => castTop (ef_am28_1 m ad1 iv1 iv2) k_) ?_
  obtain ⟨Eu_1, Su_1, Eaw0, Saw0, Au_1, Aaw0⟩ := id HW
  show Go p e below _ (s₁.setTop (mkF m 0 #[.val (.ref ad1), .val (.int iv1), .val (.int iv2), .unset, .unset] []))
  refine gs.iloadN X0.here hx (hb hby d28_0) rfl ?_
  refine gs.aloadN X0.here hx (hb hby d28_1) rfl rfl ?_
  refine gs.getF X0 hx hZ hown (wd hw 106 rfl) Via.refl e0 HF_ad1_Domains_upper (hb hby d28_2) fun T1 X1 e1 => ?_
  refine gs.iloadN X1.here hx (hb hby d28_5) rfl ?_
  obtain ⟨cl2, Ar2, q2, Sz2, Ng2, Hs2⟩ := id HG_ad6
  have hin2 : ¬ (iv1 < 0 ∨ cl2.slots.size ≤ (iv1).toNatClampNeg) := inb_of Sz2 (inb_int as0)
  have hat2 : cl2.slots[(iv1).toNatClampNeg]? = some (.int (fv8 (iv1).toNatClampNeg)) := Hs2 _ (lt_of_in hin2)
  refine Go.fin (fun t_ k_ => X1.iaload hx (j := iv1) (v := (.int (fv8 (iv1).toNatClampNeg))) (by rw [e1]; exact Ar2.1) (State.isArrayOf_alike hZ.alike Ar2.2.1) Ar2.2.2 hin2 hat2 (g := mkF m 6 _ _) rfl rfl (hb hby d28_6) _ k_) ?_
  show Go p e below _ (T1.setTop (mkF m 7 _ [(.int (fv8 (iv1).toNatClampNeg)), (.int iv2)]))
  rw [show (fv8 (iv1).toNatClampNeg) = iv11 from eq1]
  have hc7 : ¬ (iv11 < iv2) := as2
  refine gs.icmpYes 21 X1.here hx (hb hby d28_7) (flt hc7).2.2.2 rfl ?_
  refine gs.aloadN X1.here hx (hb hby d28_21) rfl rfl ?_
  refine gs.iloadN X1.here hx (hb hby d28_22) rfl ?_
  refine gs.iloadN X1.here hx (hb hby d28_23) rfl ?_
  refine gs.priv 0 X1 hx hZ hown (am32_1 l Z a0 hw [] u_1 aw0 u_0 kaw0 HW (ad1) (iv1) (iv2) (ad6) (ad7) (iv6) (kc2) (fv8) (kc4) (iv11) h0 n0 Ol HF_ad1_Domains_upper HF_ad1_Domains_holes HG_ad6 HG_ad7 as0 as2 eq1 hO_ad7) (wd hw 228 rfl) (wd hw 78 rfl) (wd hw 225 rfl) (wd hw 226 rfl) (sel_priv hZ (wd hw 77 rfl) (wd hw 227 rfl) (wd hw 226 rfl) (by decide)) (wd hw 227 rfl) (by decide) HE_ad1 (by decide) (by decide) (by rw [hml]; rfl) [(.int iv1), (.int iv2)] (lenOf pd_8 rfl) rfl (Nat.le_of_eq rfl) (hb hby d28_24) rfl e1 (by decide) (by decide) fun T3 Lc3 v3 X3 hQ3 => ?_
  obtain ⟨rfl, Nq3, e3⟩ := hQ3
  have N3 := Fr.app N0 Nq3
  show Go p e below _ (T3.setTop (mkF m 27 _ [(.int iv2)]))
  refine gs.istoreN X3.here hx (hb hby d28_27) (l' := #[.val (.ref ad1), .val (.int iv1), .val (.int iv2), .val (.int iv2), .unset]) rfl ?_
  refine gs.aloadN X3.here hx (hb hby d28_28) rfl rfl ?_
  refine gs.getF X3 hx hZ hown (wd hw 104 rfl) Via.refl e3 HF_ad1_Domains_lower (hb hby d28_29) fun T4 X4 e4 => ?_
  refine gs.iloadN X4.here hx (hb hby d28_32) rfl ?_
  obtain ⟨cl5, Ar5, q5, Sz5, Ng5, Hs5⟩ := id HG_ad5
  have hin5 : ¬ (iv1 < 0 ∨ cl5.slots.size ≤ (iv1).toNatClampNeg) := inb_of Sz5 (inb_int as0)
  have hat5 : cl5.slots[(iv1).toNatClampNeg]? = some (.int ((fun _ => (0 : Int32)) (iv1).toNatClampNeg)) := Hs5 _ (lt_of_in hin5)
  rw [show ((fun _ => (0 : Int32)) (iv1).toNatClampNeg) = (0 : Int32) from rfl] at hat5
  refine Go.fin (fun t_ k_ => X4.iaload hx (j := iv1) (v := (.int (0 : Int32))) (by rw [e4]; exact Ar5.1) (State.isArrayOf_alike hZ.alike Ar5.2.1) Ar5.2.2 hin5 hat5 (g := mkF m 33 _ _) rfl rfl (hb hby d28_33) _ k_) ?_
  show Go p e below _ (T4.setTop (mkF m 34 _ [(.int (0 : Int32))]))
  refine gs.istore X4.here hx (hb hby d28_34) (l' := #[.val (.ref ad1), .val (.int iv1), .val (.int iv2), .val (.int iv2), .val (.int (0 : Int32))]) rfl ?_
  refine gs.aloadN X4.here hx (hb hby d28_36) rfl rfl ?_
  refine gs.iloadN X4.here hx (hb hby d28_37) rfl ?_
  refine gs.aloadN X4.here hx (hb hby d28_38) rfl rfl ?_
  refine gs.getF X4 hx hZ hown (wd hw 112 rfl) Via.refl e4 HF_ad1_Domains_sizes (hb hby d28_39) fun T6 X6 e6 => ?_
  refine gs.iloadN X6.here hx (hb hby d28_42) rfl ?_
  obtain ⟨cl7, Ar7, q7, Sz7, Ng7, Hs7⟩ := id HG_ad8
  have hin7 : ¬ (iv1 < 0 ∨ cl7.slots.size ≤ (iv1).toNatClampNeg) := inb_of Sz7 (inb_int as0)
  have hat7 : cl7.slots[(iv1).toNatClampNeg]? = some (.int (fv7 (iv1).toNatClampNeg)) := Hs7 _ (lt_of_in hin7)
  refine Go.fin (fun t_ k_ => X6.iaload hx (j := iv1) (v := (.int (fv7 (iv1).toNatClampNeg))) (by rw [e6]; exact Ar7.1) (State.isArrayOf_alike hZ.alike Ar7.2.1) Ar7.2.2 hin7 hat7 (g := mkF m 43 _ _) rfl rfl (hb hby d28_43) _ k_) ?_
  show Go p e below _ (T6.setTop (mkF m 44 _ [(.int (fv7 (iv1).toNatClampNeg)), (.int iv1), (.ref ad1)]))
  rw [show (fv7 (iv1).toNatClampNeg) = iv3 from eq0]
  refine gs.aloadN X6.here hx (hb hby d28_44) rfl rfl ?_
  refine gs.iloadN X6.here hx (hb hby d28_45) rfl ?_
  refine gs.iload X6.here hx (hb hby d28_46) rfl ?_
  refine gs.iloadN X6.here hx (hb hby d28_48) rfl ?_
  refine gs.priv 3 X6 hx hZ hown (am29_1 l Z a0 hw [] u_1 aw0 u_0 kaw0 HW (ad1) (iv1) (iv2) (ad7) (iv6) (kc4) h0 n0 Ol HF_ad1_Domains_holes HG_ad7 as0 hO_ad7) (wd hw 211 rfl) (wd hw 78 rfl) (wd hw 208 rfl) (wd hw 209 rfl) (sel_priv hZ (wd hw 77 rfl) (wd hw 210 rfl) (wd hw 209 rfl) (by decide)) (wd hw 210 rfl) (by decide) HE_ad1 (by decide) (by decide) (by rw [hml]; rfl) [(.int iv1), (.int (0 : Int32)), (.int iv2)] (lenOf pd_18 rfl) rfl (Nat.le_of_eq rfl) (hb hby d28_49) rfl e6 (by decide) (by decide) fun T8 Lc8 v8 X8 hQ8 => ?_
  obtain ⟨rfl, Nq8, e8⟩ := hQ8
  have N8 := Fr.app N3 Nq8
  show Go p e below _ (T8.setTop (mkF m 52 _ [(.int (mxI (0 : Int32) (iv2 - (0 : Int32)))), (.int iv3), (.int iv1), (.ref ad1)]))
  refine gs.isub X8.here hx (hb hby d28_52) ?_
  refine gs.priv 0 X8 hx hZ hown (am30_1 l Z a0 hw [] u_1 aw0 u_0 kaw0 HW (ad1) (iv1) ((iv3 - (mxI (0 : Int32) (iv2 - (0 : Int32))))) (iv3) (ad3) (ad4) (ad5) (ad6) (ad7) (ad8) (iv4) (iv5) (kc1) (iv6) (fv7) h0 n0 Ol HE_ad1 HF_ad1_Domains_trail HF_ad1_Domains_initial HF_ad1_Domains_lower HF_ad1_Domains_upper HF_ad1_Domains_holes HF_ad1_Domains_sizes HF_ad1_Domains_withOneValue HF_ad1_Domains_trailSize HF_ad1_Domains_resized HG_ad8 nn_ad1 nn_ad8 ne_ad1_ad8 as0 eq0) (wd hw 216 rfl) (wd hw 78 rfl) (wd hw 213 rfl) (wd hw 214 rfl) (sel_priv hZ (wd hw 77 rfl) (wd hw 215 rfl) (wd hw 214 rfl) (by decide)) (wd hw 215 rfl) (by decide) HE_ad1 (by decide) (by decide) (by rw [hml]; rfl) [(.int iv1), (.int (iv3 - (mxI (0 : Int32) (iv2 - (0 : Int32)))))] (lenOf pd_19 rfl) rfl (Nat.le_of_eq rfl) (hb hby d28_53) rfl e8 (by decide) (by decide) fun T9 Lc9 v9 X9 hQ9 => ?_
  obtain ⟨ex9_0, rfl, Nq9, K9, p9_0, p9_1, p9_2, p9_3, p9_4, p9_5, p9_6, p9_7, p9_8, p9_9, p9_10⟩ := hQ9
  have old9 := Ol.keep K9 (allS nn_ad1 (allS nn_ad8 all0))
  have kp9 := kp0.trans K9 (allS (Or.inl (List.mem_of_getElem? (i := 0) rfl)) (allS (Or.inl (List.mem_of_getElem? (i := 3) rfl)) all0))
  have N9 := Fr.app N8 Nq9
  show Go p e below _ (T9.setTop (mkF m 56 _ []))
  refine gs.aloadN X9.here hx (hb hby d28_56) rfl rfl ?_
  refine gs.getF X9 hx hZ hown (wd hw 104 rfl) Via.refl rfl p9_3 (hb hby d28_57) fun T10 X10 e10 => ?_
  refine gs.iloadN X10.here hx (hb hby d28_60) rfl ?_
  refine gs.iloadN X10.here hx (hb hby d28_61) rfl ?_
  have f11 := (HG_ad5.keep K9 (ninS (Ne.symm ne_ad1_ad5) (ninS ne_ad5_ad8 nin0)))
  obtain ⟨cl12, Ar12, q12, Sz12, Ng12, Hs12⟩ := id f11
  have hin12 : ¬ (iv1 < 0 ∨ cl12.slots.size ≤ (iv1).toNatClampNeg) := inb_of Sz12 (inb_int as0)
  obtain ⟨T13, h13, X13, e13, W13, st13⟩ := stI X10 hx hZ e10 Ar12 (j := iv1) hin12 (g := (mkF m 62 #[.val (.ref ad1), .val (.int iv1), .val (.int iv2), .val (.int iv2), .val (.int (0 : Int32))] [(.int iv2), (.int iv1), (.ref ad5)])) rfl rfl (hb hby d28_62)
  have N13 := Fr.snoc X13 N9 nn_ad5
  have old13 := old9.wr W13 nn_ad5
  have kp13 := kp9.wr W13 (Or.inl (List.mem_of_getElem? (i := 2) rfl))
  have V13 : Ari Z h13 ad5 kc3 iv6 (fun i => if i = (iv1).toNatClampNeg then iv2 else (fun _ => (0 : Int32)) i) := Ari.set Ar12 q12 Sz12 Ng12 Hs12 W13
  refine Go.fin st13 ?_
  show Go p e below _ (T13.setTop (mkF m 63 _ []))
  refine gs.aloadN X13.here hx (hb hby d28_63) rfl rfl ?_
  refine gs.iloadN X13.here hx (hb hby d28_64) rfl ?_
  refine gs.iconst 1 X13.here hx (hb hby d28_65) rfl ?_
  refine gs.iload X13.here hx (hb hby d28_66) rfl ?_
  have f14 := (p9_0.wr W13)
  have f15 := (p9_6.other W13 (Or.inl ne_ad1_ad5))
  have f16 := (p9_2.other W13 (Or.inl ne_ad1_ad5))
  have f17 := (p9_3.other W13 (Or.inl ne_ad1_ad5))
  have f18 := (p9_8.other W13 (Or.inl ne_ad1_ad5))
  have f19 := (p9_1.other W13 (Or.inl ne_ad1_ad5))
  have f20 := (p9_5.other W13 (Or.inl ne_ad1_ad5))
  have f21 := (p9_9.other W13 (Or.inl ne_ad1_ad5))
  have f22 := (p9_7.other W13 (Or.inl ne_ad1_ad5))
  have f23 := (p9_4.other W13 (Or.inl ne_ad1_ad5))
  have f24 := ((HG_ad3.keep K9 (ninS (Ne.symm ne_ad1_ad3) (ninS ne_ad3_ad8 nin0))).other W13 ne_ad3_ad5)
  refine gs.priv 0 X13 hx hZ hown (am31_1 l Z a0 hw [] u_1 aw0 u_0 kaw0 HW (ad1) (iv1) (ad3) (ad4) (ad5) (ad6) (ad7) (ad8) (ex9_0) (iv5) (kc6) (fv10) h13 n0 old13 f14 f15 f16 f17 f18 f19 f20 f21 f22 f23 f24 nn_ad1 nn_ad3 ne_ad1_ad3 as1 as3) (wd hw 220 rfl) (wd hw 78 rfl) (wd hw 217 rfl) (wd hw 218 rfl) (sel_priv hZ (wd hw 77 rfl) (wd hw 219 rfl) (wd hw 218 rfl) (by decide)) (wd hw 219 rfl) (by decide) f14 (by decide) (by decide) (by rw [hml]; rfl) [(.int iv1), (.int (1 : Int32)), (.int (0 : Int32))] (lenOf pd_20 rfl) rfl (Nat.le_of_eq rfl) (hb hby d28_68) rfl e13 (by decide) (by decide) fun T25 Lc25 v25 X25 hQ25 => ?_
  obtain ⟨rfl, Nq25, K25, p25_0, p25_1, p25_2, p25_3, p25_4, p25_5, p25_6, p25_7, p25_8, p25_9, p25_10⟩ := hQ25
  have old25 := old13.keep K25 (allS nn_ad1 (allS nn_ad3 all0))
  have kp25 := kp13.trans K25 (allS (Or.inl (List.mem_of_getElem? (i := 0) rfl)) (allS (Or.inl (List.mem_of_getElem? (i := 1) rfl)) all0))
  have N25 := Fr.app N13 Nq25
  show Go p e below _ (T25.setTop (mkF m 71 _ []))
  have f26 := (V13.keep K25 (ninS (Ne.symm ne_ad1_ad5) (ninS (Ne.symm ne_ad3_ad5) nin0)))
  have f27 := ((p9_10.other W13 (Ne.symm ne_ad5_ad8)).keep K25 (ninS (Ne.symm ne_ad1_ad8) (ninS (Ne.symm ne_ad3_ad8) nin0)))
  refine Go.retV X25 hx Bd.returns Bd.notSynchronized (hb hby d28_71) (by exact ⟨(ex9_0), rfl, N25, kp25, p25_0, p25_1, p25_2, p25_3, p25_4, p25_5, p25_6, p25_7, p25_8, p25_9, p25_10, f26, f27⟩) (by decide) (by decide)
def Q_am26_2 (Z : State) (u_1 : Addr) (aw0 : Addr) (u_0 : ClassId) (kaw0 : ClassId) (ad1 : Addr) (iv1 : Int32) (lv2 : Int64) (ad2 : Addr) (iv3 : Int32) (ad3 : Addr) (ad4 : Addr) (ad5 : Addr) (ad6 : Addr) (ad7 : Addr) (ad8 : Addr) (iv4 : Int32) (iv5 : Int32) (kc1 : ClassId) (iv6 : Int32) (fv7 : Nat → Int32) (kc2 : ClassId) (fv8 : Nat → Int32) (kc3 : ClassId) (kc4 : ClassId) (kc5 : ClassId) (fv9 : Nat → Addr) (kc6 : ClassId) (fv10 : Nat → Int64) (iv11 : Int32) (iv12 : Int32) (h0 : Heap) (n0 : Nat) (v : Option Value) (h : Heap) (L : List Loc) : Prop := ∃ ex1 : Int32, v = none ∧ Fr n0 L ∧ Keep h0 h [ad1, ad3, ad5, ad8] ∧ (Exa Z h ad1 "com/example/monarc/monarc/Domains") ∧ (Fld Z h ad1 "com/example/monarc/monarc/Domains" "holes" "[[J" (.ref ad7)) ∧ (Fld Z h ad1 "com/example/monarc/monarc/Domains" "initial" "[Lcom/example/monarc/monarc/InitialDomain;" (.ref ad4)) ∧ (Fld Z h ad1 "com/example/monarc/monarc/Domains" "lower" "[I" (.ref ad5)) ∧ (Fld Z h ad1 "com/example/monarc/monarc/Domains" "resized" "Ljava/util/function/IntConsumer;" .null) ∧ (Fld Z h ad1 "com/example/monarc/monarc/Domains" "sizes" "[I" (.ref ad8)) ∧ (Fld Z h ad1 "com/example/monarc/monarc/Domains" "trail" "[J" (.ref ad3)) ∧ (Fld Z h ad1 "com/example/monarc/monarc/Domains" "trailSize" "I" (.int (iv5 + (1 : Int32)))) ∧ (Fld Z h ad1 "com/example/monarc/monarc/Domains" "upper" "[I" (.ref ad6)) ∧ (Fld Z h ad1 "com/example/monarc/monarc/Domains" "withOneValue" "I" (.int ex1)) ∧ (Arf Z h ad3 kc6 (1024 : Int32) (fun i => if i = (iv5).toNatClampNeg then ((((iv1.toInt64) <<< ((32 : Int32) &&& 0x3f).toInt64) ||| ((1 : Int64) <<< ((30 : Int32) &&& 0x3f).toInt64)) ||| (0 : Int64)) else fv10 i)) ∧ (Ari Z h ad5 kc3 iv6 (fun i => if i = (iv1).toNatClampNeg then iv11 else (fun _ => (0 : Int32)) i)) ∧ (Ari Z h ad8 kc1 iv6 (fun i => if i = (iv1).toNatClampNeg then (iv3 - (mxI (0 : Int32) (iv11 - (0 : Int32)))) else fv7 i))
set_option maxRecDepth 65536 in
set_option maxHeartbeats 40000000 in
theorem am26_2 (l : Launch) (Z : State) (a0 : Array Value) (hw : ∀ d ∈ tables_1, d.before a0 Z = true) (ws : List Jvm.Cond) (u_1 : Addr) (aw0 : Addr) (u_0 : ClassId) (kaw0 : ClassId) (HW : Wd Z u_1 aw0 u_0 kaw0) (ad1 : Addr) (iv1 : Int32) (lv2 : Int64) (ad2 : Addr) (iv3 : Int32) (ad3 : Addr) (ad4 : Addr) (ad5 : Addr) (ad6 : Addr) (ad7 : Addr) (ad8 : Addr) (iv4 : Int32) (iv5 : Int32) (kc1 : ClassId) (iv6 : Int32) (fv7 : Nat → Int32) (kc2 : ClassId) (fv8 : Nat → Int32) (kc3 : ClassId) (kc4 : ClassId) (kc5 : ClassId) (fv9 : Nat → Addr) (kc6 : ClassId) (fv10 : Nat → Int64) (iv11 : Int32) (iv12 : Int32) (h0 : Heap) (n0 : Nat) (Ol : Old Z n0 h0) (HE_ad2 : Exa Z h0 ad2 "com/example/monarc/monarc/InitialDomain") (HF_ad2_InitialDomain_lowest : Fld Z h0 ad2 "com/example/monarc/monarc/InitialDomain" "lowest" "I" (.int (0 : Int32))) (HF_ad2_InitialDomain_size : Fld Z h0 ad2 "com/example/monarc/monarc/InitialDomain" "size" "I" (.int iv3)) (HF_ad2_InitialDomain_values : Fld Z h0 ad2 "com/example/monarc/monarc/InitialDomain" "values" "[I" .null) (HE_ad1 : Exa Z h0 ad1 "com/example/monarc/monarc/Domains") (HF_ad1_Domains_trail : Fld Z h0 ad1 "com/example/monarc/monarc/Domains" "trail" "[J" (.ref ad3)) (HF_ad1_Domains_initial : Fld Z h0 ad1 "com/example/monarc/monarc/Domains" "initial" "[Lcom/example/monarc/monarc/InitialDomain;" (.ref ad4)) (HF_ad1_Domains_lower : Fld Z h0 ad1 "com/example/monarc/monarc/Domains" "lower" "[I" (.ref ad5)) (HF_ad1_Domains_upper : Fld Z h0 ad1 "com/example/monarc/monarc/Domains" "upper" "[I" (.ref ad6)) (HF_ad1_Domains_holes : Fld Z h0 ad1 "com/example/monarc/monarc/Domains" "holes" "[[J" (.ref ad7)) (HF_ad1_Domains_sizes : Fld Z h0 ad1 "com/example/monarc/monarc/Domains" "sizes" "[I" (.ref ad8)) (HF_ad1_Domains_withOneValue : Fld Z h0 ad1 "com/example/monarc/monarc/Domains" "withOneValue" "I" (.int iv4)) (HF_ad1_Domains_trailSize : Fld Z h0 ad1 "com/example/monarc/monarc/Domains" "trailSize" "I" (.int iv5)) (HF_ad1_Domains_resized : Fld Z h0 ad1 "com/example/monarc/monarc/Domains" "resized" "Ljava/util/function/IntConsumer;" .null) (HG_ad8 : Ari Z h0 ad8 kc1 iv6 fv7) (HG_ad6 : Ari Z h0 ad6 kc2 iv6 fv8) (HG_ad5 : Ari Z h0 ad5 kc3 iv6 (fun _ => (0 : Int32))) (HG_ad7 : Arw Z h0 ad7 kc4 (.array .long) iv6 (fun _ => .null)) (HG_ad4 : Ara Z h0 ad4 kc5 (.object "com/example/monarc/monarc/InitialDomain") iv6 fv9) (HG_ad3 : Arf Z h0 ad3 kc6 (1024 : Int32) fv10) (nn_ad1 : n0 ≤ ad1) (nn_ad3 : n0 ≤ ad3) (nn_ad5 : n0 ≤ ad5) (nn_ad8 : n0 ≤ ad8) (ne_ad1_ad3 : ad1 ≠ ad3) (ne_ad1_ad5 : ad1 ≠ ad5) (ne_ad1_ad8 : ad1 ≠ ad8) (ne_ad3_ad5 : ad3 ≠ ad5) (ne_ad3_ad8 : ad3 ≠ ad8) (ne_ad5_ad8 : ad5 ≠ ad8) (as0 : (0 : Int32) < iv11) (as1 : (0 : Int32) < iv3) (as2 : 0 ≤ (iv1).toInt ∧ (iv1).toInt < (iv6).toInt) (as3 : 0 ≤ (iv5).toInt ∧ (iv5).toInt < ((1024 : Int32)).toInt) (as4 : ¬ (iv12 < iv11)) (as5 : ¬ (iv5 = (1024 : Int32))) (eq0 : ((mnL (iv3.toInt64) (mxL (0 : Int64) ((mxL (-2147483648 : Int64) (mnL lv2 (2147483648 : Int64))) - (0 : Int64)))).toInt32) = iv11) (eq1 : (fv7 (iv1).toNatClampNeg) = iv3) (eq2 : (fv8 (iv1).toNatClampNeg) = iv12) (rq0 : (fv9 (iv1).toNatClampNeg) = ad2) (hO_ad7 : OvrA Z kc4 .long "[J") (hO_ad4 : Ovr Z kc5 "com/example/monarc/monarc/InitialDomain") :
    MetFree l y_26 (head1 (Jvm.Cond.code y_26 prog_11_method_20_code 5 none :: ws) (rm 3 0 0 56)) (fun a_ U_ => a_ = #[(.ref ad1), (.int iv1), (.long lv2)] ∧ Z.Warmed39 U_.vm ∧ U_.heap = h0) (fun _ _ _ _ _ => True) (fun _ U_ o_ V_ => ∃ v_ L_, o_ = .returned v_ ∧ Q_am26_2 Z u_1 aw0 u_0 kaw0 ad1 iv1 lv2 ad2 iv3 ad3 ad4 ad5 ad6 ad7 ad8 iv4 iv5 kc1 iv6 fv7 kc2 fv8 kc3 kc4 kc5 fv9 kc6 fv10 iv11 iv12 h0 n0 v_ V_.heap L_ ∧ FrameEnd U_ o_ V_ L_ (rm 3 0 0 56).cells (rm 3 0 0 56).slots) := by
  refine MetFree.of_bodySF (plainFor_of_name pn_7) hisR ?_
  intro p e s m args below meth c s₁ Bd hml0 hP hK
  obtain ⟨rfl, hZ, hh⟩ := hP
  have hx := Bd.exec
  have hby := Bd.bytes
  have hml : c.maxLocals = 5 := hml0
  have hown : s.vm.findClass "com/example/monarc/monarc/Domains" = some m.cls := findClass_of_methodNamed Bd.named
  have hnm := (name_of_methodNamed Bd.named Bd.method).1
  have X0 : Stand p l e (rm 3 0 0 56) s m #[(.ref ad1), (.int iv1), (.long lv2)] below meth c s₁ [] 0 0 := Stand.of_body Bd
  have e0 : s₁.heap = h0 := by rw [← hh, Bd.state]; rfl
  have N0 := Fr.nil n0
  have kp0 := Keep.refl h0 [ad1, ad3, ad5, ad8]
  show Go p e below (Fin1 s below (Q_am26_2 Z u_1 aw0 u_0 kaw0 ad1 iv1 lv2 ad2 iv3 ad3 ad4 ad5 ad6 ad7 ad8 iv4 iv5 kc1 iv6 fv7 kc2 fv8 kc3 kc4 kc5 fv9 kc6 fv10 iv11 iv12 h0 n0) (rm 3 0 0 56).cells (rm 3 0 0 56).slots) _
  refine Go.step (fun t_ k_ => castTop (ef_am26_1 m ad1 iv1 lv2) k_) ?_
  obtain ⟨Eu_1, Su_1, Eaw0, Saw0, Au_1, Aaw0⟩ := id HW
  show Go p e below _ (s₁.setTop (mkF m 0 #[.val (.ref ad1), .val (.int iv1), .val (.long lv2), .second, .unset] []))
  refine gs.aloadN X0.here hx (hb hby d26_0) rfl rfl ?_
  refine gs.getF X0 hx hZ hown (wd hw 102 rfl) Via.refl e0 HF_ad1_Domains_initial (hb hby d26_1) fun T1 X1 e1 => ?_
  refine gs.iloadN X1.here hx (hb hby d26_4) rfl ?_
  obtain ⟨cl2, Ar2, q2, Sz2, Ng2, Hs2⟩ := id HG_ad4
  have hin2 : ¬ (iv1 < 0 ∨ cl2.slots.size ≤ (iv1).toNatClampNeg) := inb_of Sz2 (inb_int as2)
  have hat2 : cl2.slots[(iv1).toNatClampNeg]? = some (.ref (fv9 (iv1).toNatClampNeg)) := Hs2 _ (lt_of_in hin2)
  rw [show (fv9 (iv1).toNatClampNeg) = ad2 from rq0] at hat2
  refine Go.fin (fun t_ k_ => X1.aaload hx (j := iv1) (v := (.ref ad2)) (by rw [e1]; exact Ar2.1) (State.isArrayOf_alike hZ.alike Ar2.2.1) rfl Ar2.2.2 hin2 hat2 (g := mkF m 5 _ _) rfl rfl (hb hby d26_5) _ k_) ?_
  show Go p e below _ (T1.setTop (mkF m 6 _ [(.ref ad2)]))
  refine gs.lloadN X1.here hx (hb hby d26_6) rfl ?_
  refine gs.virt 0 X1 hx hZ hown (am27_1 l Z a0 hw [] u_1 aw0 u_0 kaw0 HW (ad2) (lv2) (iv3) (iv11) h0 n0 Ol HF_ad2_InitialDomain_lowest HF_ad2_InitialDomain_size HF_ad2_InitialDomain_values eq0) (wd hw 199 rfl) (wd hw 7 rfl) (wd hw 195 rfl) (wd hw 196 rfl) (notFace_of_selects (args := #[]) (mvT hZ (wd hw 198 rfl))) (wd hw 198 rfl) (wd hw 197 rfl) (by decide) HE_ad2 (by decide) (by decide) (by rw [hml]; rfl) [(.long lv2)] (lenOf pd_17 rfl) rfl (Nat.le_of_eq rfl) (hb hby d26_7) rfl e1 (by decide) (by decide) fun T3 Lc3 v3 X3 hQ3 => ?_
  obtain ⟨rfl, Nq3, e3⟩ := hQ3
  have N3 := Fr.app N0 Nq3
  show Go p e below _ (T3.setTop (mkF m 10 _ [(.int iv11)]))
  refine gs.istore X3.here hx (hb hby d26_10) (l' := #[.val (.ref ad1), .val (.int iv1), .val (.long lv2), .second, .val (.int iv11)]) rfl ?_
  refine gs.aloadN X3.here hx (hb hby d26_12) rfl rfl ?_
  refine gs.getF X3 hx hZ hown (wd hw 112 rfl) Via.refl e3 HF_ad1_Domains_sizes (hb hby d26_13) fun T4 X4 e4 => ?_
  refine gs.iloadN X4.here hx (hb hby d26_16) rfl ?_
  obtain ⟨cl5, Ar5, q5, Sz5, Ng5, Hs5⟩ := id HG_ad8
  have hin5 : ¬ (iv1 < 0 ∨ cl5.slots.size ≤ (iv1).toNatClampNeg) := inb_of Sz5 (inb_int as2)
  have hat5 : cl5.slots[(iv1).toNatClampNeg]? = some (.int (fv7 (iv1).toNatClampNeg)) := Hs5 _ (lt_of_in hin5)
  refine Go.fin (fun t_ k_ => X4.iaload hx (j := iv1) (v := (.int (fv7 (iv1).toNatClampNeg))) (by rw [e4]; exact Ar5.1) (State.isArrayOf_alike hZ.alike Ar5.2.1) Ar5.2.2 hin5 hat5 (g := mkF m 17 _ _) rfl rfl (hb hby d26_17) _ k_) ?_
  show Go p e below _ (T4.setTop (mkF m 18 _ [(.int (fv7 (iv1).toNatClampNeg))]))
  rw [show (fv7 (iv1).toNatClampNeg) = iv3 from eq1]
  have hc18 : (0 : Int32) < iv3 := as1
  refine gs.ifNo X4.here hx (hb hby d26_18) ((if0 _ _).trans (tlt hc18).2.2.2) ?_
  refine gs.iload X4.here hx (hb hby d26_21) rfl ?_
  refine gs.aloadN X4.here hx (hb hby d26_23) rfl rfl ?_
  refine gs.getF X4 hx hZ hown (wd hw 104 rfl) Via.refl e4 HF_ad1_Domains_lower (hb hby d26_24) fun T6 X6 e6 => ?_
  refine gs.iloadN X6.here hx (hb hby d26_27) rfl ?_
  obtain ⟨cl7, Ar7, q7, Sz7, Ng7, Hs7⟩ := id HG_ad5
  have hin7 : ¬ (iv1 < 0 ∨ cl7.slots.size ≤ (iv1).toNatClampNeg) := inb_of Sz7 (inb_int as2)
  have hat7 : cl7.slots[(iv1).toNatClampNeg]? = some (.int ((fun _ => (0 : Int32)) (iv1).toNatClampNeg)) := Hs7 _ (lt_of_in hin7)
  rw [show ((fun _ => (0 : Int32)) (iv1).toNatClampNeg) = (0 : Int32) from rfl] at hat7
  refine Go.fin (fun t_ k_ => X6.iaload hx (j := iv1) (v := (.int (0 : Int32))) (by rw [e6]; exact Ar7.1) (State.isArrayOf_alike hZ.alike Ar7.2.1) Ar7.2.2 hin7 hat7 (g := mkF m 28 _ _) rfl rfl (hb hby d26_28) _ k_) ?_
  show Go p e below _ (T6.setTop (mkF m 29 _ [(.int (0 : Int32)), (.int iv11)]))
  have hc29 : (0 : Int32) < iv11 := as0
  refine gs.icmpNo X6.here hx (hb hby d26_29) (tlt hc29).2.2.2 ?_
  refine gs.aloadN X6.here hx (hb hby d26_32) rfl rfl ?_
  refine gs.iloadN X6.here hx (hb hby d26_33) rfl ?_
  refine gs.iload X6.here hx (hb hby d26_34) rfl ?_
  refine gs.priv 0 X6 hx hZ hown (am28_2 l Z a0 hw [] u_1 aw0 u_0 kaw0 HW (ad1) (iv1) (iv11) (iv3) (ad3) (ad4) (ad5) (ad6) (ad7) (ad8) (iv4) (iv5) (kc1) (iv6) (fv7) (kc2) (fv8) (kc3) (kc4) (kc6) (fv10) (iv12) h0 n0 Ol HE_ad1 HF_ad1_Domains_trail HF_ad1_Domains_initial HF_ad1_Domains_lower HF_ad1_Domains_upper HF_ad1_Domains_holes HF_ad1_Domains_sizes HF_ad1_Domains_withOneValue HF_ad1_Domains_trailSize HF_ad1_Domains_resized HG_ad8 HG_ad6 HG_ad5 HG_ad7 HG_ad3 nn_ad1 nn_ad3 nn_ad5 nn_ad8 ne_ad1_ad3 ne_ad1_ad5 ne_ad1_ad8 ne_ad3_ad5 ne_ad3_ad8 ne_ad5_ad8 as2 as3 as4 as5 eq1 eq2 hO_ad7) (wd hw 207 rfl) (wd hw 78 rfl) (wd hw 204 rfl) (wd hw 205 rfl) (sel_priv hZ (wd hw 77 rfl) (wd hw 206 rfl) (wd hw 205 rfl) (by decide)) (wd hw 206 rfl) (by decide) HE_ad1 (by decide) (by decide) (by rw [hml]; rfl) [(.int iv1), (.int iv11)] (lenOf pd_19 rfl) rfl (Nat.le_of_eq rfl) (hb hby d26_36) rfl e6 (by decide) (by decide) fun T8 Lc8 v8 X8 hQ8 => ?_
  obtain ⟨ex8_0, rfl, Nq8, K8, p8_0, p8_1, p8_2, p8_3, p8_4, p8_5, p8_6, p8_7, p8_8, p8_9, p8_10, p8_11, p8_12⟩ := hQ8
  have old8 := Ol.keep K8 (allS nn_ad1 (allS nn_ad3 (allS nn_ad5 (allS nn_ad8 all0))))
  have kp8 := kp0.trans K8 (allS (Or.inl (List.mem_of_getElem? (i := 0) rfl)) (allS (Or.inl (List.mem_of_getElem? (i := 1) rfl)) (allS (Or.inl (List.mem_of_getElem? (i := 2) rfl)) (allS (Or.inl (List.mem_of_getElem? (i := 3) rfl)) all0))))
  have N8 := Fr.app N3 Nq8
  show Go p e below _ (T8.setTop (mkF m 39 _ []))
  refine Go.retV X8 hx Bd.returns Bd.notSynchronized (hb hby d26_39) (by exact ⟨(ex8_0), rfl, N8, kp8, p8_0, p8_1, p8_2, p8_3, p8_4, p8_5, p8_6, p8_7, p8_8, p8_9, p8_10, p8_11, p8_12⟩) (by decide) (by decide)
def Q_am26_3 (Z : State) (u_1 : Addr) (aw0 : Addr) (u_0 : ClassId) (kaw0 : ClassId) (ad1 : Addr) (iv1 : Int32) (lv2 : Int64) (ad2 : Addr) (iv3 : Int32) (ad4 : Addr) (ad5 : Addr) (ad8 : Addr) (kc1 : ClassId) (iv6 : Int32) (fv7 : Nat → Int32) (kc3 : ClassId) (kc5 : ClassId) (fv9 : Nat → Addr) (iv11 : Int32) (h0 : Heap) (n0 : Nat) (v : Option Value) (h : Heap) (L : List Loc) : Prop := v = none ∧ Fr n0 L ∧ h = h0
set_option maxRecDepth 65536 in
set_option maxHeartbeats 40000000 in
theorem am26_3 (l : Launch) (Z : State) (a0 : Array Value) (hw : ∀ d ∈ tables_1, d.before a0 Z = true) (ws : List Jvm.Cond) (u_1 : Addr) (aw0 : Addr) (u_0 : ClassId) (kaw0 : ClassId) (HW : Wd Z u_1 aw0 u_0 kaw0) (ad1 : Addr) (iv1 : Int32) (lv2 : Int64) (ad2 : Addr) (iv3 : Int32) (ad4 : Addr) (ad5 : Addr) (ad8 : Addr) (kc1 : ClassId) (iv6 : Int32) (fv7 : Nat → Int32) (kc3 : ClassId) (kc5 : ClassId) (fv9 : Nat → Addr) (iv11 : Int32) (h0 : Heap) (n0 : Nat) (Ol : Old Z n0 h0) (HE_ad2 : Exa Z h0 ad2 "com/example/monarc/monarc/InitialDomain") (HF_ad2_InitialDomain_lowest : Fld Z h0 ad2 "com/example/monarc/monarc/InitialDomain" "lowest" "I" (.int (0 : Int32))) (HF_ad2_InitialDomain_size : Fld Z h0 ad2 "com/example/monarc/monarc/InitialDomain" "size" "I" (.int iv3)) (HF_ad2_InitialDomain_values : Fld Z h0 ad2 "com/example/monarc/monarc/InitialDomain" "values" "[I" .null) (HF_ad1_Domains_initial : Fld Z h0 ad1 "com/example/monarc/monarc/Domains" "initial" "[Lcom/example/monarc/monarc/InitialDomain;" (.ref ad4)) (HF_ad1_Domains_lower : Fld Z h0 ad1 "com/example/monarc/monarc/Domains" "lower" "[I" (.ref ad5)) (HF_ad1_Domains_sizes : Fld Z h0 ad1 "com/example/monarc/monarc/Domains" "sizes" "[I" (.ref ad8)) (HG_ad8 : Ari Z h0 ad8 kc1 iv6 fv7) (HG_ad5 : Ari Z h0 ad5 kc3 iv6 (fun _ => (0 : Int32))) (HG_ad4 : Ara Z h0 ad4 kc5 (.object "com/example/monarc/monarc/InitialDomain") iv6 fv9) (as0 : ¬ ((0 : Int32) < iv11)) (as1 : (0 : Int32) < iv3) (as2 : 0 ≤ (iv1).toInt ∧ (iv1).toInt < (iv6).toInt) (eq0 : ((mnL (iv3.toInt64) (mxL (0 : Int64) ((mxL (-2147483648 : Int64) (mnL lv2 (2147483648 : Int64))) - (0 : Int64)))).toInt32) = iv11) (eq1 : (fv7 (iv1).toNatClampNeg) = iv3) (rq0 : (fv9 (iv1).toNatClampNeg) = ad2) (hO_ad4 : Ovr Z kc5 "com/example/monarc/monarc/InitialDomain") :
    MetFree l y_26 (head1 (Jvm.Cond.code y_26 prog_11_method_20_code 5 none :: ws) (rm 2 0 0 34)) (fun a_ U_ => a_ = #[(.ref ad1), (.int iv1), (.long lv2)] ∧ Z.Warmed39 U_.vm ∧ U_.heap = h0) (fun _ _ _ _ _ => True) (fun _ U_ o_ V_ => ∃ v_ L_, o_ = .returned v_ ∧ Q_am26_3 Z u_1 aw0 u_0 kaw0 ad1 iv1 lv2 ad2 iv3 ad4 ad5 ad8 kc1 iv6 fv7 kc3 kc5 fv9 iv11 h0 n0 v_ V_.heap L_ ∧ FrameEnd U_ o_ V_ L_ (rm 2 0 0 34).cells (rm 2 0 0 34).slots) := by
  refine MetFree.of_bodySF (plainFor_of_name pn_7) hisR ?_
  intro p e s m args below meth c s₁ Bd hml0 hP hK
  obtain ⟨rfl, hZ, hh⟩ := hP
  have hx := Bd.exec
  have hby := Bd.bytes
  have hml : c.maxLocals = 5 := hml0
  have hown : s.vm.findClass "com/example/monarc/monarc/Domains" = some m.cls := findClass_of_methodNamed Bd.named
  have hnm := (name_of_methodNamed Bd.named Bd.method).1
  have X0 : Stand p l e (rm 2 0 0 34) s m #[(.ref ad1), (.int iv1), (.long lv2)] below meth c s₁ [] 0 0 := Stand.of_body Bd
  have e0 : s₁.heap = h0 := by rw [← hh, Bd.state]; rfl
  have N0 := Fr.nil n0
  have kp0 := Keep.refl h0 []
  show Go p e below (Fin1 s below (Q_am26_3 Z u_1 aw0 u_0 kaw0 ad1 iv1 lv2 ad2 iv3 ad4 ad5 ad8 kc1 iv6 fv7 kc3 kc5 fv9 iv11 h0 n0) (rm 2 0 0 34).cells (rm 2 0 0 34).slots) _
  refine Go.step (fun t_ k_ => castTop (ef_am26_1 m ad1 iv1 lv2) k_) ?_
  obtain ⟨Eu_1, Su_1, Eaw0, Saw0, Au_1, Aaw0⟩ := id HW
  show Go p e below _ (s₁.setTop (mkF m 0 #[.val (.ref ad1), .val (.int iv1), .val (.long lv2), .second, .unset] []))
  refine gs.aloadN X0.here hx (hb hby d26_0) rfl rfl ?_
  refine gs.getF X0 hx hZ hown (wd hw 102 rfl) Via.refl e0 HF_ad1_Domains_initial (hb hby d26_1) fun T1 X1 e1 => ?_
  refine gs.iloadN X1.here hx (hb hby d26_4) rfl ?_
  obtain ⟨cl2, Ar2, q2, Sz2, Ng2, Hs2⟩ := id HG_ad4
  have hin2 : ¬ (iv1 < 0 ∨ cl2.slots.size ≤ (iv1).toNatClampNeg) := inb_of Sz2 (inb_int as2)
  have hat2 : cl2.slots[(iv1).toNatClampNeg]? = some (.ref (fv9 (iv1).toNatClampNeg)) := Hs2 _ (lt_of_in hin2)
  rw [show (fv9 (iv1).toNatClampNeg) = ad2 from rq0] at hat2
  refine Go.fin (fun t_ k_ => X1.aaload hx (j := iv1) (v := (.ref ad2)) (by rw [e1]; exact Ar2.1) (State.isArrayOf_alike hZ.alike Ar2.2.1) rfl Ar2.2.2 hin2 hat2 (g := mkF m 5 _ _) rfl rfl (hb hby d26_5) _ k_) ?_
  show Go p e below _ (T1.setTop (mkF m 6 _ [(.ref ad2)]))
  refine gs.lloadN X1.here hx (hb hby d26_6) rfl ?_
  refine gs.virt 0 X1 hx hZ hown (am27_1 l Z a0 hw [] u_1 aw0 u_0 kaw0 HW (ad2) (lv2) (iv3) (iv11) h0 n0 Ol HF_ad2_InitialDomain_lowest HF_ad2_InitialDomain_size HF_ad2_InitialDomain_values eq0) (wd hw 199 rfl) (wd hw 7 rfl) (wd hw 195 rfl) (wd hw 196 rfl) (notFace_of_selects (args := #[]) (mvT hZ (wd hw 198 rfl))) (wd hw 198 rfl) (wd hw 197 rfl) (by decide) HE_ad2 (by decide) (by decide) (by rw [hml]; rfl) [(.long lv2)] (lenOf pd_17 rfl) rfl (Nat.le_of_eq rfl) (hb hby d26_7) rfl e1 (by decide) (by decide) fun T3 Lc3 v3 X3 hQ3 => ?_
  obtain ⟨rfl, Nq3, e3⟩ := hQ3
  have N3 := Fr.app N0 Nq3
  show Go p e below _ (T3.setTop (mkF m 10 _ [(.int iv11)]))
  refine gs.istore X3.here hx (hb hby d26_10) (l' := #[.val (.ref ad1), .val (.int iv1), .val (.long lv2), .second, .val (.int iv11)]) rfl ?_
  refine gs.aloadN X3.here hx (hb hby d26_12) rfl rfl ?_
  refine gs.getF X3 hx hZ hown (wd hw 112 rfl) Via.refl e3 HF_ad1_Domains_sizes (hb hby d26_13) fun T4 X4 e4 => ?_
  refine gs.iloadN X4.here hx (hb hby d26_16) rfl ?_
  obtain ⟨cl5, Ar5, q5, Sz5, Ng5, Hs5⟩ := id HG_ad8
  have hin5 : ¬ (iv1 < 0 ∨ cl5.slots.size ≤ (iv1).toNatClampNeg) := inb_of Sz5 (inb_int as2)
  have hat5 : cl5.slots[(iv1).toNatClampNeg]? = some (.int (fv7 (iv1).toNatClampNeg)) := Hs5 _ (lt_of_in hin5)
  refine Go.fin (fun t_ k_ => X4.iaload hx (j := iv1) (v := (.int (fv7 (iv1).toNatClampNeg))) (by rw [e4]; exact Ar5.1) (State.isArrayOf_alike hZ.alike Ar5.2.1) Ar5.2.2 hin5 hat5 (g := mkF m 17 _ _) rfl rfl (hb hby d26_17) _ k_) ?_
  show Go p e below _ (T4.setTop (mkF m 18 _ [(.int (fv7 (iv1).toNatClampNeg))]))
  rw [show (fv7 (iv1).toNatClampNeg) = iv3 from eq1]
  have hc18 : (0 : Int32) < iv3 := as1
  refine gs.ifNo X4.here hx (hb hby d26_18) ((if0 _ _).trans (tlt hc18).2.2.2) ?_
  refine gs.iload X4.here hx (hb hby d26_21) rfl ?_
  refine gs.aloadN X4.here hx (hb hby d26_23) rfl rfl ?_
  refine gs.getF X4 hx hZ hown (wd hw 104 rfl) Via.refl e4 HF_ad1_Domains_lower (hb hby d26_24) fun T6 X6 e6 => ?_
  refine gs.iloadN X6.here hx (hb hby d26_27) rfl ?_
  obtain ⟨cl7, Ar7, q7, Sz7, Ng7, Hs7⟩ := id HG_ad5
  have hin7 : ¬ (iv1 < 0 ∨ cl7.slots.size ≤ (iv1).toNatClampNeg) := inb_of Sz7 (inb_int as2)
  have hat7 : cl7.slots[(iv1).toNatClampNeg]? = some (.int ((fun _ => (0 : Int32)) (iv1).toNatClampNeg)) := Hs7 _ (lt_of_in hin7)
  rw [show ((fun _ => (0 : Int32)) (iv1).toNatClampNeg) = (0 : Int32) from rfl] at hat7
  refine Go.fin (fun t_ k_ => X6.iaload hx (j := iv1) (v := (.int (0 : Int32))) (by rw [e6]; exact Ar7.1) (State.isArrayOf_alike hZ.alike Ar7.2.1) Ar7.2.2 hin7 hat7 (g := mkF m 28 _ _) rfl rfl (hb hby d26_28) _ k_) ?_
  show Go p e below _ (T6.setTop (mkF m 29 _ [(.int (0 : Int32)), (.int iv11)]))
  have hc29 : ¬ ((0 : Int32) < iv11) := as0
  refine gs.icmpYes 39 X6.here hx (hb hby d26_29) (flt hc29).2.2.2 rfl ?_
  refine Go.retV X6 hx Bd.returns Bd.notSynchronized (hb hby d26_39) (by rw [e6]; exact ⟨rfl, N3, rfl⟩) (by decide) (by decide)
set_option maxRecDepth 65536 in
set_option maxHeartbeats 40000000 in
theorem sg2 {p : Program} {l : Launch} {e : Env} {s : State} {m : MethodId} {args : Array Value} {below : List Frame} {meth : Method} {c : Code} {Z : State} {a0 : Array Value} (hw : ∀ d ∈ tables_1, d.before a0 Z = true) (u_1 : Addr) (aw0 : Addr) (u_0 : ClassId) (kaw0 : ClassId) (HW : Wd Z u_1 aw0 u_0 kaw0) {h0 : Heap} {n0 : Nat} (hx : p.tables.exec = Jvm.exec) (hby : c.code = code) (hml : c.maxLocals = 28) (hret : meth.sig.returnType = some .boolean) (hlk : meth.locks = false) {vm0 : Vm} {k0 : Nat} {T0 : State} {locs : List Loc} {h1 : Heap} (X0 : Stand p l e room_1 (s.setVm vm0) m args below meth c T0 locs 12 42) (S0 : s.Since vm0 k0) (hk0 : k0 ≤ h1.size) (hZ : Z.Warmed39 (s.setVm vm0).vm) (hown : (s.setVm vm0).vm.findClass "com/example/monarc/monarc/DomainsTotalSizePinLaw" = some m.cls) (e0 : T0.heap = h1) (N0 : Fr n0 locs) (kp0 : Keep h0 h1 []) (Ol : Old Z n0 h1) {Q : Option Value → Heap → List Loc → Prop} (hQ : ∀ h L, Fr n0 L → Q (some (.int 1)) h L) (lf0 : Int32) (lf1 : Int32) (lf2 : Int32) (p4 : Int64) (p5 : Int32) (ln0 : Int64) (lf8 : Int64) (lf10 : Int64) (ld12 : Addr) (ld13 : Addr) (ld14 : Addr) (ad1 : Addr) (ld16 : Addr) (ld17 : Addr) (ad2 : Addr) (s0 : Int32) (ln1 : Int64) (ln2 : Int64) (s1 : Int32) (s2 : Int32) (HE_ad2 : Exa Z h1 ad2 "com/example/monarc/monarc/InitialDomain") (HF_ad2_InitialDomain_lowest : Fld Z h1 ad2 "com/example/monarc/monarc/InitialDomain" "lowest" "I" (.int (0 : Int32))) (HF_ad2_InitialDomain_size : Fld Z h1 ad2 "com/example/monarc/monarc/InitialDomain" "size" "I" (.int s0)) (HF_ad2_InitialDomain_values : Fld Z h1 ad2 "com/example/monarc/monarc/InitialDomain" "values" "[I" .null) (HE_ad1 : Exa Z h1 ad1 "com/example/monarc/monarc/Variable") (HF_ad1_Variable_domain : Fld Z h1 ad1 "com/example/monarc/monarc/Variable" "domain" "Lcom/example/monarc/monarc/InitialDomain;" (.ref ad2)) (hb_ln0 : 1 ≤ ln0.toInt ∧ ln0.toInt < 1073741824) (hb_ln1 : 1 ≤ ln1.toInt ∧ ln1.toInt < 1073741824) (hb_ln2 : 1 ≤ ln2.toInt ∧ ln2.toInt < 1073741824) (hs0 : s0.toInt = ln0.toInt) (hs1 : s1.toInt = ln1.toInt) (hs2 : s2.toInt = ln2.toInt) :
    Go p e below (Fin2 s below Q room_1.cells room_1.slots) (T0.setTop (mkF m 99 #[.val (.int lf0), .val (.int lf1), .val (.int lf2), .val (.long p4), .second, .val (.int p5), .val (.long ln0), .second, .val (.long lf8), .second, .val (.long lf10), .second, .val (.ref ld12), .val (.ref ld13), .val (.ref ld14), .val (.ref ad1), .val (.ref ld16), .val (.ref ld17), .val (.int (1 : Int32)), .unset, .unset, .unset, .unset, .unset, .unset, .unset, .unset, .unset] [])) := by
  obtain ⟨Eu_1, Su_1, Eaw0, Saw0, Au_1, Aaw0⟩ := id HW
  show Go p e below _ (T0.setTop (mkF m 99 #[.val (.int lf0), .val (.int lf1), .val (.int lf2), .val (.long p4), .second, .val (.int p5), .val (.long ln0), .second, .val (.long lf8), .second, .val (.long lf10), .second, .val (.ref ld12), .val (.ref ld13), .val (.ref ld14), .val (.ref ad1), .val (.ref ld16), .val (.ref ld17), .val (.int (1 : Int32)), .unset, .unset, .unset, .unset, .unset, .unset, .unset, .unset, .unset] []))
  refine gs.iload X0.here hx (hb hby at_99) rfl ?_
  refine gs.iconst 3 X0.here hx (hb hby at_101) rfl ?_
  have hc102 : ¬ ((3 : Int32) < (1 : Int32)) := by decide
  refine gs.icmpYes 108 X0.here hx (hb hby at_102) (flt hc102).2.2.2 rfl ?_
  obtain ⟨T2, h2, X2, e2, E2, A2, D2, Y2, st2⟩ := newO X0 hx hZ hown (wd hw 52 rfl) (wd hw 53 rfl) (wd hw 54 rfl) e0 (g := (mkF m 108 #[.val (.int lf0), .val (.int lf1), .val (.int lf2), .val (.long p4), .second, .val (.int p5), .val (.long ln0), .second, .val (.long lf8), .second, .val (.long lf10), .second, .val (.ref ld12), .val (.ref ld13), .val (.ref ld14), .val (.ref ad1), .val (.ref ld16), .val (.ref ld17), .val (.int (1 : Int32)), .unset, .unset, .unset, .unset, .unset, .unset, .unset, .unset, .unset] [])) rfl (hb hby at_108) (by decide) (by decide)
  obtain ⟨b2, g2⟩ : ∃ z, z = h1.size := ⟨_, rfl⟩
  rw [← g2] at A2 D2 Y2 st2
  have nn_b2 : n0 ≤ b2 := Nat.le_trans (old_z0 Ol) (Nat.le_of_eq g2.symm)
  have sz_b2 : h0.size ≤ b2 := Nat.le_trans kp0.1 (Nat.le_of_eq g2.symm)
  have old2 := Ol.ext E2
  have kp2 := kp0.ext E2
  have hk2 := Nat.le_trans hk0 E2.1
  have F2_modCount : Fld Z h2 b2 "java/util/AbstractList" "modCount" "I" (.int (0 : Int32)) := D2 (Or.inl (wd hw 72 rfl)) (ty := .int) (by decide)
  have F2_elementData : Fld Z h2 b2 "java/util/ArrayList" "elementData" "[Ljava/lang/Object;" .null := D2 (Or.inl (wd hw 75 rfl)) (ty := (.array (.object "java/lang/Object"))) (by decide)
  have F2_size : Fld Z h2 b2 "java/util/ArrayList" "size" "I" (.int (0 : Int32)) := D2 (Or.inl (wd hw 99 rfl)) (ty := .int) (by decide)
  refine Go.fin st2 ?_
  show Go p e below _ (T2.setTop (mkF m 111 _ [(.ref b2)]))
  refine gs.dup X2.here hx (hb hby at_111) rfl ?_
  refine gs.init 1 X2 hx hZ hown (am7_1 l Z a0 hw [] u_1 aw0 u_0 kaw0 HW (b2) h2 n0 old2 A2 F2_modCount F2_elementData F2_size nn_b2) (wd hw 57 rfl) (wd hw 54 rfl) (wd hw 55 rfl) rfl (wd hw 56 rfl) (by decide) (by decide) (by decide) (by rw [hml]; rfl) [] (lenOf pd_3 rfl) rfl (Nat.le_of_eq rfl) (hb hby at_112) rfl e2 (by decide) (by decide) fun T3 Lc3 v3 X3 hQ3 => ?_
  obtain ⟨rfl, Nq3, K3, p3_0, p3_1, p3_2, p3_3⟩ := hQ3
  have old3 := old2.keep K3 (allS nn_b2 all0)
  have hk3 := Nat.le_trans hk2 K3.1
  have kp3 := kp2.trans K3 (allS (Or.inr sz_b2) all0)
  have N3 := Fr.app N0 Nq3
  show Go p e below _ (T3.setTop (mkF m 115 _ [(.ref b2)]))
  refine gs.astore X3.here hx (hb hby at_115) rfl (l' := #[.val (.int lf0), .val (.int lf1), .val (.int lf2), .val (.long p4), .second, .val (.int p5), .val (.long ln0), .second, .val (.long lf8), .second, .val (.long lf10), .second, .val (.ref ld12), .val (.ref ld13), .val (.ref ld14), .val (.ref ad1), .val (.ref ld16), .val (.ref ld17), .val (.int (1 : Int32)), .val (.ref b2), .unset, .unset, .unset, .unset, .unset, .unset, .unset, .unset]) rfl ?_
  refine gs.iload X3.here hx (hb hby at_117) rfl ?_
  have hc119 : (0 : Int32) < (1 : Int32) := by decide
  refine gs.ifNo X3.here hx (hb hby at_119) ((if0 _ _).trans (tlt hc119).2.2.2) ?_
  refine gs.aload X3.here hx (hb hby at_122) rfl rfl ?_
  refine gs.aload X3.here hx (hb hby at_124) rfl rfl ?_
  have f4 := ((HE_ad1.ext E2).keep K3)
  refine gs.virt 0 X3 hx hZ hown (am13_1 l Z a0 hw [] u_1 aw0 u_0 kaw0 HW (b2) (ad1) T3.heap n0 old3 f4 p3_0 p3_1 p3_2 p3_3 nn_b2) (wd hw 123 rfl) (wd hw 54 rfl) (wd hw 119 rfl) (wd hw 120 rfl) (notFace_of_selects (args := #[]) (mvT hZ (wd hw 122 rfl))) (wd hw 122 rfl) (wd hw 121 rfl) (by decide) p3_0 (by decide) (by decide) (by rw [hml]; rfl) [(.ref ad1)] (lenOf pd_12 rfl) rfl (Nat.le_of_eq rfl) (hb hby at_126) rfl rfl (by decide) (by decide) fun T5 Lc5 v5 X5 hQ5 => ?_
  obtain ⟨b5_0, kx5_0, rfl, gb_b5_0, Nq5, K5, p5_0, p5_1, p5_2, p5_3, p5_4, ov5_0⟩ := hQ5
  have nn_b5_0 : n0 ≤ b5_0 := Nat.le_trans (old_z0 old3) gb_b5_0
  have sz_b5_0 : h0.size ≤ b5_0 := Nat.le_trans kp3.1 gb_b5_0
  have old5 := old3.keep K5 (allS nn_b2 all0)
  have hk5 := Nat.le_trans hk3 K5.1
  have kp5 := kp3.trans K5 (allS (Or.inr sz_b2) all0)
  have N5 := Fr.app N3 Nq5
  show Go p e below _ (T5.setTop (mkF m 129 _ [(.int (1 : Int32))]))
  refine gs.pop X5.here hx (hb hby at_129) rfl ?_
  refine gs.iload X5.here hx (hb hby at_130) rfl ?_
  refine gs.iconst 1 X5.here hx (hb hby at_132) rfl ?_
  have hc133 : ¬ ((1 : Int32) < (1 : Int32)) := by decide
  refine gs.icmpYes 144 X5.here hx (hb hby at_133) (flt hc133).2.2.2 rfl ?_
  refine gs.iload X5.here hx (hb hby at_144) rfl ?_
  refine gs.iconst 2 X5.here hx (hb hby at_146) rfl ?_
  have hc147 : ¬ ((2 : Int32) < (1 : Int32)) := by decide
  refine gs.icmpYes 158 X5.here hx (hb hby at_147) (flt hc147).2.2.2 rfl ?_
  obtain ⟨T6, h6, X6, e6, E6, A6, D6, Y6, st6⟩ := newO X5 hx hZ hown (wd hw 76 rfl) (wd hw 77 rfl) (wd hw 78 rfl) rfl (g := (mkF m 158 #[.val (.int lf0), .val (.int lf1), .val (.int lf2), .val (.long p4), .second, .val (.int p5), .val (.long ln0), .second, .val (.long lf8), .second, .val (.long lf10), .second, .val (.ref ld12), .val (.ref ld13), .val (.ref ld14), .val (.ref ad1), .val (.ref ld16), .val (.ref ld17), .val (.int (1 : Int32)), .val (.ref b2), .unset, .unset, .unset, .unset, .unset, .unset, .unset, .unset] [])) rfl (hb hby at_158) (by decide) (by decide)
  obtain ⟨b6, g6⟩ : ∃ z, z = T5.heap.size := ⟨_, rfl⟩
  rw [← g6] at A6 D6 Y6 st6
  have nn_b6 : n0 ≤ b6 := Nat.le_trans (old_z0 old5) (Nat.le_of_eq g6.symm)
  have sz_b6 : h0.size ≤ b6 := Nat.le_trans kp5.1 (Nat.le_of_eq g6.symm)
  have old6 := old5.ext E6
  have kp6 := kp5.ext E6
  have hk6 := Nat.le_trans hk5 E6.1
  have F6_trail : Fld Z h6 b6 "com/example/monarc/monarc/Domains" "trail" "[J" .null := D6 (Or.inl (wd hw 85 rfl)) (ty := (.array .long)) (by decide)
  have F6_marks : Fld Z h6 b6 "com/example/monarc/monarc/Domains" "marks" "[I" .null := D6 (Or.inl (wd hw 88 rfl)) (ty := (.array .int)) (by decide)
  have F6_initial : Fld Z h6 b6 "com/example/monarc/monarc/Domains" "initial" "[Lcom/example/monarc/monarc/InitialDomain;" .null := D6 (Or.inr (wd hw 103 rfl)) (ty := (.array (.object "com/example/monarc/monarc/InitialDomain"))) (by decide)
  have F6_lower : Fld Z h6 b6 "com/example/monarc/monarc/Domains" "lower" "[I" .null := D6 (Or.inr (wd hw 105 rfl)) (ty := (.array .int)) (by decide)
  have F6_upper : Fld Z h6 b6 "com/example/monarc/monarc/Domains" "upper" "[I" .null := D6 (Or.inr (wd hw 107 rfl)) (ty := (.array .int)) (by decide)
  have F6_holes : Fld Z h6 b6 "com/example/monarc/monarc/Domains" "holes" "[[J" .null := D6 (Or.inr (wd hw 111 rfl)) (ty := (.array (.array .long))) (by decide)
  have F6_sizes : Fld Z h6 b6 "com/example/monarc/monarc/Domains" "sizes" "[I" .null := D6 (Or.inr (wd hw 113 rfl)) (ty := (.array .int)) (by decide)
  have F6_withOneValue : Fld Z h6 b6 "com/example/monarc/monarc/Domains" "withOneValue" "I" (.int (0 : Int32)) := D6 (Or.inl (wd hw 183 rfl)) (ty := .int) (by decide)
  have F6_trailSize : Fld Z h6 b6 "com/example/monarc/monarc/Domains" "trailSize" "I" (.int (0 : Int32)) := D6 (Or.inl (wd hw 222 rfl)) (ty := .int) (by decide)
  have F6_resized : Fld Z h6 b6 "com/example/monarc/monarc/Domains" "resized" "Ljava/util/function/IntConsumer;" .null := D6 (Or.inl (wd hw 224 rfl)) (ty := (.object "java/util/function/IntConsumer")) (by decide)
  refine Go.fin st6 ?_
  show Go p e below _ (T6.setTop (mkF m 161 _ [(.ref b6)]))
  refine gs.dup X6.here hx (hb hby at_161) rfl ?_
  refine gs.aload X6.here hx (hb hby at_162) rfl rfl ?_
  have f7 := ((((HE_ad2.ext E2).keep K3).keep K5).ext E6)
  have ne_ad2_b2 : ad2 ≠ b2 := Nat.ne_of_lt (Nat.lt_of_lt_of_le HE_ad2.lt (Nat.le_of_eq g2.symm))
  have f8 := ((((HF_ad2_InitialDomain_size.ext E2).keep K3 (ninS ne_ad2_b2 nin0)).keep K5 (ninS ne_ad2_b2 nin0)).ext E6)
  have f9 := ((f4.keep K5).ext E6)
  have ne_ad1_b2 : ad1 ≠ b2 := Nat.ne_of_lt (Nat.lt_of_lt_of_le HE_ad1.lt (Nat.le_of_eq g2.symm))
  have f10 := ((((HF_ad1_Variable_domain.ext E2).keep K3 (ninS ne_ad1_b2 nin0)).keep K5 (ninS ne_ad1_b2 nin0)).ext E6)
  have f11 := (p5_0.ext E6)
  have f12 := (p5_2.ext E6)
  have f13 := (p5_3.ext E6)
  have f14 := (p5_4.ext E6)
  have ne_b2_b6 : b2 ≠ b6 := Nat.ne_of_lt (Nat.lt_of_lt_of_le p5_0.lt (Nat.le_of_eq g6.symm))
  have ne_ad2_b6 : ad2 ≠ b6 := Nat.ne_of_lt (Nat.lt_of_lt_of_le (((HE_ad2.ext E2).keep K3).keep K5).lt (Nat.le_of_eq g6.symm))
  have ne_ad1_b6 : ad1 ≠ b6 := Nat.ne_of_lt (Nat.lt_of_lt_of_le (f4.keep K5).lt (Nat.le_of_eq g6.symm))
  have ne_b5_0_b6 : b5_0 ≠ b6 := Nat.ne_of_lt (Nat.lt_of_lt_of_le p5_4.lt (Nat.le_of_eq g6.symm))
  refine gs.init 1 X6 hx hZ hown (am10_2 l Z a0 hw [] u_1 aw0 u_0 kaw0 HW (b6) (b2) (ad2) (s0) (ad1) (b5_0) (kx5_0) h6 n0 old6 f7 f8 f9 f10 f11 f12 f13 f14 A6 F6_trail F6_marks F6_initial F6_lower F6_upper F6_holes F6_sizes F6_withOneValue F6_trailSize F6_resized nn_b6 (Ne.symm ne_b2_b6) (Ne.symm ne_ad2_b6) (Ne.symm ne_ad1_b6) (Ne.symm ne_b5_0_b6) ov5_0) (wd hw 81 rfl) (wd hw 78 rfl) (wd hw 79 rfl) rfl (wd hw 80 rfl) (by decide) (by decide) (by decide) (by rw [hml]; rfl) [(.ref b2)] (lenOf pd_6 rfl) rfl (Nat.le_of_eq rfl) (hb hby at_164) rfl e6 (by decide) (by decide) fun T15 Lc15 v15 X15 hQ15 => ?_
  obtain ⟨b15_0, b15_1, b15_2, b15_3, b15_4, b15_5, kx15_0, kx15_1, kx15_2, kx15_3, kx15_4, kx15_5, ex15_0, rfl, gb_b15_0, gb_b15_1, gb_b15_2, gb_b15_3, gb_b15_4, gb_b15_5, ne_b15_0_b15_1, ne_b15_0_b15_2, ne_b15_0_b15_3, ne_b15_0_b15_4, ne_b15_0_b15_5, ne_b15_1_b15_2, ne_b15_1_b15_3, ne_b15_1_b15_4, ne_b15_1_b15_5, ne_b15_2_b15_3, ne_b15_2_b15_4, ne_b15_2_b15_5, ne_b15_3_b15_4, ne_b15_3_b15_5, ne_b15_4_b15_5, Nq15, K15, p15_0, p15_1, p15_2, p15_3, p15_4, p15_5, p15_6, p15_7, p15_8, p15_9, p15_10, p15_11, p15_12, p15_13, p15_14, p15_15, p15_16, ov15_0, ov15_1⟩ := hQ15
  have nn_b15_0 : n0 ≤ b15_0 := Nat.le_trans (old_z0 old6) gb_b15_0
  have sz_b15_0 : h0.size ≤ b15_0 := Nat.le_trans kp6.1 gb_b15_0
  have nn_b15_1 : n0 ≤ b15_1 := Nat.le_trans (old_z0 old6) gb_b15_1
  have sz_b15_1 : h0.size ≤ b15_1 := Nat.le_trans kp6.1 gb_b15_1
  have nn_b15_2 : n0 ≤ b15_2 := Nat.le_trans (old_z0 old6) gb_b15_2
  have sz_b15_2 : h0.size ≤ b15_2 := Nat.le_trans kp6.1 gb_b15_2
  have nn_b15_3 : n0 ≤ b15_3 := Nat.le_trans (old_z0 old6) gb_b15_3
  have sz_b15_3 : h0.size ≤ b15_3 := Nat.le_trans kp6.1 gb_b15_3
  have nn_b15_4 : n0 ≤ b15_4 := Nat.le_trans (old_z0 old6) gb_b15_4
  have sz_b15_4 : h0.size ≤ b15_4 := Nat.le_trans kp6.1 gb_b15_4
  have nn_b15_5 : n0 ≤ b15_5 := Nat.le_trans (old_z0 old6) gb_b15_5
  have sz_b15_5 : h0.size ≤ b15_5 := Nat.le_trans kp6.1 gb_b15_5
  have old15 := old6.keep K15 (allS nn_b6 all0)
  have hk15 := Nat.le_trans hk6 K15.1
  have kp15 := kp6.trans K15 (allS (Or.inr sz_b6) all0)
  have N15 := Fr.app N5 Nq15
  show Go p e below _ (T15.setTop (mkF m 167 _ [(.ref b6)]))
  refine gs.astore X15.here hx (hb hby at_167) rfl (l' := #[.val (.int lf0), .val (.int lf1), .val (.int lf2), .val (.long p4), .second, .val (.int p5), .val (.long ln0), .second, .val (.long lf8), .second, .val (.long lf10), .second, .val (.ref ld12), .val (.ref ld13), .val (.ref ld14), .val (.ref ad1), .val (.ref ld16), .val (.ref ld17), .val (.int (1 : Int32)), .val (.ref b2), .val (.ref b6), .unset, .unset, .unset, .unset, .unset, .unset, .unset]) rfl ?_
  have hy0 := to64 hs0
  obtain ⟨fs, hd_fs⟩ : ∃ z : Nat → Int32, z = fun i => ([s0] : List Int32).getD i s0 := ⟨_, rfl⟩
  have g16_ : Ari Z T15.heap b15_3 kx15_3 (1 : Int32) fs := Arw.of_list p15_14 (by rw [hd_fs]; intro i hi; have h4 : i < 1 := hi; rcases i with _ | i <;> first | rfl | omega)
  have hv_fs0 : (fs ((0 : Int32)).toNatClampNeg) = s0 := by rw [hd_fs]; rfl
  obtain ⟨fu, hd_fu⟩ : ∃ z : Nat → Int32, z = fun i => ([(s0 - (1 : Int32))] : List Int32).getD i (s0 - (1 : Int32)) := ⟨_, rfl⟩
  have g17_ : Ari Z T15.heap b15_5 kx15_5 (1 : Int32) fu := Arw.of_list p15_16 (by rw [hd_fu]; intro i hi; have h4 : i < 1 := hi; rcases i with _ | i <;> first | rfl | omega)
  have hv_fu0 : (fu ((0 : Int32)).toNatClampNeg) = (s0 - (1 : Int32)) := by rw [hd_fu]; rfl
  have g18_ : Ari Z T15.heap b15_2 kx15_2 (1 : Int32) (fun _ => (0 : Int32)) := Arw.of_list p15_13 (by intro i hi; have h4 : i < 1 := hi; rcases i with _ | i <;> first | rfl | omega)
  have g19_ : Arw Z T15.heap b15_0 kx15_0 (.array .long) (1 : Int32) (fun _ => .null) := Arw.of_list p15_11 (by intro i hi; have h4 : i < 1 := hi; rcases i with _ | i <;> first | rfl | omega)
  obtain ⟨fa, hd_fa⟩ : ∃ z : Nat → Addr, z = fun i => ([ad2] : List Addr).getD i ad2 := ⟨_, rfl⟩
  have g20_ : Ara Z T15.heap b15_1 kx15_1 (.object "com/example/monarc/monarc/InitialDomain") (1 : Int32) fa := Arw.of_list p15_12 (by rw [hd_fa]; intro i hi; have h4 : i < 1 := hi; rcases i with _ | i <;> first | rfl | omega)
  have hv_fa0 : (fa ((0 : Int32)).toNatClampNeg) = ad2 := by rw [hd_fa]; rfl
  have g21_f : Arf Z T15.heap b15_4 kx15_4 (1024 : Int32) (fun _ => (0 : Int64)) := Arf.of_arv p15_15
  obtain ⟨ft, hd_ft⟩ : ∃ z, z = (fun _ => (0 : Int64)) := ⟨_, rfl⟩
  have v22_ : Arf Z T15.heap b15_4 kx15_4 (1024 : Int32) ft := by rw [hd_ft]; exact g21_f
  obtain ⟨t0, hd_t0⟩ : ∃ z, z = (0 : Int32) := ⟨_, rfl⟩
  have v23_ : Fld Z T15.heap b6 "com/example/monarc/monarc/Domains" "trailSize" "I" (.int t0) := by rw [hd_t0]; exact p15_7
  obtain ⟨w0, hd_w0⟩ : ∃ z, z = ex15_0 := ⟨_, rfl⟩
  have v24_ : Fld Z T15.heap b6 "com/example/monarc/monarc/Domains" "withOneValue" "I" (.int w0) := by rw [hd_w0]; exact p15_9
  have hb_t0 : t0.toInt = 0 := by rw [hd_t0]; rfl
  have o1024 : (1024 : Int32).toInt = 1024 := rfl
  refine gs.iload X15.here hx (hb hby at_169) rfl ?_
  have hc171 : (0 : Int32) < (1 : Int32) := by decide
  refine gs.ifNo X15.here hx (hb hby at_171) ((if0 _ _).trans (tlt hc171).2.2.2) ?_
  refine gs.lload X15.here hx (hb hby at_174) rfl ?_
  refine gs.goto 180 X15.here hx (hb hby at_176) rfl ?_
  refine gs.iload X15.here hx (hb hby at_180) rfl ?_
  refine gs.iconst 1 X15.here hx (hb hby at_182) rfl ?_
  have hc183 : ¬ ((1 : Int32) < (1 : Int32)) := by decide
  refine gs.icmpYes 191 X15.here hx (hb hby at_183) (flt hc183).2.2.2 rfl ?_
  refine Go.fin (fun t_ k_ => XS.lconst X15.here hx rfl (hb hby at_191) k_) ?_
  show Go p e below _ (T15.setTop (mkF m 192 _ [(.long (0 : Int64)), (.long ln0)]))
  refine gs.ladd X15.here hx (hb hby at_192) ?_
  refine gs.iload X15.here hx (hb hby at_193) rfl ?_
  refine gs.iconst 2 X15.here hx (hb hby at_195) rfl ?_
  have hc196 : ¬ ((2 : Int32) < (1 : Int32)) := by decide
  refine gs.icmpYes 204 X15.here hx (hb hby at_196) (flt hc196).2.2.2 rfl ?_
  refine Go.fin (fun t_ k_ => XS.lconst X15.here hx rfl (hb hby at_204) k_) ?_
  show Go p e below _ (T15.setTop (mkF m 205 _ [(.long (0 : Int64)), (.long (ln0 + (0 : Int64)))]))
  refine gs.ladd X15.here hx (hb hby at_205) ?_
  refine gs.lstore X15.here hx (hb hby at_206) (l' := #[.val (.int lf0), .val (.int lf1), .val (.int lf2), .val (.long p4), .second, .val (.int p5), .val (.long ln0), .second, .val (.long lf8), .second, .val (.long lf10), .second, .val (.ref ld12), .val (.ref ld13), .val (.ref ld14), .val (.ref ad1), .val (.ref ld16), .val (.ref ld17), .val (.int (1 : Int32)), .val (.ref b2), .val (.ref b6), .val (.long ((ln0 + (0 : Int64)) + (0 : Int64))), .second, .unset, .unset, .unset, .unset, .unset]) rfl ?_
  refine gs.aload X15.here hx (hb hby at_208) rfl rfl ?_
  refine gs.virt 0 X15 hx hZ hown (am12_2 l Z a0 hw [] u_1 aw0 u_0 kaw0 HW (b6) (b15_3) (kx15_3) (fs) T15.heap n0 old15 p15_5 g16_ (by decide)) (wd hw 118 rfl) (wd hw 78 rfl) (wd hw 114 rfl) (wd hw 115 rfl) (notFace_of_selects (args := #[]) (mvT hZ (wd hw 117 rfl))) (wd hw 117 rfl) (wd hw 116 rfl) (by decide) p15_0 (by decide) (by decide) (by rw [hml]; rfl) [] (lenOf pd_7 rfl) rfl (Nat.le_of_eq rfl) (hb hby at_210) rfl rfl (by decide) (by decide) fun T25 Lc25 v25 X25 hQ25 => ?_
  obtain ⟨rfl, Nq25, e25⟩ := hQ25
  have N25 := Fr.app N15 Nq25
  show Go p e below _ (T25.setTop (mkF m 213 _ [(.long ((0 : Int64) + ((fs ((0 : Int32)).toNatClampNeg).toInt64)))]))
  refine gs.lload X25.here hx (hb hby at_213) rfl ?_
  refine Go.fin (fun t_ k_ => XS.lcmp X25.here hx rfl (hb hby at_215) rfl k_) ?_
  show Go p e below _ (T25.setTop (mkF m 216 _ [(.int (lcmpW ((0 : Int64) + ((fs ((0 : Int32)).toNatClampNeg).toInt64)) ((ln0 + (0 : Int64)) + (0 : Int64))))]))
  have hc216 : (lcmpW ((0 : Int64) + ((fs ((0 : Int32)).toNatClampNeg).toInt64)) ((ln0 + (0 : Int64)) + (0 : Int64))) = (0 : Int32) := by rw [hv_fs0, hy0]; exact lw_of_eq (by simp only [zero_add64, add_zero64])
  refine gs.ifYes 221 X25.here hx (hb hby at_216) ((if0 _ _).trans (teq hc216).1) rfl ?_
  refine gs.iload X25.here hx (hb hby at_221) rfl ?_
  have hc223 : ¬ ((1 : Int32) = (0 : Int32)) := by decide
  refine gs.ifYes 228 X25.here hx (hb hby at_223) ((if0 _ _).trans (feq hc223).2) rfl ?_
  refine gs.iload X25.here hx (hb hby at_228) rfl ?_
  refine gs.iconst 2 X25.here hx (hb hby at_230) rfl ?_
  refine Go.fin (fun t_ k_ => XS.iushr X25.here hx rfl (hb hby at_231) rfl k_) ?_
  show Go p e below _ (T25.setTop (mkF m 232 _ [(.int ((p5.toUInt32 >>> ((2 : Int32) &&& 31).toUInt32).toInt32))]))
  refine gs.iconst 3 X25.here hx (hb hby at_232) rfl ?_
  refine gs.iand X25.here hx (hb hby at_233) ?_
  refine gs.iload X25.here hx (hb hby at_234) rfl ?_
  refine Go.fin (fun t_ k_ => iremM X25 hx rfl (hb hby at_236) rfl (by decide) k_) ?_
  show Go p e below _ (T25.setTop (mkF m 237 _ [(.int ((((p5.toUInt32 >>> ((2 : Int32) &&& 31).toUInt32).toInt32) &&& (3 : Int32)) % (1 : Int32)))]))
  refine gs.istore X25.here hx (hb hby at_237) (l' := #[.val (.int lf0), .val (.int lf1), .val (.int lf2), .val (.long p4), .second, .val (.int p5), .val (.long ln0), .second, .val (.long lf8), .second, .val (.long lf10), .second, .val (.ref ld12), .val (.ref ld13), .val (.ref ld14), .val (.ref ad1), .val (.ref ld16), .val (.ref ld17), .val (.int (1 : Int32)), .val (.ref b2), .val (.ref b6), .val (.long ((ln0 + (0 : Int64)) + (0 : Int64))), .second, .val (.int ((((p5.toUInt32 >>> ((2 : Int32) &&& 31).toUInt32).toInt32) &&& (3 : Int32)) % (1 : Int32))), .unset, .unset, .unset, .unset]) rfl ?_
  generalize hk_t : ((((p5.toUInt32 >>> ((2 : Int32) &&& 31).toUInt32).toInt32) &&& (3 : Int32)) % (1 : Int32)) = t
  show Go p e below _ (T25.setTop (mkF m 239 #[.val (.int lf0), .val (.int lf1), .val (.int lf2), .val (.long p4), .second, .val (.int p5), .val (.long ln0), .second, .val (.long lf8), .second, .val (.long lf10), .second, .val (.ref ld12), .val (.ref ld13), .val (.ref ld14), .val (.ref ad1), .val (.ref ld16), .val (.ref ld17), .val (.int (1 : Int32)), .val (.ref b2), .val (.ref b6), .val (.long ((ln0 + (0 : Int64)) + (0 : Int64))), .second, .val (.int t), .unset, .unset, .unset, .unset] []))
  have hb_t : 0 ≤ t.toInt ∧ t.toInt < 1 := by rw [← hk_t]; exact remk_bd (and3_bd _) (z := (1 : Int32)) rfl (by decide)
  rcases cs1 hb_t with rfl
  next =>
    show Go p e below _ (T25.setTop (mkF m 239 #[.val (.int lf0), .val (.int lf1), .val (.int lf2), .val (.long p4), .second, .val (.int p5), .val (.long ln0), .second, .val (.long lf8), .second, .val (.long lf10), .second, .val (.ref ld12), .val (.ref ld13), .val (.ref ld14), .val (.ref ad1), .val (.ref ld16), .val (.ref ld17), .val (.int (1 : Int32)), .val (.ref b2), .val (.ref b6), .val (.long ((ln0 + (0 : Int64)) + (0 : Int64))), .second, .val (.int (0 : Int32)), .unset, .unset, .unset, .unset] []))
    refine gs.iload X25.here hx (hb hby at_239) rfl ?_
    have hc241 : (0 : Int32) = (0 : Int32) := by decide
    refine gs.ifNo X25.here hx (hb hby at_241) ((if0 _ _).trans (teq hc241).2) ?_
    refine gs.lload X25.here hx (hb hby at_244) rfl ?_
    refine gs.goto 262 X25.here hx (hb hby at_246) rfl ?_
    refine gs.lstore X25.here hx (hb hby at_262) (l' := #[.val (.int lf0), .val (.int lf1), .val (.int lf2), .val (.long p4), .second, .val (.int p5), .val (.long ln0), .second, .val (.long lf8), .second, .val (.long lf10), .second, .val (.ref ld12), .val (.ref ld13), .val (.ref ld14), .val (.ref ad1), .val (.ref ld16), .val (.ref ld17), .val (.int (1 : Int32)), .val (.ref b2), .val (.ref b6), .val (.long ((ln0 + (0 : Int64)) + (0 : Int64))), .second, .val (.int (0 : Int32)), .val (.long ln0), .second, .unset, .unset]) rfl ?_
    refine gs.lload X25.here hx (hb hby at_264) rfl ?_
    refine Go.fin (fun t_ k_ => XS.lconst X25.here hx rfl (hb hby at_266) k_) ?_
    show Go p e below _ (T25.setTop (mkF m 267 _ [(.long (0 : Int64)), (.long ln0)]))
    refine gs.lloadN X25.here hx (hb hby at_267) rfl ?_
    refine gs.stat 2 X25 hx hZ hown (rm24 l Z a0 hw [] u_1 aw0 u_0 kaw0 HW (0 : Int64) p4 (mxL (0 : Int64) p4) T15.heap n0 old15 rfl) (wd hw 186 rfl) (wd hw 143 rfl) (wd hw 184 rfl) (wd hw 185 rfl) (by decide) (by decide) (by decide) (by rw [hml]; rfl) [(.long (0 : Int64)), (.long p4)] (lenOf pd_16 rfl) rfl (Nat.le_of_eq rfl) (hb hby at_268) rfl e25 (by decide) (by decide) fun T26 Lc26 v26 X26 hQ26 => ?_
    obtain ⟨rfl, Nq26, e26⟩ := hQ26
    have N26 := Fr.app N25 Nq26
    show Go p e below _ (T26.setTop (mkF m 271 _ [(.long (mxL (0 : Int64) p4)), (.long ln0)]))
    refine gs.stat 0 X26 hx hZ hown (rm25 l Z a0 hw [] u_1 aw0 u_0 kaw0 HW ln0 (mxL (0 : Int64) p4) (mnL ln0 (mxL (0 : Int64) p4)) T15.heap n0 old15 rfl) (wd hw 189 rfl) (wd hw 143 rfl) (wd hw 187 rfl) (wd hw 188 rfl) (by decide) (by decide) (by decide) (by rw [hml]; rfl) [(.long ln0), (.long (mxL (0 : Int64) p4))] (lenOf pd_16 rfl) rfl (Nat.le_of_eq rfl) (hb hby at_271) rfl e26 (by decide) (by decide) fun T27 Lc27 v27 X27 hQ27 => ?_
    obtain ⟨rfl, Nq27, e27⟩ := hQ27
    have N27 := Fr.app N26 Nq27
    show Go p e below _ (T27.setTop (mkF m 274 _ [(.long (mnL ln0 (mxL (0 : Int64) p4)))]))
    refine gs.lstore X27.here hx (hb hby at_274) (l' := #[.val (.int lf0), .val (.int lf1), .val (.int lf2), .val (.long p4), .second, .val (.int p5), .val (.long ln0), .second, .val (.long lf8), .second, .val (.long lf10), .second, .val (.ref ld12), .val (.ref ld13), .val (.ref ld14), .val (.ref ad1), .val (.ref ld16), .val (.ref ld17), .val (.int (1 : Int32)), .val (.ref b2), .val (.ref b6), .val (.long ((ln0 + (0 : Int64)) + (0 : Int64))), .second, .val (.int (0 : Int32)), .val (.long ln0), .second, .val (.long (mnL ln0 (mxL (0 : Int64) p4))), .second]) rfl ?_
    generalize hk_rr : (mnL ln0 (mxL (0 : Int64) p4)) = rr
    show Go p e below _ (T27.setTop (mkF m 276 #[.val (.int lf0), .val (.int lf1), .val (.int lf2), .val (.long p4), .second, .val (.int p5), .val (.long ln0), .second, .val (.long lf8), .second, .val (.long lf10), .second, .val (.ref ld12), .val (.ref ld13), .val (.ref ld14), .val (.ref ad1), .val (.ref ld16), .val (.ref ld17), .val (.int (1 : Int32)), .val (.ref b2), .val (.ref b6), .val (.long ((ln0 + (0 : Int64)) + (0 : Int64))), .second, .val (.int (0 : Int32)), .val (.long ln0), .second, .val (.long rr), .second] []))
    refine gs.aload X27.here hx (hb hby at_276) rfl rfl ?_
    refine gs.iload X27.here hx (hb hby at_278) rfl ?_
    refine gs.lloadN X27.here hx (hb hby at_280) rfl ?_
    refine (fun H_ => H_ (0 : Int32) rfl : (∀ tt : Int32, tt = (0 : Int32) → Go p e below (Fin2 s below Q room_1.cells room_1.slots) (T27.setTop (mkF m 281 #[.val (.int lf0), .val (.int lf1), .val (.int lf2), .val (.long p4), .second, .val (.int p5), .val (.long ln0), .second, .val (.long lf8), .second, .val (.long lf10), .second, .val (.ref ld12), .val (.ref ld13), .val (.ref ld14), .val (.ref ad1), .val (.ref ld16), .val (.ref ld17), .val (.int (1 : Int32)), .val (.ref b2), .val (.ref b6), .val (.long ((ln0 + (0 : Int64)) + (0 : Int64))), .second, .val (.int (0 : Int32)), .val (.long ln0), .second, .val (.long rr), .second] [(.long p4), (.int tt), (.ref b6)]))) → _) ?_
    intro tt htt
    obtain ⟨kn, hd_kn⟩ : ∃ z, z = (1 : Int32) := ⟨_, rfl⟩
    have ht_ : tt.toInt = 0 := by rw [htt]; rfl
    have hk_ : kn.toInt = 1 := by rw [hd_kn]; rfl
    have v28_ : Ari Z T15.heap b15_3 kx15_3 kn fs := by rw [hd_kn]; exact g16_
    have v29_ : Ari Z T15.heap b15_5 kx15_5 kn fu := by rw [hd_kn]; exact g17_
    have v30_ : Ari Z T15.heap b15_2 kx15_2 kn (fun _ => (0 : Int32)) := by rw [hd_kn]; exact g18_
    have v31_ : Arw Z T15.heap b15_0 kx15_0 (.array .long) kn (fun _ => .null) := by rw [hd_kn]; exact g19_
    have v32_ : Ara Z T15.heap b15_1 kx15_1 (.object "com/example/monarc/monarc/InitialDomain") kn fa := by rw [hd_kn]; exact g20_
    obtain ⟨fe, hd_fe⟩ : ∃ z, z = ((mnL (s0.toInt64) (mxL (0 : Int64) ((mxL (-2147483648 : Int64) (mnL p4 (2147483648 : Int64))) - (0 : Int64)))).toInt32) := ⟨_, rfl⟩
    have hb_fe : fe.toInt = min ln0.toInt (max 0 p4.toInt) := by rw [hd_fe]; exact fe_bd hb_ln0 hs0
    obtain ⟨ut, hd_ut⟩ : ∃ z, z = (s0 - (1 : Int32)) := ⟨_, rfl⟩
    have hb_ut := up_eq hb_ln0 hs0 hd_ut
    by_cases h_f0 : (0 : Int32) < fe
    case pos =>
      by_cases h_fu : ut < fe
      case pos =>
        have f33 := (f7.keep K15)
        have f34 := (((((HF_ad2_InitialDomain_lowest.ext E2).keep K3 (ninS ne_ad2_b2 nin0)).keep K5 (ninS ne_ad2_b2 nin0)).ext E6).keep K15 (ninS ne_ad2_b6 nin0))
        have f35 := (f8.keep K15 (ninS ne_ad2_b6 nin0))
        have f36 := (((((HF_ad2_InitialDomain_values.ext E2).keep K3 (ninS ne_ad2_b2 nin0)).keep K5 (ninS ne_ad2_b2 nin0)).ext E6).keep K15 (ninS ne_ad2_b6 nin0))
        have ne_b6_b15_4 : b6 ≠ b15_4 := Nat.ne_of_lt (Nat.lt_of_lt_of_le A6.lt gb_b15_4)
        have ne_b6_b15_2 : b6 ≠ b15_2 := Nat.ne_of_lt (Nat.lt_of_lt_of_le A6.lt gb_b15_2)
        have ne_b6_b15_3 : b6 ≠ b15_3 := Nat.ne_of_lt (Nat.lt_of_lt_of_le A6.lt gb_b15_3)
        refine gs.virt 0 X27 hx hZ hown (am26_1 l Z a0 hw [] u_1 aw0 u_0 kaw0 HW (b6) (tt) (p4) (ad2) (s0) (b15_4) (b15_1) (b15_2) (b15_5) (b15_0) (b15_3) (w0) (t0) (kx15_3) (kn) (fs) (kx15_5) (fu) (kx15_2) (kx15_0) (kx15_1) (fa) (kx15_4) (ft) (fe) (ut) T15.heap n0 old15 f33 f34 f35 f36 p15_0 p15_6 p15_2 p15_3 p15_8 p15_1 p15_5 v24_ v23_ p15_4 v28_ v29_ v30_ v31_ v32_ v22_ nn_b6 nn_b15_4 nn_b15_2 nn_b15_3 ne_b6_b15_4 ne_b6_b15_2 ne_b6_b15_3 (Ne.symm ne_b15_2_b15_4) (Ne.symm ne_b15_3_b15_4) ne_b15_2_b15_3 h_f0 (i_lt (by have o0 : (0 : Int32).toInt = 0 := rfl; omega)) (tin ht_ hk_ (by decide) (by decide)) (by rw [o1024]; omega) h_fu (i_ne (by rw [o1024]; omega)) hd_fe.symm (by rw [htt, hv_fs0]) (by rw [htt, hv_fu0, hd_ut]) (by rw [htt, hv_fa0]) ov15_0 ov15_1) (wd hw 194 rfl) (wd hw 78 rfl) (wd hw 190 rfl) (wd hw 191 rfl) (notFace_of_selects (args := #[]) (mvT hZ (wd hw 193 rfl))) (wd hw 193 rfl) (wd hw 192 rfl) (by decide) p15_0 (by decide) (by decide) (by rw [hml]; rfl) [(.int tt), (.long p4)] (lenOf pd_21 rfl) rfl (Nat.le_of_eq rfl) (hb hby at_281) rfl e27 (by decide) (by decide) fun T37 Lc37 v37 X37 hQ37 => ?_
        obtain ⟨ex37_0, rfl, Nq37, K37, p37_0, p37_1, p37_2, p37_3, p37_4, p37_5, p37_6, p37_7, p37_8, p37_9, p37_10, p37_11, p37_12⟩ := hQ37
        have old37 := old15.keep K37 (allS nn_b6 (allS nn_b15_4 (allS nn_b15_2 (allS nn_b15_3 all0))))
        have hk37 := Nat.le_trans hk15 K37.1
        have kp37 := kp15.trans K37 (allS (Or.inr sz_b6) (allS (Or.inr sz_b15_4) (allS (Or.inr sz_b15_2) (allS (Or.inr sz_b15_3) all0))))
        have N37 := Fr.app N27 Nq37
        show Go p e below _ (T37.setTop (mkF m 284 _ []))
        obtain ⟨fz, hd_fz⟩ : ∃ z, z = (fun i => if i = (tt).toNatClampNeg then (s0 - (mxI (0 : Int32) ((ut + (1 : Int32)) - (0 : Int32)))) else fs i) := ⟨_, rfl⟩
        have v38_ : Ari Z T37.heap b15_3 kx15_3 kn fz := by rw [hd_fz]; exact p37_12
        have v39_ := v38_
        rw [hd_kn] at v39_
        have v39_ : Ari Z T37.heap b15_3 kx15_3 (1 : Int32) fz := v39_
        have hz0 : (fz ((0 : Int32)).toNatClampNeg) = (s0 - (mxI (0 : Int32) ((ut + (1 : Int32)) - (0 : Int32)))) := by rw [hd_fz, htt]; exact if_pos rfl
        have hy0_ : ((fz ((0 : Int32)).toNatClampNeg).toInt64) = ln0 - rr := by rw [hz0]; exact rd_b hb_ln0 hs0 hb_fe (up_one hb_ln0 hb_ut hb_fe h_fu) hk_rr
        refine gs.aload X37.here hx (hb hby at_284) rfl rfl ?_
        refine gs.virt 0 X37 hx hZ hown (am12_2 l Z a0 hw [] u_1 aw0 u_0 kaw0 HW (b6) (b15_3) (kx15_3) (fz) T37.heap n0 old37 p37_5 v39_ (by decide)) (wd hw 118 rfl) (wd hw 78 rfl) (wd hw 114 rfl) (wd hw 115 rfl) (notFace_of_selects (args := #[]) (mvT hZ (wd hw 117 rfl))) (wd hw 117 rfl) (wd hw 116 rfl) (by decide) p37_0 (by decide) (by decide) (by rw [hml]; rfl) [] (lenOf pd_7 rfl) rfl (Nat.le_of_eq rfl) (hb hby at_286) rfl rfl (by decide) (by decide) fun T40 Lc40 v40 X40 hQ40 => ?_
        obtain ⟨rfl, Nq40, e40⟩ := hQ40
        have N40 := Fr.app N37 Nq40
        show Go p e below _ (T40.setTop (mkF m 289 _ [(.long ((0 : Int64) + ((fz ((0 : Int32)).toNatClampNeg).toInt64)))]))
        refine gs.lload X40.here hx (hb hby at_289) rfl ?_
        refine gs.lload X40.here hx (hb hby at_291) rfl ?_
        refine gs.lsub X40.here hx (hb hby at_293) ?_
        refine Go.fin (fun t_ k_ => XS.lcmp X40.here hx rfl (hb hby at_294) rfl k_) ?_
        show Go p e below _ (T40.setTop (mkF m 295 _ [(.int (lcmpW ((0 : Int64) + ((fz ((0 : Int32)).toNatClampNeg).toInt64)) (((ln0 + (0 : Int64)) + (0 : Int64)) - rr)))]))
        have hc295 : (lcmpW ((0 : Int64) + ((fz ((0 : Int32)).toNatClampNeg).toInt64)) (((ln0 + (0 : Int64)) + (0 : Int64)) - rr)) = (0 : Int32) := by rw [hy0_]; exact lw_of_eq (sum_1_0 _ 0 0 _)
        refine gs.ifNo X40.here hx (hb hby at_295) ((if0 _ _).trans (teq hc295).2) ?_
        refine gs.iconst 1 X40.here hx (hb hby at_298) rfl ?_
        refine gs.goto 303 X40.here hx (hb hby at_299) rfl ?_
        refine GoW.retZ X40 S0 (by rw [e40]; exact hk37) hx (t := .boolean) hret (by simp) hlk (hb hby at_303) (by rw [e40]; exact (hQ _ _ N40)) (by decide) (by decide)
      case neg =>
        have f41 := (f7.keep K15)
        have f42 := (((((HF_ad2_InitialDomain_lowest.ext E2).keep K3 (ninS ne_ad2_b2 nin0)).keep K5 (ninS ne_ad2_b2 nin0)).ext E6).keep K15 (ninS ne_ad2_b6 nin0))
        have f43 := (f8.keep K15 (ninS ne_ad2_b6 nin0))
        have f44 := (((((HF_ad2_InitialDomain_values.ext E2).keep K3 (ninS ne_ad2_b2 nin0)).keep K5 (ninS ne_ad2_b2 nin0)).ext E6).keep K15 (ninS ne_ad2_b6 nin0))
        have ne_b6_b15_4 : b6 ≠ b15_4 := Nat.ne_of_lt (Nat.lt_of_lt_of_le A6.lt gb_b15_4)
        have ne_b6_b15_2 : b6 ≠ b15_2 := Nat.ne_of_lt (Nat.lt_of_lt_of_le A6.lt gb_b15_2)
        have ne_b6_b15_3 : b6 ≠ b15_3 := Nat.ne_of_lt (Nat.lt_of_lt_of_le A6.lt gb_b15_3)
        refine gs.virt 0 X27 hx hZ hown (am26_2 l Z a0 hw [] u_1 aw0 u_0 kaw0 HW (b6) (tt) (p4) (ad2) (s0) (b15_4) (b15_1) (b15_2) (b15_5) (b15_0) (b15_3) (w0) (t0) (kx15_3) (kn) (fs) (kx15_5) (fu) (kx15_2) (kx15_0) (kx15_1) (fa) (kx15_4) (ft) (fe) (ut) T15.heap n0 old15 f41 f42 f43 f44 p15_0 p15_6 p15_2 p15_3 p15_8 p15_1 p15_5 v24_ v23_ p15_4 v28_ v29_ v30_ v31_ v32_ v22_ nn_b6 nn_b15_4 nn_b15_2 nn_b15_3 ne_b6_b15_4 ne_b6_b15_2 ne_b6_b15_3 (Ne.symm ne_b15_2_b15_4) (Ne.symm ne_b15_3_b15_4) ne_b15_2_b15_3 h_f0 (i_lt (by have o0 : (0 : Int32).toInt = 0 := rfl; omega)) (tin ht_ hk_ (by decide) (by decide)) (by rw [o1024]; omega) h_fu (i_ne (by rw [o1024]; omega)) hd_fe.symm (by rw [htt, hv_fs0]) (by rw [htt, hv_fu0, hd_ut]) (by rw [htt, hv_fa0]) ov15_0 ov15_1) (wd hw 194 rfl) (wd hw 78 rfl) (wd hw 190 rfl) (wd hw 191 rfl) (notFace_of_selects (args := #[]) (mvT hZ (wd hw 193 rfl))) (wd hw 193 rfl) (wd hw 192 rfl) (by decide) p15_0 (by decide) (by decide) (by rw [hml]; rfl) [(.int tt), (.long p4)] (lenOf pd_21 rfl) rfl (Nat.le_of_eq rfl) (hb hby at_281) rfl e27 (by decide) (by decide) fun T45 Lc45 v45 X45 hQ45 => ?_
        obtain ⟨ex45_0, rfl, Nq45, K45, p45_0, p45_1, p45_2, p45_3, p45_4, p45_5, p45_6, p45_7, p45_8, p45_9, p45_10, p45_11, p45_12⟩ := hQ45
        have old45 := old15.keep K45 (allS nn_b6 (allS nn_b15_4 (allS nn_b15_2 (allS nn_b15_3 all0))))
        have hk45 := Nat.le_trans hk15 K45.1
        have kp45 := kp15.trans K45 (allS (Or.inr sz_b6) (allS (Or.inr sz_b15_4) (allS (Or.inr sz_b15_2) (allS (Or.inr sz_b15_3) all0))))
        have N45 := Fr.app N27 Nq45
        show Go p e below _ (T45.setTop (mkF m 284 _ []))
        obtain ⟨fz, hd_fz⟩ : ∃ z, z = (fun i => if i = (tt).toNatClampNeg then (s0 - (mxI (0 : Int32) (fe - (0 : Int32)))) else fs i) := ⟨_, rfl⟩
        have v46_ : Ari Z T45.heap b15_3 kx15_3 kn fz := by rw [hd_fz]; exact p45_12
        have v47_ := v46_
        rw [hd_kn] at v47_
        have v47_ : Ari Z T45.heap b15_3 kx15_3 (1 : Int32) fz := v47_
        have hz0 : (fz ((0 : Int32)).toNatClampNeg) = (s0 - (mxI (0 : Int32) (fe - (0 : Int32)))) := by rw [hd_fz, htt]; exact if_pos rfl
        have hy0_ : ((fz ((0 : Int32)).toNatClampNeg).toInt64) = ln0 - rr := by rw [hz0]; exact rd_b hb_ln0 hs0 hb_fe rfl hk_rr
        refine gs.aload X45.here hx (hb hby at_284) rfl rfl ?_
        refine gs.virt 0 X45 hx hZ hown (am12_2 l Z a0 hw [] u_1 aw0 u_0 kaw0 HW (b6) (b15_3) (kx15_3) (fz) T45.heap n0 old45 p45_5 v47_ (by decide)) (wd hw 118 rfl) (wd hw 78 rfl) (wd hw 114 rfl) (wd hw 115 rfl) (notFace_of_selects (args := #[]) (mvT hZ (wd hw 117 rfl))) (wd hw 117 rfl) (wd hw 116 rfl) (by decide) p45_0 (by decide) (by decide) (by rw [hml]; rfl) [] (lenOf pd_7 rfl) rfl (Nat.le_of_eq rfl) (hb hby at_286) rfl rfl (by decide) (by decide) fun T48 Lc48 v48 X48 hQ48 => ?_
        obtain ⟨rfl, Nq48, e48⟩ := hQ48
        have N48 := Fr.app N45 Nq48
        show Go p e below _ (T48.setTop (mkF m 289 _ [(.long ((0 : Int64) + ((fz ((0 : Int32)).toNatClampNeg).toInt64)))]))
        refine gs.lload X48.here hx (hb hby at_289) rfl ?_
        refine gs.lload X48.here hx (hb hby at_291) rfl ?_
        refine gs.lsub X48.here hx (hb hby at_293) ?_
        refine Go.fin (fun t_ k_ => XS.lcmp X48.here hx rfl (hb hby at_294) rfl k_) ?_
        show Go p e below _ (T48.setTop (mkF m 295 _ [(.int (lcmpW ((0 : Int64) + ((fz ((0 : Int32)).toNatClampNeg).toInt64)) (((ln0 + (0 : Int64)) + (0 : Int64)) - rr)))]))
        have hc295 : (lcmpW ((0 : Int64) + ((fz ((0 : Int32)).toNatClampNeg).toInt64)) (((ln0 + (0 : Int64)) + (0 : Int64)) - rr)) = (0 : Int32) := by rw [hy0_]; exact lw_of_eq (sum_1_0 _ 0 0 _)
        refine gs.ifNo X48.here hx (hb hby at_295) ((if0 _ _).trans (teq hc295).2) ?_
        refine gs.iconst 1 X48.here hx (hb hby at_298) rfl ?_
        refine gs.goto 303 X48.here hx (hb hby at_299) rfl ?_
        refine GoW.retZ X48 S0 (by rw [e48]; exact hk45) hx (t := .boolean) hret (by simp) hlk (hb hby at_303) (by rw [e48]; exact (hQ _ _ N48)) (by decide) (by decide)
    case neg =>
      have f49 := (f7.keep K15)
      have f50 := (((((HF_ad2_InitialDomain_lowest.ext E2).keep K3 (ninS ne_ad2_b2 nin0)).keep K5 (ninS ne_ad2_b2 nin0)).ext E6).keep K15 (ninS ne_ad2_b6 nin0))
      have f51 := (f8.keep K15 (ninS ne_ad2_b6 nin0))
      have f52 := (((((HF_ad2_InitialDomain_values.ext E2).keep K3 (ninS ne_ad2_b2 nin0)).keep K5 (ninS ne_ad2_b2 nin0)).ext E6).keep K15 (ninS ne_ad2_b6 nin0))
      refine gs.virt 0 X27 hx hZ hown (am26_3 l Z a0 hw [] u_1 aw0 u_0 kaw0 HW (b6) (tt) (p4) (ad2) (s0) (b15_1) (b15_2) (b15_3) (kx15_3) (kn) (fs) (kx15_2) (kx15_1) (fa) (fe) T15.heap n0 old15 f49 f50 f51 f52 p15_2 p15_3 p15_5 v28_ v30_ v32_ h_f0 (i_lt (by have o0 : (0 : Int32).toInt = 0 := rfl; omega)) (tin ht_ hk_ (by decide) (by decide)) hd_fe.symm (by rw [htt, hv_fs0]) (by rw [htt, hv_fa0]) ov15_1) (wd hw 194 rfl) (wd hw 78 rfl) (wd hw 190 rfl) (wd hw 191 rfl) (notFace_of_selects (args := #[]) (mvT hZ (wd hw 193 rfl))) (wd hw 193 rfl) (wd hw 192 rfl) (by decide) p15_0 (by decide) (by decide) (by rw [hml]; rfl) [(.int tt), (.long p4)] (lenOf pd_21 rfl) rfl (Nat.le_of_eq rfl) (hb hby at_281) rfl e27 (by decide) (by decide) fun T53 Lc53 v53 X53 hQ53 => ?_
      obtain ⟨rfl, Nq53, e53⟩ := hQ53
      have N53 := Fr.app N27 Nq53
      show Go p e below _ (T53.setTop (mkF m 284 _ []))
      obtain ⟨fz, hd_fz⟩ : ∃ z, z = fs := ⟨_, rfl⟩
      have v54_ : Ari Z T15.heap b15_3 kx15_3 kn fz := by rw [hd_fz]; exact v28_
      have v55_ := v54_
      rw [hd_kn] at v55_
      have v55_ : Ari Z T15.heap b15_3 kx15_3 (1 : Int32) fz := v55_
      have hz0 : (fz ((0 : Int32)).toNatClampNeg) = s0 := by rw [hd_fz]; exact hv_fs0
      have hy0_ : ((fz ((0 : Int32)).toNatClampNeg).toInt64) = ln0 - rr := by rw [hz0]; exact (to64 hs0).trans (rd_a hb_ln0 hb_fe h_f0 hk_rr)
      refine gs.aload X53.here hx (hb hby at_284) rfl rfl ?_
      refine gs.virt 0 X53 hx hZ hown (am12_2 l Z a0 hw [] u_1 aw0 u_0 kaw0 HW (b6) (b15_3) (kx15_3) (fz) T15.heap n0 old15 p15_5 v55_ (by decide)) (wd hw 118 rfl) (wd hw 78 rfl) (wd hw 114 rfl) (wd hw 115 rfl) (notFace_of_selects (args := #[]) (mvT hZ (wd hw 117 rfl))) (wd hw 117 rfl) (wd hw 116 rfl) (by decide) p15_0 (by decide) (by decide) (by rw [hml]; rfl) [] (lenOf pd_7 rfl) rfl (Nat.le_of_eq rfl) (hb hby at_286) rfl e53 (by decide) (by decide) fun T56 Lc56 v56 X56 hQ56 => ?_
      obtain ⟨rfl, Nq56, e56⟩ := hQ56
      have N56 := Fr.app N53 Nq56
      show Go p e below _ (T56.setTop (mkF m 289 _ [(.long ((0 : Int64) + ((fz ((0 : Int32)).toNatClampNeg).toInt64)))]))
      refine gs.lload X56.here hx (hb hby at_289) rfl ?_
      refine gs.lload X56.here hx (hb hby at_291) rfl ?_
      refine gs.lsub X56.here hx (hb hby at_293) ?_
      refine Go.fin (fun t_ k_ => XS.lcmp X56.here hx rfl (hb hby at_294) rfl k_) ?_
      show Go p e below _ (T56.setTop (mkF m 295 _ [(.int (lcmpW ((0 : Int64) + ((fz ((0 : Int32)).toNatClampNeg).toInt64)) (((ln0 + (0 : Int64)) + (0 : Int64)) - rr)))]))
      have hc295 : (lcmpW ((0 : Int64) + ((fz ((0 : Int32)).toNatClampNeg).toInt64)) (((ln0 + (0 : Int64)) + (0 : Int64)) - rr)) = (0 : Int32) := by rw [hy0_]; exact lw_of_eq (sum_1_0 _ 0 0 _)
      refine gs.ifNo X56.here hx (hb hby at_295) ((if0 _ _).trans (teq hc295).2) ?_
      refine gs.iconst 1 X56.here hx (hb hby at_298) rfl ?_
      refine gs.goto 303 X56.here hx (hb hby at_299) rfl ?_
      refine GoW.retZ X56 S0 (by rw [e56]; exact hk15) hx (t := .boolean) hret (by simp) hlk (hb hby at_303) (by rw [e56]; exact (hQ _ _ N56)) (by decide) (by decide)
def Q_am14_2 (Z : State) (u_1 : Addr) (aw0 : Addr) (u_0 : ClassId) (kaw0 : ClassId) (ad1 : Addr) (ad2 : Addr) (ad3 : Addr) (ad6 : Addr) (kc1 : ClassId) (h0 : Heap) (n0 : Nat) (v : Option Value) (h : Heap) (L : List Loc) : Prop := v = none ∧ Fr n0 L ∧ Keep h0 h [ad1, ad3] ∧ (Exa Z h ad1 "java/util/ArrayList") ∧ (Fld Z h ad1 "java/util/AbstractList" "modCount" "I" (.int (2 : Int32))) ∧ (Fld Z h ad1 "java/util/ArrayList" "elementData" "[Ljava/lang/Object;" (.ref ad3)) ∧ (Fld Z h ad1 "java/util/ArrayList" "size" "I" (.int (2 : Int32))) ∧ (Arv Z h ad3 kc1 (.object "java/lang/Object") (10 : Int32) [(.ref ad6), (.ref ad2), .null, .null, .null, .null, .null, .null, .null, .null] .null)
set_option maxRecDepth 65536 in
set_option maxHeartbeats 40000000 in
theorem am14_2 (l : Launch) (Z : State) (a0 : Array Value) (hw : ∀ d ∈ tables_1, d.before a0 Z = true) (ws : List Jvm.Cond) (u_1 : Addr) (aw0 : Addr) (u_0 : ClassId) (kaw0 : ClassId) (HW : Wd Z u_1 aw0 u_0 kaw0) (ad1 : Addr) (ad2 : Addr) (ad3 : Addr) (ad6 : Addr) (kc1 : ClassId) (h0 : Heap) (n0 : Nat) (Ol : Old Z n0 h0) (HE_ad2 : Exa Z h0 ad2 "com/example/monarc/monarc/Variable") (HE_ad1 : Exa Z h0 ad1 "java/util/ArrayList") (HF_ad1_AbstractList_modCount : Fld Z h0 ad1 "java/util/AbstractList" "modCount" "I" (.int (2 : Int32))) (HF_ad1_ArrayList_elementData : Fld Z h0 ad1 "java/util/ArrayList" "elementData" "[Ljava/lang/Object;" (.ref ad3)) (HF_ad1_ArrayList_size : Fld Z h0 ad1 "java/util/ArrayList" "size" "I" (.int (1 : Int32))) (HV_ad3 : Arv Z h0 ad3 kc1 (.object "java/lang/Object") (10 : Int32) [(.ref ad6), .null, .null, .null, .null, .null, .null, .null, .null, .null] .null) (nn_ad1 : n0 ≤ ad1) (nn_ad3 : n0 ≤ ad3) (ne_ad1_ad3 : ad1 ≠ ad3) (hO_ad3 : Ovr Z kc1 "java/lang/Object") :
    MetFree l y_14 (head1 (Jvm.Cond.code y_14 jdk_38_method_24_code 4 none :: ws) (rm 0 0 0 0)) (fun a_ U_ => a_ = #[(.ref ad1), (.ref ad2), (.ref ad3), (.int (1 : Int32))] ∧ Z.Warmed39 U_.vm ∧ U_.heap = h0) (fun _ _ _ _ _ => True) (fun _ U_ o_ V_ => ∃ v_ L_, o_ = .returned v_ ∧ Q_am14_2 Z u_1 aw0 u_0 kaw0 ad1 ad2 ad3 ad6 kc1 h0 n0 v_ V_.heap L_ ∧ FrameEnd U_ o_ V_ L_ (rm 0 0 0 0).cells (rm 0 0 0 0).slots) := by
  refine MetFree.of_bodySF (plainFor_of_name pn_6) hisR ?_
  intro p e s m args below meth c s₁ Bd hml0 hP hK
  obtain ⟨rfl, hZ, hh⟩ := hP
  have hx := Bd.exec
  have hby := Bd.bytes
  have hml : c.maxLocals = 4 := hml0
  have hown : s.vm.findClass "java/util/ArrayList" = some m.cls := findClass_of_methodNamed Bd.named
  have hnm := (name_of_methodNamed Bd.named Bd.method).1
  have X0 : Stand p l e (rm 0 0 0 0) s m #[(.ref ad1), (.ref ad2), (.ref ad3), (.int (1 : Int32))] below meth c s₁ [] 0 0 := Stand.of_body Bd
  have e0 : s₁.heap = h0 := by rw [← hh, Bd.state]; rfl
  have N0 := Fr.nil n0
  have kp0 := Keep.refl h0 [ad1, ad3]
  show Go p e below (Fin1 s below (Q_am14_2 Z u_1 aw0 u_0 kaw0 ad1 ad2 ad3 ad6 kc1 h0 n0) (rm 0 0 0 0).cells (rm 0 0 0 0).slots) _
  refine Go.step (fun t_ k_ => castTop (ef_am14_1 m ad1 ad2 ad3 (1 : Int32)) k_) ?_
  obtain ⟨Eu_1, Su_1, Eaw0, Saw0, Au_1, Aaw0⟩ := id HW
  show Go p e below _ (s₁.setTop (mkF m 0 #[.val (.ref ad1), .val (.ref ad2), .val (.ref ad3), .val (.int (1 : Int32))] []))
  refine gs.iloadN X0.here hx (hb hby d14_0) rfl ?_
  refine gs.aloadN X0.here hx (hb hby d14_1) rfl rfl ?_
  obtain ⟨cl1, Ar1, -, Sz1, Ng1, -, -⟩ := id HV_ad3
  refine Go.fin (fun t_ k_ => X0.arraylength hx (by rw [e0]; exact Ar1.1) (State.isArrayOf_alike hZ.alike Ar1.2.1) (g := mkF m 2 _ _) rfl rfl (hb hby d14_2) _ k_) ?_
  rw [len_of Sz1 Ng1]
  show Go p e below _ (s₁.setTop (mkF m 3 _ [(.int (10 : Int32)), (.int (1 : Int32))]))
  have hc3 : ¬ ((1 : Int32) = (10 : Int32)) := by decide
  refine gs.icmpYes 11 X0.here hx (hb hby d14_3) (feq hc3).2 rfl ?_
  refine gs.aloadN X0.here hx (hb hby d14_11) rfl rfl ?_
  refine gs.iloadN X0.here hx (hb hby d14_12) rfl ?_
  refine gs.aloadN X0.here hx (hb hby d14_13) rfl rfl ?_
  obtain ⟨cl2, Ar2, q2, Sz2, Ng2, Hs2, G2⟩ := id HV_ad3
  have hin2 : ¬ ((1 : Int32) < 0 ∨ cl2.slots.size ≤ ((1 : Int32)).toNatClampNeg) := inb_of Sz2 ⟨by decide, by decide⟩
  obtain ⟨T3, h3, X3, e3, W3, st3⟩ := stR X0 hx hZ e0 Ar2 (j := (1 : Int32)) hin2 rfl (Sto.ofV Ar2 q2 hO_ad3 (Ins.of_exa HE_ad2 (wd hw 147 rfl))) (g := (mkF m 14 #[.val (.ref ad1), .val (.ref ad2), .val (.ref ad3), .val (.int (1 : Int32))] [(.ref ad2), (.int (1 : Int32)), (.ref ad3)])) rfl rfl (hb hby d14_14)
  have N3 := Fr.snoc X3 N0 nn_ad3
  have old3 := Ol.wr W3 nn_ad3
  have kp3 := kp0.wr W3 (Or.inl (List.mem_of_getElem? (i := 1) rfl))
  have V3 : Arv Z h3 ad3 kc1 (.object "java/lang/Object") (10 : Int32) [(.ref ad6), (.ref ad2), .null, .null, .null, .null, .null, .null, .null, .null] .null := Arv.set Ar2 q2 Sz2 Ng2 Hs2 G2 rfl W3 1 rfl (Nat.le_of_ble_eq_true rfl)
  refine Go.fin st3 ?_
  show Go p e below _ (T3.setTop (mkF m 15 _ []))
  refine gs.aloadN X3.here hx (hb hby d14_15) rfl rfl ?_
  refine gs.iloadN X3.here hx (hb hby d14_16) rfl ?_
  refine gs.iconst 1 X3.here hx (hb hby d14_17) rfl ?_
  refine gs.iadd X3.here hx (hb hby d14_18) ?_
  rw [show ((1 : Int32) + (1 : Int32)) = (2 : Int32) from by decide]
  have f4 := (HF_ad1_ArrayList_size.other W3 (Or.inl ne_ad1_ad3))
  have f5 := (HE_ad1.wr W3)
  obtain ⟨T6, h6, X6, e6, W6, st6⟩ := putF X3 hx hZ hown (host := "") (Or.inl (wd hw 98 rfl)) Via.refl e3 f4 f5 (Or.inl (wd hw 99 rfl)) (wd hw 53 rfl) (ty := .int) (by decide) rfl rfl (g := (mkF m 19 #[.val (.ref ad1), .val (.ref ad2), .val (.ref ad3), .val (.int (1 : Int32))] [(.int (2 : Int32)), (.ref ad1)])) rfl rfl (hb hby d14_19)
  have N6 := Fr.snoc X6 N3 nn_ad1
  have old6 := old3.wr W6 nn_ad1
  have kp6 := kp3.wr W6 (Or.inl (List.mem_of_getElem? (i := 0) rfl))
  have F6 := f4.same W6
  refine Go.fin st6 ?_
  show Go p e below _ (T6.setTop (mkF m 22 _ []))
  have f7 := (f5.wr W6)
  have f8 := ((HF_ad1_AbstractList_modCount.other W3 (Or.inl ne_ad1_ad3)).other W6 (Or.inr (sn71 hw)))
  have f9 := ((HF_ad1_ArrayList_elementData.other W3 (Or.inl ne_ad1_ad3)).other W6 (Or.inr (sn72 hw)))
  have f10 := (V3.other W6 (Ne.symm ne_ad1_ad3))
  refine Go.retV X6 hx Bd.returns Bd.notSynchronized (hb hby d14_22) (by rw [e6]; exact ⟨rfl, N6, kp6, f7, f8, f9, F6, f10⟩) (by decide) (by decide)
def Q_am13_2 (Z : State) (u_1 : Addr) (aw0 : Addr) (u_0 : ClassId) (kaw0 : ClassId) (ad1 : Addr) (ad2 : Addr) (ad5 : Addr) (ad6 : Addr) (kc1 : ClassId) (h0 : Heap) (n0 : Nat) (v : Option Value) (h : Heap) (L : List Loc) : Prop := v = some (.int (1 : Int32)) ∧ Fr n0 L ∧ Keep h0 h [ad1, ad6] ∧ (Exa Z h ad1 "java/util/ArrayList") ∧ (Fld Z h ad1 "java/util/AbstractList" "modCount" "I" (.int (2 : Int32))) ∧ (Fld Z h ad1 "java/util/ArrayList" "elementData" "[Ljava/lang/Object;" (.ref ad6)) ∧ (Fld Z h ad1 "java/util/ArrayList" "size" "I" (.int (2 : Int32))) ∧ (Arv Z h ad6 kc1 (.object "java/lang/Object") (10 : Int32) [(.ref ad5), (.ref ad2), .null, .null, .null, .null, .null, .null, .null, .null] .null)
set_option maxRecDepth 65536 in
set_option maxHeartbeats 40000000 in
theorem am13_2 (l : Launch) (Z : State) (a0 : Array Value) (hw : ∀ d ∈ tables_1, d.before a0 Z = true) (ws : List Jvm.Cond) (u_1 : Addr) (aw0 : Addr) (u_0 : ClassId) (kaw0 : ClassId) (HW : Wd Z u_1 aw0 u_0 kaw0) (ad1 : Addr) (ad2 : Addr) (ad5 : Addr) (ad6 : Addr) (kc1 : ClassId) (h0 : Heap) (n0 : Nat) (Ol : Old Z n0 h0) (HE_ad2 : Exa Z h0 ad2 "com/example/monarc/monarc/Variable") (HE_ad1 : Exa Z h0 ad1 "java/util/ArrayList") (HF_ad1_AbstractList_modCount : Fld Z h0 ad1 "java/util/AbstractList" "modCount" "I" (.int (1 : Int32))) (HF_ad1_ArrayList_elementData : Fld Z h0 ad1 "java/util/ArrayList" "elementData" "[Ljava/lang/Object;" (.ref ad6)) (HF_ad1_ArrayList_size : Fld Z h0 ad1 "java/util/ArrayList" "size" "I" (.int (1 : Int32))) (HV_ad6 : Arv Z h0 ad6 kc1 (.object "java/lang/Object") (10 : Int32) [(.ref ad5), .null, .null, .null, .null, .null, .null, .null, .null, .null] .null) (nn_ad1 : n0 ≤ ad1) (nn_ad6 : n0 ≤ ad6) (ne_ad1_ad6 : ad1 ≠ ad6) (hO_ad6 : Ovr Z kc1 "java/lang/Object") :
    MetFree l y_13 (head1 (Jvm.Cond.code y_13 jdk_38_method_25_code 2 (some .boolean) :: ws) (rm 1 0 0 15)) (fun a_ U_ => a_ = #[(.ref ad1), (.ref ad2)] ∧ Z.Warmed39 U_.vm ∧ U_.heap = h0) (fun _ _ _ _ _ => True) (fun _ U_ o_ V_ => ∃ v_ L_, o_ = .returned v_ ∧ Q_am13_2 Z u_1 aw0 u_0 kaw0 ad1 ad2 ad5 ad6 kc1 h0 n0 v_ V_.heap L_ ∧ FrameEnd U_ o_ V_ L_ (rm 1 0 0 15).cells (rm 1 0 0 15).slots) := by
  refine MetFree.of_bodySF (plainFor_of_name pn_6) hisR ?_
  intro p e s m args below meth c s₁ Bd hml0 hP hK
  obtain ⟨rfl, hZ, hh⟩ := hP
  have hx := Bd.exec
  have hby := Bd.bytes
  have hml : c.maxLocals = 2 := hml0
  have hown : s.vm.findClass "java/util/ArrayList" = some m.cls := findClass_of_methodNamed Bd.named
  have hnm := (name_of_methodNamed Bd.named Bd.method).1
  have X0 : Stand p l e (rm 1 0 0 15) s m #[(.ref ad1), (.ref ad2)] below meth c s₁ [] 0 0 := Stand.of_body Bd
  have e0 : s₁.heap = h0 := by rw [← hh, Bd.state]; rfl
  have N0 := Fr.nil n0
  have kp0 := Keep.refl h0 [ad1, ad6]
  show Go p e below (Fin1 s below (Q_am13_2 Z u_1 aw0 u_0 kaw0 ad1 ad2 ad5 ad6 kc1 h0 n0) (rm 1 0 0 15).cells (rm 1 0 0 15).slots) _
  refine Go.step (fun t_ k_ => castTop (ef_am13_1 m ad1 ad2) k_) ?_
  obtain ⟨Eu_1, Su_1, Eaw0, Saw0, Au_1, Aaw0⟩ := id HW
  show Go p e below _ (s₁.setTop (mkF m 0 #[.val (.ref ad1), .val (.ref ad2)] []))
  refine gs.aloadN X0.here hx (hb hby d13_0) rfl rfl ?_
  refine gs.dup X0.here hx (hb hby d13_1) rfl ?_
  refine gs.getF X0 hx hZ hown (wd hw 124 rfl) (Via.of (wd hw 125 rfl)) e0 HF_ad1_AbstractList_modCount (hb hby d13_2) fun T1 X1 e1 => ?_
  refine gs.iconst 1 X1.here hx (hb hby d13_5) rfl ?_
  refine gs.iadd X1.here hx (hb hby d13_6) ?_
  rw [show ((1 : Int32) + (1 : Int32)) = (2 : Int32) from by decide]
  obtain ⟨T2, h2, X2, e2, W2, st2⟩ := putF X1 hx hZ hown (host := "") (Or.inl (wd hw 124 rfl)) (Via.of (wd hw 125 rfl)) e1 HF_ad1_AbstractList_modCount HE_ad1 (Or.inl (wd hw 72 rfl)) (wd hw 53 rfl) (ty := .int) (by decide) rfl rfl (g := (mkF m 7 #[.val (.ref ad1), .val (.ref ad2)] [(.int (2 : Int32)), (.ref ad1)])) rfl rfl (hb hby d13_7)
  have N2 := Fr.snoc X2 N0 nn_ad1
  have old2 := Ol.wr W2 nn_ad1
  have kp2 := kp0.wr W2 (Or.inl (List.mem_of_getElem? (i := 0) rfl))
  have F2 := HF_ad1_AbstractList_modCount.same W2
  refine Go.fin st2 ?_
  show Go p e below _ (T2.setTop (mkF m 10 _ []))
  refine gs.aloadN X2.here hx (hb hby d13_10) rfl rfl ?_
  refine gs.aloadN X2.here hx (hb hby d13_11) rfl rfl ?_
  refine gs.aloadN X2.here hx (hb hby d13_12) rfl rfl ?_
  have f3 := (HF_ad1_ArrayList_elementData.other W2 (Or.inr (sn9 hw)))
  refine gs.getF X2 hx hZ hown (wd hw 74 rfl) Via.refl e2 f3 (hb hby d13_13) fun T4 X4 e4 => ?_
  refine gs.aloadN X4.here hx (hb hby d13_16) rfl rfl ?_
  have f5 := (HF_ad1_ArrayList_size.other W2 (Or.inr (sn10 hw)))
  refine gs.getF X4 hx hZ hown (wd hw 98 rfl) Via.refl e4 f5 (hb hby d13_17) fun T6 X6 e6 => ?_
  have f7 := (HE_ad1.wr W2)
  have f8 := (HE_ad2.wr W2)
  have f9 := (HV_ad6.other W2 (Ne.symm ne_ad1_ad6))
  refine gs.priv 0 X6 hx hZ hown (am14_2 l Z a0 hw [] u_1 aw0 u_0 kaw0 HW (ad1) (ad2) (ad6) (ad5) (kc1) h2 n0 old2 f8 f7 F2 f3 f5 f9 nn_ad1 nn_ad6 ne_ad1_ad6 hO_ad6) (wd hw 130 rfl) (wd hw 54 rfl) (wd hw 126 rfl) (wd hw 127 rfl) (mvT hZ (wd hw 129 rfl)) (wd hw 128 rfl) (by decide) f7 (by decide) (by decide) (by rw [hml]; rfl) [(.ref ad2), (.ref ad6), (.int (1 : Int32))] (lenOf pd_11 rfl) rfl (Nat.le_of_eq rfl) (hb hby d13_20) rfl e6 (by decide) (by decide) fun T10 Lc10 v10 X10 hQ10 => ?_
  obtain ⟨rfl, Nq10, K10, p10_0, p10_1, p10_2, p10_3, p10_4⟩ := hQ10
  have old10 := old2.keep K10 (allS nn_ad1 (allS nn_ad6 all0))
  have kp10 := kp2.trans K10 (allS (Or.inl (List.mem_of_getElem? (i := 0) rfl)) (allS (Or.inl (List.mem_of_getElem? (i := 1) rfl)) all0))
  have N10 := Fr.app N2 Nq10
  show Go p e below _ (T10.setTop (mkF m 23 _ []))
  refine gs.iconst 1 X10.here hx (hb hby d13_23) rfl ?_
  refine Go.retZ X10 hx (t := .boolean) Bd.returns (by simp) Bd.notSynchronized (hb hby d13_24) (by exact ⟨rfl, N10, kp10, p10_0, p10_1, p10_2, p10_3, p10_4⟩) (by decide) (by decide)
def Q_am11_3 (Z : State) (u_1 : Addr) (aw0 : Addr) (u_0 : ClassId) (kaw0 : ClassId) (ad1 : Addr) (h0 : Heap) (n0 : Nat) (v : Option Value) (h : Heap) (L : List Loc) : Prop := v = some (.int (2 : Int32)) ∧ Fr n0 L ∧ h = h0
set_option maxRecDepth 65536 in
set_option maxHeartbeats 40000000 in
theorem am11_3 (l : Launch) (Z : State) (a0 : Array Value) (hw : ∀ d ∈ tables_1, d.before a0 Z = true) (ws : List Jvm.Cond) (u_1 : Addr) (aw0 : Addr) (u_0 : ClassId) (kaw0 : ClassId) (HW : Wd Z u_1 aw0 u_0 kaw0) (ad1 : Addr) (h0 : Heap) (n0 : Nat) (Ol : Old Z n0 h0) (HF_ad1_ArrayList_size : Fld Z h0 ad1 "java/util/ArrayList" "size" "I" (.int (2 : Int32))) :
    MetFree l y_11 (head1 (Jvm.Cond.code y_11 jdk_38_method_8_code 1 (some .int) :: ws) (rm 0 0 0 0)) (fun a_ U_ => a_ = #[(.ref ad1)] ∧ Z.Warmed39 U_.vm ∧ U_.heap = h0) (fun _ _ _ _ _ => True) (fun _ U_ o_ V_ => ∃ v_ L_, o_ = .returned v_ ∧ Q_am11_3 Z u_1 aw0 u_0 kaw0 ad1 h0 n0 v_ V_.heap L_ ∧ FrameEnd U_ o_ V_ L_ (rm 0 0 0 0).cells (rm 0 0 0 0).slots) := by
  refine MetFree.of_bodySF (plainFor_of_name pn_6) hisR ?_
  intro p e s m args below meth c s₁ Bd hml0 hP hK
  obtain ⟨rfl, hZ, hh⟩ := hP
  have hx := Bd.exec
  have hby := Bd.bytes
  have hml : c.maxLocals = 1 := hml0
  have hown : s.vm.findClass "java/util/ArrayList" = some m.cls := findClass_of_methodNamed Bd.named
  have hnm := (name_of_methodNamed Bd.named Bd.method).1
  have X0 : Stand p l e (rm 0 0 0 0) s m #[(.ref ad1)] below meth c s₁ [] 0 0 := Stand.of_body Bd
  have e0 : s₁.heap = h0 := by rw [← hh, Bd.state]; rfl
  have N0 := Fr.nil n0
  have kp0 := Keep.refl h0 []
  show Go p e below (Fin1 s below (Q_am11_3 Z u_1 aw0 u_0 kaw0 ad1 h0 n0) (rm 0 0 0 0).cells (rm 0 0 0 0).slots) _
  refine Go.step (fun t_ k_ => castTop (ef_am11_1 m ad1) k_) ?_
  obtain ⟨Eu_1, Su_1, Eaw0, Saw0, Au_1, Aaw0⟩ := id HW
  show Go p e below _ (s₁.setTop (mkF m 0 #[.val (.ref ad1)] []))
  refine gs.aloadN X0.here hx (hb hby d11_0) rfl rfl ?_
  refine gs.getF X0 hx hZ hown (wd hw 98 rfl) Via.refl e0 HF_ad1_ArrayList_size (hb hby d11_1) fun T1 X1 e1 => ?_
  refine Go.retI X1 hx Bd.returns Bd.notSynchronized (hb hby d11_4) (by rw [e1]; exact ⟨rfl, N0, rfl⟩) (by decide) (by decide)
def Q_am10_3 (Z : State) (u_1 : Addr) (aw0 : Addr) (u_0 : ClassId) (kaw0 : ClassId) (ad1 : Addr) (ad2 : Addr) (ad3 : Addr) (iv1 : Int32) (ad4 : Addr) (iv2 : Int32) (ad5 : Addr) (ad6 : Addr) (ad7 : Addr) (kc1 : ClassId) (h0 : Heap) (n0 : Nat) (v : Option Value) (h : Heap) (L : List Loc) : Prop := ∃ fr1 : Addr, ∃ fr2 : Addr, ∃ fr3 : Addr, ∃ fr4 : Addr, ∃ fr5 : Addr, ∃ fr6 : Addr, ∃ kx1 : ClassId, ∃ kx2 : ClassId, ∃ kx3 : ClassId, ∃ kx4 : ClassId, ∃ kx5 : ClassId, ∃ kx6 : ClassId, ∃ ex1 : Int32, v = none ∧ h0.size ≤ fr1 ∧ h0.size ≤ fr2 ∧ h0.size ≤ fr3 ∧ h0.size ≤ fr4 ∧ h0.size ≤ fr5 ∧ h0.size ≤ fr6 ∧ fr1 ≠ fr2 ∧ fr1 ≠ fr3 ∧ fr1 ≠ fr4 ∧ fr1 ≠ fr5 ∧ fr1 ≠ fr6 ∧ fr2 ≠ fr3 ∧ fr2 ≠ fr4 ∧ fr2 ≠ fr5 ∧ fr2 ≠ fr6 ∧ fr3 ≠ fr4 ∧ fr3 ≠ fr5 ∧ fr3 ≠ fr6 ∧ fr4 ≠ fr5 ∧ fr4 ≠ fr6 ∧ fr5 ≠ fr6 ∧ Fr n0 L ∧ Keep h0 h [ad1] ∧ (Exa Z h ad1 "com/example/monarc/monarc/Domains") ∧ (Fld Z h ad1 "com/example/monarc/monarc/Domains" "holes" "[[J" (.ref fr1)) ∧ (Fld Z h ad1 "com/example/monarc/monarc/Domains" "initial" "[Lcom/example/monarc/monarc/InitialDomain;" (.ref fr2)) ∧ (Fld Z h ad1 "com/example/monarc/monarc/Domains" "lower" "[I" (.ref fr3)) ∧ (Fld Z h ad1 "com/example/monarc/monarc/Domains" "resized" "Ljava/util/function/IntConsumer;" .null) ∧ (Fld Z h ad1 "com/example/monarc/monarc/Domains" "sizes" "[I" (.ref fr4)) ∧ (Fld Z h ad1 "com/example/monarc/monarc/Domains" "trail" "[J" (.ref fr5)) ∧ (Fld Z h ad1 "com/example/monarc/monarc/Domains" "trailSize" "I" (.int (0 : Int32))) ∧ (Fld Z h ad1 "com/example/monarc/monarc/Domains" "upper" "[I" (.ref fr6)) ∧ (Fld Z h ad1 "com/example/monarc/monarc/Domains" "withOneValue" "I" (.int ex1)) ∧ (Exa Z h fr1 "[[J") ∧ (Arv Z h fr1 kx1 (.array .long) (2 : Int32) [.null, .null] .null) ∧ (Arv Z h fr2 kx2 (.object "com/example/monarc/monarc/InitialDomain") (2 : Int32) [(.ref ad3), (.ref ad4)] .null) ∧ (Arv Z h fr3 kx3 .int (2 : Int32) [(.int (0 : Int32)), (.int (0 : Int32))] (.int (0 : Int32))) ∧ (Arv Z h fr4 kx4 .int (2 : Int32) [(.int iv1), (.int iv2)] (.int (0 : Int32))) ∧ (Arv Z h fr5 kx5 .long (1024 : Int32) [] (.long (0 : Int64))) ∧ (Arv Z h fr6 kx6 .int (2 : Int32) [(.int (iv1 - (1 : Int32))), (.int (iv2 - (1 : Int32)))] (.int (0 : Int32))) ∧ (OvrA Z kx1 .long "[J") ∧ (Ovr Z kx2 "com/example/monarc/monarc/InitialDomain")
set_option maxRecDepth 65536 in
set_option maxHeartbeats 40000000 in
theorem am10_3 (l : Launch) (Z : State) (a0 : Array Value) (hw : ∀ d ∈ tables_1, d.before a0 Z = true) (ws : List Jvm.Cond) (u_1 : Addr) (aw0 : Addr) (u_0 : ClassId) (kaw0 : ClassId) (HW : Wd Z u_1 aw0 u_0 kaw0) (ad1 : Addr) (ad2 : Addr) (ad3 : Addr) (iv1 : Int32) (ad4 : Addr) (iv2 : Int32) (ad5 : Addr) (ad6 : Addr) (ad7 : Addr) (kc1 : ClassId) (h0 : Heap) (n0 : Nat) (Ol : Old Z n0 h0) (HE_ad3 : Exa Z h0 ad3 "com/example/monarc/monarc/InitialDomain") (HF_ad3_InitialDomain_size : Fld Z h0 ad3 "com/example/monarc/monarc/InitialDomain" "size" "I" (.int iv1)) (HE_ad4 : Exa Z h0 ad4 "com/example/monarc/monarc/InitialDomain") (HF_ad4_InitialDomain_size : Fld Z h0 ad4 "com/example/monarc/monarc/InitialDomain" "size" "I" (.int iv2)) (HE_ad5 : Exa Z h0 ad5 "com/example/monarc/monarc/Variable") (HF_ad5_Variable_domain : Fld Z h0 ad5 "com/example/monarc/monarc/Variable" "domain" "Lcom/example/monarc/monarc/InitialDomain;" (.ref ad3)) (HE_ad6 : Exa Z h0 ad6 "com/example/monarc/monarc/Variable") (HF_ad6_Variable_domain : Fld Z h0 ad6 "com/example/monarc/monarc/Variable" "domain" "Lcom/example/monarc/monarc/InitialDomain;" (.ref ad4)) (HE_ad2 : Exa Z h0 ad2 "java/util/ArrayList") (HF_ad2_ArrayList_elementData : Fld Z h0 ad2 "java/util/ArrayList" "elementData" "[Ljava/lang/Object;" (.ref ad7)) (HF_ad2_ArrayList_size : Fld Z h0 ad2 "java/util/ArrayList" "size" "I" (.int (2 : Int32))) (HV_ad7 : Arv Z h0 ad7 kc1 (.object "java/lang/Object") (10 : Int32) [(.ref ad5), (.ref ad6), .null, .null, .null, .null, .null, .null, .null, .null] .null) (HE_ad1 : Exa Z h0 ad1 "com/example/monarc/monarc/Domains") (HF_ad1_Domains_trail : Fld Z h0 ad1 "com/example/monarc/monarc/Domains" "trail" "[J" .null) (HF_ad1_Domains_marks : Fld Z h0 ad1 "com/example/monarc/monarc/Domains" "marks" "[I" .null) (HF_ad1_Domains_initial : Fld Z h0 ad1 "com/example/monarc/monarc/Domains" "initial" "[Lcom/example/monarc/monarc/InitialDomain;" .null) (HF_ad1_Domains_lower : Fld Z h0 ad1 "com/example/monarc/monarc/Domains" "lower" "[I" .null) (HF_ad1_Domains_upper : Fld Z h0 ad1 "com/example/monarc/monarc/Domains" "upper" "[I" .null) (HF_ad1_Domains_holes : Fld Z h0 ad1 "com/example/monarc/monarc/Domains" "holes" "[[J" .null) (HF_ad1_Domains_sizes : Fld Z h0 ad1 "com/example/monarc/monarc/Domains" "sizes" "[I" .null) (HF_ad1_Domains_withOneValue : Fld Z h0 ad1 "com/example/monarc/monarc/Domains" "withOneValue" "I" (.int (0 : Int32))) (HF_ad1_Domains_trailSize : Fld Z h0 ad1 "com/example/monarc/monarc/Domains" "trailSize" "I" (.int (0 : Int32))) (HF_ad1_Domains_resized : Fld Z h0 ad1 "com/example/monarc/monarc/Domains" "resized" "Ljava/util/function/IntConsumer;" .null) (nn_ad1 : n0 ≤ ad1) (ne_ad1_ad2 : ad1 ≠ ad2) (ne_ad1_ad3 : ad1 ≠ ad3) (ne_ad1_ad4 : ad1 ≠ ad4) (ne_ad1_ad5 : ad1 ≠ ad5) (ne_ad1_ad6 : ad1 ≠ ad6) (ne_ad1_ad7 : ad1 ≠ ad7) (hO_ad7 : Ovr Z kc1 "java/lang/Object") :
    MetFree l y_10 (head1 (Jvm.Cond.code y_10 prog_11_method_1_code 4 none :: ws) (rm 3 7 1098 42)) (fun a_ U_ => a_ = #[(.ref ad1), (.ref ad2)] ∧ Z.Warmed39 U_.vm ∧ U_.heap = h0) (fun _ _ _ _ _ => True) (fun _ U_ o_ V_ => ∃ v_ L_, o_ = .returned v_ ∧ Q_am10_3 Z u_1 aw0 u_0 kaw0 ad1 ad2 ad3 iv1 ad4 iv2 ad5 ad6 ad7 kc1 h0 n0 v_ V_.heap L_ ∧ FrameEnd U_ o_ V_ L_ (rm 3 7 1098 42).cells (rm 3 7 1098 42).slots) := by
  refine MetFree.of_bodySF (plainFor_of_name pn_7) hisR ?_
  intro p e s m args below meth c s₁ Bd hml0 hP hK
  obtain ⟨rfl, hZ, hh⟩ := hP
  have hx := Bd.exec
  have hby := Bd.bytes
  have hml : c.maxLocals = 4 := hml0
  have hown : s.vm.findClass "com/example/monarc/monarc/Domains" = some m.cls := findClass_of_methodNamed Bd.named
  have hnm := (name_of_methodNamed Bd.named Bd.method).1
  have X0 : Stand p l e (rm 3 7 1098 42) s m #[(.ref ad1), (.ref ad2)] below meth c s₁ [] 0 0 := Stand.of_body Bd
  have e0 : s₁.heap = h0 := by rw [← hh, Bd.state]; rfl
  have N0 := Fr.nil n0
  have kp0 := Keep.refl h0 [ad1]
  show Go p e below (Fin1 s below (Q_am10_3 Z u_1 aw0 u_0 kaw0 ad1 ad2 ad3 iv1 ad4 iv2 ad5 ad6 ad7 kc1 h0 n0) (rm 3 7 1098 42).cells (rm 3 7 1098 42).slots) _
  refine Go.step (fun t_ k_ => castTop (ef_am10_1 m ad1 ad2) k_) ?_
  obtain ⟨Eu_1, Su_1, Eaw0, Saw0, Au_1, Aaw0⟩ := id HW
  show Go p e below _ (s₁.setTop (mkF m 0 #[.val (.ref ad1), .val (.ref ad2), .unset, .unset] []))
  obtain ⟨fe, hd_fe⟩ : ∃ z : Nat → Value, z = fun i => ([(.ref ad5), (.ref ad6), .null, .null, .null, .null, .null, .null, .null, .null] : List Value).getD i .null := ⟨_, rfl⟩
  have g1_ : Arw Z h0 ad7 kc1 (.object "java/lang/Object") (10 : Int32) fe := Arw.of_list HV_ad7 (by rw [hd_fe]; intro i hi; rfl)
  have hv_fe0 : (fe ((0 : Int32)).toNatClampNeg) = (.ref ad5) := by rw [hd_fe]; rfl
  have hv_fe1 : (fe ((1 : Int32)).toNatClampNeg) = (.ref ad6) := by rw [hd_fe]; rfl
  refine gs.aloadN X0.here hx (hb hby d10_0) rfl rfl ?_
  obtain ⟨T2, X2, e2, st2⟩ := initO X0 hx hZ hown (wd hw 82 rfl) (wd hw 15 rfl) (wd hw 16 rfl) e0 (g := (mkF m 1 #[.val (.ref ad1), .val (.ref ad2), .unset, .unset] [(.ref ad1)])) rfl (by rw [hml]; rfl) rfl (hb hby d10_1) (by decide) (W := 0) (by show 2 * 0 + _ ≤ _; exact Nat.le_of_eq rfl) (by decide)
  refine Go.step st2 ?_
  show Go p e below _ (T2.setTop (mkF m 4 #[.val (.ref ad1), .val (.ref ad2), .unset, .unset] []))
  refine gs.aloadN X2.here hx (hb hby d10_4) rfl rfl ?_
  refine gs.sipush 1024 X2.here hx (hb hby d10_5) rfl ?_
  obtain ⟨T3, h3, k3, X3, e3, E3, A3, st3⟩ := newP X2 hx hZ (wd hw 83 rfl) e2 (g := (mkF m 8 #[.val (.ref ad1), .val (.ref ad2), .unset, .unset] [(.int (1024 : Int32)), (.ref ad1)])) rfl (hb hby d10_8) rfl (by decide) (cap := 1024) (by decide) (by decide) (by decide) (by decide)
  obtain ⟨b3, g3⟩ : ∃ z, z = h0.size := ⟨_, rfl⟩
  rw [← g3] at A3 st3
  have nn_b3 : n0 ≤ b3 := Nat.le_trans (old_z0 Ol) (Nat.le_of_eq g3.symm)
  have sz_b3 : h0.size ≤ b3 := Nat.le_trans kp0.1 (Nat.le_of_eq g3.symm)
  have old3 := Ol.ext E3
  have kp3 := kp0.ext E3
  have V3 : Arv Z h3 b3 k3 .long (1024 : Int32) [] (.long (0 : Int64)) := (Arv.new A3 (by decide)).pad (pad_rep [] (.long (0 : Int64)) 0)
  refine Go.fin st3 ?_
  show Go p e below _ (T3.setTop (mkF m 10 _ [(.ref b3), (.ref ad1)]))
  have f4 := (HF_ad1_Domains_trail.ext E3)
  have f5 := (HE_ad1.ext E3)
  obtain ⟨T6, h6, X6, e6, W6, st6⟩ := putF X3 hx hZ hown (host := "") (Or.inl (wd hw 84 rfl)) Via.refl e3 f4 f5 (Or.inl (wd hw 85 rfl)) (wd hw 77 rfl) (ty := (.array .long)) (by decide) rfl rfl (g := (mkF m 10 #[.val (.ref ad1), .val (.ref ad2), .unset, .unset] [(.ref b3), (.ref ad1)])) rfl rfl (hb hby d10_10)
  have N6 := Fr.snoc X6 N0 nn_ad1
  have old6 := old3.wr W6 nn_ad1
  have kp6 := kp3.wr W6 (Or.inl (List.mem_of_getElem? (i := 0) rfl))
  have F6 := f4.same W6
  refine Go.fin st6 ?_
  show Go p e below _ (T6.setTop (mkF m 13 _ []))
  refine gs.aloadN X6.here hx (hb hby d10_13) rfl rfl ?_
  refine gs.bipush 64 X6.here hx (hb hby d10_14) rfl ?_
  obtain ⟨T7, h7, k7, X7, e7, E7, A7, st7⟩ := newP X6 hx hZ (wd hw 86 rfl) e6 (g := (mkF m 16 #[.val (.ref ad1), .val (.ref ad2), .unset, .unset] [(.int (64 : Int32)), (.ref ad1)])) rfl (hb hby d10_16) rfl (by decide) (cap := 64) (by decide) (by decide) (by decide) (by decide)
  obtain ⟨b7, g7⟩ : ∃ z, z = h6.size := ⟨_, rfl⟩
  rw [← g7] at A7 st7
  have nn_b7 : n0 ≤ b7 := Nat.le_trans (old_z0 old6) (Nat.le_of_eq g7.symm)
  have sz_b7 : h0.size ≤ b7 := Nat.le_trans kp6.1 (Nat.le_of_eq g7.symm)
  have old7 := old6.ext E7
  have kp7 := kp6.ext E7
  have V7 : Arv Z h7 b7 k7 .int (64 : Int32) [] (.int (0 : Int32)) := (Arv.new A7 (by decide)).pad (pad_rep [] (.int (0 : Int32)) 0)
  refine Go.fin st7 ?_
  show Go p e below _ (T7.setTop (mkF m 18 _ [(.ref b7), (.ref ad1)]))
  have f8 := (((HF_ad1_Domains_marks.ext E3).other W6 (Or.inr (sn13 hw))).ext E7)
  have f9 := ((f5.wr W6).ext E7)
  obtain ⟨T10, h10, X10, e10, W10, st10⟩ := putF X7 hx hZ hown (host := "") (Or.inl (wd hw 87 rfl)) Via.refl e7 f8 f9 (Or.inl (wd hw 88 rfl)) (wd hw 77 rfl) (ty := (.array .int)) (by decide) rfl rfl (g := (mkF m 18 #[.val (.ref ad1), .val (.ref ad2), .unset, .unset] [(.ref b7), (.ref ad1)])) rfl rfl (hb hby d10_18)
  have N10 := Fr.snoc X10 N6 nn_ad1
  have old10 := old7.wr W10 nn_ad1
  have kp10 := kp7.wr W10 (Or.inl (List.mem_of_getElem? (i := 0) rfl))
  have F10 := f8.same W10
  refine Go.fin st10 ?_
  show Go p e below _ (T10.setTop (mkF m 21 _ []))
  refine gs.aloadN X10.here hx (hb hby d10_21) rfl rfl ?_
  have f11 := ((((HE_ad2.ext E3).wr W6).ext E7).wr W10)
  have f12 := ((((HF_ad2_ArrayList_size.ext E3).other W6 (Or.inl (Ne.symm ne_ad1_ad2))).ext E7).other W10 (Or.inl (Ne.symm ne_ad1_ad2)))
  refine gs.face 0 X10 hx hZ hown (am11_3 l Z a0 hw [] u_1 aw0 u_0 kaw0 HW (ad2) h10 n0 old10 f12) (wd hw 97 rfl) (wd hw 54 rfl) (wd hw 89 rfl) (wd hw 90 rfl) (mvT hZ (wd hw 91 rfl)) (wd hw 92 rfl) (wd hw 93 rfl) (wd hw 94 rfl) (wd hw 95 rfl) (wd hw 96 rfl) (by decide) f11 (by decide) (by decide) (by rw [hml]; rfl) [] (lenOf pd_5 rfl) rfl (Nat.le_of_eq rfl) (hb hby d10_22) rfl e10 (by decide) (by decide) fun T13 Lc13 v13 X13 hQ13 => ?_
  obtain ⟨rfl, Nq13, e13⟩ := hQ13
  have N13 := Fr.app N10 Nq13
  show Go p e below _ (T13.setTop (mkF m 27 _ [(.int (2 : Int32))]))
  refine gs.istoreN X13.here hx (hb hby d10_27) (l' := #[.val (.ref ad1), .val (.ref ad2), .val (.int (2 : Int32)), .unset]) rfl ?_
  refine gs.aloadN X13.here hx (hb hby d10_28) rfl rfl ?_
  refine gs.iloadN X13.here hx (hb hby d10_29) rfl ?_
  obtain ⟨T14, h14, k14, X14, e14, E14, A14, O14, st14⟩ := newR X13 hx hZ hown (wd hw 100 rfl) (wd hw 101 rfl) e13 (g := (mkF m 30 #[.val (.ref ad1), .val (.ref ad2), .val (.int (2 : Int32)), .unset] [(.int (2 : Int32)), (.ref ad1)])) rfl (hb hby d10_30) rfl (by decide) (cap := 2) (by decide) (by decide) (by decide) (by decide)
  obtain ⟨b14, g14⟩ : ∃ z, z = h10.size := ⟨_, rfl⟩
  rw [← g14] at A14 st14
  have nn_b14 : n0 ≤ b14 := Nat.le_trans (old_z0 old10) (Nat.le_of_eq g14.symm)
  have sz_b14 : h0.size ≤ b14 := Nat.le_trans kp10.1 (Nat.le_of_eq g14.symm)
  have old14 := old10.ext E14
  have kp14 := kp10.ext E14
  have V14 : Arv Z h14 b14 k14 (.object "com/example/monarc/monarc/InitialDomain") (2 : Int32) [.null, .null] .null := (Arv.new A14 (by decide)).pad (pad_rep [] .null 2)
  refine Go.fin st14 ?_
  show Go p e below _ (T14.setTop (mkF m 33 _ [(.ref b14), (.ref ad1)]))
  have f15 := (((((HF_ad1_Domains_initial.ext E3).other W6 (Or.inr (sn14 hw))).ext E7).other W10 (Or.inr (sn15 hw))).ext E14)
  have f16 := ((f9.wr W10).ext E14)
  obtain ⟨T17, h17, X17, e17, W17, st17⟩ := putF X14 hx hZ hown (host := "") (Or.inl (wd hw 102 rfl)) Via.refl e14 f15 f16 (Or.inr ⟨(wd hw 103 rfl), rfl, hnm⟩) (wd hw 77 rfl) (ty := (.array (.object "com/example/monarc/monarc/InitialDomain"))) (by decide) rfl rfl (g := (mkF m 33 #[.val (.ref ad1), .val (.ref ad2), .val (.int (2 : Int32)), .unset] [(.ref b14), (.ref ad1)])) rfl rfl (hb hby d10_33)
  have N17 := Fr.snoc X17 N13 nn_ad1
  have old17 := old14.wr W17 nn_ad1
  have kp17 := kp14.wr W17 (Or.inl (List.mem_of_getElem? (i := 0) rfl))
  have F17 := f15.same W17
  refine Go.fin st17 ?_
  show Go p e below _ (T17.setTop (mkF m 36 _ []))
  refine gs.aloadN X17.here hx (hb hby d10_36) rfl rfl ?_
  refine gs.iloadN X17.here hx (hb hby d10_37) rfl ?_
  obtain ⟨T18, h18, k18, X18, e18, E18, A18, st18⟩ := newP X17 hx hZ (wd hw 86 rfl) e17 (g := (mkF m 38 #[.val (.ref ad1), .val (.ref ad2), .val (.int (2 : Int32)), .unset] [(.int (2 : Int32)), (.ref ad1)])) rfl (hb hby d10_38) rfl (by decide) (cap := 2) (by decide) (by decide) (by decide) (by decide)
  obtain ⟨b18, g18⟩ : ∃ z, z = h17.size := ⟨_, rfl⟩
  rw [← g18] at A18 st18
  have nn_b18 : n0 ≤ b18 := Nat.le_trans (old_z0 old17) (Nat.le_of_eq g18.symm)
  have sz_b18 : h0.size ≤ b18 := Nat.le_trans kp17.1 (Nat.le_of_eq g18.symm)
  have old18 := old17.ext E18
  have kp18 := kp17.ext E18
  have V18 : Arv Z h18 b18 k18 .int (2 : Int32) [(.int (0 : Int32)), (.int (0 : Int32))] (.int (0 : Int32)) := (Arv.new A18 (by decide)).pad (pad_rep [] (.int (0 : Int32)) 2)
  refine Go.fin st18 ?_
  show Go p e below _ (T18.setTop (mkF m 40 _ [(.ref b18), (.ref ad1)]))
  have f19 := (((((((HF_ad1_Domains_lower.ext E3).other W6 (Or.inr (sn16 hw))).ext E7).other W10 (Or.inr (sn17 hw))).ext E14).other W17 (Or.inr (sn18 hw))).ext E18)
  have f20 := ((f16.wr W17).ext E18)
  obtain ⟨T21, h21, X21, e21, W21, st21⟩ := putF X18 hx hZ hown (host := "") (Or.inl (wd hw 104 rfl)) Via.refl e18 f19 f20 (Or.inr ⟨(wd hw 105 rfl), rfl, hnm⟩) (wd hw 77 rfl) (ty := (.array .int)) (by decide) rfl rfl (g := (mkF m 40 #[.val (.ref ad1), .val (.ref ad2), .val (.int (2 : Int32)), .unset] [(.ref b18), (.ref ad1)])) rfl rfl (hb hby d10_40)
  have N21 := Fr.snoc X21 N17 nn_ad1
  have old21 := old18.wr W21 nn_ad1
  have kp21 := kp18.wr W21 (Or.inl (List.mem_of_getElem? (i := 0) rfl))
  have F21 := f19.same W21
  refine Go.fin st21 ?_
  show Go p e below _ (T21.setTop (mkF m 43 _ []))
  refine gs.aloadN X21.here hx (hb hby d10_43) rfl rfl ?_
  refine gs.iloadN X21.here hx (hb hby d10_44) rfl ?_
  obtain ⟨T22, h22, k22, X22, e22, E22, A22, st22⟩ := newP X21 hx hZ (wd hw 86 rfl) e21 (g := (mkF m 45 #[.val (.ref ad1), .val (.ref ad2), .val (.int (2 : Int32)), .unset] [(.int (2 : Int32)), (.ref ad1)])) rfl (hb hby d10_45) rfl (by decide) (cap := 2) (by decide) (by decide) (by decide) (by decide)
  obtain ⟨b22, g22⟩ : ∃ z, z = h21.size := ⟨_, rfl⟩
  rw [← g22] at A22 st22
  have nn_b22 : n0 ≤ b22 := Nat.le_trans (old_z0 old21) (Nat.le_of_eq g22.symm)
  have sz_b22 : h0.size ≤ b22 := Nat.le_trans kp21.1 (Nat.le_of_eq g22.symm)
  have old22 := old21.ext E22
  have kp22 := kp21.ext E22
  have V22 : Arv Z h22 b22 k22 .int (2 : Int32) [(.int (0 : Int32)), (.int (0 : Int32))] (.int (0 : Int32)) := (Arv.new A22 (by decide)).pad (pad_rep [] (.int (0 : Int32)) 2)
  refine Go.fin st22 ?_
  show Go p e below _ (T22.setTop (mkF m 47 _ [(.ref b22), (.ref ad1)]))
  have f23 := (((((((((HF_ad1_Domains_upper.ext E3).other W6 (Or.inr (sn19 hw))).ext E7).other W10 (Or.inr (sn20 hw))).ext E14).other W17 (Or.inr (sn21 hw))).ext E18).other W21 (Or.inr (sn22 hw))).ext E22)
  have f24 := ((f20.wr W21).ext E22)
  obtain ⟨T25, h25, X25, e25, W25, st25⟩ := putF X22 hx hZ hown (host := "") (Or.inl (wd hw 106 rfl)) Via.refl e22 f23 f24 (Or.inr ⟨(wd hw 107 rfl), rfl, hnm⟩) (wd hw 77 rfl) (ty := (.array .int)) (by decide) rfl rfl (g := (mkF m 47 #[.val (.ref ad1), .val (.ref ad2), .val (.int (2 : Int32)), .unset] [(.ref b22), (.ref ad1)])) rfl rfl (hb hby d10_47)
  have N25 := Fr.snoc X25 N21 nn_ad1
  have old25 := old22.wr W25 nn_ad1
  have kp25 := kp22.wr W25 (Or.inl (List.mem_of_getElem? (i := 0) rfl))
  have F25 := f23.same W25
  refine Go.fin st25 ?_
  show Go p e below _ (T25.setTop (mkF m 50 _ []))
  refine gs.aloadN X25.here hx (hb hby d10_50) rfl rfl ?_
  refine gs.iloadN X25.here hx (hb hby d10_51) rfl ?_
  obtain ⟨T26, h26, k26, X26, e26, E26, A26, B26, O26, st26⟩ := newRA X25 hx hZ (ty := .long) hown (by decide) (wd hw 108 rfl) (wd hw 109 rfl) e25 (g := (mkF m 52 #[.val (.ref ad1), .val (.ref ad2), .val (.int (2 : Int32)), .unset] [(.int (2 : Int32)), (.ref ad1)])) rfl (hb hby d10_52) rfl (by decide) (cap := 2) (by decide) (by decide) (by decide) (by decide) (ad := "[[J") (by decide)
  obtain ⟨b26, g26⟩ : ∃ z, z = h25.size := ⟨_, rfl⟩
  rw [← g26] at A26 B26 st26
  have nn_b26 : n0 ≤ b26 := Nat.le_trans (old_z0 old25) (Nat.le_of_eq g26.symm)
  have sz_b26 : h0.size ≤ b26 := Nat.le_trans kp25.1 (Nat.le_of_eq g26.symm)
  have old26 := old25.ext E26
  have kp26 := kp25.ext E26
  have V26 : Arv Z h26 b26 k26 (.array .long) (2 : Int32) [.null, .null] .null := (Arv.new A26 (by decide)).pad (pad_rep [] .null 2)
  refine Go.fin st26 ?_
  show Go p e below _ (T26.setTop (mkF m 55 _ [(.ref b26), (.ref ad1)]))
  have f27 := (((((((((((HF_ad1_Domains_holes.ext E3).other W6 (Or.inr (sn23 hw))).ext E7).other W10 (Or.inr (sn24 hw))).ext E14).other W17 (Or.inr (sn25 hw))).ext E18).other W21 (Or.inr (sn26 hw))).ext E22).other W25 (Or.inr (sn27 hw))).ext E26)
  have f28 := ((f24.wr W25).ext E26)
  obtain ⟨T29, h29, X29, e29, W29, st29⟩ := putF X26 hx hZ hown (host := "") (Or.inl (wd hw 110 rfl)) Via.refl e26 f27 f28 (Or.inr ⟨(wd hw 111 rfl), rfl, hnm⟩) (wd hw 77 rfl) (ty := (.array (.array .long))) (by decide) rfl rfl (g := (mkF m 55 #[.val (.ref ad1), .val (.ref ad2), .val (.int (2 : Int32)), .unset] [(.ref b26), (.ref ad1)])) rfl rfl (hb hby d10_55)
  have N29 := Fr.snoc X29 N25 nn_ad1
  have old29 := old26.wr W29 nn_ad1
  have kp29 := kp26.wr W29 (Or.inl (List.mem_of_getElem? (i := 0) rfl))
  have F29 := f27.same W29
  refine Go.fin st29 ?_
  show Go p e below _ (T29.setTop (mkF m 58 _ []))
  refine gs.aloadN X29.here hx (hb hby d10_58) rfl rfl ?_
  refine gs.iloadN X29.here hx (hb hby d10_59) rfl ?_
  obtain ⟨T30, h30, k30, X30, e30, E30, A30, st30⟩ := newP X29 hx hZ (wd hw 86 rfl) e29 (g := (mkF m 60 #[.val (.ref ad1), .val (.ref ad2), .val (.int (2 : Int32)), .unset] [(.int (2 : Int32)), (.ref ad1)])) rfl (hb hby d10_60) rfl (by decide) (cap := 2) (by decide) (by decide) (by decide) (by decide)
  obtain ⟨b30, g30⟩ : ∃ z, z = h29.size := ⟨_, rfl⟩
  rw [← g30] at A30 st30
  have nn_b30 : n0 ≤ b30 := Nat.le_trans (old_z0 old29) (Nat.le_of_eq g30.symm)
  have sz_b30 : h0.size ≤ b30 := Nat.le_trans kp29.1 (Nat.le_of_eq g30.symm)
  have old30 := old29.ext E30
  have kp30 := kp29.ext E30
  have V30 : Arv Z h30 b30 k30 .int (2 : Int32) [(.int (0 : Int32)), (.int (0 : Int32))] (.int (0 : Int32)) := (Arv.new A30 (by decide)).pad (pad_rep [] (.int (0 : Int32)) 2)
  refine Go.fin st30 ?_
  show Go p e below _ (T30.setTop (mkF m 62 _ [(.ref b30), (.ref ad1)]))
  have f31 := (((((((((((((HF_ad1_Domains_sizes.ext E3).other W6 (Or.inr (sn28 hw))).ext E7).other W10 (Or.inr (sn29 hw))).ext E14).other W17 (Or.inr (sn30 hw))).ext E18).other W21 (Or.inr (sn31 hw))).ext E22).other W25 (Or.inr (sn32 hw))).ext E26).other W29 (Or.inr (sn33 hw))).ext E30)
  have f32 := ((f28.wr W29).ext E30)
  obtain ⟨T33, h33, X33, e33, W33, st33⟩ := putF X30 hx hZ hown (host := "") (Or.inl (wd hw 112 rfl)) Via.refl e30 f31 f32 (Or.inr ⟨(wd hw 113 rfl), rfl, hnm⟩) (wd hw 77 rfl) (ty := (.array .int)) (by decide) rfl rfl (g := (mkF m 62 #[.val (.ref ad1), .val (.ref ad2), .val (.int (2 : Int32)), .unset] [(.ref b30), (.ref ad1)])) rfl rfl (hb hby d10_62)
  have N33 := Fr.snoc X33 N29 nn_ad1
  have old33 := old30.wr W33 nn_ad1
  have kp33 := kp30.wr W33 (Or.inl (List.mem_of_getElem? (i := 0) rfl))
  have F33 := f31.same W33
  refine Go.fin st33 ?_
  show Go p e below _ (T33.setTop (mkF m 65 _ []))
  refine gs.iconst 0 X33.here hx (hb hby d10_65) rfl ?_
  refine gs.istoreN X33.here hx (hb hby d10_66) (l' := #[.val (.ref ad1), .val (.ref ad2), .val (.int (2 : Int32)), .val (.int (0 : Int32))]) rfl ?_
  refine gs.iloadN X33.here hx (hb hby d10_67) rfl ?_
  refine gs.iloadN X33.here hx (hb hby d10_68) rfl ?_
  have hc69 : (0 : Int32) < (2 : Int32) := by decide
  refine gs.icmpNo X33.here hx (hb hby d10_69) (tlt hc69).2.1 ?_
  refine gs.aloadN X33.here hx (hb hby d10_72) rfl rfl ?_
  have f34 := ((((((((F17.ext E18).other W21 (Or.inr (sn35 hw))).ext E22).other W25 (Or.inr (sn36 hw))).ext E26).other W29 (Or.inr (sn37 hw))).ext E30).other W33 (Or.inr (sn38 hw)))
  refine gs.getF X33 hx hZ hown (wd hw 102 rfl) Via.refl e33 f34 (hb hby d10_73) fun T35 X35 e35 => ?_
  refine gs.iloadN X35.here hx (hb hby d10_76) rfl ?_
  refine gs.aloadN X35.here hx (hb hby d10_77) rfl rfl ?_
  refine gs.iloadN X35.here hx (hb hby d10_78) rfl ?_
  show Go p e below _ (T35.setTop (mkF m 79 _ _))
  have f36 := ((((((((((f11.ext E14).wr W17).ext E18).wr W21).ext E22).wr W25).ext E26).wr W29).ext E30).wr W33)
  have f37 := ((((((((((((((HF_ad2_ArrayList_elementData.ext E3).other W6 (Or.inl (Ne.symm ne_ad1_ad2))).ext E7).other W10 (Or.inl (Ne.symm ne_ad1_ad2))).ext E14).other W17 (Or.inl (Ne.symm ne_ad1_ad2))).ext E18).other W21 (Or.inl (Ne.symm ne_ad1_ad2))).ext E22).other W25 (Or.inl (Ne.symm ne_ad1_ad2))).ext E26).other W29 (Or.inl (Ne.symm ne_ad1_ad2))).ext E30).other W33 (Or.inl (Ne.symm ne_ad1_ad2)))
  have f38 := ((((((((((f12.ext E14).other W17 (Or.inl (Ne.symm ne_ad1_ad2))).ext E18).other W21 (Or.inl (Ne.symm ne_ad1_ad2))).ext E22).other W25 (Or.inl (Ne.symm ne_ad1_ad2))).ext E26).other W29 (Or.inl (Ne.symm ne_ad1_ad2))).ext E30).other W33 (Or.inl (Ne.symm ne_ad1_ad2)))
  have f39 := ((((((((((((((g1_.ext E3).other W6 (Ne.symm ne_ad1_ad7)).ext E7).other W10 (Ne.symm ne_ad1_ad7)).ext E14).other W17 (Ne.symm ne_ad1_ad7)).ext E18).other W21 (Ne.symm ne_ad1_ad7)).ext E22).other W25 (Ne.symm ne_ad1_ad7)).ext E26).other W29 (Ne.symm ne_ad1_ad7)).ext E30).other W33 (Ne.symm ne_ad1_ad7))
  refine gs.face 2 X35 hx hZ hown (am18_1 l Z a0 hw [] u_1 aw0 u_0 kaw0 HW (ad2) ((0 : Int32)) (ad5) (ad7) ((2 : Int32)) (kc1) (fe) h33 n0 old33 f36 f37 f38 f39 (by decide) (by decide) (by decide) hv_fe0) (wd hw 155 rfl) (wd hw 54 rfl) (wd hw 148 rfl) (wd hw 149 rfl) (mvT hZ (wd hw 150 rfl)) (wd hw 151 rfl) (wd hw 152 rfl) (wd hw 153 rfl) (wd hw 154 rfl) (wd hw 96 rfl) (by decide) f36 (by decide) (by decide) (by rw [hml]; rfl) [(.int (0 : Int32))] (lenOf pd_14 rfl) rfl (Nat.le_of_eq rfl) (hb hby d10_79) rfl e35 (by decide) (by decide) fun T40 Lc40 v40 X40 hQ40 => ?_
  obtain ⟨rfl, Nq40, e40⟩ := hQ40
  have N40 := Fr.app N33 Nq40
  show Go p e below _ (T40.setTop (mkF m 84 _ [(.ref ad5), (.int (0 : Int32)), (.ref b14)]))
  have f41 := ((((((((((((((HE_ad5.ext E3).wr W6).ext E7).wr W10).ext E14).wr W17).ext E18).wr W21).ext E22).wr W25).ext E26).wr W29).ext E30).wr W33)
  obtain ⟨T42, X42, e42, st42⟩ := castY X40 hx hZ hown (wd hw 169 rfl) e40 (Ins.self f41) (g := (mkF m 84 #[.val (.ref ad1), .val (.ref ad2), .val (.int (2 : Int32)), .val (.int (0 : Int32))] [(.ref ad5), (.int (0 : Int32)), (.ref b14)])) rfl rfl (hb hby d10_84)
  refine Go.step st42 ?_
  show Go p e below _ (T42.setTop (mkF m 87 _ [(.ref ad5), (.int (0 : Int32)), (.ref b14)]))
  have f43 := ((((((((((((((HF_ad5_Variable_domain.ext E3).other W6 (Or.inl (Ne.symm ne_ad1_ad5))).ext E7).other W10 (Or.inl (Ne.symm ne_ad1_ad5))).ext E14).other W17 (Or.inl (Ne.symm ne_ad1_ad5))).ext E18).other W21 (Or.inl (Ne.symm ne_ad1_ad5))).ext E22).other W25 (Or.inl (Ne.symm ne_ad1_ad5))).ext E26).other W29 (Or.inl (Ne.symm ne_ad1_ad5))).ext E30).other W33 (Or.inl (Ne.symm ne_ad1_ad5)))
  refine gs.virt 2 X42 hx hZ hown (am22_1 l Z a0 hw [] u_1 aw0 u_0 kaw0 HW (ad5) (ad3) h33 n0 old33 f43) (wd hw 175 rfl) (wd hw 26 rfl) (wd hw 171 rfl) (wd hw 172 rfl) (notFace_of_selects (args := #[]) (mvT hZ (wd hw 174 rfl))) (wd hw 174 rfl) (wd hw 173 rfl) (by decide) f41 (by decide) (by decide) (by rw [hml]; rfl) [] (lenOf pd_15 rfl) rfl (Nat.le_of_eq rfl) (hb hby d10_87) rfl e42 (by decide) (by decide) fun T44 Lc44 v44 X44 hQ44 => ?_
  obtain ⟨rfl, Nq44, e44⟩ := hQ44
  have N44 := Fr.app N40 Nq44
  show Go p e below _ (T44.setTop (mkF m 90 _ [(.ref ad3), (.int (0 : Int32)), (.ref b14)]))
  have ne_ad1_b14 : ad1 ≠ b14 := Nat.ne_of_lt (Nat.lt_of_lt_of_le (f9.wr W10).lt (Nat.le_of_eq g14.symm))
  have f45 := (((((((((V14.other W17 (Ne.symm ne_ad1_b14)).ext E18).other W21 (Ne.symm ne_ad1_b14)).ext E22).other W25 (Ne.symm ne_ad1_b14)).ext E26).other W29 (Ne.symm ne_ad1_b14)).ext E30).other W33 (Ne.symm ne_ad1_b14))
  obtain ⟨cl46, Ar46, q46, Sz46, Ng46, Hs46, G46⟩ := id f45
  have hin46 : ¬ ((0 : Int32) < 0 ∨ cl46.slots.size ≤ ((0 : Int32)).toNatClampNeg) := inb_of Sz46 ⟨by decide, by decide⟩
  have f47 := ((((((((((((((HE_ad3.ext E3).wr W6).ext E7).wr W10).ext E14).wr W17).ext E18).wr W21).ext E22).wr W25).ext E26).wr W29).ext E30).wr W33)
  obtain ⟨T48, h48, X48, e48, W48, st48⟩ := stR X44 hx hZ e44 Ar46 (j := (0 : Int32)) hin46 rfl (Sto.ofV Ar46 q46 O14 (Ins.self f47)) (g := (mkF m 90 #[.val (.ref ad1), .val (.ref ad2), .val (.int (2 : Int32)), .val (.int (0 : Int32))] [(.ref ad3), (.int (0 : Int32)), (.ref b14)])) rfl rfl (hb hby d10_90)
  have N48 := Fr.snoc X48 N44 nn_b14
  have old48 := old33.wr W48 nn_b14
  have kp48 := kp33.wr W48 (Or.inr sz_b14)
  have V48 : Arv Z h48 b14 k14 (.object "com/example/monarc/monarc/InitialDomain") (2 : Int32) [(.ref ad3), .null] .null := Arv.set Ar46 q46 Sz46 Ng46 Hs46 G46 rfl W48 0 rfl (Nat.le_of_ble_eq_true rfl)
  refine Go.fin st48 ?_
  show Go p e below _ (T48.setTop (mkF m 91 _ []))
  refine gs.aloadN X48.here hx (hb hby d10_91) rfl rfl ?_
  have f49 := (F33.other W48 (Or.inl ne_ad1_b14))
  refine gs.getF X48 hx hZ hown (wd hw 112 rfl) Via.refl e48 f49 (hb hby d10_92) fun T50 X50 e50 => ?_
  refine gs.iloadN X50.here hx (hb hby d10_95) rfl ?_
  refine gs.aloadN X50.here hx (hb hby d10_96) rfl rfl ?_
  have f51 := (f34.other W48 (Or.inl ne_ad1_b14))
  refine gs.getF X50 hx hZ hown (wd hw 102 rfl) Via.refl e50 f51 (hb hby d10_97) fun T52 X52 e52 => ?_
  refine gs.iloadN X52.here hx (hb hby d10_100) rfl ?_
  obtain ⟨cl53, Ar53, q53, Sz53, Ng53, Hs53, G53⟩ := id V48
  have hin53 : ¬ ((0 : Int32) < 0 ∨ cl53.slots.size ≤ ((0 : Int32)).toNatClampNeg) := inb_of Sz53 ⟨by decide, by decide⟩
  have hat53 : cl53.slots[((0 : Int32)).toNatClampNeg]? = some (.ref ad3) := Has.at Hs53 hin53 rfl
  refine Go.fin (fun t_ k_ => X52.aaload hx (j := (0 : Int32)) (v := (.ref ad3)) (by rw [e52]; exact Ar53.1) (State.isArrayOf_alike hZ.alike Ar53.2.1) rfl Ar53.2.2 hin53 hat53 (g := mkF m 101 _ _) rfl rfl (hb hby d10_101) _ k_) ?_
  show Go p e below _ (T52.setTop (mkF m 102 _ [(.ref ad3), (.int (0 : Int32)), (.ref b30)]))
  have f54 := (f47.wr W48)
  have ne_ad3_b14 : ad3 ≠ b14 := Nat.ne_of_lt (Nat.lt_of_lt_of_le ((((HE_ad3.ext E3).wr W6).ext E7).wr W10).lt (Nat.le_of_eq g14.symm))
  have f55 := (((((((((((((((HF_ad3_InitialDomain_size.ext E3).other W6 (Or.inl (Ne.symm ne_ad1_ad3))).ext E7).other W10 (Or.inl (Ne.symm ne_ad1_ad3))).ext E14).other W17 (Or.inl (Ne.symm ne_ad1_ad3))).ext E18).other W21 (Or.inl (Ne.symm ne_ad1_ad3))).ext E22).other W25 (Or.inl (Ne.symm ne_ad1_ad3))).ext E26).other W29 (Or.inl (Ne.symm ne_ad1_ad3))).ext E30).other W33 (Or.inl (Ne.symm ne_ad1_ad3))).other W48 (Or.inl ne_ad3_b14))
  refine gs.virt 2 X52 hx hZ hown (am23_1 l Z a0 hw [] u_1 aw0 u_0 kaw0 HW (ad3) (iv1) h48 n0 old48 f55) (wd hw 181 rfl) (wd hw 7 rfl) (wd hw 177 rfl) (wd hw 178 rfl) (notFace_of_selects (args := #[]) (mvT hZ (wd hw 180 rfl))) (wd hw 180 rfl) (wd hw 179 rfl) (by decide) f54 (by decide) (by decide) (by rw [hml]; rfl) [] (lenOf pd_5 rfl) rfl (Nat.le_of_eq rfl) (hb hby d10_102) rfl e52 (by decide) (by decide) fun T56 Lc56 v56 X56 hQ56 => ?_
  obtain ⟨rfl, Nq56, e56⟩ := hQ56
  have N56 := Fr.app N48 Nq56
  show Go p e below _ (T56.setTop (mkF m 105 _ [(.int iv1), (.int (0 : Int32)), (.ref b30)]))
  have ne_ad1_b30 : ad1 ≠ b30 := Nat.ne_of_lt (Nat.lt_of_lt_of_le (f28.wr W29).lt (Nat.le_of_eq g30.symm))
  have ne_b14_b30 : b14 ≠ b30 := Nat.ne_of_lt (Nat.lt_of_lt_of_le (((((((V14.other W17 (Ne.symm ne_ad1_b14)).ext E18).other W21 (Ne.symm ne_ad1_b14)).ext E22).other W25 (Ne.symm ne_ad1_b14)).ext E26).other W29 (Ne.symm ne_ad1_b14)).lt (Nat.le_of_eq g30.symm))
  have f57 := ((V30.other W33 (Ne.symm ne_ad1_b30)).other W48 (Ne.symm ne_b14_b30))
  obtain ⟨cl58, Ar58, q58, Sz58, Ng58, Hs58, G58⟩ := id f57
  have hin58 : ¬ ((0 : Int32) < 0 ∨ cl58.slots.size ≤ ((0 : Int32)).toNatClampNeg) := inb_of Sz58 ⟨by decide, by decide⟩
  obtain ⟨T59, h59, X59, e59, W59, st59⟩ := stI X56 hx hZ e56 Ar58 (j := (0 : Int32)) hin58 (g := (mkF m 105 #[.val (.ref ad1), .val (.ref ad2), .val (.int (2 : Int32)), .val (.int (0 : Int32))] [(.int iv1), (.int (0 : Int32)), (.ref b30)])) rfl rfl (hb hby d10_105)
  have N59 := Fr.snoc X59 N56 nn_b30
  have old59 := old48.wr W59 nn_b30
  have kp59 := kp48.wr W59 (Or.inr sz_b30)
  have V59 : Arv Z h59 b30 k30 .int (2 : Int32) [(.int iv1), (.int (0 : Int32))] (.int (0 : Int32)) := Arv.set Ar58 q58 Sz58 Ng58 Hs58 G58 rfl W59 0 rfl (Nat.le_of_ble_eq_true rfl)
  refine Go.fin st59 ?_
  show Go p e below _ (T59.setTop (mkF m 106 _ []))
  refine gs.aloadN X59.here hx (hb hby d10_106) rfl rfl ?_
  have f60 := ((((((F25.ext E26).other W29 (Or.inr (sn62 hw))).ext E30).other W33 (Or.inr (sn63 hw))).other W48 (Or.inl ne_ad1_b14)).other W59 (Or.inl ne_ad1_b30))
  refine gs.getF X59 hx hZ hown (wd hw 106 rfl) Via.refl e59 f60 (hb hby d10_107) fun T61 X61 e61 => ?_
  refine gs.iloadN X61.here hx (hb hby d10_110) rfl ?_
  refine gs.aloadN X61.here hx (hb hby d10_111) rfl rfl ?_
  have f62 := (f49.other W59 (Or.inl ne_ad1_b30))
  refine gs.getF X61 hx hZ hown (wd hw 112 rfl) Via.refl e61 f62 (hb hby d10_112) fun T63 X63 e63 => ?_
  refine gs.iloadN X63.here hx (hb hby d10_115) rfl ?_
  obtain ⟨cl64, Ar64, q64, Sz64, Ng64, Hs64, G64⟩ := id V59
  have hin64 : ¬ ((0 : Int32) < 0 ∨ cl64.slots.size ≤ ((0 : Int32)).toNatClampNeg) := inb_of Sz64 ⟨by decide, by decide⟩
  have hat64 : cl64.slots[((0 : Int32)).toNatClampNeg]? = some (.int iv1) := Has.at Hs64 hin64 rfl
  refine Go.fin (fun t_ k_ => X63.iaload hx (j := (0 : Int32)) (v := (.int iv1)) (by rw [e63]; exact Ar64.1) (State.isArrayOf_alike hZ.alike Ar64.2.1) Ar64.2.2 hin64 hat64 (g := mkF m 116 _ _) rfl rfl (hb hby d10_116) _ k_) ?_
  show Go p e below _ (T63.setTop (mkF m 117 _ [(.int iv1), (.int (0 : Int32)), (.ref b22)]))
  refine gs.iconst 1 X63.here hx (hb hby d10_117) rfl ?_
  refine gs.isub X63.here hx (hb hby d10_118) ?_
  have ne_ad1_b22 : ad1 ≠ b22 := Nat.ne_of_lt (Nat.lt_of_lt_of_le (f20.wr W21).lt (Nat.le_of_eq g22.symm))
  have ne_b14_b22 : b14 ≠ b22 := Nat.ne_of_lt (Nat.lt_of_lt_of_le (((V14.other W17 (Ne.symm ne_ad1_b14)).ext E18).other W21 (Ne.symm ne_ad1_b14)).lt (Nat.le_of_eq g22.symm))
  have ne_b22_b30 : b22 ≠ b30 := Nat.ne_of_lt (Nat.lt_of_lt_of_le (((V22.other W25 (Ne.symm ne_ad1_b22)).ext E26).other W29 (Ne.symm ne_ad1_b22)).lt (Nat.le_of_eq g30.symm))
  have f65 := (((((((V22.other W25 (Ne.symm ne_ad1_b22)).ext E26).other W29 (Ne.symm ne_ad1_b22)).ext E30).other W33 (Ne.symm ne_ad1_b22)).other W48 (Ne.symm ne_b14_b22)).other W59 ne_b22_b30)
  obtain ⟨cl66, Ar66, q66, Sz66, Ng66, Hs66, G66⟩ := id f65
  have hin66 : ¬ ((0 : Int32) < 0 ∨ cl66.slots.size ≤ ((0 : Int32)).toNatClampNeg) := inb_of Sz66 ⟨by decide, by decide⟩
  obtain ⟨T67, h67, X67, e67, W67, st67⟩ := stI X63 hx hZ e63 Ar66 (j := (0 : Int32)) hin66 (g := (mkF m 119 #[.val (.ref ad1), .val (.ref ad2), .val (.int (2 : Int32)), .val (.int (0 : Int32))] [(.int (iv1 - (1 : Int32))), (.int (0 : Int32)), (.ref b22)])) rfl rfl (hb hby d10_119)
  have N67 := Fr.snoc X67 N59 nn_b22
  have old67 := old59.wr W67 nn_b22
  have kp67 := kp59.wr W67 (Or.inr sz_b22)
  have V67 : Arv Z h67 b22 k22 .int (2 : Int32) [(.int (iv1 - (1 : Int32))), (.int (0 : Int32))] (.int (0 : Int32)) := Arv.set Ar66 q66 Sz66 Ng66 Hs66 G66 rfl W67 0 rfl (Nat.le_of_ble_eq_true rfl)
  refine Go.fin st67 ?_
  show Go p e below _ (T67.setTop (mkF m 120 _ []))
  refine gs.aloadN X67.here hx (hb hby d10_120) rfl rfl ?_
  refine gs.dup X67.here hx (hb hby d10_121) rfl ?_
  have f68 := (((((((((((((((((HF_ad1_Domains_withOneValue.ext E3).other W6 (Or.inr (sn64 hw))).ext E7).other W10 (Or.inr (sn65 hw))).ext E14).other W17 (Or.inr (sn66 hw))).ext E18).other W21 (Or.inr (sn67 hw))).ext E22).other W25 (Or.inr (sn68 hw))).ext E26).other W29 (Or.inr (sn69 hw))).ext E30).other W33 (Or.inr (sn70 hw))).other W48 (Or.inl ne_ad1_b14)).other W59 (Or.inl ne_ad1_b30)).other W67 (Or.inl ne_ad1_b22))
  refine gs.getF X67 hx hZ hown (wd hw 182 rfl) Via.refl e67 f68 (hb hby d10_122) fun T69 X69 e69 => ?_
  refine gs.aloadN X69.here hx (hb hby d10_125) rfl rfl ?_
  have f70 := (f62.other W67 (Or.inl ne_ad1_b22))
  refine gs.getF X69 hx hZ hown (wd hw 112 rfl) Via.refl e69 f70 (hb hby d10_126) fun T71 X71 e71 => ?_
  refine gs.iloadN X71.here hx (hb hby d10_129) rfl ?_
  have f72 := (V59.other W67 (Ne.symm ne_b22_b30))
  obtain ⟨cl73, Ar73, q73, Sz73, Ng73, Hs73, G73⟩ := id f72
  have hin73 : ¬ ((0 : Int32) < 0 ∨ cl73.slots.size ≤ ((0 : Int32)).toNatClampNeg) := inb_of Sz73 ⟨by decide, by decide⟩
  have hat73 : cl73.slots[((0 : Int32)).toNatClampNeg]? = some (.int iv1) := Has.at Hs73 hin73 rfl
  refine Go.fin (fun t_ k_ => X71.iaload hx (j := (0 : Int32)) (v := (.int iv1)) (by rw [e71]; exact Ar73.1) (State.isArrayOf_alike hZ.alike Ar73.2.1) Ar73.2.2 hin73 hat73 (g := mkF m 130 _ _) rfl rfl (hb hby d10_130) _ k_) ?_
  show Go p e below _ (T71.setTop (mkF m 131 _ [(.int iv1), (.int (0 : Int32)), (.ref ad1)]))
  refine gs.iconst 1 X71.here hx (hb hby d10_131) rfl ?_
  have J74 : ∀ z_74 : Int32, Go p e below (Fin1 s below (Q_am10_3 Z u_1 aw0 u_0 kaw0 ad1 ad2 ad3 iv1 ad4 iv2 ad5 ad6 ad7 kc1 h0 n0) (rm 3 7 1098 42).cells (rm 3 7 1098 42).slots) (T71.setTop (mkF m 140 #[.val (.ref ad1), .val (.ref ad2), .val (.int (2 : Int32)), .val (.int (0 : Int32))] [(.int z_74), (.int (0 : Int32)), (.ref ad1)])) := by
    intro z_74
    refine gs.iadd X71.here hx (hb hby d10_140) ?_
    have f75 := ((((f32.wr W33).wr W48).wr W59).wr W67)
    obtain ⟨T76, h76, X76, e76, W76, st76⟩ := putF X71 hx hZ hown (host := "") (Or.inl (wd hw 182 rfl)) Via.refl e71 f68 f75 (Or.inl (wd hw 183 rfl)) (wd hw 77 rfl) (ty := .int) (by decide) rfl rfl (g := (mkF m 141 #[.val (.ref ad1), .val (.ref ad2), .val (.int (2 : Int32)), .val (.int (0 : Int32))] [(.int ((0 : Int32) + z_74)), (.ref ad1)])) rfl rfl (hb hby d10_141)
    have N76 := Fr.snoc X76 N67 nn_ad1
    have old76 := old67.wr W76 nn_ad1
    have kp76 := kp67.wr W76 (Or.inl (List.mem_of_getElem? (i := 0) rfl))
    have F76 := f68.same W76
    refine Go.fin st76 ?_
    show Go p e below _ (T76.setTop (mkF m 144 _ []))
    refine Go.step (fun t_ k_ => XS.iinc X76.here hx rfl (hb hby d10_144) rfl (l' := #[.val (.ref ad1), .val (.ref ad2), .val (.int (2 : Int32)), .val (.int ((0 : Int32) + (1 : Int32)))]) rfl k_) ?_
    show Go p e below _ (T76.setTop (mkF m 147 #[.val (.ref ad1), .val (.ref ad2), .val (.int (2 : Int32)), .val (.int ((0 : Int32) + (1 : Int32)))] []))
    rw [show ((0 : Int32) + (1 : Int32)) = (1 : Int32) from by decide]
    refine gs.goto 67 X76.here hx (hb hby d10_147) rfl ?_
    refine gs.iloadN X76.here hx (hb hby d10_67) rfl ?_
    refine gs.iloadN X76.here hx (hb hby d10_68) rfl ?_
    have hc69_2 : (1 : Int32) < (2 : Int32) := by decide
    refine gs.icmpNo X76.here hx (hb hby d10_69) (tlt hc69_2).2.1 ?_
    refine gs.aloadN X76.here hx (hb hby d10_72) rfl rfl ?_
    have f77 := (((f51.other W59 (Or.inl ne_ad1_b30)).other W67 (Or.inl ne_ad1_b22)).other W76 (Or.inr (sn74 hw)))
    refine gs.getF X76 hx hZ hown (wd hw 102 rfl) Via.refl e76 f77 (hb hby d10_73) fun T78 X78 e78 => ?_
    refine gs.iloadN X78.here hx (hb hby d10_76) rfl ?_
    refine gs.aloadN X78.here hx (hb hby d10_77) rfl rfl ?_
    refine gs.iloadN X78.here hx (hb hby d10_78) rfl ?_
    have f79 := ((((f36.wr W48).wr W59).wr W67).wr W76)
    have ne_ad2_b14 : ad2 ≠ b14 := Nat.ne_of_lt (Nat.lt_of_lt_of_le f11.lt (Nat.le_of_eq g14.symm))
    have ne_ad2_b30 : ad2 ≠ b30 := Nat.ne_of_lt (Nat.lt_of_lt_of_le ((((((((f11.ext E14).wr W17).ext E18).wr W21).ext E22).wr W25).ext E26).wr W29).lt (Nat.le_of_eq g30.symm))
    have ne_ad2_b22 : ad2 ≠ b22 := Nat.ne_of_lt (Nat.lt_of_lt_of_le ((((f11.ext E14).wr W17).ext E18).wr W21).lt (Nat.le_of_eq g22.symm))
    have f80 := ((((f37.other W48 (Or.inl ne_ad2_b14)).other W59 (Or.inl ne_ad2_b30)).other W67 (Or.inl ne_ad2_b22)).other W76 (Or.inl (Ne.symm ne_ad1_ad2)))
    have f81 := ((((f38.other W48 (Or.inl ne_ad2_b14)).other W59 (Or.inl ne_ad2_b30)).other W67 (Or.inl ne_ad2_b22)).other W76 (Or.inl (Ne.symm ne_ad1_ad2)))
    have ne_ad7_b14 : ad7 ≠ b14 := Nat.ne_of_lt (Nat.lt_of_lt_of_le ((((g1_.ext E3).other W6 (Ne.symm ne_ad1_ad7)).ext E7).other W10 (Ne.symm ne_ad1_ad7)).lt (Nat.le_of_eq g14.symm))
    have ne_ad7_b30 : ad7 ≠ b30 := Nat.ne_of_lt (Nat.lt_of_lt_of_le ((((((((((((g1_.ext E3).other W6 (Ne.symm ne_ad1_ad7)).ext E7).other W10 (Ne.symm ne_ad1_ad7)).ext E14).other W17 (Ne.symm ne_ad1_ad7)).ext E18).other W21 (Ne.symm ne_ad1_ad7)).ext E22).other W25 (Ne.symm ne_ad1_ad7)).ext E26).other W29 (Ne.symm ne_ad1_ad7)).lt (Nat.le_of_eq g30.symm))
    have ne_ad7_b22 : ad7 ≠ b22 := Nat.ne_of_lt (Nat.lt_of_lt_of_le ((((((((g1_.ext E3).other W6 (Ne.symm ne_ad1_ad7)).ext E7).other W10 (Ne.symm ne_ad1_ad7)).ext E14).other W17 (Ne.symm ne_ad1_ad7)).ext E18).other W21 (Ne.symm ne_ad1_ad7)).lt (Nat.le_of_eq g22.symm))
    have f82 := ((((f39.other W48 ne_ad7_b14).other W59 ne_ad7_b30).other W67 ne_ad7_b22).other W76 (Ne.symm ne_ad1_ad7))
    refine gs.face 2 X78 hx hZ hown (am18_1 l Z a0 hw [] u_1 aw0 u_0 kaw0 HW (ad2) ((1 : Int32)) (ad6) (ad7) ((2 : Int32)) (kc1) (fe) h76 n0 old76 f79 f80 f81 f82 (by decide) (by decide) (by decide) hv_fe1) (wd hw 155 rfl) (wd hw 54 rfl) (wd hw 148 rfl) (wd hw 149 rfl) (mvT hZ (wd hw 150 rfl)) (wd hw 151 rfl) (wd hw 152 rfl) (wd hw 153 rfl) (wd hw 154 rfl) (wd hw 96 rfl) (by decide) f79 (by decide) (by decide) (by rw [hml]; rfl) [(.int (1 : Int32))] (lenOf pd_14 rfl) rfl (Nat.le_of_eq rfl) (hb hby d10_79) rfl e78 (by decide) (by decide) fun T83 Lc83 v83 X83 hQ83 => ?_
    obtain ⟨rfl, Nq83, e83⟩ := hQ83
    have N83 := Fr.app N76 Nq83
    show Go p e below _ (T83.setTop (mkF m 84 _ [(.ref ad6), (.int (1 : Int32)), (.ref b14)]))
    have f84 := ((((((((((((((((((HE_ad6.ext E3).wr W6).ext E7).wr W10).ext E14).wr W17).ext E18).wr W21).ext E22).wr W25).ext E26).wr W29).ext E30).wr W33).wr W48).wr W59).wr W67).wr W76)
    obtain ⟨T85, X85, e85, st85⟩ := castY X83 hx hZ hown (wd hw 169 rfl) e83 (Ins.self f84) (g := (mkF m 84 #[.val (.ref ad1), .val (.ref ad2), .val (.int (2 : Int32)), .val (.int (1 : Int32))] [(.ref ad6), (.int (1 : Int32)), (.ref b14)])) rfl rfl (hb hby d10_84)
    refine Go.step st85 ?_
    show Go p e below _ (T85.setTop (mkF m 87 _ [(.ref ad6), (.int (1 : Int32)), (.ref b14)]))
    have ne_ad6_b14 : ad6 ≠ b14 := Nat.ne_of_lt (Nat.lt_of_lt_of_le ((((HE_ad6.ext E3).wr W6).ext E7).wr W10).lt (Nat.le_of_eq g14.symm))
    have ne_ad6_b30 : ad6 ≠ b30 := Nat.ne_of_lt (Nat.lt_of_lt_of_le ((((((((((((HE_ad6.ext E3).wr W6).ext E7).wr W10).ext E14).wr W17).ext E18).wr W21).ext E22).wr W25).ext E26).wr W29).lt (Nat.le_of_eq g30.symm))
    have ne_ad6_b22 : ad6 ≠ b22 := Nat.ne_of_lt (Nat.lt_of_lt_of_le ((((((((HE_ad6.ext E3).wr W6).ext E7).wr W10).ext E14).wr W17).ext E18).wr W21).lt (Nat.le_of_eq g22.symm))
    have f86 := ((((((((((((((((((HF_ad6_Variable_domain.ext E3).other W6 (Or.inl (Ne.symm ne_ad1_ad6))).ext E7).other W10 (Or.inl (Ne.symm ne_ad1_ad6))).ext E14).other W17 (Or.inl (Ne.symm ne_ad1_ad6))).ext E18).other W21 (Or.inl (Ne.symm ne_ad1_ad6))).ext E22).other W25 (Or.inl (Ne.symm ne_ad1_ad6))).ext E26).other W29 (Or.inl (Ne.symm ne_ad1_ad6))).ext E30).other W33 (Or.inl (Ne.symm ne_ad1_ad6))).other W48 (Or.inl ne_ad6_b14)).other W59 (Or.inl ne_ad6_b30)).other W67 (Or.inl ne_ad6_b22)).other W76 (Or.inl (Ne.symm ne_ad1_ad6)))
    refine gs.virt 2 X85 hx hZ hown (am22_1 l Z a0 hw [] u_1 aw0 u_0 kaw0 HW (ad6) (ad4) h76 n0 old76 f86) (wd hw 175 rfl) (wd hw 26 rfl) (wd hw 171 rfl) (wd hw 172 rfl) (notFace_of_selects (args := #[]) (mvT hZ (wd hw 174 rfl))) (wd hw 174 rfl) (wd hw 173 rfl) (by decide) f84 (by decide) (by decide) (by rw [hml]; rfl) [] (lenOf pd_15 rfl) rfl (Nat.le_of_eq rfl) (hb hby d10_87) rfl e85 (by decide) (by decide) fun T87 Lc87 v87 X87 hQ87 => ?_
    obtain ⟨rfl, Nq87, e87⟩ := hQ87
    have N87 := Fr.app N83 Nq87
    show Go p e below _ (T87.setTop (mkF m 90 _ [(.ref ad4), (.int (1 : Int32)), (.ref b14)]))
    have f88 := (((V48.other W59 ne_b14_b30).other W67 ne_b14_b22).other W76 (Ne.symm ne_ad1_b14))
    obtain ⟨cl89, Ar89, q89, Sz89, Ng89, Hs89, G89⟩ := id f88
    have hin89 : ¬ ((1 : Int32) < 0 ∨ cl89.slots.size ≤ ((1 : Int32)).toNatClampNeg) := inb_of Sz89 ⟨by decide, by decide⟩
    have f90 := ((((((((((((((((((HE_ad4.ext E3).wr W6).ext E7).wr W10).ext E14).wr W17).ext E18).wr W21).ext E22).wr W25).ext E26).wr W29).ext E30).wr W33).wr W48).wr W59).wr W67).wr W76)
    obtain ⟨T91, h91, X91, e91, W91, st91⟩ := stR X87 hx hZ e87 Ar89 (j := (1 : Int32)) hin89 rfl (Sto.ofV Ar89 q89 O14 (Ins.self f90)) (g := (mkF m 90 #[.val (.ref ad1), .val (.ref ad2), .val (.int (2 : Int32)), .val (.int (1 : Int32))] [(.ref ad4), (.int (1 : Int32)), (.ref b14)])) rfl rfl (hb hby d10_90)
    have N91 := Fr.snoc X91 N87 nn_b14
    have old91 := old76.wr W91 nn_b14
    have kp91 := kp76.wr W91 (Or.inr sz_b14)
    have V91 : Arv Z h91 b14 k14 (.object "com/example/monarc/monarc/InitialDomain") (2 : Int32) [(.ref ad3), (.ref ad4)] .null := Arv.set Ar89 q89 Sz89 Ng89 Hs89 G89 rfl W91 1 rfl (Nat.le_of_ble_eq_true rfl)
    refine Go.fin st91 ?_
    show Go p e below _ (T91.setTop (mkF m 91 _ []))
    refine gs.aloadN X91.here hx (hb hby d10_91) rfl rfl ?_
    have f92 := ((f70.other W76 (Or.inr (sn77 hw))).other W91 (Or.inl ne_ad1_b14))
    refine gs.getF X91 hx hZ hown (wd hw 112 rfl) Via.refl e91 f92 (hb hby d10_92) fun T93 X93 e93 => ?_
    refine gs.iloadN X93.here hx (hb hby d10_95) rfl ?_
    refine gs.aloadN X93.here hx (hb hby d10_96) rfl rfl ?_
    have f94 := (f77.other W91 (Or.inl ne_ad1_b14))
    refine gs.getF X93 hx hZ hown (wd hw 102 rfl) Via.refl e93 f94 (hb hby d10_97) fun T95 X95 e95 => ?_
    refine gs.iloadN X95.here hx (hb hby d10_100) rfl ?_
    obtain ⟨cl96, Ar96, q96, Sz96, Ng96, Hs96, G96⟩ := id V91
    have hin96 : ¬ ((1 : Int32) < 0 ∨ cl96.slots.size ≤ ((1 : Int32)).toNatClampNeg) := inb_of Sz96 ⟨by decide, by decide⟩
    have hat96 : cl96.slots[((1 : Int32)).toNatClampNeg]? = some (.ref ad4) := Has.at Hs96 hin96 rfl
    refine Go.fin (fun t_ k_ => X95.aaload hx (j := (1 : Int32)) (v := (.ref ad4)) (by rw [e95]; exact Ar96.1) (State.isArrayOf_alike hZ.alike Ar96.2.1) rfl Ar96.2.2 hin96 hat96 (g := mkF m 101 _ _) rfl rfl (hb hby d10_101) _ k_) ?_
    show Go p e below _ (T95.setTop (mkF m 102 _ [(.ref ad4), (.int (1 : Int32)), (.ref b30)]))
    have f97 := (f90.wr W91)
    have ne_ad4_b14 : ad4 ≠ b14 := Nat.ne_of_lt (Nat.lt_of_lt_of_le ((((HE_ad4.ext E3).wr W6).ext E7).wr W10).lt (Nat.le_of_eq g14.symm))
    have ne_ad4_b30 : ad4 ≠ b30 := Nat.ne_of_lt (Nat.lt_of_lt_of_le ((((((((((((HE_ad4.ext E3).wr W6).ext E7).wr W10).ext E14).wr W17).ext E18).wr W21).ext E22).wr W25).ext E26).wr W29).lt (Nat.le_of_eq g30.symm))
    have ne_ad4_b22 : ad4 ≠ b22 := Nat.ne_of_lt (Nat.lt_of_lt_of_le ((((((((HE_ad4.ext E3).wr W6).ext E7).wr W10).ext E14).wr W17).ext E18).wr W21).lt (Nat.le_of_eq g22.symm))
    have f98 := (((((((((((((((((((HF_ad4_InitialDomain_size.ext E3).other W6 (Or.inl (Ne.symm ne_ad1_ad4))).ext E7).other W10 (Or.inl (Ne.symm ne_ad1_ad4))).ext E14).other W17 (Or.inl (Ne.symm ne_ad1_ad4))).ext E18).other W21 (Or.inl (Ne.symm ne_ad1_ad4))).ext E22).other W25 (Or.inl (Ne.symm ne_ad1_ad4))).ext E26).other W29 (Or.inl (Ne.symm ne_ad1_ad4))).ext E30).other W33 (Or.inl (Ne.symm ne_ad1_ad4))).other W48 (Or.inl ne_ad4_b14)).other W59 (Or.inl ne_ad4_b30)).other W67 (Or.inl ne_ad4_b22)).other W76 (Or.inl (Ne.symm ne_ad1_ad4))).other W91 (Or.inl ne_ad4_b14))
    refine gs.virt 2 X95 hx hZ hown (am23_1 l Z a0 hw [] u_1 aw0 u_0 kaw0 HW (ad4) (iv2) h91 n0 old91 f98) (wd hw 181 rfl) (wd hw 7 rfl) (wd hw 177 rfl) (wd hw 178 rfl) (notFace_of_selects (args := #[]) (mvT hZ (wd hw 180 rfl))) (wd hw 180 rfl) (wd hw 179 rfl) (by decide) f97 (by decide) (by decide) (by rw [hml]; rfl) [] (lenOf pd_5 rfl) rfl (Nat.le_of_eq rfl) (hb hby d10_102) rfl e95 (by decide) (by decide) fun T99 Lc99 v99 X99 hQ99 => ?_
    obtain ⟨rfl, Nq99, e99⟩ := hQ99
    have N99 := Fr.app N91 Nq99
    show Go p e below _ (T99.setTop (mkF m 105 _ [(.int iv2), (.int (1 : Int32)), (.ref b30)]))
    have f100 := ((f72.other W76 (Ne.symm ne_ad1_b30)).other W91 (Ne.symm ne_b14_b30))
    obtain ⟨cl101, Ar101, q101, Sz101, Ng101, Hs101, G101⟩ := id f100
    have hin101 : ¬ ((1 : Int32) < 0 ∨ cl101.slots.size ≤ ((1 : Int32)).toNatClampNeg) := inb_of Sz101 ⟨by decide, by decide⟩
    obtain ⟨T102, h102, X102, e102, W102, st102⟩ := stI X99 hx hZ e99 Ar101 (j := (1 : Int32)) hin101 (g := (mkF m 105 #[.val (.ref ad1), .val (.ref ad2), .val (.int (2 : Int32)), .val (.int (1 : Int32))] [(.int iv2), (.int (1 : Int32)), (.ref b30)])) rfl rfl (hb hby d10_105)
    have N102 := Fr.snoc X102 N99 nn_b30
    have old102 := old91.wr W102 nn_b30
    have kp102 := kp91.wr W102 (Or.inr sz_b30)
    have V102 : Arv Z h102 b30 k30 .int (2 : Int32) [(.int iv1), (.int iv2)] (.int (0 : Int32)) := Arv.set Ar101 q101 Sz101 Ng101 Hs101 G101 rfl W102 1 rfl (Nat.le_of_ble_eq_true rfl)
    refine Go.fin st102 ?_
    show Go p e below _ (T102.setTop (mkF m 106 _ []))
    refine gs.aloadN X102.here hx (hb hby d10_106) rfl rfl ?_
    have f103 := ((((f60.other W67 (Or.inl ne_ad1_b22)).other W76 (Or.inr (sn80 hw))).other W91 (Or.inl ne_ad1_b14)).other W102 (Or.inl ne_ad1_b30))
    refine gs.getF X102 hx hZ hown (wd hw 106 rfl) Via.refl e102 f103 (hb hby d10_107) fun T104 X104 e104 => ?_
    refine gs.iloadN X104.here hx (hb hby d10_110) rfl ?_
    refine gs.aloadN X104.here hx (hb hby d10_111) rfl rfl ?_
    have f105 := (f92.other W102 (Or.inl ne_ad1_b30))
    refine gs.getF X104 hx hZ hown (wd hw 112 rfl) Via.refl e104 f105 (hb hby d10_112) fun T106 X106 e106 => ?_
    refine gs.iloadN X106.here hx (hb hby d10_115) rfl ?_
    obtain ⟨cl107, Ar107, q107, Sz107, Ng107, Hs107, G107⟩ := id V102
    have hin107 : ¬ ((1 : Int32) < 0 ∨ cl107.slots.size ≤ ((1 : Int32)).toNatClampNeg) := inb_of Sz107 ⟨by decide, by decide⟩
    have hat107 : cl107.slots[((1 : Int32)).toNatClampNeg]? = some (.int iv2) := Has.at Hs107 hin107 rfl
    refine Go.fin (fun t_ k_ => X106.iaload hx (j := (1 : Int32)) (v := (.int iv2)) (by rw [e106]; exact Ar107.1) (State.isArrayOf_alike hZ.alike Ar107.2.1) Ar107.2.2 hin107 hat107 (g := mkF m 116 _ _) rfl rfl (hb hby d10_116) _ k_) ?_
    show Go p e below _ (T106.setTop (mkF m 117 _ [(.int iv2), (.int (1 : Int32)), (.ref b22)]))
    refine gs.iconst 1 X106.here hx (hb hby d10_117) rfl ?_
    refine gs.isub X106.here hx (hb hby d10_118) ?_
    have f108 := (((V67.other W76 (Ne.symm ne_ad1_b22)).other W91 (Ne.symm ne_b14_b22)).other W102 ne_b22_b30)
    obtain ⟨cl109, Ar109, q109, Sz109, Ng109, Hs109, G109⟩ := id f108
    have hin109 : ¬ ((1 : Int32) < 0 ∨ cl109.slots.size ≤ ((1 : Int32)).toNatClampNeg) := inb_of Sz109 ⟨by decide, by decide⟩
    obtain ⟨T110, h110, X110, e110, W110, st110⟩ := stI X106 hx hZ e106 Ar109 (j := (1 : Int32)) hin109 (g := (mkF m 119 #[.val (.ref ad1), .val (.ref ad2), .val (.int (2 : Int32)), .val (.int (1 : Int32))] [(.int (iv2 - (1 : Int32))), (.int (1 : Int32)), (.ref b22)])) rfl rfl (hb hby d10_119)
    have N110 := Fr.snoc X110 N102 nn_b22
    have old110 := old102.wr W110 nn_b22
    have kp110 := kp102.wr W110 (Or.inr sz_b22)
    have V110 : Arv Z h110 b22 k22 .int (2 : Int32) [(.int (iv1 - (1 : Int32))), (.int (iv2 - (1 : Int32)))] (.int (0 : Int32)) := Arv.set Ar109 q109 Sz109 Ng109 Hs109 G109 rfl W110 1 rfl (Nat.le_of_ble_eq_true rfl)
    refine Go.fin st110 ?_
    show Go p e below _ (T110.setTop (mkF m 120 _ []))
    refine gs.aloadN X110.here hx (hb hby d10_120) rfl rfl ?_
    refine gs.dup X110.here hx (hb hby d10_121) rfl ?_
    have f111 := (((F76.other W91 (Or.inl ne_ad1_b14)).other W102 (Or.inl ne_ad1_b30)).other W110 (Or.inl ne_ad1_b22))
    refine gs.getF X110 hx hZ hown (wd hw 182 rfl) Via.refl e110 f111 (hb hby d10_122) fun T112 X112 e112 => ?_
    refine gs.aloadN X112.here hx (hb hby d10_125) rfl rfl ?_
    have f113 := (f105.other W110 (Or.inl ne_ad1_b22))
    refine gs.getF X112 hx hZ hown (wd hw 112 rfl) Via.refl e112 f113 (hb hby d10_126) fun T114 X114 e114 => ?_
    refine gs.iloadN X114.here hx (hb hby d10_129) rfl ?_
    have f115 := (V102.other W110 (Ne.symm ne_b22_b30))
    obtain ⟨cl116, Ar116, q116, Sz116, Ng116, Hs116, G116⟩ := id f115
    have hin116 : ¬ ((1 : Int32) < 0 ∨ cl116.slots.size ≤ ((1 : Int32)).toNatClampNeg) := inb_of Sz116 ⟨by decide, by decide⟩
    have hat116 : cl116.slots[((1 : Int32)).toNatClampNeg]? = some (.int iv2) := Has.at Hs116 hin116 rfl
    refine Go.fin (fun t_ k_ => X114.iaload hx (j := (1 : Int32)) (v := (.int iv2)) (by rw [e114]; exact Ar116.1) (State.isArrayOf_alike hZ.alike Ar116.2.1) Ar116.2.2 hin116 hat116 (g := mkF m 130 _ _) rfl rfl (hb hby d10_130) _ k_) ?_
    show Go p e below _ (T114.setTop (mkF m 131 _ [(.int iv2), (.int ((0 : Int32) + z_74)), (.ref ad1)]))
    refine gs.iconst 1 X114.here hx (hb hby d10_131) rfl ?_
    have J117 : ∀ z_117 : Int32, Go p e below (Fin1 s below (Q_am10_3 Z u_1 aw0 u_0 kaw0 ad1 ad2 ad3 iv1 ad4 iv2 ad5 ad6 ad7 kc1 h0 n0) (rm 3 7 1098 42).cells (rm 3 7 1098 42).slots) (T114.setTop (mkF m 140 #[.val (.ref ad1), .val (.ref ad2), .val (.int (2 : Int32)), .val (.int (1 : Int32))] [(.int z_117), (.int ((0 : Int32) + z_74)), (.ref ad1)])) := by
      intro z_117
      refine gs.iadd X114.here hx (hb hby d10_140) ?_
      have f118 := ((((f75.wr W76).wr W91).wr W102).wr W110)
      obtain ⟨T119, h119, X119, e119, W119, st119⟩ := putF X114 hx hZ hown (host := "") (Or.inl (wd hw 182 rfl)) Via.refl e114 f111 f118 (Or.inl (wd hw 183 rfl)) (wd hw 77 rfl) (ty := .int) (by decide) rfl rfl (g := (mkF m 141 #[.val (.ref ad1), .val (.ref ad2), .val (.int (2 : Int32)), .val (.int (1 : Int32))] [(.int (((0 : Int32) + z_74) + z_117)), (.ref ad1)])) rfl rfl (hb hby d10_141)
      have N119 := Fr.snoc X119 N110 nn_ad1
      have old119 := old110.wr W119 nn_ad1
      have kp119 := kp110.wr W119 (Or.inl (List.mem_of_getElem? (i := 0) rfl))
      have F119 := f111.same W119
      refine Go.fin st119 ?_
      show Go p e below _ (T119.setTop (mkF m 144 _ []))
      refine Go.step (fun t_ k_ => XS.iinc X119.here hx rfl (hb hby d10_144) rfl (l' := #[.val (.ref ad1), .val (.ref ad2), .val (.int (2 : Int32)), .val (.int ((1 : Int32) + (1 : Int32)))]) rfl k_) ?_
      show Go p e below _ (T119.setTop (mkF m 147 #[.val (.ref ad1), .val (.ref ad2), .val (.int (2 : Int32)), .val (.int ((1 : Int32) + (1 : Int32)))] []))
      rw [show ((1 : Int32) + (1 : Int32)) = (2 : Int32) from by decide]
      refine gs.goto 67 X119.here hx (hb hby d10_147) rfl ?_
      refine gs.iloadN X119.here hx (hb hby d10_67) rfl ?_
      refine gs.iloadN X119.here hx (hb hby d10_68) rfl ?_
      have hc69_3 : ¬ ((2 : Int32) < (2 : Int32)) := by decide
      refine gs.icmpYes 150 X119.here hx (hb hby d10_69) (flt hc69_3).2.1 rfl ?_
      have ne_b14_b26 : b14 ≠ b26 := Nat.ne_of_lt (Nat.lt_of_lt_of_le (((((V14.other W17 (Ne.symm ne_ad1_b14)).ext E18).other W21 (Ne.symm ne_ad1_b14)).ext E22).other W25 (Ne.symm ne_ad1_b14)).lt (Nat.le_of_eq g26.symm))
      have ne_ad1_b18 : ad1 ≠ b18 := Nat.ne_of_lt (Nat.lt_of_lt_of_le (f16.wr W17).lt (Nat.le_of_eq g18.symm))
      have ne_b18_b26 : b18 ≠ b26 := Nat.ne_of_lt (Nat.lt_of_lt_of_le (((V18.other W21 (Ne.symm ne_ad1_b18)).ext E22).other W25 (Ne.symm ne_ad1_b18)).lt (Nat.le_of_eq g26.symm))
      have ne_b26_b30 : b26 ≠ b30 := Nat.ne_of_lt (Nat.lt_of_lt_of_le (B26.wr W29).lt (Nat.le_of_eq g30.symm))
      have ne_ad1_b3 : ad1 ≠ b3 := Nat.ne_of_lt (Nat.lt_of_lt_of_le HE_ad1.lt (Nat.le_of_eq g3.symm))
      have ne_b3_b26 : b3 ≠ b26 := Nat.ne_of_lt (Nat.lt_of_lt_of_le (((((((((V3.other W6 (Ne.symm ne_ad1_b3)).ext E7).other W10 (Ne.symm ne_ad1_b3)).ext E14).other W17 (Ne.symm ne_ad1_b3)).ext E18).other W21 (Ne.symm ne_ad1_b3)).ext E22).other W25 (Ne.symm ne_ad1_b3)).lt (Nat.le_of_eq g26.symm))
      have ne_b22_b26 : b22 ≠ b26 := Nat.ne_of_lt (Nat.lt_of_lt_of_le (V22.other W25 (Ne.symm ne_ad1_b22)).lt (Nat.le_of_eq g26.symm))
      have ne_b14_b18 : b14 ≠ b18 := Nat.ne_of_lt (Nat.lt_of_lt_of_le (V14.other W17 (Ne.symm ne_ad1_b14)).lt (Nat.le_of_eq g18.symm))
      have ne_b3_b14 : b3 ≠ b14 := Nat.ne_of_lt (Nat.lt_of_lt_of_le (((V3.other W6 (Ne.symm ne_ad1_b3)).ext E7).other W10 (Ne.symm ne_ad1_b3)).lt (Nat.le_of_eq g14.symm))
      have ne_b18_b30 : b18 ≠ b30 := Nat.ne_of_lt (Nat.lt_of_lt_of_le (((((V18.other W21 (Ne.symm ne_ad1_b18)).ext E22).other W25 (Ne.symm ne_ad1_b18)).ext E26).other W29 (Ne.symm ne_ad1_b18)).lt (Nat.le_of_eq g30.symm))
      have ne_b3_b18 : b3 ≠ b18 := Nat.ne_of_lt (Nat.lt_of_lt_of_le (((((V3.other W6 (Ne.symm ne_ad1_b3)).ext E7).other W10 (Ne.symm ne_ad1_b3)).ext E14).other W17 (Ne.symm ne_ad1_b3)).lt (Nat.le_of_eq g18.symm))
      have ne_b18_b22 : b18 ≠ b22 := Nat.ne_of_lt (Nat.lt_of_lt_of_le (V18.other W21 (Ne.symm ne_ad1_b18)).lt (Nat.le_of_eq g22.symm))
      have ne_b3_b30 : b3 ≠ b30 := Nat.ne_of_lt (Nat.lt_of_lt_of_le (((((((((((V3.other W6 (Ne.symm ne_ad1_b3)).ext E7).other W10 (Ne.symm ne_ad1_b3)).ext E14).other W17 (Ne.symm ne_ad1_b3)).ext E18).other W21 (Ne.symm ne_ad1_b3)).ext E22).other W25 (Ne.symm ne_ad1_b3)).ext E26).other W29 (Ne.symm ne_ad1_b3)).lt (Nat.le_of_eq g30.symm))
      have ne_b3_b22 : b3 ≠ b22 := Nat.ne_of_lt (Nat.lt_of_lt_of_le (((((((V3.other W6 (Ne.symm ne_ad1_b3)).ext E7).other W10 (Ne.symm ne_ad1_b3)).ext E14).other W17 (Ne.symm ne_ad1_b3)).ext E18).other W21 (Ne.symm ne_ad1_b3)).lt (Nat.le_of_eq g22.symm))
      have f120 := (f118.wr W119)
      have f121 := ((((((((((F29.ext E30).other W33 (Or.inr (sn34 hw))).other W48 (Or.inl ne_ad1_b14)).other W59 (Or.inl ne_ad1_b30)).other W67 (Or.inl ne_ad1_b22)).other W76 (Or.inr (sn73 hw))).other W91 (Or.inl ne_ad1_b14)).other W102 (Or.inl ne_ad1_b30)).other W110 (Or.inl ne_ad1_b22)).other W119 (Or.inr (sn73 hw)))
      have f122 := (((f94.other W102 (Or.inl ne_ad1_b30)).other W110 (Or.inl ne_ad1_b22)).other W119 (Or.inr (sn74 hw)))
      have f123 := ((((((((((((((F21.ext E22).other W25 (Or.inr (sn39 hw))).ext E26).other W29 (Or.inr (sn40 hw))).ext E30).other W33 (Or.inr (sn41 hw))).other W48 (Or.inl ne_ad1_b14)).other W59 (Or.inl ne_ad1_b30)).other W67 (Or.inl ne_ad1_b22)).other W76 (Or.inr (sn75 hw))).other W91 (Or.inl ne_ad1_b14)).other W102 (Or.inl ne_ad1_b30)).other W110 (Or.inl ne_ad1_b22)).other W119 (Or.inr (sn75 hw)))
      have f124 := ((((((((((((((((((((((HF_ad1_Domains_resized.ext E3).other W6 (Or.inr (sn42 hw))).ext E7).other W10 (Or.inr (sn43 hw))).ext E14).other W17 (Or.inr (sn44 hw))).ext E18).other W21 (Or.inr (sn45 hw))).ext E22).other W25 (Or.inr (sn46 hw))).ext E26).other W29 (Or.inr (sn47 hw))).ext E30).other W33 (Or.inr (sn48 hw))).other W48 (Or.inl ne_ad1_b14)).other W59 (Or.inl ne_ad1_b30)).other W67 (Or.inl ne_ad1_b22)).other W76 (Or.inr (sn76 hw))).other W91 (Or.inl ne_ad1_b14)).other W102 (Or.inl ne_ad1_b30)).other W110 (Or.inl ne_ad1_b22)).other W119 (Or.inr (sn76 hw)))
      have f125 := (f113.other W119 (Or.inr (sn77 hw)))
      have f126 := ((((((((((((((((((((F6.ext E7).other W10 (Or.inr (sn49 hw))).ext E14).other W17 (Or.inr (sn50 hw))).ext E18).other W21 (Or.inr (sn51 hw))).ext E22).other W25 (Or.inr (sn52 hw))).ext E26).other W29 (Or.inr (sn53 hw))).ext E30).other W33 (Or.inr (sn54 hw))).other W48 (Or.inl ne_ad1_b14)).other W59 (Or.inl ne_ad1_b30)).other W67 (Or.inl ne_ad1_b22)).other W76 (Or.inr (sn78 hw))).other W91 (Or.inl ne_ad1_b14)).other W102 (Or.inl ne_ad1_b30)).other W110 (Or.inl ne_ad1_b22)).other W119 (Or.inr (sn78 hw)))
      have f127 := ((((((((((((((((((((((HF_ad1_Domains_trailSize.ext E3).other W6 (Or.inr (sn55 hw))).ext E7).other W10 (Or.inr (sn56 hw))).ext E14).other W17 (Or.inr (sn57 hw))).ext E18).other W21 (Or.inr (sn58 hw))).ext E22).other W25 (Or.inr (sn59 hw))).ext E26).other W29 (Or.inr (sn60 hw))).ext E30).other W33 (Or.inr (sn61 hw))).other W48 (Or.inl ne_ad1_b14)).other W59 (Or.inl ne_ad1_b30)).other W67 (Or.inl ne_ad1_b22)).other W76 (Or.inr (sn79 hw))).other W91 (Or.inl ne_ad1_b14)).other W102 (Or.inl ne_ad1_b30)).other W110 (Or.inl ne_ad1_b22)).other W119 (Or.inr (sn79 hw)))
      have f128 := ((f103.other W110 (Or.inl ne_ad1_b22)).other W119 (Or.inr (sn80 hw)))
      have f129 := (((((((((((B26.wr W29).ext E30).wr W33).wr W48).wr W59).wr W67).wr W76).wr W91).wr W102).wr W110).wr W119)
      have ne_ad1_b26 : ad1 ≠ b26 := Nat.ne_of_lt (Nat.lt_of_lt_of_le (f24.wr W25).lt (Nat.le_of_eq g26.symm))
      have f130 := (((((((((((V26.other W29 (Ne.symm ne_ad1_b26)).ext E30).other W33 (Ne.symm ne_ad1_b26)).other W48 (Ne.symm ne_b14_b26)).other W59 ne_b26_b30).other W67 (Ne.symm ne_b22_b26)).other W76 (Ne.symm ne_ad1_b26)).other W91 (Ne.symm ne_b14_b26)).other W102 ne_b26_b30).other W110 (Ne.symm ne_b22_b26)).other W119 (Ne.symm ne_ad1_b26))
      have f131 := (((V91.other W102 ne_b14_b30).other W110 ne_b14_b22).other W119 (Ne.symm ne_ad1_b14))
      have f132 := (((((((((((((((V18.other W21 (Ne.symm ne_ad1_b18)).ext E22).other W25 (Ne.symm ne_ad1_b18)).ext E26).other W29 (Ne.symm ne_ad1_b18)).ext E30).other W33 (Ne.symm ne_ad1_b18)).other W48 (Ne.symm ne_b14_b18)).other W59 ne_b18_b30).other W67 ne_b18_b22).other W76 (Ne.symm ne_ad1_b18)).other W91 (Ne.symm ne_b14_b18)).other W102 ne_b18_b30).other W110 ne_b18_b22).other W119 (Ne.symm ne_ad1_b18))
      have f133 := (f115.other W119 (Ne.symm ne_ad1_b30))
      have f134 := (((((((((((((((((((((V3.other W6 (Ne.symm ne_ad1_b3)).ext E7).other W10 (Ne.symm ne_ad1_b3)).ext E14).other W17 (Ne.symm ne_ad1_b3)).ext E18).other W21 (Ne.symm ne_ad1_b3)).ext E22).other W25 (Ne.symm ne_ad1_b3)).ext E26).other W29 (Ne.symm ne_ad1_b3)).ext E30).other W33 (Ne.symm ne_ad1_b3)).other W48 ne_b3_b14).other W59 ne_b3_b30).other W67 ne_b3_b22).other W76 (Ne.symm ne_ad1_b3)).other W91 ne_b3_b14).other W102 ne_b3_b30).other W110 ne_b3_b22).other W119 (Ne.symm ne_ad1_b3))
      have f135 := (V110.other W119 (Ne.symm ne_ad1_b22))
      refine Go.retV X119 hx Bd.returns Bd.notSynchronized (hb hby d10_150) (by rw [e119]; exact ⟨b26, b14, b18, b30, b3, b22, k26, k14, k18, k30, k3, k22, ((((0 : Int32) + z_74) + z_117)), rfl, sz_b26, sz_b14, sz_b18, sz_b30, sz_b3, sz_b22, (Ne.symm ne_b14_b26), (Ne.symm ne_b18_b26), ne_b26_b30, (Ne.symm ne_b3_b26), (Ne.symm ne_b22_b26), ne_b14_b18, ne_b14_b30, (Ne.symm ne_b3_b14), ne_b14_b22, ne_b18_b30, (Ne.symm ne_b3_b18), ne_b18_b22, (Ne.symm ne_b3_b30), (Ne.symm ne_b22_b30), ne_b3_b22, N119, kp119, f120, f121, f122, f123, f124, f125, f126, f127, f128, F119, f129, f130, f131, f132, f133, f134, f135, O26, O14⟩) (by decide) (by decide)
    by_cases hc132 : iv2 = (1 : Int32)
    case pos =>
      refine gs.icmpNo X114.here hx (hb hby d10_132) (teq hc132).2 ?_
      refine gs.iconst 1 X114.here hx (hb hby d10_135) rfl ?_
      refine gs.goto 140 X114.here hx (hb hby d10_136) rfl ?_
      exact J117 _
    case neg =>
      refine gs.icmpYes 139 X114.here hx (hb hby d10_132) (feq hc132).2 rfl ?_
      refine gs.iconst 0 X114.here hx (hb hby d10_139) rfl ?_
      exact J117 _
  by_cases hc132 : iv1 = (1 : Int32)
  case pos =>
    refine gs.icmpNo X71.here hx (hb hby d10_132) (teq hc132).2 ?_
    refine gs.iconst 1 X71.here hx (hb hby d10_135) rfl ?_
    refine gs.goto 140 X71.here hx (hb hby d10_136) rfl ?_
    exact J74 _
  case neg =>
    refine gs.icmpYes 139 X71.here hx (hb hby d10_132) (feq hc132).2 rfl ?_
    refine gs.iconst 0 X71.here hx (hb hby d10_139) rfl ?_
    exact J74 _
def Q_am12_3 (Z : State) (u_1 : Addr) (aw0 : Addr) (u_0 : ClassId) (kaw0 : ClassId) (ad1 : Addr) (ad7 : Addr) (kc1 : ClassId) (fv3 : Nat → Int32) (h0 : Heap) (n0 : Nat) (v : Option Value) (h : Heap) (L : List Loc) : Prop := v = some (.long (((0 : Int64) + ((fv3 ((0 : Int32)).toNatClampNeg).toInt64)) + ((fv3 ((1 : Int32)).toNatClampNeg).toInt64))) ∧ Fr n0 L ∧ h = h0
set_option maxRecDepth 65536 in
set_option maxHeartbeats 40000000 in
theorem am12_3 (l : Launch) (Z : State) (a0 : Array Value) (hw : ∀ d ∈ tables_1, d.before a0 Z = true) (ws : List Jvm.Cond) (u_1 : Addr) (aw0 : Addr) (u_0 : ClassId) (kaw0 : ClassId) (HW : Wd Z u_1 aw0 u_0 kaw0) (ad1 : Addr) (ad7 : Addr) (kc1 : ClassId) (fv3 : Nat → Int32) (h0 : Heap) (n0 : Nat) (Ol : Old Z n0 h0) (HF_ad1_Domains_sizes : Fld Z h0 ad1 "com/example/monarc/monarc/Domains" "sizes" "[I" (.ref ad7)) (HG_ad7 : Ari Z h0 ad7 kc1 (2 : Int32) fv3) (as0 : 0 ≤ ((0 : Int32)).toInt ∧ ((0 : Int32)).toInt < ((2 : Int32)).toInt) (as1 : 0 ≤ ((1 : Int32)).toInt ∧ ((1 : Int32)).toInt < ((2 : Int32)).toInt) :
    MetFree l y_12 (head1 (Jvm.Cond.code y_12 prog_11_method_5_code 7 (some .long) :: ws) (rm 0 0 0 0)) (fun a_ U_ => a_ = #[(.ref ad1)] ∧ Z.Warmed39 U_.vm ∧ U_.heap = h0) (fun _ _ _ _ _ => True) (fun _ U_ o_ V_ => ∃ v_ L_, o_ = .returned v_ ∧ Q_am12_3 Z u_1 aw0 u_0 kaw0 ad1 ad7 kc1 fv3 h0 n0 v_ V_.heap L_ ∧ FrameEnd U_ o_ V_ L_ (rm 0 0 0 0).cells (rm 0 0 0 0).slots) := by
  refine MetFree.of_bodySF (plainFor_of_name pn_7) hisR ?_
  intro p e s m args below meth c s₁ Bd hml0 hP hK
  obtain ⟨rfl, hZ, hh⟩ := hP
  have hx := Bd.exec
  have hby := Bd.bytes
  have hml : c.maxLocals = 7 := hml0
  have hown : s.vm.findClass "com/example/monarc/monarc/Domains" = some m.cls := findClass_of_methodNamed Bd.named
  have hnm := (name_of_methodNamed Bd.named Bd.method).1
  have X0 : Stand p l e (rm 0 0 0 0) s m #[(.ref ad1)] below meth c s₁ [] 0 0 := Stand.of_body Bd
  have e0 : s₁.heap = h0 := by rw [← hh, Bd.state]; rfl
  have N0 := Fr.nil n0
  have kp0 := Keep.refl h0 []
  show Go p e below (Fin1 s below (Q_am12_3 Z u_1 aw0 u_0 kaw0 ad1 ad7 kc1 fv3 h0 n0) (rm 0 0 0 0).cells (rm 0 0 0 0).slots) _
  refine Go.step (fun t_ k_ => castTop (ef_am12_1 m ad1) k_) ?_
  obtain ⟨Eu_1, Su_1, Eaw0, Saw0, Au_1, Aaw0⟩ := id HW
  show Go p e below _ (s₁.setTop (mkF m 0 #[.val (.ref ad1), .unset, .unset, .unset, .unset, .unset, .unset] []))
  refine Go.fin (fun t_ k_ => XS.lconst X0.here hx rfl (hb hby d12_0) k_) ?_
  show Go p e below _ (s₁.setTop (mkF m 1 _ [(.long (0 : Int64))]))
  refine gs.lstoreN X0.here hx (hb hby d12_1) (l' := #[.val (.ref ad1), .val (.long (0 : Int64)), .second, .unset, .unset, .unset, .unset]) rfl ?_
  refine gs.aloadN X0.here hx (hb hby d12_2) rfl rfl ?_
  refine gs.getF X0 hx hZ hown (wd hw 112 rfl) Via.refl e0 HF_ad1_Domains_sizes (hb hby d12_3) fun T1 X1 e1 => ?_
  refine gs.astoreN X1.here hx (hb hby d12_6) rfl (l' := #[.val (.ref ad1), .val (.long (0 : Int64)), .second, .val (.ref ad7), .unset, .unset, .unset]) rfl ?_
  refine gs.aloadN X1.here hx (hb hby d12_7) rfl rfl ?_
  obtain ⟨cl2, Ar2, -, Sz2, Ng2, -⟩ := id HG_ad7
  refine Go.fin (fun t_ k_ => X1.arraylength hx (by rw [e1]; exact Ar2.1) (State.isArrayOf_alike hZ.alike Ar2.2.1) (g := mkF m 8 _ _) rfl rfl (hb hby d12_8) _ k_) ?_
  rw [len_of Sz2 Ng2]
  show Go p e below _ (T1.setTop (mkF m 9 _ [(.int (2 : Int32))]))
  refine gs.istore X1.here hx (hb hby d12_9) (l' := #[.val (.ref ad1), .val (.long (0 : Int64)), .second, .val (.ref ad7), .val (.int (2 : Int32)), .unset, .unset]) rfl ?_
  refine gs.iconst 0 X1.here hx (hb hby d12_11) rfl ?_
  refine gs.istore X1.here hx (hb hby d12_12) (l' := #[.val (.ref ad1), .val (.long (0 : Int64)), .second, .val (.ref ad7), .val (.int (2 : Int32)), .val (.int (0 : Int32)), .unset]) rfl ?_
  refine gs.iload X1.here hx (hb hby d12_14) rfl ?_
  refine gs.iload X1.here hx (hb hby d12_16) rfl ?_
  have hc18 : (0 : Int32) < (2 : Int32) := by decide
  refine gs.icmpNo X1.here hx (hb hby d12_18) (tlt hc18).2.1 ?_
  refine gs.aloadN X1.here hx (hb hby d12_21) rfl rfl ?_
  refine gs.iload X1.here hx (hb hby d12_22) rfl ?_
  obtain ⟨cl3, Ar3, q3, Sz3, Ng3, Hs3⟩ := id HG_ad7
  have hin3 : ¬ ((0 : Int32) < 0 ∨ cl3.slots.size ≤ ((0 : Int32)).toNatClampNeg) := inb_of Sz3 (inb_int as0)
  have hat3 : cl3.slots[((0 : Int32)).toNatClampNeg]? = some (.int (fv3 ((0 : Int32)).toNatClampNeg)) := Hs3 _ (lt_of_in hin3)
  refine Go.fin (fun t_ k_ => X1.iaload hx (j := (0 : Int32)) (v := (.int (fv3 ((0 : Int32)).toNatClampNeg))) (by rw [e1]; exact Ar3.1) (State.isArrayOf_alike hZ.alike Ar3.2.1) Ar3.2.2 hin3 hat3 (g := mkF m 24 _ _) rfl rfl (hb hby d12_24) _ k_) ?_
  show Go p e below _ (T1.setTop (mkF m 25 _ [(.int (fv3 ((0 : Int32)).toNatClampNeg))]))
  refine gs.istore X1.here hx (hb hby d12_25) (l' := #[.val (.ref ad1), .val (.long (0 : Int64)), .second, .val (.ref ad7), .val (.int (2 : Int32)), .val (.int (0 : Int32)), .val (.int (fv3 ((0 : Int32)).toNatClampNeg))]) rfl ?_
  refine gs.lloadN X1.here hx (hb hby d12_27) rfl ?_
  refine gs.iload X1.here hx (hb hby d12_28) rfl ?_
  refine Go.fin (fun t_ k_ => XS.i2l X1.here hx rfl (hb hby d12_30) rfl k_) ?_
  show Go p e below _ (T1.setTop (mkF m 31 _ [(.long ((fv3 ((0 : Int32)).toNatClampNeg).toInt64)), (.long (0 : Int64))]))
  refine gs.ladd X1.here hx (hb hby d12_31) ?_
  refine gs.lstoreN X1.here hx (hb hby d12_32) (l' := #[.val (.ref ad1), .val (.long ((0 : Int64) + ((fv3 ((0 : Int32)).toNatClampNeg).toInt64))), .second, .val (.ref ad7), .val (.int (2 : Int32)), .val (.int (0 : Int32)), .val (.int (fv3 ((0 : Int32)).toNatClampNeg))]) rfl ?_
  refine Go.step (fun t_ k_ => XS.iinc X1.here hx rfl (hb hby d12_33) rfl (l' := #[.val (.ref ad1), .val (.long ((0 : Int64) + ((fv3 ((0 : Int32)).toNatClampNeg).toInt64))), .second, .val (.ref ad7), .val (.int (2 : Int32)), .val (.int ((0 : Int32) + (1 : Int32))), .val (.int (fv3 ((0 : Int32)).toNatClampNeg))]) rfl k_) ?_
  show Go p e below _ (T1.setTop (mkF m 36 #[.val (.ref ad1), .val (.long ((0 : Int64) + ((fv3 ((0 : Int32)).toNatClampNeg).toInt64))), .second, .val (.ref ad7), .val (.int (2 : Int32)), .val (.int ((0 : Int32) + (1 : Int32))), .val (.int (fv3 ((0 : Int32)).toNatClampNeg))] []))
  rw [show ((0 : Int32) + (1 : Int32)) = (1 : Int32) from by decide]
  refine gs.goto 14 X1.here hx (hb hby d12_36) rfl ?_
  refine gs.iload X1.here hx (hb hby d12_14) rfl ?_
  refine gs.iload X1.here hx (hb hby d12_16) rfl ?_
  have hc18_2 : (1 : Int32) < (2 : Int32) := by decide
  refine gs.icmpNo X1.here hx (hb hby d12_18) (tlt hc18_2).2.1 ?_
  refine gs.aloadN X1.here hx (hb hby d12_21) rfl rfl ?_
  refine gs.iload X1.here hx (hb hby d12_22) rfl ?_
  obtain ⟨cl4, Ar4, q4, Sz4, Ng4, Hs4⟩ := id HG_ad7
  have hin4 : ¬ ((1 : Int32) < 0 ∨ cl4.slots.size ≤ ((1 : Int32)).toNatClampNeg) := inb_of Sz4 (inb_int as1)
  have hat4 : cl4.slots[((1 : Int32)).toNatClampNeg]? = some (.int (fv3 ((1 : Int32)).toNatClampNeg)) := Hs4 _ (lt_of_in hin4)
  refine Go.fin (fun t_ k_ => X1.iaload hx (j := (1 : Int32)) (v := (.int (fv3 ((1 : Int32)).toNatClampNeg))) (by rw [e1]; exact Ar4.1) (State.isArrayOf_alike hZ.alike Ar4.2.1) Ar4.2.2 hin4 hat4 (g := mkF m 24 _ _) rfl rfl (hb hby d12_24) _ k_) ?_
  show Go p e below _ (T1.setTop (mkF m 25 _ [(.int (fv3 ((1 : Int32)).toNatClampNeg))]))
  refine gs.istore X1.here hx (hb hby d12_25) (l' := #[.val (.ref ad1), .val (.long ((0 : Int64) + ((fv3 ((0 : Int32)).toNatClampNeg).toInt64))), .second, .val (.ref ad7), .val (.int (2 : Int32)), .val (.int (1 : Int32)), .val (.int (fv3 ((1 : Int32)).toNatClampNeg))]) rfl ?_
  refine gs.lloadN X1.here hx (hb hby d12_27) rfl ?_
  refine gs.iload X1.here hx (hb hby d12_28) rfl ?_
  refine Go.fin (fun t_ k_ => XS.i2l X1.here hx rfl (hb hby d12_30) rfl k_) ?_
  show Go p e below _ (T1.setTop (mkF m 31 _ [(.long ((fv3 ((1 : Int32)).toNatClampNeg).toInt64)), (.long ((0 : Int64) + ((fv3 ((0 : Int32)).toNatClampNeg).toInt64)))]))
  refine gs.ladd X1.here hx (hb hby d12_31) ?_
  refine gs.lstoreN X1.here hx (hb hby d12_32) (l' := #[.val (.ref ad1), .val (.long (((0 : Int64) + ((fv3 ((0 : Int32)).toNatClampNeg).toInt64)) + ((fv3 ((1 : Int32)).toNatClampNeg).toInt64))), .second, .val (.ref ad7), .val (.int (2 : Int32)), .val (.int (1 : Int32)), .val (.int (fv3 ((1 : Int32)).toNatClampNeg))]) rfl ?_
  refine Go.step (fun t_ k_ => XS.iinc X1.here hx rfl (hb hby d12_33) rfl (l' := #[.val (.ref ad1), .val (.long (((0 : Int64) + ((fv3 ((0 : Int32)).toNatClampNeg).toInt64)) + ((fv3 ((1 : Int32)).toNatClampNeg).toInt64))), .second, .val (.ref ad7), .val (.int (2 : Int32)), .val (.int ((1 : Int32) + (1 : Int32))), .val (.int (fv3 ((1 : Int32)).toNatClampNeg))]) rfl k_) ?_
  show Go p e below _ (T1.setTop (mkF m 36 #[.val (.ref ad1), .val (.long (((0 : Int64) + ((fv3 ((0 : Int32)).toNatClampNeg).toInt64)) + ((fv3 ((1 : Int32)).toNatClampNeg).toInt64))), .second, .val (.ref ad7), .val (.int (2 : Int32)), .val (.int ((1 : Int32) + (1 : Int32))), .val (.int (fv3 ((1 : Int32)).toNatClampNeg))] []))
  rw [show ((1 : Int32) + (1 : Int32)) = (2 : Int32) from by decide]
  refine gs.goto 14 X1.here hx (hb hby d12_36) rfl ?_
  refine gs.iload X1.here hx (hb hby d12_14) rfl ?_
  refine gs.iload X1.here hx (hb hby d12_16) rfl ?_
  have hc18_3 : ¬ ((2 : Int32) < (2 : Int32)) := by decide
  refine gs.icmpYes 39 X1.here hx (hb hby d12_18) (flt hc18_3).2.1 rfl ?_
  refine gs.lloadN X1.here hx (hb hby d12_39) rfl ?_
  refine Go.retJ X1 hx Bd.returns Bd.notSynchronized (hb hby d12_40) (by rw [e1]; exact ⟨rfl, N0, rfl⟩) (by decide) (by decide)
set_option maxRecDepth 65536 in
set_option maxHeartbeats 40000000 in
theorem sg3 {p : Program} {l : Launch} {e : Env} {s : State} {m : MethodId} {args : Array Value} {below : List Frame} {meth : Method} {c : Code} {Z : State} {a0 : Array Value} (hw : ∀ d ∈ tables_1, d.before a0 Z = true) (u_1 : Addr) (aw0 : Addr) (u_0 : ClassId) (kaw0 : ClassId) (HW : Wd Z u_1 aw0 u_0 kaw0) {h0 : Heap} {n0 : Nat} (hx : p.tables.exec = Jvm.exec) (hby : c.code = code) (hml : c.maxLocals = 28) (hret : meth.sig.returnType = some .boolean) (hlk : meth.locks = false) {vm0 : Vm} {k0 : Nat} {T0 : State} {locs : List Loc} {h1 : Heap} (X0 : Stand p l e room_1 (s.setVm vm0) m args below meth c T0 locs 12 42) (S0 : s.Since vm0 k0) (hk0 : k0 ≤ h1.size) (hZ : Z.Warmed39 (s.setVm vm0).vm) (hown : (s.setVm vm0).vm.findClass "com/example/monarc/monarc/DomainsTotalSizePinLaw" = some m.cls) (e0 : T0.heap = h1) (N0 : Fr n0 locs) (kp0 : Keep h0 h1 []) (Ol : Old Z n0 h1) {Q : Option Value → Heap → List Loc → Prop} (hQ : ∀ h L, Fr n0 L → Q (some (.int 1)) h L) (lf0 : Int32) (lf1 : Int32) (lf2 : Int32) (p4 : Int64) (p5 : Int32) (ln0 : Int64) (ln1 : Int64) (lf10 : Int64) (ld12 : Addr) (ld13 : Addr) (ld14 : Addr) (ad1 : Addr) (ad2 : Addr) (ld17 : Addr) (ad3 : Addr) (s0 : Int32) (ad4 : Addr) (s1 : Int32) (ln2 : Int64) (s2 : Int32) (HE_ad3 : Exa Z h1 ad3 "com/example/monarc/monarc/InitialDomain") (HF_ad3_InitialDomain_lowest : Fld Z h1 ad3 "com/example/monarc/monarc/InitialDomain" "lowest" "I" (.int (0 : Int32))) (HF_ad3_InitialDomain_size : Fld Z h1 ad3 "com/example/monarc/monarc/InitialDomain" "size" "I" (.int s0)) (HF_ad3_InitialDomain_values : Fld Z h1 ad3 "com/example/monarc/monarc/InitialDomain" "values" "[I" .null) (HE_ad4 : Exa Z h1 ad4 "com/example/monarc/monarc/InitialDomain") (HF_ad4_InitialDomain_lowest : Fld Z h1 ad4 "com/example/monarc/monarc/InitialDomain" "lowest" "I" (.int (0 : Int32))) (HF_ad4_InitialDomain_size : Fld Z h1 ad4 "com/example/monarc/monarc/InitialDomain" "size" "I" (.int s1)) (HF_ad4_InitialDomain_values : Fld Z h1 ad4 "com/example/monarc/monarc/InitialDomain" "values" "[I" .null) (HE_ad1 : Exa Z h1 ad1 "com/example/monarc/monarc/Variable") (HF_ad1_Variable_domain : Fld Z h1 ad1 "com/example/monarc/monarc/Variable" "domain" "Lcom/example/monarc/monarc/InitialDomain;" (.ref ad3)) (HE_ad2 : Exa Z h1 ad2 "com/example/monarc/monarc/Variable") (HF_ad2_Variable_domain : Fld Z h1 ad2 "com/example/monarc/monarc/Variable" "domain" "Lcom/example/monarc/monarc/InitialDomain;" (.ref ad4)) (hb_ln0 : 1 ≤ ln0.toInt ∧ ln0.toInt < 1073741824) (hb_ln1 : 1 ≤ ln1.toInt ∧ ln1.toInt < 1073741824) (hb_ln2 : 1 ≤ ln2.toInt ∧ ln2.toInt < 1073741824) (hs0 : s0.toInt = ln0.toInt) (hs1 : s1.toInt = ln1.toInt) (hs2 : s2.toInt = ln2.toInt) :
    Go p e below (Fin2 s below Q room_1.cells room_1.slots) (T0.setTop (mkF m 99 #[.val (.int lf0), .val (.int lf1), .val (.int lf2), .val (.long p4), .second, .val (.int p5), .val (.long ln0), .second, .val (.long ln1), .second, .val (.long lf10), .second, .val (.ref ld12), .val (.ref ld13), .val (.ref ld14), .val (.ref ad1), .val (.ref ad2), .val (.ref ld17), .val (.int (2 : Int32)), .unset, .unset, .unset, .unset, .unset, .unset, .unset, .unset, .unset] [])) := by
  obtain ⟨Eu_1, Su_1, Eaw0, Saw0, Au_1, Aaw0⟩ := id HW
  show Go p e below _ (T0.setTop (mkF m 99 #[.val (.int lf0), .val (.int lf1), .val (.int lf2), .val (.long p4), .second, .val (.int p5), .val (.long ln0), .second, .val (.long ln1), .second, .val (.long lf10), .second, .val (.ref ld12), .val (.ref ld13), .val (.ref ld14), .val (.ref ad1), .val (.ref ad2), .val (.ref ld17), .val (.int (2 : Int32)), .unset, .unset, .unset, .unset, .unset, .unset, .unset, .unset, .unset] []))
  refine gs.iload X0.here hx (hb hby at_99) rfl ?_
  refine gs.iconst 3 X0.here hx (hb hby at_101) rfl ?_
  have hc102 : ¬ ((3 : Int32) < (2 : Int32)) := by decide
  refine gs.icmpYes 108 X0.here hx (hb hby at_102) (flt hc102).2.2.2 rfl ?_
  obtain ⟨T2, h2, X2, e2, E2, A2, D2, Y2, st2⟩ := newO X0 hx hZ hown (wd hw 52 rfl) (wd hw 53 rfl) (wd hw 54 rfl) e0 (g := (mkF m 108 #[.val (.int lf0), .val (.int lf1), .val (.int lf2), .val (.long p4), .second, .val (.int p5), .val (.long ln0), .second, .val (.long ln1), .second, .val (.long lf10), .second, .val (.ref ld12), .val (.ref ld13), .val (.ref ld14), .val (.ref ad1), .val (.ref ad2), .val (.ref ld17), .val (.int (2 : Int32)), .unset, .unset, .unset, .unset, .unset, .unset, .unset, .unset, .unset] [])) rfl (hb hby at_108) (by decide) (by decide)
  obtain ⟨b2, g2⟩ : ∃ z, z = h1.size := ⟨_, rfl⟩
  rw [← g2] at A2 D2 Y2 st2
  have nn_b2 : n0 ≤ b2 := Nat.le_trans (old_z0 Ol) (Nat.le_of_eq g2.symm)
  have sz_b2 : h0.size ≤ b2 := Nat.le_trans kp0.1 (Nat.le_of_eq g2.symm)
  have old2 := Ol.ext E2
  have kp2 := kp0.ext E2
  have hk2 := Nat.le_trans hk0 E2.1
  have F2_modCount : Fld Z h2 b2 "java/util/AbstractList" "modCount" "I" (.int (0 : Int32)) := D2 (Or.inl (wd hw 72 rfl)) (ty := .int) (by decide)
  have F2_elementData : Fld Z h2 b2 "java/util/ArrayList" "elementData" "[Ljava/lang/Object;" .null := D2 (Or.inl (wd hw 75 rfl)) (ty := (.array (.object "java/lang/Object"))) (by decide)
  have F2_size : Fld Z h2 b2 "java/util/ArrayList" "size" "I" (.int (0 : Int32)) := D2 (Or.inl (wd hw 99 rfl)) (ty := .int) (by decide)
  refine Go.fin st2 ?_
  show Go p e below _ (T2.setTop (mkF m 111 _ [(.ref b2)]))
  refine gs.dup X2.here hx (hb hby at_111) rfl ?_
  refine gs.init 1 X2 hx hZ hown (am7_1 l Z a0 hw [] u_1 aw0 u_0 kaw0 HW (b2) h2 n0 old2 A2 F2_modCount F2_elementData F2_size nn_b2) (wd hw 57 rfl) (wd hw 54 rfl) (wd hw 55 rfl) rfl (wd hw 56 rfl) (by decide) (by decide) (by decide) (by rw [hml]; rfl) [] (lenOf pd_3 rfl) rfl (Nat.le_of_eq rfl) (hb hby at_112) rfl e2 (by decide) (by decide) fun T3 Lc3 v3 X3 hQ3 => ?_
  obtain ⟨rfl, Nq3, K3, p3_0, p3_1, p3_2, p3_3⟩ := hQ3
  have old3 := old2.keep K3 (allS nn_b2 all0)
  have hk3 := Nat.le_trans hk2 K3.1
  have kp3 := kp2.trans K3 (allS (Or.inr sz_b2) all0)
  have N3 := Fr.app N0 Nq3
  show Go p e below _ (T3.setTop (mkF m 115 _ [(.ref b2)]))
  refine gs.astore X3.here hx (hb hby at_115) rfl (l' := #[.val (.int lf0), .val (.int lf1), .val (.int lf2), .val (.long p4), .second, .val (.int p5), .val (.long ln0), .second, .val (.long ln1), .second, .val (.long lf10), .second, .val (.ref ld12), .val (.ref ld13), .val (.ref ld14), .val (.ref ad1), .val (.ref ad2), .val (.ref ld17), .val (.int (2 : Int32)), .val (.ref b2), .unset, .unset, .unset, .unset, .unset, .unset, .unset, .unset]) rfl ?_
  refine gs.iload X3.here hx (hb hby at_117) rfl ?_
  have hc119 : (0 : Int32) < (2 : Int32) := by decide
  refine gs.ifNo X3.here hx (hb hby at_119) ((if0 _ _).trans (tlt hc119).2.2.2) ?_
  refine gs.aload X3.here hx (hb hby at_122) rfl rfl ?_
  refine gs.aload X3.here hx (hb hby at_124) rfl rfl ?_
  have f4 := ((HE_ad1.ext E2).keep K3)
  refine gs.virt 0 X3 hx hZ hown (am13_1 l Z a0 hw [] u_1 aw0 u_0 kaw0 HW (b2) (ad1) T3.heap n0 old3 f4 p3_0 p3_1 p3_2 p3_3 nn_b2) (wd hw 123 rfl) (wd hw 54 rfl) (wd hw 119 rfl) (wd hw 120 rfl) (notFace_of_selects (args := #[]) (mvT hZ (wd hw 122 rfl))) (wd hw 122 rfl) (wd hw 121 rfl) (by decide) p3_0 (by decide) (by decide) (by rw [hml]; rfl) [(.ref ad1)] (lenOf pd_12 rfl) rfl (Nat.le_of_eq rfl) (hb hby at_126) rfl rfl (by decide) (by decide) fun T5 Lc5 v5 X5 hQ5 => ?_
  obtain ⟨b5_0, kx5_0, rfl, gb_b5_0, Nq5, K5, p5_0, p5_1, p5_2, p5_3, p5_4, ov5_0⟩ := hQ5
  have nn_b5_0 : n0 ≤ b5_0 := Nat.le_trans (old_z0 old3) gb_b5_0
  have sz_b5_0 : h0.size ≤ b5_0 := Nat.le_trans kp3.1 gb_b5_0
  have old5 := old3.keep K5 (allS nn_b2 all0)
  have hk5 := Nat.le_trans hk3 K5.1
  have kp5 := kp3.trans K5 (allS (Or.inr sz_b2) all0)
  have N5 := Fr.app N3 Nq5
  show Go p e below _ (T5.setTop (mkF m 129 _ [(.int (1 : Int32))]))
  refine gs.pop X5.here hx (hb hby at_129) rfl ?_
  refine gs.iload X5.here hx (hb hby at_130) rfl ?_
  refine gs.iconst 1 X5.here hx (hb hby at_132) rfl ?_
  have hc133 : (1 : Int32) < (2 : Int32) := by decide
  refine gs.icmpNo X5.here hx (hb hby at_133) (tlt hc133).2.2.2 ?_
  refine gs.aload X5.here hx (hb hby at_136) rfl rfl ?_
  refine gs.aload X5.here hx (hb hby at_138) rfl rfl ?_
  have f6 := (((HE_ad2.ext E2).keep K3).keep K5)
  have ne_b2_b5_0 : b2 ≠ b5_0 := Nat.ne_of_lt (Nat.lt_of_lt_of_le p3_0.lt gb_b5_0)
  refine gs.virt 0 X5 hx hZ hown (am13_2 l Z a0 hw [] u_1 aw0 u_0 kaw0 HW (b2) (ad2) (ad1) (b5_0) (kx5_0) T5.heap n0 old5 f6 p5_0 p5_1 p5_2 p5_3 p5_4 nn_b2 nn_b5_0 ne_b2_b5_0 ov5_0) (wd hw 123 rfl) (wd hw 54 rfl) (wd hw 119 rfl) (wd hw 120 rfl) (notFace_of_selects (args := #[]) (mvT hZ (wd hw 122 rfl))) (wd hw 122 rfl) (wd hw 121 rfl) (by decide) p5_0 (by decide) (by decide) (by rw [hml]; rfl) [(.ref ad2)] (lenOf pd_12 rfl) rfl (Nat.le_of_eq rfl) (hb hby at_140) rfl rfl (by decide) (by decide) fun T7 Lc7 v7 X7 hQ7 => ?_
  obtain ⟨rfl, Nq7, K7, p7_0, p7_1, p7_2, p7_3, p7_4⟩ := hQ7
  have old7 := old5.keep K7 (allS nn_b2 (allS nn_b5_0 all0))
  have hk7 := Nat.le_trans hk5 K7.1
  have kp7 := kp5.trans K7 (allS (Or.inr sz_b2) (allS (Or.inr sz_b5_0) all0))
  have N7 := Fr.app N5 Nq7
  show Go p e below _ (T7.setTop (mkF m 143 _ [(.int (1 : Int32))]))
  refine gs.pop X7.here hx (hb hby at_143) rfl ?_
  refine gs.iload X7.here hx (hb hby at_144) rfl ?_
  refine gs.iconst 2 X7.here hx (hb hby at_146) rfl ?_
  have hc147 : ¬ ((2 : Int32) < (2 : Int32)) := by decide
  refine gs.icmpYes 158 X7.here hx (hb hby at_147) (flt hc147).2.2.2 rfl ?_
  obtain ⟨T8, h8, X8, e8, E8, A8, D8, Y8, st8⟩ := newO X7 hx hZ hown (wd hw 76 rfl) (wd hw 77 rfl) (wd hw 78 rfl) rfl (g := (mkF m 158 #[.val (.int lf0), .val (.int lf1), .val (.int lf2), .val (.long p4), .second, .val (.int p5), .val (.long ln0), .second, .val (.long ln1), .second, .val (.long lf10), .second, .val (.ref ld12), .val (.ref ld13), .val (.ref ld14), .val (.ref ad1), .val (.ref ad2), .val (.ref ld17), .val (.int (2 : Int32)), .val (.ref b2), .unset, .unset, .unset, .unset, .unset, .unset, .unset, .unset] [])) rfl (hb hby at_158) (by decide) (by decide)
  obtain ⟨b8, g8⟩ : ∃ z, z = T7.heap.size := ⟨_, rfl⟩
  rw [← g8] at A8 D8 Y8 st8
  have nn_b8 : n0 ≤ b8 := Nat.le_trans (old_z0 old7) (Nat.le_of_eq g8.symm)
  have sz_b8 : h0.size ≤ b8 := Nat.le_trans kp7.1 (Nat.le_of_eq g8.symm)
  have old8 := old7.ext E8
  have kp8 := kp7.ext E8
  have hk8 := Nat.le_trans hk7 E8.1
  have F8_trail : Fld Z h8 b8 "com/example/monarc/monarc/Domains" "trail" "[J" .null := D8 (Or.inl (wd hw 85 rfl)) (ty := (.array .long)) (by decide)
  have F8_marks : Fld Z h8 b8 "com/example/monarc/monarc/Domains" "marks" "[I" .null := D8 (Or.inl (wd hw 88 rfl)) (ty := (.array .int)) (by decide)
  have F8_initial : Fld Z h8 b8 "com/example/monarc/monarc/Domains" "initial" "[Lcom/example/monarc/monarc/InitialDomain;" .null := D8 (Or.inr (wd hw 103 rfl)) (ty := (.array (.object "com/example/monarc/monarc/InitialDomain"))) (by decide)
  have F8_lower : Fld Z h8 b8 "com/example/monarc/monarc/Domains" "lower" "[I" .null := D8 (Or.inr (wd hw 105 rfl)) (ty := (.array .int)) (by decide)
  have F8_upper : Fld Z h8 b8 "com/example/monarc/monarc/Domains" "upper" "[I" .null := D8 (Or.inr (wd hw 107 rfl)) (ty := (.array .int)) (by decide)
  have F8_holes : Fld Z h8 b8 "com/example/monarc/monarc/Domains" "holes" "[[J" .null := D8 (Or.inr (wd hw 111 rfl)) (ty := (.array (.array .long))) (by decide)
  have F8_sizes : Fld Z h8 b8 "com/example/monarc/monarc/Domains" "sizes" "[I" .null := D8 (Or.inr (wd hw 113 rfl)) (ty := (.array .int)) (by decide)
  have F8_withOneValue : Fld Z h8 b8 "com/example/monarc/monarc/Domains" "withOneValue" "I" (.int (0 : Int32)) := D8 (Or.inl (wd hw 183 rfl)) (ty := .int) (by decide)
  have F8_trailSize : Fld Z h8 b8 "com/example/monarc/monarc/Domains" "trailSize" "I" (.int (0 : Int32)) := D8 (Or.inl (wd hw 222 rfl)) (ty := .int) (by decide)
  have F8_resized : Fld Z h8 b8 "com/example/monarc/monarc/Domains" "resized" "Ljava/util/function/IntConsumer;" .null := D8 (Or.inl (wd hw 224 rfl)) (ty := (.object "java/util/function/IntConsumer")) (by decide)
  refine Go.fin st8 ?_
  show Go p e below _ (T8.setTop (mkF m 161 _ [(.ref b8)]))
  refine gs.dup X8.here hx (hb hby at_161) rfl ?_
  refine gs.aload X8.here hx (hb hby at_162) rfl rfl ?_
  have f9 := (((((HE_ad3.ext E2).keep K3).keep K5).keep K7).ext E8)
  have ne_ad3_b2 : ad3 ≠ b2 := Nat.ne_of_lt (Nat.lt_of_lt_of_le HE_ad3.lt (Nat.le_of_eq g2.symm))
  have ne_ad3_b5_0 : ad3 ≠ b5_0 := Nat.ne_of_lt (Nat.lt_of_lt_of_le ((HE_ad3.ext E2).keep K3).lt gb_b5_0)
  have f10 := (((((HF_ad3_InitialDomain_size.ext E2).keep K3 (ninS ne_ad3_b2 nin0)).keep K5 (ninS ne_ad3_b2 nin0)).keep K7 (ninS ne_ad3_b2 (ninS ne_ad3_b5_0 nin0))).ext E8)
  have f11 := (((((HE_ad4.ext E2).keep K3).keep K5).keep K7).ext E8)
  have ne_ad4_b2 : ad4 ≠ b2 := Nat.ne_of_lt (Nat.lt_of_lt_of_le HE_ad4.lt (Nat.le_of_eq g2.symm))
  have ne_ad4_b5_0 : ad4 ≠ b5_0 := Nat.ne_of_lt (Nat.lt_of_lt_of_le ((HE_ad4.ext E2).keep K3).lt gb_b5_0)
  have f12 := (((((HF_ad4_InitialDomain_size.ext E2).keep K3 (ninS ne_ad4_b2 nin0)).keep K5 (ninS ne_ad4_b2 nin0)).keep K7 (ninS ne_ad4_b2 (ninS ne_ad4_b5_0 nin0))).ext E8)
  have f13 := (((f4.keep K5).keep K7).ext E8)
  have ne_ad1_b2 : ad1 ≠ b2 := Nat.ne_of_lt (Nat.lt_of_lt_of_le HE_ad1.lt (Nat.le_of_eq g2.symm))
  have ne_ad1_b5_0 : ad1 ≠ b5_0 := Nat.ne_of_lt (Nat.lt_of_lt_of_le f4.lt gb_b5_0)
  have f14 := (((((HF_ad1_Variable_domain.ext E2).keep K3 (ninS ne_ad1_b2 nin0)).keep K5 (ninS ne_ad1_b2 nin0)).keep K7 (ninS ne_ad1_b2 (ninS ne_ad1_b5_0 nin0))).ext E8)
  have f15 := ((f6.keep K7).ext E8)
  have ne_ad2_b2 : ad2 ≠ b2 := Nat.ne_of_lt (Nat.lt_of_lt_of_le HE_ad2.lt (Nat.le_of_eq g2.symm))
  have ne_ad2_b5_0 : ad2 ≠ b5_0 := Nat.ne_of_lt (Nat.lt_of_lt_of_le ((HE_ad2.ext E2).keep K3).lt gb_b5_0)
  have f16 := (((((HF_ad2_Variable_domain.ext E2).keep K3 (ninS ne_ad2_b2 nin0)).keep K5 (ninS ne_ad2_b2 nin0)).keep K7 (ninS ne_ad2_b2 (ninS ne_ad2_b5_0 nin0))).ext E8)
  have f17 := (p7_0.ext E8)
  have f18 := (p7_2.ext E8)
  have f19 := (p7_3.ext E8)
  have f20 := (p7_4.ext E8)
  have ne_b2_b8 : b2 ≠ b8 := Nat.ne_of_lt (Nat.lt_of_lt_of_le p7_0.lt (Nat.le_of_eq g8.symm))
  have ne_ad3_b8 : ad3 ≠ b8 := Nat.ne_of_lt (Nat.lt_of_lt_of_le ((((HE_ad3.ext E2).keep K3).keep K5).keep K7).lt (Nat.le_of_eq g8.symm))
  have ne_ad4_b8 : ad4 ≠ b8 := Nat.ne_of_lt (Nat.lt_of_lt_of_le ((((HE_ad4.ext E2).keep K3).keep K5).keep K7).lt (Nat.le_of_eq g8.symm))
  have ne_ad1_b8 : ad1 ≠ b8 := Nat.ne_of_lt (Nat.lt_of_lt_of_le ((f4.keep K5).keep K7).lt (Nat.le_of_eq g8.symm))
  have ne_ad2_b8 : ad2 ≠ b8 := Nat.ne_of_lt (Nat.lt_of_lt_of_le (f6.keep K7).lt (Nat.le_of_eq g8.symm))
  have ne_b5_0_b8 : b5_0 ≠ b8 := Nat.ne_of_lt (Nat.lt_of_lt_of_le p7_4.lt (Nat.le_of_eq g8.symm))
  refine gs.init 1 X8 hx hZ hown (am10_3 l Z a0 hw [] u_1 aw0 u_0 kaw0 HW (b8) (b2) (ad3) (s0) (ad4) (s1) (ad1) (ad2) (b5_0) (kx5_0) h8 n0 old8 f9 f10 f11 f12 f13 f14 f15 f16 f17 f18 f19 f20 A8 F8_trail F8_marks F8_initial F8_lower F8_upper F8_holes F8_sizes F8_withOneValue F8_trailSize F8_resized nn_b8 (Ne.symm ne_b2_b8) (Ne.symm ne_ad3_b8) (Ne.symm ne_ad4_b8) (Ne.symm ne_ad1_b8) (Ne.symm ne_ad2_b8) (Ne.symm ne_b5_0_b8) ov5_0) (wd hw 81 rfl) (wd hw 78 rfl) (wd hw 79 rfl) rfl (wd hw 80 rfl) (by decide) (by decide) (by decide) (by rw [hml]; rfl) [(.ref b2)] (lenOf pd_6 rfl) rfl (Nat.le_of_eq rfl) (hb hby at_164) rfl e8 (by decide) (by decide) fun T21 Lc21 v21 X21 hQ21 => ?_
  obtain ⟨b21_0, b21_1, b21_2, b21_3, b21_4, b21_5, kx21_0, kx21_1, kx21_2, kx21_3, kx21_4, kx21_5, ex21_0, rfl, gb_b21_0, gb_b21_1, gb_b21_2, gb_b21_3, gb_b21_4, gb_b21_5, ne_b21_0_b21_1, ne_b21_0_b21_2, ne_b21_0_b21_3, ne_b21_0_b21_4, ne_b21_0_b21_5, ne_b21_1_b21_2, ne_b21_1_b21_3, ne_b21_1_b21_4, ne_b21_1_b21_5, ne_b21_2_b21_3, ne_b21_2_b21_4, ne_b21_2_b21_5, ne_b21_3_b21_4, ne_b21_3_b21_5, ne_b21_4_b21_5, Nq21, K21, p21_0, p21_1, p21_2, p21_3, p21_4, p21_5, p21_6, p21_7, p21_8, p21_9, p21_10, p21_11, p21_12, p21_13, p21_14, p21_15, p21_16, ov21_0, ov21_1⟩ := hQ21
  have nn_b21_0 : n0 ≤ b21_0 := Nat.le_trans (old_z0 old8) gb_b21_0
  have sz_b21_0 : h0.size ≤ b21_0 := Nat.le_trans kp8.1 gb_b21_0
  have nn_b21_1 : n0 ≤ b21_1 := Nat.le_trans (old_z0 old8) gb_b21_1
  have sz_b21_1 : h0.size ≤ b21_1 := Nat.le_trans kp8.1 gb_b21_1
  have nn_b21_2 : n0 ≤ b21_2 := Nat.le_trans (old_z0 old8) gb_b21_2
  have sz_b21_2 : h0.size ≤ b21_2 := Nat.le_trans kp8.1 gb_b21_2
  have nn_b21_3 : n0 ≤ b21_3 := Nat.le_trans (old_z0 old8) gb_b21_3
  have sz_b21_3 : h0.size ≤ b21_3 := Nat.le_trans kp8.1 gb_b21_3
  have nn_b21_4 : n0 ≤ b21_4 := Nat.le_trans (old_z0 old8) gb_b21_4
  have sz_b21_4 : h0.size ≤ b21_4 := Nat.le_trans kp8.1 gb_b21_4
  have nn_b21_5 : n0 ≤ b21_5 := Nat.le_trans (old_z0 old8) gb_b21_5
  have sz_b21_5 : h0.size ≤ b21_5 := Nat.le_trans kp8.1 gb_b21_5
  have old21 := old8.keep K21 (allS nn_b8 all0)
  have hk21 := Nat.le_trans hk8 K21.1
  have kp21 := kp8.trans K21 (allS (Or.inr sz_b8) all0)
  have N21 := Fr.app N7 Nq21
  show Go p e below _ (T21.setTop (mkF m 167 _ [(.ref b8)]))
  refine gs.astore X21.here hx (hb hby at_167) rfl (l' := #[.val (.int lf0), .val (.int lf1), .val (.int lf2), .val (.long p4), .second, .val (.int p5), .val (.long ln0), .second, .val (.long ln1), .second, .val (.long lf10), .second, .val (.ref ld12), .val (.ref ld13), .val (.ref ld14), .val (.ref ad1), .val (.ref ad2), .val (.ref ld17), .val (.int (2 : Int32)), .val (.ref b2), .val (.ref b8), .unset, .unset, .unset, .unset, .unset, .unset, .unset]) rfl ?_
  have hy0 := to64 hs0
  have hy1 := to64 hs1
  obtain ⟨fs, hd_fs⟩ : ∃ z : Nat → Int32, z = fun i => ([s0, s1] : List Int32).getD i s0 := ⟨_, rfl⟩
  have g22_ : Ari Z T21.heap b21_3 kx21_3 (2 : Int32) fs := Arw.of_list p21_14 (by rw [hd_fs]; intro i hi; have h4 : i < 2 := hi; rcases i with _ | _ | i <;> first | rfl | omega)
  have hv_fs0 : (fs ((0 : Int32)).toNatClampNeg) = s0 := by rw [hd_fs]; rfl
  have hv_fs1 : (fs ((1 : Int32)).toNatClampNeg) = s1 := by rw [hd_fs]; rfl
  obtain ⟨fu, hd_fu⟩ : ∃ z : Nat → Int32, z = fun i => ([(s0 - (1 : Int32)), (s1 - (1 : Int32))] : List Int32).getD i (s0 - (1 : Int32)) := ⟨_, rfl⟩
  have g23_ : Ari Z T21.heap b21_5 kx21_5 (2 : Int32) fu := Arw.of_list p21_16 (by rw [hd_fu]; intro i hi; have h4 : i < 2 := hi; rcases i with _ | _ | i <;> first | rfl | omega)
  have hv_fu0 : (fu ((0 : Int32)).toNatClampNeg) = (s0 - (1 : Int32)) := by rw [hd_fu]; rfl
  have hv_fu1 : (fu ((1 : Int32)).toNatClampNeg) = (s1 - (1 : Int32)) := by rw [hd_fu]; rfl
  have g24_ : Ari Z T21.heap b21_2 kx21_2 (2 : Int32) (fun _ => (0 : Int32)) := Arw.of_list p21_13 (by intro i hi; have h4 : i < 2 := hi; rcases i with _ | _ | i <;> first | rfl | omega)
  have g25_ : Arw Z T21.heap b21_0 kx21_0 (.array .long) (2 : Int32) (fun _ => .null) := Arw.of_list p21_11 (by intro i hi; have h4 : i < 2 := hi; rcases i with _ | _ | i <;> first | rfl | omega)
  obtain ⟨fa, hd_fa⟩ : ∃ z : Nat → Addr, z = fun i => ([ad3, ad4] : List Addr).getD i ad3 := ⟨_, rfl⟩
  have g26_ : Ara Z T21.heap b21_1 kx21_1 (.object "com/example/monarc/monarc/InitialDomain") (2 : Int32) fa := Arw.of_list p21_12 (by rw [hd_fa]; intro i hi; have h4 : i < 2 := hi; rcases i with _ | _ | i <;> first | rfl | omega)
  have hv_fa0 : (fa ((0 : Int32)).toNatClampNeg) = ad3 := by rw [hd_fa]; rfl
  have hv_fa1 : (fa ((1 : Int32)).toNatClampNeg) = ad4 := by rw [hd_fa]; rfl
  have g27_f : Arf Z T21.heap b21_4 kx21_4 (1024 : Int32) (fun _ => (0 : Int64)) := Arf.of_arv p21_15
  obtain ⟨ft, hd_ft⟩ : ∃ z, z = (fun _ => (0 : Int64)) := ⟨_, rfl⟩
  have v28_ : Arf Z T21.heap b21_4 kx21_4 (1024 : Int32) ft := by rw [hd_ft]; exact g27_f
  obtain ⟨t0, hd_t0⟩ : ∃ z, z = (0 : Int32) := ⟨_, rfl⟩
  have v29_ : Fld Z T21.heap b8 "com/example/monarc/monarc/Domains" "trailSize" "I" (.int t0) := by rw [hd_t0]; exact p21_7
  obtain ⟨w0, hd_w0⟩ : ∃ z, z = ex21_0 := ⟨_, rfl⟩
  have v30_ : Fld Z T21.heap b8 "com/example/monarc/monarc/Domains" "withOneValue" "I" (.int w0) := by rw [hd_w0]; exact p21_9
  have hb_t0 : t0.toInt = 0 := by rw [hd_t0]; rfl
  have o1024 : (1024 : Int32).toInt = 1024 := rfl
  refine gs.iload X21.here hx (hb hby at_169) rfl ?_
  have hc171 : (0 : Int32) < (2 : Int32) := by decide
  refine gs.ifNo X21.here hx (hb hby at_171) ((if0 _ _).trans (tlt hc171).2.2.2) ?_
  refine gs.lload X21.here hx (hb hby at_174) rfl ?_
  refine gs.goto 180 X21.here hx (hb hby at_176) rfl ?_
  refine gs.iload X21.here hx (hb hby at_180) rfl ?_
  refine gs.iconst 1 X21.here hx (hb hby at_182) rfl ?_
  have hc183 : (1 : Int32) < (2 : Int32) := by decide
  refine gs.icmpNo X21.here hx (hb hby at_183) (tlt hc183).2.2.2 ?_
  refine gs.lload X21.here hx (hb hby at_186) rfl ?_
  refine gs.goto 192 X21.here hx (hb hby at_188) rfl ?_
  refine gs.ladd X21.here hx (hb hby at_192) ?_
  refine gs.iload X21.here hx (hb hby at_193) rfl ?_
  refine gs.iconst 2 X21.here hx (hb hby at_195) rfl ?_
  have hc196 : ¬ ((2 : Int32) < (2 : Int32)) := by decide
  refine gs.icmpYes 204 X21.here hx (hb hby at_196) (flt hc196).2.2.2 rfl ?_
  refine Go.fin (fun t_ k_ => XS.lconst X21.here hx rfl (hb hby at_204) k_) ?_
  show Go p e below _ (T21.setTop (mkF m 205 _ [(.long (0 : Int64)), (.long (ln0 + ln1))]))
  refine gs.ladd X21.here hx (hb hby at_205) ?_
  refine gs.lstore X21.here hx (hb hby at_206) (l' := #[.val (.int lf0), .val (.int lf1), .val (.int lf2), .val (.long p4), .second, .val (.int p5), .val (.long ln0), .second, .val (.long ln1), .second, .val (.long lf10), .second, .val (.ref ld12), .val (.ref ld13), .val (.ref ld14), .val (.ref ad1), .val (.ref ad2), .val (.ref ld17), .val (.int (2 : Int32)), .val (.ref b2), .val (.ref b8), .val (.long ((ln0 + ln1) + (0 : Int64))), .second, .unset, .unset, .unset, .unset, .unset]) rfl ?_
  refine gs.aload X21.here hx (hb hby at_208) rfl rfl ?_
  refine gs.virt 0 X21 hx hZ hown (am12_3 l Z a0 hw [] u_1 aw0 u_0 kaw0 HW (b8) (b21_3) (kx21_3) (fs) T21.heap n0 old21 p21_5 g22_ (by decide) (by decide)) (wd hw 118 rfl) (wd hw 78 rfl) (wd hw 114 rfl) (wd hw 115 rfl) (notFace_of_selects (args := #[]) (mvT hZ (wd hw 117 rfl))) (wd hw 117 rfl) (wd hw 116 rfl) (by decide) p21_0 (by decide) (by decide) (by rw [hml]; rfl) [] (lenOf pd_7 rfl) rfl (Nat.le_of_eq rfl) (hb hby at_210) rfl rfl (by decide) (by decide) fun T31 Lc31 v31 X31 hQ31 => ?_
  obtain ⟨rfl, Nq31, e31⟩ := hQ31
  have N31 := Fr.app N21 Nq31
  show Go p e below _ (T31.setTop (mkF m 213 _ [(.long (((0 : Int64) + ((fs ((0 : Int32)).toNatClampNeg).toInt64)) + ((fs ((1 : Int32)).toNatClampNeg).toInt64)))]))
  refine gs.lload X31.here hx (hb hby at_213) rfl ?_
  refine Go.fin (fun t_ k_ => XS.lcmp X31.here hx rfl (hb hby at_215) rfl k_) ?_
  show Go p e below _ (T31.setTop (mkF m 216 _ [(.int (lcmpW (((0 : Int64) + ((fs ((0 : Int32)).toNatClampNeg).toInt64)) + ((fs ((1 : Int32)).toNatClampNeg).toInt64)) ((ln0 + ln1) + (0 : Int64))))]))
  have hc216 : (lcmpW (((0 : Int64) + ((fs ((0 : Int32)).toNatClampNeg).toInt64)) + ((fs ((1 : Int32)).toNatClampNeg).toInt64)) ((ln0 + ln1) + (0 : Int64))) = (0 : Int32) := by rw [hv_fs0, hy0, hv_fs1, hy1]; exact lw_of_eq (by simp only [zero_add64, add_zero64])
  refine gs.ifYes 221 X31.here hx (hb hby at_216) ((if0 _ _).trans (teq hc216).1) rfl ?_
  refine gs.iload X31.here hx (hb hby at_221) rfl ?_
  have hc223 : ¬ ((2 : Int32) = (0 : Int32)) := by decide
  refine gs.ifYes 228 X31.here hx (hb hby at_223) ((if0 _ _).trans (feq hc223).2) rfl ?_
  refine gs.iload X31.here hx (hb hby at_228) rfl ?_
  refine gs.iconst 2 X31.here hx (hb hby at_230) rfl ?_
  refine Go.fin (fun t_ k_ => XS.iushr X31.here hx rfl (hb hby at_231) rfl k_) ?_
  show Go p e below _ (T31.setTop (mkF m 232 _ [(.int ((p5.toUInt32 >>> ((2 : Int32) &&& 31).toUInt32).toInt32))]))
  refine gs.iconst 3 X31.here hx (hb hby at_232) rfl ?_
  refine gs.iand X31.here hx (hb hby at_233) ?_
  refine gs.iload X31.here hx (hb hby at_234) rfl ?_
  refine Go.fin (fun t_ k_ => iremM X31 hx rfl (hb hby at_236) rfl (by decide) k_) ?_
  show Go p e below _ (T31.setTop (mkF m 237 _ [(.int ((((p5.toUInt32 >>> ((2 : Int32) &&& 31).toUInt32).toInt32) &&& (3 : Int32)) % (2 : Int32)))]))
  refine gs.istore X31.here hx (hb hby at_237) (l' := #[.val (.int lf0), .val (.int lf1), .val (.int lf2), .val (.long p4), .second, .val (.int p5), .val (.long ln0), .second, .val (.long ln1), .second, .val (.long lf10), .second, .val (.ref ld12), .val (.ref ld13), .val (.ref ld14), .val (.ref ad1), .val (.ref ad2), .val (.ref ld17), .val (.int (2 : Int32)), .val (.ref b2), .val (.ref b8), .val (.long ((ln0 + ln1) + (0 : Int64))), .second, .val (.int ((((p5.toUInt32 >>> ((2 : Int32) &&& 31).toUInt32).toInt32) &&& (3 : Int32)) % (2 : Int32))), .unset, .unset, .unset, .unset]) rfl ?_
  generalize hk_t : ((((p5.toUInt32 >>> ((2 : Int32) &&& 31).toUInt32).toInt32) &&& (3 : Int32)) % (2 : Int32)) = t
  show Go p e below _ (T31.setTop (mkF m 239 #[.val (.int lf0), .val (.int lf1), .val (.int lf2), .val (.long p4), .second, .val (.int p5), .val (.long ln0), .second, .val (.long ln1), .second, .val (.long lf10), .second, .val (.ref ld12), .val (.ref ld13), .val (.ref ld14), .val (.ref ad1), .val (.ref ad2), .val (.ref ld17), .val (.int (2 : Int32)), .val (.ref b2), .val (.ref b8), .val (.long ((ln0 + ln1) + (0 : Int64))), .second, .val (.int t), .unset, .unset, .unset, .unset] []))
  have hb_t : 0 ≤ t.toInt ∧ t.toInt < 2 := by rw [← hk_t]; exact remk_bd (and3_bd _) (z := (2 : Int32)) rfl (by decide)
  rcases cs2 hb_t with rfl | rfl
  next =>
    show Go p e below _ (T31.setTop (mkF m 239 #[.val (.int lf0), .val (.int lf1), .val (.int lf2), .val (.long p4), .second, .val (.int p5), .val (.long ln0), .second, .val (.long ln1), .second, .val (.long lf10), .second, .val (.ref ld12), .val (.ref ld13), .val (.ref ld14), .val (.ref ad1), .val (.ref ad2), .val (.ref ld17), .val (.int (2 : Int32)), .val (.ref b2), .val (.ref b8), .val (.long ((ln0 + ln1) + (0 : Int64))), .second, .val (.int (0 : Int32)), .unset, .unset, .unset, .unset] []))
    refine gs.iload X31.here hx (hb hby at_239) rfl ?_
    have hc241 : (0 : Int32) = (0 : Int32) := by decide
    refine gs.ifNo X31.here hx (hb hby at_241) ((if0 _ _).trans (teq hc241).2) ?_
    refine gs.lload X31.here hx (hb hby at_244) rfl ?_
    refine gs.goto 262 X31.here hx (hb hby at_246) rfl ?_
    refine gs.lstore X31.here hx (hb hby at_262) (l' := #[.val (.int lf0), .val (.int lf1), .val (.int lf2), .val (.long p4), .second, .val (.int p5), .val (.long ln0), .second, .val (.long ln1), .second, .val (.long lf10), .second, .val (.ref ld12), .val (.ref ld13), .val (.ref ld14), .val (.ref ad1), .val (.ref ad2), .val (.ref ld17), .val (.int (2 : Int32)), .val (.ref b2), .val (.ref b8), .val (.long ((ln0 + ln1) + (0 : Int64))), .second, .val (.int (0 : Int32)), .val (.long ln0), .second, .unset, .unset]) rfl ?_
    refine gs.lload X31.here hx (hb hby at_264) rfl ?_
    refine Go.fin (fun t_ k_ => XS.lconst X31.here hx rfl (hb hby at_266) k_) ?_
    show Go p e below _ (T31.setTop (mkF m 267 _ [(.long (0 : Int64)), (.long ln0)]))
    refine gs.lloadN X31.here hx (hb hby at_267) rfl ?_
    refine gs.stat 2 X31 hx hZ hown (rm24 l Z a0 hw [] u_1 aw0 u_0 kaw0 HW (0 : Int64) p4 (mxL (0 : Int64) p4) T21.heap n0 old21 rfl) (wd hw 186 rfl) (wd hw 143 rfl) (wd hw 184 rfl) (wd hw 185 rfl) (by decide) (by decide) (by decide) (by rw [hml]; rfl) [(.long (0 : Int64)), (.long p4)] (lenOf pd_16 rfl) rfl (Nat.le_of_eq rfl) (hb hby at_268) rfl e31 (by decide) (by decide) fun T32 Lc32 v32 X32 hQ32 => ?_
    obtain ⟨rfl, Nq32, e32⟩ := hQ32
    have N32 := Fr.app N31 Nq32
    show Go p e below _ (T32.setTop (mkF m 271 _ [(.long (mxL (0 : Int64) p4)), (.long ln0)]))
    refine gs.stat 0 X32 hx hZ hown (rm25 l Z a0 hw [] u_1 aw0 u_0 kaw0 HW ln0 (mxL (0 : Int64) p4) (mnL ln0 (mxL (0 : Int64) p4)) T21.heap n0 old21 rfl) (wd hw 189 rfl) (wd hw 143 rfl) (wd hw 187 rfl) (wd hw 188 rfl) (by decide) (by decide) (by decide) (by rw [hml]; rfl) [(.long ln0), (.long (mxL (0 : Int64) p4))] (lenOf pd_16 rfl) rfl (Nat.le_of_eq rfl) (hb hby at_271) rfl e32 (by decide) (by decide) fun T33 Lc33 v33 X33 hQ33 => ?_
    obtain ⟨rfl, Nq33, e33⟩ := hQ33
    have N33 := Fr.app N32 Nq33
    show Go p e below _ (T33.setTop (mkF m 274 _ [(.long (mnL ln0 (mxL (0 : Int64) p4)))]))
    refine gs.lstore X33.here hx (hb hby at_274) (l' := #[.val (.int lf0), .val (.int lf1), .val (.int lf2), .val (.long p4), .second, .val (.int p5), .val (.long ln0), .second, .val (.long ln1), .second, .val (.long lf10), .second, .val (.ref ld12), .val (.ref ld13), .val (.ref ld14), .val (.ref ad1), .val (.ref ad2), .val (.ref ld17), .val (.int (2 : Int32)), .val (.ref b2), .val (.ref b8), .val (.long ((ln0 + ln1) + (0 : Int64))), .second, .val (.int (0 : Int32)), .val (.long ln0), .second, .val (.long (mnL ln0 (mxL (0 : Int64) p4))), .second]) rfl ?_
    generalize hk_rr : (mnL ln0 (mxL (0 : Int64) p4)) = rr
    show Go p e below _ (T33.setTop (mkF m 276 #[.val (.int lf0), .val (.int lf1), .val (.int lf2), .val (.long p4), .second, .val (.int p5), .val (.long ln0), .second, .val (.long ln1), .second, .val (.long lf10), .second, .val (.ref ld12), .val (.ref ld13), .val (.ref ld14), .val (.ref ad1), .val (.ref ad2), .val (.ref ld17), .val (.int (2 : Int32)), .val (.ref b2), .val (.ref b8), .val (.long ((ln0 + ln1) + (0 : Int64))), .second, .val (.int (0 : Int32)), .val (.long ln0), .second, .val (.long rr), .second] []))
    refine gs.aload X33.here hx (hb hby at_276) rfl rfl ?_
    refine gs.iload X33.here hx (hb hby at_278) rfl ?_
    refine gs.lloadN X33.here hx (hb hby at_280) rfl ?_
    refine (fun H_ => H_ (0 : Int32) rfl : (∀ tt : Int32, tt = (0 : Int32) → Go p e below (Fin2 s below Q room_1.cells room_1.slots) (T33.setTop (mkF m 281 #[.val (.int lf0), .val (.int lf1), .val (.int lf2), .val (.long p4), .second, .val (.int p5), .val (.long ln0), .second, .val (.long ln1), .second, .val (.long lf10), .second, .val (.ref ld12), .val (.ref ld13), .val (.ref ld14), .val (.ref ad1), .val (.ref ad2), .val (.ref ld17), .val (.int (2 : Int32)), .val (.ref b2), .val (.ref b8), .val (.long ((ln0 + ln1) + (0 : Int64))), .second, .val (.int (0 : Int32)), .val (.long ln0), .second, .val (.long rr), .second] [(.long p4), (.int tt), (.ref b8)]))) → _) ?_
    intro tt htt
    obtain ⟨kn, hd_kn⟩ : ∃ z, z = (2 : Int32) := ⟨_, rfl⟩
    have ht_ : tt.toInt = 0 := by rw [htt]; rfl
    have hk_ : kn.toInt = 2 := by rw [hd_kn]; rfl
    have v34_ : Ari Z T21.heap b21_3 kx21_3 kn fs := by rw [hd_kn]; exact g22_
    have v35_ : Ari Z T21.heap b21_5 kx21_5 kn fu := by rw [hd_kn]; exact g23_
    have v36_ : Ari Z T21.heap b21_2 kx21_2 kn (fun _ => (0 : Int32)) := by rw [hd_kn]; exact g24_
    have v37_ : Arw Z T21.heap b21_0 kx21_0 (.array .long) kn (fun _ => .null) := by rw [hd_kn]; exact g25_
    have v38_ : Ara Z T21.heap b21_1 kx21_1 (.object "com/example/monarc/monarc/InitialDomain") kn fa := by rw [hd_kn]; exact g26_
    obtain ⟨fe, hd_fe⟩ : ∃ z, z = ((mnL (s0.toInt64) (mxL (0 : Int64) ((mxL (-2147483648 : Int64) (mnL p4 (2147483648 : Int64))) - (0 : Int64)))).toInt32) := ⟨_, rfl⟩
    have hb_fe : fe.toInt = min ln0.toInt (max 0 p4.toInt) := by rw [hd_fe]; exact fe_bd hb_ln0 hs0
    obtain ⟨ut, hd_ut⟩ : ∃ z, z = (s0 - (1 : Int32)) := ⟨_, rfl⟩
    have hb_ut := up_eq hb_ln0 hs0 hd_ut
    by_cases h_f0 : (0 : Int32) < fe
    case pos =>
      by_cases h_fu : ut < fe
      case pos =>
        have f39 := (f9.keep K21)
        have f40 := ((((((HF_ad3_InitialDomain_lowest.ext E2).keep K3 (ninS ne_ad3_b2 nin0)).keep K5 (ninS ne_ad3_b2 nin0)).keep K7 (ninS ne_ad3_b2 (ninS ne_ad3_b5_0 nin0))).ext E8).keep K21 (ninS ne_ad3_b8 nin0))
        have f41 := (f10.keep K21 (ninS ne_ad3_b8 nin0))
        have f42 := ((((((HF_ad3_InitialDomain_values.ext E2).keep K3 (ninS ne_ad3_b2 nin0)).keep K5 (ninS ne_ad3_b2 nin0)).keep K7 (ninS ne_ad3_b2 (ninS ne_ad3_b5_0 nin0))).ext E8).keep K21 (ninS ne_ad3_b8 nin0))
        have ne_b8_b21_4 : b8 ≠ b21_4 := Nat.ne_of_lt (Nat.lt_of_lt_of_le A8.lt gb_b21_4)
        have ne_b8_b21_2 : b8 ≠ b21_2 := Nat.ne_of_lt (Nat.lt_of_lt_of_le A8.lt gb_b21_2)
        have ne_b8_b21_3 : b8 ≠ b21_3 := Nat.ne_of_lt (Nat.lt_of_lt_of_le A8.lt gb_b21_3)
        refine gs.virt 0 X33 hx hZ hown (am26_1 l Z a0 hw [] u_1 aw0 u_0 kaw0 HW (b8) (tt) (p4) (ad3) (s0) (b21_4) (b21_1) (b21_2) (b21_5) (b21_0) (b21_3) (w0) (t0) (kx21_3) (kn) (fs) (kx21_5) (fu) (kx21_2) (kx21_0) (kx21_1) (fa) (kx21_4) (ft) (fe) (ut) T21.heap n0 old21 f39 f40 f41 f42 p21_0 p21_6 p21_2 p21_3 p21_8 p21_1 p21_5 v30_ v29_ p21_4 v34_ v35_ v36_ v37_ v38_ v28_ nn_b8 nn_b21_4 nn_b21_2 nn_b21_3 ne_b8_b21_4 ne_b8_b21_2 ne_b8_b21_3 (Ne.symm ne_b21_2_b21_4) (Ne.symm ne_b21_3_b21_4) ne_b21_2_b21_3 h_f0 (i_lt (by have o0 : (0 : Int32).toInt = 0 := rfl; omega)) (tin ht_ hk_ (by decide) (by decide)) (by rw [o1024]; omega) h_fu (i_ne (by rw [o1024]; omega)) hd_fe.symm (by rw [htt, hv_fs0]) (by rw [htt, hv_fu0, hd_ut]) (by rw [htt, hv_fa0]) ov21_0 ov21_1) (wd hw 194 rfl) (wd hw 78 rfl) (wd hw 190 rfl) (wd hw 191 rfl) (notFace_of_selects (args := #[]) (mvT hZ (wd hw 193 rfl))) (wd hw 193 rfl) (wd hw 192 rfl) (by decide) p21_0 (by decide) (by decide) (by rw [hml]; rfl) [(.int tt), (.long p4)] (lenOf pd_21 rfl) rfl (Nat.le_of_eq rfl) (hb hby at_281) rfl e33 (by decide) (by decide) fun T43 Lc43 v43 X43 hQ43 => ?_
        obtain ⟨ex43_0, rfl, Nq43, K43, p43_0, p43_1, p43_2, p43_3, p43_4, p43_5, p43_6, p43_7, p43_8, p43_9, p43_10, p43_11, p43_12⟩ := hQ43
        have old43 := old21.keep K43 (allS nn_b8 (allS nn_b21_4 (allS nn_b21_2 (allS nn_b21_3 all0))))
        have hk43 := Nat.le_trans hk21 K43.1
        have kp43 := kp21.trans K43 (allS (Or.inr sz_b8) (allS (Or.inr sz_b21_4) (allS (Or.inr sz_b21_2) (allS (Or.inr sz_b21_3) all0))))
        have N43 := Fr.app N33 Nq43
        show Go p e below _ (T43.setTop (mkF m 284 _ []))
        obtain ⟨fz, hd_fz⟩ : ∃ z, z = (fun i => if i = (tt).toNatClampNeg then (s0 - (mxI (0 : Int32) ((ut + (1 : Int32)) - (0 : Int32)))) else fs i) := ⟨_, rfl⟩
        have v44_ : Ari Z T43.heap b21_3 kx21_3 kn fz := by rw [hd_fz]; exact p43_12
        have v45_ := v44_
        rw [hd_kn] at v45_
        have v45_ : Ari Z T43.heap b21_3 kx21_3 (2 : Int32) fz := v45_
        have hz0 : (fz ((0 : Int32)).toNatClampNeg) = (s0 - (mxI (0 : Int32) ((ut + (1 : Int32)) - (0 : Int32)))) := by rw [hd_fz, htt]; exact if_pos rfl
        have hy0_ : ((fz ((0 : Int32)).toNatClampNeg).toInt64) = ln0 - rr := by rw [hz0]; exact rd_b hb_ln0 hs0 hb_fe (up_one hb_ln0 hb_ut hb_fe h_fu) hk_rr
        have hz1 : (fz ((1 : Int32)).toNatClampNeg) = s1 := by rw [hd_fz, htt]; exact (if_neg (by decide)).trans hv_fs1
        have hy1_ : ((fz ((1 : Int32)).toNatClampNeg).toInt64) = ln1 := by rw [hz1]; exact hy1
        refine gs.aload X43.here hx (hb hby at_284) rfl rfl ?_
        refine gs.virt 0 X43 hx hZ hown (am12_3 l Z a0 hw [] u_1 aw0 u_0 kaw0 HW (b8) (b21_3) (kx21_3) (fz) T43.heap n0 old43 p43_5 v45_ (by decide) (by decide)) (wd hw 118 rfl) (wd hw 78 rfl) (wd hw 114 rfl) (wd hw 115 rfl) (notFace_of_selects (args := #[]) (mvT hZ (wd hw 117 rfl))) (wd hw 117 rfl) (wd hw 116 rfl) (by decide) p43_0 (by decide) (by decide) (by rw [hml]; rfl) [] (lenOf pd_7 rfl) rfl (Nat.le_of_eq rfl) (hb hby at_286) rfl rfl (by decide) (by decide) fun T46 Lc46 v46 X46 hQ46 => ?_
        obtain ⟨rfl, Nq46, e46⟩ := hQ46
        have N46 := Fr.app N43 Nq46
        show Go p e below _ (T46.setTop (mkF m 289 _ [(.long (((0 : Int64) + ((fz ((0 : Int32)).toNatClampNeg).toInt64)) + ((fz ((1 : Int32)).toNatClampNeg).toInt64)))]))
        refine gs.lload X46.here hx (hb hby at_289) rfl ?_
        refine gs.lload X46.here hx (hb hby at_291) rfl ?_
        refine gs.lsub X46.here hx (hb hby at_293) ?_
        refine Go.fin (fun t_ k_ => XS.lcmp X46.here hx rfl (hb hby at_294) rfl k_) ?_
        show Go p e below _ (T46.setTop (mkF m 295 _ [(.int (lcmpW (((0 : Int64) + ((fz ((0 : Int32)).toNatClampNeg).toInt64)) + ((fz ((1 : Int32)).toNatClampNeg).toInt64)) (((ln0 + ln1) + (0 : Int64)) - rr)))]))
        have hc295 : (lcmpW (((0 : Int64) + ((fz ((0 : Int32)).toNatClampNeg).toInt64)) + ((fz ((1 : Int32)).toNatClampNeg).toInt64)) (((ln0 + ln1) + (0 : Int64)) - rr)) = (0 : Int32) := by rw [hy0_, hy1_]; exact lw_of_eq (sum_2_0 _ _ 0 _)
        refine gs.ifNo X46.here hx (hb hby at_295) ((if0 _ _).trans (teq hc295).2) ?_
        refine gs.iconst 1 X46.here hx (hb hby at_298) rfl ?_
        refine gs.goto 303 X46.here hx (hb hby at_299) rfl ?_
        refine GoW.retZ X46 S0 (by rw [e46]; exact hk43) hx (t := .boolean) hret (by simp) hlk (hb hby at_303) (by rw [e46]; exact (hQ _ _ N46)) (by decide) (by decide)
      case neg =>
        have f47 := (f9.keep K21)
        have f48 := ((((((HF_ad3_InitialDomain_lowest.ext E2).keep K3 (ninS ne_ad3_b2 nin0)).keep K5 (ninS ne_ad3_b2 nin0)).keep K7 (ninS ne_ad3_b2 (ninS ne_ad3_b5_0 nin0))).ext E8).keep K21 (ninS ne_ad3_b8 nin0))
        have f49 := (f10.keep K21 (ninS ne_ad3_b8 nin0))
        have f50 := ((((((HF_ad3_InitialDomain_values.ext E2).keep K3 (ninS ne_ad3_b2 nin0)).keep K5 (ninS ne_ad3_b2 nin0)).keep K7 (ninS ne_ad3_b2 (ninS ne_ad3_b5_0 nin0))).ext E8).keep K21 (ninS ne_ad3_b8 nin0))
        have ne_b8_b21_4 : b8 ≠ b21_4 := Nat.ne_of_lt (Nat.lt_of_lt_of_le A8.lt gb_b21_4)
        have ne_b8_b21_2 : b8 ≠ b21_2 := Nat.ne_of_lt (Nat.lt_of_lt_of_le A8.lt gb_b21_2)
        have ne_b8_b21_3 : b8 ≠ b21_3 := Nat.ne_of_lt (Nat.lt_of_lt_of_le A8.lt gb_b21_3)
        refine gs.virt 0 X33 hx hZ hown (am26_2 l Z a0 hw [] u_1 aw0 u_0 kaw0 HW (b8) (tt) (p4) (ad3) (s0) (b21_4) (b21_1) (b21_2) (b21_5) (b21_0) (b21_3) (w0) (t0) (kx21_3) (kn) (fs) (kx21_5) (fu) (kx21_2) (kx21_0) (kx21_1) (fa) (kx21_4) (ft) (fe) (ut) T21.heap n0 old21 f47 f48 f49 f50 p21_0 p21_6 p21_2 p21_3 p21_8 p21_1 p21_5 v30_ v29_ p21_4 v34_ v35_ v36_ v37_ v38_ v28_ nn_b8 nn_b21_4 nn_b21_2 nn_b21_3 ne_b8_b21_4 ne_b8_b21_2 ne_b8_b21_3 (Ne.symm ne_b21_2_b21_4) (Ne.symm ne_b21_3_b21_4) ne_b21_2_b21_3 h_f0 (i_lt (by have o0 : (0 : Int32).toInt = 0 := rfl; omega)) (tin ht_ hk_ (by decide) (by decide)) (by rw [o1024]; omega) h_fu (i_ne (by rw [o1024]; omega)) hd_fe.symm (by rw [htt, hv_fs0]) (by rw [htt, hv_fu0, hd_ut]) (by rw [htt, hv_fa0]) ov21_0 ov21_1) (wd hw 194 rfl) (wd hw 78 rfl) (wd hw 190 rfl) (wd hw 191 rfl) (notFace_of_selects (args := #[]) (mvT hZ (wd hw 193 rfl))) (wd hw 193 rfl) (wd hw 192 rfl) (by decide) p21_0 (by decide) (by decide) (by rw [hml]; rfl) [(.int tt), (.long p4)] (lenOf pd_21 rfl) rfl (Nat.le_of_eq rfl) (hb hby at_281) rfl e33 (by decide) (by decide) fun T51 Lc51 v51 X51 hQ51 => ?_
        obtain ⟨ex51_0, rfl, Nq51, K51, p51_0, p51_1, p51_2, p51_3, p51_4, p51_5, p51_6, p51_7, p51_8, p51_9, p51_10, p51_11, p51_12⟩ := hQ51
        have old51 := old21.keep K51 (allS nn_b8 (allS nn_b21_4 (allS nn_b21_2 (allS nn_b21_3 all0))))
        have hk51 := Nat.le_trans hk21 K51.1
        have kp51 := kp21.trans K51 (allS (Or.inr sz_b8) (allS (Or.inr sz_b21_4) (allS (Or.inr sz_b21_2) (allS (Or.inr sz_b21_3) all0))))
        have N51 := Fr.app N33 Nq51
        show Go p e below _ (T51.setTop (mkF m 284 _ []))
        obtain ⟨fz, hd_fz⟩ : ∃ z, z = (fun i => if i = (tt).toNatClampNeg then (s0 - (mxI (0 : Int32) (fe - (0 : Int32)))) else fs i) := ⟨_, rfl⟩
        have v52_ : Ari Z T51.heap b21_3 kx21_3 kn fz := by rw [hd_fz]; exact p51_12
        have v53_ := v52_
        rw [hd_kn] at v53_
        have v53_ : Ari Z T51.heap b21_3 kx21_3 (2 : Int32) fz := v53_
        have hz0 : (fz ((0 : Int32)).toNatClampNeg) = (s0 - (mxI (0 : Int32) (fe - (0 : Int32)))) := by rw [hd_fz, htt]; exact if_pos rfl
        have hy0_ : ((fz ((0 : Int32)).toNatClampNeg).toInt64) = ln0 - rr := by rw [hz0]; exact rd_b hb_ln0 hs0 hb_fe rfl hk_rr
        have hz1 : (fz ((1 : Int32)).toNatClampNeg) = s1 := by rw [hd_fz, htt]; exact (if_neg (by decide)).trans hv_fs1
        have hy1_ : ((fz ((1 : Int32)).toNatClampNeg).toInt64) = ln1 := by rw [hz1]; exact hy1
        refine gs.aload X51.here hx (hb hby at_284) rfl rfl ?_
        refine gs.virt 0 X51 hx hZ hown (am12_3 l Z a0 hw [] u_1 aw0 u_0 kaw0 HW (b8) (b21_3) (kx21_3) (fz) T51.heap n0 old51 p51_5 v53_ (by decide) (by decide)) (wd hw 118 rfl) (wd hw 78 rfl) (wd hw 114 rfl) (wd hw 115 rfl) (notFace_of_selects (args := #[]) (mvT hZ (wd hw 117 rfl))) (wd hw 117 rfl) (wd hw 116 rfl) (by decide) p51_0 (by decide) (by decide) (by rw [hml]; rfl) [] (lenOf pd_7 rfl) rfl (Nat.le_of_eq rfl) (hb hby at_286) rfl rfl (by decide) (by decide) fun T54 Lc54 v54 X54 hQ54 => ?_
        obtain ⟨rfl, Nq54, e54⟩ := hQ54
        have N54 := Fr.app N51 Nq54
        show Go p e below _ (T54.setTop (mkF m 289 _ [(.long (((0 : Int64) + ((fz ((0 : Int32)).toNatClampNeg).toInt64)) + ((fz ((1 : Int32)).toNatClampNeg).toInt64)))]))
        refine gs.lload X54.here hx (hb hby at_289) rfl ?_
        refine gs.lload X54.here hx (hb hby at_291) rfl ?_
        refine gs.lsub X54.here hx (hb hby at_293) ?_
        refine Go.fin (fun t_ k_ => XS.lcmp X54.here hx rfl (hb hby at_294) rfl k_) ?_
        show Go p e below _ (T54.setTop (mkF m 295 _ [(.int (lcmpW (((0 : Int64) + ((fz ((0 : Int32)).toNatClampNeg).toInt64)) + ((fz ((1 : Int32)).toNatClampNeg).toInt64)) (((ln0 + ln1) + (0 : Int64)) - rr)))]))
        have hc295 : (lcmpW (((0 : Int64) + ((fz ((0 : Int32)).toNatClampNeg).toInt64)) + ((fz ((1 : Int32)).toNatClampNeg).toInt64)) (((ln0 + ln1) + (0 : Int64)) - rr)) = (0 : Int32) := by rw [hy0_, hy1_]; exact lw_of_eq (sum_2_0 _ _ 0 _)
        refine gs.ifNo X54.here hx (hb hby at_295) ((if0 _ _).trans (teq hc295).2) ?_
        refine gs.iconst 1 X54.here hx (hb hby at_298) rfl ?_
        refine gs.goto 303 X54.here hx (hb hby at_299) rfl ?_
        refine GoW.retZ X54 S0 (by rw [e54]; exact hk51) hx (t := .boolean) hret (by simp) hlk (hb hby at_303) (by rw [e54]; exact (hQ _ _ N54)) (by decide) (by decide)
    case neg =>
      have f55 := (f9.keep K21)
      have f56 := ((((((HF_ad3_InitialDomain_lowest.ext E2).keep K3 (ninS ne_ad3_b2 nin0)).keep K5 (ninS ne_ad3_b2 nin0)).keep K7 (ninS ne_ad3_b2 (ninS ne_ad3_b5_0 nin0))).ext E8).keep K21 (ninS ne_ad3_b8 nin0))
      have f57 := (f10.keep K21 (ninS ne_ad3_b8 nin0))
      have f58 := ((((((HF_ad3_InitialDomain_values.ext E2).keep K3 (ninS ne_ad3_b2 nin0)).keep K5 (ninS ne_ad3_b2 nin0)).keep K7 (ninS ne_ad3_b2 (ninS ne_ad3_b5_0 nin0))).ext E8).keep K21 (ninS ne_ad3_b8 nin0))
      refine gs.virt 0 X33 hx hZ hown (am26_3 l Z a0 hw [] u_1 aw0 u_0 kaw0 HW (b8) (tt) (p4) (ad3) (s0) (b21_1) (b21_2) (b21_3) (kx21_3) (kn) (fs) (kx21_2) (kx21_1) (fa) (fe) T21.heap n0 old21 f55 f56 f57 f58 p21_2 p21_3 p21_5 v34_ v36_ v38_ h_f0 (i_lt (by have o0 : (0 : Int32).toInt = 0 := rfl; omega)) (tin ht_ hk_ (by decide) (by decide)) hd_fe.symm (by rw [htt, hv_fs0]) (by rw [htt, hv_fa0]) ov21_1) (wd hw 194 rfl) (wd hw 78 rfl) (wd hw 190 rfl) (wd hw 191 rfl) (notFace_of_selects (args := #[]) (mvT hZ (wd hw 193 rfl))) (wd hw 193 rfl) (wd hw 192 rfl) (by decide) p21_0 (by decide) (by decide) (by rw [hml]; rfl) [(.int tt), (.long p4)] (lenOf pd_21 rfl) rfl (Nat.le_of_eq rfl) (hb hby at_281) rfl e33 (by decide) (by decide) fun T59 Lc59 v59 X59 hQ59 => ?_
      obtain ⟨rfl, Nq59, e59⟩ := hQ59
      have N59 := Fr.app N33 Nq59
      show Go p e below _ (T59.setTop (mkF m 284 _ []))
      obtain ⟨fz, hd_fz⟩ : ∃ z, z = fs := ⟨_, rfl⟩
      have v60_ : Ari Z T21.heap b21_3 kx21_3 kn fz := by rw [hd_fz]; exact v34_
      have v61_ := v60_
      rw [hd_kn] at v61_
      have v61_ : Ari Z T21.heap b21_3 kx21_3 (2 : Int32) fz := v61_
      have hz0 : (fz ((0 : Int32)).toNatClampNeg) = s0 := by rw [hd_fz]; exact hv_fs0
      have hy0_ : ((fz ((0 : Int32)).toNatClampNeg).toInt64) = ln0 - rr := by rw [hz0]; exact (to64 hs0).trans (rd_a hb_ln0 hb_fe h_f0 hk_rr)
      have hz1 : (fz ((1 : Int32)).toNatClampNeg) = s1 := by rw [hd_fz]; exact hv_fs1
      have hy1_ : ((fz ((1 : Int32)).toNatClampNeg).toInt64) = ln1 := by rw [hz1]; exact hy1
      refine gs.aload X59.here hx (hb hby at_284) rfl rfl ?_
      refine gs.virt 0 X59 hx hZ hown (am12_3 l Z a0 hw [] u_1 aw0 u_0 kaw0 HW (b8) (b21_3) (kx21_3) (fz) T21.heap n0 old21 p21_5 v61_ (by decide) (by decide)) (wd hw 118 rfl) (wd hw 78 rfl) (wd hw 114 rfl) (wd hw 115 rfl) (notFace_of_selects (args := #[]) (mvT hZ (wd hw 117 rfl))) (wd hw 117 rfl) (wd hw 116 rfl) (by decide) p21_0 (by decide) (by decide) (by rw [hml]; rfl) [] (lenOf pd_7 rfl) rfl (Nat.le_of_eq rfl) (hb hby at_286) rfl e59 (by decide) (by decide) fun T62 Lc62 v62 X62 hQ62 => ?_
      obtain ⟨rfl, Nq62, e62⟩ := hQ62
      have N62 := Fr.app N59 Nq62
      show Go p e below _ (T62.setTop (mkF m 289 _ [(.long (((0 : Int64) + ((fz ((0 : Int32)).toNatClampNeg).toInt64)) + ((fz ((1 : Int32)).toNatClampNeg).toInt64)))]))
      refine gs.lload X62.here hx (hb hby at_289) rfl ?_
      refine gs.lload X62.here hx (hb hby at_291) rfl ?_
      refine gs.lsub X62.here hx (hb hby at_293) ?_
      refine Go.fin (fun t_ k_ => XS.lcmp X62.here hx rfl (hb hby at_294) rfl k_) ?_
      show Go p e below _ (T62.setTop (mkF m 295 _ [(.int (lcmpW (((0 : Int64) + ((fz ((0 : Int32)).toNatClampNeg).toInt64)) + ((fz ((1 : Int32)).toNatClampNeg).toInt64)) (((ln0 + ln1) + (0 : Int64)) - rr)))]))
      have hc295 : (lcmpW (((0 : Int64) + ((fz ((0 : Int32)).toNatClampNeg).toInt64)) + ((fz ((1 : Int32)).toNatClampNeg).toInt64)) (((ln0 + ln1) + (0 : Int64)) - rr)) = (0 : Int32) := by rw [hy0_, hy1_]; exact lw_of_eq (sum_2_0 _ _ 0 _)
      refine gs.ifNo X62.here hx (hb hby at_295) ((if0 _ _).trans (teq hc295).2) ?_
      refine gs.iconst 1 X62.here hx (hb hby at_298) rfl ?_
      refine gs.goto 303 X62.here hx (hb hby at_299) rfl ?_
      refine GoW.retZ X62 S0 (by rw [e62]; exact hk21) hx (t := .boolean) hret (by simp) hlk (hb hby at_303) (by rw [e62]; exact (hQ _ _ N62)) (by decide) (by decide)
  next =>
    show Go p e below _ (T31.setTop (mkF m 239 #[.val (.int lf0), .val (.int lf1), .val (.int lf2), .val (.long p4), .second, .val (.int p5), .val (.long ln0), .second, .val (.long ln1), .second, .val (.long lf10), .second, .val (.ref ld12), .val (.ref ld13), .val (.ref ld14), .val (.ref ad1), .val (.ref ad2), .val (.ref ld17), .val (.int (2 : Int32)), .val (.ref b2), .val (.ref b8), .val (.long ((ln0 + ln1) + (0 : Int64))), .second, .val (.int (1 : Int32)), .unset, .unset, .unset, .unset] []))
    refine gs.iload X31.here hx (hb hby at_239) rfl ?_
    have hc241 : ¬ ((1 : Int32) = (0 : Int32)) := by decide
    refine gs.ifYes 249 X31.here hx (hb hby at_241) ((if0 _ _).trans (feq hc241).2) rfl ?_
    refine gs.iload X31.here hx (hb hby at_249) rfl ?_
    refine gs.iconst 1 X31.here hx (hb hby at_251) rfl ?_
    have hc252 : (1 : Int32) = (1 : Int32) := by decide
    refine gs.icmpNo X31.here hx (hb hby at_252) (teq hc252).2 ?_
    refine gs.lload X31.here hx (hb hby at_255) rfl ?_
    refine gs.goto 262 X31.here hx (hb hby at_257) rfl ?_
    refine gs.lstore X31.here hx (hb hby at_262) (l' := #[.val (.int lf0), .val (.int lf1), .val (.int lf2), .val (.long p4), .second, .val (.int p5), .val (.long ln0), .second, .val (.long ln1), .second, .val (.long lf10), .second, .val (.ref ld12), .val (.ref ld13), .val (.ref ld14), .val (.ref ad1), .val (.ref ad2), .val (.ref ld17), .val (.int (2 : Int32)), .val (.ref b2), .val (.ref b8), .val (.long ((ln0 + ln1) + (0 : Int64))), .second, .val (.int (1 : Int32)), .val (.long ln1), .second, .unset, .unset]) rfl ?_
    refine gs.lload X31.here hx (hb hby at_264) rfl ?_
    refine Go.fin (fun t_ k_ => XS.lconst X31.here hx rfl (hb hby at_266) k_) ?_
    show Go p e below _ (T31.setTop (mkF m 267 _ [(.long (0 : Int64)), (.long ln1)]))
    refine gs.lloadN X31.here hx (hb hby at_267) rfl ?_
    refine gs.stat 2 X31 hx hZ hown (rm24 l Z a0 hw [] u_1 aw0 u_0 kaw0 HW (0 : Int64) p4 (mxL (0 : Int64) p4) T21.heap n0 old21 rfl) (wd hw 186 rfl) (wd hw 143 rfl) (wd hw 184 rfl) (wd hw 185 rfl) (by decide) (by decide) (by decide) (by rw [hml]; rfl) [(.long (0 : Int64)), (.long p4)] (lenOf pd_16 rfl) rfl (Nat.le_of_eq rfl) (hb hby at_268) rfl e31 (by decide) (by decide) fun T63 Lc63 v63 X63 hQ63 => ?_
    obtain ⟨rfl, Nq63, e63⟩ := hQ63
    have N63 := Fr.app N31 Nq63
    show Go p e below _ (T63.setTop (mkF m 271 _ [(.long (mxL (0 : Int64) p4)), (.long ln1)]))
    refine gs.stat 0 X63 hx hZ hown (rm25 l Z a0 hw [] u_1 aw0 u_0 kaw0 HW ln1 (mxL (0 : Int64) p4) (mnL ln1 (mxL (0 : Int64) p4)) T21.heap n0 old21 rfl) (wd hw 189 rfl) (wd hw 143 rfl) (wd hw 187 rfl) (wd hw 188 rfl) (by decide) (by decide) (by decide) (by rw [hml]; rfl) [(.long ln1), (.long (mxL (0 : Int64) p4))] (lenOf pd_16 rfl) rfl (Nat.le_of_eq rfl) (hb hby at_271) rfl e63 (by decide) (by decide) fun T64 Lc64 v64 X64 hQ64 => ?_
    obtain ⟨rfl, Nq64, e64⟩ := hQ64
    have N64 := Fr.app N63 Nq64
    show Go p e below _ (T64.setTop (mkF m 274 _ [(.long (mnL ln1 (mxL (0 : Int64) p4)))]))
    refine gs.lstore X64.here hx (hb hby at_274) (l' := #[.val (.int lf0), .val (.int lf1), .val (.int lf2), .val (.long p4), .second, .val (.int p5), .val (.long ln0), .second, .val (.long ln1), .second, .val (.long lf10), .second, .val (.ref ld12), .val (.ref ld13), .val (.ref ld14), .val (.ref ad1), .val (.ref ad2), .val (.ref ld17), .val (.int (2 : Int32)), .val (.ref b2), .val (.ref b8), .val (.long ((ln0 + ln1) + (0 : Int64))), .second, .val (.int (1 : Int32)), .val (.long ln1), .second, .val (.long (mnL ln1 (mxL (0 : Int64) p4))), .second]) rfl ?_
    generalize hk_rr : (mnL ln1 (mxL (0 : Int64) p4)) = rr
    show Go p e below _ (T64.setTop (mkF m 276 #[.val (.int lf0), .val (.int lf1), .val (.int lf2), .val (.long p4), .second, .val (.int p5), .val (.long ln0), .second, .val (.long ln1), .second, .val (.long lf10), .second, .val (.ref ld12), .val (.ref ld13), .val (.ref ld14), .val (.ref ad1), .val (.ref ad2), .val (.ref ld17), .val (.int (2 : Int32)), .val (.ref b2), .val (.ref b8), .val (.long ((ln0 + ln1) + (0 : Int64))), .second, .val (.int (1 : Int32)), .val (.long ln1), .second, .val (.long rr), .second] []))
    refine gs.aload X64.here hx (hb hby at_276) rfl rfl ?_
    refine gs.iload X64.here hx (hb hby at_278) rfl ?_
    refine gs.lloadN X64.here hx (hb hby at_280) rfl ?_
    refine (fun H_ => H_ (1 : Int32) rfl : (∀ tt : Int32, tt = (1 : Int32) → Go p e below (Fin2 s below Q room_1.cells room_1.slots) (T64.setTop (mkF m 281 #[.val (.int lf0), .val (.int lf1), .val (.int lf2), .val (.long p4), .second, .val (.int p5), .val (.long ln0), .second, .val (.long ln1), .second, .val (.long lf10), .second, .val (.ref ld12), .val (.ref ld13), .val (.ref ld14), .val (.ref ad1), .val (.ref ad2), .val (.ref ld17), .val (.int (2 : Int32)), .val (.ref b2), .val (.ref b8), .val (.long ((ln0 + ln1) + (0 : Int64))), .second, .val (.int (1 : Int32)), .val (.long ln1), .second, .val (.long rr), .second] [(.long p4), (.int tt), (.ref b8)]))) → _) ?_
    intro tt htt
    obtain ⟨kn, hd_kn⟩ : ∃ z, z = (2 : Int32) := ⟨_, rfl⟩
    have ht_ : tt.toInt = 1 := by rw [htt]; rfl
    have hk_ : kn.toInt = 2 := by rw [hd_kn]; rfl
    have v65_ : Ari Z T21.heap b21_3 kx21_3 kn fs := by rw [hd_kn]; exact g22_
    have v66_ : Ari Z T21.heap b21_5 kx21_5 kn fu := by rw [hd_kn]; exact g23_
    have v67_ : Ari Z T21.heap b21_2 kx21_2 kn (fun _ => (0 : Int32)) := by rw [hd_kn]; exact g24_
    have v68_ : Arw Z T21.heap b21_0 kx21_0 (.array .long) kn (fun _ => .null) := by rw [hd_kn]; exact g25_
    have v69_ : Ara Z T21.heap b21_1 kx21_1 (.object "com/example/monarc/monarc/InitialDomain") kn fa := by rw [hd_kn]; exact g26_
    obtain ⟨fe, hd_fe⟩ : ∃ z, z = ((mnL (s1.toInt64) (mxL (0 : Int64) ((mxL (-2147483648 : Int64) (mnL p4 (2147483648 : Int64))) - (0 : Int64)))).toInt32) := ⟨_, rfl⟩
    have hb_fe : fe.toInt = min ln1.toInt (max 0 p4.toInt) := by rw [hd_fe]; exact fe_bd hb_ln1 hs1
    obtain ⟨ut, hd_ut⟩ : ∃ z, z = (s1 - (1 : Int32)) := ⟨_, rfl⟩
    have hb_ut := up_eq hb_ln1 hs1 hd_ut
    by_cases h_f0 : (0 : Int32) < fe
    case pos =>
      by_cases h_fu : ut < fe
      case pos =>
        have f70 := (f11.keep K21)
        have f71 := ((((((HF_ad4_InitialDomain_lowest.ext E2).keep K3 (ninS ne_ad4_b2 nin0)).keep K5 (ninS ne_ad4_b2 nin0)).keep K7 (ninS ne_ad4_b2 (ninS ne_ad4_b5_0 nin0))).ext E8).keep K21 (ninS ne_ad4_b8 nin0))
        have f72 := (f12.keep K21 (ninS ne_ad4_b8 nin0))
        have f73 := ((((((HF_ad4_InitialDomain_values.ext E2).keep K3 (ninS ne_ad4_b2 nin0)).keep K5 (ninS ne_ad4_b2 nin0)).keep K7 (ninS ne_ad4_b2 (ninS ne_ad4_b5_0 nin0))).ext E8).keep K21 (ninS ne_ad4_b8 nin0))
        have ne_b8_b21_4 : b8 ≠ b21_4 := Nat.ne_of_lt (Nat.lt_of_lt_of_le A8.lt gb_b21_4)
        have ne_b8_b21_2 : b8 ≠ b21_2 := Nat.ne_of_lt (Nat.lt_of_lt_of_le A8.lt gb_b21_2)
        have ne_b8_b21_3 : b8 ≠ b21_3 := Nat.ne_of_lt (Nat.lt_of_lt_of_le A8.lt gb_b21_3)
        refine gs.virt 0 X64 hx hZ hown (am26_1 l Z a0 hw [] u_1 aw0 u_0 kaw0 HW (b8) (tt) (p4) (ad4) (s1) (b21_4) (b21_1) (b21_2) (b21_5) (b21_0) (b21_3) (w0) (t0) (kx21_3) (kn) (fs) (kx21_5) (fu) (kx21_2) (kx21_0) (kx21_1) (fa) (kx21_4) (ft) (fe) (ut) T21.heap n0 old21 f70 f71 f72 f73 p21_0 p21_6 p21_2 p21_3 p21_8 p21_1 p21_5 v30_ v29_ p21_4 v65_ v66_ v67_ v68_ v69_ v28_ nn_b8 nn_b21_4 nn_b21_2 nn_b21_3 ne_b8_b21_4 ne_b8_b21_2 ne_b8_b21_3 (Ne.symm ne_b21_2_b21_4) (Ne.symm ne_b21_3_b21_4) ne_b21_2_b21_3 h_f0 (i_lt (by have o0 : (0 : Int32).toInt = 0 := rfl; omega)) (tin ht_ hk_ (by decide) (by decide)) (by rw [o1024]; omega) h_fu (i_ne (by rw [o1024]; omega)) hd_fe.symm (by rw [htt, hv_fs1]) (by rw [htt, hv_fu1, hd_ut]) (by rw [htt, hv_fa1]) ov21_0 ov21_1) (wd hw 194 rfl) (wd hw 78 rfl) (wd hw 190 rfl) (wd hw 191 rfl) (notFace_of_selects (args := #[]) (mvT hZ (wd hw 193 rfl))) (wd hw 193 rfl) (wd hw 192 rfl) (by decide) p21_0 (by decide) (by decide) (by rw [hml]; rfl) [(.int tt), (.long p4)] (lenOf pd_21 rfl) rfl (Nat.le_of_eq rfl) (hb hby at_281) rfl e64 (by decide) (by decide) fun T74 Lc74 v74 X74 hQ74 => ?_
        obtain ⟨ex74_0, rfl, Nq74, K74, p74_0, p74_1, p74_2, p74_3, p74_4, p74_5, p74_6, p74_7, p74_8, p74_9, p74_10, p74_11, p74_12⟩ := hQ74
        have old74 := old21.keep K74 (allS nn_b8 (allS nn_b21_4 (allS nn_b21_2 (allS nn_b21_3 all0))))
        have hk74 := Nat.le_trans hk21 K74.1
        have kp74 := kp21.trans K74 (allS (Or.inr sz_b8) (allS (Or.inr sz_b21_4) (allS (Or.inr sz_b21_2) (allS (Or.inr sz_b21_3) all0))))
        have N74 := Fr.app N64 Nq74
        show Go p e below _ (T74.setTop (mkF m 284 _ []))
        obtain ⟨fz, hd_fz⟩ : ∃ z, z = (fun i => if i = (tt).toNatClampNeg then (s1 - (mxI (0 : Int32) ((ut + (1 : Int32)) - (0 : Int32)))) else fs i) := ⟨_, rfl⟩
        have v75_ : Ari Z T74.heap b21_3 kx21_3 kn fz := by rw [hd_fz]; exact p74_12
        have v76_ := v75_
        rw [hd_kn] at v76_
        have v76_ : Ari Z T74.heap b21_3 kx21_3 (2 : Int32) fz := v76_
        have hz0 : (fz ((0 : Int32)).toNatClampNeg) = s0 := by rw [hd_fz, htt]; exact (if_neg (by decide)).trans hv_fs0
        have hy0_ : ((fz ((0 : Int32)).toNatClampNeg).toInt64) = ln0 := by rw [hz0]; exact hy0
        have hz1 : (fz ((1 : Int32)).toNatClampNeg) = (s1 - (mxI (0 : Int32) ((ut + (1 : Int32)) - (0 : Int32)))) := by rw [hd_fz, htt]; exact if_pos rfl
        have hy1_ : ((fz ((1 : Int32)).toNatClampNeg).toInt64) = ln1 - rr := by rw [hz1]; exact rd_b hb_ln1 hs1 hb_fe (up_one hb_ln1 hb_ut hb_fe h_fu) hk_rr
        refine gs.aload X74.here hx (hb hby at_284) rfl rfl ?_
        refine gs.virt 0 X74 hx hZ hown (am12_3 l Z a0 hw [] u_1 aw0 u_0 kaw0 HW (b8) (b21_3) (kx21_3) (fz) T74.heap n0 old74 p74_5 v76_ (by decide) (by decide)) (wd hw 118 rfl) (wd hw 78 rfl) (wd hw 114 rfl) (wd hw 115 rfl) (notFace_of_selects (args := #[]) (mvT hZ (wd hw 117 rfl))) (wd hw 117 rfl) (wd hw 116 rfl) (by decide) p74_0 (by decide) (by decide) (by rw [hml]; rfl) [] (lenOf pd_7 rfl) rfl (Nat.le_of_eq rfl) (hb hby at_286) rfl rfl (by decide) (by decide) fun T77 Lc77 v77 X77 hQ77 => ?_
        obtain ⟨rfl, Nq77, e77⟩ := hQ77
        have N77 := Fr.app N74 Nq77
        show Go p e below _ (T77.setTop (mkF m 289 _ [(.long (((0 : Int64) + ((fz ((0 : Int32)).toNatClampNeg).toInt64)) + ((fz ((1 : Int32)).toNatClampNeg).toInt64)))]))
        refine gs.lload X77.here hx (hb hby at_289) rfl ?_
        refine gs.lload X77.here hx (hb hby at_291) rfl ?_
        refine gs.lsub X77.here hx (hb hby at_293) ?_
        refine Go.fin (fun t_ k_ => XS.lcmp X77.here hx rfl (hb hby at_294) rfl k_) ?_
        show Go p e below _ (T77.setTop (mkF m 295 _ [(.int (lcmpW (((0 : Int64) + ((fz ((0 : Int32)).toNatClampNeg).toInt64)) + ((fz ((1 : Int32)).toNatClampNeg).toInt64)) (((ln0 + ln1) + (0 : Int64)) - rr)))]))
        have hc295 : (lcmpW (((0 : Int64) + ((fz ((0 : Int32)).toNatClampNeg).toInt64)) + ((fz ((1 : Int32)).toNatClampNeg).toInt64)) (((ln0 + ln1) + (0 : Int64)) - rr)) = (0 : Int32) := by rw [hy0_, hy1_]; exact lw_of_eq (sum_2_1 _ _ 0 _)
        refine gs.ifNo X77.here hx (hb hby at_295) ((if0 _ _).trans (teq hc295).2) ?_
        refine gs.iconst 1 X77.here hx (hb hby at_298) rfl ?_
        refine gs.goto 303 X77.here hx (hb hby at_299) rfl ?_
        refine GoW.retZ X77 S0 (by rw [e77]; exact hk74) hx (t := .boolean) hret (by simp) hlk (hb hby at_303) (by rw [e77]; exact (hQ _ _ N77)) (by decide) (by decide)
      case neg =>
        have f78 := (f11.keep K21)
        have f79 := ((((((HF_ad4_InitialDomain_lowest.ext E2).keep K3 (ninS ne_ad4_b2 nin0)).keep K5 (ninS ne_ad4_b2 nin0)).keep K7 (ninS ne_ad4_b2 (ninS ne_ad4_b5_0 nin0))).ext E8).keep K21 (ninS ne_ad4_b8 nin0))
        have f80 := (f12.keep K21 (ninS ne_ad4_b8 nin0))
        have f81 := ((((((HF_ad4_InitialDomain_values.ext E2).keep K3 (ninS ne_ad4_b2 nin0)).keep K5 (ninS ne_ad4_b2 nin0)).keep K7 (ninS ne_ad4_b2 (ninS ne_ad4_b5_0 nin0))).ext E8).keep K21 (ninS ne_ad4_b8 nin0))
        have ne_b8_b21_4 : b8 ≠ b21_4 := Nat.ne_of_lt (Nat.lt_of_lt_of_le A8.lt gb_b21_4)
        have ne_b8_b21_2 : b8 ≠ b21_2 := Nat.ne_of_lt (Nat.lt_of_lt_of_le A8.lt gb_b21_2)
        have ne_b8_b21_3 : b8 ≠ b21_3 := Nat.ne_of_lt (Nat.lt_of_lt_of_le A8.lt gb_b21_3)
        refine gs.virt 0 X64 hx hZ hown (am26_2 l Z a0 hw [] u_1 aw0 u_0 kaw0 HW (b8) (tt) (p4) (ad4) (s1) (b21_4) (b21_1) (b21_2) (b21_5) (b21_0) (b21_3) (w0) (t0) (kx21_3) (kn) (fs) (kx21_5) (fu) (kx21_2) (kx21_0) (kx21_1) (fa) (kx21_4) (ft) (fe) (ut) T21.heap n0 old21 f78 f79 f80 f81 p21_0 p21_6 p21_2 p21_3 p21_8 p21_1 p21_5 v30_ v29_ p21_4 v65_ v66_ v67_ v68_ v69_ v28_ nn_b8 nn_b21_4 nn_b21_2 nn_b21_3 ne_b8_b21_4 ne_b8_b21_2 ne_b8_b21_3 (Ne.symm ne_b21_2_b21_4) (Ne.symm ne_b21_3_b21_4) ne_b21_2_b21_3 h_f0 (i_lt (by have o0 : (0 : Int32).toInt = 0 := rfl; omega)) (tin ht_ hk_ (by decide) (by decide)) (by rw [o1024]; omega) h_fu (i_ne (by rw [o1024]; omega)) hd_fe.symm (by rw [htt, hv_fs1]) (by rw [htt, hv_fu1, hd_ut]) (by rw [htt, hv_fa1]) ov21_0 ov21_1) (wd hw 194 rfl) (wd hw 78 rfl) (wd hw 190 rfl) (wd hw 191 rfl) (notFace_of_selects (args := #[]) (mvT hZ (wd hw 193 rfl))) (wd hw 193 rfl) (wd hw 192 rfl) (by decide) p21_0 (by decide) (by decide) (by rw [hml]; rfl) [(.int tt), (.long p4)] (lenOf pd_21 rfl) rfl (Nat.le_of_eq rfl) (hb hby at_281) rfl e64 (by decide) (by decide) fun T82 Lc82 v82 X82 hQ82 => ?_
        obtain ⟨ex82_0, rfl, Nq82, K82, p82_0, p82_1, p82_2, p82_3, p82_4, p82_5, p82_6, p82_7, p82_8, p82_9, p82_10, p82_11, p82_12⟩ := hQ82
        have old82 := old21.keep K82 (allS nn_b8 (allS nn_b21_4 (allS nn_b21_2 (allS nn_b21_3 all0))))
        have hk82 := Nat.le_trans hk21 K82.1
        have kp82 := kp21.trans K82 (allS (Or.inr sz_b8) (allS (Or.inr sz_b21_4) (allS (Or.inr sz_b21_2) (allS (Or.inr sz_b21_3) all0))))
        have N82 := Fr.app N64 Nq82
        show Go p e below _ (T82.setTop (mkF m 284 _ []))
        obtain ⟨fz, hd_fz⟩ : ∃ z, z = (fun i => if i = (tt).toNatClampNeg then (s1 - (mxI (0 : Int32) (fe - (0 : Int32)))) else fs i) := ⟨_, rfl⟩
        have v83_ : Ari Z T82.heap b21_3 kx21_3 kn fz := by rw [hd_fz]; exact p82_12
        have v84_ := v83_
        rw [hd_kn] at v84_
        have v84_ : Ari Z T82.heap b21_3 kx21_3 (2 : Int32) fz := v84_
        have hz0 : (fz ((0 : Int32)).toNatClampNeg) = s0 := by rw [hd_fz, htt]; exact (if_neg (by decide)).trans hv_fs0
        have hy0_ : ((fz ((0 : Int32)).toNatClampNeg).toInt64) = ln0 := by rw [hz0]; exact hy0
        have hz1 : (fz ((1 : Int32)).toNatClampNeg) = (s1 - (mxI (0 : Int32) (fe - (0 : Int32)))) := by rw [hd_fz, htt]; exact if_pos rfl
        have hy1_ : ((fz ((1 : Int32)).toNatClampNeg).toInt64) = ln1 - rr := by rw [hz1]; exact rd_b hb_ln1 hs1 hb_fe rfl hk_rr
        refine gs.aload X82.here hx (hb hby at_284) rfl rfl ?_
        refine gs.virt 0 X82 hx hZ hown (am12_3 l Z a0 hw [] u_1 aw0 u_0 kaw0 HW (b8) (b21_3) (kx21_3) (fz) T82.heap n0 old82 p82_5 v84_ (by decide) (by decide)) (wd hw 118 rfl) (wd hw 78 rfl) (wd hw 114 rfl) (wd hw 115 rfl) (notFace_of_selects (args := #[]) (mvT hZ (wd hw 117 rfl))) (wd hw 117 rfl) (wd hw 116 rfl) (by decide) p82_0 (by decide) (by decide) (by rw [hml]; rfl) [] (lenOf pd_7 rfl) rfl (Nat.le_of_eq rfl) (hb hby at_286) rfl rfl (by decide) (by decide) fun T85 Lc85 v85 X85 hQ85 => ?_
        obtain ⟨rfl, Nq85, e85⟩ := hQ85
        have N85 := Fr.app N82 Nq85
        show Go p e below _ (T85.setTop (mkF m 289 _ [(.long (((0 : Int64) + ((fz ((0 : Int32)).toNatClampNeg).toInt64)) + ((fz ((1 : Int32)).toNatClampNeg).toInt64)))]))
        refine gs.lload X85.here hx (hb hby at_289) rfl ?_
        refine gs.lload X85.here hx (hb hby at_291) rfl ?_
        refine gs.lsub X85.here hx (hb hby at_293) ?_
        refine Go.fin (fun t_ k_ => XS.lcmp X85.here hx rfl (hb hby at_294) rfl k_) ?_
        show Go p e below _ (T85.setTop (mkF m 295 _ [(.int (lcmpW (((0 : Int64) + ((fz ((0 : Int32)).toNatClampNeg).toInt64)) + ((fz ((1 : Int32)).toNatClampNeg).toInt64)) (((ln0 + ln1) + (0 : Int64)) - rr)))]))
        have hc295 : (lcmpW (((0 : Int64) + ((fz ((0 : Int32)).toNatClampNeg).toInt64)) + ((fz ((1 : Int32)).toNatClampNeg).toInt64)) (((ln0 + ln1) + (0 : Int64)) - rr)) = (0 : Int32) := by rw [hy0_, hy1_]; exact lw_of_eq (sum_2_1 _ _ 0 _)
        refine gs.ifNo X85.here hx (hb hby at_295) ((if0 _ _).trans (teq hc295).2) ?_
        refine gs.iconst 1 X85.here hx (hb hby at_298) rfl ?_
        refine gs.goto 303 X85.here hx (hb hby at_299) rfl ?_
        refine GoW.retZ X85 S0 (by rw [e85]; exact hk82) hx (t := .boolean) hret (by simp) hlk (hb hby at_303) (by rw [e85]; exact (hQ _ _ N85)) (by decide) (by decide)
    case neg =>
      have f86 := (f11.keep K21)
      have f87 := ((((((HF_ad4_InitialDomain_lowest.ext E2).keep K3 (ninS ne_ad4_b2 nin0)).keep K5 (ninS ne_ad4_b2 nin0)).keep K7 (ninS ne_ad4_b2 (ninS ne_ad4_b5_0 nin0))).ext E8).keep K21 (ninS ne_ad4_b8 nin0))
      have f88 := (f12.keep K21 (ninS ne_ad4_b8 nin0))
      have f89 := ((((((HF_ad4_InitialDomain_values.ext E2).keep K3 (ninS ne_ad4_b2 nin0)).keep K5 (ninS ne_ad4_b2 nin0)).keep K7 (ninS ne_ad4_b2 (ninS ne_ad4_b5_0 nin0))).ext E8).keep K21 (ninS ne_ad4_b8 nin0))
      refine gs.virt 0 X64 hx hZ hown (am26_3 l Z a0 hw [] u_1 aw0 u_0 kaw0 HW (b8) (tt) (p4) (ad4) (s1) (b21_1) (b21_2) (b21_3) (kx21_3) (kn) (fs) (kx21_2) (kx21_1) (fa) (fe) T21.heap n0 old21 f86 f87 f88 f89 p21_2 p21_3 p21_5 v65_ v67_ v69_ h_f0 (i_lt (by have o0 : (0 : Int32).toInt = 0 := rfl; omega)) (tin ht_ hk_ (by decide) (by decide)) hd_fe.symm (by rw [htt, hv_fs1]) (by rw [htt, hv_fa1]) ov21_1) (wd hw 194 rfl) (wd hw 78 rfl) (wd hw 190 rfl) (wd hw 191 rfl) (notFace_of_selects (args := #[]) (mvT hZ (wd hw 193 rfl))) (wd hw 193 rfl) (wd hw 192 rfl) (by decide) p21_0 (by decide) (by decide) (by rw [hml]; rfl) [(.int tt), (.long p4)] (lenOf pd_21 rfl) rfl (Nat.le_of_eq rfl) (hb hby at_281) rfl e64 (by decide) (by decide) fun T90 Lc90 v90 X90 hQ90 => ?_
      obtain ⟨rfl, Nq90, e90⟩ := hQ90
      have N90 := Fr.app N64 Nq90
      show Go p e below _ (T90.setTop (mkF m 284 _ []))
      obtain ⟨fz, hd_fz⟩ : ∃ z, z = fs := ⟨_, rfl⟩
      have v91_ : Ari Z T21.heap b21_3 kx21_3 kn fz := by rw [hd_fz]; exact v65_
      have v92_ := v91_
      rw [hd_kn] at v92_
      have v92_ : Ari Z T21.heap b21_3 kx21_3 (2 : Int32) fz := v92_
      have hz0 : (fz ((0 : Int32)).toNatClampNeg) = s0 := by rw [hd_fz]; exact hv_fs0
      have hy0_ : ((fz ((0 : Int32)).toNatClampNeg).toInt64) = ln0 := by rw [hz0]; exact hy0
      have hz1 : (fz ((1 : Int32)).toNatClampNeg) = s1 := by rw [hd_fz]; exact hv_fs1
      have hy1_ : ((fz ((1 : Int32)).toNatClampNeg).toInt64) = ln1 - rr := by rw [hz1]; exact (to64 hs1).trans (rd_a hb_ln1 hb_fe h_f0 hk_rr)
      refine gs.aload X90.here hx (hb hby at_284) rfl rfl ?_
      refine gs.virt 0 X90 hx hZ hown (am12_3 l Z a0 hw [] u_1 aw0 u_0 kaw0 HW (b8) (b21_3) (kx21_3) (fz) T21.heap n0 old21 p21_5 v92_ (by decide) (by decide)) (wd hw 118 rfl) (wd hw 78 rfl) (wd hw 114 rfl) (wd hw 115 rfl) (notFace_of_selects (args := #[]) (mvT hZ (wd hw 117 rfl))) (wd hw 117 rfl) (wd hw 116 rfl) (by decide) p21_0 (by decide) (by decide) (by rw [hml]; rfl) [] (lenOf pd_7 rfl) rfl (Nat.le_of_eq rfl) (hb hby at_286) rfl e90 (by decide) (by decide) fun T93 Lc93 v93 X93 hQ93 => ?_
      obtain ⟨rfl, Nq93, e93⟩ := hQ93
      have N93 := Fr.app N90 Nq93
      show Go p e below _ (T93.setTop (mkF m 289 _ [(.long (((0 : Int64) + ((fz ((0 : Int32)).toNatClampNeg).toInt64)) + ((fz ((1 : Int32)).toNatClampNeg).toInt64)))]))
      refine gs.lload X93.here hx (hb hby at_289) rfl ?_
      refine gs.lload X93.here hx (hb hby at_291) rfl ?_
      refine gs.lsub X93.here hx (hb hby at_293) ?_
      refine Go.fin (fun t_ k_ => XS.lcmp X93.here hx rfl (hb hby at_294) rfl k_) ?_
      show Go p e below _ (T93.setTop (mkF m 295 _ [(.int (lcmpW (((0 : Int64) + ((fz ((0 : Int32)).toNatClampNeg).toInt64)) + ((fz ((1 : Int32)).toNatClampNeg).toInt64)) (((ln0 + ln1) + (0 : Int64)) - rr)))]))
      have hc295 : (lcmpW (((0 : Int64) + ((fz ((0 : Int32)).toNatClampNeg).toInt64)) + ((fz ((1 : Int32)).toNatClampNeg).toInt64)) (((ln0 + ln1) + (0 : Int64)) - rr)) = (0 : Int32) := by rw [hy0_, hy1_]; exact lw_of_eq (sum_2_1 _ _ 0 _)
      refine gs.ifNo X93.here hx (hb hby at_295) ((if0 _ _).trans (teq hc295).2) ?_
      refine gs.iconst 1 X93.here hx (hb hby at_298) rfl ?_
      refine gs.goto 303 X93.here hx (hb hby at_299) rfl ?_
      refine GoW.retZ X93 S0 (by rw [e93]; exact hk21) hx (t := .boolean) hret (by simp) hlk (hb hby at_303) (by rw [e93]; exact (hQ _ _ N93)) (by decide) (by decide)
def Q_am14_3 (Z : State) (u_1 : Addr) (aw0 : Addr) (u_0 : ClassId) (kaw0 : ClassId) (ad1 : Addr) (ad2 : Addr) (ad3 : Addr) (ad7 : Addr) (ad8 : Addr) (kc1 : ClassId) (h0 : Heap) (n0 : Nat) (v : Option Value) (h : Heap) (L : List Loc) : Prop := v = none ∧ Fr n0 L ∧ Keep h0 h [ad1, ad3] ∧ (Exa Z h ad1 "java/util/ArrayList") ∧ (Fld Z h ad1 "java/util/AbstractList" "modCount" "I" (.int (3 : Int32))) ∧ (Fld Z h ad1 "java/util/ArrayList" "elementData" "[Ljava/lang/Object;" (.ref ad3)) ∧ (Fld Z h ad1 "java/util/ArrayList" "size" "I" (.int (3 : Int32))) ∧ (Arv Z h ad3 kc1 (.object "java/lang/Object") (10 : Int32) [(.ref ad7), (.ref ad8), (.ref ad2), .null, .null, .null, .null, .null, .null, .null] .null)
set_option maxRecDepth 65536 in
set_option maxHeartbeats 40000000 in
theorem am14_3 (l : Launch) (Z : State) (a0 : Array Value) (hw : ∀ d ∈ tables_1, d.before a0 Z = true) (ws : List Jvm.Cond) (u_1 : Addr) (aw0 : Addr) (u_0 : ClassId) (kaw0 : ClassId) (HW : Wd Z u_1 aw0 u_0 kaw0) (ad1 : Addr) (ad2 : Addr) (ad3 : Addr) (ad7 : Addr) (ad8 : Addr) (kc1 : ClassId) (h0 : Heap) (n0 : Nat) (Ol : Old Z n0 h0) (HE_ad2 : Exa Z h0 ad2 "com/example/monarc/monarc/Variable") (HE_ad1 : Exa Z h0 ad1 "java/util/ArrayList") (HF_ad1_AbstractList_modCount : Fld Z h0 ad1 "java/util/AbstractList" "modCount" "I" (.int (3 : Int32))) (HF_ad1_ArrayList_elementData : Fld Z h0 ad1 "java/util/ArrayList" "elementData" "[Ljava/lang/Object;" (.ref ad3)) (HF_ad1_ArrayList_size : Fld Z h0 ad1 "java/util/ArrayList" "size" "I" (.int (2 : Int32))) (HV_ad3 : Arv Z h0 ad3 kc1 (.object "java/lang/Object") (10 : Int32) [(.ref ad7), (.ref ad8), .null, .null, .null, .null, .null, .null, .null, .null] .null) (nn_ad1 : n0 ≤ ad1) (nn_ad3 : n0 ≤ ad3) (ne_ad1_ad3 : ad1 ≠ ad3) (hO_ad3 : Ovr Z kc1 "java/lang/Object") :
    MetFree l y_14 (head1 (Jvm.Cond.code y_14 jdk_38_method_24_code 4 none :: ws) (rm 0 0 0 0)) (fun a_ U_ => a_ = #[(.ref ad1), (.ref ad2), (.ref ad3), (.int (2 : Int32))] ∧ Z.Warmed39 U_.vm ∧ U_.heap = h0) (fun _ _ _ _ _ => True) (fun _ U_ o_ V_ => ∃ v_ L_, o_ = .returned v_ ∧ Q_am14_3 Z u_1 aw0 u_0 kaw0 ad1 ad2 ad3 ad7 ad8 kc1 h0 n0 v_ V_.heap L_ ∧ FrameEnd U_ o_ V_ L_ (rm 0 0 0 0).cells (rm 0 0 0 0).slots) := by
  refine MetFree.of_bodySF (plainFor_of_name pn_6) hisR ?_
  intro p e s m args below meth c s₁ Bd hml0 hP hK
  obtain ⟨rfl, hZ, hh⟩ := hP
  have hx := Bd.exec
  have hby := Bd.bytes
  have hml : c.maxLocals = 4 := hml0
  have hown : s.vm.findClass "java/util/ArrayList" = some m.cls := findClass_of_methodNamed Bd.named
  have hnm := (name_of_methodNamed Bd.named Bd.method).1
  have X0 : Stand p l e (rm 0 0 0 0) s m #[(.ref ad1), (.ref ad2), (.ref ad3), (.int (2 : Int32))] below meth c s₁ [] 0 0 := Stand.of_body Bd
  have e0 : s₁.heap = h0 := by rw [← hh, Bd.state]; rfl
  have N0 := Fr.nil n0
  have kp0 := Keep.refl h0 [ad1, ad3]
  show Go p e below (Fin1 s below (Q_am14_3 Z u_1 aw0 u_0 kaw0 ad1 ad2 ad3 ad7 ad8 kc1 h0 n0) (rm 0 0 0 0).cells (rm 0 0 0 0).slots) _
  refine Go.step (fun t_ k_ => castTop (ef_am14_1 m ad1 ad2 ad3 (2 : Int32)) k_) ?_
  obtain ⟨Eu_1, Su_1, Eaw0, Saw0, Au_1, Aaw0⟩ := id HW
  show Go p e below _ (s₁.setTop (mkF m 0 #[.val (.ref ad1), .val (.ref ad2), .val (.ref ad3), .val (.int (2 : Int32))] []))
  refine gs.iloadN X0.here hx (hb hby d14_0) rfl ?_
  refine gs.aloadN X0.here hx (hb hby d14_1) rfl rfl ?_
  obtain ⟨cl1, Ar1, -, Sz1, Ng1, -, -⟩ := id HV_ad3
  refine Go.fin (fun t_ k_ => X0.arraylength hx (by rw [e0]; exact Ar1.1) (State.isArrayOf_alike hZ.alike Ar1.2.1) (g := mkF m 2 _ _) rfl rfl (hb hby d14_2) _ k_) ?_
  rw [len_of Sz1 Ng1]
  show Go p e below _ (s₁.setTop (mkF m 3 _ [(.int (10 : Int32)), (.int (2 : Int32))]))
  have hc3 : ¬ ((2 : Int32) = (10 : Int32)) := by decide
  refine gs.icmpYes 11 X0.here hx (hb hby d14_3) (feq hc3).2 rfl ?_
  refine gs.aloadN X0.here hx (hb hby d14_11) rfl rfl ?_
  refine gs.iloadN X0.here hx (hb hby d14_12) rfl ?_
  refine gs.aloadN X0.here hx (hb hby d14_13) rfl rfl ?_
  obtain ⟨cl2, Ar2, q2, Sz2, Ng2, Hs2, G2⟩ := id HV_ad3
  have hin2 : ¬ ((2 : Int32) < 0 ∨ cl2.slots.size ≤ ((2 : Int32)).toNatClampNeg) := inb_of Sz2 ⟨by decide, by decide⟩
  obtain ⟨T3, h3, X3, e3, W3, st3⟩ := stR X0 hx hZ e0 Ar2 (j := (2 : Int32)) hin2 rfl (Sto.ofV Ar2 q2 hO_ad3 (Ins.of_exa HE_ad2 (wd hw 147 rfl))) (g := (mkF m 14 #[.val (.ref ad1), .val (.ref ad2), .val (.ref ad3), .val (.int (2 : Int32))] [(.ref ad2), (.int (2 : Int32)), (.ref ad3)])) rfl rfl (hb hby d14_14)
  have N3 := Fr.snoc X3 N0 nn_ad3
  have old3 := Ol.wr W3 nn_ad3
  have kp3 := kp0.wr W3 (Or.inl (List.mem_of_getElem? (i := 1) rfl))
  have V3 : Arv Z h3 ad3 kc1 (.object "java/lang/Object") (10 : Int32) [(.ref ad7), (.ref ad8), (.ref ad2), .null, .null, .null, .null, .null, .null, .null] .null := Arv.set Ar2 q2 Sz2 Ng2 Hs2 G2 rfl W3 2 rfl (Nat.le_of_ble_eq_true rfl)
  refine Go.fin st3 ?_
  show Go p e below _ (T3.setTop (mkF m 15 _ []))
  refine gs.aloadN X3.here hx (hb hby d14_15) rfl rfl ?_
  refine gs.iloadN X3.here hx (hb hby d14_16) rfl ?_
  refine gs.iconst 1 X3.here hx (hb hby d14_17) rfl ?_
  refine gs.iadd X3.here hx (hb hby d14_18) ?_
  rw [show ((2 : Int32) + (1 : Int32)) = (3 : Int32) from by decide]
  have f4 := (HF_ad1_ArrayList_size.other W3 (Or.inl ne_ad1_ad3))
  have f5 := (HE_ad1.wr W3)
  obtain ⟨T6, h6, X6, e6, W6, st6⟩ := putF X3 hx hZ hown (host := "") (Or.inl (wd hw 98 rfl)) Via.refl e3 f4 f5 (Or.inl (wd hw 99 rfl)) (wd hw 53 rfl) (ty := .int) (by decide) rfl rfl (g := (mkF m 19 #[.val (.ref ad1), .val (.ref ad2), .val (.ref ad3), .val (.int (2 : Int32))] [(.int (3 : Int32)), (.ref ad1)])) rfl rfl (hb hby d14_19)
  have N6 := Fr.snoc X6 N3 nn_ad1
  have old6 := old3.wr W6 nn_ad1
  have kp6 := kp3.wr W6 (Or.inl (List.mem_of_getElem? (i := 0) rfl))
  have F6 := f4.same W6
  refine Go.fin st6 ?_
  show Go p e below _ (T6.setTop (mkF m 22 _ []))
  have f7 := (f5.wr W6)
  have f8 := ((HF_ad1_AbstractList_modCount.other W3 (Or.inl ne_ad1_ad3)).other W6 (Or.inr (sn71 hw)))
  have f9 := ((HF_ad1_ArrayList_elementData.other W3 (Or.inl ne_ad1_ad3)).other W6 (Or.inr (sn72 hw)))
  have f10 := (V3.other W6 (Ne.symm ne_ad1_ad3))
  refine Go.retV X6 hx Bd.returns Bd.notSynchronized (hb hby d14_22) (by rw [e6]; exact ⟨rfl, N6, kp6, f7, f8, f9, F6, f10⟩) (by decide) (by decide)
def Q_am13_3 (Z : State) (u_1 : Addr) (aw0 : Addr) (u_0 : ClassId) (kaw0 : ClassId) (ad1 : Addr) (ad2 : Addr) (ad6 : Addr) (ad7 : Addr) (ad8 : Addr) (kc1 : ClassId) (h0 : Heap) (n0 : Nat) (v : Option Value) (h : Heap) (L : List Loc) : Prop := v = some (.int (1 : Int32)) ∧ Fr n0 L ∧ Keep h0 h [ad1, ad8] ∧ (Exa Z h ad1 "java/util/ArrayList") ∧ (Fld Z h ad1 "java/util/AbstractList" "modCount" "I" (.int (3 : Int32))) ∧ (Fld Z h ad1 "java/util/ArrayList" "elementData" "[Ljava/lang/Object;" (.ref ad8)) ∧ (Fld Z h ad1 "java/util/ArrayList" "size" "I" (.int (3 : Int32))) ∧ (Arv Z h ad8 kc1 (.object "java/lang/Object") (10 : Int32) [(.ref ad6), (.ref ad7), (.ref ad2), .null, .null, .null, .null, .null, .null, .null] .null)
set_option maxRecDepth 65536 in
set_option maxHeartbeats 40000000 in
theorem am13_3 (l : Launch) (Z : State) (a0 : Array Value) (hw : ∀ d ∈ tables_1, d.before a0 Z = true) (ws : List Jvm.Cond) (u_1 : Addr) (aw0 : Addr) (u_0 : ClassId) (kaw0 : ClassId) (HW : Wd Z u_1 aw0 u_0 kaw0) (ad1 : Addr) (ad2 : Addr) (ad6 : Addr) (ad7 : Addr) (ad8 : Addr) (kc1 : ClassId) (h0 : Heap) (n0 : Nat) (Ol : Old Z n0 h0) (HE_ad2 : Exa Z h0 ad2 "com/example/monarc/monarc/Variable") (HE_ad1 : Exa Z h0 ad1 "java/util/ArrayList") (HF_ad1_AbstractList_modCount : Fld Z h0 ad1 "java/util/AbstractList" "modCount" "I" (.int (2 : Int32))) (HF_ad1_ArrayList_elementData : Fld Z h0 ad1 "java/util/ArrayList" "elementData" "[Ljava/lang/Object;" (.ref ad8)) (HF_ad1_ArrayList_size : Fld Z h0 ad1 "java/util/ArrayList" "size" "I" (.int (2 : Int32))) (HV_ad8 : Arv Z h0 ad8 kc1 (.object "java/lang/Object") (10 : Int32) [(.ref ad6), (.ref ad7), .null, .null, .null, .null, .null, .null, .null, .null] .null) (nn_ad1 : n0 ≤ ad1) (nn_ad8 : n0 ≤ ad8) (ne_ad1_ad8 : ad1 ≠ ad8) (hO_ad8 : Ovr Z kc1 "java/lang/Object") :
    MetFree l y_13 (head1 (Jvm.Cond.code y_13 jdk_38_method_25_code 2 (some .boolean) :: ws) (rm 1 0 0 15)) (fun a_ U_ => a_ = #[(.ref ad1), (.ref ad2)] ∧ Z.Warmed39 U_.vm ∧ U_.heap = h0) (fun _ _ _ _ _ => True) (fun _ U_ o_ V_ => ∃ v_ L_, o_ = .returned v_ ∧ Q_am13_3 Z u_1 aw0 u_0 kaw0 ad1 ad2 ad6 ad7 ad8 kc1 h0 n0 v_ V_.heap L_ ∧ FrameEnd U_ o_ V_ L_ (rm 1 0 0 15).cells (rm 1 0 0 15).slots) := by
  refine MetFree.of_bodySF (plainFor_of_name pn_6) hisR ?_
  intro p e s m args below meth c s₁ Bd hml0 hP hK
  obtain ⟨rfl, hZ, hh⟩ := hP
  have hx := Bd.exec
  have hby := Bd.bytes
  have hml : c.maxLocals = 2 := hml0
  have hown : s.vm.findClass "java/util/ArrayList" = some m.cls := findClass_of_methodNamed Bd.named
  have hnm := (name_of_methodNamed Bd.named Bd.method).1
  have X0 : Stand p l e (rm 1 0 0 15) s m #[(.ref ad1), (.ref ad2)] below meth c s₁ [] 0 0 := Stand.of_body Bd
  have e0 : s₁.heap = h0 := by rw [← hh, Bd.state]; rfl
  have N0 := Fr.nil n0
  have kp0 := Keep.refl h0 [ad1, ad8]
  show Go p e below (Fin1 s below (Q_am13_3 Z u_1 aw0 u_0 kaw0 ad1 ad2 ad6 ad7 ad8 kc1 h0 n0) (rm 1 0 0 15).cells (rm 1 0 0 15).slots) _
  refine Go.step (fun t_ k_ => castTop (ef_am13_1 m ad1 ad2) k_) ?_
  obtain ⟨Eu_1, Su_1, Eaw0, Saw0, Au_1, Aaw0⟩ := id HW
  show Go p e below _ (s₁.setTop (mkF m 0 #[.val (.ref ad1), .val (.ref ad2)] []))
  refine gs.aloadN X0.here hx (hb hby d13_0) rfl rfl ?_
  refine gs.dup X0.here hx (hb hby d13_1) rfl ?_
  refine gs.getF X0 hx hZ hown (wd hw 124 rfl) (Via.of (wd hw 125 rfl)) e0 HF_ad1_AbstractList_modCount (hb hby d13_2) fun T1 X1 e1 => ?_
  refine gs.iconst 1 X1.here hx (hb hby d13_5) rfl ?_
  refine gs.iadd X1.here hx (hb hby d13_6) ?_
  rw [show ((2 : Int32) + (1 : Int32)) = (3 : Int32) from by decide]
  obtain ⟨T2, h2, X2, e2, W2, st2⟩ := putF X1 hx hZ hown (host := "") (Or.inl (wd hw 124 rfl)) (Via.of (wd hw 125 rfl)) e1 HF_ad1_AbstractList_modCount HE_ad1 (Or.inl (wd hw 72 rfl)) (wd hw 53 rfl) (ty := .int) (by decide) rfl rfl (g := (mkF m 7 #[.val (.ref ad1), .val (.ref ad2)] [(.int (3 : Int32)), (.ref ad1)])) rfl rfl (hb hby d13_7)
  have N2 := Fr.snoc X2 N0 nn_ad1
  have old2 := Ol.wr W2 nn_ad1
  have kp2 := kp0.wr W2 (Or.inl (List.mem_of_getElem? (i := 0) rfl))
  have F2 := HF_ad1_AbstractList_modCount.same W2
  refine Go.fin st2 ?_
  show Go p e below _ (T2.setTop (mkF m 10 _ []))
  refine gs.aloadN X2.here hx (hb hby d13_10) rfl rfl ?_
  refine gs.aloadN X2.here hx (hb hby d13_11) rfl rfl ?_
  refine gs.aloadN X2.here hx (hb hby d13_12) rfl rfl ?_
  have f3 := (HF_ad1_ArrayList_elementData.other W2 (Or.inr (sn9 hw)))
  refine gs.getF X2 hx hZ hown (wd hw 74 rfl) Via.refl e2 f3 (hb hby d13_13) fun T4 X4 e4 => ?_
  refine gs.aloadN X4.here hx (hb hby d13_16) rfl rfl ?_
  have f5 := (HF_ad1_ArrayList_size.other W2 (Or.inr (sn10 hw)))
  refine gs.getF X4 hx hZ hown (wd hw 98 rfl) Via.refl e4 f5 (hb hby d13_17) fun T6 X6 e6 => ?_
  have f7 := (HE_ad1.wr W2)
  have f8 := (HE_ad2.wr W2)
  have f9 := (HV_ad8.other W2 (Ne.symm ne_ad1_ad8))
  refine gs.priv 0 X6 hx hZ hown (am14_3 l Z a0 hw [] u_1 aw0 u_0 kaw0 HW (ad1) (ad2) (ad8) (ad6) (ad7) (kc1) h2 n0 old2 f8 f7 F2 f3 f5 f9 nn_ad1 nn_ad8 ne_ad1_ad8 hO_ad8) (wd hw 130 rfl) (wd hw 54 rfl) (wd hw 126 rfl) (wd hw 127 rfl) (mvT hZ (wd hw 129 rfl)) (wd hw 128 rfl) (by decide) f7 (by decide) (by decide) (by rw [hml]; rfl) [(.ref ad2), (.ref ad8), (.int (2 : Int32))] (lenOf pd_11 rfl) rfl (Nat.le_of_eq rfl) (hb hby d13_20) rfl e6 (by decide) (by decide) fun T10 Lc10 v10 X10 hQ10 => ?_
  obtain ⟨rfl, Nq10, K10, p10_0, p10_1, p10_2, p10_3, p10_4⟩ := hQ10
  have old10 := old2.keep K10 (allS nn_ad1 (allS nn_ad8 all0))
  have kp10 := kp2.trans K10 (allS (Or.inl (List.mem_of_getElem? (i := 0) rfl)) (allS (Or.inl (List.mem_of_getElem? (i := 1) rfl)) all0))
  have N10 := Fr.app N2 Nq10
  show Go p e below _ (T10.setTop (mkF m 23 _ []))
  refine gs.iconst 1 X10.here hx (hb hby d13_23) rfl ?_
  refine Go.retZ X10 hx (t := .boolean) Bd.returns (by simp) Bd.notSynchronized (hb hby d13_24) (by exact ⟨rfl, N10, kp10, p10_0, p10_1, p10_2, p10_3, p10_4⟩) (by decide) (by decide)
def Q_am11_4 (Z : State) (u_1 : Addr) (aw0 : Addr) (u_0 : ClassId) (kaw0 : ClassId) (ad1 : Addr) (h0 : Heap) (n0 : Nat) (v : Option Value) (h : Heap) (L : List Loc) : Prop := v = some (.int (3 : Int32)) ∧ Fr n0 L ∧ h = h0
set_option maxRecDepth 65536 in
set_option maxHeartbeats 40000000 in
theorem am11_4 (l : Launch) (Z : State) (a0 : Array Value) (hw : ∀ d ∈ tables_1, d.before a0 Z = true) (ws : List Jvm.Cond) (u_1 : Addr) (aw0 : Addr) (u_0 : ClassId) (kaw0 : ClassId) (HW : Wd Z u_1 aw0 u_0 kaw0) (ad1 : Addr) (h0 : Heap) (n0 : Nat) (Ol : Old Z n0 h0) (HF_ad1_ArrayList_size : Fld Z h0 ad1 "java/util/ArrayList" "size" "I" (.int (3 : Int32))) :
    MetFree l y_11 (head1 (Jvm.Cond.code y_11 jdk_38_method_8_code 1 (some .int) :: ws) (rm 0 0 0 0)) (fun a_ U_ => a_ = #[(.ref ad1)] ∧ Z.Warmed39 U_.vm ∧ U_.heap = h0) (fun _ _ _ _ _ => True) (fun _ U_ o_ V_ => ∃ v_ L_, o_ = .returned v_ ∧ Q_am11_4 Z u_1 aw0 u_0 kaw0 ad1 h0 n0 v_ V_.heap L_ ∧ FrameEnd U_ o_ V_ L_ (rm 0 0 0 0).cells (rm 0 0 0 0).slots) := by
  refine MetFree.of_bodySF (plainFor_of_name pn_6) hisR ?_
  intro p e s m args below meth c s₁ Bd hml0 hP hK
  obtain ⟨rfl, hZ, hh⟩ := hP
  have hx := Bd.exec
  have hby := Bd.bytes
  have hml : c.maxLocals = 1 := hml0
  have hown : s.vm.findClass "java/util/ArrayList" = some m.cls := findClass_of_methodNamed Bd.named
  have hnm := (name_of_methodNamed Bd.named Bd.method).1
  have X0 : Stand p l e (rm 0 0 0 0) s m #[(.ref ad1)] below meth c s₁ [] 0 0 := Stand.of_body Bd
  have e0 : s₁.heap = h0 := by rw [← hh, Bd.state]; rfl
  have N0 := Fr.nil n0
  have kp0 := Keep.refl h0 []
  show Go p e below (Fin1 s below (Q_am11_4 Z u_1 aw0 u_0 kaw0 ad1 h0 n0) (rm 0 0 0 0).cells (rm 0 0 0 0).slots) _
  refine Go.step (fun t_ k_ => castTop (ef_am11_1 m ad1) k_) ?_
  obtain ⟨Eu_1, Su_1, Eaw0, Saw0, Au_1, Aaw0⟩ := id HW
  show Go p e below _ (s₁.setTop (mkF m 0 #[.val (.ref ad1)] []))
  refine gs.aloadN X0.here hx (hb hby d11_0) rfl rfl ?_
  refine gs.getF X0 hx hZ hown (wd hw 98 rfl) Via.refl e0 HF_ad1_ArrayList_size (hb hby d11_1) fun T1 X1 e1 => ?_
  refine Go.retI X1 hx Bd.returns Bd.notSynchronized (hb hby d11_4) (by rw [e1]; exact ⟨rfl, N0, rfl⟩) (by decide) (by decide)
def Q_am10_4 (Z : State) (u_1 : Addr) (aw0 : Addr) (u_0 : ClassId) (kaw0 : ClassId) (ad1 : Addr) (ad2 : Addr) (ad3 : Addr) (iv1 : Int32) (ad4 : Addr) (iv2 : Int32) (ad5 : Addr) (iv3 : Int32) (ad6 : Addr) (ad7 : Addr) (ad8 : Addr) (ad9 : Addr) (kc1 : ClassId) (h0 : Heap) (n0 : Nat) (v : Option Value) (h : Heap) (L : List Loc) : Prop := ∃ fr1 : Addr, ∃ fr2 : Addr, ∃ fr3 : Addr, ∃ fr4 : Addr, ∃ fr5 : Addr, ∃ fr6 : Addr, ∃ kx1 : ClassId, ∃ kx2 : ClassId, ∃ kx3 : ClassId, ∃ kx4 : ClassId, ∃ kx5 : ClassId, ∃ kx6 : ClassId, ∃ ex1 : Int32, v = none ∧ h0.size ≤ fr1 ∧ h0.size ≤ fr2 ∧ h0.size ≤ fr3 ∧ h0.size ≤ fr4 ∧ h0.size ≤ fr5 ∧ h0.size ≤ fr6 ∧ fr1 ≠ fr2 ∧ fr1 ≠ fr3 ∧ fr1 ≠ fr4 ∧ fr1 ≠ fr5 ∧ fr1 ≠ fr6 ∧ fr2 ≠ fr3 ∧ fr2 ≠ fr4 ∧ fr2 ≠ fr5 ∧ fr2 ≠ fr6 ∧ fr3 ≠ fr4 ∧ fr3 ≠ fr5 ∧ fr3 ≠ fr6 ∧ fr4 ≠ fr5 ∧ fr4 ≠ fr6 ∧ fr5 ≠ fr6 ∧ Fr n0 L ∧ Keep h0 h [ad1] ∧ (Exa Z h ad1 "com/example/monarc/monarc/Domains") ∧ (Fld Z h ad1 "com/example/monarc/monarc/Domains" "holes" "[[J" (.ref fr1)) ∧ (Fld Z h ad1 "com/example/monarc/monarc/Domains" "initial" "[Lcom/example/monarc/monarc/InitialDomain;" (.ref fr2)) ∧ (Fld Z h ad1 "com/example/monarc/monarc/Domains" "lower" "[I" (.ref fr3)) ∧ (Fld Z h ad1 "com/example/monarc/monarc/Domains" "resized" "Ljava/util/function/IntConsumer;" .null) ∧ (Fld Z h ad1 "com/example/monarc/monarc/Domains" "sizes" "[I" (.ref fr4)) ∧ (Fld Z h ad1 "com/example/monarc/monarc/Domains" "trail" "[J" (.ref fr5)) ∧ (Fld Z h ad1 "com/example/monarc/monarc/Domains" "trailSize" "I" (.int (0 : Int32))) ∧ (Fld Z h ad1 "com/example/monarc/monarc/Domains" "upper" "[I" (.ref fr6)) ∧ (Fld Z h ad1 "com/example/monarc/monarc/Domains" "withOneValue" "I" (.int ex1)) ∧ (Exa Z h fr1 "[[J") ∧ (Arv Z h fr1 kx1 (.array .long) (3 : Int32) [.null, .null, .null] .null) ∧ (Arv Z h fr2 kx2 (.object "com/example/monarc/monarc/InitialDomain") (3 : Int32) [(.ref ad3), (.ref ad4), (.ref ad5)] .null) ∧ (Arv Z h fr3 kx3 .int (3 : Int32) [(.int (0 : Int32)), (.int (0 : Int32)), (.int (0 : Int32))] (.int (0 : Int32))) ∧ (Arv Z h fr4 kx4 .int (3 : Int32) [(.int iv1), (.int iv2), (.int iv3)] (.int (0 : Int32))) ∧ (Arv Z h fr5 kx5 .long (1024 : Int32) [] (.long (0 : Int64))) ∧ (Arv Z h fr6 kx6 .int (3 : Int32) [(.int (iv1 - (1 : Int32))), (.int (iv2 - (1 : Int32))), (.int (iv3 - (1 : Int32)))] (.int (0 : Int32))) ∧ (OvrA Z kx1 .long "[J") ∧ (Ovr Z kx2 "com/example/monarc/monarc/InitialDomain")
set_option maxRecDepth 65536 in
set_option maxHeartbeats 40000000 in
theorem am10_4 (l : Launch) (Z : State) (a0 : Array Value) (hw : ∀ d ∈ tables_1, d.before a0 Z = true) (ws : List Jvm.Cond) (u_1 : Addr) (aw0 : Addr) (u_0 : ClassId) (kaw0 : ClassId) (HW : Wd Z u_1 aw0 u_0 kaw0) (ad1 : Addr) (ad2 : Addr) (ad3 : Addr) (iv1 : Int32) (ad4 : Addr) (iv2 : Int32) (ad5 : Addr) (iv3 : Int32) (ad6 : Addr) (ad7 : Addr) (ad8 : Addr) (ad9 : Addr) (kc1 : ClassId) (h0 : Heap) (n0 : Nat) (Ol : Old Z n0 h0) (HE_ad3 : Exa Z h0 ad3 "com/example/monarc/monarc/InitialDomain") (HF_ad3_InitialDomain_size : Fld Z h0 ad3 "com/example/monarc/monarc/InitialDomain" "size" "I" (.int iv1)) (HE_ad4 : Exa Z h0 ad4 "com/example/monarc/monarc/InitialDomain") (HF_ad4_InitialDomain_size : Fld Z h0 ad4 "com/example/monarc/monarc/InitialDomain" "size" "I" (.int iv2)) (HE_ad5 : Exa Z h0 ad5 "com/example/monarc/monarc/InitialDomain") (HF_ad5_InitialDomain_size : Fld Z h0 ad5 "com/example/monarc/monarc/InitialDomain" "size" "I" (.int iv3)) (HE_ad6 : Exa Z h0 ad6 "com/example/monarc/monarc/Variable") (HF_ad6_Variable_domain : Fld Z h0 ad6 "com/example/monarc/monarc/Variable" "domain" "Lcom/example/monarc/monarc/InitialDomain;" (.ref ad3)) (HE_ad7 : Exa Z h0 ad7 "com/example/monarc/monarc/Variable") (HF_ad7_Variable_domain : Fld Z h0 ad7 "com/example/monarc/monarc/Variable" "domain" "Lcom/example/monarc/monarc/InitialDomain;" (.ref ad4)) (HE_ad8 : Exa Z h0 ad8 "com/example/monarc/monarc/Variable") (HF_ad8_Variable_domain : Fld Z h0 ad8 "com/example/monarc/monarc/Variable" "domain" "Lcom/example/monarc/monarc/InitialDomain;" (.ref ad5)) (HE_ad2 : Exa Z h0 ad2 "java/util/ArrayList") (HF_ad2_ArrayList_elementData : Fld Z h0 ad2 "java/util/ArrayList" "elementData" "[Ljava/lang/Object;" (.ref ad9)) (HF_ad2_ArrayList_size : Fld Z h0 ad2 "java/util/ArrayList" "size" "I" (.int (3 : Int32))) (HV_ad9 : Arv Z h0 ad9 kc1 (.object "java/lang/Object") (10 : Int32) [(.ref ad6), (.ref ad7), (.ref ad8), .null, .null, .null, .null, .null, .null, .null] .null) (HE_ad1 : Exa Z h0 ad1 "com/example/monarc/monarc/Domains") (HF_ad1_Domains_trail : Fld Z h0 ad1 "com/example/monarc/monarc/Domains" "trail" "[J" .null) (HF_ad1_Domains_marks : Fld Z h0 ad1 "com/example/monarc/monarc/Domains" "marks" "[I" .null) (HF_ad1_Domains_initial : Fld Z h0 ad1 "com/example/monarc/monarc/Domains" "initial" "[Lcom/example/monarc/monarc/InitialDomain;" .null) (HF_ad1_Domains_lower : Fld Z h0 ad1 "com/example/monarc/monarc/Domains" "lower" "[I" .null) (HF_ad1_Domains_upper : Fld Z h0 ad1 "com/example/monarc/monarc/Domains" "upper" "[I" .null) (HF_ad1_Domains_holes : Fld Z h0 ad1 "com/example/monarc/monarc/Domains" "holes" "[[J" .null) (HF_ad1_Domains_sizes : Fld Z h0 ad1 "com/example/monarc/monarc/Domains" "sizes" "[I" .null) (HF_ad1_Domains_withOneValue : Fld Z h0 ad1 "com/example/monarc/monarc/Domains" "withOneValue" "I" (.int (0 : Int32))) (HF_ad1_Domains_trailSize : Fld Z h0 ad1 "com/example/monarc/monarc/Domains" "trailSize" "I" (.int (0 : Int32))) (HF_ad1_Domains_resized : Fld Z h0 ad1 "com/example/monarc/monarc/Domains" "resized" "Ljava/util/function/IntConsumer;" .null) (nn_ad1 : n0 ≤ ad1) (ne_ad1_ad2 : ad1 ≠ ad2) (ne_ad1_ad3 : ad1 ≠ ad3) (ne_ad1_ad4 : ad1 ≠ ad4) (ne_ad1_ad5 : ad1 ≠ ad5) (ne_ad1_ad6 : ad1 ≠ ad6) (ne_ad1_ad7 : ad1 ≠ ad7) (ne_ad1_ad8 : ad1 ≠ ad8) (ne_ad1_ad9 : ad1 ≠ ad9) (hO_ad9 : Ovr Z kc1 "java/lang/Object") :
    MetFree l y_10 (head1 (Jvm.Cond.code y_10 prog_11_method_1_code 4 none :: ws) (rm 3 7 1103 42)) (fun a_ U_ => a_ = #[(.ref ad1), (.ref ad2)] ∧ Z.Warmed39 U_.vm ∧ U_.heap = h0) (fun _ _ _ _ _ => True) (fun _ U_ o_ V_ => ∃ v_ L_, o_ = .returned v_ ∧ Q_am10_4 Z u_1 aw0 u_0 kaw0 ad1 ad2 ad3 iv1 ad4 iv2 ad5 iv3 ad6 ad7 ad8 ad9 kc1 h0 n0 v_ V_.heap L_ ∧ FrameEnd U_ o_ V_ L_ (rm 3 7 1103 42).cells (rm 3 7 1103 42).slots) := by
  refine MetFree.of_bodySF (plainFor_of_name pn_7) hisR ?_
  intro p e s m args below meth c s₁ Bd hml0 hP hK
  obtain ⟨rfl, hZ, hh⟩ := hP
  have hx := Bd.exec
  have hby := Bd.bytes
  have hml : c.maxLocals = 4 := hml0
  have hown : s.vm.findClass "com/example/monarc/monarc/Domains" = some m.cls := findClass_of_methodNamed Bd.named
  have hnm := (name_of_methodNamed Bd.named Bd.method).1
  have X0 : Stand p l e (rm 3 7 1103 42) s m #[(.ref ad1), (.ref ad2)] below meth c s₁ [] 0 0 := Stand.of_body Bd
  have e0 : s₁.heap = h0 := by rw [← hh, Bd.state]; rfl
  have N0 := Fr.nil n0
  have kp0 := Keep.refl h0 [ad1]
  show Go p e below (Fin1 s below (Q_am10_4 Z u_1 aw0 u_0 kaw0 ad1 ad2 ad3 iv1 ad4 iv2 ad5 iv3 ad6 ad7 ad8 ad9 kc1 h0 n0) (rm 3 7 1103 42).cells (rm 3 7 1103 42).slots) _
  refine Go.step (fun t_ k_ => castTop (ef_am10_1 m ad1 ad2) k_) ?_
  obtain ⟨Eu_1, Su_1, Eaw0, Saw0, Au_1, Aaw0⟩ := id HW
  show Go p e below _ (s₁.setTop (mkF m 0 #[.val (.ref ad1), .val (.ref ad2), .unset, .unset] []))
  obtain ⟨fe, hd_fe⟩ : ∃ z : Nat → Value, z = fun i => ([(.ref ad6), (.ref ad7), (.ref ad8), .null, .null, .null, .null, .null, .null, .null] : List Value).getD i .null := ⟨_, rfl⟩
  have g1_ : Arw Z h0 ad9 kc1 (.object "java/lang/Object") (10 : Int32) fe := Arw.of_list HV_ad9 (by rw [hd_fe]; intro i hi; rfl)
  have hv_fe0 : (fe ((0 : Int32)).toNatClampNeg) = (.ref ad6) := by rw [hd_fe]; rfl
  have hv_fe1 : (fe ((1 : Int32)).toNatClampNeg) = (.ref ad7) := by rw [hd_fe]; rfl
  have hv_fe2 : (fe ((2 : Int32)).toNatClampNeg) = (.ref ad8) := by rw [hd_fe]; rfl
  refine gs.aloadN X0.here hx (hb hby d10_0) rfl rfl ?_
  obtain ⟨T2, X2, e2, st2⟩ := initO X0 hx hZ hown (wd hw 82 rfl) (wd hw 15 rfl) (wd hw 16 rfl) e0 (g := (mkF m 1 #[.val (.ref ad1), .val (.ref ad2), .unset, .unset] [(.ref ad1)])) rfl (by rw [hml]; rfl) rfl (hb hby d10_1) (by decide) (W := 0) (by show 2 * 0 + _ ≤ _; exact Nat.le_of_eq rfl) (by decide)
  refine Go.step st2 ?_
  show Go p e below _ (T2.setTop (mkF m 4 #[.val (.ref ad1), .val (.ref ad2), .unset, .unset] []))
  refine gs.aloadN X2.here hx (hb hby d10_4) rfl rfl ?_
  refine gs.sipush 1024 X2.here hx (hb hby d10_5) rfl ?_
  obtain ⟨T3, h3, k3, X3, e3, E3, A3, st3⟩ := newP X2 hx hZ (wd hw 83 rfl) e2 (g := (mkF m 8 #[.val (.ref ad1), .val (.ref ad2), .unset, .unset] [(.int (1024 : Int32)), (.ref ad1)])) rfl (hb hby d10_8) rfl (by decide) (cap := 1024) (by decide) (by decide) (by decide) (by decide)
  obtain ⟨b3, g3⟩ : ∃ z, z = h0.size := ⟨_, rfl⟩
  rw [← g3] at A3 st3
  have nn_b3 : n0 ≤ b3 := Nat.le_trans (old_z0 Ol) (Nat.le_of_eq g3.symm)
  have sz_b3 : h0.size ≤ b3 := Nat.le_trans kp0.1 (Nat.le_of_eq g3.symm)
  have old3 := Ol.ext E3
  have kp3 := kp0.ext E3
  have V3 : Arv Z h3 b3 k3 .long (1024 : Int32) [] (.long (0 : Int64)) := (Arv.new A3 (by decide)).pad (pad_rep [] (.long (0 : Int64)) 0)
  refine Go.fin st3 ?_
  show Go p e below _ (T3.setTop (mkF m 10 _ [(.ref b3), (.ref ad1)]))
  have f4 := (HF_ad1_Domains_trail.ext E3)
  have f5 := (HE_ad1.ext E3)
  obtain ⟨T6, h6, X6, e6, W6, st6⟩ := putF X3 hx hZ hown (host := "") (Or.inl (wd hw 84 rfl)) Via.refl e3 f4 f5 (Or.inl (wd hw 85 rfl)) (wd hw 77 rfl) (ty := (.array .long)) (by decide) rfl rfl (g := (mkF m 10 #[.val (.ref ad1), .val (.ref ad2), .unset, .unset] [(.ref b3), (.ref ad1)])) rfl rfl (hb hby d10_10)
  have N6 := Fr.snoc X6 N0 nn_ad1
  have old6 := old3.wr W6 nn_ad1
  have kp6 := kp3.wr W6 (Or.inl (List.mem_of_getElem? (i := 0) rfl))
  have F6 := f4.same W6
  refine Go.fin st6 ?_
  show Go p e below _ (T6.setTop (mkF m 13 _ []))
  refine gs.aloadN X6.here hx (hb hby d10_13) rfl rfl ?_
  refine gs.bipush 64 X6.here hx (hb hby d10_14) rfl ?_
  obtain ⟨T7, h7, k7, X7, e7, E7, A7, st7⟩ := newP X6 hx hZ (wd hw 86 rfl) e6 (g := (mkF m 16 #[.val (.ref ad1), .val (.ref ad2), .unset, .unset] [(.int (64 : Int32)), (.ref ad1)])) rfl (hb hby d10_16) rfl (by decide) (cap := 64) (by decide) (by decide) (by decide) (by decide)
  obtain ⟨b7, g7⟩ : ∃ z, z = h6.size := ⟨_, rfl⟩
  rw [← g7] at A7 st7
  have nn_b7 : n0 ≤ b7 := Nat.le_trans (old_z0 old6) (Nat.le_of_eq g7.symm)
  have sz_b7 : h0.size ≤ b7 := Nat.le_trans kp6.1 (Nat.le_of_eq g7.symm)
  have old7 := old6.ext E7
  have kp7 := kp6.ext E7
  have V7 : Arv Z h7 b7 k7 .int (64 : Int32) [] (.int (0 : Int32)) := (Arv.new A7 (by decide)).pad (pad_rep [] (.int (0 : Int32)) 0)
  refine Go.fin st7 ?_
  show Go p e below _ (T7.setTop (mkF m 18 _ [(.ref b7), (.ref ad1)]))
  have f8 := (((HF_ad1_Domains_marks.ext E3).other W6 (Or.inr (sn13 hw))).ext E7)
  have f9 := ((f5.wr W6).ext E7)
  obtain ⟨T10, h10, X10, e10, W10, st10⟩ := putF X7 hx hZ hown (host := "") (Or.inl (wd hw 87 rfl)) Via.refl e7 f8 f9 (Or.inl (wd hw 88 rfl)) (wd hw 77 rfl) (ty := (.array .int)) (by decide) rfl rfl (g := (mkF m 18 #[.val (.ref ad1), .val (.ref ad2), .unset, .unset] [(.ref b7), (.ref ad1)])) rfl rfl (hb hby d10_18)
  have N10 := Fr.snoc X10 N6 nn_ad1
  have old10 := old7.wr W10 nn_ad1
  have kp10 := kp7.wr W10 (Or.inl (List.mem_of_getElem? (i := 0) rfl))
  have F10 := f8.same W10
  refine Go.fin st10 ?_
  show Go p e below _ (T10.setTop (mkF m 21 _ []))
  refine gs.aloadN X10.here hx (hb hby d10_21) rfl rfl ?_
  have f11 := ((((HE_ad2.ext E3).wr W6).ext E7).wr W10)
  have f12 := ((((HF_ad2_ArrayList_size.ext E3).other W6 (Or.inl (Ne.symm ne_ad1_ad2))).ext E7).other W10 (Or.inl (Ne.symm ne_ad1_ad2)))
  refine gs.face 0 X10 hx hZ hown (am11_4 l Z a0 hw [] u_1 aw0 u_0 kaw0 HW (ad2) h10 n0 old10 f12) (wd hw 97 rfl) (wd hw 54 rfl) (wd hw 89 rfl) (wd hw 90 rfl) (mvT hZ (wd hw 91 rfl)) (wd hw 92 rfl) (wd hw 93 rfl) (wd hw 94 rfl) (wd hw 95 rfl) (wd hw 96 rfl) (by decide) f11 (by decide) (by decide) (by rw [hml]; rfl) [] (lenOf pd_5 rfl) rfl (Nat.le_of_eq rfl) (hb hby d10_22) rfl e10 (by decide) (by decide) fun T13 Lc13 v13 X13 hQ13 => ?_
  obtain ⟨rfl, Nq13, e13⟩ := hQ13
  have N13 := Fr.app N10 Nq13
  show Go p e below _ (T13.setTop (mkF m 27 _ [(.int (3 : Int32))]))
  refine gs.istoreN X13.here hx (hb hby d10_27) (l' := #[.val (.ref ad1), .val (.ref ad2), .val (.int (3 : Int32)), .unset]) rfl ?_
  refine gs.aloadN X13.here hx (hb hby d10_28) rfl rfl ?_
  refine gs.iloadN X13.here hx (hb hby d10_29) rfl ?_
  obtain ⟨T14, h14, k14, X14, e14, E14, A14, O14, st14⟩ := newR X13 hx hZ hown (wd hw 100 rfl) (wd hw 101 rfl) e13 (g := (mkF m 30 #[.val (.ref ad1), .val (.ref ad2), .val (.int (3 : Int32)), .unset] [(.int (3 : Int32)), (.ref ad1)])) rfl (hb hby d10_30) rfl (by decide) (cap := 3) (by decide) (by decide) (by decide) (by decide)
  obtain ⟨b14, g14⟩ : ∃ z, z = h10.size := ⟨_, rfl⟩
  rw [← g14] at A14 st14
  have nn_b14 : n0 ≤ b14 := Nat.le_trans (old_z0 old10) (Nat.le_of_eq g14.symm)
  have sz_b14 : h0.size ≤ b14 := Nat.le_trans kp10.1 (Nat.le_of_eq g14.symm)
  have old14 := old10.ext E14
  have kp14 := kp10.ext E14
  have V14 : Arv Z h14 b14 k14 (.object "com/example/monarc/monarc/InitialDomain") (3 : Int32) [.null, .null, .null] .null := (Arv.new A14 (by decide)).pad (pad_rep [] .null 3)
  refine Go.fin st14 ?_
  show Go p e below _ (T14.setTop (mkF m 33 _ [(.ref b14), (.ref ad1)]))
  have f15 := (((((HF_ad1_Domains_initial.ext E3).other W6 (Or.inr (sn14 hw))).ext E7).other W10 (Or.inr (sn15 hw))).ext E14)
  have f16 := ((f9.wr W10).ext E14)
  obtain ⟨T17, h17, X17, e17, W17, st17⟩ := putF X14 hx hZ hown (host := "") (Or.inl (wd hw 102 rfl)) Via.refl e14 f15 f16 (Or.inr ⟨(wd hw 103 rfl), rfl, hnm⟩) (wd hw 77 rfl) (ty := (.array (.object "com/example/monarc/monarc/InitialDomain"))) (by decide) rfl rfl (g := (mkF m 33 #[.val (.ref ad1), .val (.ref ad2), .val (.int (3 : Int32)), .unset] [(.ref b14), (.ref ad1)])) rfl rfl (hb hby d10_33)
  have N17 := Fr.snoc X17 N13 nn_ad1
  have old17 := old14.wr W17 nn_ad1
  have kp17 := kp14.wr W17 (Or.inl (List.mem_of_getElem? (i := 0) rfl))
  have F17 := f15.same W17
  refine Go.fin st17 ?_
  show Go p e below _ (T17.setTop (mkF m 36 _ []))
  refine gs.aloadN X17.here hx (hb hby d10_36) rfl rfl ?_
  refine gs.iloadN X17.here hx (hb hby d10_37) rfl ?_
  obtain ⟨T18, h18, k18, X18, e18, E18, A18, st18⟩ := newP X17 hx hZ (wd hw 86 rfl) e17 (g := (mkF m 38 #[.val (.ref ad1), .val (.ref ad2), .val (.int (3 : Int32)), .unset] [(.int (3 : Int32)), (.ref ad1)])) rfl (hb hby d10_38) rfl (by decide) (cap := 3) (by decide) (by decide) (by decide) (by decide)
  obtain ⟨b18, g18⟩ : ∃ z, z = h17.size := ⟨_, rfl⟩
  rw [← g18] at A18 st18
  have nn_b18 : n0 ≤ b18 := Nat.le_trans (old_z0 old17) (Nat.le_of_eq g18.symm)
  have sz_b18 : h0.size ≤ b18 := Nat.le_trans kp17.1 (Nat.le_of_eq g18.symm)
  have old18 := old17.ext E18
  have kp18 := kp17.ext E18
  have V18 : Arv Z h18 b18 k18 .int (3 : Int32) [(.int (0 : Int32)), (.int (0 : Int32)), (.int (0 : Int32))] (.int (0 : Int32)) := (Arv.new A18 (by decide)).pad (pad_rep [] (.int (0 : Int32)) 3)
  refine Go.fin st18 ?_
  show Go p e below _ (T18.setTop (mkF m 40 _ [(.ref b18), (.ref ad1)]))
  have f19 := (((((((HF_ad1_Domains_lower.ext E3).other W6 (Or.inr (sn16 hw))).ext E7).other W10 (Or.inr (sn17 hw))).ext E14).other W17 (Or.inr (sn18 hw))).ext E18)
  have f20 := ((f16.wr W17).ext E18)
  obtain ⟨T21, h21, X21, e21, W21, st21⟩ := putF X18 hx hZ hown (host := "") (Or.inl (wd hw 104 rfl)) Via.refl e18 f19 f20 (Or.inr ⟨(wd hw 105 rfl), rfl, hnm⟩) (wd hw 77 rfl) (ty := (.array .int)) (by decide) rfl rfl (g := (mkF m 40 #[.val (.ref ad1), .val (.ref ad2), .val (.int (3 : Int32)), .unset] [(.ref b18), (.ref ad1)])) rfl rfl (hb hby d10_40)
  have N21 := Fr.snoc X21 N17 nn_ad1
  have old21 := old18.wr W21 nn_ad1
  have kp21 := kp18.wr W21 (Or.inl (List.mem_of_getElem? (i := 0) rfl))
  have F21 := f19.same W21
  refine Go.fin st21 ?_
  show Go p e below _ (T21.setTop (mkF m 43 _ []))
  refine gs.aloadN X21.here hx (hb hby d10_43) rfl rfl ?_
  refine gs.iloadN X21.here hx (hb hby d10_44) rfl ?_
  obtain ⟨T22, h22, k22, X22, e22, E22, A22, st22⟩ := newP X21 hx hZ (wd hw 86 rfl) e21 (g := (mkF m 45 #[.val (.ref ad1), .val (.ref ad2), .val (.int (3 : Int32)), .unset] [(.int (3 : Int32)), (.ref ad1)])) rfl (hb hby d10_45) rfl (by decide) (cap := 3) (by decide) (by decide) (by decide) (by decide)
  obtain ⟨b22, g22⟩ : ∃ z, z = h21.size := ⟨_, rfl⟩
  rw [← g22] at A22 st22
  have nn_b22 : n0 ≤ b22 := Nat.le_trans (old_z0 old21) (Nat.le_of_eq g22.symm)
  have sz_b22 : h0.size ≤ b22 := Nat.le_trans kp21.1 (Nat.le_of_eq g22.symm)
  have old22 := old21.ext E22
  have kp22 := kp21.ext E22
  have V22 : Arv Z h22 b22 k22 .int (3 : Int32) [(.int (0 : Int32)), (.int (0 : Int32)), (.int (0 : Int32))] (.int (0 : Int32)) := (Arv.new A22 (by decide)).pad (pad_rep [] (.int (0 : Int32)) 3)
  refine Go.fin st22 ?_
  show Go p e below _ (T22.setTop (mkF m 47 _ [(.ref b22), (.ref ad1)]))
  have f23 := (((((((((HF_ad1_Domains_upper.ext E3).other W6 (Or.inr (sn19 hw))).ext E7).other W10 (Or.inr (sn20 hw))).ext E14).other W17 (Or.inr (sn21 hw))).ext E18).other W21 (Or.inr (sn22 hw))).ext E22)
  have f24 := ((f20.wr W21).ext E22)
  obtain ⟨T25, h25, X25, e25, W25, st25⟩ := putF X22 hx hZ hown (host := "") (Or.inl (wd hw 106 rfl)) Via.refl e22 f23 f24 (Or.inr ⟨(wd hw 107 rfl), rfl, hnm⟩) (wd hw 77 rfl) (ty := (.array .int)) (by decide) rfl rfl (g := (mkF m 47 #[.val (.ref ad1), .val (.ref ad2), .val (.int (3 : Int32)), .unset] [(.ref b22), (.ref ad1)])) rfl rfl (hb hby d10_47)
  have N25 := Fr.snoc X25 N21 nn_ad1
  have old25 := old22.wr W25 nn_ad1
  have kp25 := kp22.wr W25 (Or.inl (List.mem_of_getElem? (i := 0) rfl))
  have F25 := f23.same W25
  refine Go.fin st25 ?_
  show Go p e below _ (T25.setTop (mkF m 50 _ []))
  refine gs.aloadN X25.here hx (hb hby d10_50) rfl rfl ?_
  refine gs.iloadN X25.here hx (hb hby d10_51) rfl ?_
  obtain ⟨T26, h26, k26, X26, e26, E26, A26, B26, O26, st26⟩ := newRA X25 hx hZ (ty := .long) hown (by decide) (wd hw 108 rfl) (wd hw 109 rfl) e25 (g := (mkF m 52 #[.val (.ref ad1), .val (.ref ad2), .val (.int (3 : Int32)), .unset] [(.int (3 : Int32)), (.ref ad1)])) rfl (hb hby d10_52) rfl (by decide) (cap := 3) (by decide) (by decide) (by decide) (by decide) (ad := "[[J") (by decide)
  obtain ⟨b26, g26⟩ : ∃ z, z = h25.size := ⟨_, rfl⟩
  rw [← g26] at A26 B26 st26
  have nn_b26 : n0 ≤ b26 := Nat.le_trans (old_z0 old25) (Nat.le_of_eq g26.symm)
  have sz_b26 : h0.size ≤ b26 := Nat.le_trans kp25.1 (Nat.le_of_eq g26.symm)
  have old26 := old25.ext E26
  have kp26 := kp25.ext E26
  have V26 : Arv Z h26 b26 k26 (.array .long) (3 : Int32) [.null, .null, .null] .null := (Arv.new A26 (by decide)).pad (pad_rep [] .null 3)
  refine Go.fin st26 ?_
  show Go p e below _ (T26.setTop (mkF m 55 _ [(.ref b26), (.ref ad1)]))
  have f27 := (((((((((((HF_ad1_Domains_holes.ext E3).other W6 (Or.inr (sn23 hw))).ext E7).other W10 (Or.inr (sn24 hw))).ext E14).other W17 (Or.inr (sn25 hw))).ext E18).other W21 (Or.inr (sn26 hw))).ext E22).other W25 (Or.inr (sn27 hw))).ext E26)
  have f28 := ((f24.wr W25).ext E26)
  obtain ⟨T29, h29, X29, e29, W29, st29⟩ := putF X26 hx hZ hown (host := "") (Or.inl (wd hw 110 rfl)) Via.refl e26 f27 f28 (Or.inr ⟨(wd hw 111 rfl), rfl, hnm⟩) (wd hw 77 rfl) (ty := (.array (.array .long))) (by decide) rfl rfl (g := (mkF m 55 #[.val (.ref ad1), .val (.ref ad2), .val (.int (3 : Int32)), .unset] [(.ref b26), (.ref ad1)])) rfl rfl (hb hby d10_55)
  have N29 := Fr.snoc X29 N25 nn_ad1
  have old29 := old26.wr W29 nn_ad1
  have kp29 := kp26.wr W29 (Or.inl (List.mem_of_getElem? (i := 0) rfl))
  have F29 := f27.same W29
  refine Go.fin st29 ?_
  show Go p e below _ (T29.setTop (mkF m 58 _ []))
  refine gs.aloadN X29.here hx (hb hby d10_58) rfl rfl ?_
  refine gs.iloadN X29.here hx (hb hby d10_59) rfl ?_
  obtain ⟨T30, h30, k30, X30, e30, E30, A30, st30⟩ := newP X29 hx hZ (wd hw 86 rfl) e29 (g := (mkF m 60 #[.val (.ref ad1), .val (.ref ad2), .val (.int (3 : Int32)), .unset] [(.int (3 : Int32)), (.ref ad1)])) rfl (hb hby d10_60) rfl (by decide) (cap := 3) (by decide) (by decide) (by decide) (by decide)
  obtain ⟨b30, g30⟩ : ∃ z, z = h29.size := ⟨_, rfl⟩
  rw [← g30] at A30 st30
  have nn_b30 : n0 ≤ b30 := Nat.le_trans (old_z0 old29) (Nat.le_of_eq g30.symm)
  have sz_b30 : h0.size ≤ b30 := Nat.le_trans kp29.1 (Nat.le_of_eq g30.symm)
  have old30 := old29.ext E30
  have kp30 := kp29.ext E30
  have V30 : Arv Z h30 b30 k30 .int (3 : Int32) [(.int (0 : Int32)), (.int (0 : Int32)), (.int (0 : Int32))] (.int (0 : Int32)) := (Arv.new A30 (by decide)).pad (pad_rep [] (.int (0 : Int32)) 3)
  refine Go.fin st30 ?_
  show Go p e below _ (T30.setTop (mkF m 62 _ [(.ref b30), (.ref ad1)]))
  have f31 := (((((((((((((HF_ad1_Domains_sizes.ext E3).other W6 (Or.inr (sn28 hw))).ext E7).other W10 (Or.inr (sn29 hw))).ext E14).other W17 (Or.inr (sn30 hw))).ext E18).other W21 (Or.inr (sn31 hw))).ext E22).other W25 (Or.inr (sn32 hw))).ext E26).other W29 (Or.inr (sn33 hw))).ext E30)
  have f32 := ((f28.wr W29).ext E30)
  obtain ⟨T33, h33, X33, e33, W33, st33⟩ := putF X30 hx hZ hown (host := "") (Or.inl (wd hw 112 rfl)) Via.refl e30 f31 f32 (Or.inr ⟨(wd hw 113 rfl), rfl, hnm⟩) (wd hw 77 rfl) (ty := (.array .int)) (by decide) rfl rfl (g := (mkF m 62 #[.val (.ref ad1), .val (.ref ad2), .val (.int (3 : Int32)), .unset] [(.ref b30), (.ref ad1)])) rfl rfl (hb hby d10_62)
  have N33 := Fr.snoc X33 N29 nn_ad1
  have old33 := old30.wr W33 nn_ad1
  have kp33 := kp30.wr W33 (Or.inl (List.mem_of_getElem? (i := 0) rfl))
  have F33 := f31.same W33
  refine Go.fin st33 ?_
  show Go p e below _ (T33.setTop (mkF m 65 _ []))
  refine gs.iconst 0 X33.here hx (hb hby d10_65) rfl ?_
  refine gs.istoreN X33.here hx (hb hby d10_66) (l' := #[.val (.ref ad1), .val (.ref ad2), .val (.int (3 : Int32)), .val (.int (0 : Int32))]) rfl ?_
  refine gs.iloadN X33.here hx (hb hby d10_67) rfl ?_
  refine gs.iloadN X33.here hx (hb hby d10_68) rfl ?_
  have hc69 : (0 : Int32) < (3 : Int32) := by decide
  refine gs.icmpNo X33.here hx (hb hby d10_69) (tlt hc69).2.1 ?_
  refine gs.aloadN X33.here hx (hb hby d10_72) rfl rfl ?_
  have f34 := ((((((((F17.ext E18).other W21 (Or.inr (sn35 hw))).ext E22).other W25 (Or.inr (sn36 hw))).ext E26).other W29 (Or.inr (sn37 hw))).ext E30).other W33 (Or.inr (sn38 hw)))
  refine gs.getF X33 hx hZ hown (wd hw 102 rfl) Via.refl e33 f34 (hb hby d10_73) fun T35 X35 e35 => ?_
  refine gs.iloadN X35.here hx (hb hby d10_76) rfl ?_
  refine gs.aloadN X35.here hx (hb hby d10_77) rfl rfl ?_
  refine gs.iloadN X35.here hx (hb hby d10_78) rfl ?_
  show Go p e below _ (T35.setTop (mkF m 79 _ _))
  have f36 := ((((((((((f11.ext E14).wr W17).ext E18).wr W21).ext E22).wr W25).ext E26).wr W29).ext E30).wr W33)
  have f37 := ((((((((((((((HF_ad2_ArrayList_elementData.ext E3).other W6 (Or.inl (Ne.symm ne_ad1_ad2))).ext E7).other W10 (Or.inl (Ne.symm ne_ad1_ad2))).ext E14).other W17 (Or.inl (Ne.symm ne_ad1_ad2))).ext E18).other W21 (Or.inl (Ne.symm ne_ad1_ad2))).ext E22).other W25 (Or.inl (Ne.symm ne_ad1_ad2))).ext E26).other W29 (Or.inl (Ne.symm ne_ad1_ad2))).ext E30).other W33 (Or.inl (Ne.symm ne_ad1_ad2)))
  have f38 := ((((((((((f12.ext E14).other W17 (Or.inl (Ne.symm ne_ad1_ad2))).ext E18).other W21 (Or.inl (Ne.symm ne_ad1_ad2))).ext E22).other W25 (Or.inl (Ne.symm ne_ad1_ad2))).ext E26).other W29 (Or.inl (Ne.symm ne_ad1_ad2))).ext E30).other W33 (Or.inl (Ne.symm ne_ad1_ad2)))
  have f39 := ((((((((((((((g1_.ext E3).other W6 (Ne.symm ne_ad1_ad9)).ext E7).other W10 (Ne.symm ne_ad1_ad9)).ext E14).other W17 (Ne.symm ne_ad1_ad9)).ext E18).other W21 (Ne.symm ne_ad1_ad9)).ext E22).other W25 (Ne.symm ne_ad1_ad9)).ext E26).other W29 (Ne.symm ne_ad1_ad9)).ext E30).other W33 (Ne.symm ne_ad1_ad9))
  refine gs.face 2 X35 hx hZ hown (am18_1 l Z a0 hw [] u_1 aw0 u_0 kaw0 HW (ad2) ((0 : Int32)) (ad6) (ad9) ((3 : Int32)) (kc1) (fe) h33 n0 old33 f36 f37 f38 f39 (by decide) (by decide) (by decide) hv_fe0) (wd hw 155 rfl) (wd hw 54 rfl) (wd hw 148 rfl) (wd hw 149 rfl) (mvT hZ (wd hw 150 rfl)) (wd hw 151 rfl) (wd hw 152 rfl) (wd hw 153 rfl) (wd hw 154 rfl) (wd hw 96 rfl) (by decide) f36 (by decide) (by decide) (by rw [hml]; rfl) [(.int (0 : Int32))] (lenOf pd_14 rfl) rfl (Nat.le_of_eq rfl) (hb hby d10_79) rfl e35 (by decide) (by decide) fun T40 Lc40 v40 X40 hQ40 => ?_
  obtain ⟨rfl, Nq40, e40⟩ := hQ40
  have N40 := Fr.app N33 Nq40
  show Go p e below _ (T40.setTop (mkF m 84 _ [(.ref ad6), (.int (0 : Int32)), (.ref b14)]))
  have f41 := ((((((((((((((HE_ad6.ext E3).wr W6).ext E7).wr W10).ext E14).wr W17).ext E18).wr W21).ext E22).wr W25).ext E26).wr W29).ext E30).wr W33)
  obtain ⟨T42, X42, e42, st42⟩ := castY X40 hx hZ hown (wd hw 169 rfl) e40 (Ins.self f41) (g := (mkF m 84 #[.val (.ref ad1), .val (.ref ad2), .val (.int (3 : Int32)), .val (.int (0 : Int32))] [(.ref ad6), (.int (0 : Int32)), (.ref b14)])) rfl rfl (hb hby d10_84)
  refine Go.step st42 ?_
  show Go p e below _ (T42.setTop (mkF m 87 _ [(.ref ad6), (.int (0 : Int32)), (.ref b14)]))
  have f43 := ((((((((((((((HF_ad6_Variable_domain.ext E3).other W6 (Or.inl (Ne.symm ne_ad1_ad6))).ext E7).other W10 (Or.inl (Ne.symm ne_ad1_ad6))).ext E14).other W17 (Or.inl (Ne.symm ne_ad1_ad6))).ext E18).other W21 (Or.inl (Ne.symm ne_ad1_ad6))).ext E22).other W25 (Or.inl (Ne.symm ne_ad1_ad6))).ext E26).other W29 (Or.inl (Ne.symm ne_ad1_ad6))).ext E30).other W33 (Or.inl (Ne.symm ne_ad1_ad6)))
  refine gs.virt 2 X42 hx hZ hown (am22_1 l Z a0 hw [] u_1 aw0 u_0 kaw0 HW (ad6) (ad3) h33 n0 old33 f43) (wd hw 175 rfl) (wd hw 26 rfl) (wd hw 171 rfl) (wd hw 172 rfl) (notFace_of_selects (args := #[]) (mvT hZ (wd hw 174 rfl))) (wd hw 174 rfl) (wd hw 173 rfl) (by decide) f41 (by decide) (by decide) (by rw [hml]; rfl) [] (lenOf pd_15 rfl) rfl (Nat.le_of_eq rfl) (hb hby d10_87) rfl e42 (by decide) (by decide) fun T44 Lc44 v44 X44 hQ44 => ?_
  obtain ⟨rfl, Nq44, e44⟩ := hQ44
  have N44 := Fr.app N40 Nq44
  show Go p e below _ (T44.setTop (mkF m 90 _ [(.ref ad3), (.int (0 : Int32)), (.ref b14)]))
  have ne_ad1_b14 : ad1 ≠ b14 := Nat.ne_of_lt (Nat.lt_of_lt_of_le (f9.wr W10).lt (Nat.le_of_eq g14.symm))
  have f45 := (((((((((V14.other W17 (Ne.symm ne_ad1_b14)).ext E18).other W21 (Ne.symm ne_ad1_b14)).ext E22).other W25 (Ne.symm ne_ad1_b14)).ext E26).other W29 (Ne.symm ne_ad1_b14)).ext E30).other W33 (Ne.symm ne_ad1_b14))
  obtain ⟨cl46, Ar46, q46, Sz46, Ng46, Hs46, G46⟩ := id f45
  have hin46 : ¬ ((0 : Int32) < 0 ∨ cl46.slots.size ≤ ((0 : Int32)).toNatClampNeg) := inb_of Sz46 ⟨by decide, by decide⟩
  have f47 := ((((((((((((((HE_ad3.ext E3).wr W6).ext E7).wr W10).ext E14).wr W17).ext E18).wr W21).ext E22).wr W25).ext E26).wr W29).ext E30).wr W33)
  obtain ⟨T48, h48, X48, e48, W48, st48⟩ := stR X44 hx hZ e44 Ar46 (j := (0 : Int32)) hin46 rfl (Sto.ofV Ar46 q46 O14 (Ins.self f47)) (g := (mkF m 90 #[.val (.ref ad1), .val (.ref ad2), .val (.int (3 : Int32)), .val (.int (0 : Int32))] [(.ref ad3), (.int (0 : Int32)), (.ref b14)])) rfl rfl (hb hby d10_90)
  have N48 := Fr.snoc X48 N44 nn_b14
  have old48 := old33.wr W48 nn_b14
  have kp48 := kp33.wr W48 (Or.inr sz_b14)
  have V48 : Arv Z h48 b14 k14 (.object "com/example/monarc/monarc/InitialDomain") (3 : Int32) [(.ref ad3), .null, .null] .null := Arv.set Ar46 q46 Sz46 Ng46 Hs46 G46 rfl W48 0 rfl (Nat.le_of_ble_eq_true rfl)
  refine Go.fin st48 ?_
  show Go p e below _ (T48.setTop (mkF m 91 _ []))
  refine gs.aloadN X48.here hx (hb hby d10_91) rfl rfl ?_
  have f49 := (F33.other W48 (Or.inl ne_ad1_b14))
  refine gs.getF X48 hx hZ hown (wd hw 112 rfl) Via.refl e48 f49 (hb hby d10_92) fun T50 X50 e50 => ?_
  refine gs.iloadN X50.here hx (hb hby d10_95) rfl ?_
  refine gs.aloadN X50.here hx (hb hby d10_96) rfl rfl ?_
  have f51 := (f34.other W48 (Or.inl ne_ad1_b14))
  refine gs.getF X50 hx hZ hown (wd hw 102 rfl) Via.refl e50 f51 (hb hby d10_97) fun T52 X52 e52 => ?_
  refine gs.iloadN X52.here hx (hb hby d10_100) rfl ?_
  obtain ⟨cl53, Ar53, q53, Sz53, Ng53, Hs53, G53⟩ := id V48
  have hin53 : ¬ ((0 : Int32) < 0 ∨ cl53.slots.size ≤ ((0 : Int32)).toNatClampNeg) := inb_of Sz53 ⟨by decide, by decide⟩
  have hat53 : cl53.slots[((0 : Int32)).toNatClampNeg]? = some (.ref ad3) := Has.at Hs53 hin53 rfl
  refine Go.fin (fun t_ k_ => X52.aaload hx (j := (0 : Int32)) (v := (.ref ad3)) (by rw [e52]; exact Ar53.1) (State.isArrayOf_alike hZ.alike Ar53.2.1) rfl Ar53.2.2 hin53 hat53 (g := mkF m 101 _ _) rfl rfl (hb hby d10_101) _ k_) ?_
  show Go p e below _ (T52.setTop (mkF m 102 _ [(.ref ad3), (.int (0 : Int32)), (.ref b30)]))
  have f54 := (f47.wr W48)
  have ne_ad3_b14 : ad3 ≠ b14 := Nat.ne_of_lt (Nat.lt_of_lt_of_le ((((HE_ad3.ext E3).wr W6).ext E7).wr W10).lt (Nat.le_of_eq g14.symm))
  have f55 := (((((((((((((((HF_ad3_InitialDomain_size.ext E3).other W6 (Or.inl (Ne.symm ne_ad1_ad3))).ext E7).other W10 (Or.inl (Ne.symm ne_ad1_ad3))).ext E14).other W17 (Or.inl (Ne.symm ne_ad1_ad3))).ext E18).other W21 (Or.inl (Ne.symm ne_ad1_ad3))).ext E22).other W25 (Or.inl (Ne.symm ne_ad1_ad3))).ext E26).other W29 (Or.inl (Ne.symm ne_ad1_ad3))).ext E30).other W33 (Or.inl (Ne.symm ne_ad1_ad3))).other W48 (Or.inl ne_ad3_b14))
  refine gs.virt 2 X52 hx hZ hown (am23_1 l Z a0 hw [] u_1 aw0 u_0 kaw0 HW (ad3) (iv1) h48 n0 old48 f55) (wd hw 181 rfl) (wd hw 7 rfl) (wd hw 177 rfl) (wd hw 178 rfl) (notFace_of_selects (args := #[]) (mvT hZ (wd hw 180 rfl))) (wd hw 180 rfl) (wd hw 179 rfl) (by decide) f54 (by decide) (by decide) (by rw [hml]; rfl) [] (lenOf pd_5 rfl) rfl (Nat.le_of_eq rfl) (hb hby d10_102) rfl e52 (by decide) (by decide) fun T56 Lc56 v56 X56 hQ56 => ?_
  obtain ⟨rfl, Nq56, e56⟩ := hQ56
  have N56 := Fr.app N48 Nq56
  show Go p e below _ (T56.setTop (mkF m 105 _ [(.int iv1), (.int (0 : Int32)), (.ref b30)]))
  have ne_ad1_b30 : ad1 ≠ b30 := Nat.ne_of_lt (Nat.lt_of_lt_of_le (f28.wr W29).lt (Nat.le_of_eq g30.symm))
  have ne_b14_b30 : b14 ≠ b30 := Nat.ne_of_lt (Nat.lt_of_lt_of_le (((((((V14.other W17 (Ne.symm ne_ad1_b14)).ext E18).other W21 (Ne.symm ne_ad1_b14)).ext E22).other W25 (Ne.symm ne_ad1_b14)).ext E26).other W29 (Ne.symm ne_ad1_b14)).lt (Nat.le_of_eq g30.symm))
  have f57 := ((V30.other W33 (Ne.symm ne_ad1_b30)).other W48 (Ne.symm ne_b14_b30))
  obtain ⟨cl58, Ar58, q58, Sz58, Ng58, Hs58, G58⟩ := id f57
  have hin58 : ¬ ((0 : Int32) < 0 ∨ cl58.slots.size ≤ ((0 : Int32)).toNatClampNeg) := inb_of Sz58 ⟨by decide, by decide⟩
  obtain ⟨T59, h59, X59, e59, W59, st59⟩ := stI X56 hx hZ e56 Ar58 (j := (0 : Int32)) hin58 (g := (mkF m 105 #[.val (.ref ad1), .val (.ref ad2), .val (.int (3 : Int32)), .val (.int (0 : Int32))] [(.int iv1), (.int (0 : Int32)), (.ref b30)])) rfl rfl (hb hby d10_105)
  have N59 := Fr.snoc X59 N56 nn_b30
  have old59 := old48.wr W59 nn_b30
  have kp59 := kp48.wr W59 (Or.inr sz_b30)
  have V59 : Arv Z h59 b30 k30 .int (3 : Int32) [(.int iv1), (.int (0 : Int32)), (.int (0 : Int32))] (.int (0 : Int32)) := Arv.set Ar58 q58 Sz58 Ng58 Hs58 G58 rfl W59 0 rfl (Nat.le_of_ble_eq_true rfl)
  refine Go.fin st59 ?_
  show Go p e below _ (T59.setTop (mkF m 106 _ []))
  refine gs.aloadN X59.here hx (hb hby d10_106) rfl rfl ?_
  have f60 := ((((((F25.ext E26).other W29 (Or.inr (sn62 hw))).ext E30).other W33 (Or.inr (sn63 hw))).other W48 (Or.inl ne_ad1_b14)).other W59 (Or.inl ne_ad1_b30))
  refine gs.getF X59 hx hZ hown (wd hw 106 rfl) Via.refl e59 f60 (hb hby d10_107) fun T61 X61 e61 => ?_
  refine gs.iloadN X61.here hx (hb hby d10_110) rfl ?_
  refine gs.aloadN X61.here hx (hb hby d10_111) rfl rfl ?_
  have f62 := (f49.other W59 (Or.inl ne_ad1_b30))
  refine gs.getF X61 hx hZ hown (wd hw 112 rfl) Via.refl e61 f62 (hb hby d10_112) fun T63 X63 e63 => ?_
  refine gs.iloadN X63.here hx (hb hby d10_115) rfl ?_
  obtain ⟨cl64, Ar64, q64, Sz64, Ng64, Hs64, G64⟩ := id V59
  have hin64 : ¬ ((0 : Int32) < 0 ∨ cl64.slots.size ≤ ((0 : Int32)).toNatClampNeg) := inb_of Sz64 ⟨by decide, by decide⟩
  have hat64 : cl64.slots[((0 : Int32)).toNatClampNeg]? = some (.int iv1) := Has.at Hs64 hin64 rfl
  refine Go.fin (fun t_ k_ => X63.iaload hx (j := (0 : Int32)) (v := (.int iv1)) (by rw [e63]; exact Ar64.1) (State.isArrayOf_alike hZ.alike Ar64.2.1) Ar64.2.2 hin64 hat64 (g := mkF m 116 _ _) rfl rfl (hb hby d10_116) _ k_) ?_
  show Go p e below _ (T63.setTop (mkF m 117 _ [(.int iv1), (.int (0 : Int32)), (.ref b22)]))
  refine gs.iconst 1 X63.here hx (hb hby d10_117) rfl ?_
  refine gs.isub X63.here hx (hb hby d10_118) ?_
  have ne_ad1_b22 : ad1 ≠ b22 := Nat.ne_of_lt (Nat.lt_of_lt_of_le (f20.wr W21).lt (Nat.le_of_eq g22.symm))
  have ne_b14_b22 : b14 ≠ b22 := Nat.ne_of_lt (Nat.lt_of_lt_of_le (((V14.other W17 (Ne.symm ne_ad1_b14)).ext E18).other W21 (Ne.symm ne_ad1_b14)).lt (Nat.le_of_eq g22.symm))
  have ne_b22_b30 : b22 ≠ b30 := Nat.ne_of_lt (Nat.lt_of_lt_of_le (((V22.other W25 (Ne.symm ne_ad1_b22)).ext E26).other W29 (Ne.symm ne_ad1_b22)).lt (Nat.le_of_eq g30.symm))
  have f65 := (((((((V22.other W25 (Ne.symm ne_ad1_b22)).ext E26).other W29 (Ne.symm ne_ad1_b22)).ext E30).other W33 (Ne.symm ne_ad1_b22)).other W48 (Ne.symm ne_b14_b22)).other W59 ne_b22_b30)
  obtain ⟨cl66, Ar66, q66, Sz66, Ng66, Hs66, G66⟩ := id f65
  have hin66 : ¬ ((0 : Int32) < 0 ∨ cl66.slots.size ≤ ((0 : Int32)).toNatClampNeg) := inb_of Sz66 ⟨by decide, by decide⟩
  obtain ⟨T67, h67, X67, e67, W67, st67⟩ := stI X63 hx hZ e63 Ar66 (j := (0 : Int32)) hin66 (g := (mkF m 119 #[.val (.ref ad1), .val (.ref ad2), .val (.int (3 : Int32)), .val (.int (0 : Int32))] [(.int (iv1 - (1 : Int32))), (.int (0 : Int32)), (.ref b22)])) rfl rfl (hb hby d10_119)
  have N67 := Fr.snoc X67 N59 nn_b22
  have old67 := old59.wr W67 nn_b22
  have kp67 := kp59.wr W67 (Or.inr sz_b22)
  have V67 : Arv Z h67 b22 k22 .int (3 : Int32) [(.int (iv1 - (1 : Int32))), (.int (0 : Int32)), (.int (0 : Int32))] (.int (0 : Int32)) := Arv.set Ar66 q66 Sz66 Ng66 Hs66 G66 rfl W67 0 rfl (Nat.le_of_ble_eq_true rfl)
  refine Go.fin st67 ?_
  show Go p e below _ (T67.setTop (mkF m 120 _ []))
  refine gs.aloadN X67.here hx (hb hby d10_120) rfl rfl ?_
  refine gs.dup X67.here hx (hb hby d10_121) rfl ?_
  have f68 := (((((((((((((((((HF_ad1_Domains_withOneValue.ext E3).other W6 (Or.inr (sn64 hw))).ext E7).other W10 (Or.inr (sn65 hw))).ext E14).other W17 (Or.inr (sn66 hw))).ext E18).other W21 (Or.inr (sn67 hw))).ext E22).other W25 (Or.inr (sn68 hw))).ext E26).other W29 (Or.inr (sn69 hw))).ext E30).other W33 (Or.inr (sn70 hw))).other W48 (Or.inl ne_ad1_b14)).other W59 (Or.inl ne_ad1_b30)).other W67 (Or.inl ne_ad1_b22))
  refine gs.getF X67 hx hZ hown (wd hw 182 rfl) Via.refl e67 f68 (hb hby d10_122) fun T69 X69 e69 => ?_
  refine gs.aloadN X69.here hx (hb hby d10_125) rfl rfl ?_
  have f70 := (f62.other W67 (Or.inl ne_ad1_b22))
  refine gs.getF X69 hx hZ hown (wd hw 112 rfl) Via.refl e69 f70 (hb hby d10_126) fun T71 X71 e71 => ?_
  refine gs.iloadN X71.here hx (hb hby d10_129) rfl ?_
  have f72 := (V59.other W67 (Ne.symm ne_b22_b30))
  obtain ⟨cl73, Ar73, q73, Sz73, Ng73, Hs73, G73⟩ := id f72
  have hin73 : ¬ ((0 : Int32) < 0 ∨ cl73.slots.size ≤ ((0 : Int32)).toNatClampNeg) := inb_of Sz73 ⟨by decide, by decide⟩
  have hat73 : cl73.slots[((0 : Int32)).toNatClampNeg]? = some (.int iv1) := Has.at Hs73 hin73 rfl
  refine Go.fin (fun t_ k_ => X71.iaload hx (j := (0 : Int32)) (v := (.int iv1)) (by rw [e71]; exact Ar73.1) (State.isArrayOf_alike hZ.alike Ar73.2.1) Ar73.2.2 hin73 hat73 (g := mkF m 130 _ _) rfl rfl (hb hby d10_130) _ k_) ?_
  show Go p e below _ (T71.setTop (mkF m 131 _ [(.int iv1), (.int (0 : Int32)), (.ref ad1)]))
  refine gs.iconst 1 X71.here hx (hb hby d10_131) rfl ?_
  have J74 : ∀ z_74 : Int32, Go p e below (Fin1 s below (Q_am10_4 Z u_1 aw0 u_0 kaw0 ad1 ad2 ad3 iv1 ad4 iv2 ad5 iv3 ad6 ad7 ad8 ad9 kc1 h0 n0) (rm 3 7 1103 42).cells (rm 3 7 1103 42).slots) (T71.setTop (mkF m 140 #[.val (.ref ad1), .val (.ref ad2), .val (.int (3 : Int32)), .val (.int (0 : Int32))] [(.int z_74), (.int (0 : Int32)), (.ref ad1)])) := by
    intro z_74
    refine gs.iadd X71.here hx (hb hby d10_140) ?_
    have f75 := ((((f32.wr W33).wr W48).wr W59).wr W67)
    obtain ⟨T76, h76, X76, e76, W76, st76⟩ := putF X71 hx hZ hown (host := "") (Or.inl (wd hw 182 rfl)) Via.refl e71 f68 f75 (Or.inl (wd hw 183 rfl)) (wd hw 77 rfl) (ty := .int) (by decide) rfl rfl (g := (mkF m 141 #[.val (.ref ad1), .val (.ref ad2), .val (.int (3 : Int32)), .val (.int (0 : Int32))] [(.int ((0 : Int32) + z_74)), (.ref ad1)])) rfl rfl (hb hby d10_141)
    have N76 := Fr.snoc X76 N67 nn_ad1
    have old76 := old67.wr W76 nn_ad1
    have kp76 := kp67.wr W76 (Or.inl (List.mem_of_getElem? (i := 0) rfl))
    have F76 := f68.same W76
    refine Go.fin st76 ?_
    show Go p e below _ (T76.setTop (mkF m 144 _ []))
    refine Go.step (fun t_ k_ => XS.iinc X76.here hx rfl (hb hby d10_144) rfl (l' := #[.val (.ref ad1), .val (.ref ad2), .val (.int (3 : Int32)), .val (.int ((0 : Int32) + (1 : Int32)))]) rfl k_) ?_
    show Go p e below _ (T76.setTop (mkF m 147 #[.val (.ref ad1), .val (.ref ad2), .val (.int (3 : Int32)), .val (.int ((0 : Int32) + (1 : Int32)))] []))
    rw [show ((0 : Int32) + (1 : Int32)) = (1 : Int32) from by decide]
    refine gs.goto 67 X76.here hx (hb hby d10_147) rfl ?_
    refine gs.iloadN X76.here hx (hb hby d10_67) rfl ?_
    refine gs.iloadN X76.here hx (hb hby d10_68) rfl ?_
    have hc69_2 : (1 : Int32) < (3 : Int32) := by decide
    refine gs.icmpNo X76.here hx (hb hby d10_69) (tlt hc69_2).2.1 ?_
    refine gs.aloadN X76.here hx (hb hby d10_72) rfl rfl ?_
    have f77 := (((f51.other W59 (Or.inl ne_ad1_b30)).other W67 (Or.inl ne_ad1_b22)).other W76 (Or.inr (sn74 hw)))
    refine gs.getF X76 hx hZ hown (wd hw 102 rfl) Via.refl e76 f77 (hb hby d10_73) fun T78 X78 e78 => ?_
    refine gs.iloadN X78.here hx (hb hby d10_76) rfl ?_
    refine gs.aloadN X78.here hx (hb hby d10_77) rfl rfl ?_
    refine gs.iloadN X78.here hx (hb hby d10_78) rfl ?_
    have f79 := ((((f36.wr W48).wr W59).wr W67).wr W76)
    have ne_ad2_b14 : ad2 ≠ b14 := Nat.ne_of_lt (Nat.lt_of_lt_of_le f11.lt (Nat.le_of_eq g14.symm))
    have ne_ad2_b30 : ad2 ≠ b30 := Nat.ne_of_lt (Nat.lt_of_lt_of_le ((((((((f11.ext E14).wr W17).ext E18).wr W21).ext E22).wr W25).ext E26).wr W29).lt (Nat.le_of_eq g30.symm))
    have ne_ad2_b22 : ad2 ≠ b22 := Nat.ne_of_lt (Nat.lt_of_lt_of_le ((((f11.ext E14).wr W17).ext E18).wr W21).lt (Nat.le_of_eq g22.symm))
    have f80 := ((((f37.other W48 (Or.inl ne_ad2_b14)).other W59 (Or.inl ne_ad2_b30)).other W67 (Or.inl ne_ad2_b22)).other W76 (Or.inl (Ne.symm ne_ad1_ad2)))
    have f81 := ((((f38.other W48 (Or.inl ne_ad2_b14)).other W59 (Or.inl ne_ad2_b30)).other W67 (Or.inl ne_ad2_b22)).other W76 (Or.inl (Ne.symm ne_ad1_ad2)))
    have ne_ad9_b14 : ad9 ≠ b14 := Nat.ne_of_lt (Nat.lt_of_lt_of_le ((((g1_.ext E3).other W6 (Ne.symm ne_ad1_ad9)).ext E7).other W10 (Ne.symm ne_ad1_ad9)).lt (Nat.le_of_eq g14.symm))
    have ne_ad9_b30 : ad9 ≠ b30 := Nat.ne_of_lt (Nat.lt_of_lt_of_le ((((((((((((g1_.ext E3).other W6 (Ne.symm ne_ad1_ad9)).ext E7).other W10 (Ne.symm ne_ad1_ad9)).ext E14).other W17 (Ne.symm ne_ad1_ad9)).ext E18).other W21 (Ne.symm ne_ad1_ad9)).ext E22).other W25 (Ne.symm ne_ad1_ad9)).ext E26).other W29 (Ne.symm ne_ad1_ad9)).lt (Nat.le_of_eq g30.symm))
    have ne_ad9_b22 : ad9 ≠ b22 := Nat.ne_of_lt (Nat.lt_of_lt_of_le ((((((((g1_.ext E3).other W6 (Ne.symm ne_ad1_ad9)).ext E7).other W10 (Ne.symm ne_ad1_ad9)).ext E14).other W17 (Ne.symm ne_ad1_ad9)).ext E18).other W21 (Ne.symm ne_ad1_ad9)).lt (Nat.le_of_eq g22.symm))
    have f82 := ((((f39.other W48 ne_ad9_b14).other W59 ne_ad9_b30).other W67 ne_ad9_b22).other W76 (Ne.symm ne_ad1_ad9))
    refine gs.face 2 X78 hx hZ hown (am18_1 l Z a0 hw [] u_1 aw0 u_0 kaw0 HW (ad2) ((1 : Int32)) (ad7) (ad9) ((3 : Int32)) (kc1) (fe) h76 n0 old76 f79 f80 f81 f82 (by decide) (by decide) (by decide) hv_fe1) (wd hw 155 rfl) (wd hw 54 rfl) (wd hw 148 rfl) (wd hw 149 rfl) (mvT hZ (wd hw 150 rfl)) (wd hw 151 rfl) (wd hw 152 rfl) (wd hw 153 rfl) (wd hw 154 rfl) (wd hw 96 rfl) (by decide) f79 (by decide) (by decide) (by rw [hml]; rfl) [(.int (1 : Int32))] (lenOf pd_14 rfl) rfl (Nat.le_of_eq rfl) (hb hby d10_79) rfl e78 (by decide) (by decide) fun T83 Lc83 v83 X83 hQ83 => ?_
    obtain ⟨rfl, Nq83, e83⟩ := hQ83
    have N83 := Fr.app N76 Nq83
    show Go p e below _ (T83.setTop (mkF m 84 _ [(.ref ad7), (.int (1 : Int32)), (.ref b14)]))
    have f84 := ((((((((((((((((((HE_ad7.ext E3).wr W6).ext E7).wr W10).ext E14).wr W17).ext E18).wr W21).ext E22).wr W25).ext E26).wr W29).ext E30).wr W33).wr W48).wr W59).wr W67).wr W76)
    obtain ⟨T85, X85, e85, st85⟩ := castY X83 hx hZ hown (wd hw 169 rfl) e83 (Ins.self f84) (g := (mkF m 84 #[.val (.ref ad1), .val (.ref ad2), .val (.int (3 : Int32)), .val (.int (1 : Int32))] [(.ref ad7), (.int (1 : Int32)), (.ref b14)])) rfl rfl (hb hby d10_84)
    refine Go.step st85 ?_
    show Go p e below _ (T85.setTop (mkF m 87 _ [(.ref ad7), (.int (1 : Int32)), (.ref b14)]))
    have ne_ad7_b14 : ad7 ≠ b14 := Nat.ne_of_lt (Nat.lt_of_lt_of_le ((((HE_ad7.ext E3).wr W6).ext E7).wr W10).lt (Nat.le_of_eq g14.symm))
    have ne_ad7_b30 : ad7 ≠ b30 := Nat.ne_of_lt (Nat.lt_of_lt_of_le ((((((((((((HE_ad7.ext E3).wr W6).ext E7).wr W10).ext E14).wr W17).ext E18).wr W21).ext E22).wr W25).ext E26).wr W29).lt (Nat.le_of_eq g30.symm))
    have ne_ad7_b22 : ad7 ≠ b22 := Nat.ne_of_lt (Nat.lt_of_lt_of_le ((((((((HE_ad7.ext E3).wr W6).ext E7).wr W10).ext E14).wr W17).ext E18).wr W21).lt (Nat.le_of_eq g22.symm))
    have f86 := ((((((((((((((((((HF_ad7_Variable_domain.ext E3).other W6 (Or.inl (Ne.symm ne_ad1_ad7))).ext E7).other W10 (Or.inl (Ne.symm ne_ad1_ad7))).ext E14).other W17 (Or.inl (Ne.symm ne_ad1_ad7))).ext E18).other W21 (Or.inl (Ne.symm ne_ad1_ad7))).ext E22).other W25 (Or.inl (Ne.symm ne_ad1_ad7))).ext E26).other W29 (Or.inl (Ne.symm ne_ad1_ad7))).ext E30).other W33 (Or.inl (Ne.symm ne_ad1_ad7))).other W48 (Or.inl ne_ad7_b14)).other W59 (Or.inl ne_ad7_b30)).other W67 (Or.inl ne_ad7_b22)).other W76 (Or.inl (Ne.symm ne_ad1_ad7)))
    refine gs.virt 2 X85 hx hZ hown (am22_1 l Z a0 hw [] u_1 aw0 u_0 kaw0 HW (ad7) (ad4) h76 n0 old76 f86) (wd hw 175 rfl) (wd hw 26 rfl) (wd hw 171 rfl) (wd hw 172 rfl) (notFace_of_selects (args := #[]) (mvT hZ (wd hw 174 rfl))) (wd hw 174 rfl) (wd hw 173 rfl) (by decide) f84 (by decide) (by decide) (by rw [hml]; rfl) [] (lenOf pd_15 rfl) rfl (Nat.le_of_eq rfl) (hb hby d10_87) rfl e85 (by decide) (by decide) fun T87 Lc87 v87 X87 hQ87 => ?_
    obtain ⟨rfl, Nq87, e87⟩ := hQ87
    have N87 := Fr.app N83 Nq87
    show Go p e below _ (T87.setTop (mkF m 90 _ [(.ref ad4), (.int (1 : Int32)), (.ref b14)]))
    have f88 := (((V48.other W59 ne_b14_b30).other W67 ne_b14_b22).other W76 (Ne.symm ne_ad1_b14))
    obtain ⟨cl89, Ar89, q89, Sz89, Ng89, Hs89, G89⟩ := id f88
    have hin89 : ¬ ((1 : Int32) < 0 ∨ cl89.slots.size ≤ ((1 : Int32)).toNatClampNeg) := inb_of Sz89 ⟨by decide, by decide⟩
    have f90 := ((((((((((((((((((HE_ad4.ext E3).wr W6).ext E7).wr W10).ext E14).wr W17).ext E18).wr W21).ext E22).wr W25).ext E26).wr W29).ext E30).wr W33).wr W48).wr W59).wr W67).wr W76)
    obtain ⟨T91, h91, X91, e91, W91, st91⟩ := stR X87 hx hZ e87 Ar89 (j := (1 : Int32)) hin89 rfl (Sto.ofV Ar89 q89 O14 (Ins.self f90)) (g := (mkF m 90 #[.val (.ref ad1), .val (.ref ad2), .val (.int (3 : Int32)), .val (.int (1 : Int32))] [(.ref ad4), (.int (1 : Int32)), (.ref b14)])) rfl rfl (hb hby d10_90)
    have N91 := Fr.snoc X91 N87 nn_b14
    have old91 := old76.wr W91 nn_b14
    have kp91 := kp76.wr W91 (Or.inr sz_b14)
    have V91 : Arv Z h91 b14 k14 (.object "com/example/monarc/monarc/InitialDomain") (3 : Int32) [(.ref ad3), (.ref ad4), .null] .null := Arv.set Ar89 q89 Sz89 Ng89 Hs89 G89 rfl W91 1 rfl (Nat.le_of_ble_eq_true rfl)
    refine Go.fin st91 ?_
    show Go p e below _ (T91.setTop (mkF m 91 _ []))
    refine gs.aloadN X91.here hx (hb hby d10_91) rfl rfl ?_
    have f92 := ((f70.other W76 (Or.inr (sn77 hw))).other W91 (Or.inl ne_ad1_b14))
    refine gs.getF X91 hx hZ hown (wd hw 112 rfl) Via.refl e91 f92 (hb hby d10_92) fun T93 X93 e93 => ?_
    refine gs.iloadN X93.here hx (hb hby d10_95) rfl ?_
    refine gs.aloadN X93.here hx (hb hby d10_96) rfl rfl ?_
    have f94 := (f77.other W91 (Or.inl ne_ad1_b14))
    refine gs.getF X93 hx hZ hown (wd hw 102 rfl) Via.refl e93 f94 (hb hby d10_97) fun T95 X95 e95 => ?_
    refine gs.iloadN X95.here hx (hb hby d10_100) rfl ?_
    obtain ⟨cl96, Ar96, q96, Sz96, Ng96, Hs96, G96⟩ := id V91
    have hin96 : ¬ ((1 : Int32) < 0 ∨ cl96.slots.size ≤ ((1 : Int32)).toNatClampNeg) := inb_of Sz96 ⟨by decide, by decide⟩
    have hat96 : cl96.slots[((1 : Int32)).toNatClampNeg]? = some (.ref ad4) := Has.at Hs96 hin96 rfl
    refine Go.fin (fun t_ k_ => X95.aaload hx (j := (1 : Int32)) (v := (.ref ad4)) (by rw [e95]; exact Ar96.1) (State.isArrayOf_alike hZ.alike Ar96.2.1) rfl Ar96.2.2 hin96 hat96 (g := mkF m 101 _ _) rfl rfl (hb hby d10_101) _ k_) ?_
    show Go p e below _ (T95.setTop (mkF m 102 _ [(.ref ad4), (.int (1 : Int32)), (.ref b30)]))
    have f97 := (f90.wr W91)
    have ne_ad4_b14 : ad4 ≠ b14 := Nat.ne_of_lt (Nat.lt_of_lt_of_le ((((HE_ad4.ext E3).wr W6).ext E7).wr W10).lt (Nat.le_of_eq g14.symm))
    have ne_ad4_b30 : ad4 ≠ b30 := Nat.ne_of_lt (Nat.lt_of_lt_of_le ((((((((((((HE_ad4.ext E3).wr W6).ext E7).wr W10).ext E14).wr W17).ext E18).wr W21).ext E22).wr W25).ext E26).wr W29).lt (Nat.le_of_eq g30.symm))
    have ne_ad4_b22 : ad4 ≠ b22 := Nat.ne_of_lt (Nat.lt_of_lt_of_le ((((((((HE_ad4.ext E3).wr W6).ext E7).wr W10).ext E14).wr W17).ext E18).wr W21).lt (Nat.le_of_eq g22.symm))
    have f98 := (((((((((((((((((((HF_ad4_InitialDomain_size.ext E3).other W6 (Or.inl (Ne.symm ne_ad1_ad4))).ext E7).other W10 (Or.inl (Ne.symm ne_ad1_ad4))).ext E14).other W17 (Or.inl (Ne.symm ne_ad1_ad4))).ext E18).other W21 (Or.inl (Ne.symm ne_ad1_ad4))).ext E22).other W25 (Or.inl (Ne.symm ne_ad1_ad4))).ext E26).other W29 (Or.inl (Ne.symm ne_ad1_ad4))).ext E30).other W33 (Or.inl (Ne.symm ne_ad1_ad4))).other W48 (Or.inl ne_ad4_b14)).other W59 (Or.inl ne_ad4_b30)).other W67 (Or.inl ne_ad4_b22)).other W76 (Or.inl (Ne.symm ne_ad1_ad4))).other W91 (Or.inl ne_ad4_b14))
    refine gs.virt 2 X95 hx hZ hown (am23_1 l Z a0 hw [] u_1 aw0 u_0 kaw0 HW (ad4) (iv2) h91 n0 old91 f98) (wd hw 181 rfl) (wd hw 7 rfl) (wd hw 177 rfl) (wd hw 178 rfl) (notFace_of_selects (args := #[]) (mvT hZ (wd hw 180 rfl))) (wd hw 180 rfl) (wd hw 179 rfl) (by decide) f97 (by decide) (by decide) (by rw [hml]; rfl) [] (lenOf pd_5 rfl) rfl (Nat.le_of_eq rfl) (hb hby d10_102) rfl e95 (by decide) (by decide) fun T99 Lc99 v99 X99 hQ99 => ?_
    obtain ⟨rfl, Nq99, e99⟩ := hQ99
    have N99 := Fr.app N91 Nq99
    show Go p e below _ (T99.setTop (mkF m 105 _ [(.int iv2), (.int (1 : Int32)), (.ref b30)]))
    have f100 := ((f72.other W76 (Ne.symm ne_ad1_b30)).other W91 (Ne.symm ne_b14_b30))
    obtain ⟨cl101, Ar101, q101, Sz101, Ng101, Hs101, G101⟩ := id f100
    have hin101 : ¬ ((1 : Int32) < 0 ∨ cl101.slots.size ≤ ((1 : Int32)).toNatClampNeg) := inb_of Sz101 ⟨by decide, by decide⟩
    obtain ⟨T102, h102, X102, e102, W102, st102⟩ := stI X99 hx hZ e99 Ar101 (j := (1 : Int32)) hin101 (g := (mkF m 105 #[.val (.ref ad1), .val (.ref ad2), .val (.int (3 : Int32)), .val (.int (1 : Int32))] [(.int iv2), (.int (1 : Int32)), (.ref b30)])) rfl rfl (hb hby d10_105)
    have N102 := Fr.snoc X102 N99 nn_b30
    have old102 := old91.wr W102 nn_b30
    have kp102 := kp91.wr W102 (Or.inr sz_b30)
    have V102 : Arv Z h102 b30 k30 .int (3 : Int32) [(.int iv1), (.int iv2), (.int (0 : Int32))] (.int (0 : Int32)) := Arv.set Ar101 q101 Sz101 Ng101 Hs101 G101 rfl W102 1 rfl (Nat.le_of_ble_eq_true rfl)
    refine Go.fin st102 ?_
    show Go p e below _ (T102.setTop (mkF m 106 _ []))
    refine gs.aloadN X102.here hx (hb hby d10_106) rfl rfl ?_
    have f103 := ((((f60.other W67 (Or.inl ne_ad1_b22)).other W76 (Or.inr (sn80 hw))).other W91 (Or.inl ne_ad1_b14)).other W102 (Or.inl ne_ad1_b30))
    refine gs.getF X102 hx hZ hown (wd hw 106 rfl) Via.refl e102 f103 (hb hby d10_107) fun T104 X104 e104 => ?_
    refine gs.iloadN X104.here hx (hb hby d10_110) rfl ?_
    refine gs.aloadN X104.here hx (hb hby d10_111) rfl rfl ?_
    have f105 := (f92.other W102 (Or.inl ne_ad1_b30))
    refine gs.getF X104 hx hZ hown (wd hw 112 rfl) Via.refl e104 f105 (hb hby d10_112) fun T106 X106 e106 => ?_
    refine gs.iloadN X106.here hx (hb hby d10_115) rfl ?_
    obtain ⟨cl107, Ar107, q107, Sz107, Ng107, Hs107, G107⟩ := id V102
    have hin107 : ¬ ((1 : Int32) < 0 ∨ cl107.slots.size ≤ ((1 : Int32)).toNatClampNeg) := inb_of Sz107 ⟨by decide, by decide⟩
    have hat107 : cl107.slots[((1 : Int32)).toNatClampNeg]? = some (.int iv2) := Has.at Hs107 hin107 rfl
    refine Go.fin (fun t_ k_ => X106.iaload hx (j := (1 : Int32)) (v := (.int iv2)) (by rw [e106]; exact Ar107.1) (State.isArrayOf_alike hZ.alike Ar107.2.1) Ar107.2.2 hin107 hat107 (g := mkF m 116 _ _) rfl rfl (hb hby d10_116) _ k_) ?_
    show Go p e below _ (T106.setTop (mkF m 117 _ [(.int iv2), (.int (1 : Int32)), (.ref b22)]))
    refine gs.iconst 1 X106.here hx (hb hby d10_117) rfl ?_
    refine gs.isub X106.here hx (hb hby d10_118) ?_
    have f108 := (((V67.other W76 (Ne.symm ne_ad1_b22)).other W91 (Ne.symm ne_b14_b22)).other W102 ne_b22_b30)
    obtain ⟨cl109, Ar109, q109, Sz109, Ng109, Hs109, G109⟩ := id f108
    have hin109 : ¬ ((1 : Int32) < 0 ∨ cl109.slots.size ≤ ((1 : Int32)).toNatClampNeg) := inb_of Sz109 ⟨by decide, by decide⟩
    obtain ⟨T110, h110, X110, e110, W110, st110⟩ := stI X106 hx hZ e106 Ar109 (j := (1 : Int32)) hin109 (g := (mkF m 119 #[.val (.ref ad1), .val (.ref ad2), .val (.int (3 : Int32)), .val (.int (1 : Int32))] [(.int (iv2 - (1 : Int32))), (.int (1 : Int32)), (.ref b22)])) rfl rfl (hb hby d10_119)
    have N110 := Fr.snoc X110 N102 nn_b22
    have old110 := old102.wr W110 nn_b22
    have kp110 := kp102.wr W110 (Or.inr sz_b22)
    have V110 : Arv Z h110 b22 k22 .int (3 : Int32) [(.int (iv1 - (1 : Int32))), (.int (iv2 - (1 : Int32))), (.int (0 : Int32))] (.int (0 : Int32)) := Arv.set Ar109 q109 Sz109 Ng109 Hs109 G109 rfl W110 1 rfl (Nat.le_of_ble_eq_true rfl)
    refine Go.fin st110 ?_
    show Go p e below _ (T110.setTop (mkF m 120 _ []))
    refine gs.aloadN X110.here hx (hb hby d10_120) rfl rfl ?_
    refine gs.dup X110.here hx (hb hby d10_121) rfl ?_
    have f111 := (((F76.other W91 (Or.inl ne_ad1_b14)).other W102 (Or.inl ne_ad1_b30)).other W110 (Or.inl ne_ad1_b22))
    refine gs.getF X110 hx hZ hown (wd hw 182 rfl) Via.refl e110 f111 (hb hby d10_122) fun T112 X112 e112 => ?_
    refine gs.aloadN X112.here hx (hb hby d10_125) rfl rfl ?_
    have f113 := (f105.other W110 (Or.inl ne_ad1_b22))
    refine gs.getF X112 hx hZ hown (wd hw 112 rfl) Via.refl e112 f113 (hb hby d10_126) fun T114 X114 e114 => ?_
    refine gs.iloadN X114.here hx (hb hby d10_129) rfl ?_
    have f115 := (V102.other W110 (Ne.symm ne_b22_b30))
    obtain ⟨cl116, Ar116, q116, Sz116, Ng116, Hs116, G116⟩ := id f115
    have hin116 : ¬ ((1 : Int32) < 0 ∨ cl116.slots.size ≤ ((1 : Int32)).toNatClampNeg) := inb_of Sz116 ⟨by decide, by decide⟩
    have hat116 : cl116.slots[((1 : Int32)).toNatClampNeg]? = some (.int iv2) := Has.at Hs116 hin116 rfl
    refine Go.fin (fun t_ k_ => X114.iaload hx (j := (1 : Int32)) (v := (.int iv2)) (by rw [e114]; exact Ar116.1) (State.isArrayOf_alike hZ.alike Ar116.2.1) Ar116.2.2 hin116 hat116 (g := mkF m 130 _ _) rfl rfl (hb hby d10_130) _ k_) ?_
    show Go p e below _ (T114.setTop (mkF m 131 _ [(.int iv2), (.int ((0 : Int32) + z_74)), (.ref ad1)]))
    refine gs.iconst 1 X114.here hx (hb hby d10_131) rfl ?_
    have J117 : ∀ z_117 : Int32, Go p e below (Fin1 s below (Q_am10_4 Z u_1 aw0 u_0 kaw0 ad1 ad2 ad3 iv1 ad4 iv2 ad5 iv3 ad6 ad7 ad8 ad9 kc1 h0 n0) (rm 3 7 1103 42).cells (rm 3 7 1103 42).slots) (T114.setTop (mkF m 140 #[.val (.ref ad1), .val (.ref ad2), .val (.int (3 : Int32)), .val (.int (1 : Int32))] [(.int z_117), (.int ((0 : Int32) + z_74)), (.ref ad1)])) := by
      intro z_117
      refine gs.iadd X114.here hx (hb hby d10_140) ?_
      have f118 := ((((f75.wr W76).wr W91).wr W102).wr W110)
      obtain ⟨T119, h119, X119, e119, W119, st119⟩ := putF X114 hx hZ hown (host := "") (Or.inl (wd hw 182 rfl)) Via.refl e114 f111 f118 (Or.inl (wd hw 183 rfl)) (wd hw 77 rfl) (ty := .int) (by decide) rfl rfl (g := (mkF m 141 #[.val (.ref ad1), .val (.ref ad2), .val (.int (3 : Int32)), .val (.int (1 : Int32))] [(.int (((0 : Int32) + z_74) + z_117)), (.ref ad1)])) rfl rfl (hb hby d10_141)
      have N119 := Fr.snoc X119 N110 nn_ad1
      have old119 := old110.wr W119 nn_ad1
      have kp119 := kp110.wr W119 (Or.inl (List.mem_of_getElem? (i := 0) rfl))
      have F119 := f111.same W119
      refine Go.fin st119 ?_
      show Go p e below _ (T119.setTop (mkF m 144 _ []))
      refine Go.step (fun t_ k_ => XS.iinc X119.here hx rfl (hb hby d10_144) rfl (l' := #[.val (.ref ad1), .val (.ref ad2), .val (.int (3 : Int32)), .val (.int ((1 : Int32) + (1 : Int32)))]) rfl k_) ?_
      show Go p e below _ (T119.setTop (mkF m 147 #[.val (.ref ad1), .val (.ref ad2), .val (.int (3 : Int32)), .val (.int ((1 : Int32) + (1 : Int32)))] []))
      rw [show ((1 : Int32) + (1 : Int32)) = (2 : Int32) from by decide]
      refine gs.goto 67 X119.here hx (hb hby d10_147) rfl ?_
      refine gs.iloadN X119.here hx (hb hby d10_67) rfl ?_
      refine gs.iloadN X119.here hx (hb hby d10_68) rfl ?_
      have hc69_3 : (2 : Int32) < (3 : Int32) := by decide
      refine gs.icmpNo X119.here hx (hb hby d10_69) (tlt hc69_3).2.1 ?_
      refine gs.aloadN X119.here hx (hb hby d10_72) rfl rfl ?_
      have f120 := (((f94.other W102 (Or.inl ne_ad1_b30)).other W110 (Or.inl ne_ad1_b22)).other W119 (Or.inr (sn74 hw)))
      refine gs.getF X119 hx hZ hown (wd hw 102 rfl) Via.refl e119 f120 (hb hby d10_73) fun T121 X121 e121 => ?_
      refine gs.iloadN X121.here hx (hb hby d10_76) rfl ?_
      refine gs.aloadN X121.here hx (hb hby d10_77) rfl rfl ?_
      refine gs.iloadN X121.here hx (hb hby d10_78) rfl ?_
      have f122 := ((((f79.wr W91).wr W102).wr W110).wr W119)
      have f123 := ((((f80.other W91 (Or.inl ne_ad2_b14)).other W102 (Or.inl ne_ad2_b30)).other W110 (Or.inl ne_ad2_b22)).other W119 (Or.inl (Ne.symm ne_ad1_ad2)))
      have f124 := ((((f81.other W91 (Or.inl ne_ad2_b14)).other W102 (Or.inl ne_ad2_b30)).other W110 (Or.inl ne_ad2_b22)).other W119 (Or.inl (Ne.symm ne_ad1_ad2)))
      have f125 := ((((f82.other W91 ne_ad9_b14).other W102 ne_ad9_b30).other W110 ne_ad9_b22).other W119 (Ne.symm ne_ad1_ad9))
      refine gs.face 2 X121 hx hZ hown (am18_1 l Z a0 hw [] u_1 aw0 u_0 kaw0 HW (ad2) ((2 : Int32)) (ad8) (ad9) ((3 : Int32)) (kc1) (fe) h119 n0 old119 f122 f123 f124 f125 (by decide) (by decide) (by decide) hv_fe2) (wd hw 155 rfl) (wd hw 54 rfl) (wd hw 148 rfl) (wd hw 149 rfl) (mvT hZ (wd hw 150 rfl)) (wd hw 151 rfl) (wd hw 152 rfl) (wd hw 153 rfl) (wd hw 154 rfl) (wd hw 96 rfl) (by decide) f122 (by decide) (by decide) (by rw [hml]; rfl) [(.int (2 : Int32))] (lenOf pd_14 rfl) rfl (Nat.le_of_eq rfl) (hb hby d10_79) rfl e121 (by decide) (by decide) fun T126 Lc126 v126 X126 hQ126 => ?_
      obtain ⟨rfl, Nq126, e126⟩ := hQ126
      have N126 := Fr.app N119 Nq126
      show Go p e below _ (T126.setTop (mkF m 84 _ [(.ref ad8), (.int (2 : Int32)), (.ref b14)]))
      have f127 := ((((((((((((((((((((((HE_ad8.ext E3).wr W6).ext E7).wr W10).ext E14).wr W17).ext E18).wr W21).ext E22).wr W25).ext E26).wr W29).ext E30).wr W33).wr W48).wr W59).wr W67).wr W76).wr W91).wr W102).wr W110).wr W119)
      obtain ⟨T128, X128, e128, st128⟩ := castY X126 hx hZ hown (wd hw 169 rfl) e126 (Ins.self f127) (g := (mkF m 84 #[.val (.ref ad1), .val (.ref ad2), .val (.int (3 : Int32)), .val (.int (2 : Int32))] [(.ref ad8), (.int (2 : Int32)), (.ref b14)])) rfl rfl (hb hby d10_84)
      refine Go.step st128 ?_
      show Go p e below _ (T128.setTop (mkF m 87 _ [(.ref ad8), (.int (2 : Int32)), (.ref b14)]))
      have ne_ad8_b14 : ad8 ≠ b14 := Nat.ne_of_lt (Nat.lt_of_lt_of_le ((((HE_ad8.ext E3).wr W6).ext E7).wr W10).lt (Nat.le_of_eq g14.symm))
      have ne_ad8_b30 : ad8 ≠ b30 := Nat.ne_of_lt (Nat.lt_of_lt_of_le ((((((((((((HE_ad8.ext E3).wr W6).ext E7).wr W10).ext E14).wr W17).ext E18).wr W21).ext E22).wr W25).ext E26).wr W29).lt (Nat.le_of_eq g30.symm))
      have ne_ad8_b22 : ad8 ≠ b22 := Nat.ne_of_lt (Nat.lt_of_lt_of_le ((((((((HE_ad8.ext E3).wr W6).ext E7).wr W10).ext E14).wr W17).ext E18).wr W21).lt (Nat.le_of_eq g22.symm))
      have f129 := ((((((((((((((((((((((HF_ad8_Variable_domain.ext E3).other W6 (Or.inl (Ne.symm ne_ad1_ad8))).ext E7).other W10 (Or.inl (Ne.symm ne_ad1_ad8))).ext E14).other W17 (Or.inl (Ne.symm ne_ad1_ad8))).ext E18).other W21 (Or.inl (Ne.symm ne_ad1_ad8))).ext E22).other W25 (Or.inl (Ne.symm ne_ad1_ad8))).ext E26).other W29 (Or.inl (Ne.symm ne_ad1_ad8))).ext E30).other W33 (Or.inl (Ne.symm ne_ad1_ad8))).other W48 (Or.inl ne_ad8_b14)).other W59 (Or.inl ne_ad8_b30)).other W67 (Or.inl ne_ad8_b22)).other W76 (Or.inl (Ne.symm ne_ad1_ad8))).other W91 (Or.inl ne_ad8_b14)).other W102 (Or.inl ne_ad8_b30)).other W110 (Or.inl ne_ad8_b22)).other W119 (Or.inl (Ne.symm ne_ad1_ad8)))
      refine gs.virt 2 X128 hx hZ hown (am22_1 l Z a0 hw [] u_1 aw0 u_0 kaw0 HW (ad8) (ad5) h119 n0 old119 f129) (wd hw 175 rfl) (wd hw 26 rfl) (wd hw 171 rfl) (wd hw 172 rfl) (notFace_of_selects (args := #[]) (mvT hZ (wd hw 174 rfl))) (wd hw 174 rfl) (wd hw 173 rfl) (by decide) f127 (by decide) (by decide) (by rw [hml]; rfl) [] (lenOf pd_15 rfl) rfl (Nat.le_of_eq rfl) (hb hby d10_87) rfl e128 (by decide) (by decide) fun T130 Lc130 v130 X130 hQ130 => ?_
      obtain ⟨rfl, Nq130, e130⟩ := hQ130
      have N130 := Fr.app N126 Nq130
      show Go p e below _ (T130.setTop (mkF m 90 _ [(.ref ad5), (.int (2 : Int32)), (.ref b14)]))
      have f131 := (((V91.other W102 ne_b14_b30).other W110 ne_b14_b22).other W119 (Ne.symm ne_ad1_b14))
      obtain ⟨cl132, Ar132, q132, Sz132, Ng132, Hs132, G132⟩ := id f131
      have hin132 : ¬ ((2 : Int32) < 0 ∨ cl132.slots.size ≤ ((2 : Int32)).toNatClampNeg) := inb_of Sz132 ⟨by decide, by decide⟩
      have f133 := ((((((((((((((((((((((HE_ad5.ext E3).wr W6).ext E7).wr W10).ext E14).wr W17).ext E18).wr W21).ext E22).wr W25).ext E26).wr W29).ext E30).wr W33).wr W48).wr W59).wr W67).wr W76).wr W91).wr W102).wr W110).wr W119)
      obtain ⟨T134, h134, X134, e134, W134, st134⟩ := stR X130 hx hZ e130 Ar132 (j := (2 : Int32)) hin132 rfl (Sto.ofV Ar132 q132 O14 (Ins.self f133)) (g := (mkF m 90 #[.val (.ref ad1), .val (.ref ad2), .val (.int (3 : Int32)), .val (.int (2 : Int32))] [(.ref ad5), (.int (2 : Int32)), (.ref b14)])) rfl rfl (hb hby d10_90)
      have N134 := Fr.snoc X134 N130 nn_b14
      have old134 := old119.wr W134 nn_b14
      have kp134 := kp119.wr W134 (Or.inr sz_b14)
      have V134 : Arv Z h134 b14 k14 (.object "com/example/monarc/monarc/InitialDomain") (3 : Int32) [(.ref ad3), (.ref ad4), (.ref ad5)] .null := Arv.set Ar132 q132 Sz132 Ng132 Hs132 G132 rfl W134 2 rfl (Nat.le_of_ble_eq_true rfl)
      refine Go.fin st134 ?_
      show Go p e below _ (T134.setTop (mkF m 91 _ []))
      refine gs.aloadN X134.here hx (hb hby d10_91) rfl rfl ?_
      have f135 := ((f113.other W119 (Or.inr (sn77 hw))).other W134 (Or.inl ne_ad1_b14))
      refine gs.getF X134 hx hZ hown (wd hw 112 rfl) Via.refl e134 f135 (hb hby d10_92) fun T136 X136 e136 => ?_
      refine gs.iloadN X136.here hx (hb hby d10_95) rfl ?_
      refine gs.aloadN X136.here hx (hb hby d10_96) rfl rfl ?_
      have f137 := (f120.other W134 (Or.inl ne_ad1_b14))
      refine gs.getF X136 hx hZ hown (wd hw 102 rfl) Via.refl e136 f137 (hb hby d10_97) fun T138 X138 e138 => ?_
      refine gs.iloadN X138.here hx (hb hby d10_100) rfl ?_
      obtain ⟨cl139, Ar139, q139, Sz139, Ng139, Hs139, G139⟩ := id V134
      have hin139 : ¬ ((2 : Int32) < 0 ∨ cl139.slots.size ≤ ((2 : Int32)).toNatClampNeg) := inb_of Sz139 ⟨by decide, by decide⟩
      have hat139 : cl139.slots[((2 : Int32)).toNatClampNeg]? = some (.ref ad5) := Has.at Hs139 hin139 rfl
      refine Go.fin (fun t_ k_ => X138.aaload hx (j := (2 : Int32)) (v := (.ref ad5)) (by rw [e138]; exact Ar139.1) (State.isArrayOf_alike hZ.alike Ar139.2.1) rfl Ar139.2.2 hin139 hat139 (g := mkF m 101 _ _) rfl rfl (hb hby d10_101) _ k_) ?_
      show Go p e below _ (T138.setTop (mkF m 102 _ [(.ref ad5), (.int (2 : Int32)), (.ref b30)]))
      have f140 := (f133.wr W134)
      have ne_ad5_b14 : ad5 ≠ b14 := Nat.ne_of_lt (Nat.lt_of_lt_of_le ((((HE_ad5.ext E3).wr W6).ext E7).wr W10).lt (Nat.le_of_eq g14.symm))
      have ne_ad5_b30 : ad5 ≠ b30 := Nat.ne_of_lt (Nat.lt_of_lt_of_le ((((((((((((HE_ad5.ext E3).wr W6).ext E7).wr W10).ext E14).wr W17).ext E18).wr W21).ext E22).wr W25).ext E26).wr W29).lt (Nat.le_of_eq g30.symm))
      have ne_ad5_b22 : ad5 ≠ b22 := Nat.ne_of_lt (Nat.lt_of_lt_of_le ((((((((HE_ad5.ext E3).wr W6).ext E7).wr W10).ext E14).wr W17).ext E18).wr W21).lt (Nat.le_of_eq g22.symm))
      have f141 := (((((((((((((((((((((((HF_ad5_InitialDomain_size.ext E3).other W6 (Or.inl (Ne.symm ne_ad1_ad5))).ext E7).other W10 (Or.inl (Ne.symm ne_ad1_ad5))).ext E14).other W17 (Or.inl (Ne.symm ne_ad1_ad5))).ext E18).other W21 (Or.inl (Ne.symm ne_ad1_ad5))).ext E22).other W25 (Or.inl (Ne.symm ne_ad1_ad5))).ext E26).other W29 (Or.inl (Ne.symm ne_ad1_ad5))).ext E30).other W33 (Or.inl (Ne.symm ne_ad1_ad5))).other W48 (Or.inl ne_ad5_b14)).other W59 (Or.inl ne_ad5_b30)).other W67 (Or.inl ne_ad5_b22)).other W76 (Or.inl (Ne.symm ne_ad1_ad5))).other W91 (Or.inl ne_ad5_b14)).other W102 (Or.inl ne_ad5_b30)).other W110 (Or.inl ne_ad5_b22)).other W119 (Or.inl (Ne.symm ne_ad1_ad5))).other W134 (Or.inl ne_ad5_b14))
      refine gs.virt 2 X138 hx hZ hown (am23_1 l Z a0 hw [] u_1 aw0 u_0 kaw0 HW (ad5) (iv3) h134 n0 old134 f141) (wd hw 181 rfl) (wd hw 7 rfl) (wd hw 177 rfl) (wd hw 178 rfl) (notFace_of_selects (args := #[]) (mvT hZ (wd hw 180 rfl))) (wd hw 180 rfl) (wd hw 179 rfl) (by decide) f140 (by decide) (by decide) (by rw [hml]; rfl) [] (lenOf pd_5 rfl) rfl (Nat.le_of_eq rfl) (hb hby d10_102) rfl e138 (by decide) (by decide) fun T142 Lc142 v142 X142 hQ142 => ?_
      obtain ⟨rfl, Nq142, e142⟩ := hQ142
      have N142 := Fr.app N134 Nq142
      show Go p e below _ (T142.setTop (mkF m 105 _ [(.int iv3), (.int (2 : Int32)), (.ref b30)]))
      have f143 := ((f115.other W119 (Ne.symm ne_ad1_b30)).other W134 (Ne.symm ne_b14_b30))
      obtain ⟨cl144, Ar144, q144, Sz144, Ng144, Hs144, G144⟩ := id f143
      have hin144 : ¬ ((2 : Int32) < 0 ∨ cl144.slots.size ≤ ((2 : Int32)).toNatClampNeg) := inb_of Sz144 ⟨by decide, by decide⟩
      obtain ⟨T145, h145, X145, e145, W145, st145⟩ := stI X142 hx hZ e142 Ar144 (j := (2 : Int32)) hin144 (g := (mkF m 105 #[.val (.ref ad1), .val (.ref ad2), .val (.int (3 : Int32)), .val (.int (2 : Int32))] [(.int iv3), (.int (2 : Int32)), (.ref b30)])) rfl rfl (hb hby d10_105)
      have N145 := Fr.snoc X145 N142 nn_b30
      have old145 := old134.wr W145 nn_b30
      have kp145 := kp134.wr W145 (Or.inr sz_b30)
      have V145 : Arv Z h145 b30 k30 .int (3 : Int32) [(.int iv1), (.int iv2), (.int iv3)] (.int (0 : Int32)) := Arv.set Ar144 q144 Sz144 Ng144 Hs144 G144 rfl W145 2 rfl (Nat.le_of_ble_eq_true rfl)
      refine Go.fin st145 ?_
      show Go p e below _ (T145.setTop (mkF m 106 _ []))
      refine gs.aloadN X145.here hx (hb hby d10_106) rfl rfl ?_
      have f146 := ((((f103.other W110 (Or.inl ne_ad1_b22)).other W119 (Or.inr (sn80 hw))).other W134 (Or.inl ne_ad1_b14)).other W145 (Or.inl ne_ad1_b30))
      refine gs.getF X145 hx hZ hown (wd hw 106 rfl) Via.refl e145 f146 (hb hby d10_107) fun T147 X147 e147 => ?_
      refine gs.iloadN X147.here hx (hb hby d10_110) rfl ?_
      refine gs.aloadN X147.here hx (hb hby d10_111) rfl rfl ?_
      have f148 := (f135.other W145 (Or.inl ne_ad1_b30))
      refine gs.getF X147 hx hZ hown (wd hw 112 rfl) Via.refl e147 f148 (hb hby d10_112) fun T149 X149 e149 => ?_
      refine gs.iloadN X149.here hx (hb hby d10_115) rfl ?_
      obtain ⟨cl150, Ar150, q150, Sz150, Ng150, Hs150, G150⟩ := id V145
      have hin150 : ¬ ((2 : Int32) < 0 ∨ cl150.slots.size ≤ ((2 : Int32)).toNatClampNeg) := inb_of Sz150 ⟨by decide, by decide⟩
      have hat150 : cl150.slots[((2 : Int32)).toNatClampNeg]? = some (.int iv3) := Has.at Hs150 hin150 rfl
      refine Go.fin (fun t_ k_ => X149.iaload hx (j := (2 : Int32)) (v := (.int iv3)) (by rw [e149]; exact Ar150.1) (State.isArrayOf_alike hZ.alike Ar150.2.1) Ar150.2.2 hin150 hat150 (g := mkF m 116 _ _) rfl rfl (hb hby d10_116) _ k_) ?_
      show Go p e below _ (T149.setTop (mkF m 117 _ [(.int iv3), (.int (2 : Int32)), (.ref b22)]))
      refine gs.iconst 1 X149.here hx (hb hby d10_117) rfl ?_
      refine gs.isub X149.here hx (hb hby d10_118) ?_
      have f151 := (((V110.other W119 (Ne.symm ne_ad1_b22)).other W134 (Ne.symm ne_b14_b22)).other W145 ne_b22_b30)
      obtain ⟨cl152, Ar152, q152, Sz152, Ng152, Hs152, G152⟩ := id f151
      have hin152 : ¬ ((2 : Int32) < 0 ∨ cl152.slots.size ≤ ((2 : Int32)).toNatClampNeg) := inb_of Sz152 ⟨by decide, by decide⟩
      obtain ⟨T153, h153, X153, e153, W153, st153⟩ := stI X149 hx hZ e149 Ar152 (j := (2 : Int32)) hin152 (g := (mkF m 119 #[.val (.ref ad1), .val (.ref ad2), .val (.int (3 : Int32)), .val (.int (2 : Int32))] [(.int (iv3 - (1 : Int32))), (.int (2 : Int32)), (.ref b22)])) rfl rfl (hb hby d10_119)
      have N153 := Fr.snoc X153 N145 nn_b22
      have old153 := old145.wr W153 nn_b22
      have kp153 := kp145.wr W153 (Or.inr sz_b22)
      have V153 : Arv Z h153 b22 k22 .int (3 : Int32) [(.int (iv1 - (1 : Int32))), (.int (iv2 - (1 : Int32))), (.int (iv3 - (1 : Int32)))] (.int (0 : Int32)) := Arv.set Ar152 q152 Sz152 Ng152 Hs152 G152 rfl W153 2 rfl (Nat.le_of_ble_eq_true rfl)
      refine Go.fin st153 ?_
      show Go p e below _ (T153.setTop (mkF m 120 _ []))
      refine gs.aloadN X153.here hx (hb hby d10_120) rfl rfl ?_
      refine gs.dup X153.here hx (hb hby d10_121) rfl ?_
      have f154 := (((F119.other W134 (Or.inl ne_ad1_b14)).other W145 (Or.inl ne_ad1_b30)).other W153 (Or.inl ne_ad1_b22))
      refine gs.getF X153 hx hZ hown (wd hw 182 rfl) Via.refl e153 f154 (hb hby d10_122) fun T155 X155 e155 => ?_
      refine gs.aloadN X155.here hx (hb hby d10_125) rfl rfl ?_
      have f156 := (f148.other W153 (Or.inl ne_ad1_b22))
      refine gs.getF X155 hx hZ hown (wd hw 112 rfl) Via.refl e155 f156 (hb hby d10_126) fun T157 X157 e157 => ?_
      refine gs.iloadN X157.here hx (hb hby d10_129) rfl ?_
      have f158 := (V145.other W153 (Ne.symm ne_b22_b30))
      obtain ⟨cl159, Ar159, q159, Sz159, Ng159, Hs159, G159⟩ := id f158
      have hin159 : ¬ ((2 : Int32) < 0 ∨ cl159.slots.size ≤ ((2 : Int32)).toNatClampNeg) := inb_of Sz159 ⟨by decide, by decide⟩
      have hat159 : cl159.slots[((2 : Int32)).toNatClampNeg]? = some (.int iv3) := Has.at Hs159 hin159 rfl
      refine Go.fin (fun t_ k_ => X157.iaload hx (j := (2 : Int32)) (v := (.int iv3)) (by rw [e157]; exact Ar159.1) (State.isArrayOf_alike hZ.alike Ar159.2.1) Ar159.2.2 hin159 hat159 (g := mkF m 130 _ _) rfl rfl (hb hby d10_130) _ k_) ?_
      show Go p e below _ (T157.setTop (mkF m 131 _ [(.int iv3), (.int (((0 : Int32) + z_74) + z_117)), (.ref ad1)]))
      refine gs.iconst 1 X157.here hx (hb hby d10_131) rfl ?_
      have J160 : ∀ z_160 : Int32, Go p e below (Fin1 s below (Q_am10_4 Z u_1 aw0 u_0 kaw0 ad1 ad2 ad3 iv1 ad4 iv2 ad5 iv3 ad6 ad7 ad8 ad9 kc1 h0 n0) (rm 3 7 1103 42).cells (rm 3 7 1103 42).slots) (T157.setTop (mkF m 140 #[.val (.ref ad1), .val (.ref ad2), .val (.int (3 : Int32)), .val (.int (2 : Int32))] [(.int z_160), (.int (((0 : Int32) + z_74) + z_117)), (.ref ad1)])) := by
        intro z_160
        refine gs.iadd X157.here hx (hb hby d10_140) ?_
        have f161 := ((((f118.wr W119).wr W134).wr W145).wr W153)
        obtain ⟨T162, h162, X162, e162, W162, st162⟩ := putF X157 hx hZ hown (host := "") (Or.inl (wd hw 182 rfl)) Via.refl e157 f154 f161 (Or.inl (wd hw 183 rfl)) (wd hw 77 rfl) (ty := .int) (by decide) rfl rfl (g := (mkF m 141 #[.val (.ref ad1), .val (.ref ad2), .val (.int (3 : Int32)), .val (.int (2 : Int32))] [(.int ((((0 : Int32) + z_74) + z_117) + z_160)), (.ref ad1)])) rfl rfl (hb hby d10_141)
        have N162 := Fr.snoc X162 N153 nn_ad1
        have old162 := old153.wr W162 nn_ad1
        have kp162 := kp153.wr W162 (Or.inl (List.mem_of_getElem? (i := 0) rfl))
        have F162 := f154.same W162
        refine Go.fin st162 ?_
        show Go p e below _ (T162.setTop (mkF m 144 _ []))
        refine Go.step (fun t_ k_ => XS.iinc X162.here hx rfl (hb hby d10_144) rfl (l' := #[.val (.ref ad1), .val (.ref ad2), .val (.int (3 : Int32)), .val (.int ((2 : Int32) + (1 : Int32)))]) rfl k_) ?_
        show Go p e below _ (T162.setTop (mkF m 147 #[.val (.ref ad1), .val (.ref ad2), .val (.int (3 : Int32)), .val (.int ((2 : Int32) + (1 : Int32)))] []))
        rw [show ((2 : Int32) + (1 : Int32)) = (3 : Int32) from by decide]
        refine gs.goto 67 X162.here hx (hb hby d10_147) rfl ?_
        refine gs.iloadN X162.here hx (hb hby d10_67) rfl ?_
        refine gs.iloadN X162.here hx (hb hby d10_68) rfl ?_
        have hc69_4 : ¬ ((3 : Int32) < (3 : Int32)) := by decide
        refine gs.icmpYes 150 X162.here hx (hb hby d10_69) (flt hc69_4).2.1 rfl ?_
        have ne_b14_b26 : b14 ≠ b26 := Nat.ne_of_lt (Nat.lt_of_lt_of_le (((((V14.other W17 (Ne.symm ne_ad1_b14)).ext E18).other W21 (Ne.symm ne_ad1_b14)).ext E22).other W25 (Ne.symm ne_ad1_b14)).lt (Nat.le_of_eq g26.symm))
        have ne_ad1_b18 : ad1 ≠ b18 := Nat.ne_of_lt (Nat.lt_of_lt_of_le (f16.wr W17).lt (Nat.le_of_eq g18.symm))
        have ne_b18_b26 : b18 ≠ b26 := Nat.ne_of_lt (Nat.lt_of_lt_of_le (((V18.other W21 (Ne.symm ne_ad1_b18)).ext E22).other W25 (Ne.symm ne_ad1_b18)).lt (Nat.le_of_eq g26.symm))
        have ne_b26_b30 : b26 ≠ b30 := Nat.ne_of_lt (Nat.lt_of_lt_of_le (B26.wr W29).lt (Nat.le_of_eq g30.symm))
        have ne_ad1_b3 : ad1 ≠ b3 := Nat.ne_of_lt (Nat.lt_of_lt_of_le HE_ad1.lt (Nat.le_of_eq g3.symm))
        have ne_b3_b26 : b3 ≠ b26 := Nat.ne_of_lt (Nat.lt_of_lt_of_le (((((((((V3.other W6 (Ne.symm ne_ad1_b3)).ext E7).other W10 (Ne.symm ne_ad1_b3)).ext E14).other W17 (Ne.symm ne_ad1_b3)).ext E18).other W21 (Ne.symm ne_ad1_b3)).ext E22).other W25 (Ne.symm ne_ad1_b3)).lt (Nat.le_of_eq g26.symm))
        have ne_b22_b26 : b22 ≠ b26 := Nat.ne_of_lt (Nat.lt_of_lt_of_le (V22.other W25 (Ne.symm ne_ad1_b22)).lt (Nat.le_of_eq g26.symm))
        have ne_b14_b18 : b14 ≠ b18 := Nat.ne_of_lt (Nat.lt_of_lt_of_le (V14.other W17 (Ne.symm ne_ad1_b14)).lt (Nat.le_of_eq g18.symm))
        have ne_b3_b14 : b3 ≠ b14 := Nat.ne_of_lt (Nat.lt_of_lt_of_le (((V3.other W6 (Ne.symm ne_ad1_b3)).ext E7).other W10 (Ne.symm ne_ad1_b3)).lt (Nat.le_of_eq g14.symm))
        have ne_b18_b30 : b18 ≠ b30 := Nat.ne_of_lt (Nat.lt_of_lt_of_le (((((V18.other W21 (Ne.symm ne_ad1_b18)).ext E22).other W25 (Ne.symm ne_ad1_b18)).ext E26).other W29 (Ne.symm ne_ad1_b18)).lt (Nat.le_of_eq g30.symm))
        have ne_b3_b18 : b3 ≠ b18 := Nat.ne_of_lt (Nat.lt_of_lt_of_le (((((V3.other W6 (Ne.symm ne_ad1_b3)).ext E7).other W10 (Ne.symm ne_ad1_b3)).ext E14).other W17 (Ne.symm ne_ad1_b3)).lt (Nat.le_of_eq g18.symm))
        have ne_b18_b22 : b18 ≠ b22 := Nat.ne_of_lt (Nat.lt_of_lt_of_le (V18.other W21 (Ne.symm ne_ad1_b18)).lt (Nat.le_of_eq g22.symm))
        have ne_b3_b30 : b3 ≠ b30 := Nat.ne_of_lt (Nat.lt_of_lt_of_le (((((((((((V3.other W6 (Ne.symm ne_ad1_b3)).ext E7).other W10 (Ne.symm ne_ad1_b3)).ext E14).other W17 (Ne.symm ne_ad1_b3)).ext E18).other W21 (Ne.symm ne_ad1_b3)).ext E22).other W25 (Ne.symm ne_ad1_b3)).ext E26).other W29 (Ne.symm ne_ad1_b3)).lt (Nat.le_of_eq g30.symm))
        have ne_b3_b22 : b3 ≠ b22 := Nat.ne_of_lt (Nat.lt_of_lt_of_le (((((((V3.other W6 (Ne.symm ne_ad1_b3)).ext E7).other W10 (Ne.symm ne_ad1_b3)).ext E14).other W17 (Ne.symm ne_ad1_b3)).ext E18).other W21 (Ne.symm ne_ad1_b3)).lt (Nat.le_of_eq g22.symm))
        have f163 := (f161.wr W162)
        have f164 := ((((((((((((((F29.ext E30).other W33 (Or.inr (sn34 hw))).other W48 (Or.inl ne_ad1_b14)).other W59 (Or.inl ne_ad1_b30)).other W67 (Or.inl ne_ad1_b22)).other W76 (Or.inr (sn73 hw))).other W91 (Or.inl ne_ad1_b14)).other W102 (Or.inl ne_ad1_b30)).other W110 (Or.inl ne_ad1_b22)).other W119 (Or.inr (sn73 hw))).other W134 (Or.inl ne_ad1_b14)).other W145 (Or.inl ne_ad1_b30)).other W153 (Or.inl ne_ad1_b22)).other W162 (Or.inr (sn73 hw)))
        have f165 := (((f137.other W145 (Or.inl ne_ad1_b30)).other W153 (Or.inl ne_ad1_b22)).other W162 (Or.inr (sn74 hw)))
        have f166 := ((((((((((((((((((F21.ext E22).other W25 (Or.inr (sn39 hw))).ext E26).other W29 (Or.inr (sn40 hw))).ext E30).other W33 (Or.inr (sn41 hw))).other W48 (Or.inl ne_ad1_b14)).other W59 (Or.inl ne_ad1_b30)).other W67 (Or.inl ne_ad1_b22)).other W76 (Or.inr (sn75 hw))).other W91 (Or.inl ne_ad1_b14)).other W102 (Or.inl ne_ad1_b30)).other W110 (Or.inl ne_ad1_b22)).other W119 (Or.inr (sn75 hw))).other W134 (Or.inl ne_ad1_b14)).other W145 (Or.inl ne_ad1_b30)).other W153 (Or.inl ne_ad1_b22)).other W162 (Or.inr (sn75 hw)))
        have f167 := ((((((((((((((((((((((((((HF_ad1_Domains_resized.ext E3).other W6 (Or.inr (sn42 hw))).ext E7).other W10 (Or.inr (sn43 hw))).ext E14).other W17 (Or.inr (sn44 hw))).ext E18).other W21 (Or.inr (sn45 hw))).ext E22).other W25 (Or.inr (sn46 hw))).ext E26).other W29 (Or.inr (sn47 hw))).ext E30).other W33 (Or.inr (sn48 hw))).other W48 (Or.inl ne_ad1_b14)).other W59 (Or.inl ne_ad1_b30)).other W67 (Or.inl ne_ad1_b22)).other W76 (Or.inr (sn76 hw))).other W91 (Or.inl ne_ad1_b14)).other W102 (Or.inl ne_ad1_b30)).other W110 (Or.inl ne_ad1_b22)).other W119 (Or.inr (sn76 hw))).other W134 (Or.inl ne_ad1_b14)).other W145 (Or.inl ne_ad1_b30)).other W153 (Or.inl ne_ad1_b22)).other W162 (Or.inr (sn76 hw)))
        have f168 := (f156.other W162 (Or.inr (sn77 hw)))
        have f169 := ((((((((((((((((((((((((F6.ext E7).other W10 (Or.inr (sn49 hw))).ext E14).other W17 (Or.inr (sn50 hw))).ext E18).other W21 (Or.inr (sn51 hw))).ext E22).other W25 (Or.inr (sn52 hw))).ext E26).other W29 (Or.inr (sn53 hw))).ext E30).other W33 (Or.inr (sn54 hw))).other W48 (Or.inl ne_ad1_b14)).other W59 (Or.inl ne_ad1_b30)).other W67 (Or.inl ne_ad1_b22)).other W76 (Or.inr (sn78 hw))).other W91 (Or.inl ne_ad1_b14)).other W102 (Or.inl ne_ad1_b30)).other W110 (Or.inl ne_ad1_b22)).other W119 (Or.inr (sn78 hw))).other W134 (Or.inl ne_ad1_b14)).other W145 (Or.inl ne_ad1_b30)).other W153 (Or.inl ne_ad1_b22)).other W162 (Or.inr (sn78 hw)))
        have f170 := ((((((((((((((((((((((((((HF_ad1_Domains_trailSize.ext E3).other W6 (Or.inr (sn55 hw))).ext E7).other W10 (Or.inr (sn56 hw))).ext E14).other W17 (Or.inr (sn57 hw))).ext E18).other W21 (Or.inr (sn58 hw))).ext E22).other W25 (Or.inr (sn59 hw))).ext E26).other W29 (Or.inr (sn60 hw))).ext E30).other W33 (Or.inr (sn61 hw))).other W48 (Or.inl ne_ad1_b14)).other W59 (Or.inl ne_ad1_b30)).other W67 (Or.inl ne_ad1_b22)).other W76 (Or.inr (sn79 hw))).other W91 (Or.inl ne_ad1_b14)).other W102 (Or.inl ne_ad1_b30)).other W110 (Or.inl ne_ad1_b22)).other W119 (Or.inr (sn79 hw))).other W134 (Or.inl ne_ad1_b14)).other W145 (Or.inl ne_ad1_b30)).other W153 (Or.inl ne_ad1_b22)).other W162 (Or.inr (sn79 hw)))
        have f171 := ((f146.other W153 (Or.inl ne_ad1_b22)).other W162 (Or.inr (sn80 hw)))
        have f172 := (((((((((((((((B26.wr W29).ext E30).wr W33).wr W48).wr W59).wr W67).wr W76).wr W91).wr W102).wr W110).wr W119).wr W134).wr W145).wr W153).wr W162)
        have ne_ad1_b26 : ad1 ≠ b26 := Nat.ne_of_lt (Nat.lt_of_lt_of_le (f24.wr W25).lt (Nat.le_of_eq g26.symm))
        have f173 := (((((((((((((((V26.other W29 (Ne.symm ne_ad1_b26)).ext E30).other W33 (Ne.symm ne_ad1_b26)).other W48 (Ne.symm ne_b14_b26)).other W59 ne_b26_b30).other W67 (Ne.symm ne_b22_b26)).other W76 (Ne.symm ne_ad1_b26)).other W91 (Ne.symm ne_b14_b26)).other W102 ne_b26_b30).other W110 (Ne.symm ne_b22_b26)).other W119 (Ne.symm ne_ad1_b26)).other W134 (Ne.symm ne_b14_b26)).other W145 ne_b26_b30).other W153 (Ne.symm ne_b22_b26)).other W162 (Ne.symm ne_ad1_b26))
        have f174 := (((V134.other W145 ne_b14_b30).other W153 ne_b14_b22).other W162 (Ne.symm ne_ad1_b14))
        have f175 := (((((((((((((((((((V18.other W21 (Ne.symm ne_ad1_b18)).ext E22).other W25 (Ne.symm ne_ad1_b18)).ext E26).other W29 (Ne.symm ne_ad1_b18)).ext E30).other W33 (Ne.symm ne_ad1_b18)).other W48 (Ne.symm ne_b14_b18)).other W59 ne_b18_b30).other W67 ne_b18_b22).other W76 (Ne.symm ne_ad1_b18)).other W91 (Ne.symm ne_b14_b18)).other W102 ne_b18_b30).other W110 ne_b18_b22).other W119 (Ne.symm ne_ad1_b18)).other W134 (Ne.symm ne_b14_b18)).other W145 ne_b18_b30).other W153 ne_b18_b22).other W162 (Ne.symm ne_ad1_b18))
        have f176 := (f158.other W162 (Ne.symm ne_ad1_b30))
        have f177 := (((((((((((((((((((((((((V3.other W6 (Ne.symm ne_ad1_b3)).ext E7).other W10 (Ne.symm ne_ad1_b3)).ext E14).other W17 (Ne.symm ne_ad1_b3)).ext E18).other W21 (Ne.symm ne_ad1_b3)).ext E22).other W25 (Ne.symm ne_ad1_b3)).ext E26).other W29 (Ne.symm ne_ad1_b3)).ext E30).other W33 (Ne.symm ne_ad1_b3)).other W48 ne_b3_b14).other W59 ne_b3_b30).other W67 ne_b3_b22).other W76 (Ne.symm ne_ad1_b3)).other W91 ne_b3_b14).other W102 ne_b3_b30).other W110 ne_b3_b22).other W119 (Ne.symm ne_ad1_b3)).other W134 ne_b3_b14).other W145 ne_b3_b30).other W153 ne_b3_b22).other W162 (Ne.symm ne_ad1_b3))
        have f178 := (V153.other W162 (Ne.symm ne_ad1_b22))
        refine Go.retV X162 hx Bd.returns Bd.notSynchronized (hb hby d10_150) (by rw [e162]; exact ⟨b26, b14, b18, b30, b3, b22, k26, k14, k18, k30, k3, k22, (((((0 : Int32) + z_74) + z_117) + z_160)), rfl, sz_b26, sz_b14, sz_b18, sz_b30, sz_b3, sz_b22, (Ne.symm ne_b14_b26), (Ne.symm ne_b18_b26), ne_b26_b30, (Ne.symm ne_b3_b26), (Ne.symm ne_b22_b26), ne_b14_b18, ne_b14_b30, (Ne.symm ne_b3_b14), ne_b14_b22, ne_b18_b30, (Ne.symm ne_b3_b18), ne_b18_b22, (Ne.symm ne_b3_b30), (Ne.symm ne_b22_b30), ne_b3_b22, N162, kp162, f163, f164, f165, f166, f167, f168, f169, f170, f171, F162, f172, f173, f174, f175, f176, f177, f178, O26, O14⟩) (by decide) (by decide)
      by_cases hc132 : iv3 = (1 : Int32)
      case pos =>
        refine gs.icmpNo X157.here hx (hb hby d10_132) (teq hc132).2 ?_
        refine gs.iconst 1 X157.here hx (hb hby d10_135) rfl ?_
        refine gs.goto 140 X157.here hx (hb hby d10_136) rfl ?_
        exact J160 _
      case neg =>
        refine gs.icmpYes 139 X157.here hx (hb hby d10_132) (feq hc132).2 rfl ?_
        refine gs.iconst 0 X157.here hx (hb hby d10_139) rfl ?_
        exact J160 _
    by_cases hc132 : iv2 = (1 : Int32)
    case pos =>
      refine gs.icmpNo X114.here hx (hb hby d10_132) (teq hc132).2 ?_
      refine gs.iconst 1 X114.here hx (hb hby d10_135) rfl ?_
      refine gs.goto 140 X114.here hx (hb hby d10_136) rfl ?_
      exact J117 _
    case neg =>
      refine gs.icmpYes 139 X114.here hx (hb hby d10_132) (feq hc132).2 rfl ?_
      refine gs.iconst 0 X114.here hx (hb hby d10_139) rfl ?_
      exact J117 _
  by_cases hc132 : iv1 = (1 : Int32)
  case pos =>
    refine gs.icmpNo X71.here hx (hb hby d10_132) (teq hc132).2 ?_
    refine gs.iconst 1 X71.here hx (hb hby d10_135) rfl ?_
    refine gs.goto 140 X71.here hx (hb hby d10_136) rfl ?_
    exact J74 _
  case neg =>
    refine gs.icmpYes 139 X71.here hx (hb hby d10_132) (feq hc132).2 rfl ?_
    refine gs.iconst 0 X71.here hx (hb hby d10_139) rfl ?_
    exact J74 _
def Q_am12_4 (Z : State) (u_1 : Addr) (aw0 : Addr) (u_0 : ClassId) (kaw0 : ClassId) (ad1 : Addr) (ad7 : Addr) (kc1 : ClassId) (fv3 : Nat → Int32) (h0 : Heap) (n0 : Nat) (v : Option Value) (h : Heap) (L : List Loc) : Prop := v = some (.long ((((0 : Int64) + ((fv3 ((0 : Int32)).toNatClampNeg).toInt64)) + ((fv3 ((1 : Int32)).toNatClampNeg).toInt64)) + ((fv3 ((2 : Int32)).toNatClampNeg).toInt64))) ∧ Fr n0 L ∧ h = h0
set_option maxRecDepth 65536 in
set_option maxHeartbeats 40000000 in
theorem am12_4 (l : Launch) (Z : State) (a0 : Array Value) (hw : ∀ d ∈ tables_1, d.before a0 Z = true) (ws : List Jvm.Cond) (u_1 : Addr) (aw0 : Addr) (u_0 : ClassId) (kaw0 : ClassId) (HW : Wd Z u_1 aw0 u_0 kaw0) (ad1 : Addr) (ad7 : Addr) (kc1 : ClassId) (fv3 : Nat → Int32) (h0 : Heap) (n0 : Nat) (Ol : Old Z n0 h0) (HF_ad1_Domains_sizes : Fld Z h0 ad1 "com/example/monarc/monarc/Domains" "sizes" "[I" (.ref ad7)) (HG_ad7 : Ari Z h0 ad7 kc1 (3 : Int32) fv3) (as0 : 0 ≤ ((0 : Int32)).toInt ∧ ((0 : Int32)).toInt < ((3 : Int32)).toInt) (as1 : 0 ≤ ((1 : Int32)).toInt ∧ ((1 : Int32)).toInt < ((3 : Int32)).toInt) (as2 : 0 ≤ ((2 : Int32)).toInt ∧ ((2 : Int32)).toInt < ((3 : Int32)).toInt) :
    MetFree l y_12 (head1 (Jvm.Cond.code y_12 prog_11_method_5_code 7 (some .long) :: ws) (rm 0 0 0 0)) (fun a_ U_ => a_ = #[(.ref ad1)] ∧ Z.Warmed39 U_.vm ∧ U_.heap = h0) (fun _ _ _ _ _ => True) (fun _ U_ o_ V_ => ∃ v_ L_, o_ = .returned v_ ∧ Q_am12_4 Z u_1 aw0 u_0 kaw0 ad1 ad7 kc1 fv3 h0 n0 v_ V_.heap L_ ∧ FrameEnd U_ o_ V_ L_ (rm 0 0 0 0).cells (rm 0 0 0 0).slots) := by
  refine MetFree.of_bodySF (plainFor_of_name pn_7) hisR ?_
  intro p e s m args below meth c s₁ Bd hml0 hP hK
  obtain ⟨rfl, hZ, hh⟩ := hP
  have hx := Bd.exec
  have hby := Bd.bytes
  have hml : c.maxLocals = 7 := hml0
  have hown : s.vm.findClass "com/example/monarc/monarc/Domains" = some m.cls := findClass_of_methodNamed Bd.named
  have hnm := (name_of_methodNamed Bd.named Bd.method).1
  have X0 : Stand p l e (rm 0 0 0 0) s m #[(.ref ad1)] below meth c s₁ [] 0 0 := Stand.of_body Bd
  have e0 : s₁.heap = h0 := by rw [← hh, Bd.state]; rfl
  have N0 := Fr.nil n0
  have kp0 := Keep.refl h0 []
  show Go p e below (Fin1 s below (Q_am12_4 Z u_1 aw0 u_0 kaw0 ad1 ad7 kc1 fv3 h0 n0) (rm 0 0 0 0).cells (rm 0 0 0 0).slots) _
  refine Go.step (fun t_ k_ => castTop (ef_am12_1 m ad1) k_) ?_
  obtain ⟨Eu_1, Su_1, Eaw0, Saw0, Au_1, Aaw0⟩ := id HW
  show Go p e below _ (s₁.setTop (mkF m 0 #[.val (.ref ad1), .unset, .unset, .unset, .unset, .unset, .unset] []))
  refine Go.fin (fun t_ k_ => XS.lconst X0.here hx rfl (hb hby d12_0) k_) ?_
  show Go p e below _ (s₁.setTop (mkF m 1 _ [(.long (0 : Int64))]))
  refine gs.lstoreN X0.here hx (hb hby d12_1) (l' := #[.val (.ref ad1), .val (.long (0 : Int64)), .second, .unset, .unset, .unset, .unset]) rfl ?_
  refine gs.aloadN X0.here hx (hb hby d12_2) rfl rfl ?_
  refine gs.getF X0 hx hZ hown (wd hw 112 rfl) Via.refl e0 HF_ad1_Domains_sizes (hb hby d12_3) fun T1 X1 e1 => ?_
  refine gs.astoreN X1.here hx (hb hby d12_6) rfl (l' := #[.val (.ref ad1), .val (.long (0 : Int64)), .second, .val (.ref ad7), .unset, .unset, .unset]) rfl ?_
  refine gs.aloadN X1.here hx (hb hby d12_7) rfl rfl ?_
  obtain ⟨cl2, Ar2, -, Sz2, Ng2, -⟩ := id HG_ad7
  refine Go.fin (fun t_ k_ => X1.arraylength hx (by rw [e1]; exact Ar2.1) (State.isArrayOf_alike hZ.alike Ar2.2.1) (g := mkF m 8 _ _) rfl rfl (hb hby d12_8) _ k_) ?_
  rw [len_of Sz2 Ng2]
  show Go p e below _ (T1.setTop (mkF m 9 _ [(.int (3 : Int32))]))
  refine gs.istore X1.here hx (hb hby d12_9) (l' := #[.val (.ref ad1), .val (.long (0 : Int64)), .second, .val (.ref ad7), .val (.int (3 : Int32)), .unset, .unset]) rfl ?_
  refine gs.iconst 0 X1.here hx (hb hby d12_11) rfl ?_
  refine gs.istore X1.here hx (hb hby d12_12) (l' := #[.val (.ref ad1), .val (.long (0 : Int64)), .second, .val (.ref ad7), .val (.int (3 : Int32)), .val (.int (0 : Int32)), .unset]) rfl ?_
  refine gs.iload X1.here hx (hb hby d12_14) rfl ?_
  refine gs.iload X1.here hx (hb hby d12_16) rfl ?_
  have hc18 : (0 : Int32) < (3 : Int32) := by decide
  refine gs.icmpNo X1.here hx (hb hby d12_18) (tlt hc18).2.1 ?_
  refine gs.aloadN X1.here hx (hb hby d12_21) rfl rfl ?_
  refine gs.iload X1.here hx (hb hby d12_22) rfl ?_
  obtain ⟨cl3, Ar3, q3, Sz3, Ng3, Hs3⟩ := id HG_ad7
  have hin3 : ¬ ((0 : Int32) < 0 ∨ cl3.slots.size ≤ ((0 : Int32)).toNatClampNeg) := inb_of Sz3 (inb_int as0)
  have hat3 : cl3.slots[((0 : Int32)).toNatClampNeg]? = some (.int (fv3 ((0 : Int32)).toNatClampNeg)) := Hs3 _ (lt_of_in hin3)
  refine Go.fin (fun t_ k_ => X1.iaload hx (j := (0 : Int32)) (v := (.int (fv3 ((0 : Int32)).toNatClampNeg))) (by rw [e1]; exact Ar3.1) (State.isArrayOf_alike hZ.alike Ar3.2.1) Ar3.2.2 hin3 hat3 (g := mkF m 24 _ _) rfl rfl (hb hby d12_24) _ k_) ?_
  show Go p e below _ (T1.setTop (mkF m 25 _ [(.int (fv3 ((0 : Int32)).toNatClampNeg))]))
  refine gs.istore X1.here hx (hb hby d12_25) (l' := #[.val (.ref ad1), .val (.long (0 : Int64)), .second, .val (.ref ad7), .val (.int (3 : Int32)), .val (.int (0 : Int32)), .val (.int (fv3 ((0 : Int32)).toNatClampNeg))]) rfl ?_
  refine gs.lloadN X1.here hx (hb hby d12_27) rfl ?_
  refine gs.iload X1.here hx (hb hby d12_28) rfl ?_
  refine Go.fin (fun t_ k_ => XS.i2l X1.here hx rfl (hb hby d12_30) rfl k_) ?_
  show Go p e below _ (T1.setTop (mkF m 31 _ [(.long ((fv3 ((0 : Int32)).toNatClampNeg).toInt64)), (.long (0 : Int64))]))
  refine gs.ladd X1.here hx (hb hby d12_31) ?_
  refine gs.lstoreN X1.here hx (hb hby d12_32) (l' := #[.val (.ref ad1), .val (.long ((0 : Int64) + ((fv3 ((0 : Int32)).toNatClampNeg).toInt64))), .second, .val (.ref ad7), .val (.int (3 : Int32)), .val (.int (0 : Int32)), .val (.int (fv3 ((0 : Int32)).toNatClampNeg))]) rfl ?_
  refine Go.step (fun t_ k_ => XS.iinc X1.here hx rfl (hb hby d12_33) rfl (l' := #[.val (.ref ad1), .val (.long ((0 : Int64) + ((fv3 ((0 : Int32)).toNatClampNeg).toInt64))), .second, .val (.ref ad7), .val (.int (3 : Int32)), .val (.int ((0 : Int32) + (1 : Int32))), .val (.int (fv3 ((0 : Int32)).toNatClampNeg))]) rfl k_) ?_
  show Go p e below _ (T1.setTop (mkF m 36 #[.val (.ref ad1), .val (.long ((0 : Int64) + ((fv3 ((0 : Int32)).toNatClampNeg).toInt64))), .second, .val (.ref ad7), .val (.int (3 : Int32)), .val (.int ((0 : Int32) + (1 : Int32))), .val (.int (fv3 ((0 : Int32)).toNatClampNeg))] []))
  rw [show ((0 : Int32) + (1 : Int32)) = (1 : Int32) from by decide]
  refine gs.goto 14 X1.here hx (hb hby d12_36) rfl ?_
  refine gs.iload X1.here hx (hb hby d12_14) rfl ?_
  refine gs.iload X1.here hx (hb hby d12_16) rfl ?_
  have hc18_2 : (1 : Int32) < (3 : Int32) := by decide
  refine gs.icmpNo X1.here hx (hb hby d12_18) (tlt hc18_2).2.1 ?_
  refine gs.aloadN X1.here hx (hb hby d12_21) rfl rfl ?_
  refine gs.iload X1.here hx (hb hby d12_22) rfl ?_
  obtain ⟨cl4, Ar4, q4, Sz4, Ng4, Hs4⟩ := id HG_ad7
  have hin4 : ¬ ((1 : Int32) < 0 ∨ cl4.slots.size ≤ ((1 : Int32)).toNatClampNeg) := inb_of Sz4 (inb_int as1)
  have hat4 : cl4.slots[((1 : Int32)).toNatClampNeg]? = some (.int (fv3 ((1 : Int32)).toNatClampNeg)) := Hs4 _ (lt_of_in hin4)
  refine Go.fin (fun t_ k_ => X1.iaload hx (j := (1 : Int32)) (v := (.int (fv3 ((1 : Int32)).toNatClampNeg))) (by rw [e1]; exact Ar4.1) (State.isArrayOf_alike hZ.alike Ar4.2.1) Ar4.2.2 hin4 hat4 (g := mkF m 24 _ _) rfl rfl (hb hby d12_24) _ k_) ?_
  show Go p e below _ (T1.setTop (mkF m 25 _ [(.int (fv3 ((1 : Int32)).toNatClampNeg))]))
  refine gs.istore X1.here hx (hb hby d12_25) (l' := #[.val (.ref ad1), .val (.long ((0 : Int64) + ((fv3 ((0 : Int32)).toNatClampNeg).toInt64))), .second, .val (.ref ad7), .val (.int (3 : Int32)), .val (.int (1 : Int32)), .val (.int (fv3 ((1 : Int32)).toNatClampNeg))]) rfl ?_
  refine gs.lloadN X1.here hx (hb hby d12_27) rfl ?_
  refine gs.iload X1.here hx (hb hby d12_28) rfl ?_
  refine Go.fin (fun t_ k_ => XS.i2l X1.here hx rfl (hb hby d12_30) rfl k_) ?_
  show Go p e below _ (T1.setTop (mkF m 31 _ [(.long ((fv3 ((1 : Int32)).toNatClampNeg).toInt64)), (.long ((0 : Int64) + ((fv3 ((0 : Int32)).toNatClampNeg).toInt64)))]))
  refine gs.ladd X1.here hx (hb hby d12_31) ?_
  refine gs.lstoreN X1.here hx (hb hby d12_32) (l' := #[.val (.ref ad1), .val (.long (((0 : Int64) + ((fv3 ((0 : Int32)).toNatClampNeg).toInt64)) + ((fv3 ((1 : Int32)).toNatClampNeg).toInt64))), .second, .val (.ref ad7), .val (.int (3 : Int32)), .val (.int (1 : Int32)), .val (.int (fv3 ((1 : Int32)).toNatClampNeg))]) rfl ?_
  refine Go.step (fun t_ k_ => XS.iinc X1.here hx rfl (hb hby d12_33) rfl (l' := #[.val (.ref ad1), .val (.long (((0 : Int64) + ((fv3 ((0 : Int32)).toNatClampNeg).toInt64)) + ((fv3 ((1 : Int32)).toNatClampNeg).toInt64))), .second, .val (.ref ad7), .val (.int (3 : Int32)), .val (.int ((1 : Int32) + (1 : Int32))), .val (.int (fv3 ((1 : Int32)).toNatClampNeg))]) rfl k_) ?_
  show Go p e below _ (T1.setTop (mkF m 36 #[.val (.ref ad1), .val (.long (((0 : Int64) + ((fv3 ((0 : Int32)).toNatClampNeg).toInt64)) + ((fv3 ((1 : Int32)).toNatClampNeg).toInt64))), .second, .val (.ref ad7), .val (.int (3 : Int32)), .val (.int ((1 : Int32) + (1 : Int32))), .val (.int (fv3 ((1 : Int32)).toNatClampNeg))] []))
  rw [show ((1 : Int32) + (1 : Int32)) = (2 : Int32) from by decide]
  refine gs.goto 14 X1.here hx (hb hby d12_36) rfl ?_
  refine gs.iload X1.here hx (hb hby d12_14) rfl ?_
  refine gs.iload X1.here hx (hb hby d12_16) rfl ?_
  have hc18_3 : (2 : Int32) < (3 : Int32) := by decide
  refine gs.icmpNo X1.here hx (hb hby d12_18) (tlt hc18_3).2.1 ?_
  refine gs.aloadN X1.here hx (hb hby d12_21) rfl rfl ?_
  refine gs.iload X1.here hx (hb hby d12_22) rfl ?_
  obtain ⟨cl5, Ar5, q5, Sz5, Ng5, Hs5⟩ := id HG_ad7
  have hin5 : ¬ ((2 : Int32) < 0 ∨ cl5.slots.size ≤ ((2 : Int32)).toNatClampNeg) := inb_of Sz5 (inb_int as2)
  have hat5 : cl5.slots[((2 : Int32)).toNatClampNeg]? = some (.int (fv3 ((2 : Int32)).toNatClampNeg)) := Hs5 _ (lt_of_in hin5)
  refine Go.fin (fun t_ k_ => X1.iaload hx (j := (2 : Int32)) (v := (.int (fv3 ((2 : Int32)).toNatClampNeg))) (by rw [e1]; exact Ar5.1) (State.isArrayOf_alike hZ.alike Ar5.2.1) Ar5.2.2 hin5 hat5 (g := mkF m 24 _ _) rfl rfl (hb hby d12_24) _ k_) ?_
  show Go p e below _ (T1.setTop (mkF m 25 _ [(.int (fv3 ((2 : Int32)).toNatClampNeg))]))
  refine gs.istore X1.here hx (hb hby d12_25) (l' := #[.val (.ref ad1), .val (.long (((0 : Int64) + ((fv3 ((0 : Int32)).toNatClampNeg).toInt64)) + ((fv3 ((1 : Int32)).toNatClampNeg).toInt64))), .second, .val (.ref ad7), .val (.int (3 : Int32)), .val (.int (2 : Int32)), .val (.int (fv3 ((2 : Int32)).toNatClampNeg))]) rfl ?_
  refine gs.lloadN X1.here hx (hb hby d12_27) rfl ?_
  refine gs.iload X1.here hx (hb hby d12_28) rfl ?_
  refine Go.fin (fun t_ k_ => XS.i2l X1.here hx rfl (hb hby d12_30) rfl k_) ?_
  show Go p e below _ (T1.setTop (mkF m 31 _ [(.long ((fv3 ((2 : Int32)).toNatClampNeg).toInt64)), (.long (((0 : Int64) + ((fv3 ((0 : Int32)).toNatClampNeg).toInt64)) + ((fv3 ((1 : Int32)).toNatClampNeg).toInt64)))]))
  refine gs.ladd X1.here hx (hb hby d12_31) ?_
  refine gs.lstoreN X1.here hx (hb hby d12_32) (l' := #[.val (.ref ad1), .val (.long ((((0 : Int64) + ((fv3 ((0 : Int32)).toNatClampNeg).toInt64)) + ((fv3 ((1 : Int32)).toNatClampNeg).toInt64)) + ((fv3 ((2 : Int32)).toNatClampNeg).toInt64))), .second, .val (.ref ad7), .val (.int (3 : Int32)), .val (.int (2 : Int32)), .val (.int (fv3 ((2 : Int32)).toNatClampNeg))]) rfl ?_
  refine Go.step (fun t_ k_ => XS.iinc X1.here hx rfl (hb hby d12_33) rfl (l' := #[.val (.ref ad1), .val (.long ((((0 : Int64) + ((fv3 ((0 : Int32)).toNatClampNeg).toInt64)) + ((fv3 ((1 : Int32)).toNatClampNeg).toInt64)) + ((fv3 ((2 : Int32)).toNatClampNeg).toInt64))), .second, .val (.ref ad7), .val (.int (3 : Int32)), .val (.int ((2 : Int32) + (1 : Int32))), .val (.int (fv3 ((2 : Int32)).toNatClampNeg))]) rfl k_) ?_
  show Go p e below _ (T1.setTop (mkF m 36 #[.val (.ref ad1), .val (.long ((((0 : Int64) + ((fv3 ((0 : Int32)).toNatClampNeg).toInt64)) + ((fv3 ((1 : Int32)).toNatClampNeg).toInt64)) + ((fv3 ((2 : Int32)).toNatClampNeg).toInt64))), .second, .val (.ref ad7), .val (.int (3 : Int32)), .val (.int ((2 : Int32) + (1 : Int32))), .val (.int (fv3 ((2 : Int32)).toNatClampNeg))] []))
  rw [show ((2 : Int32) + (1 : Int32)) = (3 : Int32) from by decide]
  refine gs.goto 14 X1.here hx (hb hby d12_36) rfl ?_
  refine gs.iload X1.here hx (hb hby d12_14) rfl ?_
  refine gs.iload X1.here hx (hb hby d12_16) rfl ?_
  have hc18_4 : ¬ ((3 : Int32) < (3 : Int32)) := by decide
  refine gs.icmpYes 39 X1.here hx (hb hby d12_18) (flt hc18_4).2.1 rfl ?_
  refine gs.lloadN X1.here hx (hb hby d12_39) rfl ?_
  refine Go.retJ X1 hx Bd.returns Bd.notSynchronized (hb hby d12_40) (by rw [e1]; exact ⟨rfl, N0, rfl⟩) (by decide) (by decide)
set_option maxRecDepth 65536 in
set_option maxHeartbeats 40000000 in
theorem sg4 {p : Program} {l : Launch} {e : Env} {s : State} {m : MethodId} {args : Array Value} {below : List Frame} {meth : Method} {c : Code} {Z : State} {a0 : Array Value} (hw : ∀ d ∈ tables_1, d.before a0 Z = true) (u_1 : Addr) (aw0 : Addr) (u_0 : ClassId) (kaw0 : ClassId) (HW : Wd Z u_1 aw0 u_0 kaw0) {h0 : Heap} {n0 : Nat} (hx : p.tables.exec = Jvm.exec) (hby : c.code = code) (hml : c.maxLocals = 28) (hret : meth.sig.returnType = some .boolean) (hlk : meth.locks = false) {vm0 : Vm} {k0 : Nat} {T0 : State} {locs : List Loc} {h1 : Heap} (X0 : Stand p l e room_1 (s.setVm vm0) m args below meth c T0 locs 12 42) (S0 : s.Since vm0 k0) (hk0 : k0 ≤ h1.size) (hZ : Z.Warmed39 (s.setVm vm0).vm) (hown : (s.setVm vm0).vm.findClass "com/example/monarc/monarc/DomainsTotalSizePinLaw" = some m.cls) (e0 : T0.heap = h1) (N0 : Fr n0 locs) (kp0 : Keep h0 h1 []) (Ol : Old Z n0 h1) {Q : Option Value → Heap → List Loc → Prop} (hQ : ∀ h L, Fr n0 L → Q (some (.int 1)) h L) (lf0 : Int32) (lf1 : Int32) (lf2 : Int32) (p4 : Int64) (p5 : Int32) (ln0 : Int64) (ln1 : Int64) (ln2 : Int64) (ld12 : Addr) (ld13 : Addr) (ld14 : Addr) (ad1 : Addr) (ad2 : Addr) (ad3 : Addr) (ad4 : Addr) (s0 : Int32) (ad5 : Addr) (s1 : Int32) (ad6 : Addr) (s2 : Int32) (HE_ad4 : Exa Z h1 ad4 "com/example/monarc/monarc/InitialDomain") (HF_ad4_InitialDomain_lowest : Fld Z h1 ad4 "com/example/monarc/monarc/InitialDomain" "lowest" "I" (.int (0 : Int32))) (HF_ad4_InitialDomain_size : Fld Z h1 ad4 "com/example/monarc/monarc/InitialDomain" "size" "I" (.int s0)) (HF_ad4_InitialDomain_values : Fld Z h1 ad4 "com/example/monarc/monarc/InitialDomain" "values" "[I" .null) (HE_ad5 : Exa Z h1 ad5 "com/example/monarc/monarc/InitialDomain") (HF_ad5_InitialDomain_lowest : Fld Z h1 ad5 "com/example/monarc/monarc/InitialDomain" "lowest" "I" (.int (0 : Int32))) (HF_ad5_InitialDomain_size : Fld Z h1 ad5 "com/example/monarc/monarc/InitialDomain" "size" "I" (.int s1)) (HF_ad5_InitialDomain_values : Fld Z h1 ad5 "com/example/monarc/monarc/InitialDomain" "values" "[I" .null) (HE_ad6 : Exa Z h1 ad6 "com/example/monarc/monarc/InitialDomain") (HF_ad6_InitialDomain_lowest : Fld Z h1 ad6 "com/example/monarc/monarc/InitialDomain" "lowest" "I" (.int (0 : Int32))) (HF_ad6_InitialDomain_size : Fld Z h1 ad6 "com/example/monarc/monarc/InitialDomain" "size" "I" (.int s2)) (HF_ad6_InitialDomain_values : Fld Z h1 ad6 "com/example/monarc/monarc/InitialDomain" "values" "[I" .null) (HE_ad1 : Exa Z h1 ad1 "com/example/monarc/monarc/Variable") (HF_ad1_Variable_domain : Fld Z h1 ad1 "com/example/monarc/monarc/Variable" "domain" "Lcom/example/monarc/monarc/InitialDomain;" (.ref ad4)) (HE_ad2 : Exa Z h1 ad2 "com/example/monarc/monarc/Variable") (HF_ad2_Variable_domain : Fld Z h1 ad2 "com/example/monarc/monarc/Variable" "domain" "Lcom/example/monarc/monarc/InitialDomain;" (.ref ad5)) (HE_ad3 : Exa Z h1 ad3 "com/example/monarc/monarc/Variable") (HF_ad3_Variable_domain : Fld Z h1 ad3 "com/example/monarc/monarc/Variable" "domain" "Lcom/example/monarc/monarc/InitialDomain;" (.ref ad6)) (hb_ln0 : 1 ≤ ln0.toInt ∧ ln0.toInt < 1073741824) (hb_ln1 : 1 ≤ ln1.toInt ∧ ln1.toInt < 1073741824) (hb_ln2 : 1 ≤ ln2.toInt ∧ ln2.toInt < 1073741824) (hs0 : s0.toInt = ln0.toInt) (hs1 : s1.toInt = ln1.toInt) (hs2 : s2.toInt = ln2.toInt) :
    Go p e below (Fin2 s below Q room_1.cells room_1.slots) (T0.setTop (mkF m 99 #[.val (.int lf0), .val (.int lf1), .val (.int lf2), .val (.long p4), .second, .val (.int p5), .val (.long ln0), .second, .val (.long ln1), .second, .val (.long ln2), .second, .val (.ref ld12), .val (.ref ld13), .val (.ref ld14), .val (.ref ad1), .val (.ref ad2), .val (.ref ad3), .val (.int (3 : Int32)), .unset, .unset, .unset, .unset, .unset, .unset, .unset, .unset, .unset] [])) := by
  obtain ⟨Eu_1, Su_1, Eaw0, Saw0, Au_1, Aaw0⟩ := id HW
  show Go p e below _ (T0.setTop (mkF m 99 #[.val (.int lf0), .val (.int lf1), .val (.int lf2), .val (.long p4), .second, .val (.int p5), .val (.long ln0), .second, .val (.long ln1), .second, .val (.long ln2), .second, .val (.ref ld12), .val (.ref ld13), .val (.ref ld14), .val (.ref ad1), .val (.ref ad2), .val (.ref ad3), .val (.int (3 : Int32)), .unset, .unset, .unset, .unset, .unset, .unset, .unset, .unset, .unset] []))
  refine gs.iload X0.here hx (hb hby at_99) rfl ?_
  refine gs.iconst 3 X0.here hx (hb hby at_101) rfl ?_
  have hc102 : ¬ ((3 : Int32) < (3 : Int32)) := by decide
  refine gs.icmpYes 108 X0.here hx (hb hby at_102) (flt hc102).2.2.2 rfl ?_
  obtain ⟨T2, h2, X2, e2, E2, A2, D2, Y2, st2⟩ := newO X0 hx hZ hown (wd hw 52 rfl) (wd hw 53 rfl) (wd hw 54 rfl) e0 (g := (mkF m 108 #[.val (.int lf0), .val (.int lf1), .val (.int lf2), .val (.long p4), .second, .val (.int p5), .val (.long ln0), .second, .val (.long ln1), .second, .val (.long ln2), .second, .val (.ref ld12), .val (.ref ld13), .val (.ref ld14), .val (.ref ad1), .val (.ref ad2), .val (.ref ad3), .val (.int (3 : Int32)), .unset, .unset, .unset, .unset, .unset, .unset, .unset, .unset, .unset] [])) rfl (hb hby at_108) (by decide) (by decide)
  obtain ⟨b2, g2⟩ : ∃ z, z = h1.size := ⟨_, rfl⟩
  rw [← g2] at A2 D2 Y2 st2
  have nn_b2 : n0 ≤ b2 := Nat.le_trans (old_z0 Ol) (Nat.le_of_eq g2.symm)
  have sz_b2 : h0.size ≤ b2 := Nat.le_trans kp0.1 (Nat.le_of_eq g2.symm)
  have old2 := Ol.ext E2
  have kp2 := kp0.ext E2
  have hk2 := Nat.le_trans hk0 E2.1
  have F2_modCount : Fld Z h2 b2 "java/util/AbstractList" "modCount" "I" (.int (0 : Int32)) := D2 (Or.inl (wd hw 72 rfl)) (ty := .int) (by decide)
  have F2_elementData : Fld Z h2 b2 "java/util/ArrayList" "elementData" "[Ljava/lang/Object;" .null := D2 (Or.inl (wd hw 75 rfl)) (ty := (.array (.object "java/lang/Object"))) (by decide)
  have F2_size : Fld Z h2 b2 "java/util/ArrayList" "size" "I" (.int (0 : Int32)) := D2 (Or.inl (wd hw 99 rfl)) (ty := .int) (by decide)
  refine Go.fin st2 ?_
  show Go p e below _ (T2.setTop (mkF m 111 _ [(.ref b2)]))
  refine gs.dup X2.here hx (hb hby at_111) rfl ?_
  refine gs.init 1 X2 hx hZ hown (am7_1 l Z a0 hw [] u_1 aw0 u_0 kaw0 HW (b2) h2 n0 old2 A2 F2_modCount F2_elementData F2_size nn_b2) (wd hw 57 rfl) (wd hw 54 rfl) (wd hw 55 rfl) rfl (wd hw 56 rfl) (by decide) (by decide) (by decide) (by rw [hml]; rfl) [] (lenOf pd_3 rfl) rfl (Nat.le_of_eq rfl) (hb hby at_112) rfl e2 (by decide) (by decide) fun T3 Lc3 v3 X3 hQ3 => ?_
  obtain ⟨rfl, Nq3, K3, p3_0, p3_1, p3_2, p3_3⟩ := hQ3
  have old3 := old2.keep K3 (allS nn_b2 all0)
  have hk3 := Nat.le_trans hk2 K3.1
  have kp3 := kp2.trans K3 (allS (Or.inr sz_b2) all0)
  have N3 := Fr.app N0 Nq3
  show Go p e below _ (T3.setTop (mkF m 115 _ [(.ref b2)]))
  refine gs.astore X3.here hx (hb hby at_115) rfl (l' := #[.val (.int lf0), .val (.int lf1), .val (.int lf2), .val (.long p4), .second, .val (.int p5), .val (.long ln0), .second, .val (.long ln1), .second, .val (.long ln2), .second, .val (.ref ld12), .val (.ref ld13), .val (.ref ld14), .val (.ref ad1), .val (.ref ad2), .val (.ref ad3), .val (.int (3 : Int32)), .val (.ref b2), .unset, .unset, .unset, .unset, .unset, .unset, .unset, .unset]) rfl ?_
  refine gs.iload X3.here hx (hb hby at_117) rfl ?_
  have hc119 : (0 : Int32) < (3 : Int32) := by decide
  refine gs.ifNo X3.here hx (hb hby at_119) ((if0 _ _).trans (tlt hc119).2.2.2) ?_
  refine gs.aload X3.here hx (hb hby at_122) rfl rfl ?_
  refine gs.aload X3.here hx (hb hby at_124) rfl rfl ?_
  have f4 := ((HE_ad1.ext E2).keep K3)
  refine gs.virt 0 X3 hx hZ hown (am13_1 l Z a0 hw [] u_1 aw0 u_0 kaw0 HW (b2) (ad1) T3.heap n0 old3 f4 p3_0 p3_1 p3_2 p3_3 nn_b2) (wd hw 123 rfl) (wd hw 54 rfl) (wd hw 119 rfl) (wd hw 120 rfl) (notFace_of_selects (args := #[]) (mvT hZ (wd hw 122 rfl))) (wd hw 122 rfl) (wd hw 121 rfl) (by decide) p3_0 (by decide) (by decide) (by rw [hml]; rfl) [(.ref ad1)] (lenOf pd_12 rfl) rfl (Nat.le_of_eq rfl) (hb hby at_126) rfl rfl (by decide) (by decide) fun T5 Lc5 v5 X5 hQ5 => ?_
  obtain ⟨b5_0, kx5_0, rfl, gb_b5_0, Nq5, K5, p5_0, p5_1, p5_2, p5_3, p5_4, ov5_0⟩ := hQ5
  have nn_b5_0 : n0 ≤ b5_0 := Nat.le_trans (old_z0 old3) gb_b5_0
  have sz_b5_0 : h0.size ≤ b5_0 := Nat.le_trans kp3.1 gb_b5_0
  have old5 := old3.keep K5 (allS nn_b2 all0)
  have hk5 := Nat.le_trans hk3 K5.1
  have kp5 := kp3.trans K5 (allS (Or.inr sz_b2) all0)
  have N5 := Fr.app N3 Nq5
  show Go p e below _ (T5.setTop (mkF m 129 _ [(.int (1 : Int32))]))
  refine gs.pop X5.here hx (hb hby at_129) rfl ?_
  refine gs.iload X5.here hx (hb hby at_130) rfl ?_
  refine gs.iconst 1 X5.here hx (hb hby at_132) rfl ?_
  have hc133 : (1 : Int32) < (3 : Int32) := by decide
  refine gs.icmpNo X5.here hx (hb hby at_133) (tlt hc133).2.2.2 ?_
  refine gs.aload X5.here hx (hb hby at_136) rfl rfl ?_
  refine gs.aload X5.here hx (hb hby at_138) rfl rfl ?_
  have f6 := (((HE_ad2.ext E2).keep K3).keep K5)
  have ne_b2_b5_0 : b2 ≠ b5_0 := Nat.ne_of_lt (Nat.lt_of_lt_of_le p3_0.lt gb_b5_0)
  refine gs.virt 0 X5 hx hZ hown (am13_2 l Z a0 hw [] u_1 aw0 u_0 kaw0 HW (b2) (ad2) (ad1) (b5_0) (kx5_0) T5.heap n0 old5 f6 p5_0 p5_1 p5_2 p5_3 p5_4 nn_b2 nn_b5_0 ne_b2_b5_0 ov5_0) (wd hw 123 rfl) (wd hw 54 rfl) (wd hw 119 rfl) (wd hw 120 rfl) (notFace_of_selects (args := #[]) (mvT hZ (wd hw 122 rfl))) (wd hw 122 rfl) (wd hw 121 rfl) (by decide) p5_0 (by decide) (by decide) (by rw [hml]; rfl) [(.ref ad2)] (lenOf pd_12 rfl) rfl (Nat.le_of_eq rfl) (hb hby at_140) rfl rfl (by decide) (by decide) fun T7 Lc7 v7 X7 hQ7 => ?_
  obtain ⟨rfl, Nq7, K7, p7_0, p7_1, p7_2, p7_3, p7_4⟩ := hQ7
  have old7 := old5.keep K7 (allS nn_b2 (allS nn_b5_0 all0))
  have hk7 := Nat.le_trans hk5 K7.1
  have kp7 := kp5.trans K7 (allS (Or.inr sz_b2) (allS (Or.inr sz_b5_0) all0))
  have N7 := Fr.app N5 Nq7
  show Go p e below _ (T7.setTop (mkF m 143 _ [(.int (1 : Int32))]))
  refine gs.pop X7.here hx (hb hby at_143) rfl ?_
  refine gs.iload X7.here hx (hb hby at_144) rfl ?_
  refine gs.iconst 2 X7.here hx (hb hby at_146) rfl ?_
  have hc147 : (2 : Int32) < (3 : Int32) := by decide
  refine gs.icmpNo X7.here hx (hb hby at_147) (tlt hc147).2.2.2 ?_
  refine gs.aload X7.here hx (hb hby at_150) rfl rfl ?_
  refine gs.aload X7.here hx (hb hby at_152) rfl rfl ?_
  have f8 := ((((HE_ad3.ext E2).keep K3).keep K5).keep K7)
  refine gs.virt 0 X7 hx hZ hown (am13_3 l Z a0 hw [] u_1 aw0 u_0 kaw0 HW (b2) (ad3) (ad1) (ad2) (b5_0) (kx5_0) T7.heap n0 old7 f8 p7_0 p7_1 p7_2 p7_3 p7_4 nn_b2 nn_b5_0 ne_b2_b5_0 ov5_0) (wd hw 123 rfl) (wd hw 54 rfl) (wd hw 119 rfl) (wd hw 120 rfl) (notFace_of_selects (args := #[]) (mvT hZ (wd hw 122 rfl))) (wd hw 122 rfl) (wd hw 121 rfl) (by decide) p7_0 (by decide) (by decide) (by rw [hml]; rfl) [(.ref ad3)] (lenOf pd_12 rfl) rfl (Nat.le_of_eq rfl) (hb hby at_154) rfl rfl (by decide) (by decide) fun T9 Lc9 v9 X9 hQ9 => ?_
  obtain ⟨rfl, Nq9, K9, p9_0, p9_1, p9_2, p9_3, p9_4⟩ := hQ9
  have old9 := old7.keep K9 (allS nn_b2 (allS nn_b5_0 all0))
  have hk9 := Nat.le_trans hk7 K9.1
  have kp9 := kp7.trans K9 (allS (Or.inr sz_b2) (allS (Or.inr sz_b5_0) all0))
  have N9 := Fr.app N7 Nq9
  show Go p e below _ (T9.setTop (mkF m 157 _ [(.int (1 : Int32))]))
  refine gs.pop X9.here hx (hb hby at_157) rfl ?_
  obtain ⟨T10, h10, X10, e10, E10, A10, D10, Y10, st10⟩ := newO X9 hx hZ hown (wd hw 76 rfl) (wd hw 77 rfl) (wd hw 78 rfl) rfl (g := (mkF m 158 #[.val (.int lf0), .val (.int lf1), .val (.int lf2), .val (.long p4), .second, .val (.int p5), .val (.long ln0), .second, .val (.long ln1), .second, .val (.long ln2), .second, .val (.ref ld12), .val (.ref ld13), .val (.ref ld14), .val (.ref ad1), .val (.ref ad2), .val (.ref ad3), .val (.int (3 : Int32)), .val (.ref b2), .unset, .unset, .unset, .unset, .unset, .unset, .unset, .unset] [])) rfl (hb hby at_158) (by decide) (by decide)
  obtain ⟨b10, g10⟩ : ∃ z, z = T9.heap.size := ⟨_, rfl⟩
  rw [← g10] at A10 D10 Y10 st10
  have nn_b10 : n0 ≤ b10 := Nat.le_trans (old_z0 old9) (Nat.le_of_eq g10.symm)
  have sz_b10 : h0.size ≤ b10 := Nat.le_trans kp9.1 (Nat.le_of_eq g10.symm)
  have old10 := old9.ext E10
  have kp10 := kp9.ext E10
  have hk10 := Nat.le_trans hk9 E10.1
  have F10_trail : Fld Z h10 b10 "com/example/monarc/monarc/Domains" "trail" "[J" .null := D10 (Or.inl (wd hw 85 rfl)) (ty := (.array .long)) (by decide)
  have F10_marks : Fld Z h10 b10 "com/example/monarc/monarc/Domains" "marks" "[I" .null := D10 (Or.inl (wd hw 88 rfl)) (ty := (.array .int)) (by decide)
  have F10_initial : Fld Z h10 b10 "com/example/monarc/monarc/Domains" "initial" "[Lcom/example/monarc/monarc/InitialDomain;" .null := D10 (Or.inr (wd hw 103 rfl)) (ty := (.array (.object "com/example/monarc/monarc/InitialDomain"))) (by decide)
  have F10_lower : Fld Z h10 b10 "com/example/monarc/monarc/Domains" "lower" "[I" .null := D10 (Or.inr (wd hw 105 rfl)) (ty := (.array .int)) (by decide)
  have F10_upper : Fld Z h10 b10 "com/example/monarc/monarc/Domains" "upper" "[I" .null := D10 (Or.inr (wd hw 107 rfl)) (ty := (.array .int)) (by decide)
  have F10_holes : Fld Z h10 b10 "com/example/monarc/monarc/Domains" "holes" "[[J" .null := D10 (Or.inr (wd hw 111 rfl)) (ty := (.array (.array .long))) (by decide)
  have F10_sizes : Fld Z h10 b10 "com/example/monarc/monarc/Domains" "sizes" "[I" .null := D10 (Or.inr (wd hw 113 rfl)) (ty := (.array .int)) (by decide)
  have F10_withOneValue : Fld Z h10 b10 "com/example/monarc/monarc/Domains" "withOneValue" "I" (.int (0 : Int32)) := D10 (Or.inl (wd hw 183 rfl)) (ty := .int) (by decide)
  have F10_trailSize : Fld Z h10 b10 "com/example/monarc/monarc/Domains" "trailSize" "I" (.int (0 : Int32)) := D10 (Or.inl (wd hw 222 rfl)) (ty := .int) (by decide)
  have F10_resized : Fld Z h10 b10 "com/example/monarc/monarc/Domains" "resized" "Ljava/util/function/IntConsumer;" .null := D10 (Or.inl (wd hw 224 rfl)) (ty := (.object "java/util/function/IntConsumer")) (by decide)
  refine Go.fin st10 ?_
  show Go p e below _ (T10.setTop (mkF m 161 _ [(.ref b10)]))
  refine gs.dup X10.here hx (hb hby at_161) rfl ?_
  refine gs.aload X10.here hx (hb hby at_162) rfl rfl ?_
  have f11 := ((((((HE_ad4.ext E2).keep K3).keep K5).keep K7).keep K9).ext E10)
  have ne_ad4_b2 : ad4 ≠ b2 := Nat.ne_of_lt (Nat.lt_of_lt_of_le HE_ad4.lt (Nat.le_of_eq g2.symm))
  have ne_ad4_b5_0 : ad4 ≠ b5_0 := Nat.ne_of_lt (Nat.lt_of_lt_of_le ((HE_ad4.ext E2).keep K3).lt gb_b5_0)
  have f12 := ((((((HF_ad4_InitialDomain_size.ext E2).keep K3 (ninS ne_ad4_b2 nin0)).keep K5 (ninS ne_ad4_b2 nin0)).keep K7 (ninS ne_ad4_b2 (ninS ne_ad4_b5_0 nin0))).keep K9 (ninS ne_ad4_b2 (ninS ne_ad4_b5_0 nin0))).ext E10)
  have f13 := ((((((HE_ad5.ext E2).keep K3).keep K5).keep K7).keep K9).ext E10)
  have ne_ad5_b2 : ad5 ≠ b2 := Nat.ne_of_lt (Nat.lt_of_lt_of_le HE_ad5.lt (Nat.le_of_eq g2.symm))
  have ne_ad5_b5_0 : ad5 ≠ b5_0 := Nat.ne_of_lt (Nat.lt_of_lt_of_le ((HE_ad5.ext E2).keep K3).lt gb_b5_0)
  have f14 := ((((((HF_ad5_InitialDomain_size.ext E2).keep K3 (ninS ne_ad5_b2 nin0)).keep K5 (ninS ne_ad5_b2 nin0)).keep K7 (ninS ne_ad5_b2 (ninS ne_ad5_b5_0 nin0))).keep K9 (ninS ne_ad5_b2 (ninS ne_ad5_b5_0 nin0))).ext E10)
  have f15 := ((((((HE_ad6.ext E2).keep K3).keep K5).keep K7).keep K9).ext E10)
  have ne_ad6_b2 : ad6 ≠ b2 := Nat.ne_of_lt (Nat.lt_of_lt_of_le HE_ad6.lt (Nat.le_of_eq g2.symm))
  have ne_ad6_b5_0 : ad6 ≠ b5_0 := Nat.ne_of_lt (Nat.lt_of_lt_of_le ((HE_ad6.ext E2).keep K3).lt gb_b5_0)
  have f16 := ((((((HF_ad6_InitialDomain_size.ext E2).keep K3 (ninS ne_ad6_b2 nin0)).keep K5 (ninS ne_ad6_b2 nin0)).keep K7 (ninS ne_ad6_b2 (ninS ne_ad6_b5_0 nin0))).keep K9 (ninS ne_ad6_b2 (ninS ne_ad6_b5_0 nin0))).ext E10)
  have f17 := ((((f4.keep K5).keep K7).keep K9).ext E10)
  have ne_ad1_b2 : ad1 ≠ b2 := Nat.ne_of_lt (Nat.lt_of_lt_of_le HE_ad1.lt (Nat.le_of_eq g2.symm))
  have ne_ad1_b5_0 : ad1 ≠ b5_0 := Nat.ne_of_lt (Nat.lt_of_lt_of_le f4.lt gb_b5_0)
  have f18 := ((((((HF_ad1_Variable_domain.ext E2).keep K3 (ninS ne_ad1_b2 nin0)).keep K5 (ninS ne_ad1_b2 nin0)).keep K7 (ninS ne_ad1_b2 (ninS ne_ad1_b5_0 nin0))).keep K9 (ninS ne_ad1_b2 (ninS ne_ad1_b5_0 nin0))).ext E10)
  have f19 := (((f6.keep K7).keep K9).ext E10)
  have ne_ad2_b2 : ad2 ≠ b2 := Nat.ne_of_lt (Nat.lt_of_lt_of_le HE_ad2.lt (Nat.le_of_eq g2.symm))
  have ne_ad2_b5_0 : ad2 ≠ b5_0 := Nat.ne_of_lt (Nat.lt_of_lt_of_le ((HE_ad2.ext E2).keep K3).lt gb_b5_0)
  have f20 := ((((((HF_ad2_Variable_domain.ext E2).keep K3 (ninS ne_ad2_b2 nin0)).keep K5 (ninS ne_ad2_b2 nin0)).keep K7 (ninS ne_ad2_b2 (ninS ne_ad2_b5_0 nin0))).keep K9 (ninS ne_ad2_b2 (ninS ne_ad2_b5_0 nin0))).ext E10)
  have f21 := ((f8.keep K9).ext E10)
  have ne_ad3_b2 : ad3 ≠ b2 := Nat.ne_of_lt (Nat.lt_of_lt_of_le HE_ad3.lt (Nat.le_of_eq g2.symm))
  have ne_ad3_b5_0 : ad3 ≠ b5_0 := Nat.ne_of_lt (Nat.lt_of_lt_of_le ((HE_ad3.ext E2).keep K3).lt gb_b5_0)
  have f22 := ((((((HF_ad3_Variable_domain.ext E2).keep K3 (ninS ne_ad3_b2 nin0)).keep K5 (ninS ne_ad3_b2 nin0)).keep K7 (ninS ne_ad3_b2 (ninS ne_ad3_b5_0 nin0))).keep K9 (ninS ne_ad3_b2 (ninS ne_ad3_b5_0 nin0))).ext E10)
  have f23 := (p9_0.ext E10)
  have f24 := (p9_2.ext E10)
  have f25 := (p9_3.ext E10)
  have f26 := (p9_4.ext E10)
  have ne_b2_b10 : b2 ≠ b10 := Nat.ne_of_lt (Nat.lt_of_lt_of_le p9_0.lt (Nat.le_of_eq g10.symm))
  have ne_ad4_b10 : ad4 ≠ b10 := Nat.ne_of_lt (Nat.lt_of_lt_of_le (((((HE_ad4.ext E2).keep K3).keep K5).keep K7).keep K9).lt (Nat.le_of_eq g10.symm))
  have ne_ad5_b10 : ad5 ≠ b10 := Nat.ne_of_lt (Nat.lt_of_lt_of_le (((((HE_ad5.ext E2).keep K3).keep K5).keep K7).keep K9).lt (Nat.le_of_eq g10.symm))
  have ne_ad6_b10 : ad6 ≠ b10 := Nat.ne_of_lt (Nat.lt_of_lt_of_le (((((HE_ad6.ext E2).keep K3).keep K5).keep K7).keep K9).lt (Nat.le_of_eq g10.symm))
  have ne_ad1_b10 : ad1 ≠ b10 := Nat.ne_of_lt (Nat.lt_of_lt_of_le (((f4.keep K5).keep K7).keep K9).lt (Nat.le_of_eq g10.symm))
  have ne_ad2_b10 : ad2 ≠ b10 := Nat.ne_of_lt (Nat.lt_of_lt_of_le ((f6.keep K7).keep K9).lt (Nat.le_of_eq g10.symm))
  have ne_ad3_b10 : ad3 ≠ b10 := Nat.ne_of_lt (Nat.lt_of_lt_of_le (f8.keep K9).lt (Nat.le_of_eq g10.symm))
  have ne_b5_0_b10 : b5_0 ≠ b10 := Nat.ne_of_lt (Nat.lt_of_lt_of_le p9_4.lt (Nat.le_of_eq g10.symm))
  refine gs.init 1 X10 hx hZ hown (am10_4 l Z a0 hw [] u_1 aw0 u_0 kaw0 HW (b10) (b2) (ad4) (s0) (ad5) (s1) (ad6) (s2) (ad1) (ad2) (ad3) (b5_0) (kx5_0) h10 n0 old10 f11 f12 f13 f14 f15 f16 f17 f18 f19 f20 f21 f22 f23 f24 f25 f26 A10 F10_trail F10_marks F10_initial F10_lower F10_upper F10_holes F10_sizes F10_withOneValue F10_trailSize F10_resized nn_b10 (Ne.symm ne_b2_b10) (Ne.symm ne_ad4_b10) (Ne.symm ne_ad5_b10) (Ne.symm ne_ad6_b10) (Ne.symm ne_ad1_b10) (Ne.symm ne_ad2_b10) (Ne.symm ne_ad3_b10) (Ne.symm ne_b5_0_b10) ov5_0) (wd hw 81 rfl) (wd hw 78 rfl) (wd hw 79 rfl) rfl (wd hw 80 rfl) (by decide) (by decide) (by decide) (by rw [hml]; rfl) [(.ref b2)] (lenOf pd_6 rfl) rfl (Nat.le_of_eq rfl) (hb hby at_164) rfl e10 (by decide) (by decide) fun T27 Lc27 v27 X27 hQ27 => ?_
  obtain ⟨b27_0, b27_1, b27_2, b27_3, b27_4, b27_5, kx27_0, kx27_1, kx27_2, kx27_3, kx27_4, kx27_5, ex27_0, rfl, gb_b27_0, gb_b27_1, gb_b27_2, gb_b27_3, gb_b27_4, gb_b27_5, ne_b27_0_b27_1, ne_b27_0_b27_2, ne_b27_0_b27_3, ne_b27_0_b27_4, ne_b27_0_b27_5, ne_b27_1_b27_2, ne_b27_1_b27_3, ne_b27_1_b27_4, ne_b27_1_b27_5, ne_b27_2_b27_3, ne_b27_2_b27_4, ne_b27_2_b27_5, ne_b27_3_b27_4, ne_b27_3_b27_5, ne_b27_4_b27_5, Nq27, K27, p27_0, p27_1, p27_2, p27_3, p27_4, p27_5, p27_6, p27_7, p27_8, p27_9, p27_10, p27_11, p27_12, p27_13, p27_14, p27_15, p27_16, ov27_0, ov27_1⟩ := hQ27
  have nn_b27_0 : n0 ≤ b27_0 := Nat.le_trans (old_z0 old10) gb_b27_0
  have sz_b27_0 : h0.size ≤ b27_0 := Nat.le_trans kp10.1 gb_b27_0
  have nn_b27_1 : n0 ≤ b27_1 := Nat.le_trans (old_z0 old10) gb_b27_1
  have sz_b27_1 : h0.size ≤ b27_1 := Nat.le_trans kp10.1 gb_b27_1
  have nn_b27_2 : n0 ≤ b27_2 := Nat.le_trans (old_z0 old10) gb_b27_2
  have sz_b27_2 : h0.size ≤ b27_2 := Nat.le_trans kp10.1 gb_b27_2
  have nn_b27_3 : n0 ≤ b27_3 := Nat.le_trans (old_z0 old10) gb_b27_3
  have sz_b27_3 : h0.size ≤ b27_3 := Nat.le_trans kp10.1 gb_b27_3
  have nn_b27_4 : n0 ≤ b27_4 := Nat.le_trans (old_z0 old10) gb_b27_4
  have sz_b27_4 : h0.size ≤ b27_4 := Nat.le_trans kp10.1 gb_b27_4
  have nn_b27_5 : n0 ≤ b27_5 := Nat.le_trans (old_z0 old10) gb_b27_5
  have sz_b27_5 : h0.size ≤ b27_5 := Nat.le_trans kp10.1 gb_b27_5
  have old27 := old10.keep K27 (allS nn_b10 all0)
  have hk27 := Nat.le_trans hk10 K27.1
  have kp27 := kp10.trans K27 (allS (Or.inr sz_b10) all0)
  have N27 := Fr.app N9 Nq27
  show Go p e below _ (T27.setTop (mkF m 167 _ [(.ref b10)]))
  refine gs.astore X27.here hx (hb hby at_167) rfl (l' := #[.val (.int lf0), .val (.int lf1), .val (.int lf2), .val (.long p4), .second, .val (.int p5), .val (.long ln0), .second, .val (.long ln1), .second, .val (.long ln2), .second, .val (.ref ld12), .val (.ref ld13), .val (.ref ld14), .val (.ref ad1), .val (.ref ad2), .val (.ref ad3), .val (.int (3 : Int32)), .val (.ref b2), .val (.ref b10), .unset, .unset, .unset, .unset, .unset, .unset, .unset]) rfl ?_
  have hy0 := to64 hs0
  have hy1 := to64 hs1
  have hy2 := to64 hs2
  obtain ⟨fs, hd_fs⟩ : ∃ z : Nat → Int32, z = fun i => ([s0, s1, s2] : List Int32).getD i s0 := ⟨_, rfl⟩
  have g28_ : Ari Z T27.heap b27_3 kx27_3 (3 : Int32) fs := Arw.of_list p27_14 (by rw [hd_fs]; intro i hi; have h4 : i < 3 := hi; rcases i with _ | _ | _ | i <;> first | rfl | omega)
  have hv_fs0 : (fs ((0 : Int32)).toNatClampNeg) = s0 := by rw [hd_fs]; rfl
  have hv_fs1 : (fs ((1 : Int32)).toNatClampNeg) = s1 := by rw [hd_fs]; rfl
  have hv_fs2 : (fs ((2 : Int32)).toNatClampNeg) = s2 := by rw [hd_fs]; rfl
  obtain ⟨fu, hd_fu⟩ : ∃ z : Nat → Int32, z = fun i => ([(s0 - (1 : Int32)), (s1 - (1 : Int32)), (s2 - (1 : Int32))] : List Int32).getD i (s0 - (1 : Int32)) := ⟨_, rfl⟩
  have g29_ : Ari Z T27.heap b27_5 kx27_5 (3 : Int32) fu := Arw.of_list p27_16 (by rw [hd_fu]; intro i hi; have h4 : i < 3 := hi; rcases i with _ | _ | _ | i <;> first | rfl | omega)
  have hv_fu0 : (fu ((0 : Int32)).toNatClampNeg) = (s0 - (1 : Int32)) := by rw [hd_fu]; rfl
  have hv_fu1 : (fu ((1 : Int32)).toNatClampNeg) = (s1 - (1 : Int32)) := by rw [hd_fu]; rfl
  have hv_fu2 : (fu ((2 : Int32)).toNatClampNeg) = (s2 - (1 : Int32)) := by rw [hd_fu]; rfl
  have g30_ : Ari Z T27.heap b27_2 kx27_2 (3 : Int32) (fun _ => (0 : Int32)) := Arw.of_list p27_13 (by intro i hi; have h4 : i < 3 := hi; rcases i with _ | _ | _ | i <;> first | rfl | omega)
  have g31_ : Arw Z T27.heap b27_0 kx27_0 (.array .long) (3 : Int32) (fun _ => .null) := Arw.of_list p27_11 (by intro i hi; have h4 : i < 3 := hi; rcases i with _ | _ | _ | i <;> first | rfl | omega)
  obtain ⟨fa, hd_fa⟩ : ∃ z : Nat → Addr, z = fun i => ([ad4, ad5, ad6] : List Addr).getD i ad4 := ⟨_, rfl⟩
  have g32_ : Ara Z T27.heap b27_1 kx27_1 (.object "com/example/monarc/monarc/InitialDomain") (3 : Int32) fa := Arw.of_list p27_12 (by rw [hd_fa]; intro i hi; have h4 : i < 3 := hi; rcases i with _ | _ | _ | i <;> first | rfl | omega)
  have hv_fa0 : (fa ((0 : Int32)).toNatClampNeg) = ad4 := by rw [hd_fa]; rfl
  have hv_fa1 : (fa ((1 : Int32)).toNatClampNeg) = ad5 := by rw [hd_fa]; rfl
  have hv_fa2 : (fa ((2 : Int32)).toNatClampNeg) = ad6 := by rw [hd_fa]; rfl
  have g33_f : Arf Z T27.heap b27_4 kx27_4 (1024 : Int32) (fun _ => (0 : Int64)) := Arf.of_arv p27_15
  obtain ⟨ft, hd_ft⟩ : ∃ z, z = (fun _ => (0 : Int64)) := ⟨_, rfl⟩
  have v34_ : Arf Z T27.heap b27_4 kx27_4 (1024 : Int32) ft := by rw [hd_ft]; exact g33_f
  obtain ⟨t0, hd_t0⟩ : ∃ z, z = (0 : Int32) := ⟨_, rfl⟩
  have v35_ : Fld Z T27.heap b10 "com/example/monarc/monarc/Domains" "trailSize" "I" (.int t0) := by rw [hd_t0]; exact p27_7
  obtain ⟨w0, hd_w0⟩ : ∃ z, z = ex27_0 := ⟨_, rfl⟩
  have v36_ : Fld Z T27.heap b10 "com/example/monarc/monarc/Domains" "withOneValue" "I" (.int w0) := by rw [hd_w0]; exact p27_9
  have hb_t0 : t0.toInt = 0 := by rw [hd_t0]; rfl
  have o1024 : (1024 : Int32).toInt = 1024 := rfl
  refine gs.iload X27.here hx (hb hby at_169) rfl ?_
  have hc171 : (0 : Int32) < (3 : Int32) := by decide
  refine gs.ifNo X27.here hx (hb hby at_171) ((if0 _ _).trans (tlt hc171).2.2.2) ?_
  refine gs.lload X27.here hx (hb hby at_174) rfl ?_
  refine gs.goto 180 X27.here hx (hb hby at_176) rfl ?_
  refine gs.iload X27.here hx (hb hby at_180) rfl ?_
  refine gs.iconst 1 X27.here hx (hb hby at_182) rfl ?_
  have hc183 : (1 : Int32) < (3 : Int32) := by decide
  refine gs.icmpNo X27.here hx (hb hby at_183) (tlt hc183).2.2.2 ?_
  refine gs.lload X27.here hx (hb hby at_186) rfl ?_
  refine gs.goto 192 X27.here hx (hb hby at_188) rfl ?_
  refine gs.ladd X27.here hx (hb hby at_192) ?_
  refine gs.iload X27.here hx (hb hby at_193) rfl ?_
  refine gs.iconst 2 X27.here hx (hb hby at_195) rfl ?_
  have hc196 : (2 : Int32) < (3 : Int32) := by decide
  refine gs.icmpNo X27.here hx (hb hby at_196) (tlt hc196).2.2.2 ?_
  refine gs.lload X27.here hx (hb hby at_199) rfl ?_
  refine gs.goto 205 X27.here hx (hb hby at_201) rfl ?_
  refine gs.ladd X27.here hx (hb hby at_205) ?_
  refine gs.lstore X27.here hx (hb hby at_206) (l' := #[.val (.int lf0), .val (.int lf1), .val (.int lf2), .val (.long p4), .second, .val (.int p5), .val (.long ln0), .second, .val (.long ln1), .second, .val (.long ln2), .second, .val (.ref ld12), .val (.ref ld13), .val (.ref ld14), .val (.ref ad1), .val (.ref ad2), .val (.ref ad3), .val (.int (3 : Int32)), .val (.ref b2), .val (.ref b10), .val (.long ((ln0 + ln1) + ln2)), .second, .unset, .unset, .unset, .unset, .unset]) rfl ?_
  refine gs.aload X27.here hx (hb hby at_208) rfl rfl ?_
  refine gs.virt 0 X27 hx hZ hown (am12_4 l Z a0 hw [] u_1 aw0 u_0 kaw0 HW (b10) (b27_3) (kx27_3) (fs) T27.heap n0 old27 p27_5 g28_ (by decide) (by decide) (by decide)) (wd hw 118 rfl) (wd hw 78 rfl) (wd hw 114 rfl) (wd hw 115 rfl) (notFace_of_selects (args := #[]) (mvT hZ (wd hw 117 rfl))) (wd hw 117 rfl) (wd hw 116 rfl) (by decide) p27_0 (by decide) (by decide) (by rw [hml]; rfl) [] (lenOf pd_7 rfl) rfl (Nat.le_of_eq rfl) (hb hby at_210) rfl rfl (by decide) (by decide) fun T37 Lc37 v37 X37 hQ37 => ?_
  obtain ⟨rfl, Nq37, e37⟩ := hQ37
  have N37 := Fr.app N27 Nq37
  show Go p e below _ (T37.setTop (mkF m 213 _ [(.long ((((0 : Int64) + ((fs ((0 : Int32)).toNatClampNeg).toInt64)) + ((fs ((1 : Int32)).toNatClampNeg).toInt64)) + ((fs ((2 : Int32)).toNatClampNeg).toInt64)))]))
  refine gs.lload X37.here hx (hb hby at_213) rfl ?_
  refine Go.fin (fun t_ k_ => XS.lcmp X37.here hx rfl (hb hby at_215) rfl k_) ?_
  show Go p e below _ (T37.setTop (mkF m 216 _ [(.int (lcmpW ((((0 : Int64) + ((fs ((0 : Int32)).toNatClampNeg).toInt64)) + ((fs ((1 : Int32)).toNatClampNeg).toInt64)) + ((fs ((2 : Int32)).toNatClampNeg).toInt64)) ((ln0 + ln1) + ln2)))]))
  have hc216 : (lcmpW ((((0 : Int64) + ((fs ((0 : Int32)).toNatClampNeg).toInt64)) + ((fs ((1 : Int32)).toNatClampNeg).toInt64)) + ((fs ((2 : Int32)).toNatClampNeg).toInt64)) ((ln0 + ln1) + ln2)) = (0 : Int32) := by rw [hv_fs0, hy0, hv_fs1, hy1, hv_fs2, hy2]; exact lw_of_eq (by simp only [zero_add64, add_zero64])
  refine gs.ifYes 221 X37.here hx (hb hby at_216) ((if0 _ _).trans (teq hc216).1) rfl ?_
  refine gs.iload X37.here hx (hb hby at_221) rfl ?_
  have hc223 : ¬ ((3 : Int32) = (0 : Int32)) := by decide
  refine gs.ifYes 228 X37.here hx (hb hby at_223) ((if0 _ _).trans (feq hc223).2) rfl ?_
  refine gs.iload X37.here hx (hb hby at_228) rfl ?_
  refine gs.iconst 2 X37.here hx (hb hby at_230) rfl ?_
  refine Go.fin (fun t_ k_ => XS.iushr X37.here hx rfl (hb hby at_231) rfl k_) ?_
  show Go p e below _ (T37.setTop (mkF m 232 _ [(.int ((p5.toUInt32 >>> ((2 : Int32) &&& 31).toUInt32).toInt32))]))
  refine gs.iconst 3 X37.here hx (hb hby at_232) rfl ?_
  refine gs.iand X37.here hx (hb hby at_233) ?_
  refine gs.iload X37.here hx (hb hby at_234) rfl ?_
  refine Go.fin (fun t_ k_ => iremM X37 hx rfl (hb hby at_236) rfl (by decide) k_) ?_
  show Go p e below _ (T37.setTop (mkF m 237 _ [(.int ((((p5.toUInt32 >>> ((2 : Int32) &&& 31).toUInt32).toInt32) &&& (3 : Int32)) % (3 : Int32)))]))
  refine gs.istore X37.here hx (hb hby at_237) (l' := #[.val (.int lf0), .val (.int lf1), .val (.int lf2), .val (.long p4), .second, .val (.int p5), .val (.long ln0), .second, .val (.long ln1), .second, .val (.long ln2), .second, .val (.ref ld12), .val (.ref ld13), .val (.ref ld14), .val (.ref ad1), .val (.ref ad2), .val (.ref ad3), .val (.int (3 : Int32)), .val (.ref b2), .val (.ref b10), .val (.long ((ln0 + ln1) + ln2)), .second, .val (.int ((((p5.toUInt32 >>> ((2 : Int32) &&& 31).toUInt32).toInt32) &&& (3 : Int32)) % (3 : Int32))), .unset, .unset, .unset, .unset]) rfl ?_
  generalize hk_t : ((((p5.toUInt32 >>> ((2 : Int32) &&& 31).toUInt32).toInt32) &&& (3 : Int32)) % (3 : Int32)) = t
  show Go p e below _ (T37.setTop (mkF m 239 #[.val (.int lf0), .val (.int lf1), .val (.int lf2), .val (.long p4), .second, .val (.int p5), .val (.long ln0), .second, .val (.long ln1), .second, .val (.long ln2), .second, .val (.ref ld12), .val (.ref ld13), .val (.ref ld14), .val (.ref ad1), .val (.ref ad2), .val (.ref ad3), .val (.int (3 : Int32)), .val (.ref b2), .val (.ref b10), .val (.long ((ln0 + ln1) + ln2)), .second, .val (.int t), .unset, .unset, .unset, .unset] []))
  have hb_t : 0 ≤ t.toInt ∧ t.toInt < 3 := by rw [← hk_t]; exact remk_bd (and3_bd _) (z := (3 : Int32)) rfl (by decide)
  rcases cs3 hb_t with rfl | rfl | rfl
  next =>
    show Go p e below _ (T37.setTop (mkF m 239 #[.val (.int lf0), .val (.int lf1), .val (.int lf2), .val (.long p4), .second, .val (.int p5), .val (.long ln0), .second, .val (.long ln1), .second, .val (.long ln2), .second, .val (.ref ld12), .val (.ref ld13), .val (.ref ld14), .val (.ref ad1), .val (.ref ad2), .val (.ref ad3), .val (.int (3 : Int32)), .val (.ref b2), .val (.ref b10), .val (.long ((ln0 + ln1) + ln2)), .second, .val (.int (0 : Int32)), .unset, .unset, .unset, .unset] []))
    refine gs.iload X37.here hx (hb hby at_239) rfl ?_
    have hc241 : (0 : Int32) = (0 : Int32) := by decide
    refine gs.ifNo X37.here hx (hb hby at_241) ((if0 _ _).trans (teq hc241).2) ?_
    refine gs.lload X37.here hx (hb hby at_244) rfl ?_
    refine gs.goto 262 X37.here hx (hb hby at_246) rfl ?_
    refine gs.lstore X37.here hx (hb hby at_262) (l' := #[.val (.int lf0), .val (.int lf1), .val (.int lf2), .val (.long p4), .second, .val (.int p5), .val (.long ln0), .second, .val (.long ln1), .second, .val (.long ln2), .second, .val (.ref ld12), .val (.ref ld13), .val (.ref ld14), .val (.ref ad1), .val (.ref ad2), .val (.ref ad3), .val (.int (3 : Int32)), .val (.ref b2), .val (.ref b10), .val (.long ((ln0 + ln1) + ln2)), .second, .val (.int (0 : Int32)), .val (.long ln0), .second, .unset, .unset]) rfl ?_
    refine gs.lload X37.here hx (hb hby at_264) rfl ?_
    refine Go.fin (fun t_ k_ => XS.lconst X37.here hx rfl (hb hby at_266) k_) ?_
    show Go p e below _ (T37.setTop (mkF m 267 _ [(.long (0 : Int64)), (.long ln0)]))
    refine gs.lloadN X37.here hx (hb hby at_267) rfl ?_
    refine gs.stat 2 X37 hx hZ hown (rm24 l Z a0 hw [] u_1 aw0 u_0 kaw0 HW (0 : Int64) p4 (mxL (0 : Int64) p4) T27.heap n0 old27 rfl) (wd hw 186 rfl) (wd hw 143 rfl) (wd hw 184 rfl) (wd hw 185 rfl) (by decide) (by decide) (by decide) (by rw [hml]; rfl) [(.long (0 : Int64)), (.long p4)] (lenOf pd_16 rfl) rfl (Nat.le_of_eq rfl) (hb hby at_268) rfl e37 (by decide) (by decide) fun T38 Lc38 v38 X38 hQ38 => ?_
    obtain ⟨rfl, Nq38, e38⟩ := hQ38
    have N38 := Fr.app N37 Nq38
    show Go p e below _ (T38.setTop (mkF m 271 _ [(.long (mxL (0 : Int64) p4)), (.long ln0)]))
    refine gs.stat 0 X38 hx hZ hown (rm25 l Z a0 hw [] u_1 aw0 u_0 kaw0 HW ln0 (mxL (0 : Int64) p4) (mnL ln0 (mxL (0 : Int64) p4)) T27.heap n0 old27 rfl) (wd hw 189 rfl) (wd hw 143 rfl) (wd hw 187 rfl) (wd hw 188 rfl) (by decide) (by decide) (by decide) (by rw [hml]; rfl) [(.long ln0), (.long (mxL (0 : Int64) p4))] (lenOf pd_16 rfl) rfl (Nat.le_of_eq rfl) (hb hby at_271) rfl e38 (by decide) (by decide) fun T39 Lc39 v39 X39 hQ39 => ?_
    obtain ⟨rfl, Nq39, e39⟩ := hQ39
    have N39 := Fr.app N38 Nq39
    show Go p e below _ (T39.setTop (mkF m 274 _ [(.long (mnL ln0 (mxL (0 : Int64) p4)))]))
    refine gs.lstore X39.here hx (hb hby at_274) (l' := #[.val (.int lf0), .val (.int lf1), .val (.int lf2), .val (.long p4), .second, .val (.int p5), .val (.long ln0), .second, .val (.long ln1), .second, .val (.long ln2), .second, .val (.ref ld12), .val (.ref ld13), .val (.ref ld14), .val (.ref ad1), .val (.ref ad2), .val (.ref ad3), .val (.int (3 : Int32)), .val (.ref b2), .val (.ref b10), .val (.long ((ln0 + ln1) + ln2)), .second, .val (.int (0 : Int32)), .val (.long ln0), .second, .val (.long (mnL ln0 (mxL (0 : Int64) p4))), .second]) rfl ?_
    generalize hk_rr : (mnL ln0 (mxL (0 : Int64) p4)) = rr
    show Go p e below _ (T39.setTop (mkF m 276 #[.val (.int lf0), .val (.int lf1), .val (.int lf2), .val (.long p4), .second, .val (.int p5), .val (.long ln0), .second, .val (.long ln1), .second, .val (.long ln2), .second, .val (.ref ld12), .val (.ref ld13), .val (.ref ld14), .val (.ref ad1), .val (.ref ad2), .val (.ref ad3), .val (.int (3 : Int32)), .val (.ref b2), .val (.ref b10), .val (.long ((ln0 + ln1) + ln2)), .second, .val (.int (0 : Int32)), .val (.long ln0), .second, .val (.long rr), .second] []))
    refine gs.aload X39.here hx (hb hby at_276) rfl rfl ?_
    refine gs.iload X39.here hx (hb hby at_278) rfl ?_
    refine gs.lloadN X39.here hx (hb hby at_280) rfl ?_
    refine (fun H_ => H_ (0 : Int32) rfl : (∀ tt : Int32, tt = (0 : Int32) → Go p e below (Fin2 s below Q room_1.cells room_1.slots) (T39.setTop (mkF m 281 #[.val (.int lf0), .val (.int lf1), .val (.int lf2), .val (.long p4), .second, .val (.int p5), .val (.long ln0), .second, .val (.long ln1), .second, .val (.long ln2), .second, .val (.ref ld12), .val (.ref ld13), .val (.ref ld14), .val (.ref ad1), .val (.ref ad2), .val (.ref ad3), .val (.int (3 : Int32)), .val (.ref b2), .val (.ref b10), .val (.long ((ln0 + ln1) + ln2)), .second, .val (.int (0 : Int32)), .val (.long ln0), .second, .val (.long rr), .second] [(.long p4), (.int tt), (.ref b10)]))) → _) ?_
    intro tt htt
    obtain ⟨kn, hd_kn⟩ : ∃ z, z = (3 : Int32) := ⟨_, rfl⟩
    have ht_ : tt.toInt = 0 := by rw [htt]; rfl
    have hk_ : kn.toInt = 3 := by rw [hd_kn]; rfl
    have v40_ : Ari Z T27.heap b27_3 kx27_3 kn fs := by rw [hd_kn]; exact g28_
    have v41_ : Ari Z T27.heap b27_5 kx27_5 kn fu := by rw [hd_kn]; exact g29_
    have v42_ : Ari Z T27.heap b27_2 kx27_2 kn (fun _ => (0 : Int32)) := by rw [hd_kn]; exact g30_
    have v43_ : Arw Z T27.heap b27_0 kx27_0 (.array .long) kn (fun _ => .null) := by rw [hd_kn]; exact g31_
    have v44_ : Ara Z T27.heap b27_1 kx27_1 (.object "com/example/monarc/monarc/InitialDomain") kn fa := by rw [hd_kn]; exact g32_
    obtain ⟨fe, hd_fe⟩ : ∃ z, z = ((mnL (s0.toInt64) (mxL (0 : Int64) ((mxL (-2147483648 : Int64) (mnL p4 (2147483648 : Int64))) - (0 : Int64)))).toInt32) := ⟨_, rfl⟩
    have hb_fe : fe.toInt = min ln0.toInt (max 0 p4.toInt) := by rw [hd_fe]; exact fe_bd hb_ln0 hs0
    obtain ⟨ut, hd_ut⟩ : ∃ z, z = (s0 - (1 : Int32)) := ⟨_, rfl⟩
    have hb_ut := up_eq hb_ln0 hs0 hd_ut
    by_cases h_f0 : (0 : Int32) < fe
    case pos =>
      by_cases h_fu : ut < fe
      case pos =>
        have f45 := (f11.keep K27)
        have f46 := (((((((HF_ad4_InitialDomain_lowest.ext E2).keep K3 (ninS ne_ad4_b2 nin0)).keep K5 (ninS ne_ad4_b2 nin0)).keep K7 (ninS ne_ad4_b2 (ninS ne_ad4_b5_0 nin0))).keep K9 (ninS ne_ad4_b2 (ninS ne_ad4_b5_0 nin0))).ext E10).keep K27 (ninS ne_ad4_b10 nin0))
        have f47 := (f12.keep K27 (ninS ne_ad4_b10 nin0))
        have f48 := (((((((HF_ad4_InitialDomain_values.ext E2).keep K3 (ninS ne_ad4_b2 nin0)).keep K5 (ninS ne_ad4_b2 nin0)).keep K7 (ninS ne_ad4_b2 (ninS ne_ad4_b5_0 nin0))).keep K9 (ninS ne_ad4_b2 (ninS ne_ad4_b5_0 nin0))).ext E10).keep K27 (ninS ne_ad4_b10 nin0))
        have ne_b10_b27_4 : b10 ≠ b27_4 := Nat.ne_of_lt (Nat.lt_of_lt_of_le A10.lt gb_b27_4)
        have ne_b10_b27_2 : b10 ≠ b27_2 := Nat.ne_of_lt (Nat.lt_of_lt_of_le A10.lt gb_b27_2)
        have ne_b10_b27_3 : b10 ≠ b27_3 := Nat.ne_of_lt (Nat.lt_of_lt_of_le A10.lt gb_b27_3)
        refine gs.virt 0 X39 hx hZ hown (am26_1 l Z a0 hw [] u_1 aw0 u_0 kaw0 HW (b10) (tt) (p4) (ad4) (s0) (b27_4) (b27_1) (b27_2) (b27_5) (b27_0) (b27_3) (w0) (t0) (kx27_3) (kn) (fs) (kx27_5) (fu) (kx27_2) (kx27_0) (kx27_1) (fa) (kx27_4) (ft) (fe) (ut) T27.heap n0 old27 f45 f46 f47 f48 p27_0 p27_6 p27_2 p27_3 p27_8 p27_1 p27_5 v36_ v35_ p27_4 v40_ v41_ v42_ v43_ v44_ v34_ nn_b10 nn_b27_4 nn_b27_2 nn_b27_3 ne_b10_b27_4 ne_b10_b27_2 ne_b10_b27_3 (Ne.symm ne_b27_2_b27_4) (Ne.symm ne_b27_3_b27_4) ne_b27_2_b27_3 h_f0 (i_lt (by have o0 : (0 : Int32).toInt = 0 := rfl; omega)) (tin ht_ hk_ (by decide) (by decide)) (by rw [o1024]; omega) h_fu (i_ne (by rw [o1024]; omega)) hd_fe.symm (by rw [htt, hv_fs0]) (by rw [htt, hv_fu0, hd_ut]) (by rw [htt, hv_fa0]) ov27_0 ov27_1) (wd hw 194 rfl) (wd hw 78 rfl) (wd hw 190 rfl) (wd hw 191 rfl) (notFace_of_selects (args := #[]) (mvT hZ (wd hw 193 rfl))) (wd hw 193 rfl) (wd hw 192 rfl) (by decide) p27_0 (by decide) (by decide) (by rw [hml]; rfl) [(.int tt), (.long p4)] (lenOf pd_21 rfl) rfl (Nat.le_of_eq rfl) (hb hby at_281) rfl e39 (by decide) (by decide) fun T49 Lc49 v49 X49 hQ49 => ?_
        obtain ⟨ex49_0, rfl, Nq49, K49, p49_0, p49_1, p49_2, p49_3, p49_4, p49_5, p49_6, p49_7, p49_8, p49_9, p49_10, p49_11, p49_12⟩ := hQ49
        have old49 := old27.keep K49 (allS nn_b10 (allS nn_b27_4 (allS nn_b27_2 (allS nn_b27_3 all0))))
        have hk49 := Nat.le_trans hk27 K49.1
        have kp49 := kp27.trans K49 (allS (Or.inr sz_b10) (allS (Or.inr sz_b27_4) (allS (Or.inr sz_b27_2) (allS (Or.inr sz_b27_3) all0))))
        have N49 := Fr.app N39 Nq49
        show Go p e below _ (T49.setTop (mkF m 284 _ []))
        obtain ⟨fz, hd_fz⟩ : ∃ z, z = (fun i => if i = (tt).toNatClampNeg then (s0 - (mxI (0 : Int32) ((ut + (1 : Int32)) - (0 : Int32)))) else fs i) := ⟨_, rfl⟩
        have v50_ : Ari Z T49.heap b27_3 kx27_3 kn fz := by rw [hd_fz]; exact p49_12
        have v51_ := v50_
        rw [hd_kn] at v51_
        have v51_ : Ari Z T49.heap b27_3 kx27_3 (3 : Int32) fz := v51_
        have hz0 : (fz ((0 : Int32)).toNatClampNeg) = (s0 - (mxI (0 : Int32) ((ut + (1 : Int32)) - (0 : Int32)))) := by rw [hd_fz, htt]; exact if_pos rfl
        have hy0_ : ((fz ((0 : Int32)).toNatClampNeg).toInt64) = ln0 - rr := by rw [hz0]; exact rd_b hb_ln0 hs0 hb_fe (up_one hb_ln0 hb_ut hb_fe h_fu) hk_rr
        have hz1 : (fz ((1 : Int32)).toNatClampNeg) = s1 := by rw [hd_fz, htt]; exact (if_neg (by decide)).trans hv_fs1
        have hy1_ : ((fz ((1 : Int32)).toNatClampNeg).toInt64) = ln1 := by rw [hz1]; exact hy1
        have hz2 : (fz ((2 : Int32)).toNatClampNeg) = s2 := by rw [hd_fz, htt]; exact (if_neg (by decide)).trans hv_fs2
        have hy2_ : ((fz ((2 : Int32)).toNatClampNeg).toInt64) = ln2 := by rw [hz2]; exact hy2
        refine gs.aload X49.here hx (hb hby at_284) rfl rfl ?_
        refine gs.virt 0 X49 hx hZ hown (am12_4 l Z a0 hw [] u_1 aw0 u_0 kaw0 HW (b10) (b27_3) (kx27_3) (fz) T49.heap n0 old49 p49_5 v51_ (by decide) (by decide) (by decide)) (wd hw 118 rfl) (wd hw 78 rfl) (wd hw 114 rfl) (wd hw 115 rfl) (notFace_of_selects (args := #[]) (mvT hZ (wd hw 117 rfl))) (wd hw 117 rfl) (wd hw 116 rfl) (by decide) p49_0 (by decide) (by decide) (by rw [hml]; rfl) [] (lenOf pd_7 rfl) rfl (Nat.le_of_eq rfl) (hb hby at_286) rfl rfl (by decide) (by decide) fun T52 Lc52 v52 X52 hQ52 => ?_
        obtain ⟨rfl, Nq52, e52⟩ := hQ52
        have N52 := Fr.app N49 Nq52
        show Go p e below _ (T52.setTop (mkF m 289 _ [(.long ((((0 : Int64) + ((fz ((0 : Int32)).toNatClampNeg).toInt64)) + ((fz ((1 : Int32)).toNatClampNeg).toInt64)) + ((fz ((2 : Int32)).toNatClampNeg).toInt64)))]))
        refine gs.lload X52.here hx (hb hby at_289) rfl ?_
        refine gs.lload X52.here hx (hb hby at_291) rfl ?_
        refine gs.lsub X52.here hx (hb hby at_293) ?_
        refine Go.fin (fun t_ k_ => XS.lcmp X52.here hx rfl (hb hby at_294) rfl k_) ?_
        show Go p e below _ (T52.setTop (mkF m 295 _ [(.int (lcmpW ((((0 : Int64) + ((fz ((0 : Int32)).toNatClampNeg).toInt64)) + ((fz ((1 : Int32)).toNatClampNeg).toInt64)) + ((fz ((2 : Int32)).toNatClampNeg).toInt64)) (((ln0 + ln1) + ln2) - rr)))]))
        have hc295 : (lcmpW ((((0 : Int64) + ((fz ((0 : Int32)).toNatClampNeg).toInt64)) + ((fz ((1 : Int32)).toNatClampNeg).toInt64)) + ((fz ((2 : Int32)).toNatClampNeg).toInt64)) (((ln0 + ln1) + ln2) - rr)) = (0 : Int32) := by rw [hy0_, hy1_, hy2_]; exact lw_of_eq (sum_3_0 _ _ _ _)
        refine gs.ifNo X52.here hx (hb hby at_295) ((if0 _ _).trans (teq hc295).2) ?_
        refine gs.iconst 1 X52.here hx (hb hby at_298) rfl ?_
        refine gs.goto 303 X52.here hx (hb hby at_299) rfl ?_
        refine GoW.retZ X52 S0 (by rw [e52]; exact hk49) hx (t := .boolean) hret (by simp) hlk (hb hby at_303) (by rw [e52]; exact (hQ _ _ N52)) (by decide) (by decide)
      case neg =>
        have f53 := (f11.keep K27)
        have f54 := (((((((HF_ad4_InitialDomain_lowest.ext E2).keep K3 (ninS ne_ad4_b2 nin0)).keep K5 (ninS ne_ad4_b2 nin0)).keep K7 (ninS ne_ad4_b2 (ninS ne_ad4_b5_0 nin0))).keep K9 (ninS ne_ad4_b2 (ninS ne_ad4_b5_0 nin0))).ext E10).keep K27 (ninS ne_ad4_b10 nin0))
        have f55 := (f12.keep K27 (ninS ne_ad4_b10 nin0))
        have f56 := (((((((HF_ad4_InitialDomain_values.ext E2).keep K3 (ninS ne_ad4_b2 nin0)).keep K5 (ninS ne_ad4_b2 nin0)).keep K7 (ninS ne_ad4_b2 (ninS ne_ad4_b5_0 nin0))).keep K9 (ninS ne_ad4_b2 (ninS ne_ad4_b5_0 nin0))).ext E10).keep K27 (ninS ne_ad4_b10 nin0))
        have ne_b10_b27_4 : b10 ≠ b27_4 := Nat.ne_of_lt (Nat.lt_of_lt_of_le A10.lt gb_b27_4)
        have ne_b10_b27_2 : b10 ≠ b27_2 := Nat.ne_of_lt (Nat.lt_of_lt_of_le A10.lt gb_b27_2)
        have ne_b10_b27_3 : b10 ≠ b27_3 := Nat.ne_of_lt (Nat.lt_of_lt_of_le A10.lt gb_b27_3)
        refine gs.virt 0 X39 hx hZ hown (am26_2 l Z a0 hw [] u_1 aw0 u_0 kaw0 HW (b10) (tt) (p4) (ad4) (s0) (b27_4) (b27_1) (b27_2) (b27_5) (b27_0) (b27_3) (w0) (t0) (kx27_3) (kn) (fs) (kx27_5) (fu) (kx27_2) (kx27_0) (kx27_1) (fa) (kx27_4) (ft) (fe) (ut) T27.heap n0 old27 f53 f54 f55 f56 p27_0 p27_6 p27_2 p27_3 p27_8 p27_1 p27_5 v36_ v35_ p27_4 v40_ v41_ v42_ v43_ v44_ v34_ nn_b10 nn_b27_4 nn_b27_2 nn_b27_3 ne_b10_b27_4 ne_b10_b27_2 ne_b10_b27_3 (Ne.symm ne_b27_2_b27_4) (Ne.symm ne_b27_3_b27_4) ne_b27_2_b27_3 h_f0 (i_lt (by have o0 : (0 : Int32).toInt = 0 := rfl; omega)) (tin ht_ hk_ (by decide) (by decide)) (by rw [o1024]; omega) h_fu (i_ne (by rw [o1024]; omega)) hd_fe.symm (by rw [htt, hv_fs0]) (by rw [htt, hv_fu0, hd_ut]) (by rw [htt, hv_fa0]) ov27_0 ov27_1) (wd hw 194 rfl) (wd hw 78 rfl) (wd hw 190 rfl) (wd hw 191 rfl) (notFace_of_selects (args := #[]) (mvT hZ (wd hw 193 rfl))) (wd hw 193 rfl) (wd hw 192 rfl) (by decide) p27_0 (by decide) (by decide) (by rw [hml]; rfl) [(.int tt), (.long p4)] (lenOf pd_21 rfl) rfl (Nat.le_of_eq rfl) (hb hby at_281) rfl e39 (by decide) (by decide) fun T57 Lc57 v57 X57 hQ57 => ?_
        obtain ⟨ex57_0, rfl, Nq57, K57, p57_0, p57_1, p57_2, p57_3, p57_4, p57_5, p57_6, p57_7, p57_8, p57_9, p57_10, p57_11, p57_12⟩ := hQ57
        have old57 := old27.keep K57 (allS nn_b10 (allS nn_b27_4 (allS nn_b27_2 (allS nn_b27_3 all0))))
        have hk57 := Nat.le_trans hk27 K57.1
        have kp57 := kp27.trans K57 (allS (Or.inr sz_b10) (allS (Or.inr sz_b27_4) (allS (Or.inr sz_b27_2) (allS (Or.inr sz_b27_3) all0))))
        have N57 := Fr.app N39 Nq57
        show Go p e below _ (T57.setTop (mkF m 284 _ []))
        obtain ⟨fz, hd_fz⟩ : ∃ z, z = (fun i => if i = (tt).toNatClampNeg then (s0 - (mxI (0 : Int32) (fe - (0 : Int32)))) else fs i) := ⟨_, rfl⟩
        have v58_ : Ari Z T57.heap b27_3 kx27_3 kn fz := by rw [hd_fz]; exact p57_12
        have v59_ := v58_
        rw [hd_kn] at v59_
        have v59_ : Ari Z T57.heap b27_3 kx27_3 (3 : Int32) fz := v59_
        have hz0 : (fz ((0 : Int32)).toNatClampNeg) = (s0 - (mxI (0 : Int32) (fe - (0 : Int32)))) := by rw [hd_fz, htt]; exact if_pos rfl
        have hy0_ : ((fz ((0 : Int32)).toNatClampNeg).toInt64) = ln0 - rr := by rw [hz0]; exact rd_b hb_ln0 hs0 hb_fe rfl hk_rr
        have hz1 : (fz ((1 : Int32)).toNatClampNeg) = s1 := by rw [hd_fz, htt]; exact (if_neg (by decide)).trans hv_fs1
        have hy1_ : ((fz ((1 : Int32)).toNatClampNeg).toInt64) = ln1 := by rw [hz1]; exact hy1
        have hz2 : (fz ((2 : Int32)).toNatClampNeg) = s2 := by rw [hd_fz, htt]; exact (if_neg (by decide)).trans hv_fs2
        have hy2_ : ((fz ((2 : Int32)).toNatClampNeg).toInt64) = ln2 := by rw [hz2]; exact hy2
        refine gs.aload X57.here hx (hb hby at_284) rfl rfl ?_
        refine gs.virt 0 X57 hx hZ hown (am12_4 l Z a0 hw [] u_1 aw0 u_0 kaw0 HW (b10) (b27_3) (kx27_3) (fz) T57.heap n0 old57 p57_5 v59_ (by decide) (by decide) (by decide)) (wd hw 118 rfl) (wd hw 78 rfl) (wd hw 114 rfl) (wd hw 115 rfl) (notFace_of_selects (args := #[]) (mvT hZ (wd hw 117 rfl))) (wd hw 117 rfl) (wd hw 116 rfl) (by decide) p57_0 (by decide) (by decide) (by rw [hml]; rfl) [] (lenOf pd_7 rfl) rfl (Nat.le_of_eq rfl) (hb hby at_286) rfl rfl (by decide) (by decide) fun T60 Lc60 v60 X60 hQ60 => ?_
        obtain ⟨rfl, Nq60, e60⟩ := hQ60
        have N60 := Fr.app N57 Nq60
        show Go p e below _ (T60.setTop (mkF m 289 _ [(.long ((((0 : Int64) + ((fz ((0 : Int32)).toNatClampNeg).toInt64)) + ((fz ((1 : Int32)).toNatClampNeg).toInt64)) + ((fz ((2 : Int32)).toNatClampNeg).toInt64)))]))
        refine gs.lload X60.here hx (hb hby at_289) rfl ?_
        refine gs.lload X60.here hx (hb hby at_291) rfl ?_
        refine gs.lsub X60.here hx (hb hby at_293) ?_
        refine Go.fin (fun t_ k_ => XS.lcmp X60.here hx rfl (hb hby at_294) rfl k_) ?_
        show Go p e below _ (T60.setTop (mkF m 295 _ [(.int (lcmpW ((((0 : Int64) + ((fz ((0 : Int32)).toNatClampNeg).toInt64)) + ((fz ((1 : Int32)).toNatClampNeg).toInt64)) + ((fz ((2 : Int32)).toNatClampNeg).toInt64)) (((ln0 + ln1) + ln2) - rr)))]))
        have hc295 : (lcmpW ((((0 : Int64) + ((fz ((0 : Int32)).toNatClampNeg).toInt64)) + ((fz ((1 : Int32)).toNatClampNeg).toInt64)) + ((fz ((2 : Int32)).toNatClampNeg).toInt64)) (((ln0 + ln1) + ln2) - rr)) = (0 : Int32) := by rw [hy0_, hy1_, hy2_]; exact lw_of_eq (sum_3_0 _ _ _ _)
        refine gs.ifNo X60.here hx (hb hby at_295) ((if0 _ _).trans (teq hc295).2) ?_
        refine gs.iconst 1 X60.here hx (hb hby at_298) rfl ?_
        refine gs.goto 303 X60.here hx (hb hby at_299) rfl ?_
        refine GoW.retZ X60 S0 (by rw [e60]; exact hk57) hx (t := .boolean) hret (by simp) hlk (hb hby at_303) (by rw [e60]; exact (hQ _ _ N60)) (by decide) (by decide)
    case neg =>
      have f61 := (f11.keep K27)
      have f62 := (((((((HF_ad4_InitialDomain_lowest.ext E2).keep K3 (ninS ne_ad4_b2 nin0)).keep K5 (ninS ne_ad4_b2 nin0)).keep K7 (ninS ne_ad4_b2 (ninS ne_ad4_b5_0 nin0))).keep K9 (ninS ne_ad4_b2 (ninS ne_ad4_b5_0 nin0))).ext E10).keep K27 (ninS ne_ad4_b10 nin0))
      have f63 := (f12.keep K27 (ninS ne_ad4_b10 nin0))
      have f64 := (((((((HF_ad4_InitialDomain_values.ext E2).keep K3 (ninS ne_ad4_b2 nin0)).keep K5 (ninS ne_ad4_b2 nin0)).keep K7 (ninS ne_ad4_b2 (ninS ne_ad4_b5_0 nin0))).keep K9 (ninS ne_ad4_b2 (ninS ne_ad4_b5_0 nin0))).ext E10).keep K27 (ninS ne_ad4_b10 nin0))
      refine gs.virt 0 X39 hx hZ hown (am26_3 l Z a0 hw [] u_1 aw0 u_0 kaw0 HW (b10) (tt) (p4) (ad4) (s0) (b27_1) (b27_2) (b27_3) (kx27_3) (kn) (fs) (kx27_2) (kx27_1) (fa) (fe) T27.heap n0 old27 f61 f62 f63 f64 p27_2 p27_3 p27_5 v40_ v42_ v44_ h_f0 (i_lt (by have o0 : (0 : Int32).toInt = 0 := rfl; omega)) (tin ht_ hk_ (by decide) (by decide)) hd_fe.symm (by rw [htt, hv_fs0]) (by rw [htt, hv_fa0]) ov27_1) (wd hw 194 rfl) (wd hw 78 rfl) (wd hw 190 rfl) (wd hw 191 rfl) (notFace_of_selects (args := #[]) (mvT hZ (wd hw 193 rfl))) (wd hw 193 rfl) (wd hw 192 rfl) (by decide) p27_0 (by decide) (by decide) (by rw [hml]; rfl) [(.int tt), (.long p4)] (lenOf pd_21 rfl) rfl (Nat.le_of_eq rfl) (hb hby at_281) rfl e39 (by decide) (by decide) fun T65 Lc65 v65 X65 hQ65 => ?_
      obtain ⟨rfl, Nq65, e65⟩ := hQ65
      have N65 := Fr.app N39 Nq65
      show Go p e below _ (T65.setTop (mkF m 284 _ []))
      obtain ⟨fz, hd_fz⟩ : ∃ z, z = fs := ⟨_, rfl⟩
      have v66_ : Ari Z T27.heap b27_3 kx27_3 kn fz := by rw [hd_fz]; exact v40_
      have v67_ := v66_
      rw [hd_kn] at v67_
      have v67_ : Ari Z T27.heap b27_3 kx27_3 (3 : Int32) fz := v67_
      have hz0 : (fz ((0 : Int32)).toNatClampNeg) = s0 := by rw [hd_fz]; exact hv_fs0
      have hy0_ : ((fz ((0 : Int32)).toNatClampNeg).toInt64) = ln0 - rr := by rw [hz0]; exact (to64 hs0).trans (rd_a hb_ln0 hb_fe h_f0 hk_rr)
      have hz1 : (fz ((1 : Int32)).toNatClampNeg) = s1 := by rw [hd_fz]; exact hv_fs1
      have hy1_ : ((fz ((1 : Int32)).toNatClampNeg).toInt64) = ln1 := by rw [hz1]; exact hy1
      have hz2 : (fz ((2 : Int32)).toNatClampNeg) = s2 := by rw [hd_fz]; exact hv_fs2
      have hy2_ : ((fz ((2 : Int32)).toNatClampNeg).toInt64) = ln2 := by rw [hz2]; exact hy2
      refine gs.aload X65.here hx (hb hby at_284) rfl rfl ?_
      refine gs.virt 0 X65 hx hZ hown (am12_4 l Z a0 hw [] u_1 aw0 u_0 kaw0 HW (b10) (b27_3) (kx27_3) (fz) T27.heap n0 old27 p27_5 v67_ (by decide) (by decide) (by decide)) (wd hw 118 rfl) (wd hw 78 rfl) (wd hw 114 rfl) (wd hw 115 rfl) (notFace_of_selects (args := #[]) (mvT hZ (wd hw 117 rfl))) (wd hw 117 rfl) (wd hw 116 rfl) (by decide) p27_0 (by decide) (by decide) (by rw [hml]; rfl) [] (lenOf pd_7 rfl) rfl (Nat.le_of_eq rfl) (hb hby at_286) rfl e65 (by decide) (by decide) fun T68 Lc68 v68 X68 hQ68 => ?_
      obtain ⟨rfl, Nq68, e68⟩ := hQ68
      have N68 := Fr.app N65 Nq68
      show Go p e below _ (T68.setTop (mkF m 289 _ [(.long ((((0 : Int64) + ((fz ((0 : Int32)).toNatClampNeg).toInt64)) + ((fz ((1 : Int32)).toNatClampNeg).toInt64)) + ((fz ((2 : Int32)).toNatClampNeg).toInt64)))]))
      refine gs.lload X68.here hx (hb hby at_289) rfl ?_
      refine gs.lload X68.here hx (hb hby at_291) rfl ?_
      refine gs.lsub X68.here hx (hb hby at_293) ?_
      refine Go.fin (fun t_ k_ => XS.lcmp X68.here hx rfl (hb hby at_294) rfl k_) ?_
      show Go p e below _ (T68.setTop (mkF m 295 _ [(.int (lcmpW ((((0 : Int64) + ((fz ((0 : Int32)).toNatClampNeg).toInt64)) + ((fz ((1 : Int32)).toNatClampNeg).toInt64)) + ((fz ((2 : Int32)).toNatClampNeg).toInt64)) (((ln0 + ln1) + ln2) - rr)))]))
      have hc295 : (lcmpW ((((0 : Int64) + ((fz ((0 : Int32)).toNatClampNeg).toInt64)) + ((fz ((1 : Int32)).toNatClampNeg).toInt64)) + ((fz ((2 : Int32)).toNatClampNeg).toInt64)) (((ln0 + ln1) + ln2) - rr)) = (0 : Int32) := by rw [hy0_, hy1_, hy2_]; exact lw_of_eq (sum_3_0 _ _ _ _)
      refine gs.ifNo X68.here hx (hb hby at_295) ((if0 _ _).trans (teq hc295).2) ?_
      refine gs.iconst 1 X68.here hx (hb hby at_298) rfl ?_
      refine gs.goto 303 X68.here hx (hb hby at_299) rfl ?_
      refine GoW.retZ X68 S0 (by rw [e68]; exact hk27) hx (t := .boolean) hret (by simp) hlk (hb hby at_303) (by rw [e68]; exact (hQ _ _ N68)) (by decide) (by decide)
  next =>
    show Go p e below _ (T37.setTop (mkF m 239 #[.val (.int lf0), .val (.int lf1), .val (.int lf2), .val (.long p4), .second, .val (.int p5), .val (.long ln0), .second, .val (.long ln1), .second, .val (.long ln2), .second, .val (.ref ld12), .val (.ref ld13), .val (.ref ld14), .val (.ref ad1), .val (.ref ad2), .val (.ref ad3), .val (.int (3 : Int32)), .val (.ref b2), .val (.ref b10), .val (.long ((ln0 + ln1) + ln2)), .second, .val (.int (1 : Int32)), .unset, .unset, .unset, .unset] []))
    refine gs.iload X37.here hx (hb hby at_239) rfl ?_
    have hc241 : ¬ ((1 : Int32) = (0 : Int32)) := by decide
    refine gs.ifYes 249 X37.here hx (hb hby at_241) ((if0 _ _).trans (feq hc241).2) rfl ?_
    refine gs.iload X37.here hx (hb hby at_249) rfl ?_
    refine gs.iconst 1 X37.here hx (hb hby at_251) rfl ?_
    have hc252 : (1 : Int32) = (1 : Int32) := by decide
    refine gs.icmpNo X37.here hx (hb hby at_252) (teq hc252).2 ?_
    refine gs.lload X37.here hx (hb hby at_255) rfl ?_
    refine gs.goto 262 X37.here hx (hb hby at_257) rfl ?_
    refine gs.lstore X37.here hx (hb hby at_262) (l' := #[.val (.int lf0), .val (.int lf1), .val (.int lf2), .val (.long p4), .second, .val (.int p5), .val (.long ln0), .second, .val (.long ln1), .second, .val (.long ln2), .second, .val (.ref ld12), .val (.ref ld13), .val (.ref ld14), .val (.ref ad1), .val (.ref ad2), .val (.ref ad3), .val (.int (3 : Int32)), .val (.ref b2), .val (.ref b10), .val (.long ((ln0 + ln1) + ln2)), .second, .val (.int (1 : Int32)), .val (.long ln1), .second, .unset, .unset]) rfl ?_
    refine gs.lload X37.here hx (hb hby at_264) rfl ?_
    refine Go.fin (fun t_ k_ => XS.lconst X37.here hx rfl (hb hby at_266) k_) ?_
    show Go p e below _ (T37.setTop (mkF m 267 _ [(.long (0 : Int64)), (.long ln1)]))
    refine gs.lloadN X37.here hx (hb hby at_267) rfl ?_
    refine gs.stat 2 X37 hx hZ hown (rm24 l Z a0 hw [] u_1 aw0 u_0 kaw0 HW (0 : Int64) p4 (mxL (0 : Int64) p4) T27.heap n0 old27 rfl) (wd hw 186 rfl) (wd hw 143 rfl) (wd hw 184 rfl) (wd hw 185 rfl) (by decide) (by decide) (by decide) (by rw [hml]; rfl) [(.long (0 : Int64)), (.long p4)] (lenOf pd_16 rfl) rfl (Nat.le_of_eq rfl) (hb hby at_268) rfl e37 (by decide) (by decide) fun T69 Lc69 v69 X69 hQ69 => ?_
    obtain ⟨rfl, Nq69, e69⟩ := hQ69
    have N69 := Fr.app N37 Nq69
    show Go p e below _ (T69.setTop (mkF m 271 _ [(.long (mxL (0 : Int64) p4)), (.long ln1)]))
    refine gs.stat 0 X69 hx hZ hown (rm25 l Z a0 hw [] u_1 aw0 u_0 kaw0 HW ln1 (mxL (0 : Int64) p4) (mnL ln1 (mxL (0 : Int64) p4)) T27.heap n0 old27 rfl) (wd hw 189 rfl) (wd hw 143 rfl) (wd hw 187 rfl) (wd hw 188 rfl) (by decide) (by decide) (by decide) (by rw [hml]; rfl) [(.long ln1), (.long (mxL (0 : Int64) p4))] (lenOf pd_16 rfl) rfl (Nat.le_of_eq rfl) (hb hby at_271) rfl e69 (by decide) (by decide) fun T70 Lc70 v70 X70 hQ70 => ?_
    obtain ⟨rfl, Nq70, e70⟩ := hQ70
    have N70 := Fr.app N69 Nq70
    show Go p e below _ (T70.setTop (mkF m 274 _ [(.long (mnL ln1 (mxL (0 : Int64) p4)))]))
    refine gs.lstore X70.here hx (hb hby at_274) (l' := #[.val (.int lf0), .val (.int lf1), .val (.int lf2), .val (.long p4), .second, .val (.int p5), .val (.long ln0), .second, .val (.long ln1), .second, .val (.long ln2), .second, .val (.ref ld12), .val (.ref ld13), .val (.ref ld14), .val (.ref ad1), .val (.ref ad2), .val (.ref ad3), .val (.int (3 : Int32)), .val (.ref b2), .val (.ref b10), .val (.long ((ln0 + ln1) + ln2)), .second, .val (.int (1 : Int32)), .val (.long ln1), .second, .val (.long (mnL ln1 (mxL (0 : Int64) p4))), .second]) rfl ?_
    generalize hk_rr : (mnL ln1 (mxL (0 : Int64) p4)) = rr
    show Go p e below _ (T70.setTop (mkF m 276 #[.val (.int lf0), .val (.int lf1), .val (.int lf2), .val (.long p4), .second, .val (.int p5), .val (.long ln0), .second, .val (.long ln1), .second, .val (.long ln2), .second, .val (.ref ld12), .val (.ref ld13), .val (.ref ld14), .val (.ref ad1), .val (.ref ad2), .val (.ref ad3), .val (.int (3 : Int32)), .val (.ref b2), .val (.ref b10), .val (.long ((ln0 + ln1) + ln2)), .second, .val (.int (1 : Int32)), .val (.long ln1), .second, .val (.long rr), .second] []))
    refine gs.aload X70.here hx (hb hby at_276) rfl rfl ?_
    refine gs.iload X70.here hx (hb hby at_278) rfl ?_
    refine gs.lloadN X70.here hx (hb hby at_280) rfl ?_
    refine (fun H_ => H_ (1 : Int32) rfl : (∀ tt : Int32, tt = (1 : Int32) → Go p e below (Fin2 s below Q room_1.cells room_1.slots) (T70.setTop (mkF m 281 #[.val (.int lf0), .val (.int lf1), .val (.int lf2), .val (.long p4), .second, .val (.int p5), .val (.long ln0), .second, .val (.long ln1), .second, .val (.long ln2), .second, .val (.ref ld12), .val (.ref ld13), .val (.ref ld14), .val (.ref ad1), .val (.ref ad2), .val (.ref ad3), .val (.int (3 : Int32)), .val (.ref b2), .val (.ref b10), .val (.long ((ln0 + ln1) + ln2)), .second, .val (.int (1 : Int32)), .val (.long ln1), .second, .val (.long rr), .second] [(.long p4), (.int tt), (.ref b10)]))) → _) ?_
    intro tt htt
    obtain ⟨kn, hd_kn⟩ : ∃ z, z = (3 : Int32) := ⟨_, rfl⟩
    have ht_ : tt.toInt = 1 := by rw [htt]; rfl
    have hk_ : kn.toInt = 3 := by rw [hd_kn]; rfl
    have v71_ : Ari Z T27.heap b27_3 kx27_3 kn fs := by rw [hd_kn]; exact g28_
    have v72_ : Ari Z T27.heap b27_5 kx27_5 kn fu := by rw [hd_kn]; exact g29_
    have v73_ : Ari Z T27.heap b27_2 kx27_2 kn (fun _ => (0 : Int32)) := by rw [hd_kn]; exact g30_
    have v74_ : Arw Z T27.heap b27_0 kx27_0 (.array .long) kn (fun _ => .null) := by rw [hd_kn]; exact g31_
    have v75_ : Ara Z T27.heap b27_1 kx27_1 (.object "com/example/monarc/monarc/InitialDomain") kn fa := by rw [hd_kn]; exact g32_
    obtain ⟨fe, hd_fe⟩ : ∃ z, z = ((mnL (s1.toInt64) (mxL (0 : Int64) ((mxL (-2147483648 : Int64) (mnL p4 (2147483648 : Int64))) - (0 : Int64)))).toInt32) := ⟨_, rfl⟩
    have hb_fe : fe.toInt = min ln1.toInt (max 0 p4.toInt) := by rw [hd_fe]; exact fe_bd hb_ln1 hs1
    obtain ⟨ut, hd_ut⟩ : ∃ z, z = (s1 - (1 : Int32)) := ⟨_, rfl⟩
    have hb_ut := up_eq hb_ln1 hs1 hd_ut
    by_cases h_f0 : (0 : Int32) < fe
    case pos =>
      by_cases h_fu : ut < fe
      case pos =>
        have f76 := (f13.keep K27)
        have f77 := (((((((HF_ad5_InitialDomain_lowest.ext E2).keep K3 (ninS ne_ad5_b2 nin0)).keep K5 (ninS ne_ad5_b2 nin0)).keep K7 (ninS ne_ad5_b2 (ninS ne_ad5_b5_0 nin0))).keep K9 (ninS ne_ad5_b2 (ninS ne_ad5_b5_0 nin0))).ext E10).keep K27 (ninS ne_ad5_b10 nin0))
        have f78 := (f14.keep K27 (ninS ne_ad5_b10 nin0))
        have f79 := (((((((HF_ad5_InitialDomain_values.ext E2).keep K3 (ninS ne_ad5_b2 nin0)).keep K5 (ninS ne_ad5_b2 nin0)).keep K7 (ninS ne_ad5_b2 (ninS ne_ad5_b5_0 nin0))).keep K9 (ninS ne_ad5_b2 (ninS ne_ad5_b5_0 nin0))).ext E10).keep K27 (ninS ne_ad5_b10 nin0))
        have ne_b10_b27_4 : b10 ≠ b27_4 := Nat.ne_of_lt (Nat.lt_of_lt_of_le A10.lt gb_b27_4)
        have ne_b10_b27_2 : b10 ≠ b27_2 := Nat.ne_of_lt (Nat.lt_of_lt_of_le A10.lt gb_b27_2)
        have ne_b10_b27_3 : b10 ≠ b27_3 := Nat.ne_of_lt (Nat.lt_of_lt_of_le A10.lt gb_b27_3)
        refine gs.virt 0 X70 hx hZ hown (am26_1 l Z a0 hw [] u_1 aw0 u_0 kaw0 HW (b10) (tt) (p4) (ad5) (s1) (b27_4) (b27_1) (b27_2) (b27_5) (b27_0) (b27_3) (w0) (t0) (kx27_3) (kn) (fs) (kx27_5) (fu) (kx27_2) (kx27_0) (kx27_1) (fa) (kx27_4) (ft) (fe) (ut) T27.heap n0 old27 f76 f77 f78 f79 p27_0 p27_6 p27_2 p27_3 p27_8 p27_1 p27_5 v36_ v35_ p27_4 v71_ v72_ v73_ v74_ v75_ v34_ nn_b10 nn_b27_4 nn_b27_2 nn_b27_3 ne_b10_b27_4 ne_b10_b27_2 ne_b10_b27_3 (Ne.symm ne_b27_2_b27_4) (Ne.symm ne_b27_3_b27_4) ne_b27_2_b27_3 h_f0 (i_lt (by have o0 : (0 : Int32).toInt = 0 := rfl; omega)) (tin ht_ hk_ (by decide) (by decide)) (by rw [o1024]; omega) h_fu (i_ne (by rw [o1024]; omega)) hd_fe.symm (by rw [htt, hv_fs1]) (by rw [htt, hv_fu1, hd_ut]) (by rw [htt, hv_fa1]) ov27_0 ov27_1) (wd hw 194 rfl) (wd hw 78 rfl) (wd hw 190 rfl) (wd hw 191 rfl) (notFace_of_selects (args := #[]) (mvT hZ (wd hw 193 rfl))) (wd hw 193 rfl) (wd hw 192 rfl) (by decide) p27_0 (by decide) (by decide) (by rw [hml]; rfl) [(.int tt), (.long p4)] (lenOf pd_21 rfl) rfl (Nat.le_of_eq rfl) (hb hby at_281) rfl e70 (by decide) (by decide) fun T80 Lc80 v80 X80 hQ80 => ?_
        obtain ⟨ex80_0, rfl, Nq80, K80, p80_0, p80_1, p80_2, p80_3, p80_4, p80_5, p80_6, p80_7, p80_8, p80_9, p80_10, p80_11, p80_12⟩ := hQ80
        have old80 := old27.keep K80 (allS nn_b10 (allS nn_b27_4 (allS nn_b27_2 (allS nn_b27_3 all0))))
        have hk80 := Nat.le_trans hk27 K80.1
        have kp80 := kp27.trans K80 (allS (Or.inr sz_b10) (allS (Or.inr sz_b27_4) (allS (Or.inr sz_b27_2) (allS (Or.inr sz_b27_3) all0))))
        have N80 := Fr.app N70 Nq80
        show Go p e below _ (T80.setTop (mkF m 284 _ []))
        obtain ⟨fz, hd_fz⟩ : ∃ z, z = (fun i => if i = (tt).toNatClampNeg then (s1 - (mxI (0 : Int32) ((ut + (1 : Int32)) - (0 : Int32)))) else fs i) := ⟨_, rfl⟩
        have v81_ : Ari Z T80.heap b27_3 kx27_3 kn fz := by rw [hd_fz]; exact p80_12
        have v82_ := v81_
        rw [hd_kn] at v82_
        have v82_ : Ari Z T80.heap b27_3 kx27_3 (3 : Int32) fz := v82_
        have hz0 : (fz ((0 : Int32)).toNatClampNeg) = s0 := by rw [hd_fz, htt]; exact (if_neg (by decide)).trans hv_fs0
        have hy0_ : ((fz ((0 : Int32)).toNatClampNeg).toInt64) = ln0 := by rw [hz0]; exact hy0
        have hz1 : (fz ((1 : Int32)).toNatClampNeg) = (s1 - (mxI (0 : Int32) ((ut + (1 : Int32)) - (0 : Int32)))) := by rw [hd_fz, htt]; exact if_pos rfl
        have hy1_ : ((fz ((1 : Int32)).toNatClampNeg).toInt64) = ln1 - rr := by rw [hz1]; exact rd_b hb_ln1 hs1 hb_fe (up_one hb_ln1 hb_ut hb_fe h_fu) hk_rr
        have hz2 : (fz ((2 : Int32)).toNatClampNeg) = s2 := by rw [hd_fz, htt]; exact (if_neg (by decide)).trans hv_fs2
        have hy2_ : ((fz ((2 : Int32)).toNatClampNeg).toInt64) = ln2 := by rw [hz2]; exact hy2
        refine gs.aload X80.here hx (hb hby at_284) rfl rfl ?_
        refine gs.virt 0 X80 hx hZ hown (am12_4 l Z a0 hw [] u_1 aw0 u_0 kaw0 HW (b10) (b27_3) (kx27_3) (fz) T80.heap n0 old80 p80_5 v82_ (by decide) (by decide) (by decide)) (wd hw 118 rfl) (wd hw 78 rfl) (wd hw 114 rfl) (wd hw 115 rfl) (notFace_of_selects (args := #[]) (mvT hZ (wd hw 117 rfl))) (wd hw 117 rfl) (wd hw 116 rfl) (by decide) p80_0 (by decide) (by decide) (by rw [hml]; rfl) [] (lenOf pd_7 rfl) rfl (Nat.le_of_eq rfl) (hb hby at_286) rfl rfl (by decide) (by decide) fun T83 Lc83 v83 X83 hQ83 => ?_
        obtain ⟨rfl, Nq83, e83⟩ := hQ83
        have N83 := Fr.app N80 Nq83
        show Go p e below _ (T83.setTop (mkF m 289 _ [(.long ((((0 : Int64) + ((fz ((0 : Int32)).toNatClampNeg).toInt64)) + ((fz ((1 : Int32)).toNatClampNeg).toInt64)) + ((fz ((2 : Int32)).toNatClampNeg).toInt64)))]))
        refine gs.lload X83.here hx (hb hby at_289) rfl ?_
        refine gs.lload X83.here hx (hb hby at_291) rfl ?_
        refine gs.lsub X83.here hx (hb hby at_293) ?_
        refine Go.fin (fun t_ k_ => XS.lcmp X83.here hx rfl (hb hby at_294) rfl k_) ?_
        show Go p e below _ (T83.setTop (mkF m 295 _ [(.int (lcmpW ((((0 : Int64) + ((fz ((0 : Int32)).toNatClampNeg).toInt64)) + ((fz ((1 : Int32)).toNatClampNeg).toInt64)) + ((fz ((2 : Int32)).toNatClampNeg).toInt64)) (((ln0 + ln1) + ln2) - rr)))]))
        have hc295 : (lcmpW ((((0 : Int64) + ((fz ((0 : Int32)).toNatClampNeg).toInt64)) + ((fz ((1 : Int32)).toNatClampNeg).toInt64)) + ((fz ((2 : Int32)).toNatClampNeg).toInt64)) (((ln0 + ln1) + ln2) - rr)) = (0 : Int32) := by rw [hy0_, hy1_, hy2_]; exact lw_of_eq (sum_3_1 _ _ _ _)
        refine gs.ifNo X83.here hx (hb hby at_295) ((if0 _ _).trans (teq hc295).2) ?_
        refine gs.iconst 1 X83.here hx (hb hby at_298) rfl ?_
        refine gs.goto 303 X83.here hx (hb hby at_299) rfl ?_
        refine GoW.retZ X83 S0 (by rw [e83]; exact hk80) hx (t := .boolean) hret (by simp) hlk (hb hby at_303) (by rw [e83]; exact (hQ _ _ N83)) (by decide) (by decide)
      case neg =>
        have f84 := (f13.keep K27)
        have f85 := (((((((HF_ad5_InitialDomain_lowest.ext E2).keep K3 (ninS ne_ad5_b2 nin0)).keep K5 (ninS ne_ad5_b2 nin0)).keep K7 (ninS ne_ad5_b2 (ninS ne_ad5_b5_0 nin0))).keep K9 (ninS ne_ad5_b2 (ninS ne_ad5_b5_0 nin0))).ext E10).keep K27 (ninS ne_ad5_b10 nin0))
        have f86 := (f14.keep K27 (ninS ne_ad5_b10 nin0))
        have f87 := (((((((HF_ad5_InitialDomain_values.ext E2).keep K3 (ninS ne_ad5_b2 nin0)).keep K5 (ninS ne_ad5_b2 nin0)).keep K7 (ninS ne_ad5_b2 (ninS ne_ad5_b5_0 nin0))).keep K9 (ninS ne_ad5_b2 (ninS ne_ad5_b5_0 nin0))).ext E10).keep K27 (ninS ne_ad5_b10 nin0))
        have ne_b10_b27_4 : b10 ≠ b27_4 := Nat.ne_of_lt (Nat.lt_of_lt_of_le A10.lt gb_b27_4)
        have ne_b10_b27_2 : b10 ≠ b27_2 := Nat.ne_of_lt (Nat.lt_of_lt_of_le A10.lt gb_b27_2)
        have ne_b10_b27_3 : b10 ≠ b27_3 := Nat.ne_of_lt (Nat.lt_of_lt_of_le A10.lt gb_b27_3)
        refine gs.virt 0 X70 hx hZ hown (am26_2 l Z a0 hw [] u_1 aw0 u_0 kaw0 HW (b10) (tt) (p4) (ad5) (s1) (b27_4) (b27_1) (b27_2) (b27_5) (b27_0) (b27_3) (w0) (t0) (kx27_3) (kn) (fs) (kx27_5) (fu) (kx27_2) (kx27_0) (kx27_1) (fa) (kx27_4) (ft) (fe) (ut) T27.heap n0 old27 f84 f85 f86 f87 p27_0 p27_6 p27_2 p27_3 p27_8 p27_1 p27_5 v36_ v35_ p27_4 v71_ v72_ v73_ v74_ v75_ v34_ nn_b10 nn_b27_4 nn_b27_2 nn_b27_3 ne_b10_b27_4 ne_b10_b27_2 ne_b10_b27_3 (Ne.symm ne_b27_2_b27_4) (Ne.symm ne_b27_3_b27_4) ne_b27_2_b27_3 h_f0 (i_lt (by have o0 : (0 : Int32).toInt = 0 := rfl; omega)) (tin ht_ hk_ (by decide) (by decide)) (by rw [o1024]; omega) h_fu (i_ne (by rw [o1024]; omega)) hd_fe.symm (by rw [htt, hv_fs1]) (by rw [htt, hv_fu1, hd_ut]) (by rw [htt, hv_fa1]) ov27_0 ov27_1) (wd hw 194 rfl) (wd hw 78 rfl) (wd hw 190 rfl) (wd hw 191 rfl) (notFace_of_selects (args := #[]) (mvT hZ (wd hw 193 rfl))) (wd hw 193 rfl) (wd hw 192 rfl) (by decide) p27_0 (by decide) (by decide) (by rw [hml]; rfl) [(.int tt), (.long p4)] (lenOf pd_21 rfl) rfl (Nat.le_of_eq rfl) (hb hby at_281) rfl e70 (by decide) (by decide) fun T88 Lc88 v88 X88 hQ88 => ?_
        obtain ⟨ex88_0, rfl, Nq88, K88, p88_0, p88_1, p88_2, p88_3, p88_4, p88_5, p88_6, p88_7, p88_8, p88_9, p88_10, p88_11, p88_12⟩ := hQ88
        have old88 := old27.keep K88 (allS nn_b10 (allS nn_b27_4 (allS nn_b27_2 (allS nn_b27_3 all0))))
        have hk88 := Nat.le_trans hk27 K88.1
        have kp88 := kp27.trans K88 (allS (Or.inr sz_b10) (allS (Or.inr sz_b27_4) (allS (Or.inr sz_b27_2) (allS (Or.inr sz_b27_3) all0))))
        have N88 := Fr.app N70 Nq88
        show Go p e below _ (T88.setTop (mkF m 284 _ []))
        obtain ⟨fz, hd_fz⟩ : ∃ z, z = (fun i => if i = (tt).toNatClampNeg then (s1 - (mxI (0 : Int32) (fe - (0 : Int32)))) else fs i) := ⟨_, rfl⟩
        have v89_ : Ari Z T88.heap b27_3 kx27_3 kn fz := by rw [hd_fz]; exact p88_12
        have v90_ := v89_
        rw [hd_kn] at v90_
        have v90_ : Ari Z T88.heap b27_3 kx27_3 (3 : Int32) fz := v90_
        have hz0 : (fz ((0 : Int32)).toNatClampNeg) = s0 := by rw [hd_fz, htt]; exact (if_neg (by decide)).trans hv_fs0
        have hy0_ : ((fz ((0 : Int32)).toNatClampNeg).toInt64) = ln0 := by rw [hz0]; exact hy0
        have hz1 : (fz ((1 : Int32)).toNatClampNeg) = (s1 - (mxI (0 : Int32) (fe - (0 : Int32)))) := by rw [hd_fz, htt]; exact if_pos rfl
        have hy1_ : ((fz ((1 : Int32)).toNatClampNeg).toInt64) = ln1 - rr := by rw [hz1]; exact rd_b hb_ln1 hs1 hb_fe rfl hk_rr
        have hz2 : (fz ((2 : Int32)).toNatClampNeg) = s2 := by rw [hd_fz, htt]; exact (if_neg (by decide)).trans hv_fs2
        have hy2_ : ((fz ((2 : Int32)).toNatClampNeg).toInt64) = ln2 := by rw [hz2]; exact hy2
        refine gs.aload X88.here hx (hb hby at_284) rfl rfl ?_
        refine gs.virt 0 X88 hx hZ hown (am12_4 l Z a0 hw [] u_1 aw0 u_0 kaw0 HW (b10) (b27_3) (kx27_3) (fz) T88.heap n0 old88 p88_5 v90_ (by decide) (by decide) (by decide)) (wd hw 118 rfl) (wd hw 78 rfl) (wd hw 114 rfl) (wd hw 115 rfl) (notFace_of_selects (args := #[]) (mvT hZ (wd hw 117 rfl))) (wd hw 117 rfl) (wd hw 116 rfl) (by decide) p88_0 (by decide) (by decide) (by rw [hml]; rfl) [] (lenOf pd_7 rfl) rfl (Nat.le_of_eq rfl) (hb hby at_286) rfl rfl (by decide) (by decide) fun T91 Lc91 v91 X91 hQ91 => ?_
        obtain ⟨rfl, Nq91, e91⟩ := hQ91
        have N91 := Fr.app N88 Nq91
        show Go p e below _ (T91.setTop (mkF m 289 _ [(.long ((((0 : Int64) + ((fz ((0 : Int32)).toNatClampNeg).toInt64)) + ((fz ((1 : Int32)).toNatClampNeg).toInt64)) + ((fz ((2 : Int32)).toNatClampNeg).toInt64)))]))
        refine gs.lload X91.here hx (hb hby at_289) rfl ?_
        refine gs.lload X91.here hx (hb hby at_291) rfl ?_
        refine gs.lsub X91.here hx (hb hby at_293) ?_
        refine Go.fin (fun t_ k_ => XS.lcmp X91.here hx rfl (hb hby at_294) rfl k_) ?_
        show Go p e below _ (T91.setTop (mkF m 295 _ [(.int (lcmpW ((((0 : Int64) + ((fz ((0 : Int32)).toNatClampNeg).toInt64)) + ((fz ((1 : Int32)).toNatClampNeg).toInt64)) + ((fz ((2 : Int32)).toNatClampNeg).toInt64)) (((ln0 + ln1) + ln2) - rr)))]))
        have hc295 : (lcmpW ((((0 : Int64) + ((fz ((0 : Int32)).toNatClampNeg).toInt64)) + ((fz ((1 : Int32)).toNatClampNeg).toInt64)) + ((fz ((2 : Int32)).toNatClampNeg).toInt64)) (((ln0 + ln1) + ln2) - rr)) = (0 : Int32) := by rw [hy0_, hy1_, hy2_]; exact lw_of_eq (sum_3_1 _ _ _ _)
        refine gs.ifNo X91.here hx (hb hby at_295) ((if0 _ _).trans (teq hc295).2) ?_
        refine gs.iconst 1 X91.here hx (hb hby at_298) rfl ?_
        refine gs.goto 303 X91.here hx (hb hby at_299) rfl ?_
        refine GoW.retZ X91 S0 (by rw [e91]; exact hk88) hx (t := .boolean) hret (by simp) hlk (hb hby at_303) (by rw [e91]; exact (hQ _ _ N91)) (by decide) (by decide)
    case neg =>
      have f92 := (f13.keep K27)
      have f93 := (((((((HF_ad5_InitialDomain_lowest.ext E2).keep K3 (ninS ne_ad5_b2 nin0)).keep K5 (ninS ne_ad5_b2 nin0)).keep K7 (ninS ne_ad5_b2 (ninS ne_ad5_b5_0 nin0))).keep K9 (ninS ne_ad5_b2 (ninS ne_ad5_b5_0 nin0))).ext E10).keep K27 (ninS ne_ad5_b10 nin0))
      have f94 := (f14.keep K27 (ninS ne_ad5_b10 nin0))
      have f95 := (((((((HF_ad5_InitialDomain_values.ext E2).keep K3 (ninS ne_ad5_b2 nin0)).keep K5 (ninS ne_ad5_b2 nin0)).keep K7 (ninS ne_ad5_b2 (ninS ne_ad5_b5_0 nin0))).keep K9 (ninS ne_ad5_b2 (ninS ne_ad5_b5_0 nin0))).ext E10).keep K27 (ninS ne_ad5_b10 nin0))
      refine gs.virt 0 X70 hx hZ hown (am26_3 l Z a0 hw [] u_1 aw0 u_0 kaw0 HW (b10) (tt) (p4) (ad5) (s1) (b27_1) (b27_2) (b27_3) (kx27_3) (kn) (fs) (kx27_2) (kx27_1) (fa) (fe) T27.heap n0 old27 f92 f93 f94 f95 p27_2 p27_3 p27_5 v71_ v73_ v75_ h_f0 (i_lt (by have o0 : (0 : Int32).toInt = 0 := rfl; omega)) (tin ht_ hk_ (by decide) (by decide)) hd_fe.symm (by rw [htt, hv_fs1]) (by rw [htt, hv_fa1]) ov27_1) (wd hw 194 rfl) (wd hw 78 rfl) (wd hw 190 rfl) (wd hw 191 rfl) (notFace_of_selects (args := #[]) (mvT hZ (wd hw 193 rfl))) (wd hw 193 rfl) (wd hw 192 rfl) (by decide) p27_0 (by decide) (by decide) (by rw [hml]; rfl) [(.int tt), (.long p4)] (lenOf pd_21 rfl) rfl (Nat.le_of_eq rfl) (hb hby at_281) rfl e70 (by decide) (by decide) fun T96 Lc96 v96 X96 hQ96 => ?_
      obtain ⟨rfl, Nq96, e96⟩ := hQ96
      have N96 := Fr.app N70 Nq96
      show Go p e below _ (T96.setTop (mkF m 284 _ []))
      obtain ⟨fz, hd_fz⟩ : ∃ z, z = fs := ⟨_, rfl⟩
      have v97_ : Ari Z T27.heap b27_3 kx27_3 kn fz := by rw [hd_fz]; exact v71_
      have v98_ := v97_
      rw [hd_kn] at v98_
      have v98_ : Ari Z T27.heap b27_3 kx27_3 (3 : Int32) fz := v98_
      have hz0 : (fz ((0 : Int32)).toNatClampNeg) = s0 := by rw [hd_fz]; exact hv_fs0
      have hy0_ : ((fz ((0 : Int32)).toNatClampNeg).toInt64) = ln0 := by rw [hz0]; exact hy0
      have hz1 : (fz ((1 : Int32)).toNatClampNeg) = s1 := by rw [hd_fz]; exact hv_fs1
      have hy1_ : ((fz ((1 : Int32)).toNatClampNeg).toInt64) = ln1 - rr := by rw [hz1]; exact (to64 hs1).trans (rd_a hb_ln1 hb_fe h_f0 hk_rr)
      have hz2 : (fz ((2 : Int32)).toNatClampNeg) = s2 := by rw [hd_fz]; exact hv_fs2
      have hy2_ : ((fz ((2 : Int32)).toNatClampNeg).toInt64) = ln2 := by rw [hz2]; exact hy2
      refine gs.aload X96.here hx (hb hby at_284) rfl rfl ?_
      refine gs.virt 0 X96 hx hZ hown (am12_4 l Z a0 hw [] u_1 aw0 u_0 kaw0 HW (b10) (b27_3) (kx27_3) (fz) T27.heap n0 old27 p27_5 v98_ (by decide) (by decide) (by decide)) (wd hw 118 rfl) (wd hw 78 rfl) (wd hw 114 rfl) (wd hw 115 rfl) (notFace_of_selects (args := #[]) (mvT hZ (wd hw 117 rfl))) (wd hw 117 rfl) (wd hw 116 rfl) (by decide) p27_0 (by decide) (by decide) (by rw [hml]; rfl) [] (lenOf pd_7 rfl) rfl (Nat.le_of_eq rfl) (hb hby at_286) rfl e96 (by decide) (by decide) fun T99 Lc99 v99 X99 hQ99 => ?_
      obtain ⟨rfl, Nq99, e99⟩ := hQ99
      have N99 := Fr.app N96 Nq99
      show Go p e below _ (T99.setTop (mkF m 289 _ [(.long ((((0 : Int64) + ((fz ((0 : Int32)).toNatClampNeg).toInt64)) + ((fz ((1 : Int32)).toNatClampNeg).toInt64)) + ((fz ((2 : Int32)).toNatClampNeg).toInt64)))]))
      refine gs.lload X99.here hx (hb hby at_289) rfl ?_
      refine gs.lload X99.here hx (hb hby at_291) rfl ?_
      refine gs.lsub X99.here hx (hb hby at_293) ?_
      refine Go.fin (fun t_ k_ => XS.lcmp X99.here hx rfl (hb hby at_294) rfl k_) ?_
      show Go p e below _ (T99.setTop (mkF m 295 _ [(.int (lcmpW ((((0 : Int64) + ((fz ((0 : Int32)).toNatClampNeg).toInt64)) + ((fz ((1 : Int32)).toNatClampNeg).toInt64)) + ((fz ((2 : Int32)).toNatClampNeg).toInt64)) (((ln0 + ln1) + ln2) - rr)))]))
      have hc295 : (lcmpW ((((0 : Int64) + ((fz ((0 : Int32)).toNatClampNeg).toInt64)) + ((fz ((1 : Int32)).toNatClampNeg).toInt64)) + ((fz ((2 : Int32)).toNatClampNeg).toInt64)) (((ln0 + ln1) + ln2) - rr)) = (0 : Int32) := by rw [hy0_, hy1_, hy2_]; exact lw_of_eq (sum_3_1 _ _ _ _)
      refine gs.ifNo X99.here hx (hb hby at_295) ((if0 _ _).trans (teq hc295).2) ?_
      refine gs.iconst 1 X99.here hx (hb hby at_298) rfl ?_
      refine gs.goto 303 X99.here hx (hb hby at_299) rfl ?_
      refine GoW.retZ X99 S0 (by rw [e99]; exact hk27) hx (t := .boolean) hret (by simp) hlk (hb hby at_303) (by rw [e99]; exact (hQ _ _ N99)) (by decide) (by decide)
  next =>
    show Go p e below _ (T37.setTop (mkF m 239 #[.val (.int lf0), .val (.int lf1), .val (.int lf2), .val (.long p4), .second, .val (.int p5), .val (.long ln0), .second, .val (.long ln1), .second, .val (.long ln2), .second, .val (.ref ld12), .val (.ref ld13), .val (.ref ld14), .val (.ref ad1), .val (.ref ad2), .val (.ref ad3), .val (.int (3 : Int32)), .val (.ref b2), .val (.ref b10), .val (.long ((ln0 + ln1) + ln2)), .second, .val (.int (2 : Int32)), .unset, .unset, .unset, .unset] []))
    refine gs.iload X37.here hx (hb hby at_239) rfl ?_
    have hc241 : ¬ ((2 : Int32) = (0 : Int32)) := by decide
    refine gs.ifYes 249 X37.here hx (hb hby at_241) ((if0 _ _).trans (feq hc241).2) rfl ?_
    refine gs.iload X37.here hx (hb hby at_249) rfl ?_
    refine gs.iconst 1 X37.here hx (hb hby at_251) rfl ?_
    have hc252 : ¬ ((2 : Int32) = (1 : Int32)) := by decide
    refine gs.icmpYes 260 X37.here hx (hb hby at_252) (feq hc252).2 rfl ?_
    refine gs.lload X37.here hx (hb hby at_260) rfl ?_
    refine gs.lstore X37.here hx (hb hby at_262) (l' := #[.val (.int lf0), .val (.int lf1), .val (.int lf2), .val (.long p4), .second, .val (.int p5), .val (.long ln0), .second, .val (.long ln1), .second, .val (.long ln2), .second, .val (.ref ld12), .val (.ref ld13), .val (.ref ld14), .val (.ref ad1), .val (.ref ad2), .val (.ref ad3), .val (.int (3 : Int32)), .val (.ref b2), .val (.ref b10), .val (.long ((ln0 + ln1) + ln2)), .second, .val (.int (2 : Int32)), .val (.long ln2), .second, .unset, .unset]) rfl ?_
    refine gs.lload X37.here hx (hb hby at_264) rfl ?_
    refine Go.fin (fun t_ k_ => XS.lconst X37.here hx rfl (hb hby at_266) k_) ?_
    show Go p e below _ (T37.setTop (mkF m 267 _ [(.long (0 : Int64)), (.long ln2)]))
    refine gs.lloadN X37.here hx (hb hby at_267) rfl ?_
    refine gs.stat 2 X37 hx hZ hown (rm24 l Z a0 hw [] u_1 aw0 u_0 kaw0 HW (0 : Int64) p4 (mxL (0 : Int64) p4) T27.heap n0 old27 rfl) (wd hw 186 rfl) (wd hw 143 rfl) (wd hw 184 rfl) (wd hw 185 rfl) (by decide) (by decide) (by decide) (by rw [hml]; rfl) [(.long (0 : Int64)), (.long p4)] (lenOf pd_16 rfl) rfl (Nat.le_of_eq rfl) (hb hby at_268) rfl e37 (by decide) (by decide) fun T100 Lc100 v100 X100 hQ100 => ?_
    obtain ⟨rfl, Nq100, e100⟩ := hQ100
    have N100 := Fr.app N37 Nq100
    show Go p e below _ (T100.setTop (mkF m 271 _ [(.long (mxL (0 : Int64) p4)), (.long ln2)]))
    refine gs.stat 0 X100 hx hZ hown (rm25 l Z a0 hw [] u_1 aw0 u_0 kaw0 HW ln2 (mxL (0 : Int64) p4) (mnL ln2 (mxL (0 : Int64) p4)) T27.heap n0 old27 rfl) (wd hw 189 rfl) (wd hw 143 rfl) (wd hw 187 rfl) (wd hw 188 rfl) (by decide) (by decide) (by decide) (by rw [hml]; rfl) [(.long ln2), (.long (mxL (0 : Int64) p4))] (lenOf pd_16 rfl) rfl (Nat.le_of_eq rfl) (hb hby at_271) rfl e100 (by decide) (by decide) fun T101 Lc101 v101 X101 hQ101 => ?_
    obtain ⟨rfl, Nq101, e101⟩ := hQ101
    have N101 := Fr.app N100 Nq101
    show Go p e below _ (T101.setTop (mkF m 274 _ [(.long (mnL ln2 (mxL (0 : Int64) p4)))]))
    refine gs.lstore X101.here hx (hb hby at_274) (l' := #[.val (.int lf0), .val (.int lf1), .val (.int lf2), .val (.long p4), .second, .val (.int p5), .val (.long ln0), .second, .val (.long ln1), .second, .val (.long ln2), .second, .val (.ref ld12), .val (.ref ld13), .val (.ref ld14), .val (.ref ad1), .val (.ref ad2), .val (.ref ad3), .val (.int (3 : Int32)), .val (.ref b2), .val (.ref b10), .val (.long ((ln0 + ln1) + ln2)), .second, .val (.int (2 : Int32)), .val (.long ln2), .second, .val (.long (mnL ln2 (mxL (0 : Int64) p4))), .second]) rfl ?_
    generalize hk_rr : (mnL ln2 (mxL (0 : Int64) p4)) = rr
    show Go p e below _ (T101.setTop (mkF m 276 #[.val (.int lf0), .val (.int lf1), .val (.int lf2), .val (.long p4), .second, .val (.int p5), .val (.long ln0), .second, .val (.long ln1), .second, .val (.long ln2), .second, .val (.ref ld12), .val (.ref ld13), .val (.ref ld14), .val (.ref ad1), .val (.ref ad2), .val (.ref ad3), .val (.int (3 : Int32)), .val (.ref b2), .val (.ref b10), .val (.long ((ln0 + ln1) + ln2)), .second, .val (.int (2 : Int32)), .val (.long ln2), .second, .val (.long rr), .second] []))
    refine gs.aload X101.here hx (hb hby at_276) rfl rfl ?_
    refine gs.iload X101.here hx (hb hby at_278) rfl ?_
    refine gs.lloadN X101.here hx (hb hby at_280) rfl ?_
    refine (fun H_ => H_ (2 : Int32) rfl : (∀ tt : Int32, tt = (2 : Int32) → Go p e below (Fin2 s below Q room_1.cells room_1.slots) (T101.setTop (mkF m 281 #[.val (.int lf0), .val (.int lf1), .val (.int lf2), .val (.long p4), .second, .val (.int p5), .val (.long ln0), .second, .val (.long ln1), .second, .val (.long ln2), .second, .val (.ref ld12), .val (.ref ld13), .val (.ref ld14), .val (.ref ad1), .val (.ref ad2), .val (.ref ad3), .val (.int (3 : Int32)), .val (.ref b2), .val (.ref b10), .val (.long ((ln0 + ln1) + ln2)), .second, .val (.int (2 : Int32)), .val (.long ln2), .second, .val (.long rr), .second] [(.long p4), (.int tt), (.ref b10)]))) → _) ?_
    intro tt htt
    obtain ⟨kn, hd_kn⟩ : ∃ z, z = (3 : Int32) := ⟨_, rfl⟩
    have ht_ : tt.toInt = 2 := by rw [htt]; rfl
    have hk_ : kn.toInt = 3 := by rw [hd_kn]; rfl
    have v102_ : Ari Z T27.heap b27_3 kx27_3 kn fs := by rw [hd_kn]; exact g28_
    have v103_ : Ari Z T27.heap b27_5 kx27_5 kn fu := by rw [hd_kn]; exact g29_
    have v104_ : Ari Z T27.heap b27_2 kx27_2 kn (fun _ => (0 : Int32)) := by rw [hd_kn]; exact g30_
    have v105_ : Arw Z T27.heap b27_0 kx27_0 (.array .long) kn (fun _ => .null) := by rw [hd_kn]; exact g31_
    have v106_ : Ara Z T27.heap b27_1 kx27_1 (.object "com/example/monarc/monarc/InitialDomain") kn fa := by rw [hd_kn]; exact g32_
    obtain ⟨fe, hd_fe⟩ : ∃ z, z = ((mnL (s2.toInt64) (mxL (0 : Int64) ((mxL (-2147483648 : Int64) (mnL p4 (2147483648 : Int64))) - (0 : Int64)))).toInt32) := ⟨_, rfl⟩
    have hb_fe : fe.toInt = min ln2.toInt (max 0 p4.toInt) := by rw [hd_fe]; exact fe_bd hb_ln2 hs2
    obtain ⟨ut, hd_ut⟩ : ∃ z, z = (s2 - (1 : Int32)) := ⟨_, rfl⟩
    have hb_ut := up_eq hb_ln2 hs2 hd_ut
    by_cases h_f0 : (0 : Int32) < fe
    case pos =>
      by_cases h_fu : ut < fe
      case pos =>
        have f107 := (f15.keep K27)
        have f108 := (((((((HF_ad6_InitialDomain_lowest.ext E2).keep K3 (ninS ne_ad6_b2 nin0)).keep K5 (ninS ne_ad6_b2 nin0)).keep K7 (ninS ne_ad6_b2 (ninS ne_ad6_b5_0 nin0))).keep K9 (ninS ne_ad6_b2 (ninS ne_ad6_b5_0 nin0))).ext E10).keep K27 (ninS ne_ad6_b10 nin0))
        have f109 := (f16.keep K27 (ninS ne_ad6_b10 nin0))
        have f110 := (((((((HF_ad6_InitialDomain_values.ext E2).keep K3 (ninS ne_ad6_b2 nin0)).keep K5 (ninS ne_ad6_b2 nin0)).keep K7 (ninS ne_ad6_b2 (ninS ne_ad6_b5_0 nin0))).keep K9 (ninS ne_ad6_b2 (ninS ne_ad6_b5_0 nin0))).ext E10).keep K27 (ninS ne_ad6_b10 nin0))
        have ne_b10_b27_4 : b10 ≠ b27_4 := Nat.ne_of_lt (Nat.lt_of_lt_of_le A10.lt gb_b27_4)
        have ne_b10_b27_2 : b10 ≠ b27_2 := Nat.ne_of_lt (Nat.lt_of_lt_of_le A10.lt gb_b27_2)
        have ne_b10_b27_3 : b10 ≠ b27_3 := Nat.ne_of_lt (Nat.lt_of_lt_of_le A10.lt gb_b27_3)
        refine gs.virt 0 X101 hx hZ hown (am26_1 l Z a0 hw [] u_1 aw0 u_0 kaw0 HW (b10) (tt) (p4) (ad6) (s2) (b27_4) (b27_1) (b27_2) (b27_5) (b27_0) (b27_3) (w0) (t0) (kx27_3) (kn) (fs) (kx27_5) (fu) (kx27_2) (kx27_0) (kx27_1) (fa) (kx27_4) (ft) (fe) (ut) T27.heap n0 old27 f107 f108 f109 f110 p27_0 p27_6 p27_2 p27_3 p27_8 p27_1 p27_5 v36_ v35_ p27_4 v102_ v103_ v104_ v105_ v106_ v34_ nn_b10 nn_b27_4 nn_b27_2 nn_b27_3 ne_b10_b27_4 ne_b10_b27_2 ne_b10_b27_3 (Ne.symm ne_b27_2_b27_4) (Ne.symm ne_b27_3_b27_4) ne_b27_2_b27_3 h_f0 (i_lt (by have o0 : (0 : Int32).toInt = 0 := rfl; omega)) (tin ht_ hk_ (by decide) (by decide)) (by rw [o1024]; omega) h_fu (i_ne (by rw [o1024]; omega)) hd_fe.symm (by rw [htt, hv_fs2]) (by rw [htt, hv_fu2, hd_ut]) (by rw [htt, hv_fa2]) ov27_0 ov27_1) (wd hw 194 rfl) (wd hw 78 rfl) (wd hw 190 rfl) (wd hw 191 rfl) (notFace_of_selects (args := #[]) (mvT hZ (wd hw 193 rfl))) (wd hw 193 rfl) (wd hw 192 rfl) (by decide) p27_0 (by decide) (by decide) (by rw [hml]; rfl) [(.int tt), (.long p4)] (lenOf pd_21 rfl) rfl (Nat.le_of_eq rfl) (hb hby at_281) rfl e101 (by decide) (by decide) fun T111 Lc111 v111 X111 hQ111 => ?_
        obtain ⟨ex111_0, rfl, Nq111, K111, p111_0, p111_1, p111_2, p111_3, p111_4, p111_5, p111_6, p111_7, p111_8, p111_9, p111_10, p111_11, p111_12⟩ := hQ111
        have old111 := old27.keep K111 (allS nn_b10 (allS nn_b27_4 (allS nn_b27_2 (allS nn_b27_3 all0))))
        have hk111 := Nat.le_trans hk27 K111.1
        have kp111 := kp27.trans K111 (allS (Or.inr sz_b10) (allS (Or.inr sz_b27_4) (allS (Or.inr sz_b27_2) (allS (Or.inr sz_b27_3) all0))))
        have N111 := Fr.app N101 Nq111
        show Go p e below _ (T111.setTop (mkF m 284 _ []))
        obtain ⟨fz, hd_fz⟩ : ∃ z, z = (fun i => if i = (tt).toNatClampNeg then (s2 - (mxI (0 : Int32) ((ut + (1 : Int32)) - (0 : Int32)))) else fs i) := ⟨_, rfl⟩
        have v112_ : Ari Z T111.heap b27_3 kx27_3 kn fz := by rw [hd_fz]; exact p111_12
        have v113_ := v112_
        rw [hd_kn] at v113_
        have v113_ : Ari Z T111.heap b27_3 kx27_3 (3 : Int32) fz := v113_
        have hz0 : (fz ((0 : Int32)).toNatClampNeg) = s0 := by rw [hd_fz, htt]; exact (if_neg (by decide)).trans hv_fs0
        have hy0_ : ((fz ((0 : Int32)).toNatClampNeg).toInt64) = ln0 := by rw [hz0]; exact hy0
        have hz1 : (fz ((1 : Int32)).toNatClampNeg) = s1 := by rw [hd_fz, htt]; exact (if_neg (by decide)).trans hv_fs1
        have hy1_ : ((fz ((1 : Int32)).toNatClampNeg).toInt64) = ln1 := by rw [hz1]; exact hy1
        have hz2 : (fz ((2 : Int32)).toNatClampNeg) = (s2 - (mxI (0 : Int32) ((ut + (1 : Int32)) - (0 : Int32)))) := by rw [hd_fz, htt]; exact if_pos rfl
        have hy2_ : ((fz ((2 : Int32)).toNatClampNeg).toInt64) = ln2 - rr := by rw [hz2]; exact rd_b hb_ln2 hs2 hb_fe (up_one hb_ln2 hb_ut hb_fe h_fu) hk_rr
        refine gs.aload X111.here hx (hb hby at_284) rfl rfl ?_
        refine gs.virt 0 X111 hx hZ hown (am12_4 l Z a0 hw [] u_1 aw0 u_0 kaw0 HW (b10) (b27_3) (kx27_3) (fz) T111.heap n0 old111 p111_5 v113_ (by decide) (by decide) (by decide)) (wd hw 118 rfl) (wd hw 78 rfl) (wd hw 114 rfl) (wd hw 115 rfl) (notFace_of_selects (args := #[]) (mvT hZ (wd hw 117 rfl))) (wd hw 117 rfl) (wd hw 116 rfl) (by decide) p111_0 (by decide) (by decide) (by rw [hml]; rfl) [] (lenOf pd_7 rfl) rfl (Nat.le_of_eq rfl) (hb hby at_286) rfl rfl (by decide) (by decide) fun T114 Lc114 v114 X114 hQ114 => ?_
        obtain ⟨rfl, Nq114, e114⟩ := hQ114
        have N114 := Fr.app N111 Nq114
        show Go p e below _ (T114.setTop (mkF m 289 _ [(.long ((((0 : Int64) + ((fz ((0 : Int32)).toNatClampNeg).toInt64)) + ((fz ((1 : Int32)).toNatClampNeg).toInt64)) + ((fz ((2 : Int32)).toNatClampNeg).toInt64)))]))
        refine gs.lload X114.here hx (hb hby at_289) rfl ?_
        refine gs.lload X114.here hx (hb hby at_291) rfl ?_
        refine gs.lsub X114.here hx (hb hby at_293) ?_
        refine Go.fin (fun t_ k_ => XS.lcmp X114.here hx rfl (hb hby at_294) rfl k_) ?_
        show Go p e below _ (T114.setTop (mkF m 295 _ [(.int (lcmpW ((((0 : Int64) + ((fz ((0 : Int32)).toNatClampNeg).toInt64)) + ((fz ((1 : Int32)).toNatClampNeg).toInt64)) + ((fz ((2 : Int32)).toNatClampNeg).toInt64)) (((ln0 + ln1) + ln2) - rr)))]))
        have hc295 : (lcmpW ((((0 : Int64) + ((fz ((0 : Int32)).toNatClampNeg).toInt64)) + ((fz ((1 : Int32)).toNatClampNeg).toInt64)) + ((fz ((2 : Int32)).toNatClampNeg).toInt64)) (((ln0 + ln1) + ln2) - rr)) = (0 : Int32) := by rw [hy0_, hy1_, hy2_]; exact lw_of_eq (sum_3_2 _ _ _ _)
        refine gs.ifNo X114.here hx (hb hby at_295) ((if0 _ _).trans (teq hc295).2) ?_
        refine gs.iconst 1 X114.here hx (hb hby at_298) rfl ?_
        refine gs.goto 303 X114.here hx (hb hby at_299) rfl ?_
        refine GoW.retZ X114 S0 (by rw [e114]; exact hk111) hx (t := .boolean) hret (by simp) hlk (hb hby at_303) (by rw [e114]; exact (hQ _ _ N114)) (by decide) (by decide)
      case neg =>
        have f115 := (f15.keep K27)
        have f116 := (((((((HF_ad6_InitialDomain_lowest.ext E2).keep K3 (ninS ne_ad6_b2 nin0)).keep K5 (ninS ne_ad6_b2 nin0)).keep K7 (ninS ne_ad6_b2 (ninS ne_ad6_b5_0 nin0))).keep K9 (ninS ne_ad6_b2 (ninS ne_ad6_b5_0 nin0))).ext E10).keep K27 (ninS ne_ad6_b10 nin0))
        have f117 := (f16.keep K27 (ninS ne_ad6_b10 nin0))
        have f118 := (((((((HF_ad6_InitialDomain_values.ext E2).keep K3 (ninS ne_ad6_b2 nin0)).keep K5 (ninS ne_ad6_b2 nin0)).keep K7 (ninS ne_ad6_b2 (ninS ne_ad6_b5_0 nin0))).keep K9 (ninS ne_ad6_b2 (ninS ne_ad6_b5_0 nin0))).ext E10).keep K27 (ninS ne_ad6_b10 nin0))
        have ne_b10_b27_4 : b10 ≠ b27_4 := Nat.ne_of_lt (Nat.lt_of_lt_of_le A10.lt gb_b27_4)
        have ne_b10_b27_2 : b10 ≠ b27_2 := Nat.ne_of_lt (Nat.lt_of_lt_of_le A10.lt gb_b27_2)
        have ne_b10_b27_3 : b10 ≠ b27_3 := Nat.ne_of_lt (Nat.lt_of_lt_of_le A10.lt gb_b27_3)
        refine gs.virt 0 X101 hx hZ hown (am26_2 l Z a0 hw [] u_1 aw0 u_0 kaw0 HW (b10) (tt) (p4) (ad6) (s2) (b27_4) (b27_1) (b27_2) (b27_5) (b27_0) (b27_3) (w0) (t0) (kx27_3) (kn) (fs) (kx27_5) (fu) (kx27_2) (kx27_0) (kx27_1) (fa) (kx27_4) (ft) (fe) (ut) T27.heap n0 old27 f115 f116 f117 f118 p27_0 p27_6 p27_2 p27_3 p27_8 p27_1 p27_5 v36_ v35_ p27_4 v102_ v103_ v104_ v105_ v106_ v34_ nn_b10 nn_b27_4 nn_b27_2 nn_b27_3 ne_b10_b27_4 ne_b10_b27_2 ne_b10_b27_3 (Ne.symm ne_b27_2_b27_4) (Ne.symm ne_b27_3_b27_4) ne_b27_2_b27_3 h_f0 (i_lt (by have o0 : (0 : Int32).toInt = 0 := rfl; omega)) (tin ht_ hk_ (by decide) (by decide)) (by rw [o1024]; omega) h_fu (i_ne (by rw [o1024]; omega)) hd_fe.symm (by rw [htt, hv_fs2]) (by rw [htt, hv_fu2, hd_ut]) (by rw [htt, hv_fa2]) ov27_0 ov27_1) (wd hw 194 rfl) (wd hw 78 rfl) (wd hw 190 rfl) (wd hw 191 rfl) (notFace_of_selects (args := #[]) (mvT hZ (wd hw 193 rfl))) (wd hw 193 rfl) (wd hw 192 rfl) (by decide) p27_0 (by decide) (by decide) (by rw [hml]; rfl) [(.int tt), (.long p4)] (lenOf pd_21 rfl) rfl (Nat.le_of_eq rfl) (hb hby at_281) rfl e101 (by decide) (by decide) fun T119 Lc119 v119 X119 hQ119 => ?_
        obtain ⟨ex119_0, rfl, Nq119, K119, p119_0, p119_1, p119_2, p119_3, p119_4, p119_5, p119_6, p119_7, p119_8, p119_9, p119_10, p119_11, p119_12⟩ := hQ119
        have old119 := old27.keep K119 (allS nn_b10 (allS nn_b27_4 (allS nn_b27_2 (allS nn_b27_3 all0))))
        have hk119 := Nat.le_trans hk27 K119.1
        have kp119 := kp27.trans K119 (allS (Or.inr sz_b10) (allS (Or.inr sz_b27_4) (allS (Or.inr sz_b27_2) (allS (Or.inr sz_b27_3) all0))))
        have N119 := Fr.app N101 Nq119
        show Go p e below _ (T119.setTop (mkF m 284 _ []))
        obtain ⟨fz, hd_fz⟩ : ∃ z, z = (fun i => if i = (tt).toNatClampNeg then (s2 - (mxI (0 : Int32) (fe - (0 : Int32)))) else fs i) := ⟨_, rfl⟩
        have v120_ : Ari Z T119.heap b27_3 kx27_3 kn fz := by rw [hd_fz]; exact p119_12
        have v121_ := v120_
        rw [hd_kn] at v121_
        have v121_ : Ari Z T119.heap b27_3 kx27_3 (3 : Int32) fz := v121_
        have hz0 : (fz ((0 : Int32)).toNatClampNeg) = s0 := by rw [hd_fz, htt]; exact (if_neg (by decide)).trans hv_fs0
        have hy0_ : ((fz ((0 : Int32)).toNatClampNeg).toInt64) = ln0 := by rw [hz0]; exact hy0
        have hz1 : (fz ((1 : Int32)).toNatClampNeg) = s1 := by rw [hd_fz, htt]; exact (if_neg (by decide)).trans hv_fs1
        have hy1_ : ((fz ((1 : Int32)).toNatClampNeg).toInt64) = ln1 := by rw [hz1]; exact hy1
        have hz2 : (fz ((2 : Int32)).toNatClampNeg) = (s2 - (mxI (0 : Int32) (fe - (0 : Int32)))) := by rw [hd_fz, htt]; exact if_pos rfl
        have hy2_ : ((fz ((2 : Int32)).toNatClampNeg).toInt64) = ln2 - rr := by rw [hz2]; exact rd_b hb_ln2 hs2 hb_fe rfl hk_rr
        refine gs.aload X119.here hx (hb hby at_284) rfl rfl ?_
        refine gs.virt 0 X119 hx hZ hown (am12_4 l Z a0 hw [] u_1 aw0 u_0 kaw0 HW (b10) (b27_3) (kx27_3) (fz) T119.heap n0 old119 p119_5 v121_ (by decide) (by decide) (by decide)) (wd hw 118 rfl) (wd hw 78 rfl) (wd hw 114 rfl) (wd hw 115 rfl) (notFace_of_selects (args := #[]) (mvT hZ (wd hw 117 rfl))) (wd hw 117 rfl) (wd hw 116 rfl) (by decide) p119_0 (by decide) (by decide) (by rw [hml]; rfl) [] (lenOf pd_7 rfl) rfl (Nat.le_of_eq rfl) (hb hby at_286) rfl rfl (by decide) (by decide) fun T122 Lc122 v122 X122 hQ122 => ?_
        obtain ⟨rfl, Nq122, e122⟩ := hQ122
        have N122 := Fr.app N119 Nq122
        show Go p e below _ (T122.setTop (mkF m 289 _ [(.long ((((0 : Int64) + ((fz ((0 : Int32)).toNatClampNeg).toInt64)) + ((fz ((1 : Int32)).toNatClampNeg).toInt64)) + ((fz ((2 : Int32)).toNatClampNeg).toInt64)))]))
        refine gs.lload X122.here hx (hb hby at_289) rfl ?_
        refine gs.lload X122.here hx (hb hby at_291) rfl ?_
        refine gs.lsub X122.here hx (hb hby at_293) ?_
        refine Go.fin (fun t_ k_ => XS.lcmp X122.here hx rfl (hb hby at_294) rfl k_) ?_
        show Go p e below _ (T122.setTop (mkF m 295 _ [(.int (lcmpW ((((0 : Int64) + ((fz ((0 : Int32)).toNatClampNeg).toInt64)) + ((fz ((1 : Int32)).toNatClampNeg).toInt64)) + ((fz ((2 : Int32)).toNatClampNeg).toInt64)) (((ln0 + ln1) + ln2) - rr)))]))
        have hc295 : (lcmpW ((((0 : Int64) + ((fz ((0 : Int32)).toNatClampNeg).toInt64)) + ((fz ((1 : Int32)).toNatClampNeg).toInt64)) + ((fz ((2 : Int32)).toNatClampNeg).toInt64)) (((ln0 + ln1) + ln2) - rr)) = (0 : Int32) := by rw [hy0_, hy1_, hy2_]; exact lw_of_eq (sum_3_2 _ _ _ _)
        refine gs.ifNo X122.here hx (hb hby at_295) ((if0 _ _).trans (teq hc295).2) ?_
        refine gs.iconst 1 X122.here hx (hb hby at_298) rfl ?_
        refine gs.goto 303 X122.here hx (hb hby at_299) rfl ?_
        refine GoW.retZ X122 S0 (by rw [e122]; exact hk119) hx (t := .boolean) hret (by simp) hlk (hb hby at_303) (by rw [e122]; exact (hQ _ _ N122)) (by decide) (by decide)
    case neg =>
      have f123 := (f15.keep K27)
      have f124 := (((((((HF_ad6_InitialDomain_lowest.ext E2).keep K3 (ninS ne_ad6_b2 nin0)).keep K5 (ninS ne_ad6_b2 nin0)).keep K7 (ninS ne_ad6_b2 (ninS ne_ad6_b5_0 nin0))).keep K9 (ninS ne_ad6_b2 (ninS ne_ad6_b5_0 nin0))).ext E10).keep K27 (ninS ne_ad6_b10 nin0))
      have f125 := (f16.keep K27 (ninS ne_ad6_b10 nin0))
      have f126 := (((((((HF_ad6_InitialDomain_values.ext E2).keep K3 (ninS ne_ad6_b2 nin0)).keep K5 (ninS ne_ad6_b2 nin0)).keep K7 (ninS ne_ad6_b2 (ninS ne_ad6_b5_0 nin0))).keep K9 (ninS ne_ad6_b2 (ninS ne_ad6_b5_0 nin0))).ext E10).keep K27 (ninS ne_ad6_b10 nin0))
      refine gs.virt 0 X101 hx hZ hown (am26_3 l Z a0 hw [] u_1 aw0 u_0 kaw0 HW (b10) (tt) (p4) (ad6) (s2) (b27_1) (b27_2) (b27_3) (kx27_3) (kn) (fs) (kx27_2) (kx27_1) (fa) (fe) T27.heap n0 old27 f123 f124 f125 f126 p27_2 p27_3 p27_5 v102_ v104_ v106_ h_f0 (i_lt (by have o0 : (0 : Int32).toInt = 0 := rfl; omega)) (tin ht_ hk_ (by decide) (by decide)) hd_fe.symm (by rw [htt, hv_fs2]) (by rw [htt, hv_fa2]) ov27_1) (wd hw 194 rfl) (wd hw 78 rfl) (wd hw 190 rfl) (wd hw 191 rfl) (notFace_of_selects (args := #[]) (mvT hZ (wd hw 193 rfl))) (wd hw 193 rfl) (wd hw 192 rfl) (by decide) p27_0 (by decide) (by decide) (by rw [hml]; rfl) [(.int tt), (.long p4)] (lenOf pd_21 rfl) rfl (Nat.le_of_eq rfl) (hb hby at_281) rfl e101 (by decide) (by decide) fun T127 Lc127 v127 X127 hQ127 => ?_
      obtain ⟨rfl, Nq127, e127⟩ := hQ127
      have N127 := Fr.app N101 Nq127
      show Go p e below _ (T127.setTop (mkF m 284 _ []))
      obtain ⟨fz, hd_fz⟩ : ∃ z, z = fs := ⟨_, rfl⟩
      have v128_ : Ari Z T27.heap b27_3 kx27_3 kn fz := by rw [hd_fz]; exact v102_
      have v129_ := v128_
      rw [hd_kn] at v129_
      have v129_ : Ari Z T27.heap b27_3 kx27_3 (3 : Int32) fz := v129_
      have hz0 : (fz ((0 : Int32)).toNatClampNeg) = s0 := by rw [hd_fz]; exact hv_fs0
      have hy0_ : ((fz ((0 : Int32)).toNatClampNeg).toInt64) = ln0 := by rw [hz0]; exact hy0
      have hz1 : (fz ((1 : Int32)).toNatClampNeg) = s1 := by rw [hd_fz]; exact hv_fs1
      have hy1_ : ((fz ((1 : Int32)).toNatClampNeg).toInt64) = ln1 := by rw [hz1]; exact hy1
      have hz2 : (fz ((2 : Int32)).toNatClampNeg) = s2 := by rw [hd_fz]; exact hv_fs2
      have hy2_ : ((fz ((2 : Int32)).toNatClampNeg).toInt64) = ln2 - rr := by rw [hz2]; exact (to64 hs2).trans (rd_a hb_ln2 hb_fe h_f0 hk_rr)
      refine gs.aload X127.here hx (hb hby at_284) rfl rfl ?_
      refine gs.virt 0 X127 hx hZ hown (am12_4 l Z a0 hw [] u_1 aw0 u_0 kaw0 HW (b10) (b27_3) (kx27_3) (fz) T27.heap n0 old27 p27_5 v129_ (by decide) (by decide) (by decide)) (wd hw 118 rfl) (wd hw 78 rfl) (wd hw 114 rfl) (wd hw 115 rfl) (notFace_of_selects (args := #[]) (mvT hZ (wd hw 117 rfl))) (wd hw 117 rfl) (wd hw 116 rfl) (by decide) p27_0 (by decide) (by decide) (by rw [hml]; rfl) [] (lenOf pd_7 rfl) rfl (Nat.le_of_eq rfl) (hb hby at_286) rfl e127 (by decide) (by decide) fun T130 Lc130 v130 X130 hQ130 => ?_
      obtain ⟨rfl, Nq130, e130⟩ := hQ130
      have N130 := Fr.app N127 Nq130
      show Go p e below _ (T130.setTop (mkF m 289 _ [(.long ((((0 : Int64) + ((fz ((0 : Int32)).toNatClampNeg).toInt64)) + ((fz ((1 : Int32)).toNatClampNeg).toInt64)) + ((fz ((2 : Int32)).toNatClampNeg).toInt64)))]))
      refine gs.lload X130.here hx (hb hby at_289) rfl ?_
      refine gs.lload X130.here hx (hb hby at_291) rfl ?_
      refine gs.lsub X130.here hx (hb hby at_293) ?_
      refine Go.fin (fun t_ k_ => XS.lcmp X130.here hx rfl (hb hby at_294) rfl k_) ?_
      show Go p e below _ (T130.setTop (mkF m 295 _ [(.int (lcmpW ((((0 : Int64) + ((fz ((0 : Int32)).toNatClampNeg).toInt64)) + ((fz ((1 : Int32)).toNatClampNeg).toInt64)) + ((fz ((2 : Int32)).toNatClampNeg).toInt64)) (((ln0 + ln1) + ln2) - rr)))]))
      have hc295 : (lcmpW ((((0 : Int64) + ((fz ((0 : Int32)).toNatClampNeg).toInt64)) + ((fz ((1 : Int32)).toNatClampNeg).toInt64)) + ((fz ((2 : Int32)).toNatClampNeg).toInt64)) (((ln0 + ln1) + ln2) - rr)) = (0 : Int32) := by rw [hy0_, hy1_, hy2_]; exact lw_of_eq (sum_3_2 _ _ _ _)
      refine gs.ifNo X130.here hx (hb hby at_295) ((if0 _ _).trans (teq hc295).2) ?_
      refine gs.iconst 1 X130.here hx (hb hby at_298) rfl ?_
      refine gs.goto 303 X130.here hx (hb hby at_299) rfl ?_
      refine GoW.retZ X130 S0 (by rw [e130]; exact hk27) hx (t := .boolean) hret (by simp) hlk (hb hby at_303) (by rw [e130]; exact (hQ _ _ N130)) (by decide) (by decide)
theorem ef_rm0 (m : MethodId) (x0 : Int32) (x1 : Int32) (x2 : Int32) (x3 : Int64) (x4 : Int32)  : entryFrame m #[(.int x0), (.int x1), (.int x2), (.long x3), (.int x4)] maxLocals = mkF m 0 #[.val (.int x0), .val (.int x1), .val (.int x2), .val (.long x3), .second, .val (.int x4), .unset, .unset, .unset, .unset, .unset, .unset, .unset, .unset, .unset, .unset, .unset, .unset, .unset, .unset, .unset, .unset, .unset, .unset, .unset, .unset, .unset, .unset] [] := by first | (simp [entryFrame, mkF, argsToLocals, Value.category, maxLocals]; done) | rfl
def Q_rm0 (Z : State) (u_1 : Addr) (aw0 : Addr) (u_0 : ClassId) (kaw0 : ClassId) (p1 p2 p3 : Int32) (p4 : Int64) (p5 : Int32) (h0 : Heap) (n0 : Nat) (v : Option Value) (h : Heap) (L : List Loc) : Prop := v = some (.int 1) ∧ Fr n0 L
set_option maxRecDepth 65536 in
set_option maxHeartbeats 40000000 in
theorem rm0 (l : Launch) (Z : State) (a0 : Array Value) (hw : ∀ d ∈ tables_1, d.before a0 Z = true) (ws : List Jvm.Cond) (u_1 : Addr) (aw0 : Addr) (u_0 : ClassId) (kaw0 : ClassId) (HW : Wd Z u_1 aw0 u_0 kaw0) (p1 p2 p3 : Int32) (p4 : Int64) (p5 : Int32) (h0 : Heap) (n0 : Nat) (Ol : Old Z n0 h0)  :
    MetFree l x (head1 (Jvm.Cond.code x code maxLocals ret :: ws) room_1) (fun a_ U_ => a_ = #[(.int p1), (.int p2), (.int p3), (.long p4), (.int p5)] ∧ Z.Warmed39 U_.vm ∧ U_.heap = h0) (fun _ _ _ _ _ => True) (fun _ U_ o_ V_ => ∃ v_ L_, o_ = .returned v_ ∧ Q_rm0 Z u_1 aw0 u_0 kaw0 p1 p2 p3 p4 p5 h0 n0 v_ V_.heap L_ ∧ ReturnedEndW U_ o_ V_ L_ room_1.cells room_1.slots) := by
  refine MetFree.of_bodySF (plainFor_of_name pn_0) hisR ?_
  intro p e s m args below meth c s₁ Bd hml0 hP hK
  obtain ⟨rfl, hZ, hh⟩ := hP
  have hx := Bd.exec
  have hby := Bd.bytes
  have hml : c.maxLocals = 28 := hml0
  have hown : s.vm.findClass "com/example/monarc/monarc/DomainsTotalSizePinLaw" = some m.cls := findClass_of_methodNamed Bd.named
  have hnm := (name_of_methodNamed Bd.named Bd.method).1
  have X0 : Stand p l e room_1 s m #[(.int p1), (.int p2), (.int p3), (.long p4), (.int p5)] below meth c s₁ [] 0 0 := Stand.of_body Bd
  have e0 : s₁.heap = h0 := by rw [← hh, Bd.state]; rfl
  have N0 := Fr.nil n0
  have kp0 := Keep.refl h0 []
  show Go p e below (Fin2 s below (Q_rm0 Z u_1 aw0 u_0 kaw0 p1 p2 p3 p4 p5 h0 n0) room_1.cells room_1.slots) _
  have S0 : s.Since s.vm 0 := (State.WarmedH.refl s).since 0
  have hk0 : 0 ≤ h0.size := Nat.zero_le _
  refine Go.step (fun t_ k_ => castTop (ef_rm0 m p1 p2 p3 p4 p5) k_) ?_
  obtain ⟨Eu_1, Su_1, Eaw0, Saw0, Au_1, Aaw0⟩ := id HW
  show Go p e below _ (s₁.setTop (mkF m 0 #[.val (.int p1), .val (.int p2), .val (.int p3), .val (.long p4), .second, .val (.int p5), .unset, .unset, .unset, .unset, .unset, .unset, .unset, .unset, .unset, .unset, .unset, .unset, .unset, .unset, .unset, .unset, .unset, .unset, .unset, .unset, .unset, .unset] []))
  refine gs.iloadN X0.here hx (hb hby at_0) rfl ?_
  refine gs.stat 0 X0 hx hZ hown (am1_1 l Z a0 hw [] u_1 aw0 u_0 kaw0 HW (p1) h0 n0 Ol ) (wd hw 3 rfl) (wd hw 2 rfl) (wd hw 0 rfl) (wd hw 1 rfl) (by decide) (by decide) (by decide) (by rw [hml]; rfl) [(.int p1)] (lenOf pd_0 rfl) rfl (Nat.le_of_eq rfl) (hb hby at_1) rfl e0 (by decide) (by decide) fun T1 Lc1 v1 X1 hQ1 => ?_
  obtain ⟨rfl, Nq1, e1⟩ := hQ1
  have N1 := Fr.app N0 Nq1
  show Go p e below _ (T1.setTop (mkF m 4 _ [(.long ((((p1 &&& (1073741823 : Int32)) % (1073741823 : Int32)).toInt64) + (1 : Int64)))]))
  generalize hl_ln0 : ((((p1 &&& (1073741823 : Int32)) % (1073741823 : Int32)).toInt64) + (1 : Int64)) = ln0
  have hb_ln0 := size_bd p1
  rw [hl_ln0] at hb_ln0
  show Go p e below _ (T1.setTop (mkF m 4 #[.val (.int p1), .val (.int p2), .val (.int p3), .val (.long p4), .second, .val (.int p5), .unset, .unset, .unset, .unset, .unset, .unset, .unset, .unset, .unset, .unset, .unset, .unset, .unset, .unset, .unset, .unset, .unset, .unset, .unset, .unset, .unset, .unset] [(.long ln0)]))
  refine gs.lstore X1.here hx (hb hby at_4) (l' := #[.val (.int p1), .val (.int p2), .val (.int p3), .val (.long p4), .second, .val (.int p5), .val (.long ln0), .second, .unset, .unset, .unset, .unset, .unset, .unset, .unset, .unset, .unset, .unset, .unset, .unset, .unset, .unset, .unset, .unset, .unset, .unset, .unset, .unset]) rfl ?_
  refine gs.iloadN X1.here hx (hb hby at_6) rfl ?_
  refine gs.stat 0 X1 hx hZ hown (am1_1 l Z a0 hw [] u_1 aw0 u_0 kaw0 HW (p2) h0 n0 Ol ) (wd hw 3 rfl) (wd hw 2 rfl) (wd hw 0 rfl) (wd hw 1 rfl) (by decide) (by decide) (by decide) (by rw [hml]; rfl) [(.int p2)] (lenOf pd_0 rfl) rfl (Nat.le_of_eq rfl) (hb hby at_7) rfl e1 (by decide) (by decide) fun T2 Lc2 v2 X2 hQ2 => ?_
  obtain ⟨rfl, Nq2, e2⟩ := hQ2
  have N2 := Fr.app N1 Nq2
  show Go p e below _ (T2.setTop (mkF m 10 _ [(.long ((((p2 &&& (1073741823 : Int32)) % (1073741823 : Int32)).toInt64) + (1 : Int64)))]))
  generalize hl_ln1 : ((((p2 &&& (1073741823 : Int32)) % (1073741823 : Int32)).toInt64) + (1 : Int64)) = ln1
  have hb_ln1 := size_bd p2
  rw [hl_ln1] at hb_ln1
  show Go p e below _ (T2.setTop (mkF m 10 #[.val (.int p1), .val (.int p2), .val (.int p3), .val (.long p4), .second, .val (.int p5), .val (.long ln0), .second, .unset, .unset, .unset, .unset, .unset, .unset, .unset, .unset, .unset, .unset, .unset, .unset, .unset, .unset, .unset, .unset, .unset, .unset, .unset, .unset] [(.long ln1)]))
  refine gs.lstore X2.here hx (hb hby at_10) (l' := #[.val (.int p1), .val (.int p2), .val (.int p3), .val (.long p4), .second, .val (.int p5), .val (.long ln0), .second, .val (.long ln1), .second, .unset, .unset, .unset, .unset, .unset, .unset, .unset, .unset, .unset, .unset, .unset, .unset, .unset, .unset, .unset, .unset, .unset, .unset]) rfl ?_
  refine gs.iloadN X2.here hx (hb hby at_12) rfl ?_
  refine gs.stat 0 X2 hx hZ hown (am1_1 l Z a0 hw [] u_1 aw0 u_0 kaw0 HW (p3) h0 n0 Ol ) (wd hw 3 rfl) (wd hw 2 rfl) (wd hw 0 rfl) (wd hw 1 rfl) (by decide) (by decide) (by decide) (by rw [hml]; rfl) [(.int p3)] (lenOf pd_0 rfl) rfl (Nat.le_of_eq rfl) (hb hby at_13) rfl e2 (by decide) (by decide) fun T3 Lc3 v3 X3 hQ3 => ?_
  obtain ⟨rfl, Nq3, e3⟩ := hQ3
  have N3 := Fr.app N2 Nq3
  show Go p e below _ (T3.setTop (mkF m 16 _ [(.long ((((p3 &&& (1073741823 : Int32)) % (1073741823 : Int32)).toInt64) + (1 : Int64)))]))
  generalize hl_ln2 : ((((p3 &&& (1073741823 : Int32)) % (1073741823 : Int32)).toInt64) + (1 : Int64)) = ln2
  have hb_ln2 := size_bd p3
  rw [hl_ln2] at hb_ln2
  show Go p e below _ (T3.setTop (mkF m 16 #[.val (.int p1), .val (.int p2), .val (.int p3), .val (.long p4), .second, .val (.int p5), .val (.long ln0), .second, .val (.long ln1), .second, .unset, .unset, .unset, .unset, .unset, .unset, .unset, .unset, .unset, .unset, .unset, .unset, .unset, .unset, .unset, .unset, .unset, .unset] [(.long ln2)]))
  refine gs.lstore X3.here hx (hb hby at_16) (l' := #[.val (.int p1), .val (.int p2), .val (.int p3), .val (.long p4), .second, .val (.int p5), .val (.long ln0), .second, .val (.long ln1), .second, .val (.long ln2), .second, .unset, .unset, .unset, .unset, .unset, .unset, .unset, .unset, .unset, .unset, .unset, .unset, .unset, .unset, .unset, .unset]) rfl ?_
  refine gs.iconst 0 X3.here hx (hb hby at_18) rfl ?_
  refine gs.lload X3.here hx (hb hby at_19) rfl ?_
  refine Go.fin (fun t_ k_ => XS.lconst X3.here hx rfl (hb hby at_21) k_) ?_
  show Go p e below _ (T3.setTop (mkF m 22 _ [(.long (1 : Int64)), (.long ln0), (.int (0 : Int32))]))
  refine gs.lsub X3.here hx (hb hby at_22) ?_
  refine Go.fin (fun t_ k_ => XS.l2i X3.here hx rfl (hb hby at_23) rfl k_) ?_
  show Go p e below _ (T3.setTop (mkF m 24 _ [(.int ((ln0 - (1 : Int64)).toInt32)), (.int (0 : Int32))]))
  have hx_hm0 := hi_of hb_ln0
  generalize hl_hm0 : ((ln0 - (1 : Int64)).toInt32) = hm0
  rw [hl_hm0] at hx_hm0
  show Go p e below _ (T3.setTop (mkF m 24 #[.val (.int p1), .val (.int p2), .val (.int p3), .val (.long p4), .second, .val (.int p5), .val (.long ln0), .second, .val (.long ln1), .second, .val (.long ln2), .second, .unset, .unset, .unset, .unset, .unset, .unset, .unset, .unset, .unset, .unset, .unset, .unset, .unset, .unset, .unset, .unset] [(.int hm0), (.int (0 : Int32))]))
  refine gs.stat 0 X3 hx hZ hown (am2_1 l Z a0 hw [] u_1 aw0 u_0 kaw0 HW (hm0) h0 n0 Ol (rg_fit hb_ln0 hx_hm0) (rg_neg hb_ln0 hx_hm0)) (wd hw 8 rfl) (wd hw 7 rfl) (wd hw 5 rfl) (wd hw 6 rfl) (by decide) (by decide) (by decide) (by rw [hml]; rfl) [(.int (0 : Int32)), (.int hm0)] (lenOf pd_2 rfl) rfl (Nat.le_of_eq rfl) (hb hby at_24) rfl e3 (by decide) (by decide) fun T4 Lc4 v4 X4 hQ4 => ?_
  obtain ⟨b4_0, rfl, gb_b4_0, Nq4, K4, p4_0, p4_1, p4_2, p4_3⟩ := hQ4
  have nn_b4_0 : n0 ≤ b4_0 := Nat.le_trans (old_z0 Ol) gb_b4_0
  have sz_b4_0 : h0.size ≤ b4_0 := Nat.le_trans kp0.1 gb_b4_0
  have old4 := Ol.keep K4 all0
  have hk4 := Nat.le_trans hk0 K4.1
  have kp4 := kp0.trans K4 all0
  have N4 := Fr.app N3 Nq4
  show Go p e below _ (T4.setTop (mkF m 27 _ [(.ref b4_0)]))
  obtain ⟨s0, hd_s0⟩ : ∃ z, z = ((((hm0.toInt64) - (0 : Int64)) + (1 : Int64)).toInt32) := ⟨_, rfl⟩
  rw [← hd_s0] at p4_2
  have hs0 := rg_size hb_ln0 hx_hm0 hd_s0
  refine gs.astore X4.here hx (hb hby at_27) rfl (l' := #[.val (.int p1), .val (.int p2), .val (.int p3), .val (.long p4), .second, .val (.int p5), .val (.long ln0), .second, .val (.long ln1), .second, .val (.long ln2), .second, .val (.ref b4_0), .unset, .unset, .unset, .unset, .unset, .unset, .unset, .unset, .unset, .unset, .unset, .unset, .unset, .unset, .unset]) rfl ?_
  refine gs.iconst 0 X4.here hx (hb hby at_29) rfl ?_
  refine gs.lload X4.here hx (hb hby at_30) rfl ?_
  refine Go.fin (fun t_ k_ => XS.lconst X4.here hx rfl (hb hby at_32) k_) ?_
  show Go p e below _ (T4.setTop (mkF m 33 _ [(.long (1 : Int64)), (.long ln1), (.int (0 : Int32))]))
  refine gs.lsub X4.here hx (hb hby at_33) ?_
  refine Go.fin (fun t_ k_ => XS.l2i X4.here hx rfl (hb hby at_34) rfl k_) ?_
  show Go p e below _ (T4.setTop (mkF m 35 _ [(.int ((ln1 - (1 : Int64)).toInt32)), (.int (0 : Int32))]))
  have hx_hm1 := hi_of hb_ln1
  generalize hl_hm1 : ((ln1 - (1 : Int64)).toInt32) = hm1
  rw [hl_hm1] at hx_hm1
  show Go p e below _ (T4.setTop (mkF m 35 #[.val (.int p1), .val (.int p2), .val (.int p3), .val (.long p4), .second, .val (.int p5), .val (.long ln0), .second, .val (.long ln1), .second, .val (.long ln2), .second, .val (.ref b4_0), .unset, .unset, .unset, .unset, .unset, .unset, .unset, .unset, .unset, .unset, .unset, .unset, .unset, .unset, .unset] [(.int hm1), (.int (0 : Int32))]))
  refine gs.stat 0 X4 hx hZ hown (am2_1 l Z a0 hw [] u_1 aw0 u_0 kaw0 HW (hm1) T4.heap n0 old4 (rg_fit hb_ln1 hx_hm1) (rg_neg hb_ln1 hx_hm1)) (wd hw 8 rfl) (wd hw 7 rfl) (wd hw 5 rfl) (wd hw 6 rfl) (by decide) (by decide) (by decide) (by rw [hml]; rfl) [(.int (0 : Int32)), (.int hm1)] (lenOf pd_2 rfl) rfl (Nat.le_of_eq rfl) (hb hby at_35) rfl rfl (by decide) (by decide) fun T5 Lc5 v5 X5 hQ5 => ?_
  obtain ⟨b5_0, rfl, gb_b5_0, Nq5, K5, p5_0, p5_1, p5_2, p5_3⟩ := hQ5
  have nn_b5_0 : n0 ≤ b5_0 := Nat.le_trans (old_z0 old4) gb_b5_0
  have sz_b5_0 : h0.size ≤ b5_0 := Nat.le_trans kp4.1 gb_b5_0
  have old5 := old4.keep K5 all0
  have hk5 := Nat.le_trans hk4 K5.1
  have kp5 := kp4.trans K5 all0
  have N5 := Fr.app N4 Nq5
  show Go p e below _ (T5.setTop (mkF m 38 _ [(.ref b5_0)]))
  obtain ⟨s1, hd_s1⟩ : ∃ z, z = ((((hm1.toInt64) - (0 : Int64)) + (1 : Int64)).toInt32) := ⟨_, rfl⟩
  rw [← hd_s1] at p5_2
  have hs1 := rg_size hb_ln1 hx_hm1 hd_s1
  refine gs.astore X5.here hx (hb hby at_38) rfl (l' := #[.val (.int p1), .val (.int p2), .val (.int p3), .val (.long p4), .second, .val (.int p5), .val (.long ln0), .second, .val (.long ln1), .second, .val (.long ln2), .second, .val (.ref b4_0), .val (.ref b5_0), .unset, .unset, .unset, .unset, .unset, .unset, .unset, .unset, .unset, .unset, .unset, .unset, .unset, .unset]) rfl ?_
  refine gs.iconst 0 X5.here hx (hb hby at_40) rfl ?_
  refine gs.lload X5.here hx (hb hby at_41) rfl ?_
  refine Go.fin (fun t_ k_ => XS.lconst X5.here hx rfl (hb hby at_43) k_) ?_
  show Go p e below _ (T5.setTop (mkF m 44 _ [(.long (1 : Int64)), (.long ln2), (.int (0 : Int32))]))
  refine gs.lsub X5.here hx (hb hby at_44) ?_
  refine Go.fin (fun t_ k_ => XS.l2i X5.here hx rfl (hb hby at_45) rfl k_) ?_
  show Go p e below _ (T5.setTop (mkF m 46 _ [(.int ((ln2 - (1 : Int64)).toInt32)), (.int (0 : Int32))]))
  have hx_hm2 := hi_of hb_ln2
  generalize hl_hm2 : ((ln2 - (1 : Int64)).toInt32) = hm2
  rw [hl_hm2] at hx_hm2
  show Go p e below _ (T5.setTop (mkF m 46 #[.val (.int p1), .val (.int p2), .val (.int p3), .val (.long p4), .second, .val (.int p5), .val (.long ln0), .second, .val (.long ln1), .second, .val (.long ln2), .second, .val (.ref b4_0), .val (.ref b5_0), .unset, .unset, .unset, .unset, .unset, .unset, .unset, .unset, .unset, .unset, .unset, .unset, .unset, .unset] [(.int hm2), (.int (0 : Int32))]))
  refine gs.stat 0 X5 hx hZ hown (am2_1 l Z a0 hw [] u_1 aw0 u_0 kaw0 HW (hm2) T5.heap n0 old5 (rg_fit hb_ln2 hx_hm2) (rg_neg hb_ln2 hx_hm2)) (wd hw 8 rfl) (wd hw 7 rfl) (wd hw 5 rfl) (wd hw 6 rfl) (by decide) (by decide) (by decide) (by rw [hml]; rfl) [(.int (0 : Int32)), (.int hm2)] (lenOf pd_2 rfl) rfl (Nat.le_of_eq rfl) (hb hby at_46) rfl rfl (by decide) (by decide) fun T6 Lc6 v6 X6 hQ6 => ?_
  obtain ⟨b6_0, rfl, gb_b6_0, Nq6, K6, p6_0, p6_1, p6_2, p6_3⟩ := hQ6
  have nn_b6_0 : n0 ≤ b6_0 := Nat.le_trans (old_z0 old5) gb_b6_0
  have sz_b6_0 : h0.size ≤ b6_0 := Nat.le_trans kp5.1 gb_b6_0
  have old6 := old5.keep K6 all0
  have hk6 := Nat.le_trans hk5 K6.1
  have kp6 := kp5.trans K6 all0
  have N6 := Fr.app N5 Nq6
  show Go p e below _ (T6.setTop (mkF m 49 _ [(.ref b6_0)]))
  obtain ⟨s2, hd_s2⟩ : ∃ z, z = ((((hm2.toInt64) - (0 : Int64)) + (1 : Int64)).toInt32) := ⟨_, rfl⟩
  rw [← hd_s2] at p6_2
  have hs2 := rg_size hb_ln2 hx_hm2 hd_s2
  refine gs.astore X6.here hx (hb hby at_49) rfl (l' := #[.val (.int p1), .val (.int p2), .val (.int p3), .val (.long p4), .second, .val (.int p5), .val (.long ln0), .second, .val (.long ln1), .second, .val (.long ln2), .second, .val (.ref b4_0), .val (.ref b5_0), .val (.ref b6_0), .unset, .unset, .unset, .unset, .unset, .unset, .unset, .unset, .unset, .unset, .unset, .unset, .unset]) rfl ?_
  obtain ⟨T7, h7, X7, e7, E7, A7, D7, Y7, st7⟩ := newO X6 hx hZ hown (wd hw 24 rfl) (wd hw 25 rfl) (wd hw 26 rfl) rfl (g := (mkF m 51 #[.val (.int p1), .val (.int p2), .val (.int p3), .val (.long p4), .second, .val (.int p5), .val (.long ln0), .second, .val (.long ln1), .second, .val (.long ln2), .second, .val (.ref b4_0), .val (.ref b5_0), .val (.ref b6_0), .unset, .unset, .unset, .unset, .unset, .unset, .unset, .unset, .unset, .unset, .unset, .unset, .unset] [])) rfl (hb hby at_51) (by decide) (by decide)
  obtain ⟨b7, g7⟩ : ∃ z, z = T6.heap.size := ⟨_, rfl⟩
  rw [← g7] at A7 D7 Y7 st7
  have nn_b7 : n0 ≤ b7 := Nat.le_trans (old_z0 old6) (Nat.le_of_eq g7.symm)
  have sz_b7 : h0.size ≤ b7 := Nat.le_trans kp6.1 (Nat.le_of_eq g7.symm)
  have old7 := old6.ext E7
  have kp7 := kp6.ext E7
  have hk7 := Nat.le_trans hk6 E7.1
  have F7_name : Fld Z h7 b7 "com/example/monarc/monarc/Variable" "name" "Ljava/lang/String;" .null := D7 (Or.inr (wd hw 45 rfl)) (ty := (.object "java/lang/String")) (by decide)
  have F7_index : Fld Z h7 b7 "com/example/monarc/monarc/Variable" "index" "I" (.int (0 : Int32)) := D7 (Or.inr (wd hw 47 rfl)) (ty := .int) (by decide)
  have F7_domain : Fld Z h7 b7 "com/example/monarc/monarc/Variable" "domain" "Lcom/example/monarc/monarc/InitialDomain;" .null := D7 (Or.inr (wd hw 49 rfl)) (ty := (.object "com/example/monarc/monarc/InitialDomain")) (by decide)
  refine Go.fin st7 ?_
  show Go p e below _ (T7.setTop (mkF m 54 _ [(.ref b7)]))
  refine gs.dup X7.here hx (hb hby at_54) rfl ?_
  obtain ⟨sa8, T8, h8, k1_8, X8, e8, E8, S8, hkk8, hZ8, hown8, st8⟩ := ldcS (vm0 := s.vm) X7 hx hZ hown (wd hw 27 rfl) (wS_all hw) e7 S0 hk7 (g := (mkF m 55 #[.val (.int p1), .val (.int p2), .val (.int p3), .val (.long p4), .second, .val (.int p5), .val (.long ln0), .second, .val (.long ln1), .second, .val (.long ln2), .second, .val (.ref b4_0), .val (.ref b5_0), .val (.ref b6_0), .unset, .unset, .unset, .unset, .unset, .unset, .unset, .unset, .unset, .unset, .unset, .unset, .unset] [(.ref b7), (.ref b7)])) rfl (hb hby at_55) (n := 4) (by decide +kernel) (by decide) (by decide) (by decide)
  have old8 := old7.ext E8
  have kp8 := kp7.ext E8
  have hk8 := Nat.le_trans hk7 E8.1
  refine Go.fin st8 ?_
  show Go p e below _ (T8.setTop (mkF m 57 _ [(.ref sa8), (.ref b7), (.ref b7)]))
  refine gs.iconst 0 X8.here hx (hb hby at_57) rfl ?_
  refine gs.aload X8.here hx (hb hby at_58) rfl rfl ?_
  have f9 := (A7.ext E8)
  have f10 := (F7_name.ext E8)
  have f11 := (F7_index.ext E8)
  have f12 := (F7_domain.ext E8)
  refine gs.init 1 X8 hx hZ8 hown8 (am5_1 l Z a0 hw [] u_1 aw0 u_0 kaw0 HW (b7) (sa8) ((0 : Int32)) (b4_0) h8 n0 old8 f9 f10 f11 f12 nn_b7) (wd hw 37 rfl) (wd hw 26 rfl) (wd hw 35 rfl) rfl (wd hw 36 rfl) (by decide) (by decide) (by decide) (by rw [hml]; rfl) [(.ref sa8), (.int (0 : Int32)), (.ref b4_0)] (lenOf pd_4 rfl) rfl (Nat.le_of_eq rfl) (hb hby at_60) rfl e8 (by decide) (by decide) fun T13 Lc13 v13 X13 hQ13 => ?_
  obtain ⟨rfl, Nq13, K13, p13_0, p13_1⟩ := hQ13
  have old13 := old8.keep K13 (allS nn_b7 all0)
  have hk13 := Nat.le_trans hkk8 K13.1
  have kp13 := kp8.trans K13 (allS (Or.inr sz_b7) all0)
  have N13 := Fr.app N6 Nq13
  show Go p e below _ (T13.setTop (mkF m 63 _ [(.ref b7)]))
  refine gs.astore X13.here hx (hb hby at_63) rfl (l' := #[.val (.int p1), .val (.int p2), .val (.int p3), .val (.long p4), .second, .val (.int p5), .val (.long ln0), .second, .val (.long ln1), .second, .val (.long ln2), .second, .val (.ref b4_0), .val (.ref b5_0), .val (.ref b6_0), .val (.ref b7), .unset, .unset, .unset, .unset, .unset, .unset, .unset, .unset, .unset, .unset, .unset, .unset]) rfl ?_
  obtain ⟨T14, h14, X14, e14, E14, A14, D14, Y14, st14⟩ := newO X13 hx hZ8 hown8 (wd hw 24 rfl) (wd hw 25 rfl) (wd hw 26 rfl) rfl (g := (mkF m 65 #[.val (.int p1), .val (.int p2), .val (.int p3), .val (.long p4), .second, .val (.int p5), .val (.long ln0), .second, .val (.long ln1), .second, .val (.long ln2), .second, .val (.ref b4_0), .val (.ref b5_0), .val (.ref b6_0), .val (.ref b7), .unset, .unset, .unset, .unset, .unset, .unset, .unset, .unset, .unset, .unset, .unset, .unset] [])) rfl (hb hby at_65) (by decide) (by decide)
  obtain ⟨b14, g14⟩ : ∃ z, z = T13.heap.size := ⟨_, rfl⟩
  rw [← g14] at A14 D14 Y14 st14
  have nn_b14 : n0 ≤ b14 := Nat.le_trans (old_z0 old13) (Nat.le_of_eq g14.symm)
  have sz_b14 : h0.size ≤ b14 := Nat.le_trans kp13.1 (Nat.le_of_eq g14.symm)
  have old14 := old13.ext E14
  have kp14 := kp13.ext E14
  have hk14 := Nat.le_trans hk13 E14.1
  have F14_name : Fld Z h14 b14 "com/example/monarc/monarc/Variable" "name" "Ljava/lang/String;" .null := D14 (Or.inr (wd hw 45 rfl)) (ty := (.object "java/lang/String")) (by decide)
  have F14_index : Fld Z h14 b14 "com/example/monarc/monarc/Variable" "index" "I" (.int (0 : Int32)) := D14 (Or.inr (wd hw 47 rfl)) (ty := .int) (by decide)
  have F14_domain : Fld Z h14 b14 "com/example/monarc/monarc/Variable" "domain" "Lcom/example/monarc/monarc/InitialDomain;" .null := D14 (Or.inr (wd hw 49 rfl)) (ty := (.object "com/example/monarc/monarc/InitialDomain")) (by decide)
  refine Go.fin st14 ?_
  show Go p e below _ (T14.setTop (mkF m 68 _ [(.ref b14)]))
  refine gs.dup X14.here hx (hb hby at_68) rfl ?_
  obtain ⟨sa15, T15, h15, k1_15, X15, e15, E15, S15, hkk15, hZ15, hown15, st15⟩ := ldcS (vm0 := T8.vm) X14 hx hZ8 hown8 (wd hw 50 rfl) (wS_all hw) e14 S8 hk14 (g := (mkF m 69 #[.val (.int p1), .val (.int p2), .val (.int p3), .val (.long p4), .second, .val (.int p5), .val (.long ln0), .second, .val (.long ln1), .second, .val (.long ln2), .second, .val (.ref b4_0), .val (.ref b5_0), .val (.ref b6_0), .val (.ref b7), .unset, .unset, .unset, .unset, .unset, .unset, .unset, .unset, .unset, .unset, .unset, .unset] [(.ref b14), (.ref b14)])) rfl (hb hby at_69) (n := 4) (by decide +kernel) (by decide) (by decide) (by decide)
  have old15 := old14.ext E15
  have kp15 := kp14.ext E15
  have hk15 := Nat.le_trans hk14 E15.1
  refine Go.fin st15 ?_
  show Go p e below _ (T15.setTop (mkF m 71 _ [(.ref sa15), (.ref b14), (.ref b14)]))
  refine gs.iconst 1 X15.here hx (hb hby at_71) rfl ?_
  refine gs.aload X15.here hx (hb hby at_72) rfl rfl ?_
  have f16 := (A14.ext E15)
  have f17 := (F14_name.ext E15)
  have f18 := (F14_index.ext E15)
  have f19 := (F14_domain.ext E15)
  refine gs.init 1 X15 hx hZ15 hown15 (am5_1 l Z a0 hw [] u_1 aw0 u_0 kaw0 HW (b14) (sa15) ((1 : Int32)) (b5_0) h15 n0 old15 f16 f17 f18 f19 nn_b14) (wd hw 37 rfl) (wd hw 26 rfl) (wd hw 35 rfl) rfl (wd hw 36 rfl) (by decide) (by decide) (by decide) (by rw [hml]; rfl) [(.ref sa15), (.int (1 : Int32)), (.ref b5_0)] (lenOf pd_4 rfl) rfl (Nat.le_of_eq rfl) (hb hby at_74) rfl e15 (by decide) (by decide) fun T20 Lc20 v20 X20 hQ20 => ?_
  obtain ⟨rfl, Nq20, K20, p20_0, p20_1⟩ := hQ20
  have old20 := old15.keep K20 (allS nn_b14 all0)
  have hk20 := Nat.le_trans hkk15 K20.1
  have kp20 := kp15.trans K20 (allS (Or.inr sz_b14) all0)
  have N20 := Fr.app N13 Nq20
  show Go p e below _ (T20.setTop (mkF m 77 _ [(.ref b14)]))
  refine gs.astore X20.here hx (hb hby at_77) rfl (l' := #[.val (.int p1), .val (.int p2), .val (.int p3), .val (.long p4), .second, .val (.int p5), .val (.long ln0), .second, .val (.long ln1), .second, .val (.long ln2), .second, .val (.ref b4_0), .val (.ref b5_0), .val (.ref b6_0), .val (.ref b7), .val (.ref b14), .unset, .unset, .unset, .unset, .unset, .unset, .unset, .unset, .unset, .unset, .unset]) rfl ?_
  obtain ⟨T21, h21, X21, e21, E21, A21, D21, Y21, st21⟩ := newO X20 hx hZ15 hown15 (wd hw 24 rfl) (wd hw 25 rfl) (wd hw 26 rfl) rfl (g := (mkF m 79 #[.val (.int p1), .val (.int p2), .val (.int p3), .val (.long p4), .second, .val (.int p5), .val (.long ln0), .second, .val (.long ln1), .second, .val (.long ln2), .second, .val (.ref b4_0), .val (.ref b5_0), .val (.ref b6_0), .val (.ref b7), .val (.ref b14), .unset, .unset, .unset, .unset, .unset, .unset, .unset, .unset, .unset, .unset, .unset] [])) rfl (hb hby at_79) (by decide) (by decide)
  obtain ⟨b21, g21⟩ : ∃ z, z = T20.heap.size := ⟨_, rfl⟩
  rw [← g21] at A21 D21 Y21 st21
  have nn_b21 : n0 ≤ b21 := Nat.le_trans (old_z0 old20) (Nat.le_of_eq g21.symm)
  have sz_b21 : h0.size ≤ b21 := Nat.le_trans kp20.1 (Nat.le_of_eq g21.symm)
  have old21 := old20.ext E21
  have kp21 := kp20.ext E21
  have hk21 := Nat.le_trans hk20 E21.1
  have F21_name : Fld Z h21 b21 "com/example/monarc/monarc/Variable" "name" "Ljava/lang/String;" .null := D21 (Or.inr (wd hw 45 rfl)) (ty := (.object "java/lang/String")) (by decide)
  have F21_index : Fld Z h21 b21 "com/example/monarc/monarc/Variable" "index" "I" (.int (0 : Int32)) := D21 (Or.inr (wd hw 47 rfl)) (ty := .int) (by decide)
  have F21_domain : Fld Z h21 b21 "com/example/monarc/monarc/Variable" "domain" "Lcom/example/monarc/monarc/InitialDomain;" .null := D21 (Or.inr (wd hw 49 rfl)) (ty := (.object "com/example/monarc/monarc/InitialDomain")) (by decide)
  refine Go.fin st21 ?_
  show Go p e below _ (T21.setTop (mkF m 82 _ [(.ref b21)]))
  refine gs.dup X21.here hx (hb hby at_82) rfl ?_
  obtain ⟨sa22, T22, h22, k1_22, X22, e22, E22, S22, hkk22, hZ22, hown22, st22⟩ := ldcS (vm0 := T15.vm) X21 hx hZ15 hown15 (wd hw 51 rfl) (wS_all hw) e21 S15 hk21 (g := (mkF m 83 #[.val (.int p1), .val (.int p2), .val (.int p3), .val (.long p4), .second, .val (.int p5), .val (.long ln0), .second, .val (.long ln1), .second, .val (.long ln2), .second, .val (.ref b4_0), .val (.ref b5_0), .val (.ref b6_0), .val (.ref b7), .val (.ref b14), .unset, .unset, .unset, .unset, .unset, .unset, .unset, .unset, .unset, .unset, .unset] [(.ref b21), (.ref b21)])) rfl (hb hby at_83) (n := 4) (by decide +kernel) (by decide) (by decide) (by decide)
  have old22 := old21.ext E22
  have kp22 := kp21.ext E22
  have hk22 := Nat.le_trans hk21 E22.1
  refine Go.fin st22 ?_
  show Go p e below _ (T22.setTop (mkF m 85 _ [(.ref sa22), (.ref b21), (.ref b21)]))
  refine gs.iconst 2 X22.here hx (hb hby at_85) rfl ?_
  refine gs.aload X22.here hx (hb hby at_86) rfl rfl ?_
  have f23 := (A21.ext E22)
  have f24 := (F21_name.ext E22)
  have f25 := (F21_index.ext E22)
  have f26 := (F21_domain.ext E22)
  refine gs.init 1 X22 hx hZ22 hown22 (am5_1 l Z a0 hw [] u_1 aw0 u_0 kaw0 HW (b21) (sa22) ((2 : Int32)) (b6_0) h22 n0 old22 f23 f24 f25 f26 nn_b21) (wd hw 37 rfl) (wd hw 26 rfl) (wd hw 35 rfl) rfl (wd hw 36 rfl) (by decide) (by decide) (by decide) (by rw [hml]; rfl) [(.ref sa22), (.int (2 : Int32)), (.ref b6_0)] (lenOf pd_4 rfl) rfl (Nat.le_of_eq rfl) (hb hby at_88) rfl e22 (by decide) (by decide) fun T27 Lc27 v27 X27 hQ27 => ?_
  obtain ⟨rfl, Nq27, K27, p27_0, p27_1⟩ := hQ27
  have old27 := old22.keep K27 (allS nn_b21 all0)
  have hk27 := Nat.le_trans hkk22 K27.1
  have kp27 := kp22.trans K27 (allS (Or.inr sz_b21) all0)
  have N27 := Fr.app N20 Nq27
  show Go p e below _ (T27.setTop (mkF m 91 _ [(.ref b21)]))
  refine gs.astore X27.here hx (hb hby at_91) rfl (l' := #[.val (.int p1), .val (.int p2), .val (.int p3), .val (.long p4), .second, .val (.int p5), .val (.long ln0), .second, .val (.long ln1), .second, .val (.long ln2), .second, .val (.ref b4_0), .val (.ref b5_0), .val (.ref b6_0), .val (.ref b7), .val (.ref b14), .val (.ref b21), .unset, .unset, .unset, .unset, .unset, .unset, .unset, .unset, .unset, .unset]) rfl ?_
  refine gs.iload X27.here hx (hb hby at_93) rfl ?_
  refine gs.iconst 3 X27.here hx (hb hby at_95) rfl ?_
  refine gs.iand X27.here hx (hb hby at_96) ?_
  refine gs.istore X27.here hx (hb hby at_97) (l' := #[.val (.int p1), .val (.int p2), .val (.int p3), .val (.long p4), .second, .val (.int p5), .val (.long ln0), .second, .val (.long ln1), .second, .val (.long ln2), .second, .val (.ref b4_0), .val (.ref b5_0), .val (.ref b6_0), .val (.ref b7), .val (.ref b14), .val (.ref b21), .val (.int (p5 &&& (3 : Int32))), .unset, .unset, .unset, .unset, .unset, .unset, .unset, .unset, .unset]) rfl ?_
  generalize hk_k : (p5 &&& (3 : Int32)) = k
  show Go p e below _ (T27.setTop (mkF m 99 #[.val (.int p1), .val (.int p2), .val (.int p3), .val (.long p4), .second, .val (.int p5), .val (.long ln0), .second, .val (.long ln1), .second, .val (.long ln2), .second, .val (.ref b4_0), .val (.ref b5_0), .val (.ref b6_0), .val (.ref b7), .val (.ref b14), .val (.ref b21), .val (.int k), .unset, .unset, .unset, .unset, .unset, .unset, .unset, .unset, .unset] []))
  have hb_k := and3_bd p5
  rw [hk_k] at hb_k
  rcases cs4 hb_k with rfl | rfl | rfl | rfl
  next =>
    show Go p e below _ (T27.setTop (mkF m 99 #[.val (.int p1), .val (.int p2), .val (.int p3), .val (.long p4), .second, .val (.int p5), .val (.long ln0), .second, .val (.long ln1), .second, .val (.long ln2), .second, .val (.ref b4_0), .val (.ref b5_0), .val (.ref b6_0), .val (.ref b7), .val (.ref b14), .val (.ref b21), .val (.int (0 : Int32)), .unset, .unset, .unset, .unset, .unset, .unset, .unset, .unset, .unset] []))
    exact sg1 hw u_1 aw0 u_0 kaw0 HW hx hby hml Bd.returns Bd.notSynchronized (vm0 := T22.vm) X27 S22 hk27 hZ22 hown22 rfl N27 kp27 old27 (fun h_ L_ q_ => ⟨rfl, q_⟩) p1 p2 p3 p4 p5 ln0 ln1 ln2 b4_0 b5_0 b6_0 b7 b14 b21 p4 p5 ln0 ln1 ln2 s0 s1 s2 hb_ln0 hb_ln1 hb_ln2 hs0 hs1 hs2
  next =>
    show Go p e below _ (T27.setTop (mkF m 99 #[.val (.int p1), .val (.int p2), .val (.int p3), .val (.long p4), .second, .val (.int p5), .val (.long ln0), .second, .val (.long ln1), .second, .val (.long ln2), .second, .val (.ref b4_0), .val (.ref b5_0), .val (.ref b6_0), .val (.ref b7), .val (.ref b14), .val (.ref b21), .val (.int (1 : Int32)), .unset, .unset, .unset, .unset, .unset, .unset, .unset, .unset, .unset] []))
    have f28 := (((((((((((p4_0.keep K5).keep K6).ext E7).ext E8).keep K13).ext E14).ext E15).keep K20).ext E21).ext E22).keep K27)
    have ne_b4_0_b7 : b4_0 ≠ b7 := Nat.ne_of_lt (Nat.lt_of_lt_of_le ((p4_0.keep K5).keep K6).lt (Nat.le_of_eq g7.symm))
    have ne_b4_0_b14 : b4_0 ≠ b14 := Nat.ne_of_lt (Nat.lt_of_lt_of_le (((((p4_0.keep K5).keep K6).ext E7).ext E8).keep K13).lt (Nat.le_of_eq g14.symm))
    have ne_b4_0_b21 : b4_0 ≠ b21 := Nat.ne_of_lt (Nat.lt_of_lt_of_le ((((((((p4_0.keep K5).keep K6).ext E7).ext E8).keep K13).ext E14).ext E15).keep K20).lt (Nat.le_of_eq g21.symm))
    have f29 := (((((((((((p4_1.keep K5 nin0).keep K6 nin0).ext E7).ext E8).keep K13 (ninS ne_b4_0_b7 nin0)).ext E14).ext E15).keep K20 (ninS ne_b4_0_b14 nin0)).ext E21).ext E22).keep K27 (ninS ne_b4_0_b21 nin0))
    have f30 := (((((((((((p4_2.keep K5 nin0).keep K6 nin0).ext E7).ext E8).keep K13 (ninS ne_b4_0_b7 nin0)).ext E14).ext E15).keep K20 (ninS ne_b4_0_b14 nin0)).ext E21).ext E22).keep K27 (ninS ne_b4_0_b21 nin0))
    have f31 := (((((((((((p4_3.keep K5 nin0).keep K6 nin0).ext E7).ext E8).keep K13 (ninS ne_b4_0_b7 nin0)).ext E14).ext E15).keep K20 (ninS ne_b4_0_b14 nin0)).ext E21).ext E22).keep K27 (ninS ne_b4_0_b21 nin0))
    have f32 := ((((((p13_0.ext E14).ext E15).keep K20).ext E21).ext E22).keep K27)
    have ne_b7_b14 : b7 ≠ b14 := Nat.ne_of_lt (Nat.lt_of_lt_of_le p13_0.lt (Nat.le_of_eq g14.symm))
    have ne_b7_b21 : b7 ≠ b21 := Nat.ne_of_lt (Nat.lt_of_lt_of_le (((p13_0.ext E14).ext E15).keep K20).lt (Nat.le_of_eq g21.symm))
    have f33 := ((((((p13_1.ext E14).ext E15).keep K20 (ninS ne_b7_b14 nin0)).ext E21).ext E22).keep K27 (ninS ne_b7_b21 nin0))
    exact sg2 hw u_1 aw0 u_0 kaw0 HW hx hby hml Bd.returns Bd.notSynchronized (vm0 := T22.vm) X27 S22 hk27 hZ22 hown22 rfl N27 kp27 old27 (fun h_ L_ q_ => ⟨rfl, q_⟩) p1 p2 p3 p4 p5 ln0 ln1 ln2 b4_0 b5_0 b6_0 b7 b14 b21 b4_0 s0 ln1 ln2 s1 s2 f28 f29 f30 f31 f32 f33 hb_ln0 hb_ln1 hb_ln2 hs0 hs1 hs2
  next =>
    show Go p e below _ (T27.setTop (mkF m 99 #[.val (.int p1), .val (.int p2), .val (.int p3), .val (.long p4), .second, .val (.int p5), .val (.long ln0), .second, .val (.long ln1), .second, .val (.long ln2), .second, .val (.ref b4_0), .val (.ref b5_0), .val (.ref b6_0), .val (.ref b7), .val (.ref b14), .val (.ref b21), .val (.int (2 : Int32)), .unset, .unset, .unset, .unset, .unset, .unset, .unset, .unset, .unset] []))
    have f34 := (((((((((((p4_0.keep K5).keep K6).ext E7).ext E8).keep K13).ext E14).ext E15).keep K20).ext E21).ext E22).keep K27)
    have ne_b4_0_b7 : b4_0 ≠ b7 := Nat.ne_of_lt (Nat.lt_of_lt_of_le ((p4_0.keep K5).keep K6).lt (Nat.le_of_eq g7.symm))
    have ne_b4_0_b14 : b4_0 ≠ b14 := Nat.ne_of_lt (Nat.lt_of_lt_of_le (((((p4_0.keep K5).keep K6).ext E7).ext E8).keep K13).lt (Nat.le_of_eq g14.symm))
    have ne_b4_0_b21 : b4_0 ≠ b21 := Nat.ne_of_lt (Nat.lt_of_lt_of_le ((((((((p4_0.keep K5).keep K6).ext E7).ext E8).keep K13).ext E14).ext E15).keep K20).lt (Nat.le_of_eq g21.symm))
    have f35 := (((((((((((p4_1.keep K5 nin0).keep K6 nin0).ext E7).ext E8).keep K13 (ninS ne_b4_0_b7 nin0)).ext E14).ext E15).keep K20 (ninS ne_b4_0_b14 nin0)).ext E21).ext E22).keep K27 (ninS ne_b4_0_b21 nin0))
    have f36 := (((((((((((p4_2.keep K5 nin0).keep K6 nin0).ext E7).ext E8).keep K13 (ninS ne_b4_0_b7 nin0)).ext E14).ext E15).keep K20 (ninS ne_b4_0_b14 nin0)).ext E21).ext E22).keep K27 (ninS ne_b4_0_b21 nin0))
    have f37 := (((((((((((p4_3.keep K5 nin0).keep K6 nin0).ext E7).ext E8).keep K13 (ninS ne_b4_0_b7 nin0)).ext E14).ext E15).keep K20 (ninS ne_b4_0_b14 nin0)).ext E21).ext E22).keep K27 (ninS ne_b4_0_b21 nin0))
    have f38 := ((((((((((p5_0.keep K6).ext E7).ext E8).keep K13).ext E14).ext E15).keep K20).ext E21).ext E22).keep K27)
    have ne_b5_0_b7 : b5_0 ≠ b7 := Nat.ne_of_lt (Nat.lt_of_lt_of_le (p5_0.keep K6).lt (Nat.le_of_eq g7.symm))
    have ne_b5_0_b14 : b5_0 ≠ b14 := Nat.ne_of_lt (Nat.lt_of_lt_of_le ((((p5_0.keep K6).ext E7).ext E8).keep K13).lt (Nat.le_of_eq g14.symm))
    have ne_b5_0_b21 : b5_0 ≠ b21 := Nat.ne_of_lt (Nat.lt_of_lt_of_le (((((((p5_0.keep K6).ext E7).ext E8).keep K13).ext E14).ext E15).keep K20).lt (Nat.le_of_eq g21.symm))
    have f39 := ((((((((((p5_1.keep K6 nin0).ext E7).ext E8).keep K13 (ninS ne_b5_0_b7 nin0)).ext E14).ext E15).keep K20 (ninS ne_b5_0_b14 nin0)).ext E21).ext E22).keep K27 (ninS ne_b5_0_b21 nin0))
    have f40 := ((((((((((p5_2.keep K6 nin0).ext E7).ext E8).keep K13 (ninS ne_b5_0_b7 nin0)).ext E14).ext E15).keep K20 (ninS ne_b5_0_b14 nin0)).ext E21).ext E22).keep K27 (ninS ne_b5_0_b21 nin0))
    have f41 := ((((((((((p5_3.keep K6 nin0).ext E7).ext E8).keep K13 (ninS ne_b5_0_b7 nin0)).ext E14).ext E15).keep K20 (ninS ne_b5_0_b14 nin0)).ext E21).ext E22).keep K27 (ninS ne_b5_0_b21 nin0))
    have f42 := ((((((p13_0.ext E14).ext E15).keep K20).ext E21).ext E22).keep K27)
    have ne_b7_b14 : b7 ≠ b14 := Nat.ne_of_lt (Nat.lt_of_lt_of_le p13_0.lt (Nat.le_of_eq g14.symm))
    have ne_b7_b21 : b7 ≠ b21 := Nat.ne_of_lt (Nat.lt_of_lt_of_le (((p13_0.ext E14).ext E15).keep K20).lt (Nat.le_of_eq g21.symm))
    have f43 := ((((((p13_1.ext E14).ext E15).keep K20 (ninS ne_b7_b14 nin0)).ext E21).ext E22).keep K27 (ninS ne_b7_b21 nin0))
    have f44 := (((p20_0.ext E21).ext E22).keep K27)
    have ne_b14_b21 : b14 ≠ b21 := Nat.ne_of_lt (Nat.lt_of_lt_of_le p20_0.lt (Nat.le_of_eq g21.symm))
    have f45 := (((p20_1.ext E21).ext E22).keep K27 (ninS ne_b14_b21 nin0))
    exact sg3 hw u_1 aw0 u_0 kaw0 HW hx hby hml Bd.returns Bd.notSynchronized (vm0 := T22.vm) X27 S22 hk27 hZ22 hown22 rfl N27 kp27 old27 (fun h_ L_ q_ => ⟨rfl, q_⟩) p1 p2 p3 p4 p5 ln0 ln1 ln2 b4_0 b5_0 b6_0 b7 b14 b21 b4_0 s0 b5_0 s1 ln2 s2 f34 f35 f36 f37 f38 f39 f40 f41 f42 f43 f44 f45 hb_ln0 hb_ln1 hb_ln2 hs0 hs1 hs2
  next =>
    show Go p e below _ (T27.setTop (mkF m 99 #[.val (.int p1), .val (.int p2), .val (.int p3), .val (.long p4), .second, .val (.int p5), .val (.long ln0), .second, .val (.long ln1), .second, .val (.long ln2), .second, .val (.ref b4_0), .val (.ref b5_0), .val (.ref b6_0), .val (.ref b7), .val (.ref b14), .val (.ref b21), .val (.int (3 : Int32)), .unset, .unset, .unset, .unset, .unset, .unset, .unset, .unset, .unset] []))
    have f46 := (((((((((((p4_0.keep K5).keep K6).ext E7).ext E8).keep K13).ext E14).ext E15).keep K20).ext E21).ext E22).keep K27)
    have ne_b4_0_b7 : b4_0 ≠ b7 := Nat.ne_of_lt (Nat.lt_of_lt_of_le ((p4_0.keep K5).keep K6).lt (Nat.le_of_eq g7.symm))
    have ne_b4_0_b14 : b4_0 ≠ b14 := Nat.ne_of_lt (Nat.lt_of_lt_of_le (((((p4_0.keep K5).keep K6).ext E7).ext E8).keep K13).lt (Nat.le_of_eq g14.symm))
    have ne_b4_0_b21 : b4_0 ≠ b21 := Nat.ne_of_lt (Nat.lt_of_lt_of_le ((((((((p4_0.keep K5).keep K6).ext E7).ext E8).keep K13).ext E14).ext E15).keep K20).lt (Nat.le_of_eq g21.symm))
    have f47 := (((((((((((p4_1.keep K5 nin0).keep K6 nin0).ext E7).ext E8).keep K13 (ninS ne_b4_0_b7 nin0)).ext E14).ext E15).keep K20 (ninS ne_b4_0_b14 nin0)).ext E21).ext E22).keep K27 (ninS ne_b4_0_b21 nin0))
    have f48 := (((((((((((p4_2.keep K5 nin0).keep K6 nin0).ext E7).ext E8).keep K13 (ninS ne_b4_0_b7 nin0)).ext E14).ext E15).keep K20 (ninS ne_b4_0_b14 nin0)).ext E21).ext E22).keep K27 (ninS ne_b4_0_b21 nin0))
    have f49 := (((((((((((p4_3.keep K5 nin0).keep K6 nin0).ext E7).ext E8).keep K13 (ninS ne_b4_0_b7 nin0)).ext E14).ext E15).keep K20 (ninS ne_b4_0_b14 nin0)).ext E21).ext E22).keep K27 (ninS ne_b4_0_b21 nin0))
    have f50 := ((((((((((p5_0.keep K6).ext E7).ext E8).keep K13).ext E14).ext E15).keep K20).ext E21).ext E22).keep K27)
    have ne_b5_0_b7 : b5_0 ≠ b7 := Nat.ne_of_lt (Nat.lt_of_lt_of_le (p5_0.keep K6).lt (Nat.le_of_eq g7.symm))
    have ne_b5_0_b14 : b5_0 ≠ b14 := Nat.ne_of_lt (Nat.lt_of_lt_of_le ((((p5_0.keep K6).ext E7).ext E8).keep K13).lt (Nat.le_of_eq g14.symm))
    have ne_b5_0_b21 : b5_0 ≠ b21 := Nat.ne_of_lt (Nat.lt_of_lt_of_le (((((((p5_0.keep K6).ext E7).ext E8).keep K13).ext E14).ext E15).keep K20).lt (Nat.le_of_eq g21.symm))
    have f51 := ((((((((((p5_1.keep K6 nin0).ext E7).ext E8).keep K13 (ninS ne_b5_0_b7 nin0)).ext E14).ext E15).keep K20 (ninS ne_b5_0_b14 nin0)).ext E21).ext E22).keep K27 (ninS ne_b5_0_b21 nin0))
    have f52 := ((((((((((p5_2.keep K6 nin0).ext E7).ext E8).keep K13 (ninS ne_b5_0_b7 nin0)).ext E14).ext E15).keep K20 (ninS ne_b5_0_b14 nin0)).ext E21).ext E22).keep K27 (ninS ne_b5_0_b21 nin0))
    have f53 := ((((((((((p5_3.keep K6 nin0).ext E7).ext E8).keep K13 (ninS ne_b5_0_b7 nin0)).ext E14).ext E15).keep K20 (ninS ne_b5_0_b14 nin0)).ext E21).ext E22).keep K27 (ninS ne_b5_0_b21 nin0))
    have f54 := (((((((((p6_0.ext E7).ext E8).keep K13).ext E14).ext E15).keep K20).ext E21).ext E22).keep K27)
    have ne_b6_0_b7 : b6_0 ≠ b7 := Nat.ne_of_lt (Nat.lt_of_lt_of_le p6_0.lt (Nat.le_of_eq g7.symm))
    have ne_b6_0_b14 : b6_0 ≠ b14 := Nat.ne_of_lt (Nat.lt_of_lt_of_le (((p6_0.ext E7).ext E8).keep K13).lt (Nat.le_of_eq g14.symm))
    have ne_b6_0_b21 : b6_0 ≠ b21 := Nat.ne_of_lt (Nat.lt_of_lt_of_le ((((((p6_0.ext E7).ext E8).keep K13).ext E14).ext E15).keep K20).lt (Nat.le_of_eq g21.symm))
    have f55 := (((((((((p6_1.ext E7).ext E8).keep K13 (ninS ne_b6_0_b7 nin0)).ext E14).ext E15).keep K20 (ninS ne_b6_0_b14 nin0)).ext E21).ext E22).keep K27 (ninS ne_b6_0_b21 nin0))
    have f56 := (((((((((p6_2.ext E7).ext E8).keep K13 (ninS ne_b6_0_b7 nin0)).ext E14).ext E15).keep K20 (ninS ne_b6_0_b14 nin0)).ext E21).ext E22).keep K27 (ninS ne_b6_0_b21 nin0))
    have f57 := (((((((((p6_3.ext E7).ext E8).keep K13 (ninS ne_b6_0_b7 nin0)).ext E14).ext E15).keep K20 (ninS ne_b6_0_b14 nin0)).ext E21).ext E22).keep K27 (ninS ne_b6_0_b21 nin0))
    have f58 := ((((((p13_0.ext E14).ext E15).keep K20).ext E21).ext E22).keep K27)
    have ne_b7_b14 : b7 ≠ b14 := Nat.ne_of_lt (Nat.lt_of_lt_of_le p13_0.lt (Nat.le_of_eq g14.symm))
    have ne_b7_b21 : b7 ≠ b21 := Nat.ne_of_lt (Nat.lt_of_lt_of_le (((p13_0.ext E14).ext E15).keep K20).lt (Nat.le_of_eq g21.symm))
    have f59 := ((((((p13_1.ext E14).ext E15).keep K20 (ninS ne_b7_b14 nin0)).ext E21).ext E22).keep K27 (ninS ne_b7_b21 nin0))
    have f60 := (((p20_0.ext E21).ext E22).keep K27)
    have ne_b14_b21 : b14 ≠ b21 := Nat.ne_of_lt (Nat.lt_of_lt_of_le p20_0.lt (Nat.le_of_eq g21.symm))
    have f61 := (((p20_1.ext E21).ext E22).keep K27 (ninS ne_b14_b21 nin0))
    exact sg4 hw u_1 aw0 u_0 kaw0 HW hx hby hml Bd.returns Bd.notSynchronized (vm0 := T22.vm) X27 S22 hk27 hZ22 hown22 rfl N27 kp27 old27 (fun h_ L_ q_ => ⟨rfl, q_⟩) p1 p2 p3 p4 p5 ln0 ln1 ln2 b4_0 b5_0 b6_0 b7 b14 b21 b4_0 s0 b5_0 s1 b6_0 s2 f46 f47 f48 f49 f50 f51 f52 f53 f54 f55 f56 f57 f58 f59 f60 f61 p27_0 p27_1 hb_ln0 hb_ln1 hb_ln2 hs0 hs1 hs2
set_option maxRecDepth 65536 in
set_option maxHeartbeats 40000000 in
theorem comes_1 {Post : Tables → Env → Array Value → State → Outcome → State → Prop} (hpost : ∀ tb e args s v u, (limb_1_1.after args s (.returned v) u = true ∧ limb_1_2.after args s (.returned v) u = true ∧ True) → ReturnedEndW s (.returned v) u (Jvm.fieldLocs frame_1_writes args s ++ Jvm.arrayLocs frame_1_arrays args s ++ Jvm.staticLocs frame_1_statics s) 48 5440 → Post tb e args s (.returned v) u) :
    ArmFor flags0 classFile x code maxLocals ret World_1 tables_1 room_1 Calls_1 rest_1 Pre_1 Post := by
  intro l hfl _ _ p e ha hc hk s m args below hf hA hF happ hP
  obtain ⟨hcalls, hrest, hpre⟩ := hP
  obtain ⟨-, -, -, hnamed, -, -, -, hat⟩ := (Spec.applies_iff hf).mp happ
  obtain ⟨hg, hn⟩ := and_e (Cond.before_iff.mp (show (Jvm.Cond.and given_1 narrow_1).before args s = true from hpre))
  obtain ⟨hgl, hgr⟩ := and_e hg
  obtain ⟨hgrl, hgrr⟩ := and_e hgr
  obtain ⟨hgrrl, hgrrr⟩ := and_e hgrr
  obtain ⟨hgrrrl, hgrrrr⟩ := and_e hgrrr
  obtain ⟨hgrrrrl, hgrrrrr⟩ := and_e hgrrrr
  obtain ⟨w0, w1, w2, w3, w4, rfl⟩ : ∃ w0 w1 w2 w3 w4 : Value, args = #[w0, w1, w2, w3, w4] := by
    have hs : args.size = 5 := by simpa [Cond.value, given_1] using hgl
    obtain ⟨L⟩ := args
    match L, hs with
    | [w0, w1, w2, w3, w4], _ => exact ⟨w0, w1, w2, w3, w4, rfl⟩
  have hw := fun d (hd : d ∈ tables_1) => atoms_spec (ws := Jvm.Cond.code x code maxLocals ret :: tables_1) hat d (List.mem_cons_of_mem _ hd)
  have hfit : Fit s := fun {y c} hc i hi => by
    obtain ⟨ha, rfl⟩ := Array.getElem?_eq_some_iff.mp hc
    have q := List.all_eq_true.mp ((Array.all_eq_true_iff_forall_mem.mp hF) _ (Array.getElem_mem ha)) i (List.mem_range.mpr hi)
    simpa [Array.getElem?_eq_getElem hi] using q
  obtain ⟨hsets, hown0⟩ := atoms_of _ (rest_1_c_eq ▸ (show rest_1_c.before _ s = true from hrest))
  have hr0 := Cond.before_iff.mp hown0
  obtain ⟨i0, ei0⟩ := is_v hgrl
  obtain rfl : w0 = (.int i0) := Option.some.inj ei0
  obtain ⟨i1, ei1⟩ := is_v hgrrl
  obtain rfl : w1 = (.int i1) := Option.some.inj ei1
  obtain ⟨i2, ei2⟩ := is_v hgrrrl
  obtain rfl : w2 = (.int i2) := Option.some.inj ei2
  obtain ⟨i3, ei3⟩ := isL_v hgrrrrl
  obtain rfl : w3 = (.long i3) := Option.some.inj ei3
  obtain ⟨i4, ei4⟩ := is_v hgrrrrr
  obtain rfl : w4 = (.int i4) := Option.some.inj ei4
  obtain ⟨u_1, eva_EMPTY_ELEMENTDATA⟩ := arr_v (Cond.before_iff.mp (hsets _ (List.mem_of_getElem? (i := 3) rfl)))
  obtain ⟨cla_EMPTY_ELEMENTDATA, Ara_EMPTY_ELEMENTDATA⟩ := Arr.start eva_EMPTY_ELEMENTDATA (Cond.before_iff.mp (hsets _ (List.mem_of_getElem? (i := 3) rfl)))
  obtain ⟨aw0, evaw0⟩ := arr_v (Cond.before_iff.mp (hsets _ (List.mem_of_getElem? (i := 6) rfl)))
  obtain ⟨claw0, Araw0⟩ := Arr.start evaw0 (Cond.before_iff.mp (hsets _ (List.mem_of_getElem? (i := 6) rfl)))
  obtain ⟨q1a_EMPTY_ELEMENTDATA, q2a_EMPTY_ELEMENTDATA⟩ := len_start Ara_EMPTY_ELEMENTDATA eva_EMPTY_ELEMENTDATA (eq_int (Cond.before_iff.mp (hsets _ (List.mem_of_getElem? (i := 5) rfl))))
  obtain ⟨u_0, hka_EMPTY_ELEMENTDATA⟩ : ∃ z, z = cla_EMPTY_ELEMENTDATA.cls := ⟨_, rfl⟩
  obtain ⟨q1aw0, q2aw0⟩ := len_start Araw0 evaw0 (eq_int (Cond.before_iff.mp (hsets _ (List.mem_of_getElem? (i := 8) rfl))))
  obtain ⟨kaw0, hkaw0⟩ : ∃ z, z = claw0.cls := ⟨_, rfl⟩
  have HW : Wd s u_1 aw0 u_0 kaw0 := ⟨Exa.start eva_EMPTY_ELEMENTDATA (Cond.before_iff.mp (hsets _ (List.mem_of_getElem? (i := 4) rfl))), Sta.start eva_EMPTY_ELEMENTDATA (Or.inl (hsets _ (List.mem_of_getElem? (i := 1) rfl))), Exa.start evaw0 (Cond.before_iff.mp (hsets _ (List.mem_of_getElem? (i := 7) rfl))), Sta.start evaw0 (Or.inr ⟨(wd hw 54 rfl), (hsets _ (List.mem_of_getElem? (i := 2) rfl))⟩), hka_EMPTY_ELEMENTDATA ▸ Arv.start hfit Ara_EMPTY_ELEMENTDATA q1a_EMPTY_ELEMENTDATA q2a_EMPTY_ELEMENTDATA (by decide) (by decide) trivial, hkaw0 ▸ Arv.start hfit Araw0 q1aw0 q2aw0 (by decide) (by decide) trivial⟩
  obtain ⟨n, o, h1, h2, h3, _, L, rfl, ⟨rfl, N⟩, hq⟩ := rm0 l s _ hw tables_1 u_1 aw0 u_0 kaw0 HW i0 i1 i2 i3 i4 s.heap s.heap.size (Old.start s)  p e ha hc hk s m _ below hf ((Spec.applies_iff_loose hf).mp happ).1 ⟨rfl, State.Warmed39.refl s, rfl⟩ trivial
  refine ⟨n, _, h1, h2, h3, hpost _ _ _ _ _ _ ⟨Cond.after_iff.mpr rfl, Cond.after_iff.mpr (eq_i res_at (Term.int_eval (1)) rfl), trivial⟩ ⟨hq.1, hq.2.1, hq.2.2.1, (hq.2.2.2.sift fun y hy => Or.inr (N y hy)).mono (by decide) (by decide)⟩⟩
theorem main_1_1 : Claimed_1_1 := comes_1 fun _ _ _ _ _ _ h hF => ⟨h.1, hF⟩
theorem main_1_2 : Claimed_1_2 := comes_1 fun _ _ _ _ _ _ h hF => ⟨h.2.1, hF⟩
end Jvm.Pilot.@@N@@
namespace Jvm.Pilot.@@N@@
open Jvm Jvm.ClassFile Sem Op Lib Jvm.Free Jvm.Stand Jvm.Pilot.@@N@@.Jvm.D
/-! MADE BY PROGRAM (witnessworld.py) out of the Statement's table words and the real class files: 32 classes; the members and pool entries that the words name. The judged class is class 1, her method 2. -/
namespace start1
open Jvm.ClassFile
def u (s : String) : CpInfo := .utf8 (stringToUtf16 s)
/-- a pool by its gaps: so many unusable entries, then the entry; so many at the end -/
def gap : Nat → List CpInfo → List CpInfo
  | 0, r => r
  | n + 1, r => .unusable :: gap n r
def poolList (es : List (Nat × CpInfo)) (last : Nat) : List CpInfo := es.foldr (fun e r => gap e.1 (e.2 :: r)) (gap last [])
def pool (es : List (Nat × CpInfo)) (last : Nat) : Array CpInfo := ⟨poolList es last⟩
def fileOf (pool : Array CpInfo) (this : Nat) (attrs : Array Attribute := #[]) (ms : Array MethodInfo := #[]) (fl : Nat := 33) (sup : Nat := 0) (ifs : Array Nat := #[]) (fds : Array FieldInfo := #[]) : ClassFile where
  minorVersion := 0
  majorVersion := 65
  constantPool := pool
  accessFlags := fl
  thisClass := this
  superClass := sup
  interfaces := ifs
  fields := fds
  methods := ms
  attributes := attrs
def plain (name : String) (sup : Option ClassId) : Class where
  name := name
  kind := .ordinary
  loader := none
  accessFlags := 33
  super := sup
  interfaces := #[]
  cf := none
  fields := #[]
  methods := #[]
  instanceTypes := #[]
  staticTypes := #[]
  resolved := #[]
  callSites := []
  init := .initialized
  statics := none
  mirror := none

def pool0 : Array CpInfo := pool [(5, u "<init>"), (0, u "()V"), (1, .class_ 10), (1, u "java/lang/Object")] 113

def k0c0 : Code := { maxStack := 0, maxLocals := 1, code := object_method_1_code, exceptionTable := #[], attributes := #[] }
def k0m0 : Method := { name := "<init>", desc := "()V", sig := { parameters := [], returnType := none }, accessFlags := 1, code := some k0c0 }
/-- java/lang/Object -/
def k0 : Class := { plain "java/lang/Object" none with
  accessFlags := 33
  interfaces := #[]
  cf := some (fileOf pool0 8 #[] #[{ accessFlags := 1, nameIndex := 5, descriptorIndex := 6, attributes := #[] }] 33 0 #[] #[])
  fields := #[]
  methods := #[k0m0]
  instanceTypes := #[]
  staticTypes := #[]
  resolved := Array.replicate 124 none
  statics := none }

def pool1 : Array CpInfo := pool [(2, .class_ 4), (0, .nameAndType 5 6), (0, u "java/lang/Object"), (0, u "<init>"), (0, u "()V"), (0, .integer 1073741823), (0, .class_ 9), (0, u "com/example/monarc/monarc/InitialDomain"), (0, .methodref 11 12), (0, .class_ 13), (0, .nameAndType 14 15), (0, u "com/example/monarc/monarc/DomainsTotalSizePinLaw"), (0, u "size"), (0, u "(I)J"), (0, .methodref 8 17), (0, .nameAndType 18 19), (0, u "range"), (0, u "(II)Lcom/example/monarc/monarc/InitialDomain;"), (0, .class_ 21), (0, u "com/example/monarc/monarc/Variable"), (0, .string 23), (0, u "x"), (0, .methodref 20 25), (0, .nameAndType 5 26), (0, u "(Ljava/lang/String;ILcom/example/monarc/monarc/InitialDomain;)V"), (0, .string 28), (0, u "y"), (0, .string 30), (0, u "z"), (0, .class_ 32), (0, u "java/util/ArrayList"), (0, .methodref 31 3), (0, .methodref 31 35), (0, .nameAndType 36 37), (0, u "add"), (0, u "(Ljava/lang/Object;)Z"), (0, .class_ 39), (0, u "com/example/monarc/monarc/Domains"), (0, .methodref 38 41), (0, .nameAndType 5 42), (0, u "(Ljava/util/List;)V"), (0, .methodref 38 44), (0, .nameAndType 45 46), (0, u "totalSize"), (0, u "()J"), (0, .methodref 48 49), (0, .class_ 50), (0, .nameAndType 51 52), (0, u "java/lang/Math"), (0, u "max"), (0, u "(JJ)J"), (0, .methodref 48 54), (0, .nameAndType 55 52), (0, u "min"), (0, .methodref 38 57), (0, .nameAndType 58 59), (0, u "removeBelow"), (0, u "(IJ)V"), (2, u "law"), (0, u "(IIIJI)Z")] 3

def k1m0 : Method := { name := "<init>", desc := "()V", sig := { parameters := [], returnType := none }, accessFlags := 1, code := none }
def k1c1 : Code := { maxStack := 4, maxLocals := 1, code := method_2_code, exceptionTable := #[], attributes := #[] }
def k1m1 : Method := { name := "size", desc := "(I)J", sig := { parameters := [.int], returnType := some .long }, accessFlags := 10, code := some k1c1 }
def k1c2 : Code := { maxStack := 6, maxLocals := 28, code := code, exceptionTable := #[], attributes := #[] }
def k1m2 : Method := { name := "law", desc := "(IIIJI)Z", sig := { parameters := [.int, .int, .int, .long, .int], returnType := some .boolean }, accessFlags := 9, code := some k1c2 }
/-- com/example/monarc/monarc/DomainsTotalSizePinLaw -/
def k1 : Class := { plain "com/example/monarc/monarc/DomainsTotalSizePinLaw" (some 0) with
  accessFlags := 49
  interfaces := #[]
  cf := some (fileOf pool1 11 #[] #[{ accessFlags := 1, nameIndex := 5, descriptorIndex := 6, attributes := #[] }, { accessFlags := 10, nameIndex := 14, descriptorIndex := 15, attributes := #[] }, { accessFlags := 9, nameIndex := 62, descriptorIndex := 63, attributes := #[] }] 49 2 #[] #[])
  fields := #[]
  methods := #[k1m0, k1m1, k1m2]
  instanceTypes := #[]
  staticTypes := #[]
  resolved := Array.replicate 67 none
  statics := none }

def pool2 : Array CpInfo := pool [(1, .methodref 2 3), (0, .class_ 4), (0, .nameAndType 5 6), (0, u "java/lang/Object"), (0, u "<init>"), (0, u "()V"), (0, .class_ 8), (0, u "com/example/monarc/monarc/InitialDomain"), (0, .long 1073741823), (10, .fieldref 7 21), (0, .nameAndType 22 23), (0, u "lowest"), (0, u "I"), (0, .fieldref 7 25), (0, .nameAndType 26 23), (0, u "size"), (0, .fieldref 7 28), (0, .nameAndType 29 30), (0, u "values"), (0, u "[I"), (3, .methodref 7 35), (0, .nameAndType 5 36), (0, u "(IJ[I)V"), (25, u "range"), (0, u "(II)Lcom/example/monarc/monarc/InitialDomain;"), (8, .long 18446744071562067968), (1, .long 2147483648), (1, .methodref 77 78), (0, .class_ 79), (0, .nameAndType 80 81), (0, u "java/lang/Math"), (0, u "min"), (0, u "(JJ)J"), (0, .methodref 77 83), (0, .nameAndType 84 81), (0, u "max"), (0, .long 2147483647), (3, u "firstAtLeast"), (0, u "(J)I"), (33, u "MOST_VALUES"), (6, u "()I")] 35

def k2c0 : Code := { maxStack := 4, maxLocals := 5, code := prog_20_method_1_code, exceptionTable := #[], attributes := #[] }
def k2m0 : Method := { name := "<init>", desc := "(IJ[I)V", sig := { parameters := [.int, .long, (.array .int)], returnType := none }, accessFlags := 2, code := some k2c0 }
def k2c1 : Code := { maxStack := 7, maxLocals := 2, code := prog_20_method_2_code, exceptionTable := #[], attributes := #[] }
def k2m1 : Method := { name := "range", desc := "(II)Lcom/example/monarc/monarc/InitialDomain;", sig := { parameters := [.int, .int], returnType := some (.object "com/example/monarc/monarc/InitialDomain") }, accessFlags := 9, code := some k2c1 }
def k2c2 : Code := { maxStack := 1, maxLocals := 1, code := prog_20_method_5_code, exceptionTable := #[], attributes := #[] }
def k2m2 : Method := { name := "size", desc := "()I", sig := { parameters := [], returnType := some .int }, accessFlags := 0, code := some k2c2 }
def k2c3 : Code := { maxStack := 8, maxLocals := 6, code := prog_20_method_8_code, exceptionTable := #[], attributes := #[] }
def k2m3 : Method := { name := "firstAtLeast", desc := "(J)I", sig := { parameters := [.long], returnType := some .int }, accessFlags := 0, code := some k2c3 }
/-- com/example/monarc/monarc/InitialDomain -/
def k2 : Class := { plain "com/example/monarc/monarc/InitialDomain" (some 0) with
  accessFlags := 49
  interfaces := #[]
  cf := some (fileOf pool2 7 #[] #[{ accessFlags := 2, nameIndex := 5, descriptorIndex := 36, attributes := #[] }, { accessFlags := 9, nameIndex := 62, descriptorIndex := 63, attributes := #[] }, { accessFlags := 0, nameIndex := 26, descriptorIndex := 131, attributes := #[] }, { accessFlags := 0, nameIndex := 89, descriptorIndex := 90, attributes := #[] }] 49 2 #[] #[{ accessFlags := 25, nameIndex := 124, descriptorIndex := 23, attributes := #[] }, { accessFlags := 18, nameIndex := 22, descriptorIndex := 23, attributes := #[] }, { accessFlags := 18, nameIndex := 26, descriptorIndex := 23, attributes := #[] }, { accessFlags := 18, nameIndex := 29, descriptorIndex := 30, attributes := #[] }])
  fields := #[{ name := "MOST_VALUES", type := .int, accessFlags := 25, slot := 0, constantValue := 0 }, { name := "lowest", type := .int, accessFlags := 18, slot := 0, constantValue := 0 }, { name := "size", type := .int, accessFlags := 18, slot := 1, constantValue := 0 }, { name := "values", type := (.array .int), accessFlags := 18, slot := 2, constantValue := 0 }]
  methods := #[k2m0, k2m1, k2m2, k2m3]
  instanceTypes := #[.int, .int, (.array .int)]
  staticTypes := #[.int]
  resolved := Array.replicate 167 none
  statics := none }

def pool3 : Array CpInfo := pool [(1, .methodref 2 3), (0, .class_ 4), (0, .nameAndType 5 6), (0, u "java/lang/Object"), (0, u "<init>"), (0, u "()V"), (0, .class_ 8), (0, u "com/example/monarc/monarc/Term$Constant"), (10, .class_ 21), (1, u "com/example/monarc/monarc/Term"), (74, .class_ 97), (0, u "com/example/monarc/monarc/Term$Call")] 61

def k3c0 : Code := { maxStack := 1, maxLocals := 1, code := prog_70_method_1_code, exceptionTable := #[], attributes := #[] }
def k3m0 : Method := { name := "<init>", desc := "()V", sig := { parameters := [], returnType := none }, accessFlags := 0, code := some k3c0 }
/-- com/example/monarc/monarc/Term -/
def k3 : Class := { plain "com/example/monarc/monarc/Term" (some 0) with
  accessFlags := 1057
  interfaces := #[]
  cf := some (fileOf pool3 19 #[.nestMembers #[96, 7]] #[{ accessFlags := 0, nameIndex := 5, descriptorIndex := 6, attributes := #[] }] 1057 2 #[] #[])
  fields := #[]
  methods := #[k3m0]
  instanceTypes := #[]
  staticTypes := #[]
  resolved := Array.replicate 159 none
  statics := none }

def pool4 : Array CpInfo := pool [(1, .methodref 2 3), (0, .class_ 4), (0, .nameAndType 5 6), (0, u "com/example/monarc/monarc/Term"), (0, u "<init>"), (0, u "()V"), (0, .fieldref 8 9), (0, .class_ 10), (0, .nameAndType 11 12), (0, u "com/example/monarc/monarc/Variable"), (0, u "name"), (0, u "Ljava/lang/String;"), (0, .fieldref 8 14), (0, .nameAndType 15 16), (0, u "index"), (0, u "I"), (0, .fieldref 8 18), (0, .nameAndType 19 20), (0, u "domain"), (0, u "Lcom/example/monarc/monarc/InitialDomain;"), (28, u "(Ljava/lang/String;ILcom/example/monarc/monarc/InitialDomain;)V"), (3, u "()Lcom/example/monarc/monarc/InitialDomain;")] 34

def k4c0 : Code := { maxStack := 2, maxLocals := 4, code := prog_76_method_1_code, exceptionTable := #[], attributes := #[] }
def k4m0 : Method := { name := "<init>", desc := "(Ljava/lang/String;ILcom/example/monarc/monarc/InitialDomain;)V", sig := { parameters := [(.object "java/lang/String"), .int, (.object "com/example/monarc/monarc/InitialDomain")], returnType := none }, accessFlags := 0, code := some k4c0 }
def k4c1 : Code := { maxStack := 1, maxLocals := 1, code := prog_76_method_4_code, exceptionTable := #[], attributes := #[] }
def k4m1 : Method := { name := "domain", desc := "()Lcom/example/monarc/monarc/InitialDomain;", sig := { parameters := [], returnType := some (.object "com/example/monarc/monarc/InitialDomain") }, accessFlags := 0, code := some k4c1 }
/-- com/example/monarc/monarc/Variable -/
def k4 : Class := { plain "com/example/monarc/monarc/Variable" (some 3) with
  accessFlags := 49
  interfaces := #[]
  cf := some (fileOf pool4 8 #[] #[{ accessFlags := 0, nameIndex := 5, descriptorIndex := 49, attributes := #[] }, { accessFlags := 0, nameIndex := 19, descriptorIndex := 53, attributes := #[] }] 49 2 #[] #[{ accessFlags := 18, nameIndex := 11, descriptorIndex := 12, attributes := #[] }, { accessFlags := 18, nameIndex := 15, descriptorIndex := 16, attributes := #[] }, { accessFlags := 18, nameIndex := 19, descriptorIndex := 20, attributes := #[] }])
  fields := #[{ name := "name", type := (.object "java/lang/String"), accessFlags := 18, slot := 0, constantValue := 0 }, { name := "index", type := .int, accessFlags := 18, slot := 1, constantValue := 0 }, { name := "domain", type := (.object "com/example/monarc/monarc/InitialDomain"), accessFlags := 18, slot := 2, constantValue := 0 }]
  methods := #[k4m0, k4m1]
  instanceTypes := #[(.object "java/lang/String"), .int, (.object "com/example/monarc/monarc/InitialDomain")]
  staticTypes := #[]
  resolved := Array.replicate 88 none
  statics := none }

def pool5 : Array CpInfo := pool [(1, .class_ 2), (0, u "java/io/Serializable"), (0, .class_ 4), (0, u "java/lang/Object")] 2

/-- java/io/Serializable -/
def k5 : Class := { plain "java/io/Serializable" (some 0) with
  accessFlags := 1537
  interfaces := #[]
  cf := some (fileOf pool5 1 #[] #[] 1537 3 #[] #[])
  fields := #[]
  methods := #[]
  instanceTypes := #[]
  staticTypes := #[]
  resolved := Array.replicate 7 none
  statics := none }

def pool6 : Array CpInfo := pool [(1, .class_ 2), (0, u "java/lang/Comparable"), (0, .class_ 4), (0, u "java/lang/Object")] 7

/-- java/lang/Comparable -/
def k6 : Class := { plain "java/lang/Comparable" (some 0) with
  accessFlags := 1537
  interfaces := #[]
  cf := some (fileOf pool6 1 #[] #[] 1537 3 #[] #[])
  fields := #[]
  methods := #[]
  instanceTypes := #[]
  staticTypes := #[]
  resolved := Array.replicate 12 none
  statics := none }

def pool7 : Array CpInfo := pool [(2, .class_ 4), (1, u "java/lang/CharSequence"), (42, .class_ 48), (0, u "java/lang/CharSequence$1CodePointIterator"), (10, .class_ 60), (0, u "java/lang/CharSequence$1CharIterator"), (5, .class_ 67), (0, u "java/lang/Object")] 63

/-- java/lang/CharSequence -/
def k7 : Class := { plain "java/lang/CharSequence" (some 0) with
  accessFlags := 1537
  interfaces := #[]
  cf := some (fileOf pool7 2 #[.nestMembers #[47, 59]] #[] 1537 66 #[] #[])
  fields := #[]
  methods := #[]
  instanceTypes := #[]
  staticTypes := #[]
  resolved := Array.replicate 131 none
  statics := none }

def pool8 : Array CpInfo := pool [(1, .class_ 2), (0, u "java/lang/constant/Constable"), (0, .class_ 4), (0, u "java/lang/Object")] 6

/-- java/lang/constant/Constable -/
def k8 : Class := { plain "java/lang/constant/Constable" (some 0) with
  accessFlags := 1537
  interfaces := #[]
  cf := some (fileOf pool8 1 #[] #[] 1537 3 #[] #[])
  fields := #[]
  methods := #[]
  instanceTypes := #[]
  staticTypes := #[]
  resolved := Array.replicate 11 none
  statics := none }

def pool9 : Array CpInfo := pool [(1, .class_ 2), (0, u "java/lang/constant/ConstantDesc"), (0, .class_ 4), (0, u "java/lang/Object")] 32

/-- java/lang/constant/ConstantDesc -/
def k9 : Class := { plain "java/lang/constant/ConstantDesc" (some 0) with
  accessFlags := 1537
  interfaces := #[]
  cf := some (fileOf pool9 1 #[] #[] 1537 3 #[] #[])
  fields := #[]
  methods := #[]
  instanceTypes := #[]
  staticTypes := #[]
  resolved := Array.replicate 37 none
  statics := none }

def pool10 : Array CpInfo := pool [(2, .class_ 4), (1, u "java/lang/Object"), (0, u "<init>"), (0, u "()V"), (3, .class_ 12), (1, u "java/lang/String"), (0, u "value"), (0, u "[B"), (2, u "coder"), (0, u "B"), (2, u "hash"), (0, u "I"), (2, u "hashIsZero"), (0, u "Z"), (13, u "COMPACT_STRINGS"), (534, .class_ 576), (0, u "java/lang/CharSequence"), (22, u "CASE_INSENSITIVE_ORDER"), (0, u "Ljava/util/Comparator;"), (500, u "serialPersistentFields"), (0, u "[Ljava/io/ObjectStreamField;"), (0, .class_ 1104), (0, u "java/lang/String$CaseInsensitiveComparator"), (1, .class_ 1107), (0, u "java/io/Serializable"), (0, .class_ 1109), (0, u "java/lang/Comparable"), (0, .class_ 1111), (0, u "java/lang/constant/Constable"), (0, .class_ 1113), (0, u "java/lang/constant/ConstantDesc"), (2, u "serialVersionUID"), (0, u "J"), (3, u "REPL"), (0, u "C"), (2, u "LATIN1"), (1, u "UTF16")] 323

def k10m0 : Method := { name := "<init>", desc := "()V", sig := { parameters := [], returnType := none }, accessFlags := 1, code := none }
/-- java/lang/String -/
def k10 : Class := { plain "java/lang/String" (some 0) with
  accessFlags := 49
  interfaces := #[5, 6, 7, 8, 9]
  cf := some (fileOf pool10 10 #[.nestMembers #[1103]] #[{ accessFlags := 1, nameIndex := 5, descriptorIndex := 6, attributes := #[] }] 49 2 #[1106, 1108, 575, 1110, 1112] #[{ accessFlags := 18, nameIndex := 13, descriptorIndex := 14, attributes := #[] }, { accessFlags := 18, nameIndex := 17, descriptorIndex := 18, attributes := #[] }, { accessFlags := 2, nameIndex := 21, descriptorIndex := 22, attributes := #[] }, { accessFlags := 2, nameIndex := 25, descriptorIndex := 26, attributes := #[] }, { accessFlags := 26, nameIndex := 1116, descriptorIndex := 1117, attributes := #[] }, { accessFlags := 24, nameIndex := 40, descriptorIndex := 26, attributes := #[] }, { accessFlags := 26, nameIndex := 1101, descriptorIndex := 1102, attributes := #[] }, { accessFlags := 26, nameIndex := 1121, descriptorIndex := 1122, attributes := #[] }, { accessFlags := 25, nameIndex := 599, descriptorIndex := 600, attributes := #[] }, { accessFlags := 24, nameIndex := 1125, descriptorIndex := 18, attributes := #[] }, { accessFlags := 24, nameIndex := 1127, descriptorIndex := 18, attributes := #[] }])
  fields := #[{ name := "value", type := (.array .byte), accessFlags := 18, slot := 0, constantValue := 0 }, { name := "coder", type := .byte, accessFlags := 18, slot := 1, constantValue := 0 }, { name := "hash", type := .int, accessFlags := 2, slot := 2, constantValue := 0 }, { name := "hashIsZero", type := .boolean, accessFlags := 2, slot := 3, constantValue := 0 }, { name := "serialVersionUID", type := .long, accessFlags := 26, slot := 0, constantValue := 0 }, { name := "COMPACT_STRINGS", type := .boolean, accessFlags := 24, slot := 1, constantValue := 0 }, { name := "serialPersistentFields", type := (.array (.object "java/io/ObjectStreamField")), accessFlags := 26, slot := 2, constantValue := 0 }, { name := "REPL", type := .char, accessFlags := 26, slot := 3, constantValue := 0 }, { name := "CASE_INSENSITIVE_ORDER", type := (.object "java/util/Comparator"), accessFlags := 25, slot := 4, constantValue := 0 }, { name := "LATIN1", type := .byte, accessFlags := 24, slot := 5, constantValue := 0 }, { name := "UTF16", type := .byte, accessFlags := 24, slot := 6, constantValue := 0 }]
  methods := #[k10m0]
  instanceTypes := #[(.array .byte), .byte, .int, .boolean]
  staticTypes := #[.long, .boolean, (.array (.object "java/io/ObjectStreamField")), .char, (.object "java/util/Comparator"), .byte, .byte]
  resolved := Array.replicate 1451 none
  statics := none }

def pool11 : Array CpInfo := pool [(8, .class_ 10), (1, u "java/lang/Iterable"), (24, .class_ 36), (0, u "java/lang/Object")] 25

/-- java/lang/Iterable -/
def k11 : Class := { plain "java/lang/Iterable" (some 0) with
  accessFlags := 1537
  interfaces := #[]
  cf := some (fileOf pool11 8 #[] #[] 1537 35 #[] #[])
  fields := #[]
  methods := #[]
  instanceTypes := #[]
  staticTypes := #[]
  resolved := Array.replicate 62 none
  statics := none }

def pool12 : Array CpInfo := pool [(10, .class_ 12), (1, u "java/util/Collection"), (47, .class_ 61), (0, u "java/lang/Object"), (0, .class_ 63), (0, u "java/lang/Iterable")] 51

/-- java/util/Collection -/
def k12 : Class := { plain "java/util/Collection" (some 0) with
  accessFlags := 1537
  interfaces := #[11]
  cf := some (fileOf pool12 10 #[] #[] 1537 60 #[62] #[])
  fields := #[]
  methods := #[]
  instanceTypes := #[]
  staticTypes := #[]
  resolved := Array.replicate 115 none
  statics := none }

def pool13 : Array CpInfo := pool [(1, .methodref 2 3), (0, .class_ 4), (0, .nameAndType 5 6), (0, u "java/lang/Object"), (0, u "<init>"), (0, u "()V"), (1, .class_ 10), (1, u "java/util/AbstractCollection"), (66, .class_ 78), (0, u "java/util/Collection")] 81

def k13c0 : Code := { maxStack := 1, maxLocals := 1, code := jdk_22_method_1_code, exceptionTable := #[], attributes := #[] }
def k13m0 : Method := { name := "<init>", desc := "()V", sig := { parameters := [], returnType := none }, accessFlags := 4, code := some k13c0 }
/-- java/util/AbstractCollection -/
def k13 : Class := { plain "java/util/AbstractCollection" (some 0) with
  accessFlags := 1057
  interfaces := #[12]
  cf := some (fileOf pool13 8 #[] #[{ accessFlags := 4, nameIndex := 5, descriptorIndex := 6, attributes := #[] }] 1057 2 #[77] #[])
  fields := #[]
  methods := #[k13m0]
  instanceTypes := #[]
  staticTypes := #[]
  resolved := Array.replicate 160 none
  statics := none }

def pool14 : Array CpInfo := pool [(8, .class_ 10), (1, u "java/util/SequencedCollection"), (15, .class_ 27), (0, u "java/lang/Object"), (0, .class_ 29), (0, u "java/util/Collection")] 27

/-- java/util/SequencedCollection -/
def k14 : Class := { plain "java/util/SequencedCollection" (some 0) with
  accessFlags := 1537
  interfaces := #[12]
  cf := some (fileOf pool14 8 #[] #[] 1537 26 #[28] #[])
  fields := #[]
  methods := #[]
  instanceTypes := #[]
  staticTypes := #[]
  resolved := Array.replicate 57 none
  statics := none }

def pool15 : Array CpInfo := pool [(8, .class_ 10), (1, u "java/util/List"), (64, u "get"), (0, u "(I)Ljava/lang/Object;"), (2, u "size"), (0, u "()I"), (22, .class_ 104), (0, u "java/lang/Object"), (15, .class_ 121), (0, u "java/util/SequencedCollection")] 129

def k15m0 : Method := { name := "size", desc := "()I", sig := { parameters := [], returnType := some .int }, accessFlags := 1025, code := none }
def k15m1 : Method := { name := "get", desc := "(I)Ljava/lang/Object;", sig := { parameters := [.int], returnType := some (.object "java/lang/Object") }, accessFlags := 1025, code := none }
/-- java/util/List -/
def k15 : Class := { plain "java/util/List" (some 0) with
  accessFlags := 1537
  interfaces := #[14]
  cf := some (fileOf pool15 8 #[] #[{ accessFlags := 1025, nameIndex := 79, descriptorIndex := 80, attributes := #[] }, { accessFlags := 1025, nameIndex := 75, descriptorIndex := 76, attributes := #[] }] 1537 103 #[120] #[])
  fields := #[]
  methods := #[k15m0, k15m1]
  instanceTypes := #[]
  staticTypes := #[]
  resolved := Array.replicate 251 none
  statics := none }

def pool16 : Array CpInfo := pool [(1, .methodref 2 3), (0, .class_ 4), (0, .nameAndType 5 6), (0, u "java/util/AbstractCollection"), (0, u "<init>"), (0, u "()V"), (0, .fieldref 8 9), (0, .class_ 10), (0, .nameAndType 11 12), (0, u "java/util/AbstractList"), (0, u "modCount"), (0, u "I"), (64, .class_ 78), (0, u "java/util/AbstractList$Itr"), (3, .class_ 83), (0, u "java/util/AbstractList$ListItr"), (9, .class_ 94), (0, u "java/util/AbstractList$RandomAccessSubList"), (3, .class_ 99), (0, u "java/util/AbstractList$SubList"), (33, .class_ 134), (0, u "java/util/List"), (73, .class_ 209), (0, u "java/util/AbstractList$SubList$1"), (0, .class_ 211), (0, u "java/util/AbstractList$RandomAccessSpliterator")] 6

def k16c0 : Code := { maxStack := 2, maxLocals := 1, code := jdk_39_method_1_code, exceptionTable := #[], attributes := #[] }
def k16m0 : Method := { name := "<init>", desc := "()V", sig := { parameters := [], returnType := none }, accessFlags := 4, code := some k16c0 }
/-- java/util/AbstractList -/
def k16 : Class := { plain "java/util/AbstractList" (some 13) with
  accessFlags := 1057
  interfaces := #[15]
  cf := some (fileOf pool16 8 #[.nestMembers #[93, 98, 208, 210, 82, 77]] #[{ accessFlags := 4, nameIndex := 5, descriptorIndex := 6, attributes := #[] }] 1057 2 #[133] #[{ accessFlags := 132, nameIndex := 11, descriptorIndex := 12, attributes := #[] }])
  fields := #[{ name := "modCount", type := .int, accessFlags := 132, slot := 0, constantValue := 0 }]
  methods := #[k16m0]
  instanceTypes := #[.int]
  staticTypes := #[]
  resolved := Array.replicate 218 none
  statics := none }

def pool17 : Array CpInfo := pool [(1, .class_ 2), (0, u "java/util/RandomAccess"), (0, .class_ 4), (0, u "java/lang/Object")] 2

/-- java/util/RandomAccess -/
def k17 : Class := { plain "java/util/RandomAccess" (some 0) with
  accessFlags := 1537
  interfaces := #[]
  cf := some (fileOf pool17 1 #[] #[] 1537 3 #[] #[])
  fields := #[]
  methods := #[]
  instanceTypes := #[]
  staticTypes := #[]
  resolved := Array.replicate 7 none
  statics := none }

def pool18 : Array CpInfo := pool [(1, .class_ 2), (0, u "java/lang/Cloneable"), (0, .class_ 4), (0, u "java/lang/Object")] 2

/-- java/lang/Cloneable -/
def k18 : Class := { plain "java/lang/Cloneable" (some 0) with
  accessFlags := 1537
  interfaces := #[]
  cf := some (fileOf pool18 1 #[] #[] 1537 3 #[] #[])
  fields := #[]
  methods := #[]
  instanceTypes := #[]
  staticTypes := #[]
  resolved := Array.replicate 7 none
  statics := none }

def pool19 : Array CpInfo := pool [(1, .methodref 2 3), (0, .class_ 4), (0, .nameAndType 5 6), (0, u "java/util/AbstractList"), (0, u "<init>"), (0, u "()V"), (0, .class_ 8), (0, u "java/lang/Object"), (0, .fieldref 10 11), (0, .class_ 12), (0, .nameAndType 13 14), (0, u "java/util/ArrayList"), (0, u "elementData"), (0, u "[Ljava/lang/Object;"), (2, u "EMPTY_ELEMENTDATA"), (21, .fieldref 10 40), (0, .nameAndType 41 14), (0, u "DEFAULTCAPACITY_EMPTY_ELEMENTDATA"), (5, u "()[Ljava/lang/Object;"), (0, .fieldref 10 49), (0, .nameAndType 50 51), (0, u "size"), (0, u "I"), (11, .fieldref 10 64), (0, .nameAndType 65 51), (0, u "modCount"), (3, .methodref 10 70), (0, .nameAndType 71 72), (0, u "grow"), (0, u "(I)[Ljava/lang/Object;"), (6, .methodref 80 81), (0, .class_ 82), (0, .nameAndType 83 84), (0, u "java/lang/Math"), (0, u "max"), (0, u "(II)I"), (11, u "(Ljava/lang/Object;)Z"), (21, .methodref 119 120), (0, .class_ 121), (0, .nameAndType 122 84), (0, u "java/util/Objects"), (0, u "checkIndex"), (0, .methodref 10 124), (0, .nameAndType 13 125), (0, u "(I)Ljava/lang/Object;"), (3, .methodref 10 130), (0, .nameAndType 71 47), (0, .methodref 10 132), (0, .nameAndType 133 134), (0, u "add"), (0, u "(Ljava/lang/Object;[Ljava/lang/Object;I)V"), (13, .class_ 149), (0, u "java/util/List"), (36, u "()I"), (75, .class_ 263), (0, u "java/util/ArrayList$ListItr"), (3, .class_ 268), (0, u "java/util/ArrayList$Itr"), (7, .class_ 277), (0, u "java/util/ArrayList$SubList"), (12, .class_ 291), (0, u "java/util/ArrayList$ArrayListSpliterator"), (37, .class_ 330), (0, u "java/util/RandomAccess"), (0, .class_ 332), (0, u "java/lang/Cloneable"), (0, .class_ 334), (0, u "java/io/Serializable"), (0, u "serialVersionUID"), (0, u "J"), (3, u "DEFAULT_CAPACITY"), (40, u "get"), (118, .class_ 501), (0, u "java/util/ArrayList$SubList$2"), (0, .class_ 503), (0, u "java/util/ArrayList$SubList$1")] 5

def k19c0 : Code := { maxStack := 2, maxLocals := 1, code := jdk_38_method_2_code, exceptionTable := #[], attributes := #[] }
def k19m0 : Method := { name := "<init>", desc := "()V", sig := { parameters := [], returnType := none }, accessFlags := 1, code := some k19c0 }
def k19c1 : Code := { maxStack := 4, maxLocals := 4, code := jdk_38_method_6_code, exceptionTable := #[], attributes := #[] }
def k19m1 : Method := { name := "grow", desc := "(I)[Ljava/lang/Object;", sig := { parameters := [.int], returnType := some (.array (.object "java/lang/Object")) }, accessFlags := 2, code := some k19c1 }
def k19c2 : Code := { maxStack := 3, maxLocals := 1, code := jdk_38_method_7_code, exceptionTable := #[], attributes := #[] }
def k19m2 : Method := { name := "grow", desc := "()[Ljava/lang/Object;", sig := { parameters := [], returnType := some (.array (.object "java/lang/Object")) }, accessFlags := 2, code := some k19c2 }
def k19c3 : Code := { maxStack := 1, maxLocals := 1, code := jdk_38_method_8_code, exceptionTable := #[], attributes := #[] }
def k19m3 : Method := { name := "size", desc := "()I", sig := { parameters := [], returnType := some .int }, accessFlags := 1, code := some k19c3 }
def k19c4 : Code := { maxStack := 2, maxLocals := 2, code := jdk_38_method_18_code, exceptionTable := #[], attributes := #[] }
def k19m4 : Method := { name := "elementData", desc := "(I)Ljava/lang/Object;", sig := { parameters := [.int], returnType := some (.object "java/lang/Object") }, accessFlags := 0, code := some k19c4 }
def k19c5 : Code := { maxStack := 2, maxLocals := 2, code := jdk_38_method_20_code, exceptionTable := #[], attributes := #[] }
def k19m5 : Method := { name := "get", desc := "(I)Ljava/lang/Object;", sig := { parameters := [.int], returnType := some (.object "java/lang/Object") }, accessFlags := 1, code := some k19c5 }
def k19c6 : Code := { maxStack := 3, maxLocals := 4, code := jdk_38_method_24_code, exceptionTable := #[], attributes := #[] }
def k19m6 : Method := { name := "add", desc := "(Ljava/lang/Object;[Ljava/lang/Object;I)V", sig := { parameters := [(.object "java/lang/Object"), (.array (.object "java/lang/Object")), .int], returnType := none }, accessFlags := 2, code := some k19c6 }
def k19c7 : Code := { maxStack := 4, maxLocals := 2, code := jdk_38_method_25_code, exceptionTable := #[], attributes := #[] }
def k19m7 : Method := { name := "add", desc := "(Ljava/lang/Object;)Z", sig := { parameters := [(.object "java/lang/Object")], returnType := some .boolean }, accessFlags := 1, code := some k19c7 }
/-- java/util/ArrayList -/
def k19 : Class := { plain "java/util/ArrayList" (some 16) with
  accessFlags := 33
  interfaces := #[15, 17, 18, 5]
  cf := some (fileOf pool19 10 #[.nestMembers #[290, 276, 500, 502, 262, 267]] #[{ accessFlags := 1, nameIndex := 5, descriptorIndex := 6, attributes := #[] }, { accessFlags := 2, nameIndex := 71, descriptorIndex := 72, attributes := #[] }, { accessFlags := 2, nameIndex := 71, descriptorIndex := 47, attributes := #[] }, { accessFlags := 1, nameIndex := 50, descriptorIndex := 186, attributes := #[] }, { accessFlags := 0, nameIndex := 13, descriptorIndex := 125, attributes := #[] }, { accessFlags := 1, nameIndex := 381, descriptorIndex := 125, attributes := #[] }, { accessFlags := 2, nameIndex := 133, descriptorIndex := 134, attributes := #[] }, { accessFlags := 1, nameIndex := 133, descriptorIndex := 96, attributes := #[] }] 33 2 #[148, 329, 331, 333] #[{ accessFlags := 26, nameIndex := 335, descriptorIndex := 336, attributes := #[] }, { accessFlags := 26, nameIndex := 340, descriptorIndex := 51, attributes := #[] }, { accessFlags := 26, nameIndex := 17, descriptorIndex := 14, attributes := #[] }, { accessFlags := 26, nameIndex := 41, descriptorIndex := 14, attributes := #[] }, { accessFlags := 128, nameIndex := 13, descriptorIndex := 14, attributes := #[] }, { accessFlags := 2, nameIndex := 50, descriptorIndex := 51, attributes := #[] }])
  fields := #[{ name := "serialVersionUID", type := .long, accessFlags := 26, slot := 0, constantValue := 0 }, { name := "DEFAULT_CAPACITY", type := .int, accessFlags := 26, slot := 1, constantValue := 0 }, { name := "EMPTY_ELEMENTDATA", type := (.array (.object "java/lang/Object")), accessFlags := 26, slot := 2, constantValue := 0 }, { name := "DEFAULTCAPACITY_EMPTY_ELEMENTDATA", type := (.array (.object "java/lang/Object")), accessFlags := 26, slot := 3, constantValue := 0 }, { name := "elementData", type := (.array (.object "java/lang/Object")), accessFlags := 128, slot := 1, constantValue := 0 }, { name := "size", type := .int, accessFlags := 2, slot := 2, constantValue := 0 }]
  methods := #[k19m0, k19m1, k19m2, k19m3, k19m4, k19m5, k19m6, k19m7]
  instanceTypes := #[.int, (.array (.object "java/lang/Object")), .int]
  staticTypes := #[.long, .int, (.array (.object "java/lang/Object")), (.array (.object "java/lang/Object"))]
  resolved := Array.replicate 509 none
  statics := some 0 }

def pool20 : Array CpInfo := pool [(1, .class_ 2), (0, u "com/example/monarc/monarc/Domains"), (0, .methodref 4 5), (0, .class_ 6), (0, .nameAndType 7 8), (0, u "java/lang/Object"), (0, u "<init>"), (0, u "()V"), (0, .fieldref 1 10), (0, .nameAndType 11 12), (0, u "trail"), (0, u "[J"), (0, .fieldref 1 14), (0, .nameAndType 15 16), (0, u "marks"), (0, u "[I"), (0, .interfaceMethodref 18 19), (0, .class_ 20), (0, .nameAndType 21 22), (0, u "java/util/List"), (0, u "size"), (0, u "()I"), (0, .class_ 24), (0, u "com/example/monarc/monarc/InitialDomain"), (0, .fieldref 1 26), (0, .nameAndType 27 28), (0, u "initial"), (0, u "[Lcom/example/monarc/monarc/InitialDomain;"), (0, .fieldref 1 30), (0, .nameAndType 31 16), (0, u "lower"), (0, .fieldref 1 33), (0, .nameAndType 34 16), (0, u "upper"), (0, .class_ 12), (0, .fieldref 1 37), (0, .nameAndType 38 39), (0, u "holes"), (0, u "[[J"), (0, .fieldref 1 41), (0, .nameAndType 42 16), (0, u "sizes"), (0, .interfaceMethodref 18 44), (0, .nameAndType 45 46), (0, u "get"), (0, u "(I)Ljava/lang/Object;"), (0, .class_ 48), (0, u "com/example/monarc/monarc/Variable"), (0, .methodref 47 50), (0, .nameAndType 51 52), (0, u "domain"), (0, u "()Lcom/example/monarc/monarc/InitialDomain;"), (0, .methodref 23 19), (0, .fieldref 1 55), (0, .nameAndType 56 57), (0, u "withOneValue"), (0, u "I"), (10, u "(II)I"), (2, .methodref 72 73), (0, .class_ 74), (0, .nameAndType 75 68), (0, u "java/lang/Math"), (0, u "max"), (6, .long 18446744073709551615), (1, .methodref 1 85), (0, .nameAndType 86 68), (0, u "leftFrom"), (10, u "(J)I"), (6, .fieldref 1 105), (0, .nameAndType 106 107), (0, u "resized"), (0, u "Ljava/util/function/IntConsumer;"), (8, u "takenBack"), (0, .methodref 1 118), (0, .nameAndType 119 120), (0, u "raiseLower"), (0, u "(II)V"), (9, .methodref 1 131), (0, .nameAndType 132 120), (0, u "resize"), (0, .methodref 1 134), (0, .nameAndType 135 136), (0, u "record"), (0, u "(III)V"), (0, .methodref 23 138), (0, .nameAndType 139 97), (0, u "firstAtLeast"), (3, .methodref 1 144), (0, .nameAndType 145 146), (0, u "countNotHoles"), (0, u "(III)I"), (0, .fieldref 1 148), (0, .nameAndType 149 57), (0, u "trailSize"), (11, u "depth"), (3, u "HOLE"), (2, u "LOWER"), (1, u "UPPER"), (1, u "POSITION_BITS"), (1, u "POSITION_MASK"), (0, u "(Ljava/util/List;)V"), (7, u "totalSize"), (0, u "()J"), (14, u "removeBelow"), (0, u "(IJ)V")] 8

def k20c0 : Code := { maxStack := 4, maxLocals := 4, code := prog_11_method_1_code, exceptionTable := #[], attributes := #[] }
def k20m0 : Method := { name := "<init>", desc := "(Ljava/util/List;)V", sig := { parameters := [(.object "java/util/List")], returnType := none }, accessFlags := 0, code := some k20c0 }
def k20c1 : Code := { maxStack := 4, maxLocals := 7, code := prog_11_method_5_code, exceptionTable := #[], attributes := #[] }
def k20m1 : Method := { name := "totalSize", desc := "()J", sig := { parameters := [], returnType := some .long }, accessFlags := 0, code := some k20c1 }
def k20c2 : Code := { maxStack := 5, maxLocals := 7, code := prog_11_method_14_code, exceptionTable := #[], attributes := #[] }
def k20m2 : Method := { name := "leftFrom", desc := "(II)I", sig := { parameters := [.int, .int], returnType := some .int }, accessFlags := 2, code := some k20c2 }
def k20c3 : Code := { maxStack := 5, maxLocals := 13, code := prog_11_method_16_code, exceptionTable := #[], attributes := #[] }
def k20m3 : Method := { name := "countNotHoles", desc := "(III)I", sig := { parameters := [.int, .int, .int], returnType := some .int }, accessFlags := 2, code := some k20c3 }
def k20c4 : Code := { maxStack := 3, maxLocals := 5, code := prog_11_method_20_code, exceptionTable := #[], attributes := #[] }
def k20m4 : Method := { name := "removeBelow", desc := "(IJ)V", sig := { parameters := [.int, .long], returnType := none }, accessFlags := 0, code := some k20c4 }
def k20c5 : Code := { maxStack := 7, maxLocals := 5, code := prog_11_method_23_code, exceptionTable := #[], attributes := #[] }
def k20m5 : Method := { name := "raiseLower", desc := "(II)V", sig := { parameters := [.int, .int], returnType := none }, accessFlags := 2, code := some k20c5 }
def k20c6 : Code := { maxStack := 5, maxLocals := 3, code := prog_11_method_25_code, exceptionTable := #[], attributes := #[] }
def k20m6 : Method := { name := "resize", desc := "(II)V", sig := { parameters := [.int, .int], returnType := none }, accessFlags := 2, code := some k20c6 }
def k20c7 : Code := { maxStack := 7, maxLocals := 4, code := prog_11_method_26_code, exceptionTable := #[], attributes := #[] }
def k20m7 : Method := { name := "record", desc := "(III)V", sig := { parameters := [.int, .int, .int], returnType := none }, accessFlags := 2, code := some k20c7 }
/-- com/example/monarc/monarc/Domains -/
def k20 : Class := { plain "com/example/monarc/monarc/Domains" (some 0) with
  accessFlags := 48
  interfaces := #[]
  cf := some (fileOf pool20 1 #[] #[{ accessFlags := 0, nameIndex := 7, descriptorIndex := 175, attributes := #[] }, { accessFlags := 0, nameIndex := 183, descriptorIndex := 184, attributes := #[] }, { accessFlags := 2, nameIndex := 86, descriptorIndex := 68, attributes := #[] }, { accessFlags := 2, nameIndex := 145, descriptorIndex := 146, attributes := #[] }, { accessFlags := 0, nameIndex := 199, descriptorIndex := 200, attributes := #[] }, { accessFlags := 2, nameIndex := 119, descriptorIndex := 120, attributes := #[] }, { accessFlags := 2, nameIndex := 132, descriptorIndex := 120, attributes := #[] }, { accessFlags := 2, nameIndex := 135, descriptorIndex := 136, attributes := #[] }] 48 4 #[] #[{ accessFlags := 26, nameIndex := 165, descriptorIndex := 57, attributes := #[] }, { accessFlags := 26, nameIndex := 168, descriptorIndex := 57, attributes := #[] }, { accessFlags := 26, nameIndex := 170, descriptorIndex := 57, attributes := #[] }, { accessFlags := 26, nameIndex := 172, descriptorIndex := 57, attributes := #[] }, { accessFlags := 26, nameIndex := 174, descriptorIndex := 57, attributes := #[] }, { accessFlags := 18, nameIndex := 27, descriptorIndex := 28, attributes := #[] }, { accessFlags := 18, nameIndex := 31, descriptorIndex := 16, attributes := #[] }, { accessFlags := 18, nameIndex := 34, descriptorIndex := 16, attributes := #[] }, { accessFlags := 18, nameIndex := 38, descriptorIndex := 39, attributes := #[] }, { accessFlags := 18, nameIndex := 42, descriptorIndex := 16, attributes := #[] }, { accessFlags := 2, nameIndex := 56, descriptorIndex := 57, attributes := #[] }, { accessFlags := 2, nameIndex := 11, descriptorIndex := 12, attributes := #[] }, { accessFlags := 2, nameIndex := 149, descriptorIndex := 57, attributes := #[] }, { accessFlags := 2, nameIndex := 15, descriptorIndex := 16, attributes := #[] }, { accessFlags := 2, nameIndex := 161, descriptorIndex := 57, attributes := #[] }, { accessFlags := 2, nameIndex := 106, descriptorIndex := 107, attributes := #[] }, { accessFlags := 2, nameIndex := 116, descriptorIndex := 107, attributes := #[] }])
  fields := #[{ name := "HOLE", type := .int, accessFlags := 26, slot := 0, constantValue := 0 }, { name := "LOWER", type := .int, accessFlags := 26, slot := 1, constantValue := 0 }, { name := "UPPER", type := .int, accessFlags := 26, slot := 2, constantValue := 0 }, { name := "POSITION_BITS", type := .int, accessFlags := 26, slot := 3, constantValue := 0 }, { name := "POSITION_MASK", type := .int, accessFlags := 26, slot := 4, constantValue := 0 }, { name := "initial", type := (.array (.object "com/example/monarc/monarc/InitialDomain")), accessFlags := 18, slot := 0, constantValue := 0 }, { name := "lower", type := (.array .int), accessFlags := 18, slot := 1, constantValue := 0 }, { name := "upper", type := (.array .int), accessFlags := 18, slot := 2, constantValue := 0 }, { name := "holes", type := (.array (.array .long)), accessFlags := 18, slot := 3, constantValue := 0 }, { name := "sizes", type := (.array .int), accessFlags := 18, slot := 4, constantValue := 0 }, { name := "withOneValue", type := .int, accessFlags := 2, slot := 5, constantValue := 0 }, { name := "trail", type := (.array .long), accessFlags := 2, slot := 6, constantValue := 0 }, { name := "trailSize", type := .int, accessFlags := 2, slot := 7, constantValue := 0 }, { name := "marks", type := (.array .int), accessFlags := 2, slot := 8, constantValue := 0 }, { name := "depth", type := .int, accessFlags := 2, slot := 9, constantValue := 0 }, { name := "resized", type := (.object "java/util/function/IntConsumer"), accessFlags := 2, slot := 10, constantValue := 0 }, { name := "takenBack", type := (.object "java/util/function/IntConsumer"), accessFlags := 2, slot := 11, constantValue := 0 }]
  methods := #[k20m0, k20m1, k20m2, k20m3, k20m4, k20m5, k20m6, k20m7]
  instanceTypes := #[(.array (.object "com/example/monarc/monarc/InitialDomain")), (.array .int), (.array .int), (.array (.array .long)), (.array .int), .int, (.array .long), .int, (.array .int), .int, (.object "java/util/function/IntConsumer"), (.object "java/util/function/IntConsumer")]
  staticTypes := #[.int, .int, .int, .int, .int]
  resolved := Array.replicate 209 none
  statics := none }

def pool21 : Array CpInfo := pool [(1, .class_ 2), (0, u "java/lang/Math"), (1, .class_ 6), (1, u "java/lang/Object"), (0, u "<init>"), (0, u "()V"), (89, .class_ 100), (1, u "java/lang/Math$RandomNumberGeneratorHolder"), (20, u "(JJ)J"), (50, u "negativeZeroFloatBits"), (0, u "J"), (2, u "negativeZeroDoubleBits"), (21, u "max"), (2, u "min"), (43, u "$assertionsDisabled"), (0, u "Z"), (88, u "(II)I"), (2, u "twoToTheDoubleScaleDown"), (0, u "D"), (4, u "twoToTheDoubleScaleUp"), (9, u "E"), (3, u "PI"), (2, u "TAU"), (2, u "DEGREES_TO_RADIANS"), (0, u "RADIANS_TO_DEGREES")] 94

def k21m0 : Method := { name := "<init>", desc := "()V", sig := { parameters := [], returnType := none }, accessFlags := 2, code := none }
def k21c1 : Code := { maxStack := 2, maxLocals := 2, code := jdk_29_method_65_code, exceptionTable := #[], attributes := #[] }
def k21m1 : Method := { name := "max", desc := "(II)I", sig := { parameters := [.int, .int], returnType := some .int }, accessFlags := 9, code := some k21c1 }
def k21c2 : Code := { maxStack := 4, maxLocals := 4, code := jdk_29_method_66_code, exceptionTable := #[], attributes := #[] }
def k21m2 : Method := { name := "max", desc := "(JJ)J", sig := { parameters := [.long, .long], returnType := some .long }, accessFlags := 9, code := some k21c2 }
def k21c3 : Code := { maxStack := 4, maxLocals := 4, code := jdk_29_method_70_code, exceptionTable := #[], attributes := #[] }
def k21m3 : Method := { name := "min", desc := "(JJ)J", sig := { parameters := [.long, .long], returnType := some .long }, accessFlags := 9, code := some k21c3 }
/-- java/lang/Math -/
def k21 : Class := { plain "java/lang/Math" (some 0) with
  accessFlags := 49
  interfaces := #[]
  cf := some (fileOf pool21 1 #[.nestMembers #[98]] #[{ accessFlags := 2, nameIndex := 7, descriptorIndex := 8, attributes := #[] }, { accessFlags := 9, nameIndex := 198, descriptorIndex := 335, attributes := #[] }, { accessFlags := 9, nameIndex := 198, descriptorIndex := 121, attributes := #[] }, { accessFlags := 9, nameIndex := 201, descriptorIndex := 121, attributes := #[] }] 49 4 #[] #[{ accessFlags := 25, nameIndex := 354, descriptorIndex := 339, attributes := #[] }, { accessFlags := 25, nameIndex := 358, descriptorIndex := 339, attributes := #[] }, { accessFlags := 25, nameIndex := 361, descriptorIndex := 339, attributes := #[] }, { accessFlags := 26, nameIndex := 364, descriptorIndex := 339, attributes := #[] }, { accessFlags := 26, nameIndex := 365, descriptorIndex := 339, attributes := #[] }, { accessFlags := 26, nameIndex := 172, descriptorIndex := 173, attributes := #[] }, { accessFlags := 26, nameIndex := 176, descriptorIndex := 173, attributes := #[] }, { accessFlags := 8, nameIndex := 344, descriptorIndex := 339, attributes := #[] }, { accessFlags := 8, nameIndex := 338, descriptorIndex := 339, attributes := #[] }, { accessFlags := 4120, nameIndex := 245, descriptorIndex := 246, attributes := #[] }])
  fields := #[{ name := "E", type := .double, accessFlags := 25, slot := 0, constantValue := 0 }, { name := "PI", type := .double, accessFlags := 25, slot := 1, constantValue := 0 }, { name := "TAU", type := .double, accessFlags := 25, slot := 2, constantValue := 0 }, { name := "DEGREES_TO_RADIANS", type := .double, accessFlags := 26, slot := 3, constantValue := 0 }, { name := "RADIANS_TO_DEGREES", type := .double, accessFlags := 26, slot := 4, constantValue := 0 }, { name := "negativeZeroFloatBits", type := .long, accessFlags := 26, slot := 5, constantValue := 0 }, { name := "negativeZeroDoubleBits", type := .long, accessFlags := 26, slot := 6, constantValue := 0 }, { name := "twoToTheDoubleScaleUp", type := .double, accessFlags := 8, slot := 7, constantValue := 0 }, { name := "twoToTheDoubleScaleDown", type := .double, accessFlags := 8, slot := 8, constantValue := 0 }, { name := "$assertionsDisabled", type := .boolean, accessFlags := 4120, slot := 9, constantValue := 0 }]
  methods := #[k21m0, k21m1, k21m2, k21m3]
  instanceTypes := #[]
  staticTypes := #[.double, .double, .double, .double, .double, .long, .long, .double, .double, .boolean]
  resolved := Array.replicate 460 none
  statics := none }

def pool22 : Array CpInfo := pool [(2, .class_ 4), (1, u "java/lang/Object"), (0, u "<init>"), (0, u "()V"), (35, .class_ 44), (1, u "java/util/Objects"), (60, .methodref 106 107), (0, .class_ 108), (0, .nameAndType 109 110), (0, u "jdk/internal/util/Preconditions"), (0, u "checkIndex"), (0, u "(IILjava/util/function/BiFunction;)I"), (60, u "(II)I")] 12

def k22m0 : Method := { name := "<init>", desc := "()V", sig := { parameters := [], returnType := none }, accessFlags := 2, code := none }
def k22c1 : Code := { maxStack := 3, maxLocals := 2, code := jdk_31_method_17_code, exceptionTable := #[], attributes := #[] }
def k22m1 : Method := { name := "checkIndex", desc := "(II)I", sig := { parameters := [.int, .int], returnType := some .int }, accessFlags := 9, code := some k22c1 }
/-- java/util/Objects -/
def k22 : Class := { plain "java/util/Objects" (some 0) with
  accessFlags := 49
  interfaces := #[]
  cf := some (fileOf pool22 42 #[] #[{ accessFlags := 2, nameIndex := 5, descriptorIndex := 6, attributes := #[] }, { accessFlags := 9, nameIndex := 109, descriptorIndex := 171, attributes := #[] }] 49 2 #[] #[])
  fields := #[]
  methods := #[k22m0, k22m1]
  instanceTypes := #[]
  staticTypes := #[]
  resolved := Array.replicate 184 none
  statics := none }

def pool23 : Array CpInfo := pool [(2, .class_ 4), (1, u "java/lang/Object"), (0, u "<init>"), (0, u "()V"), (17, .class_ 26), (1, u "jdk/internal/util/Preconditions"), (6, u "checkIndex"), (21, .class_ 56), (0, u "jdk/internal/util/Preconditions$4"), (57, .class_ 115), (0, u "jdk/internal/util/Preconditions$1"), (7, u "SIOOBE_FORMATTER"), (0, u "Ljava/util/function/BiFunction;"), (0, .class_ 126), (0, u "jdk/internal/util/Preconditions$2"), (3, u "AIOOBE_FORMATTER"), (0, .class_ 132), (0, u "jdk/internal/util/Preconditions$3"), (3, u "IOOBE_FORMATTER"), (41, u "(IILjava/util/function/BiFunction;)I")] 15

def k23m0 : Method := { name := "<init>", desc := "()V", sig := { parameters := [], returnType := none }, accessFlags := 1, code := none }
def k23c1 : Code := { maxStack := 3, maxLocals := 3, code := jdk_41_method_11_code, exceptionTable := #[], attributes := #[] }
def k23m1 : Method := { name := "checkIndex", desc := "(IILjava/util/function/BiFunction;)I", sig := { parameters := [.int, .int, (.object "java/util/function/BiFunction")], returnType := some .int }, accessFlags := 9, code := some k23c1 }
/-- jdk/internal/util/Preconditions -/
def k23 : Class := { plain "jdk/internal/util/Preconditions" (some 0) with
  accessFlags := 33
  interfaces := #[]
  cf := some (fileOf pool23 24 #[.nestMembers #[55, 131, 125, 114]] #[{ accessFlags := 1, nameIndex := 5, descriptorIndex := 6, attributes := #[] }, { accessFlags := 9, nameIndex := 33, descriptorIndex := 178, attributes := #[] }] 33 2 #[] #[{ accessFlags := 25, nameIndex := 123, descriptorIndex := 124, attributes := #[] }, { accessFlags := 25, nameIndex := 130, descriptorIndex := 124, attributes := #[] }, { accessFlags := 25, nameIndex := 136, descriptorIndex := 124, attributes := #[] }])
  fields := #[{ name := "SIOOBE_FORMATTER", type := (.object "java/util/function/BiFunction"), accessFlags := 25, slot := 0, constantValue := 0 }, { name := "AIOOBE_FORMATTER", type := (.object "java/util/function/BiFunction"), accessFlags := 25, slot := 1, constantValue := 0 }, { name := "IOOBE_FORMATTER", type := (.object "java/util/function/BiFunction"), accessFlags := 25, slot := 2, constantValue := 0 }]
  methods := #[k23m0, k23m1]
  instanceTypes := #[]
  staticTypes := #[(.object "java/util/function/BiFunction"), (.object "java/util/function/BiFunction"), (.object "java/util/function/BiFunction")]
  resolved := Array.replicate 194 none
  statics := none }

/-- the primitive byte -/
def k24 : Class := { plain "byte" none with kind := .primitive 'B', accessFlags := 0x411 }
/-- [B -/
def k25 : Class := { plain "[B" (some 0) with kind := .array 24 .byte, interfaces := #[18, 5], accessFlags := 1041 }

/-- the primitive int -/
def k26 : Class := { plain "int" none with kind := .primitive 'I', accessFlags := 0x411 }
/-- [I -/
def k27 : Class := { plain "[I" (some 0) with kind := .array 26 .int, interfaces := #[18, 5], accessFlags := 1041 }

/-- the primitive long -/
def k28 : Class := { plain "long" none with kind := .primitive 'J', accessFlags := 0x411 }
/-- [J -/
def k29 : Class := { plain "[J" (some 0) with kind := .array 28 .long, interfaces := #[18, 5], accessFlags := 1041 }

/-- [Lcom/example/monarc/monarc/InitialDomain; -/
def k30 : Class := { plain "[Lcom/example/monarc/monarc/InitialDomain;" (some 0) with kind := .array 2 (.object "com/example/monarc/monarc/InitialDomain"), interfaces := #[18, 5], accessFlags := 1041 }

/-- [Ljava/lang/Object; -/
def k31 : Class := { plain "[Ljava/lang/Object;" (some 0) with kind := .array 0 (.object "java/lang/Object"), interfaces := #[18, 5], accessFlags := 1041 }

/-- [[J -/
def k32 : Class := { plain "[[J" (some 0) with kind := .array 29 (.array .long), interfaces := #[18, 5], accessFlags := 1041 }

def heap : Heap := #[{ cls := 19, slots := #[.long 0, .int 0, .ref 1, .ref 2], vm := .statics 19 },
  { cls := 31, slots := #[], vm := .none },
  { cls := 31, slots := #[], vm := .none }]
def classes : Array Class := #[k0, k1, k2, k3, k4, k5, k6, k7, k8, k9, k10, k11, k12, k13, k14, k15, k16, k17, k18, k19, k20, k21, k22, k23, k24, k25, k26, k27, k28, k29, k30, k31, k32]
def interned : List (Array UInt16 × Addr) := []
def slotsUsed : Nat := 4
def theMethod : MethodId := ⟨1, 2⟩
def args0 : Array Value := #[.int 5, .int 6, .int 7, .long 3, .int 9]
def aboutOver (below : List Frame) : State where
  vm := { classes := classes, interned := interned.toArray }
  heap := heap
  slotsUsed := slotsUsed
  threads := #[{ frames := .invoking theMethod args0 :: below }]
def below0 : List Frame := [.native { method := ⟨0, 0⟩, args := #[] }]
def about1 : State := aboutOver below0
def p0 : Program := .bare "" "" ""
def e0 : Env := launch0.env 0 0 0
theorem w_frames : about1.frames = Frame.invoking theMethod args0 :: below0 := rfl
set_option maxRecDepth 65536 in
theorem w_args : argsFit about1.vm theMethod args0 = true := by decide +kernel
set_option maxRecDepth 65536 in
theorem w_heap : heapFits about1 = true := by decide +kernel
set_option maxRecDepth 65536 in
theorem w_runnable : about1.curStatus? = some .runnable := by decide +kernel
set_option maxRecDepth 65536 in
theorem w_alone : about1.alone = true := by decide +kernel
set_option maxRecDepth 65536 in
theorem w_named : about1.methodNamed? x = some theMethod := by decide +kernel
set_option maxRecDepth 65536 in
theorem w_hears : about1.hears theMethod below0 = true := by decide +kernel
set_option maxRecDepth 65536 in
theorem w_ripe : about1.ripe theMethod args0 below0 = true := by decide +kernel
theorem w_running : about1.status = .running := rfl
set_option maxRecDepth 65536 in
theorem w_room : about1.hasRoom e0.platform room_1 = true :=
  launch0.hasRoom_least _ room_1 (by decide +kernel) (by decide +kernel) (by decide +kernel) (by decide +kernel) (by decide +kernel) (by decide +kernel)
theorem allAtoms_all (ts : List Jvm.Cond) (a : Array Jvm.Value) (st : Jvm.State) : (allAtoms ts).before a st = ts.all (fun c => c.before a st) := by
  induction ts with
  | nil => rfl
  | cons c t ih =>
    show (Jvm.Cond.and c (allAtoms t)).before a st = _
    rw [Jvm.Cond.before_and, ih, List.all_cons]
def words1 : List Jvm.Cond := Jvm.Cond.code x code maxLocals ret :: tables_1
/-- a 'code' word, met by the world's own term for the bytes: nothing is compared byte by byte -/
theorem code_word {y : MethodName} {bytes : ByteArray} {mx : Nat} {rt : Option FieldType} {a : Array Value} {s : State} {m : MethodId} {meth : Method} {c : Code} (h1 : s.methodNamed? y = some m) (h2 : s.vm.method? m = some meth) (h3 : meth.code = some c) (h4 : c.code = bytes)
    (h5 : (c.maxLocals == mx && c.exceptionTable.isEmpty && decide (c.maxStack ≤ mostOperands) && decide (meth.sig.returnType = rt) && !meth.locks && decide (parseMethodDescriptor y.desc = some meth.sig)) = true) : (Jvm.Cond.code y bytes mx rt).before a s = true := by
  simp only [Bool.and_eq_true, beq_iff_eq, Bool.not_eq_true', decide_eq_true_eq] at h5
  obtain ⟨⟨⟨⟨⟨g1, g2⟩, g3⟩, g4⟩, g5⟩, g6⟩ := h5
  simp [Cond.before, Cond.holds, Cond.value, h1, h2, h3, h4, g1, g2, g3, g4, g5, g6]
def isCode : Jvm.Cond → Bool
  | .code _ _ _ _ => true
  | _ => false
theorem all_split {L : List Jvm.Cond} {P : Jvm.Cond → Bool} (h1 : L.all (fun c => isCode c || P c) = true) (h2 : ∀ c ∈ L.filter isCode, P c = true) : L.all P = true := by
  refine List.all_eq_true.mpr fun c hc => ?_
  have h := List.all_eq_true.mp h1 c hc
  rcases Bool.eq_false_or_eq_true (isCode c) with hi | hi
  · exact h2 c (List.mem_filter.mpr ⟨hc, hi⟩)
  · simpa [hi] using h
set_option maxRecDepth 65536 in
theorem w_c0 : (Jvm.Cond.code x code maxLocals ret).before args0 about1 = true := code_word (m := ⟨1, 2⟩) (meth := k1m2) (c := k1c2) (by decide +kernel) rfl rfl rfl (by decide +kernel)
set_option maxRecDepth 65536 in
theorem w_c1 : (Jvm.Cond.code ({ cls := "com/example/monarc/monarc/DomainsTotalSizePinLaw", name := "size", desc := "(I)J" } : Jvm.MethodName) method_2_code (1 : Nat) (Option.some Jvm.ClassFile.FieldType.long)).before args0 about1 = true := code_word (m := ⟨1, 1⟩) (meth := k1m1) (c := k1c1) (by decide +kernel) rfl rfl rfl (by decide +kernel)
set_option maxRecDepth 65536 in
theorem w_c2 : (Jvm.Cond.code ({ cls := "com/example/monarc/monarc/InitialDomain", name := "range", desc := "(II)Lcom/example/monarc/monarc/InitialDomain;" } : Jvm.MethodName) prog_20_method_2_code (2 : Nat) (Option.some (Jvm.ClassFile.FieldType.object "com/example/monarc/monarc/InitialDomain"))).before args0 about1 = true := code_word (m := ⟨2, 1⟩) (meth := k2m1) (c := k2c1) (by decide +kernel) rfl rfl rfl (by decide +kernel)
set_option maxRecDepth 65536 in
theorem w_c3 : (Jvm.Cond.code ({ cls := "com/example/monarc/monarc/InitialDomain", name := "<init>", desc := "(IJ[I)V" } : Jvm.MethodName) prog_20_method_1_code (5 : Nat) (Option.none : Option Jvm.ClassFile.FieldType)).before args0 about1 = true := code_word (m := ⟨2, 0⟩) (meth := k2m0) (c := k2c0) (by decide +kernel) rfl rfl rfl (by decide +kernel)
set_option maxRecDepth 65536 in
theorem w_c4 : (Jvm.Cond.code ({ cls := "java/lang/Object", name := "<init>", desc := "()V" } : Jvm.MethodName) object_method_1_code (1 : Nat) (Option.none : Option Jvm.ClassFile.FieldType)).before args0 about1 = true := code_word (m := ⟨0, 0⟩) (meth := k0m0) (c := k0c0) (by decide +kernel) rfl rfl rfl (by decide +kernel)
set_option maxRecDepth 65536 in
theorem w_c5 : (Jvm.Cond.code ({ cls := "com/example/monarc/monarc/Variable", name := "<init>", desc := "(Ljava/lang/String;ILcom/example/monarc/monarc/InitialDomain;)V" } : Jvm.MethodName) prog_76_method_1_code (4 : Nat) (Option.none : Option Jvm.ClassFile.FieldType)).before args0 about1 = true := code_word (m := ⟨4, 0⟩) (meth := k4m0) (c := k4c0) (by decide +kernel) rfl rfl rfl (by decide +kernel)
set_option maxRecDepth 65536 in
theorem w_c6 : (Jvm.Cond.code ({ cls := "com/example/monarc/monarc/Term", name := "<init>", desc := "()V" } : Jvm.MethodName) prog_70_method_1_code (1 : Nat) (Option.none : Option Jvm.ClassFile.FieldType)).before args0 about1 = true := code_word (m := ⟨3, 0⟩) (meth := k3m0) (c := k3c0) (by decide +kernel) rfl rfl rfl (by decide +kernel)
set_option maxRecDepth 65536 in
theorem w_c7 : (Jvm.Cond.code ({ cls := "java/util/ArrayList", name := "<init>", desc := "()V" } : Jvm.MethodName) jdk_38_method_2_code (1 : Nat) (Option.none : Option Jvm.ClassFile.FieldType)).before args0 about1 = true := code_word (m := ⟨19, 0⟩) (meth := k19m0) (c := k19c0) (by decide +kernel) rfl rfl rfl (by decide +kernel)
set_option maxRecDepth 65536 in
theorem w_c8 : (Jvm.Cond.code ({ cls := "java/util/AbstractList", name := "<init>", desc := "()V" } : Jvm.MethodName) jdk_39_method_1_code (1 : Nat) (Option.none : Option Jvm.ClassFile.FieldType)).before args0 about1 = true := code_word (m := ⟨16, 0⟩) (meth := k16m0) (c := k16c0) (by decide +kernel) rfl rfl rfl (by decide +kernel)
set_option maxRecDepth 65536 in
theorem w_c9 : (Jvm.Cond.code ({ cls := "java/util/AbstractCollection", name := "<init>", desc := "()V" } : Jvm.MethodName) jdk_22_method_1_code (1 : Nat) (Option.none : Option Jvm.ClassFile.FieldType)).before args0 about1 = true := code_word (m := ⟨13, 0⟩) (meth := k13m0) (c := k13c0) (by decide +kernel) rfl rfl rfl (by decide +kernel)
set_option maxRecDepth 65536 in
theorem w_c10 : (Jvm.Cond.code ({ cls := "com/example/monarc/monarc/Domains", name := "<init>", desc := "(Ljava/util/List;)V" } : Jvm.MethodName) prog_11_method_1_code (4 : Nat) (Option.none : Option Jvm.ClassFile.FieldType)).before args0 about1 = true := code_word (m := ⟨20, 0⟩) (meth := k20m0) (c := k20c0) (by decide +kernel) rfl rfl rfl (by decide +kernel)
set_option maxRecDepth 65536 in
theorem w_c11 : (Jvm.Cond.code ({ cls := "java/util/ArrayList", name := "size", desc := "()I" } : Jvm.MethodName) jdk_38_method_8_code (1 : Nat) (Option.some Jvm.ClassFile.FieldType.int)).before args0 about1 = true := code_word (m := ⟨19, 3⟩) (meth := k19m3) (c := k19c3) (by decide +kernel) rfl rfl rfl (by decide +kernel)
set_option maxRecDepth 65536 in
theorem w_c12 : (Jvm.Cond.code ({ cls := "com/example/monarc/monarc/Domains", name := "totalSize", desc := "()J" } : Jvm.MethodName) prog_11_method_5_code (7 : Nat) (Option.some Jvm.ClassFile.FieldType.long)).before args0 about1 = true := code_word (m := ⟨20, 1⟩) (meth := k20m1) (c := k20c1) (by decide +kernel) rfl rfl rfl (by decide +kernel)
set_option maxRecDepth 65536 in
theorem w_c13 : (Jvm.Cond.code ({ cls := "java/util/ArrayList", name := "add", desc := "(Ljava/lang/Object;)Z" } : Jvm.MethodName) jdk_38_method_25_code (2 : Nat) (Option.some Jvm.ClassFile.FieldType.boolean)).before args0 about1 = true := code_word (m := ⟨19, 7⟩) (meth := k19m7) (c := k19c7) (by decide +kernel) rfl rfl rfl (by decide +kernel)
set_option maxRecDepth 65536 in
theorem w_c14 : (Jvm.Cond.code ({ cls := "java/util/ArrayList", name := "add", desc := "(Ljava/lang/Object;[Ljava/lang/Object;I)V" } : Jvm.MethodName) jdk_38_method_24_code (4 : Nat) (Option.none : Option Jvm.ClassFile.FieldType)).before args0 about1 = true := code_word (m := ⟨19, 6⟩) (meth := k19m6) (c := k19c6) (by decide +kernel) rfl rfl rfl (by decide +kernel)
set_option maxRecDepth 65536 in
theorem w_c15 : (Jvm.Cond.code ({ cls := "java/util/ArrayList", name := "grow", desc := "()[Ljava/lang/Object;" } : Jvm.MethodName) jdk_38_method_7_code (1 : Nat) (Option.some (Jvm.ClassFile.FieldType.array (Jvm.ClassFile.FieldType.object "java/lang/Object")))).before args0 about1 = true := code_word (m := ⟨19, 2⟩) (meth := k19m2) (c := k19c2) (by decide +kernel) rfl rfl rfl (by decide +kernel)
set_option maxRecDepth 65536 in
theorem w_c16 : (Jvm.Cond.code ({ cls := "java/util/ArrayList", name := "grow", desc := "(I)[Ljava/lang/Object;" } : Jvm.MethodName) jdk_38_method_6_code (4 : Nat) (Option.some (Jvm.ClassFile.FieldType.array (Jvm.ClassFile.FieldType.object "java/lang/Object")))).before args0 about1 = true := code_word (m := ⟨19, 1⟩) (meth := k19m1) (c := k19c1) (by decide +kernel) rfl rfl rfl (by decide +kernel)
set_option maxRecDepth 65536 in
theorem w_c17 : (Jvm.Cond.code ({ cls := "java/lang/Math", name := "max", desc := "(II)I" } : Jvm.MethodName) jdk_29_method_65_code (2 : Nat) (Option.some Jvm.ClassFile.FieldType.int)).before args0 about1 = true := code_word (m := ⟨21, 1⟩) (meth := k21m1) (c := k21c1) (by decide +kernel) rfl rfl rfl (by decide +kernel)
set_option maxRecDepth 65536 in
theorem w_c18 : (Jvm.Cond.code ({ cls := "java/util/ArrayList", name := "get", desc := "(I)Ljava/lang/Object;" } : Jvm.MethodName) jdk_38_method_20_code (2 : Nat) (Option.some (Jvm.ClassFile.FieldType.object "java/lang/Object"))).before args0 about1 = true := code_word (m := ⟨19, 5⟩) (meth := k19m5) (c := k19c5) (by decide +kernel) rfl rfl rfl (by decide +kernel)
set_option maxRecDepth 65536 in
theorem w_c19 : (Jvm.Cond.code ({ cls := "java/util/Objects", name := "checkIndex", desc := "(II)I" } : Jvm.MethodName) jdk_31_method_17_code (2 : Nat) (Option.some Jvm.ClassFile.FieldType.int)).before args0 about1 = true := code_word (m := ⟨22, 1⟩) (meth := k22m1) (c := k22c1) (by decide +kernel) rfl rfl rfl (by decide +kernel)
set_option maxRecDepth 65536 in
theorem w_c20 : (Jvm.Cond.code ({ cls := "jdk/internal/util/Preconditions", name := "checkIndex", desc := "(IILjava/util/function/BiFunction;)I" } : Jvm.MethodName) jdk_41_method_11_code (3 : Nat) (Option.some Jvm.ClassFile.FieldType.int)).before args0 about1 = true := code_word (m := ⟨23, 1⟩) (meth := k23m1) (c := k23c1) (by decide +kernel) rfl rfl rfl (by decide +kernel)
set_option maxRecDepth 65536 in
theorem w_c21 : (Jvm.Cond.code ({ cls := "java/util/ArrayList", name := "elementData", desc := "(I)Ljava/lang/Object;" } : Jvm.MethodName) jdk_38_method_18_code (2 : Nat) (Option.some (Jvm.ClassFile.FieldType.object "java/lang/Object"))).before args0 about1 = true := code_word (m := ⟨19, 4⟩) (meth := k19m4) (c := k19c4) (by decide +kernel) rfl rfl rfl (by decide +kernel)
set_option maxRecDepth 65536 in
theorem w_c22 : (Jvm.Cond.code ({ cls := "com/example/monarc/monarc/Variable", name := "domain", desc := "()Lcom/example/monarc/monarc/InitialDomain;" } : Jvm.MethodName) prog_76_method_4_code (1 : Nat) (Option.some (Jvm.ClassFile.FieldType.object "com/example/monarc/monarc/InitialDomain"))).before args0 about1 = true := code_word (m := ⟨4, 1⟩) (meth := k4m1) (c := k4c1) (by decide +kernel) rfl rfl rfl (by decide +kernel)
set_option maxRecDepth 65536 in
theorem w_c23 : (Jvm.Cond.code ({ cls := "com/example/monarc/monarc/InitialDomain", name := "size", desc := "()I" } : Jvm.MethodName) prog_20_method_5_code (1 : Nat) (Option.some Jvm.ClassFile.FieldType.int)).before args0 about1 = true := code_word (m := ⟨2, 2⟩) (meth := k2m2) (c := k2c2) (by decide +kernel) rfl rfl rfl (by decide +kernel)
set_option maxRecDepth 65536 in
theorem w_c24 : (Jvm.Cond.code ({ cls := "java/lang/Math", name := "max", desc := "(JJ)J" } : Jvm.MethodName) jdk_29_method_66_code (4 : Nat) (Option.some Jvm.ClassFile.FieldType.long)).before args0 about1 = true := code_word (m := ⟨21, 2⟩) (meth := k21m2) (c := k21c2) (by decide +kernel) rfl rfl rfl (by decide +kernel)
set_option maxRecDepth 65536 in
theorem w_c25 : (Jvm.Cond.code ({ cls := "java/lang/Math", name := "min", desc := "(JJ)J" } : Jvm.MethodName) jdk_29_method_70_code (4 : Nat) (Option.some Jvm.ClassFile.FieldType.long)).before args0 about1 = true := code_word (m := ⟨21, 3⟩) (meth := k21m3) (c := k21c3) (by decide +kernel) rfl rfl rfl (by decide +kernel)
set_option maxRecDepth 65536 in
theorem w_c26 : (Jvm.Cond.code ({ cls := "com/example/monarc/monarc/Domains", name := "removeBelow", desc := "(IJ)V" } : Jvm.MethodName) prog_11_method_20_code (5 : Nat) (Option.none : Option Jvm.ClassFile.FieldType)).before args0 about1 = true := code_word (m := ⟨20, 4⟩) (meth := k20m4) (c := k20c4) (by decide +kernel) rfl rfl rfl (by decide +kernel)
set_option maxRecDepth 65536 in
theorem w_c27 : (Jvm.Cond.code ({ cls := "com/example/monarc/monarc/InitialDomain", name := "firstAtLeast", desc := "(J)I" } : Jvm.MethodName) prog_20_method_8_code (6 : Nat) (Option.some Jvm.ClassFile.FieldType.int)).before args0 about1 = true := code_word (m := ⟨2, 3⟩) (meth := k2m3) (c := k2c3) (by decide +kernel) rfl rfl rfl (by decide +kernel)
set_option maxRecDepth 65536 in
theorem w_c28 : (Jvm.Cond.code ({ cls := "com/example/monarc/monarc/Domains", name := "raiseLower", desc := "(II)V" } : Jvm.MethodName) prog_11_method_23_code (5 : Nat) (Option.none : Option Jvm.ClassFile.FieldType)).before args0 about1 = true := code_word (m := ⟨20, 5⟩) (meth := k20m5) (c := k20c5) (by decide +kernel) rfl rfl rfl (by decide +kernel)
set_option maxRecDepth 65536 in
theorem w_c29 : (Jvm.Cond.code ({ cls := "com/example/monarc/monarc/Domains", name := "countNotHoles", desc := "(III)I" } : Jvm.MethodName) prog_11_method_16_code (13 : Nat) (Option.some Jvm.ClassFile.FieldType.int)).before args0 about1 = true := code_word (m := ⟨20, 3⟩) (meth := k20m3) (c := k20c3) (by decide +kernel) rfl rfl rfl (by decide +kernel)
set_option maxRecDepth 65536 in
theorem w_c30 : (Jvm.Cond.code ({ cls := "com/example/monarc/monarc/Domains", name := "resize", desc := "(II)V" } : Jvm.MethodName) prog_11_method_25_code (3 : Nat) (Option.none : Option Jvm.ClassFile.FieldType)).before args0 about1 = true := code_word (m := ⟨20, 6⟩) (meth := k20m6) (c := k20c6) (by decide +kernel) rfl rfl rfl (by decide +kernel)
set_option maxRecDepth 65536 in
theorem w_c31 : (Jvm.Cond.code ({ cls := "com/example/monarc/monarc/Domains", name := "record", desc := "(III)V" } : Jvm.MethodName) prog_11_method_26_code (4 : Nat) (Option.none : Option Jvm.ClassFile.FieldType)).before args0 about1 = true := code_word (m := ⟨20, 7⟩) (meth := k20m7) (c := k20c7) (by decide +kernel) rfl rfl rfl (by decide +kernel)
set_option maxRecDepth 65536 in
theorem w_c32 : (Jvm.Cond.code ({ cls := "com/example/monarc/monarc/Domains", name := "leftFrom", desc := "(II)I" } : Jvm.MethodName) prog_11_method_14_code (7 : Nat) (Option.some Jvm.ClassFile.FieldType.int)).before args0 about1 = true := code_word (m := ⟨20, 2⟩) (meth := k20m2) (c := k20c2) (by decide +kernel) rfl rfl rfl (by decide +kernel)
def codes1 : List Jvm.Cond := [Jvm.Cond.code x code maxLocals ret, Jvm.Cond.code ({ cls := "com/example/monarc/monarc/DomainsTotalSizePinLaw", name := "size", desc := "(I)J" } : Jvm.MethodName) method_2_code (1 : Nat) (Option.some Jvm.ClassFile.FieldType.long), Jvm.Cond.code ({ cls := "com/example/monarc/monarc/InitialDomain", name := "range", desc := "(II)Lcom/example/monarc/monarc/InitialDomain;" } : Jvm.MethodName) prog_20_method_2_code (2 : Nat) (Option.some (Jvm.ClassFile.FieldType.object "com/example/monarc/monarc/InitialDomain")), Jvm.Cond.code ({ cls := "com/example/monarc/monarc/InitialDomain", name := "<init>", desc := "(IJ[I)V" } : Jvm.MethodName) prog_20_method_1_code (5 : Nat) (Option.none : Option Jvm.ClassFile.FieldType), Jvm.Cond.code ({ cls := "java/lang/Object", name := "<init>", desc := "()V" } : Jvm.MethodName) object_method_1_code (1 : Nat) (Option.none : Option Jvm.ClassFile.FieldType), Jvm.Cond.code ({ cls := "com/example/monarc/monarc/Variable", name := "<init>", desc := "(Ljava/lang/String;ILcom/example/monarc/monarc/InitialDomain;)V" } : Jvm.MethodName) prog_76_method_1_code (4 : Nat) (Option.none : Option Jvm.ClassFile.FieldType), Jvm.Cond.code ({ cls := "com/example/monarc/monarc/Term", name := "<init>", desc := "()V" } : Jvm.MethodName) prog_70_method_1_code (1 : Nat) (Option.none : Option Jvm.ClassFile.FieldType), Jvm.Cond.code ({ cls := "java/util/ArrayList", name := "<init>", desc := "()V" } : Jvm.MethodName) jdk_38_method_2_code (1 : Nat) (Option.none : Option Jvm.ClassFile.FieldType), Jvm.Cond.code ({ cls := "java/util/AbstractList", name := "<init>", desc := "()V" } : Jvm.MethodName) jdk_39_method_1_code (1 : Nat) (Option.none : Option Jvm.ClassFile.FieldType), Jvm.Cond.code ({ cls := "java/util/AbstractCollection", name := "<init>", desc := "()V" } : Jvm.MethodName) jdk_22_method_1_code (1 : Nat) (Option.none : Option Jvm.ClassFile.FieldType), Jvm.Cond.code ({ cls := "com/example/monarc/monarc/Domains", name := "<init>", desc := "(Ljava/util/List;)V" } : Jvm.MethodName) prog_11_method_1_code (4 : Nat) (Option.none : Option Jvm.ClassFile.FieldType), Jvm.Cond.code ({ cls := "java/util/ArrayList", name := "size", desc := "()I" } : Jvm.MethodName) jdk_38_method_8_code (1 : Nat) (Option.some Jvm.ClassFile.FieldType.int), Jvm.Cond.code ({ cls := "com/example/monarc/monarc/Domains", name := "totalSize", desc := "()J" } : Jvm.MethodName) prog_11_method_5_code (7 : Nat) (Option.some Jvm.ClassFile.FieldType.long), Jvm.Cond.code ({ cls := "java/util/ArrayList", name := "add", desc := "(Ljava/lang/Object;)Z" } : Jvm.MethodName) jdk_38_method_25_code (2 : Nat) (Option.some Jvm.ClassFile.FieldType.boolean), Jvm.Cond.code ({ cls := "java/util/ArrayList", name := "add", desc := "(Ljava/lang/Object;[Ljava/lang/Object;I)V" } : Jvm.MethodName) jdk_38_method_24_code (4 : Nat) (Option.none : Option Jvm.ClassFile.FieldType), Jvm.Cond.code ({ cls := "java/util/ArrayList", name := "grow", desc := "()[Ljava/lang/Object;" } : Jvm.MethodName) jdk_38_method_7_code (1 : Nat) (Option.some (Jvm.ClassFile.FieldType.array (Jvm.ClassFile.FieldType.object "java/lang/Object"))), Jvm.Cond.code ({ cls := "java/util/ArrayList", name := "grow", desc := "(I)[Ljava/lang/Object;" } : Jvm.MethodName) jdk_38_method_6_code (4 : Nat) (Option.some (Jvm.ClassFile.FieldType.array (Jvm.ClassFile.FieldType.object "java/lang/Object"))), Jvm.Cond.code ({ cls := "java/lang/Math", name := "max", desc := "(II)I" } : Jvm.MethodName) jdk_29_method_65_code (2 : Nat) (Option.some Jvm.ClassFile.FieldType.int), Jvm.Cond.code ({ cls := "java/util/ArrayList", name := "get", desc := "(I)Ljava/lang/Object;" } : Jvm.MethodName) jdk_38_method_20_code (2 : Nat) (Option.some (Jvm.ClassFile.FieldType.object "java/lang/Object")), Jvm.Cond.code ({ cls := "java/util/Objects", name := "checkIndex", desc := "(II)I" } : Jvm.MethodName) jdk_31_method_17_code (2 : Nat) (Option.some Jvm.ClassFile.FieldType.int), Jvm.Cond.code ({ cls := "jdk/internal/util/Preconditions", name := "checkIndex", desc := "(IILjava/util/function/BiFunction;)I" } : Jvm.MethodName) jdk_41_method_11_code (3 : Nat) (Option.some Jvm.ClassFile.FieldType.int), Jvm.Cond.code ({ cls := "java/util/ArrayList", name := "elementData", desc := "(I)Ljava/lang/Object;" } : Jvm.MethodName) jdk_38_method_18_code (2 : Nat) (Option.some (Jvm.ClassFile.FieldType.object "java/lang/Object")), Jvm.Cond.code ({ cls := "com/example/monarc/monarc/Variable", name := "domain", desc := "()Lcom/example/monarc/monarc/InitialDomain;" } : Jvm.MethodName) prog_76_method_4_code (1 : Nat) (Option.some (Jvm.ClassFile.FieldType.object "com/example/monarc/monarc/InitialDomain")), Jvm.Cond.code ({ cls := "com/example/monarc/monarc/InitialDomain", name := "size", desc := "()I" } : Jvm.MethodName) prog_20_method_5_code (1 : Nat) (Option.some Jvm.ClassFile.FieldType.int), Jvm.Cond.code ({ cls := "java/lang/Math", name := "max", desc := "(JJ)J" } : Jvm.MethodName) jdk_29_method_66_code (4 : Nat) (Option.some Jvm.ClassFile.FieldType.long), Jvm.Cond.code ({ cls := "java/lang/Math", name := "min", desc := "(JJ)J" } : Jvm.MethodName) jdk_29_method_70_code (4 : Nat) (Option.some Jvm.ClassFile.FieldType.long), Jvm.Cond.code ({ cls := "com/example/monarc/monarc/Domains", name := "removeBelow", desc := "(IJ)V" } : Jvm.MethodName) prog_11_method_20_code (5 : Nat) (Option.none : Option Jvm.ClassFile.FieldType), Jvm.Cond.code ({ cls := "com/example/monarc/monarc/InitialDomain", name := "firstAtLeast", desc := "(J)I" } : Jvm.MethodName) prog_20_method_8_code (6 : Nat) (Option.some Jvm.ClassFile.FieldType.int), Jvm.Cond.code ({ cls := "com/example/monarc/monarc/Domains", name := "raiseLower", desc := "(II)V" } : Jvm.MethodName) prog_11_method_23_code (5 : Nat) (Option.none : Option Jvm.ClassFile.FieldType), Jvm.Cond.code ({ cls := "com/example/monarc/monarc/Domains", name := "countNotHoles", desc := "(III)I" } : Jvm.MethodName) prog_11_method_16_code (13 : Nat) (Option.some Jvm.ClassFile.FieldType.int), Jvm.Cond.code ({ cls := "com/example/monarc/monarc/Domains", name := "resize", desc := "(II)V" } : Jvm.MethodName) prog_11_method_25_code (3 : Nat) (Option.none : Option Jvm.ClassFile.FieldType), Jvm.Cond.code ({ cls := "com/example/monarc/monarc/Domains", name := "record", desc := "(III)V" } : Jvm.MethodName) prog_11_method_26_code (4 : Nat) (Option.none : Option Jvm.ClassFile.FieldType), Jvm.Cond.code ({ cls := "com/example/monarc/monarc/Domains", name := "leftFrom", desc := "(II)I" } : Jvm.MethodName) prog_11_method_14_code (7 : Nat) (Option.some Jvm.ClassFile.FieldType.int)]
set_option maxRecDepth 65536 in
theorem codes_eq : words1.filter isCode = codes1 := rfl
theorem w_codes : ∀ c ∈ words1.filter isCode, c.before args0 about1 = true := by
  rw [codes_eq]
  intro c hc
  simp only [codes1, List.mem_cons, List.not_mem_nil, or_false] at hc
  rcases hc with rfl | rfl | rfl | rfl | rfl | rfl | rfl | rfl | rfl | rfl | rfl | rfl | rfl | rfl | rfl | rfl | rfl | rfl | rfl | rfl | rfl | rfl | rfl | rfl | rfl | rfl | rfl | rfl | rfl | rfl | rfl | rfl | rfl
  · exact w_c0
  · exact w_c1
  · exact w_c2
  · exact w_c3
  · exact w_c4
  · exact w_c5
  · exact w_c6
  · exact w_c7
  · exact w_c8
  · exact w_c9
  · exact w_c10
  · exact w_c11
  · exact w_c12
  · exact w_c13
  · exact w_c14
  · exact w_c15
  · exact w_c16
  · exact w_c17
  · exact w_c18
  · exact w_c19
  · exact w_c20
  · exact w_c21
  · exact w_c22
  · exact w_c23
  · exact w_c24
  · exact w_c25
  · exact w_c26
  · exact w_c27
  · exact w_c28
  · exact w_c29
  · exact w_c30
  · exact w_c31
  · exact w_c32
set_option maxRecDepth 65536 in
theorem w_t1 : (words1.take 24).all (fun c => isCode c || c.before args0 about1) = true := by decide +kernel
set_option maxRecDepth 65536 in
theorem w_t2 : ((words1.drop 24).take 24).all (fun c => isCode c || c.before args0 about1) = true := by decide +kernel
set_option maxRecDepth 65536 in
theorem w_t3 : (((words1.drop 24).drop 24).take 24).all (fun c => isCode c || c.before args0 about1) = true := by decide +kernel
set_option maxRecDepth 65536 in
theorem w_t4 : ((((words1.drop 24).drop 24).drop 24).take 24).all (fun c => isCode c || c.before args0 about1) = true := by decide +kernel
set_option maxRecDepth 65536 in
theorem w_t5 : (((((words1.drop 24).drop 24).drop 24).drop 24).take 24).all (fun c => isCode c || c.before args0 about1) = true := by decide +kernel
set_option maxRecDepth 65536 in
theorem w_t6 : ((((((words1.drop 24).drop 24).drop 24).drop 24).drop 24).take 24).all (fun c => isCode c || c.before args0 about1) = true := by decide +kernel
set_option maxRecDepth 65536 in
theorem w_t7 : (((((((words1.drop 24).drop 24).drop 24).drop 24).drop 24).drop 24).take 24).all (fun c => isCode c || c.before args0 about1) = true := by decide +kernel
set_option maxRecDepth 65536 in
theorem w_t8 : ((((((((words1.drop 24).drop 24).drop 24).drop 24).drop 24).drop 24).drop 24).take 24).all (fun c => isCode c || c.before args0 about1) = true := by decide +kernel
set_option maxRecDepth 65536 in
theorem w_t9 : (((((((((words1.drop 24).drop 24).drop 24).drop 24).drop 24).drop 24).drop 24).drop 24).take 24).all (fun c => isCode c || c.before args0 about1) = true := by decide +kernel
set_option maxRecDepth 65536 in
theorem w_t10 : (((((((((words1.drop 24).drop 24).drop 24).drop 24).drop 24).drop 24).drop 24).drop 24).drop 24).all (fun c => isCode c || c.before args0 about1) = true := by decide +kernel
theorem w_tables : (allAtoms (Jvm.Cond.code x code maxLocals ret :: tables_1)).before args0 about1 = true := by
  rw [allAtoms_all]
  show words1.all (fun c => c.before args0 about1) = true
  refine all_split ?_ w_codes
  rw [← List.take_append_drop 24 words1, List.all_append, w_t1, ← List.take_append_drop 24 (words1.drop 24), List.all_append, w_t2, ← List.take_append_drop 24 ((words1.drop 24).drop 24), List.all_append, w_t3, ← List.take_append_drop 24 (((words1.drop 24).drop 24).drop 24), List.all_append, w_t4, ← List.take_append_drop 24 ((((words1.drop 24).drop 24).drop 24).drop 24), List.all_append, w_t5, ← List.take_append_drop 24 (((((words1.drop 24).drop 24).drop 24).drop 24).drop 24), List.all_append, w_t6, ← List.take_append_drop 24 ((((((words1.drop 24).drop 24).drop 24).drop 24).drop 24).drop 24), List.all_append, w_t7, ← List.take_append_drop 24 (((((((words1.drop 24).drop 24).drop 24).drop 24).drop 24).drop 24).drop 24), List.all_append, w_t8, ← List.take_append_drop 24 ((((((((words1.drop 24).drop 24).drop 24).drop 24).drop 24).drop 24).drop 24).drop 24), List.all_append, w_t9, w_t10]
  rfl
set_option maxRecDepth 65536 in
theorem w_rest : rest_1_c.before args0 about1 = true := by decide +kernel
set_option maxRecDepth 65536 in
theorem w_case : (Jvm.Cond.and given_1 narrow_1).before args0 about1 = true := by decide +kernel
theorem w_applies : (headSpec (Jvm.Cond.code x code maxLocals ret :: tables_1) room_1).applies x e0.platform about1 = true :=
  (Spec.applies_iff w_frames).mpr ⟨w_running, w_runnable, w_alone, w_named, w_hears, w_ripe, w_room, w_tables⟩
theorem atStart : AtStart classFile x code maxLocals ret World_1 tables_1 room_1 Calls_1 rest_1 Pre_1 launch0 p0 e0 about1 theMethod args0 below0 :=
  ⟨lists_1, trivial, launch0.admits_env _ _ _, launch0.least_env, fairChoices_fair.cas, fairChoices_fair.clock, w_frames, w_args, w_heap, w_applies, trivial, w_rest, w_case⟩
end start1
theorem witness_1 : WitnessClaimed_1 := ⟨start1.p0, start1.e0, start1.about1, start1.theMethod, start1.args0, start1.below0, start1.atStart⟩
end Jvm.Pilot.@@N@@
