import JvmDerived
import JvmDerived.Pilot.@@N@@Statement
import JvmDerived.Pilot.@@N@@Code
set_option linter.unusedVariables false
set_option linter.unusedSimpArgs false
@@BLOCK:NumsL.lean.txt@@
namespace Jvm.RoadKit
open Sem ClassFile Op Lib Jvm.Stand Jvm.Free Jvm.LawKit
section New
variable {p : Program} {l : Launch} {e : Env} {R : Room} {s : State} {m : MethodId} {args : Array Value} {below : List Frame} {meth : Method} {c : Code} {T : State} {locs : List Loc} {cells slots : Nat}
theorem retI (X : Stand p l e R s m args below meth c T locs cells slots) (hx : p.tables.exec = Jvm.exec) {pc : Nat} {Ls : Array Slot} {z : Int32} {rest : List Value} (hret : meth.sig.returnType = some .int) (hd : decode c.code pc = .ok (.ireturn, 1)) {fs : List Frame}
    (hl : ∀ (f : JFrame) (acts : List Action), f.method = m → f.locked = none → f.entered = [] → (doReturn e (T.setTop f) acts (some (.int z))).1 = T.setFrames fs) : Steps p.tables e below (T.setTop (mkF m pc Ls (.int z :: rest))) (T.setFrames fs) := by
  have hm' : T.vm.method? m = some meth := X.method'
  have hn : narrow .int (.int z) = .int z := rfl
  show Steps p.tables e below (T.setTop { method := m, pc := pc, locals := Ls, stack := _ :: rest, locked := none }) _
  jvm_step X.here [X.here.top, hx, hd, hm', hret, hn]
  first | (intro acts; rw [hl _ acts rfl rfl rfl]) | rw [hl _ _ rfl rfl rfl]
  exact Steps.refl _
end New
end Jvm.RoadKit
namespace Jvm.Pilot.@@N@@
open Jvm Jvm.ClassFile Sem Op Lib Jvm.Free Jvm.Stand Jvm.LawKit Jvm.RoadKit Bundle Jvm.Pilot.@@N@@.Jvm.D
/-- what a walk comes to, said forward -/
def Go (p : Program) (e : Env) (below : List Frame) (R : State → Outcome → Prop) (A : State) : Prop := ∃ t o, Steps p.tables e below A t ∧ R t o
def Fin1 (s : State) (below : List Frame) (Q : Option Value → Heap → List Loc → Prop) (K N : Nat) (t : State) (o : Outcome) : Prop := t.status = .running ∧ Ended t below o ∧ ∃ v L, o = .returned v ∧ Q v t.heap L ∧ FrameEnd s o t L K N
theorem Go.step {p : Program} {e : Env} {below : List Frame} {R : State → Outcome → Prop} {A B : State} (k : ∀ t, Steps p.tables e below A t → Steps p.tables e below B t) (h : Go p e below R A) : Go p e below R B := by
  obtain ⟨t, o, h1, h2⟩ := h
  exact ⟨t, o, k t h1, h2⟩
section GoRet
variable {p : Program} {l : Launch} {e : Env} {R : Room} {s : State} {m : MethodId} {args : Array Value} {below : List Frame} {meth : Method} {c : Code} {T : State} {locs : List Loc} {cells slots : Nat} {Q : Option Value → Heap → List Loc → Prop} {K N pc : Nat} {Ls : Array Slot} {rest : List Value}
theorem Go.retZ (X : Stand p l e R s m args below meth c T locs cells slots) (hx : p.tables.exec = Jvm.exec) {z : Int32} {t : FieldType} (hret : meth.sig.returnType = some t) (ht : t = .boolean ∨ t = .byte ∨ t = .char ∨ t = .short) (hlk : meth.locks = false) (hd : decode c.code pc = .ok (.ireturn, 1)) (hq : Q (some (.int (nar t z))) T.heap locs) (hc : cells ≤ K) (hn : slots ≤ N) : Go p e below (Fin1 s below Q K N) (T.setTop (mkF m pc Ls (.int z :: rest))) := by
  obtain ⟨fs, hr, hrun, hended, hW, hsame⟩ := X.leave (v := some (.int (nar t z))) (fun h => by rw [hret] at h; cases h) hlk
  exact ⟨_, _, retN X hx hret ht hd hr, hrun, hended, _, _, rfl, hq, ⟨_, rfl⟩, hW, hsame.mono hc hn⟩
theorem Go.retI (X : Stand p l e R s m args below meth c T locs cells slots) (hx : p.tables.exec = Jvm.exec) {z : Int32} (hret : meth.sig.returnType = some .int) (hlk : meth.locks = false) (hd : decode c.code pc = .ok (.ireturn, 1)) (hq : Q (some (.int z)) T.heap locs) (hc : cells ≤ K) (hn : slots ≤ N) : Go p e below (Fin1 s below Q K N) (T.setTop (mkF m pc Ls (.int z :: rest))) := by
  obtain ⟨fs, hr, hrun, hended, hW, hsame⟩ := X.leave (v := some (.int z)) (fun h => by rw [hret] at h; cases h) hlk
  exact ⟨_, _, Jvm.RoadKit.retI X hx hret hd hr, hrun, hended, _, _, rfl, hq, ⟨_, rfl⟩, hW, hsame.mono hc hn⟩
theorem Go.retJ (X : Stand p l e R s m args below meth c T locs cells slots) (hx : p.tables.exec = Jvm.exec) {z : Int64} (hret : meth.sig.returnType = some .long) (hlk : meth.locks = false) (hd : decode c.code pc = .ok (.lreturn, 1)) (hq : Q (some (.long z)) T.heap locs) (hc : cells ≤ K) (hn : slots ≤ N) : Go p e below (Fin1 s below Q K N) (T.setTop (mkF m pc Ls (.long z :: rest))) := by
  obtain ⟨fs, hr, hrun, hended, hW, hsame⟩ := X.leave (v := some (.long z)) (fun h => by rw [hret] at h; cases h) hlk
  exact ⟨_, _, retOut X hx hret rfl (Or.inr (Or.inl ⟨rfl, rfl, _, rfl⟩)) hd hr, hrun, hended, _, _, rfl, hq, ⟨_, rfl⟩, hW, hsame.mono hc hn⟩
theorem Go.retR (X : Stand p l e R s m args below meth c T locs cells slots) (hx : p.tables.exec = Jvm.exec) {w : Value} {t : FieldType} (hret : meth.sig.returnType = some t) (ht : t.isReference = true) (hw : w.isRef = true) (hlk : meth.locks = false) (hd : decode c.code pc = .ok (.areturn, 1)) (hq : Q (some w) T.heap locs) (hc : cells ≤ K) (hn : slots ≤ N) : Go p e below (Fin1 s below Q K N) (T.setTop (mkF m pc Ls (w :: rest))) := by
  obtain ⟨fs, hr, hrun, hended, hW, hsame⟩ := X.leave (v := some w) (fun h => by rw [hret] at h; cases h) hlk
  have hnw : narrow t w = w := by rcases ref_cases hw with rfl | ⟨a, rfl⟩ <;> cases t <;> first | rfl | (cases ht)
  exact ⟨_, _, retOut X hx hret hnw (Or.inr (Or.inr (Or.inr (Or.inr ⟨rfl, ht, hw⟩)))) hd hr, hrun, hended, _, _, rfl, hq, ⟨_, rfl⟩, hW, hsame.mono hc hn⟩
theorem Go.retV (X : Stand p l e R s m args below meth c T locs cells slots) (hx : p.tables.exec = Jvm.exec) (hret : meth.sig.returnType = none) (hlk : meth.locks = false) (hd : decode c.code pc = .ok (.return_, 1)) (hq : Q none T.heap locs) (hc : cells ≤ K) (hn : slots ≤ N) : Go p e below (Fin1 s below Q K N) (T.setTop (mkF m pc Ls [])) := by
  obtain ⟨fs, hr, hrun, hended, hW, hsame⟩ := X.leave (v := none) (fun _ => rfl) hlk
  exact ⟨_, _, X.returnOut hx hret hd hr, hrun, hended, _, _, rfl, hq, ⟨_, rfl⟩, hW, hsame.mono hc hn⟩
end GoRet
def Fin2 (s : State) (below : List Frame) (Q : Option Value → Heap → List Loc → Prop) (K N : Nat) (t : State) (o : Outcome) : Prop := t.status = .running ∧ Ended t below o ∧ ∃ v L, o = .returned v ∧ Q v t.heap L ∧ ReturnedEndW s o t L K N
theorem wmono {s t : State} {o : Outcome} {L : List Loc} {k n k' n' : Nat} (h : ReturnedEndW s o t L k n) (h1 : k ≤ k') (h2 : n ≤ n') : ReturnedEndW s o t L k' n' := ⟨h.1, h.2.1, h.2.2.1, h.2.2.2.mono h1 h2⟩
section GoRetW
variable {p : Program} {l : Launch} {e : Env} {R : Room} {s : State} {vm0 : Vm} {m : MethodId} {args : Array Value} {below : List Frame} {meth : Method} {c : Code} {T : State} {locs : List Loc} {cells slots : Nat} {Q : Option Value → Heap → List Loc → Prop} {K N pc k0 : Nat} {Ls : Array Slot} {rest : List Value}
theorem GoW.retZ (X : Stand p l e R (s.setVm vm0) m args below meth c T locs cells slots) (hS : s.Since vm0 k0) (hk : k0 ≤ T.heap.size) (hx : p.tables.exec = Jvm.exec) {z : Int32} {t : FieldType} (hret : meth.sig.returnType = some t) (ht : t = .boolean ∨ t = .byte ∨ t = .char ∨ t = .short) (hlk : meth.locks = false) (hd : decode c.code pc = .ok (.ireturn, 1)) (hq : Q (some (.int (nar t z))) T.heap locs) (hc : cells ≤ K) (hn : slots ≤ N) : Go p e below (Fin2 s below Q K N) (T.setTop (mkF m pc Ls (.int z :: rest))) := by
  obtain ⟨fs, hr, hrun, hended, hW⟩ := X.leaveW hS hk (v := some (.int (nar t z))) (fun h => by rw [hret] at h; cases h) hlk
  exact ⟨_, _, retN X hx hret ht hd hr, hrun, hended, _, _, rfl, hq, wmono hW hc hn⟩
theorem GoW.retI (X : Stand p l e R (s.setVm vm0) m args below meth c T locs cells slots) (hS : s.Since vm0 k0) (hk : k0 ≤ T.heap.size) (hx : p.tables.exec = Jvm.exec) {z : Int32} (hret : meth.sig.returnType = some .int) (hlk : meth.locks = false) (hd : decode c.code pc = .ok (.ireturn, 1)) (hq : Q (some (.int z)) T.heap locs) (hc : cells ≤ K) (hn : slots ≤ N) : Go p e below (Fin2 s below Q K N) (T.setTop (mkF m pc Ls (.int z :: rest))) := by
  obtain ⟨fs, hr, hrun, hended, hW⟩ := X.leaveW hS hk (v := some (.int z)) (fun h => by rw [hret] at h; cases h) hlk
  exact ⟨_, _, Jvm.RoadKit.retI X hx hret hd hr, hrun, hended, _, _, rfl, hq, wmono hW hc hn⟩
theorem GoW.retR (X : Stand p l e R (s.setVm vm0) m args below meth c T locs cells slots) (hS : s.Since vm0 k0) (hk : k0 ≤ T.heap.size) (hx : p.tables.exec = Jvm.exec) {w : Value} {t : FieldType} (hret : meth.sig.returnType = some t) (ht : t.isReference = true) (hw : w.isRef = true) (hlk : meth.locks = false) (hd : decode c.code pc = .ok (.areturn, 1)) (hq : Q (some w) T.heap locs) (hc : cells ≤ K) (hn : slots ≤ N) : Go p e below (Fin2 s below Q K N) (T.setTop (mkF m pc Ls (w :: rest))) := by
  obtain ⟨fs, hr, hrun, hended, hW⟩ := X.leaveW hS hk (v := some w) (fun h => by rw [hret] at h; cases h) hlk
  have hnw : narrow t w = w := by rcases ref_cases hw with rfl | ⟨a, rfl⟩ <;> cases t <;> first | rfl | (cases ht)
  exact ⟨_, _, retOut X hx hret hnw (Or.inr (Or.inr (Or.inr (Or.inr ⟨rfl, ht, hw⟩)))) hd hr, hrun, hended, _, _, rfl, hq, wmono hW hc hn⟩
theorem GoW.retV (X : Stand p l e R (s.setVm vm0) m args below meth c T locs cells slots) (hS : s.Since vm0 k0) (hk : k0 ≤ T.heap.size) (hx : p.tables.exec = Jvm.exec) (hret : meth.sig.returnType = none) (hlk : meth.locks = false) (hd : decode c.code pc = .ok (.return_, 1)) (hq : Q none T.heap locs) (hc : cells ≤ K) (hn : slots ≤ N) : Go p e below (Fin2 s below Q K N) (T.setTop (mkF m pc Ls [])) := by
  obtain ⟨fs, hr, hrun, hended, hW⟩ := X.leaveW hS hk (v := none) (fun _ => rfl) hlk
  exact ⟨_, _, X.returnOut hx hret hd hr, hrun, hended, _, _, rfl, hq, wmono hW hc hn⟩
end GoRetW
theorem wd {a0 : Array Value} {Z : State} (hw : ∀ d ∈ tables_1, d.before a0 Z = true) (i : Nat) {d : Jvm.Cond} (h : tables_1[i]? = some d) : d.before a0 Z = true := hw d (List.mem_of_getElem? h)
theorem sel_priv {Z s : State} {a0 args : Array Value} {y : MethodName} {n : Nat} (hZ : Z.Warmed39 s.vm) (wi : (Jvm.Cond.instantiable y.cls n).before a0 Z = true) (wp : (Jvm.Cond.privateMethod y).before a0 Z = true) (wm : (Jvm.Cond.instanceMethod y).before a0 Z = true) (hy : y.cls ≠ "java/lang/invoke/MethodHandle" ∧ y.cls ≠ "java/lang/invoke/VarHandle") : (Jvm.Cond.selects y.cls y y).before args s = true := by
  obtain ⟨c, k, h1, h2, -, h4, -⟩ := Cond.instantiable_spec (mv (args := args) hZ wi)
  simp only [Bool.or_eq_false_iff] at h4
  exact Jvm.Stand.selects_self_of_private h1 h2 h4.1 (Cond.privateMethod_at (mvP hZ wp (args := args))) (mv hZ wm) hy
theorem old_z0 {Z : State} {n0 : Nat} {h : Heap} (O : Old Z n0 h) : n0 ≤ h.size := O.1 ▸ O.2.1
theorem eq_long {args : Array Value} {s : State} {t : Term} {z : Int64} (h : (Jvm.Cond.eq t (.long z)).value args s none s [] = some true) : t.eval args s none [] s = some (.long z) := by
  simp only [Cond.value, Term.eval] at h
  cases e : t.eval args s none [] s with
  | none => simp [e] at h
  | some v => cases v <;> simp_all
theorem eq_int {args : Array Value} {s : State} {t : Term} {z : Int32} (h : (Jvm.Cond.eq t (.int z)).value args s none s [] = some true) : t.eval args s none [] s = some (.int z) := by
  simp only [Cond.value, Term.eval] at h
  cases e : t.eval args s none [] s with
  | none => simp [e] at h
  | some v => cases v <;> simp_all
abbrev SN (Z : State) (C f d C' f' d' : String) : Prop := Jvm.RoadKit.slotOf Z C f d ≠ Jvm.RoadKit.slotOf Z C' f' d'
abbrev rm (f c s l : Nat) : Room := { frames := f, cells := c, slots := s, locals := l }
section GS
variable {p : Program} {e : Env} {below : List Frame} {R : State → Outcome → Prop} {T : State} {m : MethodId} {c : Code} {pc : Nat} {Ls l' : Array Slot} {rest : List Value}

theorem gs.iload {k : Nat} {v : Int32} (h : At T m c below) (hx : p.tables.exec = Jvm.exec) (hd : decode c.code pc = .ok (.iload k, 2)) (hl : Ls[k]? = some (.val (.int v))) (H : Go p e below R (T.setTop (mkF m (pc + 2) Ls (.int v :: rest)))) : Go p e below R (T.setTop (mkF m pc Ls rest)) := Go.step (fun _ q_ => XS.iload h hx rfl hd hl q_) H
theorem gs.iloadN {k : Fin 4} {v : Int32} (h : At T m c below) (hx : p.tables.exec = Jvm.exec) (hd : decode c.code pc = .ok (.iload_n k, 1)) (hl : Ls[k.val]? = some (.val (.int v))) (H : Go p e below R (T.setTop (mkF m (pc + 1) Ls (.int v :: rest)))) : Go p e below R (T.setTop (mkF m pc Ls rest)) := Go.step (fun _ q_ => XS.iloadN h hx rfl hd hl q_) H
theorem gs.lload {k : Nat} {v : Int64} (h : At T m c below) (hx : p.tables.exec = Jvm.exec) (hd : decode c.code pc = .ok (.lload k, 2)) (hl : Ls[k]? = some (.val (.long v))) (H : Go p e below R (T.setTop (mkF m (pc + 2) Ls (.long v :: rest)))) : Go p e below R (T.setTop (mkF m pc Ls rest)) := Go.step (fun _ q_ => XS.lload h hx rfl hd hl q_) H
theorem gs.lloadN {k : Fin 4} {v : Int64} (h : At T m c below) (hx : p.tables.exec = Jvm.exec) (hd : decode c.code pc = .ok (.lload_n k, 1)) (hl : Ls[k.val]? = some (.val (.long v))) (H : Go p e below R (T.setTop (mkF m (pc + 1) Ls (.long v :: rest)))) : Go p e below R (T.setTop (mkF m pc Ls rest)) := Go.step (fun _ q_ => XS.lloadN h hx rfl hd hl q_) H
theorem gs.aload {k : Nat} {v : Value} (h : At T m c below) (hx : p.tables.exec = Jvm.exec) (hd : decode c.code pc = .ok (.aload k, 2)) (hl : Ls[k]? = some (.val v)) (hv : v.isRef = true) (H : Go p e below R (T.setTop (mkF m (pc + 2) Ls (v :: rest)))) : Go p e below R (T.setTop (mkF m pc Ls rest)) := Go.step (fun _ q_ => XS.aload h hx rfl hd hl hv q_) H
theorem gs.aloadN {k : Fin 4} {v : Value} (h : At T m c below) (hx : p.tables.exec = Jvm.exec) (hd : decode c.code pc = .ok (.aload_n k, 1)) (hl : Ls[k.val]? = some (.val v)) (hv : v.isRef = true) (H : Go p e below R (T.setTop (mkF m (pc + 1) Ls (v :: rest)))) : Go p e below R (T.setTop (mkF m pc Ls rest)) := Go.step (fun _ q_ => XS.aloadN h hx rfl hd hl hv q_) H
theorem gs.istore {k : Nat} {v : Int32} (h : At T m c below) (hx : p.tables.exec = Jvm.exec) (hd : decode c.code pc = .ok (.istore k, 2)) (hl : storeLocals Ls k (.int v) = some l') (H : Go p e below R (T.setTop (mkF m (pc + 2) l' rest))) : Go p e below R (T.setTop (mkF m pc Ls (.int v :: rest))) := Go.step (fun _ q_ => XS.istore h hx rfl hd rfl hl q_) H
theorem gs.istoreN {k : Fin 4} {v : Int32} (h : At T m c below) (hx : p.tables.exec = Jvm.exec) (hd : decode c.code pc = .ok (.istore_n k, 1)) (hl : storeLocals Ls k.val (.int v) = some l') (H : Go p e below R (T.setTop (mkF m (pc + 1) l' rest))) : Go p e below R (T.setTop (mkF m pc Ls (.int v :: rest))) := Go.step (fun _ q_ => XS.istoreN h hx rfl hd rfl hl q_) H
theorem gs.lstore {k : Nat} {v : Int64} (h : At T m c below) (hx : p.tables.exec = Jvm.exec) (hd : decode c.code pc = .ok (.lstore k, 2)) (hl : storeLocals Ls k (.long v) = some l') (H : Go p e below R (T.setTop (mkF m (pc + 2) l' rest))) : Go p e below R (T.setTop (mkF m pc Ls (.long v :: rest))) := Go.step (fun _ q_ => XS.lstore h hx rfl hd rfl hl q_) H
theorem gs.lstoreN {k : Fin 4} {v : Int64} (h : At T m c below) (hx : p.tables.exec = Jvm.exec) (hd : decode c.code pc = .ok (.lstore_n k, 1)) (hl : storeLocals Ls k.val (.long v) = some l') (H : Go p e below R (T.setTop (mkF m (pc + 1) l' rest))) : Go p e below R (T.setTop (mkF m pc Ls (.long v :: rest))) := Go.step (fun _ q_ => XS.lstoreN h hx rfl hd rfl hl q_) H
theorem gs.astore {k : Nat} {v : Value} (h : At T m c below) (hx : p.tables.exec = Jvm.exec) (hd : decode c.code pc = .ok (.astore k, 2)) (hv : v.isRef = true) (hl : storeLocals Ls k (v) = some l') (H : Go p e below R (T.setTop (mkF m (pc + 2) l' rest))) : Go p e below R (T.setTop (mkF m pc Ls (v :: rest))) := Go.step (fun _ q_ => XS.astore h hx rfl hd rfl hv hl q_) H
theorem gs.astoreN {k : Fin 4} {v : Value} (h : At T m c below) (hx : p.tables.exec = Jvm.exec) (hd : decode c.code pc = .ok (.astore_n k, 1)) (hv : v.isRef = true) (hl : storeLocals Ls k.val (v) = some l') (H : Go p e below R (T.setTop (mkF m (pc + 1) l' rest))) : Go p e below R (T.setTop (mkF m pc Ls (v :: rest))) := Go.step (fun _ q_ => XS.astoreN h hx rfl hd rfl hv hl q_) H
theorem gs.iconst {i : Int} (z : Int32) (h : At T m c below) (hx : p.tables.exec = Jvm.exec) (hd : decode c.code pc = .ok (.iconst i, 1)) (hz : Int32.ofInt i = z) (H : Go p e below R (T.setTop (mkF m (pc + 1) Ls (.int z :: rest)))) : Go p e below R (T.setTop (mkF m pc Ls rest)) := Go.step (fun _ q_ => XS.iconst h hx rfl hd (by rw [hz]; exact q_)) H
theorem gs.bipush {i : Int} (z : Int32) (h : At T m c below) (hx : p.tables.exec = Jvm.exec) (hd : decode c.code pc = .ok (.bipush i, 2)) (hz : (Int8.ofInt i).toInt32 = z) (H : Go p e below R (T.setTop (mkF m (pc + 2) Ls (.int z :: rest)))) : Go p e below R (T.setTop (mkF m pc Ls rest)) := Go.step (fun _ q_ => XS.bipush h hx rfl hd (by rw [hz]; exact q_)) H
theorem gs.sipush {i : Int} (z : Int32) (h : At T m c below) (hx : p.tables.exec = Jvm.exec) (hd : decode c.code pc = .ok (.sipush i, 3)) (hz : (Int16.ofInt i).toInt32 = z) (H : Go p e below R (T.setTop (mkF m (pc + 3) Ls (.int z :: rest)))) : Go p e below R (T.setTop (mkF m pc Ls rest)) := Go.step (fun _ q_ => XS.sipush h hx rfl hd (by rw [hz]; exact q_)) H
theorem gs.aconstNull  (h : At T m c below) (hx : p.tables.exec = Jvm.exec) (hd : decode c.code pc = .ok (.aconst_null, 1)) (H : Go p e below R (T.setTop (mkF m (pc + 1) Ls (.null :: rest)))) : Go p e below R (T.setTop (mkF m pc Ls rest)) := Go.step (fun _ q_ => XS.aconstNull h hx rfl hd q_) H
theorem gs.iadd {x y : Int32} (h : At T m c below) (hx : p.tables.exec = Jvm.exec) (hd : decode c.code pc = .ok (.iadd, 1)) (H : Go p e below R (T.setTop (mkF m (pc + 1) Ls (.int (x + y) :: rest)))) : Go p e below R (T.setTop (mkF m pc Ls (.int y :: .int x :: rest))) := Go.step (fun _ q_ => XS.iadd h hx rfl hd rfl q_) H
theorem gs.ladd {x y : Int64} (h : At T m c below) (hx : p.tables.exec = Jvm.exec) (hd : decode c.code pc = .ok (.ladd, 1)) (H : Go p e below R (T.setTop (mkF m (pc + 1) Ls (.long (x + y) :: rest)))) : Go p e below R (T.setTop (mkF m pc Ls (.long y :: .long x :: rest))) := Go.step (fun _ q_ => XS.ladd h hx rfl hd rfl q_) H
theorem gs.isub {x y : Int32} (h : At T m c below) (hx : p.tables.exec = Jvm.exec) (hd : decode c.code pc = .ok (.isub, 1)) (H : Go p e below R (T.setTop (mkF m (pc + 1) Ls (.int (x - y) :: rest)))) : Go p e below R (T.setTop (mkF m pc Ls (.int y :: .int x :: rest))) := Go.step (fun _ q_ => XS.isub h hx rfl hd rfl q_) H
theorem gs.lsub {x y : Int64} (h : At T m c below) (hx : p.tables.exec = Jvm.exec) (hd : decode c.code pc = .ok (.lsub, 1)) (H : Go p e below R (T.setTop (mkF m (pc + 1) Ls (.long (x - y) :: rest)))) : Go p e below R (T.setTop (mkF m pc Ls (.long y :: .long x :: rest))) := Go.step (fun _ q_ => XS.lsub h hx rfl hd rfl q_) H
theorem gs.imul {x y : Int32} (h : At T m c below) (hx : p.tables.exec = Jvm.exec) (hd : decode c.code pc = .ok (.imul, 1)) (H : Go p e below R (T.setTop (mkF m (pc + 1) Ls (.int (x * y) :: rest)))) : Go p e below R (T.setTop (mkF m pc Ls (.int y :: .int x :: rest))) := Go.step (fun _ q_ => XS.imul h hx rfl hd rfl q_) H
theorem gs.lmul {x y : Int64} (h : At T m c below) (hx : p.tables.exec = Jvm.exec) (hd : decode c.code pc = .ok (.lmul, 1)) (H : Go p e below R (T.setTop (mkF m (pc + 1) Ls (.long (x * y) :: rest)))) : Go p e below R (T.setTop (mkF m pc Ls (.long y :: .long x :: rest))) := Go.step (fun _ q_ => XS.lmul h hx rfl hd rfl q_) H
theorem gs.iand {x y : Int32} (h : At T m c below) (hx : p.tables.exec = Jvm.exec) (hd : decode c.code pc = .ok (.iand, 1)) (H : Go p e below R (T.setTop (mkF m (pc + 1) Ls (.int (x &&& y) :: rest)))) : Go p e below R (T.setTop (mkF m pc Ls (.int y :: .int x :: rest))) := Go.step (fun _ q_ => XS.iand h hx rfl hd rfl q_) H
theorem gs.land {x y : Int64} (h : At T m c below) (hx : p.tables.exec = Jvm.exec) (hd : decode c.code pc = .ok (.land, 1)) (H : Go p e below R (T.setTop (mkF m (pc + 1) Ls (.long (x &&& y) :: rest)))) : Go p e below R (T.setTop (mkF m pc Ls (.long y :: .long x :: rest))) := Go.step (fun _ q_ => XS.land h hx rfl hd rfl q_) H
theorem gs.ior {x y : Int32} (h : At T m c below) (hx : p.tables.exec = Jvm.exec) (hd : decode c.code pc = .ok (.ior, 1)) (H : Go p e below R (T.setTop (mkF m (pc + 1) Ls (.int (x ||| y) :: rest)))) : Go p e below R (T.setTop (mkF m pc Ls (.int y :: .int x :: rest))) := Go.step (fun _ q_ => XS.ior h hx rfl hd rfl q_) H
theorem gs.lor {x y : Int64} (h : At T m c below) (hx : p.tables.exec = Jvm.exec) (hd : decode c.code pc = .ok (.lor, 1)) (H : Go p e below R (T.setTop (mkF m (pc + 1) Ls (.long (x ||| y) :: rest)))) : Go p e below R (T.setTop (mkF m pc Ls (.long y :: .long x :: rest))) := Go.step (fun _ q_ => XS.lor h hx rfl hd rfl q_) H
theorem gs.ixor {x y : Int32} (h : At T m c below) (hx : p.tables.exec = Jvm.exec) (hd : decode c.code pc = .ok (.ixor, 1)) (H : Go p e below R (T.setTop (mkF m (pc + 1) Ls (.int (x ^^^ y) :: rest)))) : Go p e below R (T.setTop (mkF m pc Ls (.int y :: .int x :: rest))) := Go.step (fun _ q_ => XS.ixor h hx rfl hd rfl q_) H
theorem gs.lxor {x y : Int64} (h : At T m c below) (hx : p.tables.exec = Jvm.exec) (hd : decode c.code pc = .ok (.lxor, 1)) (H : Go p e below R (T.setTop (mkF m (pc + 1) Ls (.long (x ^^^ y) :: rest)))) : Go p e below R (T.setTop (mkF m pc Ls (.long y :: .long x :: rest))) := Go.step (fun _ q_ => XS.lxor h hx rfl hd rfl q_) H
theorem gs.dup {x : Value} (h : At T m c below) (hx : p.tables.exec = Jvm.exec) (hd : decode c.code pc = .ok (.dup, 1)) (hc : x.category = 1) (H : Go p e below R (T.setTop (mkF m (pc + 1) Ls (x :: x :: rest)))) : Go p e below R (T.setTop (mkF m pc Ls (x :: rest))) := Go.step (fun _ q_ => XS.dup h hx rfl hd rfl hc q_) H
theorem gs.pop {x : Value} (h : At T m c below) (hx : p.tables.exec = Jvm.exec) (hd : decode c.code pc = .ok (.pop, 1)) (hc : x.category = 1) (H : Go p e below R (T.setTop (mkF m (pc + 1) Ls rest))) : Go p e below R (T.setTop (mkF m pc Ls (x :: rest))) := Go.step (fun _ q_ => XS.pop h hx rfl hd rfl hc q_) H
theorem gs.dup2 {x y : Value} (h : At T m c below) (hx : p.tables.exec = Jvm.exec) (hd : decode c.code pc = .ok (.dup2, 1)) (hc : x.category = 1) (hc' : y.category = 1) (H : Go p e below R (T.setTop (mkF m (pc + 1) Ls (x :: y :: x :: y :: rest)))) : Go p e below R (T.setTop (mkF m pc Ls (x :: y :: rest))) := Go.step (fun _ q_ => XT.dup2 h hx rfl hd rfl hc hc' q_) H
theorem gs.goto {o : Int} (q : Nat) (h : At T m c below) (hx : p.tables.exec = Jvm.exec) (hd : decode c.code pc = .ok (.goto o, 3)) (hp : (pc : Int) + o = (q : Int)) (H : Go p e below R (T.setTop (mkF m q Ls rest))) : Go p e below R (T.setTop (mkF m pc Ls rest)) := Go.step (fun _ q_ => XS.goto h hx rfl rfl hd (by rw [hp]; exact Int.natCast_nonneg _) (by rw [hp]; rfl) q_) H
theorem gs.ifYes {cd : ClassFile.Cond} {x : Int32} {o : Int} (q : Nat) (h : At T m c below) (hx : p.tables.exec = Jvm.exec) (hd : decode c.code pc = .ok (.ifCond cd o, 3)) (hc : ifCond.holds cd x = true) (hp : (pc : Int) + o = (q : Int)) (H : Go p e below R (T.setTop (mkF m q Ls rest))) : Go p e below R (T.setTop (mkF m pc Ls (.int x :: rest))) := Go.step (fun _ q_ => XS.ifYes h hx rfl rfl hd rfl hc (by rw [hp]; exact Int.natCast_nonneg _) (by rw [hp]; rfl) q_) H
theorem gs.ifNo {cd : ClassFile.Cond} {x : Int32} {o : Int} (h : At T m c below) (hx : p.tables.exec = Jvm.exec) (hd : decode c.code pc = .ok (.ifCond cd o, 3)) (hc : ifCond.holds cd x = false) (H : Go p e below R (T.setTop (mkF m (pc + 3) Ls rest))) : Go p e below R (T.setTop (mkF m pc Ls (.int x :: rest))) := Go.step (fun _ q_ => XS.ifNo h hx rfl hd rfl hc q_) H
theorem gs.icmpYes {cd : ClassFile.Cond} {x y : Int32} {o : Int} (q : Nat) (h : At T m c below) (hx : p.tables.exec = Jvm.exec) (hd : decode c.code pc = .ok (.if_icmp cd o, 3)) (hc : if_icmp.holds cd x y = true) (hp : (pc : Int) + o = (q : Int)) (H : Go p e below R (T.setTop (mkF m q Ls rest))) : Go p e below R (T.setTop (mkF m pc Ls (.int y :: .int x :: rest))) := Go.step (fun _ q_ => XS.icmpYes h hx rfl rfl hd rfl hc (by rw [hp]; exact Int.natCast_nonneg _) (by rw [hp]; rfl) q_) H
theorem gs.icmpNo {cd : ClassFile.Cond} {x y : Int32} {o : Int} (h : At T m c below) (hx : p.tables.exec = Jvm.exec) (hd : decode c.code pc = .ok (.if_icmp cd o, 3)) (hc : if_icmp.holds cd x y = false) (H : Go p e below R (T.setTop (mkF m (pc + 3) Ls rest))) : Go p e below R (T.setTop (mkF m pc Ls (.int y :: .int x :: rest))) := Go.step (fun _ q_ => XS.icmpNo h hx rfl hd rfl hc q_) H
theorem Go.fin {T' : State} {stk S' : List Value} {q : Nat} (k : ∀ t, Steps p.tables e below (T'.setTop { mkF m pc Ls stk with pc := q, stack := S' }) t → Steps p.tables e below (T.setTop (mkF m pc Ls stk)) t) (H : Go p e below R (T'.setTop (mkF m q Ls S'))) : Go p e below R (T.setTop (mkF m pc Ls stk)) := Go.step k H
end GS
section GS2
variable {p : Program} {l : Launch} {e : Env} {Rm : Room} {s : State} {m : MethodId} {args : Array Value} {below : List Frame} {meth : Method} {c : Code} {T : State} {locs : List Loc} {cells slots : Nat} {Z : State} {a0 : Array Value} {h : Heap} {R : State → Outcome → Prop} {pc : Nat} {Ls : Array Slot} {rest : List Value}
theorem gs.getF (X : Stand p l e Rm s m args below meth c T locs cells slots) (hx : p.tables.exec = Jvm.exec) (hZ : Z.Warmed39 s.vm) {own R0 O n d : String} {index : Nat} (hown : s.vm.findClass own = some m.cls) (w : (Cond.fieldLink own index R0 n d).before a0 Z = true) (via : Via Z R0 O n d) (eT : T.heap = h) {a : Addr} {v : Value} (F : Fld Z h a O n d v) (hd : decode c.code pc = .ok (.getfield index, 3)) (H : ∀ T', Stand p l e Rm s m args below meth c T' locs cells slots → T'.heap = h → Go p e below R (T'.setTop (mkF m (pc + 3) Ls (v :: rest)))) : Go p e below R (T.setTop (mkF m pc Ls (.ref a :: rest))) := by
  obtain ⟨T', X', e', k⟩ := Jvm.RoadKit.getF X hx hZ hown (host := "") (Or.inl w) via eT F (g := mkF m pc Ls (.ref a :: rest)) rfl rfl hd
  exact Go.step k (H T' X' e')
theorem gs.getN (X : Stand p l e Rm s m args below meth c T locs cells slots) (hx : p.tables.exec = Jvm.exec) (hZ : Z.Warmed39 s.vm) {own R0 O n d host : String} {index : Nat} (hown : s.vm.findClass own = some m.cls) (w : (Cond.fieldLinkNest own index R0 n d host).before a0 Z = true) (via : Via Z R0 O n d) (eT : T.heap = h) {a : Addr} {v : Value} (F : Fld Z h a O n d v) (hd : decode c.code pc = .ok (.getfield index, 3)) (H : ∀ T', Stand p l e Rm s m args below meth c T' locs cells slots → T'.heap = h → Go p e below R (T'.setTop (mkF m (pc + 3) Ls (v :: rest)))) : Go p e below R (T.setTop (mkF m pc Ls (.ref a :: rest))) := by
  obtain ⟨T', X', e', k⟩ := Jvm.RoadKit.getF X hx hZ hown (Or.inr w) via eT F (g := mkF m pc Ls (.ref a :: rest)) rfl rfl hd
  exact Go.step k (H T' X' e')
end GS2
section GS3
variable {p : Program} {l : Launch} {e : Env} {Rm : Room} {s : State} {m : MethodId} {args : Array Value} {below : List Frame} {meth : Method} {c : Code} {T : State} {locs : List Loc} {cells slots : Nat} {Z : State} {a0 : Array Value} {h : Heap} {R : State → Outcome → Prop} {pc : Nat} {Ls : Array Slot} {rest stk argsL : List Value} {own C : String} {index count : Nat} {y z : MethodName} {bytes : ByteArray} {maxL : Nat} {ret : Option FieldType} {rm : Room} {as' : Array Value} {Q : Option Value → Heap → List Loc → Prop} {b : Addr}

theorem gs.stat (W : Nat) (X : Stand p l e Rm s m args below meth c T locs cells slots) (hx : p.tables.exec = Jvm.exec) (hZ : Z.Warmed39 s.vm) (hown : s.vm.findClass own = some m.cls) (hM : MetFree l y (head1 [Cond.code y bytes maxL ret] rm) (fun a U => a = as' ∧ Z.Warmed39 U.vm ∧ U.heap = h) (fun _ _ _ _ _ => True) (fun _ U o U' => ∃ v L, o = .returned v ∧ Q v U'.heap L ∧ FrameEnd U o U' L rm.cells rm.slots)) (wc : (Cond.code y bytes maxL ret).before a0 Z = true) (wz : (Cond.initialized y.cls).before a0 Z = true) (w1 : (Cond.methodLink own index y).before a0 Z = true) (w2 : (Cond.static y).before a0 Z = true) (hy : y.cls ≠ "java/lang/invoke/MethodHandle" ∧ y.cls ≠ "java/lang/invoke/VarHandle") (hf : rm.frames + 1 ≤ Rm.frames) (hl : W + (maxL + 11) + rm.locals ≤ Rm.locals) (hml : Ls.size = c.maxLocals) (argsL : List Value) (hlen : ∀ sig, parseMethodDescriptor y.desc = some sig → argsL.length = sig.parameters.length) (hst : stk = argsL.reverse ++ rest) (hW : (rest.map fun v => v.category).sum ≤ W) (hd : decode c.code pc = .ok (.invokestatic index, 3)) (has : (argsL).toArray = as') (eT : T.heap = h) (hc : cells + rm.cells ≤ Rm.cells) (hs : slots + rm.slots ≤ Rm.slots) (H : ∀ (T' : State) (Lc : List Loc) (v : Option Value), Stand p l e Rm s m args below meth c T' (locs ++ Lc) (cells + rm.cells) (slots + rm.slots) → Q v T'.heap Lc → Go p e below R (T'.setTop (mkF m (pc + 3) Ls (v.toList ++ rest)))) : Go p e below R (T.setTop (mkF m pc Ls stk)) := by
  obtain ⟨v, _, ⟨T', L', k', n'⟩, -, X', ⟨Lc, hQ, l1, l2, l3⟩, st⟩ := Jvm.LawKit.callS X hx hown (mvT hZ w1) (mvT hZ w2) (mvT hZ wz) (mvT hZ wc) hy (backOf (W := W) hM hZ wc wz hf hl) (g := mkF m pc Ls stk) rfl hml (argsL := argsL) (rest := rest) hlen hst (by show 2 * 0 + _ ≤ _; omega) hd (fun _ _ => ⟨has, eT, hc, hs⟩)
  dsimp only [Pt.U, Pt.locs, Pt.cells, Pt.slots] at X' l1 l2 l3 st hQ
  subst l1 l2 l3
  exact Go.step st (H T' Lc v X' hQ)
theorem gs.init (W : Nat) (X : Stand p l e Rm s m args below meth c T locs cells slots) (hx : p.tables.exec = Jvm.exec) (hZ : Z.Warmed39 s.vm) (hown : s.vm.findClass own = some m.cls) (hM : MetFree l y (head1 [Cond.code y bytes maxL none] rm) (fun a U => a = as' ∧ Z.Warmed39 U.vm ∧ U.heap = h) (fun _ _ _ _ _ => True) (fun _ U o U' => ∃ v L, o = .returned v ∧ Q v U'.heap L ∧ FrameEnd U o U' L rm.cells rm.slots)) (wc : (Cond.code y bytes maxL none).before a0 Z = true) (wz : (Cond.initialized y.cls).before a0 Z = true) (w1 : (Cond.methodLink own index y).before a0 Z = true) (h1 : y.name = "<init>") (w2 : (Cond.instanceMethod y).before a0 Z = true) (hy : y.cls ≠ "java/lang/invoke/MethodHandle" ∧ y.cls ≠ "java/lang/invoke/VarHandle") (hf : rm.frames + 1 ≤ Rm.frames) (hl : W + (maxL + 11) + rm.locals ≤ Rm.locals) (hml : Ls.size = c.maxLocals) (argsL : List Value) (hlen : ∀ sig, parseMethodDescriptor y.desc = some sig → argsL.length = sig.parameters.length) (hst : stk = argsL.reverse ++ .ref b :: rest) (hW : (rest.map fun v => v.category).sum ≤ W) (hd : decode c.code pc = .ok (.invokespecial index, 3)) (has : (.ref b :: argsL).toArray = as') (eT : T.heap = h) (hc : cells + rm.cells ≤ Rm.cells) (hs : slots + rm.slots ≤ Rm.slots) (H : ∀ (T' : State) (Lc : List Loc) (v : Option Value), Stand p l e Rm s m args below meth c T' (locs ++ Lc) (cells + rm.cells) (slots + rm.slots) → Q v T'.heap Lc → Go p e below R (T'.setTop (mkF m (pc + 3) Ls (v.toList ++ rest)))) : Go p e below R (T.setTop (mkF m pc Ls stk)) := by
  obtain ⟨v, _, ⟨T', L', k', n'⟩, -, X', ⟨Lc, hQ, l1, l2, l3⟩, st⟩ := X.specialBack hx h1 hown (mvT hZ w1) (mvT hZ w2) (mvT hZ wc) hy (backOf (W := W) hM hZ wc wz hf hl) (g := mkF m pc Ls stk) rfl hml (Steps.refl _) (a := b) (argsL := argsL) (rest := rest) hlen hst (by show 2 * 0 + _ ≤ _; omega) hd (fun _ _ => ⟨has, eT, hc, hs⟩)
  dsimp only [Pt.U, Pt.locs, Pt.cells, Pt.slots] at X' l1 l2 l3 st hQ
  subst l1 l2 l3
  exact Go.step (fun _ k => st.trans k) (H T' Lc v X' hQ)
theorem gs.priv (W : Nat) (X : Stand p l e Rm s m args below meth c T locs cells slots) (hx : p.tables.exec = Jvm.exec) (hZ : Z.Warmed39 s.vm) (hown : s.vm.findClass own = some m.cls) (hM : MetFree l y (head1 [Cond.code y bytes maxL ret] rm) (fun a U => a = as' ∧ Z.Warmed39 U.vm ∧ U.heap = h) (fun _ _ _ _ _ => True) (fun _ U o U' => ∃ v L, o = .returned v ∧ Q v U'.heap L ∧ FrameEnd U o U' L rm.cells rm.slots)) (wc : (Cond.code y bytes maxL ret).before a0 Z = true) (wz : (Cond.initialized y.cls).before a0 Z = true) (w1 : (Cond.methodLink own index y).before a0 Z = true) (w2 : (Cond.instanceMethod y).before a0 Z = true) (hsel : (Cond.selects y.cls y y).before args s = true) (w3 : (Cond.privateMethod y).before a0 Z = true) (hy : y.cls ≠ "java/lang/invoke/MethodHandle" ∧ y.cls ≠ "java/lang/invoke/VarHandle") (E : Exa Z h b C) (hf : rm.frames + 1 ≤ Rm.frames) (hl : W + (maxL + 11) + rm.locals ≤ Rm.locals) (hml : Ls.size = c.maxLocals) (argsL : List Value) (hlen : ∀ sig, parseMethodDescriptor y.desc = some sig → argsL.length = sig.parameters.length) (hst : stk = argsL.reverse ++ .ref b :: rest) (hW : (rest.map fun v => v.category).sum ≤ W) (hd : decode c.code pc = .ok (.invokevirtual index, 3)) (has : (.ref b :: argsL).toArray = as') (eT : T.heap = h) (hc : cells + rm.cells ≤ Rm.cells) (hs : slots + rm.slots ≤ Rm.slots) (H : ∀ (T' : State) (Lc : List Loc) (v : Option Value), Stand p l e Rm s m args below meth c T' (locs ++ Lc) (cells + rm.cells) (slots + rm.slots) → Q v T'.heap Lc → Go p e below R (T'.setTop (mkF m (pc + 3) Ls (v.toList ++ rest)))) : Go p e below R (T.setTop (mkF m pc Ls stk)) := by
  obtain ⟨cq, q, q'⟩ := E.cell
  obtain ⟨v, _, ⟨T', L', k', n'⟩, -, X', ⟨Lc, hQ, l1, l2, l3⟩, st⟩ := X.privateBack hx hown (mvT hZ w1) (mvT hZ w2) hsel (Cond.privateMethod_at (mvP hZ w3 (args := #[]))) (mvT hZ wc) hy (backOf (W := W) hM hZ wc wz hf hl) (g := mkF m pc Ls stk) rfl hml (Steps.refl _) (a := b) (by rw [eT]; exact q) q' (argsL := argsL) (rest := rest) hlen hst (by show 2 * 0 + _ ≤ _; omega) hd (fun _ _ => ⟨has, eT, hc, hs⟩)
  dsimp only [Pt.U, Pt.locs, Pt.cells, Pt.slots] at X' l1 l2 l3 st hQ
  subst l1 l2 l3
  exact Go.step (fun _ k => st.trans k) (H T' Lc v X' hQ)
theorem gs.virt (W : Nat) (X : Stand p l e Rm s m args below meth c T locs cells slots) (hx : p.tables.exec = Jvm.exec) (hZ : Z.Warmed39 s.vm) (hown : s.vm.findClass own = some m.cls) (hM : MetFree l z (head1 [Cond.code z bytes maxL ret] rm) (fun a U => a = as' ∧ Z.Warmed39 U.vm ∧ U.heap = h) (fun _ _ _ _ _ => True) (fun _ U o U' => ∃ v L, o = .returned v ∧ Q v U'.heap L ∧ FrameEnd U o U' L rm.cells rm.slots)) (wc : (Cond.code z bytes maxL ret).before a0 Z = true) (wz : (Cond.initialized z.cls).before a0 Z = true) (w1 : (Cond.methodLink own index y).before a0 Z = true) (w2 : (Cond.declares y).before a0 Z = true) (hnf : NotFace s y) (w3 : (Cond.selects C y z).before a0 Z = true) (w4 : (Cond.instanceMethod z).before a0 Z = true) (hy : y.cls ≠ "java/lang/invoke/MethodHandle" ∧ y.cls ≠ "java/lang/invoke/VarHandle") (E : Exa Z h b C) (hf : rm.frames + 1 ≤ Rm.frames) (hl : W + (maxL + 11) + rm.locals ≤ Rm.locals) (hml : Ls.size = c.maxLocals) (argsL : List Value) (hlen : ∀ sig, parseMethodDescriptor y.desc = some sig → argsL.length = sig.parameters.length) (hst : stk = argsL.reverse ++ .ref b :: rest) (hW : (rest.map fun v => v.category).sum ≤ W) (hd : decode c.code pc = .ok (.invokevirtual index, 3)) (has : (.ref b :: argsL).toArray = as') (eT : T.heap = h) (hc : cells + rm.cells ≤ Rm.cells) (hs : slots + rm.slots ≤ Rm.slots) (H : ∀ (T' : State) (Lc : List Loc) (v : Option Value), Stand p l e Rm s m args below meth c T' (locs ++ Lc) (cells + rm.cells) (slots + rm.slots) → Q v T'.heap Lc → Go p e below R (T'.setTop (mkF m (pc + 3) Ls (v.toList ++ rest)))) : Go p e below R (T.setTop (mkF m pc Ls stk)) := by
  obtain ⟨cq, kq, qa, qb, qc⟩ := isOf hZ eT E
  obtain ⟨v, _, ⟨T', L', k', n'⟩, -, X', ⟨Lc, hQ, l1, l2, l3⟩, st⟩ := X.virtualBack hx hown (mvT hZ w1) (mvT hZ w2) hnf (mvT hZ w3) (mvT hZ w4) hy (backOf (W := W) hM hZ wc wz hf hl) qa qc (g := mkF m pc Ls stk) rfl hml (Steps.refl _) (argsL := argsL) (rest := rest) hlen hst (by show 2 * 0 + _ ≤ _; omega) hd (fun _ _ => ⟨has, eT, hc, hs⟩)
  dsimp only [Pt.U, Pt.locs, Pt.cells, Pt.slots] at X' l1 l2 l3 st hQ
  subst l1 l2 l3
  exact Go.step (fun _ k => st.trans k) (H T' Lc v X' hQ)
theorem gs.face (W : Nat) (X : Stand p l e Rm s m args below meth c T locs cells slots) (hx : p.tables.exec = Jvm.exec) (hZ : Z.Warmed39 s.vm) (hown : s.vm.findClass own = some m.cls) (hM : MetFree l z (head1 [Cond.code z bytes maxL ret] rm) (fun a U => a = as' ∧ Z.Warmed39 U.vm ∧ U.heap = h) (fun _ _ _ _ _ => True) (fun _ U o U' => ∃ v L, o = .returned v ∧ Q v U'.heap L ∧ FrameEnd U o U' L rm.cells rm.slots)) (wc : (Cond.code z bytes maxL ret).before a0 Z = true) (wz : (Cond.initialized z.cls).before a0 Z = true) (w1 : (Cond.methodLink own index y).before a0 Z = true) (w2 : (Cond.declares y).before a0 Z = true) (w3 : (Cond.interfaceMethod y.cls y.cls y.name y.desc).before args s = true) (w4 : (Cond.selects C y z).before a0 Z = true) (w5 : (Cond.instanceMethod z).before a0 Z = true) (w6 : (Cond.publicMethod z).before a0 Z = true) (w7 : (Cond.unhidden C y.name y.desc).before a0 Z = true) (w8 : (Cond.castable C y.cls).before a0 Z = true) (hy : y.cls ≠ "java/lang/invoke/MethodHandle" ∧ y.cls ≠ "java/lang/invoke/VarHandle") (E : Exa Z h b C) (hf : rm.frames + 1 ≤ Rm.frames) (hl : W + (maxL + 11) + rm.locals ≤ Rm.locals) (hml : Ls.size = c.maxLocals) (argsL : List Value) (hlen : ∀ sig, parseMethodDescriptor y.desc = some sig → argsL.length = sig.parameters.length) (hst : stk = argsL.reverse ++ .ref b :: rest) (hW : (rest.map fun v => v.category).sum ≤ W) (hd : decode c.code pc = .ok (.invokeinterface index count, 5)) (has : (.ref b :: argsL).toArray = as') (eT : T.heap = h) (hc : cells + rm.cells ≤ Rm.cells) (hs : slots + rm.slots ≤ Rm.slots) (H : ∀ (T' : State) (Lc : List Loc) (v : Option Value), Stand p l e Rm s m args below meth c T' (locs ++ Lc) (cells + rm.cells) (slots + rm.slots) → Q v T'.heap Lc → Go p e below R (T'.setTop (mkF m (pc + 5) Ls (v.toList ++ rest)))) : Go p e below R (T.setTop (mkF m pc Ls stk)) := by
  obtain ⟨cq, kq, qa, qb, qc⟩ := isOf hZ eT E
  obtain ⟨v, _, ⟨T', L', k', n'⟩, -, X', ⟨Lc, hQ, l1, l2, l3⟩, st⟩ := X.interfaceBack hx hown (mvT hZ w1) (mvT hZ w2) w3 (mvT hZ w4) (mvT hZ w5) (mvT hZ w6) (mvT hZ w7) (mvT hZ w8) hy (backOf (W := W) hM hZ wc wz hf hl) qa qb qc (g := mkF m pc Ls stk) rfl hml (Steps.refl _) (argsL := argsL) (rest := rest) hlen hst (by show 2 * 0 + _ ≤ _; omega) hd (fun _ _ => ⟨has, eT, hc, hs⟩)
  dsimp only [Pt.U, Pt.locs, Pt.cells, Pt.slots] at X' l1 l2 l3 st hQ
  subst l1 l2 l3
  exact Go.step (fun _ k => st.trans k) (H T' Lc v X' hQ)
end GS3
abbrev y_1 : MethodName := ⟨"java/util/ArrayList", "<init>", "()V"⟩
abbrev c_1 : ByteArray := jdk_38_method_2_code
abbrev y_2 : MethodName := ⟨"java/util/AbstractList", "<init>", "()V"⟩
abbrev c_2 : ByteArray := jdk_39_method_1_code
abbrev y_3 : MethodName := ⟨"java/util/AbstractCollection", "<init>", "()V"⟩
abbrev c_3 : ByteArray := jdk_22_method_1_code
abbrev y_4 : MethodName := ⟨"java/lang/Object", "<init>", "()V"⟩
abbrev c_4 : ByteArray := object_method_1_code
abbrev y_5 : MethodName := ⟨"com/example/monarc/monarc/InitialDomain", "range", "(II)Lcom/example/monarc/monarc/InitialDomain;"⟩
abbrev c_5 : ByteArray := prog_20_method_2_code
abbrev y_6 : MethodName := ⟨"com/example/monarc/monarc/InitialDomain", "<init>", "(IJ[I)V"⟩
abbrev c_6 : ByteArray := prog_20_method_1_code
abbrev y_7 : MethodName := ⟨"com/example/monarc/monarc/Variable", "<init>", "(Ljava/lang/String;ILcom/example/monarc/monarc/InitialDomain;)V"⟩
abbrev c_7 : ByteArray := prog_76_method_1_code
abbrev y_8 : MethodName := ⟨"com/example/monarc/monarc/Term", "<init>", "()V"⟩
abbrev c_8 : ByteArray := prog_70_method_1_code
abbrev y_9 : MethodName := ⟨"java/util/ArrayList", "add", "(Ljava/lang/Object;)Z"⟩
abbrev c_9 : ByteArray := jdk_38_method_25_code
abbrev y_10 : MethodName := ⟨"java/util/ArrayList", "add", "(Ljava/lang/Object;[Ljava/lang/Object;I)V"⟩
abbrev c_10 : ByteArray := jdk_38_method_24_code
abbrev y_11 : MethodName := ⟨"java/util/ArrayList", "grow", "()[Ljava/lang/Object;"⟩
abbrev c_11 : ByteArray := jdk_38_method_7_code
abbrev y_12 : MethodName := ⟨"java/util/ArrayList", "grow", "(I)[Ljava/lang/Object;"⟩
abbrev c_12 : ByteArray := jdk_38_method_6_code
abbrev y_13 : MethodName := ⟨"java/lang/Math", "max", "(II)I"⟩
abbrev c_13 : ByteArray := jdk_29_method_65_code
abbrev y_14 : MethodName := ⟨"com/example/monarc/monarc/Domains", "<init>", "(Ljava/util/List;)V"⟩
abbrev c_14 : ByteArray := prog_11_method_1_code
abbrev y_15 : MethodName := ⟨"java/util/ArrayList", "size", "()I"⟩
abbrev c_15 : ByteArray := jdk_38_method_8_code
abbrev y_16 : MethodName := ⟨"java/util/ArrayList", "get", "(I)Ljava/lang/Object;"⟩
abbrev c_16 : ByteArray := jdk_38_method_20_code
abbrev y_17 : MethodName := ⟨"java/util/Objects", "checkIndex", "(II)I"⟩
abbrev c_17 : ByteArray := jdk_31_method_17_code
abbrev y_18 : MethodName := ⟨"jdk/internal/util/Preconditions", "checkIndex", "(IILjava/util/function/BiFunction;)I"⟩
abbrev c_18 : ByteArray := jdk_41_method_11_code
abbrev y_19 : MethodName := ⟨"java/util/ArrayList", "elementData", "(I)Ljava/lang/Object;"⟩
abbrev c_19 : ByteArray := jdk_38_method_18_code
abbrev y_20 : MethodName := ⟨"com/example/monarc/monarc/Variable", "domain", "()Lcom/example/monarc/monarc/InitialDomain;"⟩
abbrev c_20 : ByteArray := prog_76_method_4_code
abbrev y_21 : MethodName := ⟨"com/example/monarc/monarc/InitialDomain", "size", "()I"⟩
abbrev c_21 : ByteArray := prog_20_method_5_code
abbrev y_22 : MethodName := ⟨"com/example/monarc/monarc/Domains", "remove", "(II)V"⟩
abbrev c_22 : ByteArray := prog_11_method_19_code
abbrev y_23 : MethodName := ⟨"java/util/Arrays", "fill", "([JJ)V"⟩
abbrev c_23 : ByteArray := jdk_65_method_101_code
abbrev y_24 : MethodName := ⟨"com/example/monarc/monarc/Domains", "resize", "(II)V"⟩
abbrev c_24 : ByteArray := prog_11_method_25_code
abbrev y_25 : MethodName := ⟨"com/example/monarc/monarc/Domains", "record", "(III)V"⟩
abbrev c_25 : ByteArray := prog_11_method_26_code
abbrev y_26 : MethodName := ⟨"com/example/monarc/monarc/Domains", "raiseLower", "(II)V"⟩
abbrev c_26 : ByteArray := prog_11_method_23_code
abbrev y_27 : MethodName := ⟨"com/example/monarc/monarc/Domains", "countNotHoles", "(III)I"⟩
abbrev c_27 : ByteArray := prog_11_method_16_code
abbrev y_28 : MethodName := ⟨"com/example/monarc/monarc/Domains", "trailSize", "()I"⟩
abbrev c_28 : ByteArray := prog_11_method_27_code
abbrev y_29 : MethodName := ⟨"com/example/monarc/monarc/Domains", "holeMadeAt", "(I)I"⟩
abbrev c_29 : ByteArray := prog_11_method_29_code
abbrev y_30 : MethodName := ⟨"com/example/monarc/monarc/DomainsHoleMadeAtPinLaw", "expected", "(II)I"⟩
abbrev c_30 : ByteArray := method_2_code
abbrev y_31 : MethodName := ⟨"com/example/monarc/monarc/Domains", "leftFrom", "(II)I"⟩
abbrev c_31 : ByteArray := prog_11_method_14_code
abbrev y_32 : MethodName := ⟨"com/example/monarc/monarc/Domains", "lowerUpper", "(II)V"⟩
abbrev c_32 : ByteArray := prog_11_method_24_code
abbrev y_33 : MethodName := ⟨"com/example/monarc/monarc/Domains", "leftUpTo", "(II)I"⟩
abbrev c_33 : ByteArray := prog_11_method_15_code
theorem i32_is {k : Int32} (z : Int32) (h : k.toInt = z.toInt) : k = z := Int32.toInt_inj.mp h
theorem rem_bd (x m : Int32) (hm : 0 < m.toInt) : 0 ≤ ((x &&& (2147483647 : Int32)) % m).toInt ∧ ((x &&& (2147483647 : Int32)) % m).toInt < m.toInt := by
  have e1 : (x &&& (2147483647 : Int32)).toInt = x.toInt % 2 ^ 31 := Jvm.Kit.i32_mask x 2147483647 (k := 31) (by decide) (by decide)
  have h0 : 0 ≤ (x &&& (2147483647 : Int32)).toInt := by rw [e1]; exact Int.emod_nonneg _ (by decide)
  rw [Jvm.Kit.i32_rem_nonneg h0]
  exact ⟨Int.emod_nonneg _ (by omega), Int.emod_lt_of_pos _ hm⟩

theorem lw_of_lt {x y : Int64} (h : x < y) : lcmpW x y = -1 := by
  have h1 : ¬ x > y := by show ¬ y < x; rw [Int64.lt_iff_toInt_lt] at h ⊢; omega
  have h2 : ¬ x = y := by intro q; subst q; rw [Int64.lt_iff_toInt_lt] at h; omega
  show (if x > y then (1 : Int32) else if x = y then 0 else -1) = -1
  rw [if_neg h1, if_neg h2]
theorem lw_of_gt {x y : Int64} (h : y < x) : lcmpW x y = 1 := by
  show (if x > y then (1 : Int32) else if x = y then 0 else -1) = 1
  rw [if_pos h]
theorem lw_of_eq {x y : Int64} (h : x = y) : lcmpW x y = 0 := by
  subst h
  have h1 : ¬ x > x := by show ¬ x < x; rw [Int64.lt_iff_toInt_lt]; omega
  show (if x > x then (1 : Int32) else if x = x then 0 else -1) = 0
  rw [if_neg h1, if_pos rfl]
theorem tri (x y : Int64) : x < y ∨ x = y ∨ y < x := by
  rcases Int.lt_trichotomy x.toInt y.toInt with h | h | h
  · exact Or.inl (Int64.lt_iff_toInt_lt.mpr h)
  · exact Or.inr (Or.inl (Int64.toInt_inj.mp h))
  · exact Or.inr (Or.inr (Int64.lt_iff_toInt_lt.mpr h))
theorem eq_ref {args : Array Value} {s : State} {t u : Term} {b : Addr} (h : (Jvm.Cond.eq t u).value args s none s [] = some true) (hu : u.eval args s none [] s = some (.ref b)) : t.eval args s none [] s = some (.ref b) := by
  simp only [Cond.value, hu] at h
  cases e : t.eval args s none [] s with
  | none => simp [e] at h
  | some v => cases v <;> simp_all
theorem len_start {args : Array Value} {s : State} {t : Term} {a : Addr} {cl : Cell} {ty : FieldType} {z : Int32} (A : Arr s s.heap a cl ty) (ev : t.eval args s none [] s = some (.ref a)) (h : (Term.length t).eval args s none [] s = some (.int z)) : cl.slots.size < 2 ^ 31 ∧ cl.slots.size.toInt32 = z := by
  have ha := Arr.fin (Vm.Alike.refl s.vm) A
  have h' : (if cl.slots.size < 2147483648 then some (Value.int cl.slots.size.toInt32) else none) = some (Value.int z) := by simpa [Term.eval, ev, ha] using h
  by_cases q : cl.slots.size < 2147483648
  · rw [if_pos q] at h'; exact ⟨q, by simpa using h'⟩
  · rw [if_neg q] at h'; cases h'
theorem elem_start {args : Array Value} {s : State} {t : Term} {a b : Addr} {cl : Cell} {ty : FieldType} {j : Int32} {n : Nat} (A : Arr s s.heap a cl ty) (ev : t.eval args s none [] s = some (.ref a)) (h : (Term.elem t (.int j)).eval args s none [] s = some (.ref b)) (hj : ¬ j < 0 ∧ j.toNatClampNeg = n) : cl.slots[n]? = some (.ref b) := by
  have ha := Arr.fin (Vm.Alike.refl s.vm) A
  have q := elem_f (a := .int j) ev (Term.int_eval j) ha hj.1
  rw [hj.2] at q
  exact q.symm.trans h
def Wd (Z : State) (u_1 : Addr) (aw0 : Addr) (u_0 : ClassId) (kaw0 : ClassId) : Prop := (Exa Z Z.heap u_1 "[Ljava/lang/Object;") ∧ (Sta Z Z.heap "java/util/ArrayList" "EMPTY_ELEMENTDATA" "[Ljava/lang/Object;" (.ref u_1)) ∧ (Exa Z Z.heap aw0 "[Ljava/lang/Object;") ∧ (Sta Z Z.heap "java/util/ArrayList" "DEFAULTCAPACITY_EMPTY_ELEMENTDATA" "[Ljava/lang/Object;" (.ref aw0)) ∧ (Arv Z Z.heap u_1 u_0 (.object "java/lang/Object") (0 : Int32) [] .null) ∧ (Arv Z Z.heap aw0 kaw0 (.object "java/lang/Object") (0 : Int32) [] .null)
theorem wS_all {a0 : Array Value} {Z : State} (hw : ∀ d ∈ tables_1, d.before a0 Z = true) : ∀ a ∈ Bundle.stringAtoms, a.before a0 Z = true := fun a ha => hw a ((by decide +kernel : ∀ a ∈ Bundle.stringAtoms, a ∈ tables_1) a ha)
def mxI (x y : Int32) : Int32 := if x < y then y else x
def mnI (x y : Int32) : Int32 := if y < x then y else x
def mxL (x y : Int64) : Int64 := if lcmpW x y < (0 : Int32) then y else x
def mnL (x y : Int64) : Int64 := if (0 : Int32) < lcmpW x y then y else x
theorem mxI_toInt (x y : Int32) : (mxI x y).toInt = max x.toInt y.toInt := by
  unfold mxI; split <;> rename_i h <;> rw [Int32.lt_iff_toInt_lt] at h <;> omega
theorem mxL_toInt (x y : Int64) : (mxL x y).toInt = max x.toInt y.toInt := by
  unfold mxL; split <;> rename_i h <;> rw [lw_lt, Int64.lt_iff_toInt_lt] at h <;> omega
theorem mnL_toInt (x y : Int64) : (mnL x y).toInt = min x.toInt y.toInt := by
  unfold mnL; split <;> rename_i h <;> rw [lw_gt, Int64.lt_iff_toInt_lt] at h <;> omega
theorem d13_0 : decode c_13 0 = .ok (.iload_n 0, 1) := by decide +kernel
theorem d13_1 : decode c_13 1 = .ok (.iload_n 1, 1) := by decide +kernel
theorem d13_2 : decode c_13 2 = .ok (.if_icmp .lt 7, 3) := by decide +kernel
theorem d13_9 : decode c_13 9 = .ok (.iload_n 1, 1) := by decide +kernel
theorem d13_10 : decode c_13 10 = .ok (.ireturn, 1) := by decide +kernel
theorem d13_5 : decode c_13 5 = .ok (.iload_n 0, 1) := by decide +kernel
theorem d13_6 : decode c_13 6 = .ok (.goto 4, 3) := by decide +kernel
theorem ef_rm13 (m : MethodId) (x0 : Int32) (x1 : Int32)  : entryFrame m #[(.int x0), (.int x1)] 2 = mkF m 0 #[.val (.int x0), .val (.int x1)] [] := by first | (simp [entryFrame, mkF, argsToLocals, Value.category]; done) | rfl
def Q_rm13 (Z : State) (u_1 : Addr) (aw0 : Addr) (u_0 : ClassId) (kaw0 : ClassId) (u1 : Int32) (u2 : Int32) (res : Int32) (h0 : Heap) (n0 : Nat) (v : Option Value) (h : Heap) (L : List Loc) : Prop := v = some (.int res) ∧ Fr n0 L ∧ h = h0
set_option maxRecDepth 65536 in
set_option maxHeartbeats 40000000 in
theorem rm13 (l : Launch) (Z : State) (a0 : Array Value) (hw : ∀ d ∈ tables_1, d.before a0 Z = true) (ws : List Jvm.Cond) (u_1 : Addr) (aw0 : Addr) (u_0 : ClassId) (kaw0 : ClassId) (HW : Wd Z u_1 aw0 u_0 kaw0) (u1 : Int32) (u2 : Int32) (res : Int32) (h0 : Heap) (n0 : Nat) (Ol : Old Z n0 h0)  (hres : (if u1 < u2 then u2 else u1) = res) :
    MetFree l y_13 (head1 (Jvm.Cond.code y_13 jdk_29_method_65_code 2 (some .int) :: ws) (rm 0 0 0 0)) (fun a_ U_ => a_ = #[(.int u1), (.int u2)] ∧ Z.Warmed39 U_.vm ∧ U_.heap = h0) (fun _ _ _ _ _ => True) (fun _ U_ o_ V_ => ∃ v_ L_, o_ = .returned v_ ∧ Q_rm13 Z u_1 aw0 u_0 kaw0 u1 u2 res h0 n0 v_ V_.heap L_ ∧ FrameEnd U_ o_ V_ L_ (rm 0 0 0 0).cells (rm 0 0 0 0).slots) := by
  refine MetFree.of_bodySF (Jvm.Free.JP.mathPlain rfl (by decide +kernel)) hisR ?_
  intro p e s m args below meth c s₁ Bd hml0 hP hK
  obtain ⟨rfl, hZ, hh⟩ := hP
  have hx := Bd.exec
  have hby := Bd.bytes
  have hml : c.maxLocals = 2 := hml0
  have hown : s.vm.findClass "java/lang/Math" = some m.cls := findClass_of_methodNamed Bd.named
  have hnm := (name_of_methodNamed Bd.named Bd.method).1
  have X0 : Stand p l e (rm 0 0 0 0) s m #[(.int u1), (.int u2)] below meth c s₁ [] 0 0 := Stand.of_body Bd
  have e0 : s₁.heap = h0 := by rw [← hh, Bd.state]; rfl
  have N0 := Fr.nil n0
  have kp0 := Keep.refl h0 []
  show Go p e below (Fin1 s below (Q_rm13 Z u_1 aw0 u_0 kaw0 u1 u2 res h0 n0) (rm 0 0 0 0).cells (rm 0 0 0 0).slots) _
  refine Go.step (fun t_ k_ => castTop (ef_rm13 m u1 u2) k_) ?_
  obtain ⟨Eu_1, Su_1, Eaw0, Saw0, Au_1, Aaw0⟩ := id HW
  show Go p e below _ (s₁.setTop (mkF m 0 #[.val (.int u1), .val (.int u2)] []))
  refine gs.iloadN X0.here hx (hb hby d13_0) rfl ?_
  refine gs.iloadN X0.here hx (hb hby d13_1) rfl ?_
  by_cases hc2 : u1 < u2
  case pos =>
    refine gs.icmpYes 9 X0.here hx (hb hby d13_2) (tlt hc2).1 rfl ?_
    refine gs.iloadN X0.here hx (hb hby d13_9) rfl ?_
    refine Go.retI X0 hx Bd.returns Bd.notSynchronized (hb hby d13_10) (by rw [e0]; exact ⟨by first | (rw [← hres]; done) | (rw [← hres]; simp [if_pos hc2]; done) | (rw [← hres]; simp [hc2]; done) | (rw [← hres]; simp_all; done), N0, rfl⟩) (by decide) (by decide)
  case neg =>
    refine gs.icmpNo X0.here hx (hb hby d13_2) (flt hc2).1 ?_
    refine gs.iloadN X0.here hx (hb hby d13_5) rfl ?_
    refine gs.goto 10 X0.here hx (hb hby d13_6) rfl ?_
    refine Go.retI X0 hx Bd.returns Bd.notSynchronized (hb hby d13_10) (by rw [e0]; exact ⟨by first | (rw [← hres]; done) | (rw [← hres]; simp [if_neg hc2]; done) | (rw [← hres]; simp [hc2]; done) | (rw [← hres]; simp_all; done), N0, rfl⟩) (by decide) (by decide)
/-- an array, its components by a function -/
def Arw (Z : State) (h : Heap) (a : Addr) (k : ClassId) (ty : FieldType) (n : Int32) (f : Nat → Value) : Prop := ∃ c : Cell, Arr Z h a c ty ∧ c.cls = k ∧ c.slots.size = n.toNatClampNeg ∧ ¬ n < 0 ∧ ∀ i, i < c.slots.size → c.slots[i]? = some (f i)
abbrev Arf (Z : State) (h : Heap) (a : Addr) (k : ClassId) (n : Int32) (f : Nat → Int64) : Prop := Arw Z h a k .long n (fun i => .long (f i))
abbrev Ari (Z : State) (h : Heap) (a : Addr) (k : ClassId) (n : Int32) (f : Nat → Int32) : Prop := Arw Z h a k .int n (fun i => .int (f i))
abbrev Ara (Z : State) (h : Heap) (a : Addr) (k : ClassId) (ty : FieldType) (n : Int32) (f : Nat → Addr) : Prop := Arw Z h a k ty n (fun i => .ref (f i))
section ArfS
variable {Z : State} {h h' : Heap} {a b : Addr} {k : ClassId} {n j : Int32} {ty : FieldType} {g : Nat → Value} {f : Nat → Int64} {u : Nat → Int32} {ws : List Addr} {sl : Nat} {v : Value}
theorem Arw.lt (F : Arw Z h a k ty n g) : a < h.size := by obtain ⟨c, A, -⟩ := F; exact A.lt
theorem Arw.ext (F : Arw Z h a k ty n g) (E : Ext h h') : Arw Z h' a k ty n g := by obtain ⟨c, A, r⟩ := F; exact ⟨c, A.ext E, r⟩
theorem Arw.other (F : Arw Z h b k ty n g) (W : Wr h h' a sl v) (q : b ≠ a) : Arw Z h' b k ty n g := by obtain ⟨c, A, r⟩ := F; exact ⟨c, A.other W q, r⟩
theorem Arw.keep (F : Arw Z h a k ty n g) (K : Keep h h' ws) (q : a ∉ ws) : Arw Z h' a k ty n g := by obtain ⟨c, A, r⟩ := F; exact ⟨c, ⟨K.2.1 a c A.1 q, A.2⟩, r⟩
theorem Arf.of_arv (F : Arv Z h a k .long n [] (.long (0 : Int64))) : Arf Z h a k n (fun _ => 0) := by
  obtain ⟨c, A, q, S, N, H, -⟩ := F
  exact ⟨c, A, q, S, N, fun i hi => H i hi⟩
theorem Arw.fn {g' : Nat → Value} (F : Arw Z h a k ty n g) (e : ∀ i, i < n.toNatClampNeg → g i = g' i) : Arw Z h a k ty n g' := by
  obtain ⟨c, A, q, S, N, H⟩ := F
  exact ⟨c, A, q, S, N, fun i hi => by rw [H i hi, e i (S ▸ hi)]⟩
theorem Arw.of_list {vs : List Value} {dv : Value} (F : Arv Z h a k ty n vs dv) (e : ∀ i, i < n.toNatClampNeg → vs.getD i dv = g i) : Arw Z h a k ty n g := by
  obtain ⟨c, A, q, S, N, H, -⟩ := F
  exact ⟨c, A, q, S, N, fun i hi => by rw [H i hi, e i (S ▸ hi)]⟩
theorem Arw.set {c : Cell} {x : Value} (A : Arr Z h a c ty) (q : c.cls = k) (S : c.slots.size = n.toNatClampNeg) (N : ¬ n < 0) (H : ∀ i, i < c.slots.size → c.slots[i]? = some (g i)) (W : Wr h h' a j.toNatClampNeg x) : Arw Z h' a k ty n (fun i => if i = j.toNatClampNeg then x else g i) := by
  refine ⟨_, A.same W, q, by rw [sz_set]; exact S, N, fun i hi => ?_⟩
  rw [sz_set] at hi
  by_cases u : i = j.toNatClampNeg
  · subst u; simp [Cell.setSlot, hi]
  · simp only [Cell.setSlot, if_neg u]; rw [Array.getElem?_setIfInBounds_ne (Ne.symm u)]; exact H i hi
theorem Arf.set {c : Cell} {x : Int64} (A : Arr Z h a c .long) (q : c.cls = k) (S : c.slots.size = n.toNatClampNeg) (N : ¬ n < 0) (H : ∀ i, i < c.slots.size → c.slots[i]? = some (.long (f i))) (W : Wr h h' a j.toNatClampNeg (.long x)) : Arf Z h' a k n (fun i => if i = j.toNatClampNeg then x else f i) :=
  (Arw.set A q S N H W).fn fun i _ => by by_cases hq : i = j.toNatClampNeg <;> simp only [hq, if_true, if_false]
theorem Ari.set {c : Cell} {x : Int32} (A : Arr Z h a c .int) (q : c.cls = k) (S : c.slots.size = n.toNatClampNeg) (N : ¬ n < 0) (H : ∀ i, i < c.slots.size → c.slots[i]? = some (.int (u i))) (W : Wr h h' a j.toNatClampNeg (.int x)) : Ari Z h' a k n (fun i => if i = j.toNatClampNeg then x else u i) :=
  (Arw.set A q S N H W).fn fun i _ => by by_cases hq : i = j.toNatClampNeg <;> simp only [hq, if_true, if_false]
end ArfS
theorem inb_int {j z : Int32} (h : 0 ≤ j.toInt ∧ j.toInt < z.toInt) : ¬ j < 0 ∧ j < z := by
  have e0 : (0 : Int32).toInt = 0 := rfl
  rw [Int32.lt_iff_toInt_lt, Int32.lt_iff_toInt_lt]; omega
theorem lt_of_in {c : Cell} {j : Int32} (q : ¬ (j < 0 ∨ c.slots.size ≤ j.toNatClampNeg)) : j.toNatClampNeg < c.slots.size := Nat.lt_of_not_le fun y => q (Or.inr y)
theorem Arf.of_list {Z : State} {h : Heap} {a : Addr} {k : ClassId} {n : Int32} {vs : List Value} {dv : Value} {f : Nat → Int64} (F : Arv Z h a k .long n vs dv) (e : ∀ i, i < n.toNatClampNeg → vs.getD i dv = .long (f i)) : Arf Z h a k n f := Arw.of_list F e
theorem hm_bits (c : Int64) : (((c.toUInt64 >>> ((30 : Int32) &&& 0x3f).toInt64.toUInt64).toInt64).toInt32).toBitVec = (c.toBitVec >>> 30).setWidth 32 := by
  have e : ((30 : Int32) &&& 0x3f).toInt64.toUInt64 = 30 := by decide
  rw [e]
  rw [Int64.toBitVec_toInt32, BitVec.signExtend_eq_setWidth_of_le _ (by decide)]
  rfl
theorem hm_of0 {c : Int64} (h0 : c.toBitVec.getLsbD 30 = false) (h1 : c.toBitVec.getLsbD 31 = false) : (((c.toUInt64 >>> ((30 : Int32) &&& 0x3f).toInt64.toUInt64).toInt64).toInt32 &&& (3 : Int32)) = (0 : Int32) := by
  apply Int32.toBitVec.inj
  rw [Int32.toBitVec_and, hm_bits]
  apply BitVec.eq_of_getLsbD_eq
  intro i hi
  have z : (0 : Int32).toBitVec = 0#32 := rfl
  have t : (3 : Int32).toBitVec = 3#32 := rfl
  rw [z, t]
  simp only [BitVec.getLsbD_and, BitVec.getLsbD_setWidth, BitVec.getLsbD_ushiftRight, BitVec.getLsbD_zero, hi, decide_true, Bool.true_and]
  rcases i with _ | _ | i
  · rw [show 30 + 0 = 30 from rfl, h0, Bool.false_and]
  · rw [show 30 + (0 + 1) = 31 from rfl, h1, Bool.false_and]
  · have : (3#32).getLsbD (i + 1 + 1) = false := by simp [BitVec.getLsbD, Nat.testBit, Nat.shiftRight_succ_inside]
    rw [this, Bool.and_false]
theorem hm_of1 {c : Int64} {i : Nat} (hi : i < 2) (h : c.toBitVec.getLsbD (30 + i) = true) : ¬ (((c.toUInt64 >>> ((30 : Int32) &&& 0x3f).toInt64.toUInt64).toInt64).toInt32 &&& (3 : Int32)) = (0 : Int32) := fun q => by
  have w := congrArg (fun y : Int32 => y.toBitVec.getLsbD i) q
  have z : (0 : Int32).toBitVec = 0#32 := rfl
  have t : (3 : Int32).toBitVec = 3#32 := rfl
  simp only [Int32.toBitVec_and, hm_bits, z, t, BitVec.getLsbD_and, BitVec.getLsbD_setWidth, BitVec.getLsbD_ushiftRight, BitVec.getLsbD_zero, h] at w
  rcases i with _ | _ | i
  · simp at w
  · simp at w
  · omega
theorem pos_nat {q : Int32} (h : 0 ≤ q.toInt ∧ q.toInt < 1073741824) : q.toBitVec.toNat < 2 ^ 30 := by
  have e : q.toBitVec.toInt = q.toInt := rfl
  have c := BitVec.toInt_eq_toNat_cond q.toBitVec
  have l := q.toBitVec.isLt
  rw [e] at c
  split at c <;> omega
theorem pos_bit {q : Int32} (h : 0 ≤ q.toInt ∧ q.toInt < 1073741824) {i : Nat} (h1 : 30 ≤ i) (h2 : i < 32) : (q.toInt64).toBitVec.getLsbD i = false := by
  rw [Int32.toBitVec_toInt64, BitVec.getLsbD_signExtend]
  have z : q.toBitVec.getLsbD i = false := by
    apply Nat.testBit_lt_two_pow
    exact Nat.lt_of_lt_of_le (pos_nat h) (Nat.pow_le_pow_right (by decide) h1)
  rw [if_pos h2, z, Bool.and_false]
theorem sh32 : ((32 : Int32) &&& 0x3f).toInt64 = 32 := by decide
theorem sh30 : ((30 : Int32) &&& 0x3f).toInt64 = 30 := by decide
theorem shl_b (x : Int64) {k : Int64} {n : Nat} (hk : (k.toBitVec.smod 64).toNat = n) (i : Nat) : (x <<< k).toBitVec.getLsbD i = (decide (i < 64) && (!decide (i < n) && x.toBitVec.getLsbD (i - n))) := by
  rw [Int64.toBitVec_shiftLeft]
  show (x.toBitVec <<< (k.toBitVec.smod 64).toNat).getLsbD i = _
  rw [hk, BitVec.getLsbD_shiftLeft, Bool.and_assoc]
theorem rc_bit (x q : Int32) (h : 0 ≤ q.toInt ∧ q.toInt < 1073741824) (K : Int64) {i : Nat} (hi : i < 2) : ((((x.toInt64) <<< ((32 : Int32) &&& 0x3f).toInt64) ||| (K <<< ((30 : Int32) &&& 0x3f).toInt64)) ||| (q.toInt64)).toBitVec.getLsbD (30 + i) = K.toBitVec.getLsbD i := by
  rw [Int64.toBitVec_or, Int64.toBitVec_or, BitVec.getLsbD_or, BitVec.getLsbD_or, sh32, sh30, shl_b (n := 32) _ (by decide), shl_b (n := 30) _ (by decide), pos_bit h (by omega) (by omega)]
  have a : decide (30 + i < 32) = true := decide_eq_true (by omega)
  have b : decide (30 + i < 64) = true := decide_eq_true (by omega)
  have d : decide (30 + i < 30) = false := decide_eq_false (by omega)
  rw [a, b, d, show 30 + i - 30 = i by omega]
  simp
theorem rc_pos (x q : Int32) (h : 0 ≤ q.toInt ∧ q.toInt < 1073741824) : (((((x.toInt64) <<< ((32 : Int32) &&& 0x3f).toInt64) ||| ((0 : Int64) <<< ((30 : Int32) &&& 0x3f).toInt64)) ||| (q.toInt64)).toInt32 &&& (1073741823 : Int32)) = q := by
  apply Int32.toBitVec.inj
  apply BitVec.eq_of_getLsbD_eq
  intro i hi
  have m : (1073741823 : Int32).toBitVec = 1073741823#32 := rfl
  have mb : ∀ i < 32, (1073741823#32).getLsbD i = decide (i < 30) := by decide
  have z0 : (0 : Int64).toBitVec = 0#64 := rfl
  rw [Int32.toBitVec_and, BitVec.getLsbD_and, m, mb i hi, Int64.toBitVec_toInt32, BitVec.signExtend_eq_setWidth_of_le _ (by decide), BitVec.getLsbD_setWidth, Int64.toBitVec_or, Int64.toBitVec_or, BitVec.getLsbD_or, BitVec.getLsbD_or, sh32, sh30, shl_b (n := 32) _ (by decide), shl_b (n := 30) _ (by decide), z0]
  have a : decide (i < 32) = true := decide_eq_true hi
  rw [a]
  by_cases c : i < 30
  · have qb : (q.toInt64).toBitVec.getLsbD i = q.toBitVec.getLsbD i := by rw [Int32.toBitVec_toInt64, BitVec.getLsbD_signExtend, if_pos hi, decide_eq_true (show i < 64 by omega), Bool.true_and]
    have b : decide (i < 64) = true := decide_eq_true (by omega)
    have d : decide (i < 30) = true := decide_eq_true c
    rw [b, d, qb]; simp only [Bool.not_true, Bool.false_and, Bool.true_and, Bool.and_true, Bool.false_or]
  · have d : decide (i < 30) = false := decide_eq_false c
    rw [d, Bool.and_false]
    symm
    apply Nat.testBit_lt_two_pow
    exact Nat.lt_of_lt_of_le (pos_nat h) (Nat.pow_le_pow_right (by decide) (by omega))

def HM (w : Int64) : Int32 := if ((((w.toUInt64 >>> ((30 : Int32) &&& 0x3f).toInt64.toUInt64).toInt64).toInt32) &&& (3 : Int32)) = (0 : Int32) then (w.toInt32 &&& (1073741823 : Int32)) else (-1 : Int32)
def EX (q n : Int32) : Int32 := if q = (0 : Int32) then (-1 : Int32) else if q = (n - (1 : Int32)) then (-1 : Int32) else q
theorem hm_hole (x : Int32) {q : Int32} (h : 0 ≤ q.toInt ∧ q.toInt < 1073741824) : HM ((((x.toInt64) <<< ((32 : Int32) &&& 0x3f).toInt64) ||| ((0 : Int64) <<< ((30 : Int32) &&& 0x3f).toInt64)) ||| (q.toInt64)) = q := by
  have b0 := rc_bit x q h (0 : Int64) (i := 0) (by decide)
  have b1 := rc_bit x q h (0 : Int64) (i := 1) (by decide)
  rw [HM, if_pos (hm_of0 (b0.trans (by decide)) (b1.trans (by decide)))]
  exact rc_pos x q h
theorem hm_low (x : Int32) : HM ((((x.toInt64) <<< ((32 : Int32) &&& 0x3f).toInt64) ||| ((1 : Int64) <<< ((30 : Int32) &&& 0x3f).toInt64)) ||| (0 : Int64)) = (-1 : Int32) := by
  have b0 := rc_bit x (0 : Int32) (by decide) (1 : Int64) (i := 0) (by decide)
  rw [show ((0 : Int32).toInt64) = (0 : Int64) by decide] at b0
  rw [HM, if_neg (hm_of1 (i := 0) (by decide) (b0.trans (by decide)))]
theorem hm_upp (x : Int32) {q : Int32} (h : 0 ≤ q.toInt ∧ q.toInt < 1073741824) : HM ((((x.toInt64) <<< ((32 : Int32) &&& 0x3f).toInt64) ||| ((2 : Int64) <<< ((30 : Int32) &&& 0x3f).toInt64)) ||| (q.toInt64)) = (-1 : Int32) := by
  have b1 := rc_bit x q h (2 : Int64) (i := 1) (by decide)
  rw [HM, if_neg (hm_of1 (i := 1) (by decide) (b1.trans (by decide)))]
theorem z_bd (x : Int32) : 1 ≤ ((1 : Int32) + (x &&& (1048575 : Int32))).toInt ∧ ((1 : Int32) + (x &&& (1048575 : Int32))).toInt ≤ 1048576 := by
  have e1 : (x &&& (1048575 : Int32)).toInt = x.toInt % 2 ^ 20 := Jvm.Kit.i32_mask x 1048575 (k := 20) (by decide) (by decide)
  have o : (1 : Int32).toInt = 1 := rfl
  rw [Jvm.Kit.i32_add (by omega) (by omega)]; omega
theorem lw_bd (x : Int32) : -1073741824 ≤ (x >>> ((1 : Int32) &&& 31)).toInt ∧ (x >>> ((1 : Int32) &&& 31)).toInt < 1073741824 := by
  have e : (x >>> ((1 : Int32) &&& 31)).toInt = x.toInt / 2 ^ 1 := Jvm.Kit.i32_shr x _ (by decide)
  have a := x.toInt_lt
  have b := x.le_toInt
  omega
theorem i_lt {x y : Int32} (h : x.toInt < y.toInt) : x < y := Int32.lt_iff_toInt_lt.mpr h
theorem i_nlt {x y : Int32} (h : ¬ x.toInt < y.toInt) : ¬ x < y := fun q => h (Int32.lt_iff_toInt_lt.mp q)
theorem i_ge {x y : Int32} (h : ¬ x < y) : y.toInt ≤ x.toInt := Int.not_lt.mp fun q => h (i_lt q)
theorem i_ne {x y : Int32} (h : ¬ x.toInt = y.toInt) : ¬ x = y := fun q => h (congrArg Int32.toInt q)
theorem hi_eq {w z : Int32} (hw : -1073741824 ≤ w.toInt ∧ w.toInt < 1073741824) (hz : 1 ≤ z.toInt ∧ z.toInt ≤ 1048576) : (w + (z - (1 : Int32))).toInt = w.toInt + z.toInt - 1 := by
  have o : (1 : Int32).toInt = 1 := rfl
  have e1 := Jvm.Kit.i32_sub (p := z) (q := (1 : Int32)) (by omega) (by omega)
  rw [Jvm.Kit.i32_add (by omega) (by omega)]; omega
theorem len_eq {w z g : Int32} (hg : g.toInt = w.toInt + z.toInt - 1) (hz : 1 ≤ z.toInt ∧ z.toInt ≤ 1048576) : (((g.toInt64) - (w.toInt64)) + (1 : Int64)).toInt = z.toInt := by
  have o : (1 : Int64).toInt = 1 := rfl
  have e1 : (g.toInt64).toInt = g.toInt := Jvm.Kit.i64_of_i32 _
  have e2 : (w.toInt64).toInt = w.toInt := Jvm.Kit.i64_of_i32 _
  have a := w.toInt_lt
  have b := w.le_toInt
  have e3 := Jvm.Kit.i64_sub (x := (g.toInt64)) (y := (w.toInt64)) (by omega) (by omega)
  rw [Jvm.Kit.i64_add (by omega) (by omega)]; omega
theorem fit_ {w z g : Int32} (hg : g.toInt = w.toInt + z.toInt - 1) (hz : 1 ≤ z.toInt ∧ z.toInt ≤ 1048576) : ¬ (0 : Int32) < (lcmpW (((g.toInt64) - (w.toInt64)) + (1 : Int64)) (1073741823 : Int64)) := by
  have o1 : (1073741823 : Int64).toInt = 1073741823 := rfl
  rw [lw_gt, Int64.lt_iff_toInt_lt, len_eq hg hz]; omega
theorem sz_ {w z g : Int32} (hg : g.toInt = w.toInt + z.toInt - 1) (hz : 1 ≤ z.toInt ∧ z.toInt ≤ 1048576) : ((((g.toInt64) - (w.toInt64)) + (1 : Int64)).toInt32) = z := by
  have e := len_eq hg hz
  exact Int32.toInt_inj.mp (by rw [Jvm.Kit.i32_of_i64 (by omega) (by omega), e])
theorem up_ {z : Int32} (hz : 1 ≤ z.toInt ∧ z.toInt ≤ 1048576) : (z - (1 : Int32)).toInt = z.toInt - 1 := by
  have o : (1 : Int32).toInt = 1 := rfl
  rw [Jvm.Kit.i32_sub (by omega) (by omega)]; omega
theorem rm_bd (x : Int32) {z : Int32} (hz : 1 ≤ z.toInt ∧ z.toInt ≤ 1048576) : 0 ≤ ((x &&& (2147483647 : Int32)) % z).toInt ∧ ((x &&& (2147483647 : Int32)) % z).toInt < z.toInt := by
  have e1 : (x &&& (2147483647 : Int32)).toInt = x.toInt % 2 ^ 31 := Jvm.Kit.i32_mask x 2147483647 (k := 31) (by decide) (by decide)
  rw [Jvm.Kit.i32_rem_nonneg (by omega)]
  exact ⟨Int.emod_nonneg _ (by omega), Int.emod_lt_of_pos _ (by omega)⟩
theorem z_ne {z : Int32} (hz : 1 ≤ z.toInt ∧ z.toInt ≤ 1048576) : z ≠ 0 := fun q => by rw [q] at hz; exact absurd hz.1 (by decide)
theorem ix_ {x : Int32} (h : 0 ≤ x.toInt) : (((x.toUInt32 >>> ((6 : Int32) &&& 31).toUInt32).toInt32)).toInt = x.toInt / 64 := Jvm.Kit.i32_iushr (Jvm.Kit.i32_nonneg.mpr h) (by decide) (by decide) (k := 6)
theorem wn_ {z : Int32} (hz : 1 ≤ z.toInt ∧ z.toInt ≤ 1048576) : ((((z + (63 : Int32)).toUInt32 >>> ((6 : Int32) &&& 31).toUInt32).toInt32)).toInt = (z.toInt + 63) / 64 := by
  have o : (63 : Int32).toInt = 63 := rfl
  have e := Jvm.Kit.i32_add (p := z) (q := (63 : Int32)) (by omega) (by omega)
  rw [ix_ (by omega), e, o]
theorem and1_bd (x : Int32) : 0 ≤ (x &&& (1 : Int32)).toInt ∧ (x &&& (1 : Int32)).toInt < 2 := by
  have e1 : (x &&& (1 : Int32)).toInt = x.toInt % 2 ^ 1 := Jvm.Kit.i32_mask x 1 (k := 1) (by decide) (by decide)
  omega
theorem d30_0 : decode c_30 0 = .ok (.iload_n 0, 1) := by decide +kernel
theorem d30_1 : decode c_30 1 = .ok (.ifCond .ne 5, 3) := by decide +kernel
theorem d30_4 : decode c_30 4 = .ok (.iconst (-1), 1) := by decide +kernel
theorem d30_5 : decode c_30 5 = .ok (.ireturn, 1) := by decide +kernel
theorem d30_6 : decode c_30 6 = .ok (.iload_n 0, 1) := by decide +kernel
theorem d30_7 : decode c_30 7 = .ok (.iload_n 1, 1) := by decide +kernel
theorem d30_8 : decode c_30 8 = .ok (.iconst 1, 1) := by decide +kernel
theorem d30_9 : decode c_30 9 = .ok (.isub, 1) := by decide +kernel
theorem d30_10 : decode c_30 10 = .ok (.if_icmp .ne 5, 3) := by decide +kernel
theorem d30_13 : decode c_30 13 = .ok (.iconst (-1), 1) := by decide +kernel
theorem d30_14 : decode c_30 14 = .ok (.ireturn, 1) := by decide +kernel
theorem d30_15 : decode c_30 15 = .ok (.iload_n 0, 1) := by decide +kernel
theorem d30_16 : decode c_30 16 = .ok (.ireturn, 1) := by decide +kernel
theorem pn_0 : plainName "com/example/monarc/monarc/DomainsHoleMadeAtPinLaw" = true := by first | (simp [plainName, overriddenIn]; done) | decide +kernel
theorem ef_rm30 (m : MethodId) (x0 : Int32) (x1 : Int32)  : entryFrame m #[(.int x0), (.int x1)] 2 = mkF m 0 #[.val (.int x0), .val (.int x1)] [] := by first | (simp [entryFrame, mkF, argsToLocals, Value.category]; done) | rfl
def Q_rm30 (Z : State) (u_1 : Addr) (aw0 : Addr) (u_0 : ClassId) (kaw0 : ClassId) (u1 : Int32) (u2 : Int32) (res : Int32) (h0 : Heap) (n0 : Nat) (v : Option Value) (h : Heap) (L : List Loc) : Prop := v = some (.int res) ∧ Fr n0 L ∧ h = h0
set_option maxRecDepth 65536 in
set_option maxHeartbeats 40000000 in
theorem rm30 (l : Launch) (Z : State) (a0 : Array Value) (hw : ∀ d ∈ tables_1, d.before a0 Z = true) (ws : List Jvm.Cond) (u_1 : Addr) (aw0 : Addr) (u_0 : ClassId) (kaw0 : ClassId) (HW : Wd Z u_1 aw0 u_0 kaw0) (u1 : Int32) (u2 : Int32) (res : Int32) (h0 : Heap) (n0 : Nat) (Ol : Old Z n0 h0)  (hres : (if u1 = (0 : Int32) then (-1 : Int32) else if u1 = (u2 - (1 : Int32)) then (-1 : Int32) else u1) = res) :
    MetFree l y_30 (head1 (Jvm.Cond.code y_30 method_2_code 2 (some .int) :: ws) (rm 0 0 0 0)) (fun a_ U_ => a_ = #[(.int u1), (.int u2)] ∧ Z.Warmed39 U_.vm ∧ U_.heap = h0) (fun _ _ _ _ _ => True) (fun _ U_ o_ V_ => ∃ v_ L_, o_ = .returned v_ ∧ Q_rm30 Z u_1 aw0 u_0 kaw0 u1 u2 res h0 n0 v_ V_.heap L_ ∧ FrameEnd U_ o_ V_ L_ (rm 0 0 0 0).cells (rm 0 0 0 0).slots) := by
  refine MetFree.of_bodySF (plainFor_of_name pn_0) hisR ?_
  intro p e s m args below meth c s₁ Bd hml0 hP hK
  obtain ⟨rfl, hZ, hh⟩ := hP
  have hx := Bd.exec
  have hby := Bd.bytes
  have hml : c.maxLocals = 2 := hml0
  have hown : s.vm.findClass "com/example/monarc/monarc/DomainsHoleMadeAtPinLaw" = some m.cls := findClass_of_methodNamed Bd.named
  have hnm := (name_of_methodNamed Bd.named Bd.method).1
  have X0 : Stand p l e (rm 0 0 0 0) s m #[(.int u1), (.int u2)] below meth c s₁ [] 0 0 := Stand.of_body Bd
  have e0 : s₁.heap = h0 := by rw [← hh, Bd.state]; rfl
  have N0 := Fr.nil n0
  have kp0 := Keep.refl h0 []
  show Go p e below (Fin1 s below (Q_rm30 Z u_1 aw0 u_0 kaw0 u1 u2 res h0 n0) (rm 0 0 0 0).cells (rm 0 0 0 0).slots) _
  refine Go.step (fun t_ k_ => castTop (ef_rm30 m u1 u2) k_) ?_
  obtain ⟨Eu_1, Su_1, Eaw0, Saw0, Au_1, Aaw0⟩ := id HW
  show Go p e below _ (s₁.setTop (mkF m 0 #[.val (.int u1), .val (.int u2)] []))
  refine gs.iloadN X0.here hx (hb hby d30_0) rfl ?_
  by_cases hc1 : u1 = (0 : Int32)
  case pos =>
    refine gs.ifNo X0.here hx (hb hby d30_1) ((if0 _ _).trans (teq hc1).2) ?_
    refine gs.iconst (-1) X0.here hx (hb hby d30_4) rfl ?_
    refine Go.retI X0 hx Bd.returns Bd.notSynchronized (hb hby d30_5) (by rw [e0]; exact ⟨by first | (rw [← hres]; done) | (rw [← hres]; simp [if_pos hc1]; done) | (rw [← hres]; simp [hc1]; done) | (rw [← hres]; simp_all; done), N0, rfl⟩) (by decide) (by decide)
  case neg =>
    refine gs.ifYes 6 X0.here hx (hb hby d30_1) ((if0 _ _).trans (feq hc1).2) rfl ?_
    refine gs.iloadN X0.here hx (hb hby d30_6) rfl ?_
    refine gs.iloadN X0.here hx (hb hby d30_7) rfl ?_
    refine gs.iconst 1 X0.here hx (hb hby d30_8) rfl ?_
    refine gs.isub X0.here hx (hb hby d30_9) ?_
    by_cases hc10 : u1 = (u2 - (1 : Int32))
    case pos =>
      refine gs.icmpNo X0.here hx (hb hby d30_10) (teq hc10).2 ?_
      refine gs.iconst (-1) X0.here hx (hb hby d30_13) rfl ?_
      refine Go.retI X0 hx Bd.returns Bd.notSynchronized (hb hby d30_14) (by rw [e0]; exact ⟨by first | (rw [← hres]; done) | (rw [← hres]; simp [if_neg hc1, if_pos hc10]; done) | (rw [← hres]; simp [hc1, hc10]; done) | (rw [← hres]; simp_all; done), N0, rfl⟩) (by decide) (by decide)
    case neg =>
      refine gs.icmpYes 15 X0.here hx (hb hby d30_10) (feq hc10).2 rfl ?_
      refine gs.iloadN X0.here hx (hb hby d30_15) rfl ?_
      refine Go.retI X0 hx Bd.returns Bd.notSynchronized (hb hby d30_16) (by rw [e0]; exact ⟨by first | (rw [← hres]; done) | (rw [← hres]; simp [if_neg hc1, if_neg hc10]; done) | (rw [← hres]; simp [hc1, hc10]; done) | (rw [← hres]; simp_all; done), N0, rfl⟩) (by decide) (by decide)
theorem d23_0 : decode c_23 0 = .ok (.iconst 0, 1) := by decide +kernel
theorem d23_1 : decode c_23 1 = .ok (.istore_n 3, 1) := by decide +kernel
theorem d23_2 : decode c_23 2 = .ok (.aload_n 0, 1) := by decide +kernel
theorem d23_3 : decode c_23 3 = .ok (.arraylength, 1) := by decide +kernel
theorem d23_4 : decode c_23 4 = .ok (.istore 4, 2) := by decide +kernel
theorem d23_6 : decode c_23 6 = .ok (.iload_n 3, 1) := by decide +kernel
theorem d23_7 : decode c_23 7 = .ok (.iload 4, 2) := by decide +kernel
theorem d23_9 : decode c_23 9 = .ok (.if_icmp .ge 13, 3) := by decide +kernel
theorem d23_22 : decode c_23 22 = .ok (.return_, 1) := by decide +kernel
theorem d23_12 : decode c_23 12 = .ok (.aload_n 0, 1) := by decide +kernel
theorem d23_13 : decode c_23 13 = .ok (.iload_n 3, 1) := by decide +kernel
theorem d23_14 : decode c_23 14 = .ok (.lload_n 1, 1) := by decide +kernel
theorem d23_15 : decode c_23 15 = .ok (.lastore, 1) := by decide +kernel
theorem d23_16 : decode c_23 16 = .ok (.iinc 3 1, 3) := by decide +kernel
theorem d23_19 : decode c_23 19 = .ok (.goto (-13), 3) := by decide +kernel
theorem pn_1 : plainName "java/util/Arrays" = true := by first | (simp [plainName, overriddenIn]; done) | decide +kernel
theorem ef_fill1 (m : MethodId) (x0 : Addr) (x1 : Int64)  : entryFrame m #[(.ref x0), (.long x1)] 5 = mkF m 0 #[.val (.ref x0), .val (.long x1), .second, .unset, .unset] [] := by first | (simp [entryFrame, mkF, argsToLocals, Value.category]; done) | rfl
def Q_fill1 (Z : State) (u_1 : Addr) (aw0 : Addr) (u_0 : ClassId) (kaw0 : ClassId) (ad1 : Addr) (lv1 : Int64) (kc1 : ClassId) (iv1 : Int32) (fv1 : Nat → Int64) (h0 : Heap) (n0 : Nat) (v : Option Value) (h : Heap) (L : List Loc) : Prop := ∃ ex1 : Nat → Int64, v = none ∧ Fr n0 L ∧ Keep h0 h [ad1] ∧ (Arf Z h ad1 kc1 iv1 ex1)
set_option maxRecDepth 65536 in
set_option maxHeartbeats 40000000 in
theorem fill1 (l : Launch) (Z : State) (a0 : Array Value) (hw : ∀ d ∈ tables_1, d.before a0 Z = true) (ws : List Jvm.Cond) (u_1 : Addr) (aw0 : Addr) (u_0 : ClassId) (kaw0 : ClassId) (HW : Wd Z u_1 aw0 u_0 kaw0) (ad1 : Addr) (lv1 : Int64) (kc1 : ClassId) (iv1 : Int32) (fv1 : Nat → Int64) (h0 : Heap) (n0 : Nat) (Ol : Old Z n0 h0) (HG_ad1 : Arf Z h0 ad1 kc1 iv1 fv1) (nn_ad1 : n0 ≤ ad1) :
    MetFree l y_23 (head1 (Jvm.Cond.code y_23 jdk_65_method_101_code 5 none :: ws) (rm 0 0 0 0)) (fun a_ U_ => a_ = #[(.ref ad1), (.long lv1)] ∧ Z.Warmed39 U_.vm ∧ U_.heap = h0) (fun _ _ _ _ _ => True) (fun _ U_ o_ V_ => ∃ v_ L_, o_ = .returned v_ ∧ Q_fill1 Z u_1 aw0 u_0 kaw0 ad1 lv1 kc1 iv1 fv1 h0 n0 v_ V_.heap L_ ∧ FrameEnd U_ o_ V_ L_ (rm 0 0 0 0).cells (rm 0 0 0 0).slots) := by
  refine MetFree.of_bodySF (plainFor_of_name pn_1) hisR ?_
  intro p e s m args below meth c s₁ Bd hml0 hP hK
  obtain ⟨rfl, hZ, hh⟩ := hP
  have hx := Bd.exec
  have hby := Bd.bytes
  have hml : c.maxLocals = 5 := hml0
  have hown : s.vm.findClass "java/util/Arrays" = some m.cls := findClass_of_methodNamed Bd.named
  have hnm := (name_of_methodNamed Bd.named Bd.method).1
  have X0 : Stand p l e (rm 0 0 0 0) s m #[(.ref ad1), (.long lv1)] below meth c s₁ [] 0 0 := Stand.of_body Bd
  have e0 : s₁.heap = h0 := by rw [← hh, Bd.state]; rfl
  have N0 := Fr.nil n0
  have kp0 := Keep.refl h0 [ad1]
  show Go p e below (Fin1 s below (Q_fill1 Z u_1 aw0 u_0 kaw0 ad1 lv1 kc1 iv1 fv1 h0 n0) (rm 0 0 0 0).cells (rm 0 0 0 0).slots) _
  refine Go.step (fun t_ k_ => castTop (ef_fill1 m ad1 lv1) k_) ?_
  obtain ⟨Eu_1, Su_1, Eaw0, Saw0, Au_1, Aaw0⟩ := id HW
  show Go p e below _ (s₁.setTop (mkF m 0 #[.val (.ref ad1), .val (.long lv1), .second, .unset, .unset] []))
  refine gs.iconst 0 X0.here hx (hb hby d23_0) rfl ?_
  refine gs.istoreN X0.here hx (hb hby d23_1) (l' := #[.val (.ref ad1), .val (.long lv1), .second, .val (.int (0 : Int32)), .unset]) rfl ?_
  refine gs.aloadN X0.here hx (hb hby d23_2) rfl rfl ?_
  obtain ⟨cl1, Ar1, -, Sz1, Ng1, -⟩ := id HG_ad1
  refine Go.fin (fun t_ k_ => X0.arraylength hx (by rw [e0]; exact Ar1.1) (State.isArrayOf_alike hZ.alike Ar1.2.1) (g := mkF m 3 _ _) rfl rfl (hb hby d23_3) _ k_) ?_
  rw [len_of Sz1 Ng1]
  show Go p e below _ (s₁.setTop (mkF m 4 _ [(.int iv1)]))
  refine gs.istore X0.here hx (hb hby d23_4) (l' := #[.val (.ref ad1), .val (.long lv1), .second, .val (.int (0 : Int32)), .val (.int iv1)]) rfl ?_
  have Loop : ∀ (k_ : Nat) (i_ : Int32) (T_ : State) (h_ : Heap) (g_ : Nat → Int64) (L_ : List Loc), iv1.toInt - i_.toInt = (k_ : Int) → 0 ≤ i_.toInt → Stand p l e (rm 0 0 0 0) s m #[(.ref ad1), (.long lv1)] below meth c T_ L_ 0 0 → T_.heap = h_ → Fr n0 L_ → Old Z n0 h_ → Keep h0 h_ [ad1] → Arf Z h_ ad1 kc1 iv1 g_ → Go p e below (Fin1 s below (Q_fill1 Z u_1 aw0 u_0 kaw0 ad1 lv1 kc1 iv1 fv1 h0 n0) (rm 0 0 0 0).cells (rm 0 0 0 0).slots) (T_.setTop (mkF m 6 #[.val (.ref ad1), .val (.long lv1), .second, .val (.int i_), .val (.int iv1)] [])) := by
    intro k_
    induction k_ with
    | zero =>
      intro i_ T_ h_ g_ L_ hd_ h0_ X_ e_ N_ O_ K_ G_
      refine gs.iloadN X_.here hx (hb hby d23_6) rfl ?_
      refine gs.iload X_.here hx (hb hby d23_7) rfl ?_
      have hc9 : ¬ (i_ < iv1) := fun q_ => by have := Int32.lt_iff_toInt_lt.mp q_; omega
      refine gs.icmpYes 22 X_.here hx (hb hby d23_9) (flt hc9).2.1 rfl ?_
      refine Go.retV X_ hx Bd.returns Bd.notSynchronized (hb hby d23_22) (by rw [e_]; exact ⟨_, rfl, N_, K_, G_⟩) (by decide) (by decide)
    | succ k_ ih =>
      intro i_ T_ h_ g_ L_ hd_ h0_ X_ e_ N_ O_ K_ G_
      refine gs.iloadN X_.here hx (hb hby d23_6) rfl ?_
      refine gs.iload X_.here hx (hb hby d23_7) rfl ?_
      have hc9 : i_ < iv1 := Int32.lt_iff_toInt_lt.mpr (by omega)
      refine gs.icmpNo X_.here hx (hb hby d23_9) (tlt hc9).2.1 ?_
      refine gs.aloadN X_.here hx (hb hby d23_12) rfl rfl ?_
      refine gs.iloadN X_.here hx (hb hby d23_13) rfl ?_
      refine gs.lloadN X_.here hx (hb hby d23_14) rfl ?_
      obtain ⟨cl2, Ar2, q2, Sz2, Ng2, Hs2⟩ := id G_
      have hin2 : ¬ (i_ < 0 ∨ cl2.slots.size ≤ (i_).toNatClampNeg) := inb_of Sz2 (inb_int (by omega))
      obtain ⟨T3, h3, X3, e3, W3, st3⟩ := stJ X_ hx hZ e_ Ar2 (j := i_) hin2 (g := (mkF m 15 #[.val (.ref ad1), .val (.long lv1), .second, .val (.int i_), .val (.int iv1)] [(.long lv1), (.int i_), (.ref ad1)])) rfl rfl (hb hby d23_15)
      have N3 := Fr.snoc X3 N_ nn_ad1
      have old3 := O_.wr W3 nn_ad1
      have kp3 := K_.wr W3 (Or.inl (List.mem_of_getElem? (i := 0) rfl))
      have V3 : Arf Z h3 ad1 kc1 iv1 (fun i => if i = (i_).toNatClampNeg then lv1 else g_ i) := Arf.set Ar2 q2 Sz2 Ng2 Hs2 W3
      refine Go.fin st3 ?_
      show Go p e below _ (T3.setTop (mkF m 16 _ []))
      refine Go.step (fun t_ k_ => XS.iinc X3.here hx rfl (hb hby d23_16) rfl (l' := #[.val (.ref ad1), .val (.long lv1), .second, .val (.int (i_ + (1 : Int32))), .val (.int iv1)]) rfl k_) ?_
      show Go p e below _ (T3.setTop (mkF m 19 #[.val (.ref ad1), .val (.long lv1), .second, .val (.int (i_ + (1 : Int32))), .val (.int iv1)] []))
      refine gs.goto 6 X3.here hx (hb hby d23_19) rfl ?_
      have hi_ : (i_ + (1 : Int32)).toInt = i_.toInt + 1 := by have o : (1 : Int32).toInt = 1 := rfl; have b := iv1.toInt_lt; rw [Jvm.Kit.i32_add (by omega) (by omega), o]
      exact ih (i_ + (1 : Int32)) T3 h3 (fun i => if i = (i_).toNatClampNeg then lv1 else g_ i) _ (by omega) (by omega) X3 e3 N3 old3 kp3 V3
  have hn_ : 0 ≤ iv1.toInt := by obtain ⟨_, _, _, _, q_, _⟩ := id HG_ad1; exact Int.not_lt.mp fun y_ => q_ (Int32.lt_iff_toInt_lt.mpr y_)
  exact Loop iv1.toInt.toNat (0 : Int32) s₁ h0 fv1 _ (by have o : (0 : Int32).toInt = 0 := rfl; omega) (by decide) X0 e0 N0 Ol kp0 HG_ad1
theorem d1_0 : decode c_1 0 = .ok (.aload_n 0, 1) := by decide +kernel
theorem d1_1 : decode c_1 1 = .ok (.invokespecial 1, 3) := by decide +kernel
theorem d2_0 : decode c_2 0 = .ok (.aload_n 0, 1) := by decide +kernel
theorem d2_1 : decode c_2 1 = .ok (.invokespecial 1, 3) := by decide +kernel
theorem d3_0 : decode c_3 0 = .ok (.aload_n 0, 1) := by decide +kernel
theorem d3_1 : decode c_3 1 = .ok (.invokespecial 1, 3) := by decide +kernel
theorem d3_4 : decode c_3 4 = .ok (.return_, 1) := by decide +kernel
theorem pn_2 : plainName "java/util/AbstractCollection" = true := by first | (simp [plainName, overriddenIn]; done) | decide +kernel
theorem ef_am3_1 (m : MethodId) (x0 : Addr)  : entryFrame m #[(.ref x0)] 1 = mkF m 0 #[.val (.ref x0)] [] := by first | (simp [entryFrame, mkF, argsToLocals, Value.category]; done) | rfl
def Q_am3_1 (Z : State) (u_1 : Addr) (aw0 : Addr) (u_0 : ClassId) (kaw0 : ClassId) (ad1 : Addr) (h0 : Heap) (n0 : Nat) (v : Option Value) (h : Heap) (L : List Loc) : Prop := v = none ∧ Fr n0 L ∧ h = h0
set_option maxRecDepth 65536 in
set_option maxHeartbeats 40000000 in
theorem am3_1 (l : Launch) (Z : State) (a0 : Array Value) (hw : ∀ d ∈ tables_1, d.before a0 Z = true) (ws : List Jvm.Cond) (u_1 : Addr) (aw0 : Addr) (u_0 : ClassId) (kaw0 : ClassId) (HW : Wd Z u_1 aw0 u_0 kaw0) (ad1 : Addr) (h0 : Heap) (n0 : Nat) (Ol : Old Z n0 h0)  :
    MetFree l y_3 (head1 (Jvm.Cond.code y_3 jdk_22_method_1_code 1 none :: ws) (rm 1 0 0 12)) (fun a_ U_ => a_ = #[(.ref ad1)] ∧ Z.Warmed39 U_.vm ∧ U_.heap = h0) (fun _ _ _ _ _ => True) (fun _ U_ o_ V_ => ∃ v_ L_, o_ = .returned v_ ∧ Q_am3_1 Z u_1 aw0 u_0 kaw0 ad1 h0 n0 v_ V_.heap L_ ∧ FrameEnd U_ o_ V_ L_ (rm 1 0 0 12).cells (rm 1 0 0 12).slots) := by
  refine MetFree.of_bodySF (plainFor_of_name pn_2) hisR ?_
  intro p e s m args below meth c s₁ Bd hml0 hP hK
  obtain ⟨rfl, hZ, hh⟩ := hP
  have hx := Bd.exec
  have hby := Bd.bytes
  have hml : c.maxLocals = 1 := hml0
  have hown : s.vm.findClass "java/util/AbstractCollection" = some m.cls := findClass_of_methodNamed Bd.named
  have hnm := (name_of_methodNamed Bd.named Bd.method).1
  have X0 : Stand p l e (rm 1 0 0 12) s m #[(.ref ad1)] below meth c s₁ [] 0 0 := Stand.of_body Bd
  have e0 : s₁.heap = h0 := by rw [← hh, Bd.state]; rfl
  have N0 := Fr.nil n0
  have kp0 := Keep.refl h0 []
  show Go p e below (Fin1 s below (Q_am3_1 Z u_1 aw0 u_0 kaw0 ad1 h0 n0) (rm 1 0 0 12).cells (rm 1 0 0 12).slots) _
  refine Go.step (fun t_ k_ => castTop (ef_am3_1 m ad1) k_) ?_
  obtain ⟨Eu_1, Su_1, Eaw0, Saw0, Au_1, Aaw0⟩ := id HW
  show Go p e below _ (s₁.setTop (mkF m 0 #[.val (.ref ad1)] []))
  refine gs.aloadN X0.here hx (hb hby d3_0) rfl rfl ?_
  obtain ⟨T1, X1, e1, st1⟩ := initO X0 hx hZ hown (wd hw 19 rfl) (wd hw 20 rfl) (wd hw 21 rfl) e0 (g := (mkF m 1 #[.val (.ref ad1)] [(.ref ad1)])) rfl (by rw [hml]; rfl) rfl (hb hby d3_1) (by decide) (W := 0) (by show 2 * 0 + _ ≤ _; exact Nat.le_of_eq rfl) (by decide)
  refine Go.step st1 ?_
  show Go p e below _ (T1.setTop (mkF m 4 #[.val (.ref ad1)] []))
  refine Go.retV X1 hx Bd.returns Bd.notSynchronized (hb hby d3_4) (by rw [e1]; exact ⟨rfl, N0, rfl⟩) (by decide) (by decide)
theorem pd_0 : parseMethodDescriptor "()V" = some ⟨[], none⟩ := by decide +kernel
theorem d2_4 : decode c_2 4 = .ok (.aload_n 0, 1) := by decide +kernel
theorem d2_5 : decode c_2 5 = .ok (.iconst 0, 1) := by decide +kernel
theorem d2_6 : decode c_2 6 = .ok (.putfield 7, 3) := by decide +kernel
theorem d2_9 : decode c_2 9 = .ok (.return_, 1) := by decide +kernel
theorem sn0 {a0 : Array Value} {Z : State} (hw : ∀ d ∈ tables_1, d.before a0 Z = true) : SN Z "java/util/ArrayList" "elementData" "[Ljava/lang/Object;" "java/util/AbstractList" "modCount" "I" := slot_ne (Or.inl (wd hw 26 rfl)) (Or.inl (wd hw 23 rfl)) (by decide) (t := (.array (.object "java/lang/Object"))) (t' := .int) (by decide) (by decide)
theorem sn1 {a0 : Array Value} {Z : State} (hw : ∀ d ∈ tables_1, d.before a0 Z = true) : SN Z "java/util/ArrayList" "size" "I" "java/util/AbstractList" "modCount" "I" := slot_ne (Or.inl (wd hw 78 rfl)) (Or.inl (wd hw 23 rfl)) (by decide) (t := .int) (t' := .int) (by decide) (by decide)
theorem pn_3 : plainName "java/util/AbstractList" = true := by first | (simp [plainName, overriddenIn]; done) | decide +kernel
theorem ef_am2_1 (m : MethodId) (x0 : Addr)  : entryFrame m #[(.ref x0)] 1 = mkF m 0 #[.val (.ref x0)] [] := by first | (simp [entryFrame, mkF, argsToLocals, Value.category]; done) | rfl
def Q_am2_1 (Z : State) (u_1 : Addr) (aw0 : Addr) (u_0 : ClassId) (kaw0 : ClassId) (ad1 : Addr) (h0 : Heap) (n0 : Nat) (v : Option Value) (h : Heap) (L : List Loc) : Prop := v = none ∧ Fr n0 L ∧ Keep h0 h [ad1] ∧ (Exa Z h ad1 "java/util/ArrayList") ∧ (Fld Z h ad1 "java/util/AbstractList" "modCount" "I" (.int (0 : Int32))) ∧ (Fld Z h ad1 "java/util/ArrayList" "elementData" "[Ljava/lang/Object;" .null) ∧ (Fld Z h ad1 "java/util/ArrayList" "size" "I" (.int (0 : Int32)))
set_option maxRecDepth 65536 in
set_option maxHeartbeats 40000000 in
theorem am2_1 (l : Launch) (Z : State) (a0 : Array Value) (hw : ∀ d ∈ tables_1, d.before a0 Z = true) (ws : List Jvm.Cond) (u_1 : Addr) (aw0 : Addr) (u_0 : ClassId) (kaw0 : ClassId) (HW : Wd Z u_1 aw0 u_0 kaw0) (ad1 : Addr) (h0 : Heap) (n0 : Nat) (Ol : Old Z n0 h0) (HE_ad1 : Exa Z h0 ad1 "java/util/ArrayList") (HF_ad1_AbstractList_modCount : Fld Z h0 ad1 "java/util/AbstractList" "modCount" "I" (.int (0 : Int32))) (HF_ad1_ArrayList_elementData : Fld Z h0 ad1 "java/util/ArrayList" "elementData" "[Ljava/lang/Object;" .null) (HF_ad1_ArrayList_size : Fld Z h0 ad1 "java/util/ArrayList" "size" "I" (.int (0 : Int32))) (nn_ad1 : n0 ≤ ad1) :
    MetFree l y_2 (head1 (Jvm.Cond.code y_2 jdk_39_method_1_code 1 none :: ws) (rm 2 0 0 24)) (fun a_ U_ => a_ = #[(.ref ad1)] ∧ Z.Warmed39 U_.vm ∧ U_.heap = h0) (fun _ _ _ _ _ => True) (fun _ U_ o_ V_ => ∃ v_ L_, o_ = .returned v_ ∧ Q_am2_1 Z u_1 aw0 u_0 kaw0 ad1 h0 n0 v_ V_.heap L_ ∧ FrameEnd U_ o_ V_ L_ (rm 2 0 0 24).cells (rm 2 0 0 24).slots) := by
  refine MetFree.of_bodySF (plainFor_of_name pn_3) hisR ?_
  intro p e s m args below meth c s₁ Bd hml0 hP hK
  obtain ⟨rfl, hZ, hh⟩ := hP
  have hx := Bd.exec
  have hby := Bd.bytes
  have hml : c.maxLocals = 1 := hml0
  have hown : s.vm.findClass "java/util/AbstractList" = some m.cls := findClass_of_methodNamed Bd.named
  have hnm := (name_of_methodNamed Bd.named Bd.method).1
  have X0 : Stand p l e (rm 2 0 0 24) s m #[(.ref ad1)] below meth c s₁ [] 0 0 := Stand.of_body Bd
  have e0 : s₁.heap = h0 := by rw [← hh, Bd.state]; rfl
  have N0 := Fr.nil n0
  have kp0 := Keep.refl h0 [ad1]
  show Go p e below (Fin1 s below (Q_am2_1 Z u_1 aw0 u_0 kaw0 ad1 h0 n0) (rm 2 0 0 24).cells (rm 2 0 0 24).slots) _
  refine Go.step (fun t_ k_ => castTop (ef_am2_1 m ad1) k_) ?_
  obtain ⟨Eu_1, Su_1, Eaw0, Saw0, Au_1, Aaw0⟩ := id HW
  show Go p e below _ (s₁.setTop (mkF m 0 #[.val (.ref ad1)] []))
  refine gs.aloadN X0.here hx (hb hby d2_0) rfl rfl ?_
  refine gs.init 0 X0 hx hZ hown (am3_1 l Z a0 hw [] u_1 aw0 u_0 kaw0 HW (ad1) h0 n0 Ol ) (wd hw 18 rfl) (wd hw 17 rfl) (wd hw 13 rfl) rfl (wd hw 14 rfl) (by decide) (by decide) (by decide) (by rw [hml]; rfl) [] (lenOf pd_0 rfl) rfl (Nat.le_of_eq rfl) (hb hby d2_1) rfl e0 (by decide) (by decide) fun T1 Lc1 v1 X1 hQ1 => ?_
  obtain ⟨rfl, Nq1, e1⟩ := hQ1
  have N1 := Fr.app N0 Nq1
  show Go p e below _ (T1.setTop (mkF m 4 _ []))
  refine gs.aloadN X1.here hx (hb hby d2_4) rfl rfl ?_
  refine gs.iconst 0 X1.here hx (hb hby d2_5) rfl ?_
  obtain ⟨T2, h2, X2, e2, W2, st2⟩ := putF X1 hx hZ hown (host := "") (Or.inl (wd hw 22 rfl)) Via.refl e1 HF_ad1_AbstractList_modCount HE_ad1 (Or.inl (wd hw 23 rfl)) (wd hw 2 rfl) (ty := .int) (by decide) rfl rfl (g := (mkF m 6 #[.val (.ref ad1)] [(.int (0 : Int32)), (.ref ad1)])) rfl rfl (hb hby d2_6)
  have N2 := Fr.snoc X2 N1 nn_ad1
  have old2 := Ol.wr W2 nn_ad1
  have kp2 := kp0.wr W2 (Or.inl (List.mem_of_getElem? (i := 0) rfl))
  have F2 := HF_ad1_AbstractList_modCount.same W2
  refine Go.fin st2 ?_
  show Go p e below _ (T2.setTop (mkF m 9 _ []))
  have f3 := (HE_ad1.wr W2)
  have f4 := (HF_ad1_ArrayList_elementData.other W2 (Or.inr (sn0 hw)))
  have f5 := (HF_ad1_ArrayList_size.other W2 (Or.inr (sn1 hw)))
  refine Go.retV X2 hx Bd.returns Bd.notSynchronized (hb hby d2_9) (by rw [e2]; exact ⟨rfl, N2, kp2, f3, F2, f4, f5⟩) (by decide) (by decide)
theorem d1_4 : decode c_1 4 = .ok (.aload_n 0, 1) := by decide +kernel
theorem d1_5 : decode c_1 5 = .ok (.getstatic 39, 3) := by decide +kernel
theorem d1_8 : decode c_1 8 = .ok (.putfield 9, 3) := by decide +kernel
theorem d1_11 : decode c_1 11 = .ok (.return_, 1) := by decide +kernel
theorem sn2 {a0 : Array Value} {Z : State} (hw : ∀ d ∈ tables_1, d.before a0 Z = true) : SN Z "java/util/AbstractList" "modCount" "I" "java/util/ArrayList" "elementData" "[Ljava/lang/Object;" := slot_ne (Or.inl (wd hw 23 rfl)) (Or.inl (wd hw 26 rfl)) (by decide) (t := .int) (t' := (.array (.object "java/lang/Object"))) (by decide) (by decide)
theorem sn3 {a0 : Array Value} {Z : State} (hw : ∀ d ∈ tables_1, d.before a0 Z = true) : SN Z "java/util/ArrayList" "size" "I" "java/util/ArrayList" "elementData" "[Ljava/lang/Object;" := slot_ne (Or.inl (wd hw 78 rfl)) (Or.inl (wd hw 26 rfl)) (by decide) (t := .int) (t' := (.array (.object "java/lang/Object"))) (by decide) (by decide)
theorem pn_4 : plainName "java/util/ArrayList" = true := by first | (simp [plainName, overriddenIn]; done) | decide +kernel
theorem ef_am1_1 (m : MethodId) (x0 : Addr)  : entryFrame m #[(.ref x0)] 1 = mkF m 0 #[.val (.ref x0)] [] := by first | (simp [entryFrame, mkF, argsToLocals, Value.category]; done) | rfl
def Q_am1_1 (Z : State) (u_1 : Addr) (aw0 : Addr) (u_0 : ClassId) (kaw0 : ClassId) (ad1 : Addr) (h0 : Heap) (n0 : Nat) (v : Option Value) (h : Heap) (L : List Loc) : Prop := v = none ∧ Fr n0 L ∧ Keep h0 h [ad1] ∧ (Exa Z h ad1 "java/util/ArrayList") ∧ (Fld Z h ad1 "java/util/AbstractList" "modCount" "I" (.int (0 : Int32))) ∧ (Fld Z h ad1 "java/util/ArrayList" "elementData" "[Ljava/lang/Object;" (.ref aw0)) ∧ (Fld Z h ad1 "java/util/ArrayList" "size" "I" (.int (0 : Int32)))
set_option maxRecDepth 65536 in
set_option maxHeartbeats 40000000 in
theorem am1_1 (l : Launch) (Z : State) (a0 : Array Value) (hw : ∀ d ∈ tables_1, d.before a0 Z = true) (ws : List Jvm.Cond) (u_1 : Addr) (aw0 : Addr) (u_0 : ClassId) (kaw0 : ClassId) (HW : Wd Z u_1 aw0 u_0 kaw0) (ad1 : Addr) (h0 : Heap) (n0 : Nat) (Ol : Old Z n0 h0) (HE_ad1 : Exa Z h0 ad1 "java/util/ArrayList") (HF_ad1_AbstractList_modCount : Fld Z h0 ad1 "java/util/AbstractList" "modCount" "I" (.int (0 : Int32))) (HF_ad1_ArrayList_elementData : Fld Z h0 ad1 "java/util/ArrayList" "elementData" "[Ljava/lang/Object;" .null) (HF_ad1_ArrayList_size : Fld Z h0 ad1 "java/util/ArrayList" "size" "I" (.int (0 : Int32))) (nn_ad1 : n0 ≤ ad1) :
    MetFree l y_1 (head1 (Jvm.Cond.code y_1 jdk_38_method_2_code 1 none :: ws) (rm 3 0 0 36)) (fun a_ U_ => a_ = #[(.ref ad1)] ∧ Z.Warmed39 U_.vm ∧ U_.heap = h0) (fun _ _ _ _ _ => True) (fun _ U_ o_ V_ => ∃ v_ L_, o_ = .returned v_ ∧ Q_am1_1 Z u_1 aw0 u_0 kaw0 ad1 h0 n0 v_ V_.heap L_ ∧ FrameEnd U_ o_ V_ L_ (rm 3 0 0 36).cells (rm 3 0 0 36).slots) := by
  refine MetFree.of_bodySF (plainFor_of_name pn_4) hisR ?_
  intro p e s m args below meth c s₁ Bd hml0 hP hK
  obtain ⟨rfl, hZ, hh⟩ := hP
  have hx := Bd.exec
  have hby := Bd.bytes
  have hml : c.maxLocals = 1 := hml0
  have hown : s.vm.findClass "java/util/ArrayList" = some m.cls := findClass_of_methodNamed Bd.named
  have hnm := (name_of_methodNamed Bd.named Bd.method).1
  have X0 : Stand p l e (rm 3 0 0 36) s m #[(.ref ad1)] below meth c s₁ [] 0 0 := Stand.of_body Bd
  have e0 : s₁.heap = h0 := by rw [← hh, Bd.state]; rfl
  have N0 := Fr.nil n0
  have kp0 := Keep.refl h0 [ad1]
  show Go p e below (Fin1 s below (Q_am1_1 Z u_1 aw0 u_0 kaw0 ad1 h0 n0) (rm 3 0 0 36).cells (rm 3 0 0 36).slots) _
  refine Go.step (fun t_ k_ => castTop (ef_am1_1 m ad1) k_) ?_
  obtain ⟨Eu_1, Su_1, Eaw0, Saw0, Au_1, Aaw0⟩ := id HW
  show Go p e below _ (s₁.setTop (mkF m 0 #[.val (.ref ad1)] []))
  refine gs.aloadN X0.here hx (hb hby d1_0) rfl rfl ?_
  refine gs.init 0 X0 hx hZ hown (am2_1 l Z a0 hw [] u_1 aw0 u_0 kaw0 HW (ad1) h0 n0 Ol HE_ad1 HF_ad1_AbstractList_modCount HF_ad1_ArrayList_elementData HF_ad1_ArrayList_size nn_ad1) (wd hw 12 rfl) (wd hw 11 rfl) (wd hw 7 rfl) rfl (wd hw 8 rfl) (by decide) (by decide) (by decide) (by rw [hml]; rfl) [] (lenOf pd_0 rfl) rfl (Nat.le_of_eq rfl) (hb hby d1_1) rfl e0 (by decide) (by decide) fun T1 Lc1 v1 X1 hQ1 => ?_
  obtain ⟨rfl, Nq1, K1, p1_0, p1_1, p1_2, p1_3⟩ := hQ1
  have old1 := Ol.keep K1 (allS nn_ad1 all0)
  have kp1 := kp0.trans K1 (allS (Or.inl (List.mem_of_getElem? (i := 0) rfl)) all0)
  have N1 := Fr.app N0 Nq1
  show Go p e below _ (T1.setTop (mkF m 4 _ []))
  refine gs.aloadN X1.here hx (hb hby d1_4) rfl rfl ?_
  obtain ⟨T2, X2, e2, st2⟩ := getS2 X1 hx hZ hown (host := "") (Or.inl (wd hw 24 rfl)) Via.refl rfl (Saw0.ext old1.2) (g := (mkF m 5 #[.val (.ref ad1)] [(.ref ad1)])) rfl (hb hby d1_5)
  refine Go.fin st2 ?_
  show Go p e below _ (T2.setTop (mkF m 8 _ [(.ref aw0), (.ref ad1)]))
  obtain ⟨T3, h3, X3, e3, W3, st3⟩ := putF X2 hx hZ hown (host := "") (Or.inl (wd hw 25 rfl)) Via.refl e2 p1_2 p1_0 (Or.inl (wd hw 26 rfl)) (wd hw 2 rfl) (ty := (.array (.object "java/lang/Object"))) (by decide) rfl rfl (g := (mkF m 8 #[.val (.ref ad1)] [(.ref aw0), (.ref ad1)])) rfl rfl (hb hby d1_8)
  have N3 := Fr.snoc X3 N1 nn_ad1
  have old3 := old1.wr W3 nn_ad1
  have kp3 := kp1.wr W3 (Or.inl (List.mem_of_getElem? (i := 0) rfl))
  have F3 := p1_2.same W3
  refine Go.fin st3 ?_
  show Go p e below _ (T3.setTop (mkF m 11 _ []))
  have f4 := (p1_0.wr W3)
  have f5 := (p1_1.other W3 (Or.inr (sn2 hw)))
  have f6 := (p1_3.other W3 (Or.inr (sn3 hw)))
  refine Go.retV X3 hx Bd.returns Bd.notSynchronized (hb hby d1_11) (by rw [e3]; exact ⟨rfl, N3, kp3, f4, f5, F3, f6⟩) (by decide) (by decide)
theorem d5_0 : decode c_5 0 = .ok (.iload_n 1, 1) := by decide +kernel
theorem d5_1 : decode c_5 1 = .ok (.iload_n 0, 1) := by decide +kernel
theorem d5_2 : decode c_5 2 = .ok (.if_icmp .ge 18, 3) := by decide +kernel
theorem d5_20 : decode c_5 20 = .ok (.new 7, 3) := by decide +kernel
theorem d5_23 : decode c_5 23 = .ok (.dup, 1) := by decide +kernel
theorem d5_24 : decode c_5 24 = .ok (.iload_n 0, 1) := by decide +kernel
theorem d5_25 : decode c_5 25 = .ok (.iload_n 1, 1) := by decide +kernel
theorem d5_26 : decode c_5 26 = .ok (.i2l, 1) := by decide +kernel
theorem d5_27 : decode c_5 27 = .ok (.iload_n 0, 1) := by decide +kernel
theorem d5_28 : decode c_5 28 = .ok (.i2l, 1) := by decide +kernel
theorem d5_29 : decode c_5 29 = .ok (.lsub, 1) := by decide +kernel
theorem d5_30 : decode c_5 30 = .ok (.lconst 1, 1) := by decide +kernel
theorem d5_31 : decode c_5 31 = .ok (.ladd, 1) := by decide +kernel
theorem d5_32 : decode c_5 32 = .ok (.aconst_null, 1) := by decide +kernel
theorem d5_33 : decode c_5 33 = .ok (.invokespecial 34, 3) := by decide +kernel
theorem d6_0 : decode c_6 0 = .ok (.aload_n 0, 1) := by decide +kernel
theorem d6_1 : decode c_6 1 = .ok (.invokespecial 1, 3) := by decide +kernel
theorem d6_4 : decode c_6 4 = .ok (.lload_n 2, 1) := by decide +kernel
theorem d6_5 : decode c_6 5 = .ok (.ldc2_w 9, 3) := by decide +kernel
theorem d6_8 : decode c_6 8 = .ok (.lcmp, 1) := by decide +kernel
theorem d6_9 : decode c_6 9 = .ok (.ifCond .le 17, 3) := by decide +kernel
theorem d6_26 : decode c_6 26 = .ok (.aload_n 0, 1) := by decide +kernel
theorem d6_27 : decode c_6 27 = .ok (.iload_n 1, 1) := by decide +kernel
theorem d6_28 : decode c_6 28 = .ok (.putfield 20, 3) := by decide +kernel
theorem d6_31 : decode c_6 31 = .ok (.aload_n 0, 1) := by decide +kernel
theorem d6_32 : decode c_6 32 = .ok (.lload_n 2, 1) := by decide +kernel
theorem d6_33 : decode c_6 33 = .ok (.l2i, 1) := by decide +kernel
theorem d6_34 : decode c_6 34 = .ok (.putfield 24, 3) := by decide +kernel
theorem sn4 {a0 : Array Value} {Z : State} (hw : ∀ d ∈ tables_1, d.before a0 Z = true) : SN Z "com/example/monarc/monarc/InitialDomain" "size" "I" "com/example/monarc/monarc/InitialDomain" "lowest" "I" := slot_ne (Or.inr (wd hw 52 rfl)) (Or.inr (wd hw 50 rfl)) (by decide) (t := .int) (t' := .int) (by decide) (by decide)
theorem d6_37 : decode c_6 37 = .ok (.aload_n 0, 1) := by decide +kernel
theorem d6_38 : decode c_6 38 = .ok (.aload 4, 2) := by decide +kernel
theorem d6_40 : decode c_6 40 = .ok (.putfield 27, 3) := by decide +kernel
theorem sn5 {a0 : Array Value} {Z : State} (hw : ∀ d ∈ tables_1, d.before a0 Z = true) : SN Z "com/example/monarc/monarc/InitialDomain" "values" "[I" "com/example/monarc/monarc/InitialDomain" "lowest" "I" := slot_ne (Or.inr (wd hw 54 rfl)) (Or.inr (wd hw 50 rfl)) (by decide) (t := (.array .int)) (t' := .int) (by decide) (by decide)
theorem sn6 {a0 : Array Value} {Z : State} (hw : ∀ d ∈ tables_1, d.before a0 Z = true) : SN Z "com/example/monarc/monarc/InitialDomain" "values" "[I" "com/example/monarc/monarc/InitialDomain" "size" "I" := slot_ne (Or.inr (wd hw 54 rfl)) (Or.inr (wd hw 52 rfl)) (by decide) (t := (.array .int)) (t' := .int) (by decide) (by decide)
theorem d6_43 : decode c_6 43 = .ok (.return_, 1) := by decide +kernel
theorem sn7 {a0 : Array Value} {Z : State} (hw : ∀ d ∈ tables_1, d.before a0 Z = true) : SN Z "com/example/monarc/monarc/InitialDomain" "lowest" "I" "com/example/monarc/monarc/InitialDomain" "size" "I" := slot_ne (Or.inr (wd hw 50 rfl)) (Or.inr (wd hw 52 rfl)) (by decide) (t := .int) (t' := .int) (by decide) (by decide)
theorem sn8 {a0 : Array Value} {Z : State} (hw : ∀ d ∈ tables_1, d.before a0 Z = true) : SN Z "com/example/monarc/monarc/InitialDomain" "lowest" "I" "com/example/monarc/monarc/InitialDomain" "values" "[I" := slot_ne (Or.inr (wd hw 50 rfl)) (Or.inr (wd hw 54 rfl)) (by decide) (t := .int) (t' := (.array .int)) (by decide) (by decide)
theorem sn9 {a0 : Array Value} {Z : State} (hw : ∀ d ∈ tables_1, d.before a0 Z = true) : SN Z "com/example/monarc/monarc/InitialDomain" "size" "I" "com/example/monarc/monarc/InitialDomain" "values" "[I" := slot_ne (Or.inr (wd hw 52 rfl)) (Or.inr (wd hw 54 rfl)) (by decide) (t := .int) (t' := (.array .int)) (by decide) (by decide)
theorem pn_5 : plainName "com/example/monarc/monarc/InitialDomain" = true := by first | (simp [plainName, overriddenIn]; done) | decide +kernel
theorem ef_am6_1 (m : MethodId) (x0 : Addr) (x1 : Int32) (x2 : Int64)  : entryFrame m #[(.ref x0), (.int x1), (.long x2), .null] 5 = mkF m 0 #[.val (.ref x0), .val (.int x1), .val (.long x2), .second, .val .null] [] := by first | (simp [entryFrame, mkF, argsToLocals, Value.category]; done) | rfl
def Q_am6_1 (Z : State) (u_1 : Addr) (aw0 : Addr) (u_0 : ClassId) (kaw0 : ClassId) (ad1 : Addr) (iv1 : Int32) (lv2 : Int64) (iv3 : Int32) (h0 : Heap) (n0 : Nat) (v : Option Value) (h : Heap) (L : List Loc) : Prop := v = none ∧ Fr n0 L ∧ Keep h0 h [ad1] ∧ (Exa Z h ad1 "com/example/monarc/monarc/InitialDomain") ∧ (Fld Z h ad1 "com/example/monarc/monarc/InitialDomain" "lowest" "I" (.int iv1)) ∧ (Fld Z h ad1 "com/example/monarc/monarc/InitialDomain" "size" "I" (.int iv3)) ∧ (Fld Z h ad1 "com/example/monarc/monarc/InitialDomain" "values" "[I" .null)
set_option maxRecDepth 65536 in
set_option maxHeartbeats 40000000 in
theorem am6_1 (l : Launch) (Z : State) (a0 : Array Value) (hw : ∀ d ∈ tables_1, d.before a0 Z = true) (ws : List Jvm.Cond) (u_1 : Addr) (aw0 : Addr) (u_0 : ClassId) (kaw0 : ClassId) (HW : Wd Z u_1 aw0 u_0 kaw0) (ad1 : Addr) (iv1 : Int32) (lv2 : Int64) (iv3 : Int32) (h0 : Heap) (n0 : Nat) (Ol : Old Z n0 h0) (HE_ad1 : Exa Z h0 ad1 "com/example/monarc/monarc/InitialDomain") (HF_ad1_InitialDomain_lowest : Fld Z h0 ad1 "com/example/monarc/monarc/InitialDomain" "lowest" "I" (.int (0 : Int32))) (HF_ad1_InitialDomain_size : Fld Z h0 ad1 "com/example/monarc/monarc/InitialDomain" "size" "I" (.int (0 : Int32))) (HF_ad1_InitialDomain_values : Fld Z h0 ad1 "com/example/monarc/monarc/InitialDomain" "values" "[I" .null) (nn_ad1 : n0 ≤ ad1) (as0 : ¬ ((0 : Int32) < (lcmpW lv2 (1073741823 : Int64)))) (eq0 : (lv2.toInt32) = iv3) :
    MetFree l y_6 (head1 (Jvm.Cond.code y_6 prog_20_method_1_code 5 none :: ws) (rm 1 0 0 12)) (fun a_ U_ => a_ = #[(.ref ad1), (.int iv1), (.long lv2), .null] ∧ Z.Warmed39 U_.vm ∧ U_.heap = h0) (fun _ _ _ _ _ => True) (fun _ U_ o_ V_ => ∃ v_ L_, o_ = .returned v_ ∧ Q_am6_1 Z u_1 aw0 u_0 kaw0 ad1 iv1 lv2 iv3 h0 n0 v_ V_.heap L_ ∧ FrameEnd U_ o_ V_ L_ (rm 1 0 0 12).cells (rm 1 0 0 12).slots) := by
  refine MetFree.of_bodySF (plainFor_of_name pn_5) hisR ?_
  intro p e s m args below meth c s₁ Bd hml0 hP hK
  obtain ⟨rfl, hZ, hh⟩ := hP
  have hx := Bd.exec
  have hby := Bd.bytes
  have hml : c.maxLocals = 5 := hml0
  have hown : s.vm.findClass "com/example/monarc/monarc/InitialDomain" = some m.cls := findClass_of_methodNamed Bd.named
  have hnm := (name_of_methodNamed Bd.named Bd.method).1
  have X0 : Stand p l e (rm 1 0 0 12) s m #[(.ref ad1), (.int iv1), (.long lv2), .null] below meth c s₁ [] 0 0 := Stand.of_body Bd
  have e0 : s₁.heap = h0 := by rw [← hh, Bd.state]; rfl
  have N0 := Fr.nil n0
  have kp0 := Keep.refl h0 [ad1]
  show Go p e below (Fin1 s below (Q_am6_1 Z u_1 aw0 u_0 kaw0 ad1 iv1 lv2 iv3 h0 n0) (rm 1 0 0 12).cells (rm 1 0 0 12).slots) _
  refine Go.step (fun t_ k_ => castTop (ef_am6_1 m ad1 iv1 lv2) k_) ?_
  obtain ⟨Eu_1, Su_1, Eaw0, Saw0, Au_1, Aaw0⟩ := id HW
  show Go p e below _ (s₁.setTop (mkF m 0 #[.val (.ref ad1), .val (.int iv1), .val (.long lv2), .second, .val .null] []))
  refine gs.aloadN X0.here hx (hb hby d6_0) rfl rfl ?_
  obtain ⟨T1, X1, e1, st1⟩ := initO X0 hx hZ hown (wd hw 47 rfl) (wd hw 20 rfl) (wd hw 21 rfl) e0 (g := (mkF m 1 #[.val (.ref ad1), .val (.int iv1), .val (.long lv2), .second, .val .null] [(.ref ad1)])) rfl (by rw [hml]; rfl) rfl (hb hby d6_1) (by decide) (W := 0) (by show 2 * 0 + _ ≤ _; exact Nat.le_of_eq rfl) (by decide)
  refine Go.step st1 ?_
  show Go p e below _ (T1.setTop (mkF m 4 #[.val (.ref ad1), .val (.int iv1), .val (.long lv2), .second, .val .null] []))
  refine gs.lloadN X1.here hx (hb hby d6_4) rfl ?_
  refine Go.fin (fun t_ k_ => X1.ldc2Long hx hown (mvT hZ (wd hw 48 rfl)) (g := mkF m 5 _ _) rfl (hb hby d6_5) _ k_) ?_
  show Go p e below _ (T1.setTop (mkF m 8 _ [(.long (1073741823 : Int64)), (.long lv2)]))
  refine Go.fin (fun t_ k_ => XS.lcmp X1.here hx rfl (hb hby d6_8) rfl k_) ?_
  show Go p e below _ (T1.setTop (mkF m 9 _ [(.int (lcmpW lv2 (1073741823 : Int64)))]))
  have hc9 : ¬ ((0 : Int32) < (lcmpW lv2 (1073741823 : Int64))) := as0
  refine gs.ifYes 26 X1.here hx (hb hby d6_9) ((if0 _ _).trans (flt hc9).2.2.2) rfl ?_
  refine gs.aloadN X1.here hx (hb hby d6_26) rfl rfl ?_
  refine gs.iloadN X1.here hx (hb hby d6_27) rfl ?_
  obtain ⟨T2, h2, X2, e2, W2, st2⟩ := putF X1 hx hZ hown (host := "") (Or.inl (wd hw 49 rfl)) Via.refl e1 HF_ad1_InitialDomain_lowest HE_ad1 (Or.inr ⟨(wd hw 50 rfl), rfl, hnm⟩) (wd hw 43 rfl) (ty := .int) (by decide) rfl rfl (g := (mkF m 28 #[.val (.ref ad1), .val (.int iv1), .val (.long lv2), .second, .val .null] [(.int iv1), (.ref ad1)])) rfl rfl (hb hby d6_28)
  have N2 := Fr.snoc X2 N0 nn_ad1
  have old2 := Ol.wr W2 nn_ad1
  have kp2 := kp0.wr W2 (Or.inl (List.mem_of_getElem? (i := 0) rfl))
  have F2 := HF_ad1_InitialDomain_lowest.same W2
  refine Go.fin st2 ?_
  show Go p e below _ (T2.setTop (mkF m 31 _ []))
  refine gs.aloadN X2.here hx (hb hby d6_31) rfl rfl ?_
  refine gs.lloadN X2.here hx (hb hby d6_32) rfl ?_
  refine Go.fin (fun t_ k_ => XS.l2i X2.here hx rfl (hb hby d6_33) rfl k_) ?_
  show Go p e below _ (T2.setTop (mkF m 34 _ [(.int (lv2.toInt32)), (.ref ad1)]))
  rw [show (lv2.toInt32) = iv3 from eq0]
  have f3 := (HF_ad1_InitialDomain_size.other W2 (Or.inr (sn4 hw)))
  have f4 := (HE_ad1.wr W2)
  obtain ⟨T5, h5, X5, e5, W5, st5⟩ := putF X2 hx hZ hown (host := "") (Or.inl (wd hw 51 rfl)) Via.refl e2 f3 f4 (Or.inr ⟨(wd hw 52 rfl), rfl, hnm⟩) (wd hw 43 rfl) (ty := .int) (by decide) rfl rfl (g := (mkF m 34 #[.val (.ref ad1), .val (.int iv1), .val (.long lv2), .second, .val .null] [(.int iv3), (.ref ad1)])) rfl rfl (hb hby d6_34)
  have N5 := Fr.snoc X5 N2 nn_ad1
  have old5 := old2.wr W5 nn_ad1
  have kp5 := kp2.wr W5 (Or.inl (List.mem_of_getElem? (i := 0) rfl))
  have F5 := f3.same W5
  refine Go.fin st5 ?_
  show Go p e below _ (T5.setTop (mkF m 37 _ []))
  refine gs.aloadN X5.here hx (hb hby d6_37) rfl rfl ?_
  refine gs.aload X5.here hx (hb hby d6_38) rfl rfl ?_
  have f6 := ((HF_ad1_InitialDomain_values.other W2 (Or.inr (sn5 hw))).other W5 (Or.inr (sn6 hw)))
  have f7 := (f4.wr W5)
  obtain ⟨T8, h8, X8, e8, W8, st8⟩ := putF X5 hx hZ hown (host := "") (Or.inl (wd hw 53 rfl)) Via.refl e5 f6 f7 (Or.inr ⟨(wd hw 54 rfl), rfl, hnm⟩) (wd hw 43 rfl) (ty := (.array .int)) (by decide) rfl rfl (g := (mkF m 40 #[.val (.ref ad1), .val (.int iv1), .val (.long lv2), .second, .val .null] [.null, (.ref ad1)])) rfl rfl (hb hby d6_40)
  have N8 := Fr.snoc X8 N5 nn_ad1
  have old8 := old5.wr W8 nn_ad1
  have kp8 := kp5.wr W8 (Or.inl (List.mem_of_getElem? (i := 0) rfl))
  have F8 := f6.same W8
  refine Go.fin st8 ?_
  show Go p e below _ (T8.setTop (mkF m 43 _ []))
  have f9 := (f7.wr W8)
  have f10 := ((F2.other W5 (Or.inr (sn7 hw))).other W8 (Or.inr (sn8 hw)))
  have f11 := (F5.other W8 (Or.inr (sn9 hw)))
  refine Go.retV X8 hx Bd.returns Bd.notSynchronized (hb hby d6_43) (by rw [e8]; exact ⟨rfl, N8, kp8, f9, f10, f11, F8⟩) (by decide) (by decide)
theorem pd_1 : parseMethodDescriptor "(IJ[I)V" = some ⟨[.int, .long, (.array .int)], none⟩ := by decide +kernel
theorem d5_36 : decode c_5 36 = .ok (.areturn, 1) := by decide +kernel
theorem ef_am5_1 (m : MethodId) (x0 : Int32) (x1 : Int32)  : entryFrame m #[(.int x0), (.int x1)] 2 = mkF m 0 #[.val (.int x0), .val (.int x1)] [] := by first | (simp [entryFrame, mkF, argsToLocals, Value.category]; done) | rfl
def Q_am5_1 (Z : State) (u_1 : Addr) (aw0 : Addr) (u_0 : ClassId) (kaw0 : ClassId) (iv1 : Int32) (iv2 : Int32) (iv3 : Int32) (h0 : Heap) (n0 : Nat) (v : Option Value) (h : Heap) (L : List Loc) : Prop := ∃ fr1 : Addr, v = some (.ref fr1) ∧ h0.size ≤ fr1 ∧ Fr n0 L ∧ Keep h0 h [] ∧ (Exa Z h fr1 "com/example/monarc/monarc/InitialDomain") ∧ (Fld Z h fr1 "com/example/monarc/monarc/InitialDomain" "lowest" "I" (.int iv1)) ∧ (Fld Z h fr1 "com/example/monarc/monarc/InitialDomain" "size" "I" (.int iv3)) ∧ (Fld Z h fr1 "com/example/monarc/monarc/InitialDomain" "values" "[I" .null)
set_option maxRecDepth 65536 in
set_option maxHeartbeats 40000000 in
theorem am5_1 (l : Launch) (Z : State) (a0 : Array Value) (hw : ∀ d ∈ tables_1, d.before a0 Z = true) (ws : List Jvm.Cond) (u_1 : Addr) (aw0 : Addr) (u_0 : ClassId) (kaw0 : ClassId) (HW : Wd Z u_1 aw0 u_0 kaw0) (iv1 : Int32) (iv2 : Int32) (iv3 : Int32) (h0 : Heap) (n0 : Nat) (Ol : Old Z n0 h0) (as0 : ¬ ((0 : Int32) < (lcmpW (((iv2.toInt64) - (iv1.toInt64)) + (1 : Int64)) (1073741823 : Int64)))) (as1 : ¬ (iv2 < iv1)) (eq0 : ((((iv2.toInt64) - (iv1.toInt64)) + (1 : Int64)).toInt32) = iv3) :
    MetFree l y_5 (head1 (Jvm.Cond.code y_5 prog_20_method_2_code 2 (some (.object "com/example/monarc/monarc/InitialDomain")) :: ws) (rm 2 1 3 29)) (fun a_ U_ => a_ = #[(.int iv1), (.int iv2)] ∧ Z.Warmed39 U_.vm ∧ U_.heap = h0) (fun _ _ _ _ _ => True) (fun _ U_ o_ V_ => ∃ v_ L_, o_ = .returned v_ ∧ Q_am5_1 Z u_1 aw0 u_0 kaw0 iv1 iv2 iv3 h0 n0 v_ V_.heap L_ ∧ FrameEnd U_ o_ V_ L_ (rm 2 1 3 29).cells (rm 2 1 3 29).slots) := by
  refine MetFree.of_bodySF (plainFor_of_name pn_5) hisR ?_
  intro p e s m args below meth c s₁ Bd hml0 hP hK
  obtain ⟨rfl, hZ, hh⟩ := hP
  have hx := Bd.exec
  have hby := Bd.bytes
  have hml : c.maxLocals = 2 := hml0
  have hown : s.vm.findClass "com/example/monarc/monarc/InitialDomain" = some m.cls := findClass_of_methodNamed Bd.named
  have hnm := (name_of_methodNamed Bd.named Bd.method).1
  have X0 : Stand p l e (rm 2 1 3 29) s m #[(.int iv1), (.int iv2)] below meth c s₁ [] 0 0 := Stand.of_body Bd
  have e0 : s₁.heap = h0 := by rw [← hh, Bd.state]; rfl
  have N0 := Fr.nil n0
  have kp0 := Keep.refl h0 []
  show Go p e below (Fin1 s below (Q_am5_1 Z u_1 aw0 u_0 kaw0 iv1 iv2 iv3 h0 n0) (rm 2 1 3 29).cells (rm 2 1 3 29).slots) _
  refine Go.step (fun t_ k_ => castTop (ef_am5_1 m iv1 iv2) k_) ?_
  obtain ⟨Eu_1, Su_1, Eaw0, Saw0, Au_1, Aaw0⟩ := id HW
  show Go p e below _ (s₁.setTop (mkF m 0 #[.val (.int iv1), .val (.int iv2)] []))
  refine gs.iloadN X0.here hx (hb hby d5_0) rfl ?_
  refine gs.iloadN X0.here hx (hb hby d5_1) rfl ?_
  have hc2 : ¬ (iv2 < iv1) := as1
  refine gs.icmpYes 20 X0.here hx (hb hby d5_2) (flt hc2).2.1 rfl ?_
  obtain ⟨T1, h1, X1, e1, E1, A1, D1, Y1, st1⟩ := newO X0 hx hZ hown (wd hw 42 rfl) (wd hw 43 rfl) (wd hw 40 rfl) e0 (g := (mkF m 20 #[.val (.int iv1), .val (.int iv2)] [])) rfl (hb hby d5_20) (by decide) (by decide)
  obtain ⟨b1, g1⟩ : ∃ z, z = h0.size := ⟨_, rfl⟩
  rw [← g1] at A1 D1 Y1 st1
  have nn_b1 : n0 ≤ b1 := Nat.le_trans (old_z0 Ol) (Nat.le_of_eq g1.symm)
  have sz_b1 : h0.size ≤ b1 := Nat.le_trans kp0.1 (Nat.le_of_eq g1.symm)
  have old1 := Ol.ext E1
  have kp1 := kp0.ext E1
  have F1_lowest : Fld Z h1 b1 "com/example/monarc/monarc/InitialDomain" "lowest" "I" (.int (0 : Int32)) := D1 (Or.inr (wd hw 50 rfl)) (ty := .int) (by decide)
  have F1_size : Fld Z h1 b1 "com/example/monarc/monarc/InitialDomain" "size" "I" (.int (0 : Int32)) := D1 (Or.inr (wd hw 52 rfl)) (ty := .int) (by decide)
  have F1_values : Fld Z h1 b1 "com/example/monarc/monarc/InitialDomain" "values" "[I" .null := D1 (Or.inr (wd hw 54 rfl)) (ty := (.array .int)) (by decide)
  refine Go.fin st1 ?_
  show Go p e below _ (T1.setTop (mkF m 23 _ [(.ref b1)]))
  refine gs.dup X1.here hx (hb hby d5_23) rfl ?_
  refine gs.iloadN X1.here hx (hb hby d5_24) rfl ?_
  refine gs.iloadN X1.here hx (hb hby d5_25) rfl ?_
  refine Go.fin (fun t_ k_ => XS.i2l X1.here hx rfl (hb hby d5_26) rfl k_) ?_
  show Go p e below _ (T1.setTop (mkF m 27 _ [(.long (iv2.toInt64)), (.int iv1), (.ref b1), (.ref b1)]))
  refine gs.iloadN X1.here hx (hb hby d5_27) rfl ?_
  refine Go.fin (fun t_ k_ => XS.i2l X1.here hx rfl (hb hby d5_28) rfl k_) ?_
  show Go p e below _ (T1.setTop (mkF m 29 _ [(.long (iv1.toInt64)), (.long (iv2.toInt64)), (.int iv1), (.ref b1), (.ref b1)]))
  refine gs.lsub X1.here hx (hb hby d5_29) ?_
  refine Go.fin (fun t_ k_ => XS.lconst X1.here hx rfl (hb hby d5_30) k_) ?_
  show Go p e below _ (T1.setTop (mkF m 31 _ [(.long (1 : Int64)), (.long ((iv2.toInt64) - (iv1.toInt64))), (.int iv1), (.ref b1), (.ref b1)]))
  refine gs.ladd X1.here hx (hb hby d5_31) ?_
  refine gs.aconstNull X1.here hx (hb hby d5_32) ?_
  refine gs.init 1 X1 hx hZ hown (am6_1 l Z a0 hw [] u_1 aw0 u_0 kaw0 HW (b1) (iv1) ((((iv2.toInt64) - (iv1.toInt64)) + (1 : Int64))) (iv3) h1 n0 old1 A1 F1_lowest F1_size F1_values nn_b1 as0 eq0) (wd hw 46 rfl) (wd hw 40 rfl) (wd hw 44 rfl) rfl (wd hw 45 rfl) (by decide) (by decide) (by decide) (by rw [hml]; rfl) [(.int iv1), (.long (((iv2.toInt64) - (iv1.toInt64)) + (1 : Int64))), .null] (lenOf pd_1 rfl) rfl (Nat.le_of_eq rfl) (hb hby d5_33) rfl e1 (by decide) (by decide) fun T2 Lc2 v2 X2 hQ2 => ?_
  obtain ⟨rfl, Nq2, K2, p2_0, p2_1, p2_2, p2_3⟩ := hQ2
  have old2 := old1.keep K2 (allS nn_b1 all0)
  have kp2 := kp1.trans K2 (allS (Or.inr sz_b1) all0)
  have N2 := Fr.app N0 Nq2
  show Go p e below _ (T2.setTop (mkF m 36 _ [(.ref b1)]))
  refine Go.retR X2 hx Bd.returns rfl rfl Bd.notSynchronized (hb hby d5_36) (by exact ⟨b1, rfl, sz_b1, N2, kp2, p2_0, p2_1, p2_2, p2_3⟩) (by decide) (by decide)
theorem pd_2 : parseMethodDescriptor "(II)Lcom/example/monarc/monarc/InitialDomain;" = some ⟨[.int, .int], some (.object "com/example/monarc/monarc/InitialDomain")⟩ := by decide +kernel
theorem d7_0 : decode c_7 0 = .ok (.aload_n 0, 1) := by decide +kernel
theorem d7_1 : decode c_7 1 = .ok (.invokespecial 1, 3) := by decide +kernel
theorem d8_0 : decode c_8 0 = .ok (.aload_n 0, 1) := by decide +kernel
theorem d8_1 : decode c_8 1 = .ok (.invokespecial 1, 3) := by decide +kernel
theorem d8_4 : decode c_8 4 = .ok (.return_, 1) := by decide +kernel
theorem pn_6 : plainName "com/example/monarc/monarc/Term" = true := by first | (simp [plainName, overriddenIn]; done) | decide +kernel
theorem ef_am8_1 (m : MethodId) (x0 : Addr)  : entryFrame m #[(.ref x0)] 1 = mkF m 0 #[.val (.ref x0)] [] := by first | (simp [entryFrame, mkF, argsToLocals, Value.category]; done) | rfl
def Q_am8_1 (Z : State) (u_1 : Addr) (aw0 : Addr) (u_0 : ClassId) (kaw0 : ClassId) (ad1 : Addr) (h0 : Heap) (n0 : Nat) (v : Option Value) (h : Heap) (L : List Loc) : Prop := v = none ∧ Fr n0 L ∧ h = h0
set_option maxRecDepth 65536 in
set_option maxHeartbeats 40000000 in
theorem am8_1 (l : Launch) (Z : State) (a0 : Array Value) (hw : ∀ d ∈ tables_1, d.before a0 Z = true) (ws : List Jvm.Cond) (u_1 : Addr) (aw0 : Addr) (u_0 : ClassId) (kaw0 : ClassId) (HW : Wd Z u_1 aw0 u_0 kaw0) (ad1 : Addr) (h0 : Heap) (n0 : Nat) (Ol : Old Z n0 h0)  :
    MetFree l y_8 (head1 (Jvm.Cond.code y_8 prog_70_method_1_code 1 none :: ws) (rm 1 0 0 12)) (fun a_ U_ => a_ = #[(.ref ad1)] ∧ Z.Warmed39 U_.vm ∧ U_.heap = h0) (fun _ _ _ _ _ => True) (fun _ U_ o_ V_ => ∃ v_ L_, o_ = .returned v_ ∧ Q_am8_1 Z u_1 aw0 u_0 kaw0 ad1 h0 n0 v_ V_.heap L_ ∧ FrameEnd U_ o_ V_ L_ (rm 1 0 0 12).cells (rm 1 0 0 12).slots) := by
  refine MetFree.of_bodySF (plainFor_of_name pn_6) hisR ?_
  intro p e s m args below meth c s₁ Bd hml0 hP hK
  obtain ⟨rfl, hZ, hh⟩ := hP
  have hx := Bd.exec
  have hby := Bd.bytes
  have hml : c.maxLocals = 1 := hml0
  have hown : s.vm.findClass "com/example/monarc/monarc/Term" = some m.cls := findClass_of_methodNamed Bd.named
  have hnm := (name_of_methodNamed Bd.named Bd.method).1
  have X0 : Stand p l e (rm 1 0 0 12) s m #[(.ref ad1)] below meth c s₁ [] 0 0 := Stand.of_body Bd
  have e0 : s₁.heap = h0 := by rw [← hh, Bd.state]; rfl
  have N0 := Fr.nil n0
  have kp0 := Keep.refl h0 []
  show Go p e below (Fin1 s below (Q_am8_1 Z u_1 aw0 u_0 kaw0 ad1 h0 n0) (rm 1 0 0 12).cells (rm 1 0 0 12).slots) _
  refine Go.step (fun t_ k_ => castTop (ef_am8_1 m ad1) k_) ?_
  obtain ⟨Eu_1, Su_1, Eaw0, Saw0, Au_1, Aaw0⟩ := id HW
  show Go p e below _ (s₁.setTop (mkF m 0 #[.val (.ref ad1)] []))
  refine gs.aloadN X0.here hx (hb hby d8_0) rfl rfl ?_
  obtain ⟨T1, X1, e1, st1⟩ := initO X0 hx hZ hown (wd hw 63 rfl) (wd hw 20 rfl) (wd hw 21 rfl) e0 (g := (mkF m 1 #[.val (.ref ad1)] [(.ref ad1)])) rfl (by rw [hml]; rfl) rfl (hb hby d8_1) (by decide) (W := 0) (by show 2 * 0 + _ ≤ _; exact Nat.le_of_eq rfl) (by decide)
  refine Go.step st1 ?_
  show Go p e below _ (T1.setTop (mkF m 4 #[.val (.ref ad1)] []))
  refine Go.retV X1 hx Bd.returns Bd.notSynchronized (hb hby d8_4) (by rw [e1]; exact ⟨rfl, N0, rfl⟩) (by decide) (by decide)
theorem d7_4 : decode c_7 4 = .ok (.aload_n 0, 1) := by decide +kernel
theorem d7_5 : decode c_7 5 = .ok (.aload_n 1, 1) := by decide +kernel
theorem d7_6 : decode c_7 6 = .ok (.putfield 7, 3) := by decide +kernel
theorem d7_9 : decode c_7 9 = .ok (.aload_n 0, 1) := by decide +kernel
theorem d7_10 : decode c_7 10 = .ok (.iload_n 2, 1) := by decide +kernel
theorem d7_11 : decode c_7 11 = .ok (.putfield 13, 3) := by decide +kernel
theorem sn10 {a0 : Array Value} {Z : State} (hw : ∀ d ∈ tables_1, d.before a0 Z = true) : SN Z "com/example/monarc/monarc/Variable" "index" "I" "com/example/monarc/monarc/Variable" "name" "Ljava/lang/String;" := slot_ne (Or.inr (wd hw 67 rfl)) (Or.inr (wd hw 65 rfl)) (by decide) (t := .int) (t' := (.object "java/lang/String")) (by decide) (by decide)
theorem d7_14 : decode c_7 14 = .ok (.aload_n 0, 1) := by decide +kernel
theorem d7_15 : decode c_7 15 = .ok (.aload_n 3, 1) := by decide +kernel
theorem d7_16 : decode c_7 16 = .ok (.putfield 17, 3) := by decide +kernel
theorem sn11 {a0 : Array Value} {Z : State} (hw : ∀ d ∈ tables_1, d.before a0 Z = true) : SN Z "com/example/monarc/monarc/Variable" "domain" "Lcom/example/monarc/monarc/InitialDomain;" "com/example/monarc/monarc/Variable" "name" "Ljava/lang/String;" := slot_ne (Or.inr (wd hw 69 rfl)) (Or.inr (wd hw 65 rfl)) (by decide) (t := (.object "com/example/monarc/monarc/InitialDomain")) (t' := (.object "java/lang/String")) (by decide) (by decide)
theorem sn12 {a0 : Array Value} {Z : State} (hw : ∀ d ∈ tables_1, d.before a0 Z = true) : SN Z "com/example/monarc/monarc/Variable" "domain" "Lcom/example/monarc/monarc/InitialDomain;" "com/example/monarc/monarc/Variable" "index" "I" := slot_ne (Or.inr (wd hw 69 rfl)) (Or.inr (wd hw 67 rfl)) (by decide) (t := (.object "com/example/monarc/monarc/InitialDomain")) (t' := .int) (by decide) (by decide)
theorem d7_19 : decode c_7 19 = .ok (.return_, 1) := by decide +kernel
theorem pn_7 : plainName "com/example/monarc/monarc/Variable" = true := by first | (simp [plainName, overriddenIn]; done) | decide +kernel
theorem ef_am7_1 (m : MethodId) (x0 : Addr) (x1 : Addr) (x2 : Int32) (x3 : Addr)  : entryFrame m #[(.ref x0), (.ref x1), (.int x2), (.ref x3)] 4 = mkF m 0 #[.val (.ref x0), .val (.ref x1), .val (.int x2), .val (.ref x3)] [] := by first | (simp [entryFrame, mkF, argsToLocals, Value.category]; done) | rfl
def Q_am7_1 (Z : State) (u_1 : Addr) (aw0 : Addr) (u_0 : ClassId) (kaw0 : ClassId) (ad1 : Addr) (ad2 : Addr) (so1 : Int32) (ad3 : Addr) (h0 : Heap) (n0 : Nat) (v : Option Value) (h : Heap) (L : List Loc) : Prop := v = none ∧ Fr n0 L ∧ Keep h0 h [ad1] ∧ (Exa Z h ad1 "com/example/monarc/monarc/Variable") ∧ (Fld Z h ad1 "com/example/monarc/monarc/Variable" "domain" "Lcom/example/monarc/monarc/InitialDomain;" (.ref ad3))
set_option maxRecDepth 65536 in
set_option maxHeartbeats 40000000 in
theorem am7_1 (l : Launch) (Z : State) (a0 : Array Value) (hw : ∀ d ∈ tables_1, d.before a0 Z = true) (ws : List Jvm.Cond) (u_1 : Addr) (aw0 : Addr) (u_0 : ClassId) (kaw0 : ClassId) (HW : Wd Z u_1 aw0 u_0 kaw0) (ad1 : Addr) (ad2 : Addr) (so1 : Int32) (ad3 : Addr) (h0 : Heap) (n0 : Nat) (Ol : Old Z n0 h0) (HE_ad1 : Exa Z h0 ad1 "com/example/monarc/monarc/Variable") (HF_ad1_Variable_name : Fld Z h0 ad1 "com/example/monarc/monarc/Variable" "name" "Ljava/lang/String;" .null) (HF_ad1_Variable_index : Fld Z h0 ad1 "com/example/monarc/monarc/Variable" "index" "I" (.int (0 : Int32))) (HF_ad1_Variable_domain : Fld Z h0 ad1 "com/example/monarc/monarc/Variable" "domain" "Lcom/example/monarc/monarc/InitialDomain;" .null) (nn_ad1 : n0 ≤ ad1) :
    MetFree l y_7 (head1 (Jvm.Cond.code y_7 prog_76_method_1_code 4 none :: ws) (rm 2 0 0 24)) (fun a_ U_ => a_ = #[(.ref ad1), (.ref ad2), (.int so1), (.ref ad3)] ∧ Z.Warmed39 U_.vm ∧ U_.heap = h0) (fun _ _ _ _ _ => True) (fun _ U_ o_ V_ => ∃ v_ L_, o_ = .returned v_ ∧ Q_am7_1 Z u_1 aw0 u_0 kaw0 ad1 ad2 so1 ad3 h0 n0 v_ V_.heap L_ ∧ FrameEnd U_ o_ V_ L_ (rm 2 0 0 24).cells (rm 2 0 0 24).slots) := by
  refine MetFree.of_bodySF (plainFor_of_name pn_7) hisR ?_
  intro p e s m args below meth c s₁ Bd hml0 hP hK
  obtain ⟨rfl, hZ, hh⟩ := hP
  have hx := Bd.exec
  have hby := Bd.bytes
  have hml : c.maxLocals = 4 := hml0
  have hown : s.vm.findClass "com/example/monarc/monarc/Variable" = some m.cls := findClass_of_methodNamed Bd.named
  have hnm := (name_of_methodNamed Bd.named Bd.method).1
  have X0 : Stand p l e (rm 2 0 0 24) s m #[(.ref ad1), (.ref ad2), (.int so1), (.ref ad3)] below meth c s₁ [] 0 0 := Stand.of_body Bd
  have e0 : s₁.heap = h0 := by rw [← hh, Bd.state]; rfl
  have N0 := Fr.nil n0
  have kp0 := Keep.refl h0 [ad1]
  show Go p e below (Fin1 s below (Q_am7_1 Z u_1 aw0 u_0 kaw0 ad1 ad2 so1 ad3 h0 n0) (rm 2 0 0 24).cells (rm 2 0 0 24).slots) _
  refine Go.step (fun t_ k_ => castTop (ef_am7_1 m ad1 ad2 so1 ad3) k_) ?_
  obtain ⟨Eu_1, Su_1, Eaw0, Saw0, Au_1, Aaw0⟩ := id HW
  show Go p e below _ (s₁.setTop (mkF m 0 #[.val (.ref ad1), .val (.ref ad2), .val (.int so1), .val (.ref ad3)] []))
  refine gs.aloadN X0.here hx (hb hby d7_0) rfl rfl ?_
  refine gs.init 0 X0 hx hZ hown (am8_1 l Z a0 hw [] u_1 aw0 u_0 kaw0 HW (ad1) h0 n0 Ol ) (wd hw 62 rfl) (wd hw 61 rfl) (wd hw 58 rfl) rfl (wd hw 59 rfl) (by decide) (by decide) (by decide) (by rw [hml]; rfl) [] (lenOf pd_0 rfl) rfl (Nat.le_of_eq rfl) (hb hby d7_1) rfl e0 (by decide) (by decide) fun T1 Lc1 v1 X1 hQ1 => ?_
  obtain ⟨rfl, Nq1, e1⟩ := hQ1
  have N1 := Fr.app N0 Nq1
  show Go p e below _ (T1.setTop (mkF m 4 _ []))
  refine gs.aloadN X1.here hx (hb hby d7_4) rfl rfl ?_
  refine gs.aloadN X1.here hx (hb hby d7_5) rfl rfl ?_
  obtain ⟨T2, h2, X2, e2, W2, st2⟩ := putF X1 hx hZ hown (host := "") (Or.inl (wd hw 64 rfl)) Via.refl e1 HF_ad1_Variable_name HE_ad1 (Or.inr ⟨(wd hw 65 rfl), rfl, hnm⟩) (wd hw 28 rfl) (ty := (.object "java/lang/String")) (by decide) rfl rfl (g := (mkF m 6 #[.val (.ref ad1), .val (.ref ad2), .val (.int so1), .val (.ref ad3)] [(.ref ad2), (.ref ad1)])) rfl rfl (hb hby d7_6)
  have N2 := Fr.snoc X2 N1 nn_ad1
  have old2 := Ol.wr W2 nn_ad1
  have kp2 := kp0.wr W2 (Or.inl (List.mem_of_getElem? (i := 0) rfl))
  have F2 := HF_ad1_Variable_name.same W2
  refine Go.fin st2 ?_
  show Go p e below _ (T2.setTop (mkF m 9 _ []))
  refine gs.aloadN X2.here hx (hb hby d7_9) rfl rfl ?_
  refine gs.iloadN X2.here hx (hb hby d7_10) rfl ?_
  have f3 := (HF_ad1_Variable_index.other W2 (Or.inr (sn10 hw)))
  have f4 := (HE_ad1.wr W2)
  obtain ⟨T5, h5, X5, e5, W5, st5⟩ := putF X2 hx hZ hown (host := "") (Or.inl (wd hw 66 rfl)) Via.refl e2 f3 f4 (Or.inr ⟨(wd hw 67 rfl), rfl, hnm⟩) (wd hw 28 rfl) (ty := .int) (by decide) rfl rfl (g := (mkF m 11 #[.val (.ref ad1), .val (.ref ad2), .val (.int so1), .val (.ref ad3)] [(.int so1), (.ref ad1)])) rfl rfl (hb hby d7_11)
  have N5 := Fr.snoc X5 N2 nn_ad1
  have old5 := old2.wr W5 nn_ad1
  have kp5 := kp2.wr W5 (Or.inl (List.mem_of_getElem? (i := 0) rfl))
  have F5 := f3.same W5
  refine Go.fin st5 ?_
  show Go p e below _ (T5.setTop (mkF m 14 _ []))
  refine gs.aloadN X5.here hx (hb hby d7_14) rfl rfl ?_
  refine gs.aloadN X5.here hx (hb hby d7_15) rfl rfl ?_
  have f6 := ((HF_ad1_Variable_domain.other W2 (Or.inr (sn11 hw))).other W5 (Or.inr (sn12 hw)))
  have f7 := (f4.wr W5)
  obtain ⟨T8, h8, X8, e8, W8, st8⟩ := putF X5 hx hZ hown (host := "") (Or.inl (wd hw 68 rfl)) Via.refl e5 f6 f7 (Or.inr ⟨(wd hw 69 rfl), rfl, hnm⟩) (wd hw 28 rfl) (ty := (.object "com/example/monarc/monarc/InitialDomain")) (by decide) rfl rfl (g := (mkF m 16 #[.val (.ref ad1), .val (.ref ad2), .val (.int so1), .val (.ref ad3)] [(.ref ad3), (.ref ad1)])) rfl rfl (hb hby d7_16)
  have N8 := Fr.snoc X8 N5 nn_ad1
  have old8 := old5.wr W8 nn_ad1
  have kp8 := kp5.wr W8 (Or.inl (List.mem_of_getElem? (i := 0) rfl))
  have F8 := f6.same W8
  refine Go.fin st8 ?_
  show Go p e below _ (T8.setTop (mkF m 19 _ []))
  have f9 := (f7.wr W8)
  refine Go.retV X8 hx Bd.returns Bd.notSynchronized (hb hby d7_19) (by rw [e8]; exact ⟨rfl, N8, kp8, f9, F8⟩) (by decide) (by decide)
theorem pd_3 : parseMethodDescriptor "(Ljava/lang/String;ILcom/example/monarc/monarc/InitialDomain;)V" = some ⟨[(.object "java/lang/String"), .int, (.object "com/example/monarc/monarc/InitialDomain")], none⟩ := by decide +kernel
theorem d9_0 : decode c_9 0 = .ok (.aload_n 0, 1) := by decide +kernel
theorem d9_1 : decode c_9 1 = .ok (.dup, 1) := by decide +kernel
theorem d9_2 : decode c_9 2 = .ok (.getfield 63, 3) := by decide +kernel
theorem d9_5 : decode c_9 5 = .ok (.iconst 1, 1) := by decide +kernel
theorem d9_6 : decode c_9 6 = .ok (.iadd, 1) := by decide +kernel
theorem d9_7 : decode c_9 7 = .ok (.putfield 63, 3) := by decide +kernel
theorem d9_10 : decode c_9 10 = .ok (.aload_n 0, 1) := by decide +kernel
theorem d9_11 : decode c_9 11 = .ok (.aload_n 1, 1) := by decide +kernel
theorem d9_12 : decode c_9 12 = .ok (.aload_n 0, 1) := by decide +kernel
theorem d9_13 : decode c_9 13 = .ok (.getfield 9, 3) := by decide +kernel
theorem d9_16 : decode c_9 16 = .ok (.aload_n 0, 1) := by decide +kernel
theorem d9_17 : decode c_9 17 = .ok (.getfield 48, 3) := by decide +kernel
theorem d9_20 : decode c_9 20 = .ok (.invokevirtual 131, 3) := by decide +kernel
theorem d10_0 : decode c_10 0 = .ok (.iload_n 3, 1) := by decide +kernel
theorem d10_1 : decode c_10 1 = .ok (.aload_n 2, 1) := by decide +kernel
theorem d10_2 : decode c_10 2 = .ok (.arraylength, 1) := by decide +kernel
theorem d10_3 : decode c_10 3 = .ok (.if_icmp .ne 8, 3) := by decide +kernel
theorem d10_6 : decode c_10 6 = .ok (.aload_n 0, 1) := by decide +kernel
theorem d10_7 : decode c_10 7 = .ok (.invokevirtual 129, 3) := by decide +kernel
theorem d11_0 : decode c_11 0 = .ok (.aload_n 0, 1) := by decide +kernel
theorem d11_1 : decode c_11 1 = .ok (.aload_n 0, 1) := by decide +kernel
theorem d11_2 : decode c_11 2 = .ok (.getfield 48, 3) := by decide +kernel
theorem d11_5 : decode c_11 5 = .ok (.iconst 1, 1) := by decide +kernel
theorem d11_6 : decode c_11 6 = .ok (.iadd, 1) := by decide +kernel
theorem d11_7 : decode c_11 7 = .ok (.invokevirtual 69, 3) := by decide +kernel
theorem d12_0 : decode c_12 0 = .ok (.aload_n 0, 1) := by decide +kernel
theorem d12_1 : decode c_12 1 = .ok (.getfield 9, 3) := by decide +kernel
theorem d12_4 : decode c_12 4 = .ok (.arraylength, 1) := by decide +kernel
theorem d12_5 : decode c_12 5 = .ok (.istore_n 2, 1) := by decide +kernel
theorem d12_6 : decode c_12 6 = .ok (.iload_n 2, 1) := by decide +kernel
theorem d12_7 : decode c_12 7 = .ok (.ifCond .gt 13, 3) := by decide +kernel
theorem d12_10 : decode c_12 10 = .ok (.aload_n 0, 1) := by decide +kernel
theorem d12_11 : decode c_12 11 = .ok (.getfield 9, 3) := by decide +kernel
theorem d12_14 : decode c_12 14 = .ok (.getstatic 39, 3) := by decide +kernel
theorem d12_17 : decode c_12 17 = .ok (.if_acmp .eq 28, 3) := by decide +kernel
theorem d12_45 : decode c_12 45 = .ok (.aload_n 0, 1) := by decide +kernel
theorem d12_46 : decode c_12 46 = .ok (.bipush 10, 2) := by decide +kernel
theorem d12_48 : decode c_12 48 = .ok (.iload_n 1, 1) := by decide +kernel
theorem d12_49 : decode c_12 49 = .ok (.invokestatic 79, 3) := by decide +kernel
theorem pd_4 : parseMethodDescriptor "(II)I" = some ⟨[.int, .int], some .int⟩ := by decide +kernel
theorem d12_52 : decode c_12 52 = .ok (.anewarray 7, 3) := by decide +kernel
theorem d12_55 : decode c_12 55 = .ok (.dup_x1, 1) := by decide +kernel
theorem d12_56 : decode c_12 56 = .ok (.putfield 9, 3) := by decide +kernel
theorem d12_59 : decode c_12 59 = .ok (.areturn, 1) := by decide +kernel
theorem ef_am12_1 (m : MethodId) (x0 : Addr) (x1 : Int32)  : entryFrame m #[(.ref x0), (.int x1)] 4 = mkF m 0 #[.val (.ref x0), .val (.int x1), .unset, .unset] [] := by first | (simp [entryFrame, mkF, argsToLocals, Value.category]; done) | rfl
def Q_am12_1 (Z : State) (u_1 : Addr) (aw0 : Addr) (u_0 : ClassId) (kaw0 : ClassId) (ad1 : Addr) (h0 : Heap) (n0 : Nat) (v : Option Value) (h : Heap) (L : List Loc) : Prop := ∃ fr1 : Addr, ∃ kx1 : ClassId, v = some (.ref fr1) ∧ h0.size ≤ fr1 ∧ Fr n0 L ∧ Keep h0 h [ad1] ∧ (Exa Z h ad1 "java/util/ArrayList") ∧ (Fld Z h ad1 "java/util/AbstractList" "modCount" "I" (.int (1 : Int32))) ∧ (Fld Z h ad1 "java/util/ArrayList" "elementData" "[Ljava/lang/Object;" (.ref fr1)) ∧ (Fld Z h ad1 "java/util/ArrayList" "size" "I" (.int (0 : Int32))) ∧ (Arv Z h fr1 kx1 (.object "java/lang/Object") (10 : Int32) [.null, .null, .null, .null, .null, .null, .null, .null, .null, .null] .null) ∧ (Ovr Z kx1 "java/lang/Object")
set_option maxRecDepth 65536 in
set_option maxHeartbeats 40000000 in
theorem am12_1 (l : Launch) (Z : State) (a0 : Array Value) (hw : ∀ d ∈ tables_1, d.before a0 Z = true) (ws : List Jvm.Cond) (u_1 : Addr) (aw0 : Addr) (u_0 : ClassId) (kaw0 : ClassId) (HW : Wd Z u_1 aw0 u_0 kaw0) (ad1 : Addr) (h0 : Heap) (n0 : Nat) (Ol : Old Z n0 h0) (HE_ad1 : Exa Z h0 ad1 "java/util/ArrayList") (HF_ad1_AbstractList_modCount : Fld Z h0 ad1 "java/util/AbstractList" "modCount" "I" (.int (1 : Int32))) (HF_ad1_ArrayList_elementData : Fld Z h0 ad1 "java/util/ArrayList" "elementData" "[Ljava/lang/Object;" (.ref aw0)) (HF_ad1_ArrayList_size : Fld Z h0 ad1 "java/util/ArrayList" "size" "I" (.int (0 : Int32))) (nn_ad1 : n0 ≤ ad1) :
    MetFree l y_12 (head1 (Jvm.Cond.code y_12 jdk_38_method_6_code 4 (some (.array (.object "java/lang/Object"))) :: ws) (rm 1 1 10 14)) (fun a_ U_ => a_ = #[(.ref ad1), (.int (1 : Int32))] ∧ Z.Warmed39 U_.vm ∧ U_.heap = h0) (fun _ _ _ _ _ => True) (fun _ U_ o_ V_ => ∃ v_ L_, o_ = .returned v_ ∧ Q_am12_1 Z u_1 aw0 u_0 kaw0 ad1 h0 n0 v_ V_.heap L_ ∧ FrameEnd U_ o_ V_ L_ (rm 1 1 10 14).cells (rm 1 1 10 14).slots) := by
  refine MetFree.of_bodySF (plainFor_of_name pn_4) hisR ?_
  intro p e s m args below meth c s₁ Bd hml0 hP hK
  obtain ⟨rfl, hZ, hh⟩ := hP
  have hx := Bd.exec
  have hby := Bd.bytes
  have hml : c.maxLocals = 4 := hml0
  have hown : s.vm.findClass "java/util/ArrayList" = some m.cls := findClass_of_methodNamed Bd.named
  have hnm := (name_of_methodNamed Bd.named Bd.method).1
  have X0 : Stand p l e (rm 1 1 10 14) s m #[(.ref ad1), (.int (1 : Int32))] below meth c s₁ [] 0 0 := Stand.of_body Bd
  have e0 : s₁.heap = h0 := by rw [← hh, Bd.state]; rfl
  have N0 := Fr.nil n0
  have kp0 := Keep.refl h0 [ad1]
  show Go p e below (Fin1 s below (Q_am12_1 Z u_1 aw0 u_0 kaw0 ad1 h0 n0) (rm 1 1 10 14).cells (rm 1 1 10 14).slots) _
  refine Go.step (fun t_ k_ => castTop (ef_am12_1 m ad1 (1 : Int32)) k_) ?_
  obtain ⟨Eu_1, Su_1, Eaw0, Saw0, Au_1, Aaw0⟩ := id HW
  show Go p e below _ (s₁.setTop (mkF m 0 #[.val (.ref ad1), .val (.int (1 : Int32)), .unset, .unset] []))
  refine gs.aloadN X0.here hx (hb hby d12_0) rfl rfl ?_
  refine gs.getF X0 hx hZ hown (wd hw 25 rfl) Via.refl e0 HF_ad1_ArrayList_elementData (hb hby d12_1) fun T1 X1 e1 => ?_
  obtain ⟨cl2, Ar2, -, Sz2, Ng2, -, -⟩ := id (Aaw0.ext Ol.2)
  refine Go.fin (fun t_ k_ => X1.arraylength hx (by rw [e1]; exact Ar2.1) (State.isArrayOf_alike hZ.alike Ar2.2.1) (g := mkF m 4 _ _) rfl rfl (hb hby d12_4) _ k_) ?_
  rw [len_of Sz2 Ng2]
  show Go p e below _ (T1.setTop (mkF m 5 _ [(.int (0 : Int32))]))
  refine gs.istoreN X1.here hx (hb hby d12_5) (l' := #[.val (.ref ad1), .val (.int (1 : Int32)), .val (.int (0 : Int32)), .unset]) rfl ?_
  refine gs.iloadN X1.here hx (hb hby d12_6) rfl ?_
  have hc7 : ¬ ((0 : Int32) < (0 : Int32)) := by decide
  refine gs.ifNo X1.here hx (hb hby d12_7) ((if0 _ _).trans (flt hc7).2.2.1) ?_
  refine gs.aloadN X1.here hx (hb hby d12_10) rfl rfl ?_
  refine gs.getF X1 hx hZ hown (wd hw 25 rfl) Via.refl e1 HF_ad1_ArrayList_elementData (hb hby d12_11) fun T3 X3 e3 => ?_
  obtain ⟨T4, X4, e4, st4⟩ := getS2 X3 hx hZ hown (host := "") (Or.inl (wd hw 24 rfl)) Via.refl e3 (Saw0.ext Ol.2) (g := (mkF m 14 #[.val (.ref ad1), .val (.int (1 : Int32)), .val (.int (0 : Int32)), .unset] [(.ref aw0)])) rfl (hb hby d12_14)
  refine Go.fin st4 ?_
  show Go p e below _ (T4.setTop (mkF m 17 _ [(.ref aw0), (.ref aw0)]))
  refine Go.step (fun t_ k_ => Jvm.RoadKit.acmp (g := (mkF m 17 #[.val (.ref ad1), .val (.int (1 : Int32)), .val (.int (0 : Int32)), .unset] [(.ref aw0), (.ref aw0)])) X4 hx rfl rfl rfl (pc0 := 17) (pc' := 45) (same := true) rfl (hb hby d12_17) rfl (decide_eq_true rfl) (by decide) (by decide) k_) ?_
  show Go p e below _ (T4.setTop (mkF m 45 #[.val (.ref ad1), .val (.int (1 : Int32)), .val (.int (0 : Int32)), .unset] []))
  refine gs.aloadN X4.here hx (hb hby d12_45) rfl rfl ?_
  refine gs.bipush 10 X4.here hx (hb hby d12_46) rfl ?_
  refine gs.iloadN X4.here hx (hb hby d12_48) rfl ?_
  refine gs.stat 1 X4 hx hZ hown (rm13 l Z a0 hw [] u_1 aw0 u_0 kaw0 HW (10 : Int32) (1 : Int32) (10 : Int32) h0 n0 Ol (by decide)) (wd hw 97 rfl) (wd hw 96 rfl) (wd hw 94 rfl) (wd hw 95 rfl) (by decide) (by decide) (by decide) (by rw [hml]; rfl) [(.int (10 : Int32)), (.int (1 : Int32))] (lenOf pd_4 rfl) rfl (Nat.le_of_eq rfl) (hb hby d12_49) rfl e4 (by decide) (by decide) fun T5 Lc5 v5 X5 hQ5 => ?_
  obtain ⟨rfl, Nq5, e5⟩ := hQ5
  have N5 := Fr.app N0 Nq5
  show Go p e below _ (T5.setTop (mkF m 52 _ [(.int (10 : Int32)), (.ref ad1)]))
  obtain ⟨T6, h6, k6, X6, e6, E6, A6, O6, st6⟩ := newR X5 hx hZ hown (wd hw 98 rfl) (wd hw 99 rfl) e5 (g := (mkF m 52 #[.val (.ref ad1), .val (.int (1 : Int32)), .val (.int (0 : Int32)), .unset] [(.int (10 : Int32)), (.ref ad1)])) rfl (hb hby d12_52) rfl (by decide) (cap := 10) (by decide) (by decide) (by decide) (by decide)
  obtain ⟨b6, g6⟩ : ∃ z, z = h0.size := ⟨_, rfl⟩
  rw [← g6] at A6 st6
  have nn_b6 : n0 ≤ b6 := Nat.le_trans (old_z0 Ol) (Nat.le_of_eq g6.symm)
  have sz_b6 : h0.size ≤ b6 := Nat.le_trans kp0.1 (Nat.le_of_eq g6.symm)
  have old6 := Ol.ext E6
  have kp6 := kp0.ext E6
  have V6 : Arv Z h6 b6 k6 (.object "java/lang/Object") (10 : Int32) [.null, .null, .null, .null, .null, .null, .null, .null, .null, .null] .null := (Arv.new A6 (by decide)).pad (pad_rep [] .null 10)
  refine Go.fin st6 ?_
  show Go p e below _ (T6.setTop (mkF m 55 _ [(.ref b6), (.ref ad1)]))
  refine Go.fin (fun t_ k_ => XS.dupX1 X6.here hx rfl (hb hby d12_55) rfl rfl rfl k_) ?_
  show Go p e below _ (T6.setTop (mkF m 56 _ [(.ref b6), (.ref ad1), (.ref b6)]))
  have f7 := (HF_ad1_ArrayList_elementData.ext E6)
  have f8 := (HE_ad1.ext E6)
  obtain ⟨T9, h9, X9, e9, W9, st9⟩ := putF X6 hx hZ hown (host := "") (Or.inl (wd hw 25 rfl)) Via.refl e6 f7 f8 (Or.inl (wd hw 26 rfl)) (wd hw 2 rfl) (ty := (.array (.object "java/lang/Object"))) (by decide) rfl rfl (g := (mkF m 56 #[.val (.ref ad1), .val (.int (1 : Int32)), .val (.int (0 : Int32)), .unset] [(.ref b6), (.ref ad1), (.ref b6)])) rfl rfl (hb hby d12_56)
  have N9 := Fr.snoc X9 N5 nn_ad1
  have old9 := old6.wr W9 nn_ad1
  have kp9 := kp6.wr W9 (Or.inl (List.mem_of_getElem? (i := 0) rfl))
  have F9 := f7.same W9
  refine Go.fin st9 ?_
  show Go p e below _ (T9.setTop (mkF m 59 _ [(.ref b6)]))
  have f10 := (f8.wr W9)
  have f11 := ((HF_ad1_AbstractList_modCount.ext E6).other W9 (Or.inr (sn2 hw)))
  have f12 := ((HF_ad1_ArrayList_size.ext E6).other W9 (Or.inr (sn3 hw)))
  have ne_ad1_b6 : ad1 ≠ b6 := Nat.ne_of_lt (Nat.lt_of_lt_of_le HE_ad1.lt (Nat.le_of_eq g6.symm))
  have f13 := (V6.other W9 (Ne.symm ne_ad1_b6))
  refine Go.retR X9 hx Bd.returns rfl rfl Bd.notSynchronized (hb hby d12_59) (by rw [e9]; exact ⟨b6, k6, rfl, sz_b6, N9, kp9, f10, f11, F9, f12, f13, O6⟩) (by decide) (by decide)
theorem pd_5 : parseMethodDescriptor "(I)[Ljava/lang/Object;" = some ⟨[.int], some (.array (.object "java/lang/Object"))⟩ := by decide +kernel
theorem d11_10 : decode c_11 10 = .ok (.areturn, 1) := by decide +kernel
theorem ef_am11_1 (m : MethodId) (x0 : Addr)  : entryFrame m #[(.ref x0)] 1 = mkF m 0 #[.val (.ref x0)] [] := by first | (simp [entryFrame, mkF, argsToLocals, Value.category]; done) | rfl
def Q_am11_1 (Z : State) (u_1 : Addr) (aw0 : Addr) (u_0 : ClassId) (kaw0 : ClassId) (ad1 : Addr) (h0 : Heap) (n0 : Nat) (v : Option Value) (h : Heap) (L : List Loc) : Prop := ∃ fr1 : Addr, ∃ kx1 : ClassId, v = some (.ref fr1) ∧ h0.size ≤ fr1 ∧ Fr n0 L ∧ Keep h0 h [ad1] ∧ (Exa Z h ad1 "java/util/ArrayList") ∧ (Fld Z h ad1 "java/util/AbstractList" "modCount" "I" (.int (1 : Int32))) ∧ (Fld Z h ad1 "java/util/ArrayList" "elementData" "[Ljava/lang/Object;" (.ref fr1)) ∧ (Fld Z h ad1 "java/util/ArrayList" "size" "I" (.int (0 : Int32))) ∧ (Arv Z h fr1 kx1 (.object "java/lang/Object") (10 : Int32) [.null, .null, .null, .null, .null, .null, .null, .null, .null, .null] .null) ∧ (Ovr Z kx1 "java/lang/Object")
set_option maxRecDepth 65536 in
set_option maxHeartbeats 40000000 in
theorem am11_1 (l : Launch) (Z : State) (a0 : Array Value) (hw : ∀ d ∈ tables_1, d.before a0 Z = true) (ws : List Jvm.Cond) (u_1 : Addr) (aw0 : Addr) (u_0 : ClassId) (kaw0 : ClassId) (HW : Wd Z u_1 aw0 u_0 kaw0) (ad1 : Addr) (h0 : Heap) (n0 : Nat) (Ol : Old Z n0 h0) (HE_ad1 : Exa Z h0 ad1 "java/util/ArrayList") (HF_ad1_AbstractList_modCount : Fld Z h0 ad1 "java/util/AbstractList" "modCount" "I" (.int (1 : Int32))) (HF_ad1_ArrayList_elementData : Fld Z h0 ad1 "java/util/ArrayList" "elementData" "[Ljava/lang/Object;" (.ref aw0)) (HF_ad1_ArrayList_size : Fld Z h0 ad1 "java/util/ArrayList" "size" "I" (.int (0 : Int32))) (nn_ad1 : n0 ≤ ad1) :
    MetFree l y_11 (head1 (Jvm.Cond.code y_11 jdk_38_method_7_code 1 (some (.array (.object "java/lang/Object"))) :: ws) (rm 2 1 10 29)) (fun a_ U_ => a_ = #[(.ref ad1)] ∧ Z.Warmed39 U_.vm ∧ U_.heap = h0) (fun _ _ _ _ _ => True) (fun _ U_ o_ V_ => ∃ v_ L_, o_ = .returned v_ ∧ Q_am11_1 Z u_1 aw0 u_0 kaw0 ad1 h0 n0 v_ V_.heap L_ ∧ FrameEnd U_ o_ V_ L_ (rm 2 1 10 29).cells (rm 2 1 10 29).slots) := by
  refine MetFree.of_bodySF (plainFor_of_name pn_4) hisR ?_
  intro p e s m args below meth c s₁ Bd hml0 hP hK
  obtain ⟨rfl, hZ, hh⟩ := hP
  have hx := Bd.exec
  have hby := Bd.bytes
  have hml : c.maxLocals = 1 := hml0
  have hown : s.vm.findClass "java/util/ArrayList" = some m.cls := findClass_of_methodNamed Bd.named
  have hnm := (name_of_methodNamed Bd.named Bd.method).1
  have X0 : Stand p l e (rm 2 1 10 29) s m #[(.ref ad1)] below meth c s₁ [] 0 0 := Stand.of_body Bd
  have e0 : s₁.heap = h0 := by rw [← hh, Bd.state]; rfl
  have N0 := Fr.nil n0
  have kp0 := Keep.refl h0 [ad1]
  show Go p e below (Fin1 s below (Q_am11_1 Z u_1 aw0 u_0 kaw0 ad1 h0 n0) (rm 2 1 10 29).cells (rm 2 1 10 29).slots) _
  refine Go.step (fun t_ k_ => castTop (ef_am11_1 m ad1) k_) ?_
  obtain ⟨Eu_1, Su_1, Eaw0, Saw0, Au_1, Aaw0⟩ := id HW
  show Go p e below _ (s₁.setTop (mkF m 0 #[.val (.ref ad1)] []))
  refine gs.aloadN X0.here hx (hb hby d11_0) rfl rfl ?_
  refine gs.aloadN X0.here hx (hb hby d11_1) rfl rfl ?_
  refine gs.getF X0 hx hZ hown (wd hw 77 rfl) Via.refl e0 HF_ad1_ArrayList_size (hb hby d11_2) fun T1 X1 e1 => ?_
  refine gs.iconst 1 X1.here hx (hb hby d11_5) rfl ?_
  refine gs.iadd X1.here hx (hb hby d11_6) ?_
  rw [show ((0 : Int32) + (1 : Int32)) = (1 : Int32) from by decide]
  refine gs.priv 0 X1 hx hZ hown (am12_1 l Z a0 hw [] u_1 aw0 u_0 kaw0 HW (ad1) h0 n0 Ol HE_ad1 HF_ad1_AbstractList_modCount HF_ad1_ArrayList_elementData HF_ad1_ArrayList_size nn_ad1) (wd hw 93 rfl) (wd hw 3 rfl) (wd hw 89 rfl) (wd hw 90 rfl) (mvT hZ (wd hw 92 rfl)) (wd hw 91 rfl) (by decide) HE_ad1 (by decide) (by decide) (by rw [hml]; rfl) [(.int (1 : Int32))] (lenOf pd_5 rfl) rfl (Nat.le_of_eq rfl) (hb hby d11_7) rfl e1 (by decide) (by decide) fun T2 Lc2 v2 X2 hQ2 => ?_
  obtain ⟨b2_0, kx2_0, rfl, gb_b2_0, Nq2, K2, p2_0, p2_1, p2_2, p2_3, p2_4, ov2_0⟩ := hQ2
  have nn_b2_0 : n0 ≤ b2_0 := Nat.le_trans (old_z0 Ol) gb_b2_0
  have sz_b2_0 : h0.size ≤ b2_0 := Nat.le_trans kp0.1 gb_b2_0
  have old2 := Ol.keep K2 (allS nn_ad1 all0)
  have kp2 := kp0.trans K2 (allS (Or.inl (List.mem_of_getElem? (i := 0) rfl)) all0)
  have N2 := Fr.app N0 Nq2
  show Go p e below _ (T2.setTop (mkF m 10 _ [(.ref b2_0)]))
  refine Go.retR X2 hx Bd.returns rfl rfl Bd.notSynchronized (hb hby d11_10) (by exact ⟨b2_0, kx2_0, rfl, sz_b2_0, N2, kp2, p2_0, p2_1, p2_2, p2_3, p2_4, ov2_0⟩) (by decide) (by decide)
theorem pd_6 : parseMethodDescriptor "()[Ljava/lang/Object;" = some ⟨[], some (.array (.object "java/lang/Object"))⟩ := by decide +kernel
theorem d10_10 : decode c_10 10 = .ok (.astore_n 2, 1) := by decide +kernel
theorem d10_11 : decode c_10 11 = .ok (.aload_n 2, 1) := by decide +kernel
theorem d10_12 : decode c_10 12 = .ok (.iload_n 3, 1) := by decide +kernel
theorem d10_13 : decode c_10 13 = .ok (.aload_n 1, 1) := by decide +kernel
theorem d10_14 : decode c_10 14 = .ok (.aastore, 1) := by decide +kernel
theorem d10_15 : decode c_10 15 = .ok (.aload_n 0, 1) := by decide +kernel
theorem d10_16 : decode c_10 16 = .ok (.iload_n 3, 1) := by decide +kernel
theorem d10_17 : decode c_10 17 = .ok (.iconst 1, 1) := by decide +kernel
theorem d10_18 : decode c_10 18 = .ok (.iadd, 1) := by decide +kernel
theorem d10_19 : decode c_10 19 = .ok (.putfield 48, 3) := by decide +kernel
theorem d10_22 : decode c_10 22 = .ok (.return_, 1) := by decide +kernel
theorem sn13 {a0 : Array Value} {Z : State} (hw : ∀ d ∈ tables_1, d.before a0 Z = true) : SN Z "java/util/AbstractList" "modCount" "I" "java/util/ArrayList" "size" "I" := slot_ne (Or.inl (wd hw 23 rfl)) (Or.inl (wd hw 78 rfl)) (by decide) (t := .int) (t' := .int) (by decide) (by decide)
theorem sn14 {a0 : Array Value} {Z : State} (hw : ∀ d ∈ tables_1, d.before a0 Z = true) : SN Z "java/util/ArrayList" "elementData" "[Ljava/lang/Object;" "java/util/ArrayList" "size" "I" := slot_ne (Or.inl (wd hw 26 rfl)) (Or.inl (wd hw 78 rfl)) (by decide) (t := (.array (.object "java/lang/Object"))) (t' := .int) (by decide) (by decide)
theorem ef_am10_1 (m : MethodId) (x0 : Addr) (x1 : Addr) (x2 : Addr) (x3 : Int32)  : entryFrame m #[(.ref x0), (.ref x1), (.ref x2), (.int x3)] 4 = mkF m 0 #[.val (.ref x0), .val (.ref x1), .val (.ref x2), .val (.int x3)] [] := by first | (simp [entryFrame, mkF, argsToLocals, Value.category]; done) | rfl
def Q_am10_1 (Z : State) (u_1 : Addr) (aw0 : Addr) (u_0 : ClassId) (kaw0 : ClassId) (ad1 : Addr) (ad2 : Addr) (h0 : Heap) (n0 : Nat) (v : Option Value) (h : Heap) (L : List Loc) : Prop := ∃ fr1 : Addr, ∃ kx1 : ClassId, v = none ∧ h0.size ≤ fr1 ∧ Fr n0 L ∧ Keep h0 h [ad1] ∧ (Exa Z h ad1 "java/util/ArrayList") ∧ (Fld Z h ad1 "java/util/AbstractList" "modCount" "I" (.int (1 : Int32))) ∧ (Fld Z h ad1 "java/util/ArrayList" "elementData" "[Ljava/lang/Object;" (.ref fr1)) ∧ (Fld Z h ad1 "java/util/ArrayList" "size" "I" (.int (1 : Int32))) ∧ (Arv Z h fr1 kx1 (.object "java/lang/Object") (10 : Int32) [(.ref ad2), .null, .null, .null, .null, .null, .null, .null, .null, .null] .null) ∧ (Ovr Z kx1 "java/lang/Object")
set_option maxRecDepth 65536 in
set_option maxHeartbeats 40000000 in
theorem am10_1 (l : Launch) (Z : State) (a0 : Array Value) (hw : ∀ d ∈ tables_1, d.before a0 Z = true) (ws : List Jvm.Cond) (u_1 : Addr) (aw0 : Addr) (u_0 : ClassId) (kaw0 : ClassId) (HW : Wd Z u_1 aw0 u_0 kaw0) (ad1 : Addr) (ad2 : Addr) (h0 : Heap) (n0 : Nat) (Ol : Old Z n0 h0) (HE_ad1 : Exa Z h0 ad1 "java/util/ArrayList") (HF_ad1_AbstractList_modCount : Fld Z h0 ad1 "java/util/AbstractList" "modCount" "I" (.int (1 : Int32))) (HF_ad1_ArrayList_elementData : Fld Z h0 ad1 "java/util/ArrayList" "elementData" "[Ljava/lang/Object;" (.ref aw0)) (HF_ad1_ArrayList_size : Fld Z h0 ad1 "java/util/ArrayList" "size" "I" (.int (0 : Int32))) (HE_ad2 : Exa Z h0 ad2 "com/example/monarc/monarc/Variable") (nn_ad1 : n0 ≤ ad1) :
    MetFree l y_10 (head1 (Jvm.Cond.code y_10 jdk_38_method_24_code 4 none :: ws) (rm 3 1 10 41)) (fun a_ U_ => a_ = #[(.ref ad1), (.ref ad2), (.ref aw0), (.int (0 : Int32))] ∧ Z.Warmed39 U_.vm ∧ U_.heap = h0) (fun _ _ _ _ _ => True) (fun _ U_ o_ V_ => ∃ v_ L_, o_ = .returned v_ ∧ Q_am10_1 Z u_1 aw0 u_0 kaw0 ad1 ad2 h0 n0 v_ V_.heap L_ ∧ FrameEnd U_ o_ V_ L_ (rm 3 1 10 41).cells (rm 3 1 10 41).slots) := by
  refine MetFree.of_bodySF (plainFor_of_name pn_4) hisR ?_
  intro p e s m args below meth c s₁ Bd hml0 hP hK
  obtain ⟨rfl, hZ, hh⟩ := hP
  have hx := Bd.exec
  have hby := Bd.bytes
  have hml : c.maxLocals = 4 := hml0
  have hown : s.vm.findClass "java/util/ArrayList" = some m.cls := findClass_of_methodNamed Bd.named
  have hnm := (name_of_methodNamed Bd.named Bd.method).1
  have X0 : Stand p l e (rm 3 1 10 41) s m #[(.ref ad1), (.ref ad2), (.ref aw0), (.int (0 : Int32))] below meth c s₁ [] 0 0 := Stand.of_body Bd
  have e0 : s₁.heap = h0 := by rw [← hh, Bd.state]; rfl
  have N0 := Fr.nil n0
  have kp0 := Keep.refl h0 [ad1]
  show Go p e below (Fin1 s below (Q_am10_1 Z u_1 aw0 u_0 kaw0 ad1 ad2 h0 n0) (rm 3 1 10 41).cells (rm 3 1 10 41).slots) _
  refine Go.step (fun t_ k_ => castTop (ef_am10_1 m ad1 ad2 aw0 (0 : Int32)) k_) ?_
  obtain ⟨Eu_1, Su_1, Eaw0, Saw0, Au_1, Aaw0⟩ := id HW
  show Go p e below _ (s₁.setTop (mkF m 0 #[.val (.ref ad1), .val (.ref ad2), .val (.ref aw0), .val (.int (0 : Int32))] []))
  refine gs.iloadN X0.here hx (hb hby d10_0) rfl ?_
  refine gs.aloadN X0.here hx (hb hby d10_1) rfl rfl ?_
  obtain ⟨cl1, Ar1, -, Sz1, Ng1, -, -⟩ := id (Aaw0.ext Ol.2)
  refine Go.fin (fun t_ k_ => X0.arraylength hx (by rw [e0]; exact Ar1.1) (State.isArrayOf_alike hZ.alike Ar1.2.1) (g := mkF m 2 _ _) rfl rfl (hb hby d10_2) _ k_) ?_
  rw [len_of Sz1 Ng1]
  show Go p e below _ (s₁.setTop (mkF m 3 _ [(.int (0 : Int32)), (.int (0 : Int32))]))
  have hc3 : (0 : Int32) = (0 : Int32) := by decide
  refine gs.icmpNo X0.here hx (hb hby d10_3) (teq hc3).2 ?_
  refine gs.aloadN X0.here hx (hb hby d10_6) rfl rfl ?_
  refine gs.priv 0 X0 hx hZ hown (am11_1 l Z a0 hw [] u_1 aw0 u_0 kaw0 HW (ad1) h0 n0 Ol HE_ad1 HF_ad1_AbstractList_modCount HF_ad1_ArrayList_elementData HF_ad1_ArrayList_size nn_ad1) (wd hw 88 rfl) (wd hw 3 rfl) (wd hw 84 rfl) (wd hw 85 rfl) (mvT hZ (wd hw 87 rfl)) (wd hw 86 rfl) (by decide) HE_ad1 (by decide) (by decide) (by rw [hml]; rfl) [] (lenOf pd_6 rfl) rfl (Nat.le_of_eq rfl) (hb hby d10_7) rfl e0 (by decide) (by decide) fun T2 Lc2 v2 X2 hQ2 => ?_
  obtain ⟨b2_0, kx2_0, rfl, gb_b2_0, Nq2, K2, p2_0, p2_1, p2_2, p2_3, p2_4, ov2_0⟩ := hQ2
  have nn_b2_0 : n0 ≤ b2_0 := Nat.le_trans (old_z0 Ol) gb_b2_0
  have sz_b2_0 : h0.size ≤ b2_0 := Nat.le_trans kp0.1 gb_b2_0
  have old2 := Ol.keep K2 (allS nn_ad1 all0)
  have kp2 := kp0.trans K2 (allS (Or.inl (List.mem_of_getElem? (i := 0) rfl)) all0)
  have N2 := Fr.app N0 Nq2
  show Go p e below _ (T2.setTop (mkF m 10 _ [(.ref b2_0)]))
  refine gs.astoreN X2.here hx (hb hby d10_10) rfl (l' := #[.val (.ref ad1), .val (.ref ad2), .val (.ref b2_0), .val (.int (0 : Int32))]) rfl ?_
  refine gs.aloadN X2.here hx (hb hby d10_11) rfl rfl ?_
  refine gs.iloadN X2.here hx (hb hby d10_12) rfl ?_
  refine gs.aloadN X2.here hx (hb hby d10_13) rfl rfl ?_
  obtain ⟨cl3, Ar3, q3, Sz3, Ng3, Hs3, G3⟩ := id p2_4
  have hin3 : ¬ ((0 : Int32) < 0 ∨ cl3.slots.size ≤ ((0 : Int32)).toNatClampNeg) := inb_of Sz3 ⟨by decide, by decide⟩
  have f4 := (HE_ad2.keep K2)
  obtain ⟨T5, h5, X5, e5, W5, st5⟩ := stR X2 hx hZ rfl Ar3 (j := (0 : Int32)) hin3 rfl (Sto.ofV Ar3 q3 ov2_0 (Ins.of_exa f4 (wd hw 100 rfl))) (g := (mkF m 14 #[.val (.ref ad1), .val (.ref ad2), .val (.ref b2_0), .val (.int (0 : Int32))] [(.ref ad2), (.int (0 : Int32)), (.ref b2_0)])) rfl rfl (hb hby d10_14)
  have N5 := Fr.snoc X5 N2 nn_b2_0
  have old5 := old2.wr W5 nn_b2_0
  have kp5 := kp2.wr W5 (Or.inr sz_b2_0)
  have V5 : Arv Z h5 b2_0 kx2_0 (.object "java/lang/Object") (10 : Int32) [(.ref ad2), .null, .null, .null, .null, .null, .null, .null, .null, .null] .null := Arv.set Ar3 q3 Sz3 Ng3 Hs3 G3 rfl W5 0 rfl (Nat.le_of_ble_eq_true rfl)
  refine Go.fin st5 ?_
  show Go p e below _ (T5.setTop (mkF m 15 _ []))
  refine gs.aloadN X5.here hx (hb hby d10_15) rfl rfl ?_
  refine gs.iloadN X5.here hx (hb hby d10_16) rfl ?_
  refine gs.iconst 1 X5.here hx (hb hby d10_17) rfl ?_
  refine gs.iadd X5.here hx (hb hby d10_18) ?_
  rw [show ((0 : Int32) + (1 : Int32)) = (1 : Int32) from by decide]
  have ne_ad1_b2_0 : ad1 ≠ b2_0 := Nat.ne_of_lt (Nat.lt_of_lt_of_le HE_ad1.lt gb_b2_0)
  have f6 := (p2_3.other W5 (Or.inl ne_ad1_b2_0))
  have f7 := (p2_0.wr W5)
  obtain ⟨T8, h8, X8, e8, W8, st8⟩ := putF X5 hx hZ hown (host := "") (Or.inl (wd hw 77 rfl)) Via.refl e5 f6 f7 (Or.inl (wd hw 78 rfl)) (wd hw 2 rfl) (ty := .int) (by decide) rfl rfl (g := (mkF m 19 #[.val (.ref ad1), .val (.ref ad2), .val (.ref b2_0), .val (.int (0 : Int32))] [(.int (1 : Int32)), (.ref ad1)])) rfl rfl (hb hby d10_19)
  have N8 := Fr.snoc X8 N5 nn_ad1
  have old8 := old5.wr W8 nn_ad1
  have kp8 := kp5.wr W8 (Or.inl (List.mem_of_getElem? (i := 0) rfl))
  have F8 := f6.same W8
  refine Go.fin st8 ?_
  show Go p e below _ (T8.setTop (mkF m 22 _ []))
  have f9 := (f7.wr W8)
  have f10 := ((p2_1.other W5 (Or.inl ne_ad1_b2_0)).other W8 (Or.inr (sn13 hw)))
  have f11 := ((p2_2.other W5 (Or.inl ne_ad1_b2_0)).other W8 (Or.inr (sn14 hw)))
  have f12 := (V5.other W8 (Ne.symm ne_ad1_b2_0))
  refine Go.retV X8 hx Bd.returns Bd.notSynchronized (hb hby d10_22) (by rw [e8]; exact ⟨b2_0, kx2_0, rfl, sz_b2_0, N8, kp8, f9, f10, f11, F8, f12, ov2_0⟩) (by decide) (by decide)
theorem pd_7 : parseMethodDescriptor "(Ljava/lang/Object;[Ljava/lang/Object;I)V" = some ⟨[(.object "java/lang/Object"), (.array (.object "java/lang/Object")), .int], none⟩ := by decide +kernel
theorem d9_23 : decode c_9 23 = .ok (.iconst 1, 1) := by decide +kernel
theorem d9_24 : decode c_9 24 = .ok (.ireturn, 1) := by decide +kernel
theorem ef_am9_1 (m : MethodId) (x0 : Addr) (x1 : Addr)  : entryFrame m #[(.ref x0), (.ref x1)] 2 = mkF m 0 #[.val (.ref x0), .val (.ref x1)] [] := by first | (simp [entryFrame, mkF, argsToLocals, Value.category]; done) | rfl
def Q_am9_1 (Z : State) (u_1 : Addr) (aw0 : Addr) (u_0 : ClassId) (kaw0 : ClassId) (ad1 : Addr) (ad2 : Addr) (h0 : Heap) (n0 : Nat) (v : Option Value) (h : Heap) (L : List Loc) : Prop := ∃ fr1 : Addr, ∃ kx1 : ClassId, v = some (.int (1 : Int32)) ∧ h0.size ≤ fr1 ∧ Fr n0 L ∧ Keep h0 h [ad1] ∧ (Exa Z h ad1 "java/util/ArrayList") ∧ (Fld Z h ad1 "java/util/AbstractList" "modCount" "I" (.int (1 : Int32))) ∧ (Fld Z h ad1 "java/util/ArrayList" "elementData" "[Ljava/lang/Object;" (.ref fr1)) ∧ (Fld Z h ad1 "java/util/ArrayList" "size" "I" (.int (1 : Int32))) ∧ (Arv Z h fr1 kx1 (.object "java/lang/Object") (10 : Int32) [(.ref ad2), .null, .null, .null, .null, .null, .null, .null, .null, .null] .null) ∧ (Ovr Z kx1 "java/lang/Object")
set_option maxRecDepth 65536 in
set_option maxHeartbeats 40000000 in
theorem am9_1 (l : Launch) (Z : State) (a0 : Array Value) (hw : ∀ d ∈ tables_1, d.before a0 Z = true) (ws : List Jvm.Cond) (u_1 : Addr) (aw0 : Addr) (u_0 : ClassId) (kaw0 : ClassId) (HW : Wd Z u_1 aw0 u_0 kaw0) (ad1 : Addr) (ad2 : Addr) (h0 : Heap) (n0 : Nat) (Ol : Old Z n0 h0) (HE_ad1 : Exa Z h0 ad1 "java/util/ArrayList") (HF_ad1_AbstractList_modCount : Fld Z h0 ad1 "java/util/AbstractList" "modCount" "I" (.int (0 : Int32))) (HF_ad1_ArrayList_elementData : Fld Z h0 ad1 "java/util/ArrayList" "elementData" "[Ljava/lang/Object;" (.ref aw0)) (HF_ad1_ArrayList_size : Fld Z h0 ad1 "java/util/ArrayList" "size" "I" (.int (0 : Int32))) (HE_ad2 : Exa Z h0 ad2 "com/example/monarc/monarc/Variable") (nn_ad1 : n0 ≤ ad1) :
    MetFree l y_9 (head1 (Jvm.Cond.code y_9 jdk_38_method_25_code 2 (some .boolean) :: ws) (rm 4 1 10 56)) (fun a_ U_ => a_ = #[(.ref ad1), (.ref ad2)] ∧ Z.Warmed39 U_.vm ∧ U_.heap = h0) (fun _ _ _ _ _ => True) (fun _ U_ o_ V_ => ∃ v_ L_, o_ = .returned v_ ∧ Q_am9_1 Z u_1 aw0 u_0 kaw0 ad1 ad2 h0 n0 v_ V_.heap L_ ∧ FrameEnd U_ o_ V_ L_ (rm 4 1 10 56).cells (rm 4 1 10 56).slots) := by
  refine MetFree.of_bodySF (plainFor_of_name pn_4) hisR ?_
  intro p e s m args below meth c s₁ Bd hml0 hP hK
  obtain ⟨rfl, hZ, hh⟩ := hP
  have hx := Bd.exec
  have hby := Bd.bytes
  have hml : c.maxLocals = 2 := hml0
  have hown : s.vm.findClass "java/util/ArrayList" = some m.cls := findClass_of_methodNamed Bd.named
  have hnm := (name_of_methodNamed Bd.named Bd.method).1
  have X0 : Stand p l e (rm 4 1 10 56) s m #[(.ref ad1), (.ref ad2)] below meth c s₁ [] 0 0 := Stand.of_body Bd
  have e0 : s₁.heap = h0 := by rw [← hh, Bd.state]; rfl
  have N0 := Fr.nil n0
  have kp0 := Keep.refl h0 [ad1]
  show Go p e below (Fin1 s below (Q_am9_1 Z u_1 aw0 u_0 kaw0 ad1 ad2 h0 n0) (rm 4 1 10 56).cells (rm 4 1 10 56).slots) _
  refine Go.step (fun t_ k_ => castTop (ef_am9_1 m ad1 ad2) k_) ?_
  obtain ⟨Eu_1, Su_1, Eaw0, Saw0, Au_1, Aaw0⟩ := id HW
  show Go p e below _ (s₁.setTop (mkF m 0 #[.val (.ref ad1), .val (.ref ad2)] []))
  refine gs.aloadN X0.here hx (hb hby d9_0) rfl rfl ?_
  refine gs.dup X0.here hx (hb hby d9_1) rfl ?_
  refine gs.getF X0 hx hZ hown (wd hw 75 rfl) (Via.of (wd hw 76 rfl)) e0 HF_ad1_AbstractList_modCount (hb hby d9_2) fun T1 X1 e1 => ?_
  refine gs.iconst 1 X1.here hx (hb hby d9_5) rfl ?_
  refine gs.iadd X1.here hx (hb hby d9_6) ?_
  rw [show ((0 : Int32) + (1 : Int32)) = (1 : Int32) from by decide]
  obtain ⟨T2, h2, X2, e2, W2, st2⟩ := putF X1 hx hZ hown (host := "") (Or.inl (wd hw 75 rfl)) (Via.of (wd hw 76 rfl)) e1 HF_ad1_AbstractList_modCount HE_ad1 (Or.inl (wd hw 23 rfl)) (wd hw 2 rfl) (ty := .int) (by decide) rfl rfl (g := (mkF m 7 #[.val (.ref ad1), .val (.ref ad2)] [(.int (1 : Int32)), (.ref ad1)])) rfl rfl (hb hby d9_7)
  have N2 := Fr.snoc X2 N0 nn_ad1
  have old2 := Ol.wr W2 nn_ad1
  have kp2 := kp0.wr W2 (Or.inl (List.mem_of_getElem? (i := 0) rfl))
  have F2 := HF_ad1_AbstractList_modCount.same W2
  refine Go.fin st2 ?_
  show Go p e below _ (T2.setTop (mkF m 10 _ []))
  refine gs.aloadN X2.here hx (hb hby d9_10) rfl rfl ?_
  refine gs.aloadN X2.here hx (hb hby d9_11) rfl rfl ?_
  refine gs.aloadN X2.here hx (hb hby d9_12) rfl rfl ?_
  have f3 := (HF_ad1_ArrayList_elementData.other W2 (Or.inr (sn0 hw)))
  refine gs.getF X2 hx hZ hown (wd hw 25 rfl) Via.refl e2 f3 (hb hby d9_13) fun T4 X4 e4 => ?_
  refine gs.aloadN X4.here hx (hb hby d9_16) rfl rfl ?_
  have f5 := (HF_ad1_ArrayList_size.other W2 (Or.inr (sn1 hw)))
  refine gs.getF X4 hx hZ hown (wd hw 77 rfl) Via.refl e4 f5 (hb hby d9_17) fun T6 X6 e6 => ?_
  have f7 := (HE_ad1.wr W2)
  have f8 := (HE_ad2.wr W2)
  refine gs.priv 0 X6 hx hZ hown (am10_1 l Z a0 hw [] u_1 aw0 u_0 kaw0 HW (ad1) (ad2) h2 n0 old2 f7 F2 f3 f5 f8 nn_ad1) (wd hw 83 rfl) (wd hw 3 rfl) (wd hw 79 rfl) (wd hw 80 rfl) (mvT hZ (wd hw 82 rfl)) (wd hw 81 rfl) (by decide) f7 (by decide) (by decide) (by rw [hml]; rfl) [(.ref ad2), (.ref aw0), (.int (0 : Int32))] (lenOf pd_7 rfl) rfl (Nat.le_of_eq rfl) (hb hby d9_20) rfl e6 (by decide) (by decide) fun T9 Lc9 v9 X9 hQ9 => ?_
  obtain ⟨b9_0, kx9_0, rfl, gb_b9_0, Nq9, K9, p9_0, p9_1, p9_2, p9_3, p9_4, ov9_0⟩ := hQ9
  have nn_b9_0 : n0 ≤ b9_0 := Nat.le_trans (old_z0 old2) gb_b9_0
  have sz_b9_0 : h0.size ≤ b9_0 := Nat.le_trans kp2.1 gb_b9_0
  have old9 := old2.keep K9 (allS nn_ad1 all0)
  have kp9 := kp2.trans K9 (allS (Or.inl (List.mem_of_getElem? (i := 0) rfl)) all0)
  have N9 := Fr.app N2 Nq9
  show Go p e below _ (T9.setTop (mkF m 23 _ []))
  refine gs.iconst 1 X9.here hx (hb hby d9_23) rfl ?_
  refine Go.retZ X9 hx (t := .boolean) Bd.returns (by simp) Bd.notSynchronized (hb hby d9_24) (by exact ⟨b9_0, kx9_0, rfl, sz_b9_0, N9, kp9, p9_0, p9_1, p9_2, p9_3, p9_4, ov9_0⟩) (by decide) (by decide)
theorem pd_8 : parseMethodDescriptor "(Ljava/lang/Object;)Z" = some ⟨[(.object "java/lang/Object")], some .boolean⟩ := by decide +kernel
def Q_am10_2 (Z : State) (u_1 : Addr) (aw0 : Addr) (u_0 : ClassId) (kaw0 : ClassId) (ad1 : Addr) (ad2 : Addr) (ad3 : Addr) (ad4 : Addr) (kc1 : ClassId) (h0 : Heap) (n0 : Nat) (v : Option Value) (h : Heap) (L : List Loc) : Prop := v = none ∧ Fr n0 L ∧ Keep h0 h [ad1, ad3] ∧ (Exa Z h ad1 "java/util/ArrayList") ∧ (Fld Z h ad1 "java/util/AbstractList" "modCount" "I" (.int (2 : Int32))) ∧ (Fld Z h ad1 "java/util/ArrayList" "elementData" "[Ljava/lang/Object;" (.ref ad3)) ∧ (Fld Z h ad1 "java/util/ArrayList" "size" "I" (.int (2 : Int32))) ∧ (Arv Z h ad3 kc1 (.object "java/lang/Object") (10 : Int32) [(.ref ad4), (.ref ad2), .null, .null, .null, .null, .null, .null, .null, .null] .null)
set_option maxRecDepth 65536 in
set_option maxHeartbeats 40000000 in
theorem am10_2 (l : Launch) (Z : State) (a0 : Array Value) (hw : ∀ d ∈ tables_1, d.before a0 Z = true) (ws : List Jvm.Cond) (u_1 : Addr) (aw0 : Addr) (u_0 : ClassId) (kaw0 : ClassId) (HW : Wd Z u_1 aw0 u_0 kaw0) (ad1 : Addr) (ad2 : Addr) (ad3 : Addr) (ad4 : Addr) (kc1 : ClassId) (h0 : Heap) (n0 : Nat) (Ol : Old Z n0 h0) (HE_ad1 : Exa Z h0 ad1 "java/util/ArrayList") (HF_ad1_AbstractList_modCount : Fld Z h0 ad1 "java/util/AbstractList" "modCount" "I" (.int (2 : Int32))) (HF_ad1_ArrayList_elementData : Fld Z h0 ad1 "java/util/ArrayList" "elementData" "[Ljava/lang/Object;" (.ref ad3)) (HF_ad1_ArrayList_size : Fld Z h0 ad1 "java/util/ArrayList" "size" "I" (.int (1 : Int32))) (HV_ad3 : Arv Z h0 ad3 kc1 (.object "java/lang/Object") (10 : Int32) [(.ref ad4), .null, .null, .null, .null, .null, .null, .null, .null, .null] .null) (HE_ad2 : Exa Z h0 ad2 "com/example/monarc/monarc/Variable") (nn_ad1 : n0 ≤ ad1) (nn_ad3 : n0 ≤ ad3) (ne_ad1_ad3 : ad1 ≠ ad3) (hO_ad3 : Ovr Z kc1 "java/lang/Object") :
    MetFree l y_10 (head1 (Jvm.Cond.code y_10 jdk_38_method_24_code 4 none :: ws) (rm 0 0 0 0)) (fun a_ U_ => a_ = #[(.ref ad1), (.ref ad2), (.ref ad3), (.int (1 : Int32))] ∧ Z.Warmed39 U_.vm ∧ U_.heap = h0) (fun _ _ _ _ _ => True) (fun _ U_ o_ V_ => ∃ v_ L_, o_ = .returned v_ ∧ Q_am10_2 Z u_1 aw0 u_0 kaw0 ad1 ad2 ad3 ad4 kc1 h0 n0 v_ V_.heap L_ ∧ FrameEnd U_ o_ V_ L_ (rm 0 0 0 0).cells (rm 0 0 0 0).slots) := by
  refine MetFree.of_bodySF (plainFor_of_name pn_4) hisR ?_
  intro p e s m args below meth c s₁ Bd hml0 hP hK
  obtain ⟨rfl, hZ, hh⟩ := hP
  have hx := Bd.exec
  have hby := Bd.bytes
  have hml : c.maxLocals = 4 := hml0
  have hown : s.vm.findClass "java/util/ArrayList" = some m.cls := findClass_of_methodNamed Bd.named
  have hnm := (name_of_methodNamed Bd.named Bd.method).1
  have X0 : Stand p l e (rm 0 0 0 0) s m #[(.ref ad1), (.ref ad2), (.ref ad3), (.int (1 : Int32))] below meth c s₁ [] 0 0 := Stand.of_body Bd
  have e0 : s₁.heap = h0 := by rw [← hh, Bd.state]; rfl
  have N0 := Fr.nil n0
  have kp0 := Keep.refl h0 [ad1, ad3]
  show Go p e below (Fin1 s below (Q_am10_2 Z u_1 aw0 u_0 kaw0 ad1 ad2 ad3 ad4 kc1 h0 n0) (rm 0 0 0 0).cells (rm 0 0 0 0).slots) _
  refine Go.step (fun t_ k_ => castTop (ef_am10_1 m ad1 ad2 ad3 (1 : Int32)) k_) ?_
  obtain ⟨Eu_1, Su_1, Eaw0, Saw0, Au_1, Aaw0⟩ := id HW
  show Go p e below _ (s₁.setTop (mkF m 0 #[.val (.ref ad1), .val (.ref ad2), .val (.ref ad3), .val (.int (1 : Int32))] []))
  refine gs.iloadN X0.here hx (hb hby d10_0) rfl ?_
  refine gs.aloadN X0.here hx (hb hby d10_1) rfl rfl ?_
  obtain ⟨cl1, Ar1, -, Sz1, Ng1, -, -⟩ := id HV_ad3
  refine Go.fin (fun t_ k_ => X0.arraylength hx (by rw [e0]; exact Ar1.1) (State.isArrayOf_alike hZ.alike Ar1.2.1) (g := mkF m 2 _ _) rfl rfl (hb hby d10_2) _ k_) ?_
  rw [len_of Sz1 Ng1]
  show Go p e below _ (s₁.setTop (mkF m 3 _ [(.int (10 : Int32)), (.int (1 : Int32))]))
  have hc3 : ¬ ((1 : Int32) = (10 : Int32)) := by decide
  refine gs.icmpYes 11 X0.here hx (hb hby d10_3) (feq hc3).2 rfl ?_
  refine gs.aloadN X0.here hx (hb hby d10_11) rfl rfl ?_
  refine gs.iloadN X0.here hx (hb hby d10_12) rfl ?_
  refine gs.aloadN X0.here hx (hb hby d10_13) rfl rfl ?_
  obtain ⟨cl2, Ar2, q2, Sz2, Ng2, Hs2, G2⟩ := id HV_ad3
  have hin2 : ¬ ((1 : Int32) < 0 ∨ cl2.slots.size ≤ ((1 : Int32)).toNatClampNeg) := inb_of Sz2 ⟨by decide, by decide⟩
  obtain ⟨T3, h3, X3, e3, W3, st3⟩ := stR X0 hx hZ e0 Ar2 (j := (1 : Int32)) hin2 rfl (Sto.ofV Ar2 q2 hO_ad3 (Ins.of_exa HE_ad2 (wd hw 100 rfl))) (g := (mkF m 14 #[.val (.ref ad1), .val (.ref ad2), .val (.ref ad3), .val (.int (1 : Int32))] [(.ref ad2), (.int (1 : Int32)), (.ref ad3)])) rfl rfl (hb hby d10_14)
  have N3 := Fr.snoc X3 N0 nn_ad3
  have old3 := Ol.wr W3 nn_ad3
  have kp3 := kp0.wr W3 (Or.inl (List.mem_of_getElem? (i := 1) rfl))
  have V3 : Arv Z h3 ad3 kc1 (.object "java/lang/Object") (10 : Int32) [(.ref ad4), (.ref ad2), .null, .null, .null, .null, .null, .null, .null, .null] .null := Arv.set Ar2 q2 Sz2 Ng2 Hs2 G2 rfl W3 1 rfl (Nat.le_of_ble_eq_true rfl)
  refine Go.fin st3 ?_
  show Go p e below _ (T3.setTop (mkF m 15 _ []))
  refine gs.aloadN X3.here hx (hb hby d10_15) rfl rfl ?_
  refine gs.iloadN X3.here hx (hb hby d10_16) rfl ?_
  refine gs.iconst 1 X3.here hx (hb hby d10_17) rfl ?_
  refine gs.iadd X3.here hx (hb hby d10_18) ?_
  rw [show ((1 : Int32) + (1 : Int32)) = (2 : Int32) from by decide]
  have f4 := (HF_ad1_ArrayList_size.other W3 (Or.inl ne_ad1_ad3))
  have f5 := (HE_ad1.wr W3)
  obtain ⟨T6, h6, X6, e6, W6, st6⟩ := putF X3 hx hZ hown (host := "") (Or.inl (wd hw 77 rfl)) Via.refl e3 f4 f5 (Or.inl (wd hw 78 rfl)) (wd hw 2 rfl) (ty := .int) (by decide) rfl rfl (g := (mkF m 19 #[.val (.ref ad1), .val (.ref ad2), .val (.ref ad3), .val (.int (1 : Int32))] [(.int (2 : Int32)), (.ref ad1)])) rfl rfl (hb hby d10_19)
  have N6 := Fr.snoc X6 N3 nn_ad1
  have old6 := old3.wr W6 nn_ad1
  have kp6 := kp3.wr W6 (Or.inl (List.mem_of_getElem? (i := 0) rfl))
  have F6 := f4.same W6
  refine Go.fin st6 ?_
  show Go p e below _ (T6.setTop (mkF m 22 _ []))
  have f7 := (f5.wr W6)
  have f8 := ((HF_ad1_AbstractList_modCount.other W3 (Or.inl ne_ad1_ad3)).other W6 (Or.inr (sn13 hw)))
  have f9 := ((HF_ad1_ArrayList_elementData.other W3 (Or.inl ne_ad1_ad3)).other W6 (Or.inr (sn14 hw)))
  have f10 := (V3.other W6 (Ne.symm ne_ad1_ad3))
  refine Go.retV X6 hx Bd.returns Bd.notSynchronized (hb hby d10_22) (by rw [e6]; exact ⟨rfl, N6, kp6, f7, f8, f9, F6, f10⟩) (by decide) (by decide)
def Q_am9_2 (Z : State) (u_1 : Addr) (aw0 : Addr) (u_0 : ClassId) (kaw0 : ClassId) (ad1 : Addr) (ad2 : Addr) (ad3 : Addr) (ad4 : Addr) (kc1 : ClassId) (h0 : Heap) (n0 : Nat) (v : Option Value) (h : Heap) (L : List Loc) : Prop := v = some (.int (1 : Int32)) ∧ Fr n0 L ∧ Keep h0 h [ad1, ad3] ∧ (Exa Z h ad1 "java/util/ArrayList") ∧ (Fld Z h ad1 "java/util/AbstractList" "modCount" "I" (.int (2 : Int32))) ∧ (Fld Z h ad1 "java/util/ArrayList" "elementData" "[Ljava/lang/Object;" (.ref ad3)) ∧ (Fld Z h ad1 "java/util/ArrayList" "size" "I" (.int (2 : Int32))) ∧ (Arv Z h ad3 kc1 (.object "java/lang/Object") (10 : Int32) [(.ref ad4), (.ref ad2), .null, .null, .null, .null, .null, .null, .null, .null] .null)
set_option maxRecDepth 65536 in
set_option maxHeartbeats 40000000 in
theorem am9_2 (l : Launch) (Z : State) (a0 : Array Value) (hw : ∀ d ∈ tables_1, d.before a0 Z = true) (ws : List Jvm.Cond) (u_1 : Addr) (aw0 : Addr) (u_0 : ClassId) (kaw0 : ClassId) (HW : Wd Z u_1 aw0 u_0 kaw0) (ad1 : Addr) (ad2 : Addr) (ad3 : Addr) (ad4 : Addr) (kc1 : ClassId) (h0 : Heap) (n0 : Nat) (Ol : Old Z n0 h0) (HE_ad1 : Exa Z h0 ad1 "java/util/ArrayList") (HF_ad1_AbstractList_modCount : Fld Z h0 ad1 "java/util/AbstractList" "modCount" "I" (.int (1 : Int32))) (HF_ad1_ArrayList_elementData : Fld Z h0 ad1 "java/util/ArrayList" "elementData" "[Ljava/lang/Object;" (.ref ad3)) (HF_ad1_ArrayList_size : Fld Z h0 ad1 "java/util/ArrayList" "size" "I" (.int (1 : Int32))) (HV_ad3 : Arv Z h0 ad3 kc1 (.object "java/lang/Object") (10 : Int32) [(.ref ad4), .null, .null, .null, .null, .null, .null, .null, .null, .null] .null) (HE_ad2 : Exa Z h0 ad2 "com/example/monarc/monarc/Variable") (nn_ad1 : n0 ≤ ad1) (nn_ad3 : n0 ≤ ad3) (ne_ad1_ad3 : ad1 ≠ ad3) (hO_ad3 : Ovr Z kc1 "java/lang/Object") :
    MetFree l y_9 (head1 (Jvm.Cond.code y_9 jdk_38_method_25_code 2 (some .boolean) :: ws) (rm 1 0 0 15)) (fun a_ U_ => a_ = #[(.ref ad1), (.ref ad2)] ∧ Z.Warmed39 U_.vm ∧ U_.heap = h0) (fun _ _ _ _ _ => True) (fun _ U_ o_ V_ => ∃ v_ L_, o_ = .returned v_ ∧ Q_am9_2 Z u_1 aw0 u_0 kaw0 ad1 ad2 ad3 ad4 kc1 h0 n0 v_ V_.heap L_ ∧ FrameEnd U_ o_ V_ L_ (rm 1 0 0 15).cells (rm 1 0 0 15).slots) := by
  refine MetFree.of_bodySF (plainFor_of_name pn_4) hisR ?_
  intro p e s m args below meth c s₁ Bd hml0 hP hK
  obtain ⟨rfl, hZ, hh⟩ := hP
  have hx := Bd.exec
  have hby := Bd.bytes
  have hml : c.maxLocals = 2 := hml0
  have hown : s.vm.findClass "java/util/ArrayList" = some m.cls := findClass_of_methodNamed Bd.named
  have hnm := (name_of_methodNamed Bd.named Bd.method).1
  have X0 : Stand p l e (rm 1 0 0 15) s m #[(.ref ad1), (.ref ad2)] below meth c s₁ [] 0 0 := Stand.of_body Bd
  have e0 : s₁.heap = h0 := by rw [← hh, Bd.state]; rfl
  have N0 := Fr.nil n0
  have kp0 := Keep.refl h0 [ad1, ad3]
  show Go p e below (Fin1 s below (Q_am9_2 Z u_1 aw0 u_0 kaw0 ad1 ad2 ad3 ad4 kc1 h0 n0) (rm 1 0 0 15).cells (rm 1 0 0 15).slots) _
  refine Go.step (fun t_ k_ => castTop (ef_am9_1 m ad1 ad2) k_) ?_
  obtain ⟨Eu_1, Su_1, Eaw0, Saw0, Au_1, Aaw0⟩ := id HW
  show Go p e below _ (s₁.setTop (mkF m 0 #[.val (.ref ad1), .val (.ref ad2)] []))
  refine gs.aloadN X0.here hx (hb hby d9_0) rfl rfl ?_
  refine gs.dup X0.here hx (hb hby d9_1) rfl ?_
  refine gs.getF X0 hx hZ hown (wd hw 75 rfl) (Via.of (wd hw 76 rfl)) e0 HF_ad1_AbstractList_modCount (hb hby d9_2) fun T1 X1 e1 => ?_
  refine gs.iconst 1 X1.here hx (hb hby d9_5) rfl ?_
  refine gs.iadd X1.here hx (hb hby d9_6) ?_
  rw [show ((1 : Int32) + (1 : Int32)) = (2 : Int32) from by decide]
  obtain ⟨T2, h2, X2, e2, W2, st2⟩ := putF X1 hx hZ hown (host := "") (Or.inl (wd hw 75 rfl)) (Via.of (wd hw 76 rfl)) e1 HF_ad1_AbstractList_modCount HE_ad1 (Or.inl (wd hw 23 rfl)) (wd hw 2 rfl) (ty := .int) (by decide) rfl rfl (g := (mkF m 7 #[.val (.ref ad1), .val (.ref ad2)] [(.int (2 : Int32)), (.ref ad1)])) rfl rfl (hb hby d9_7)
  have N2 := Fr.snoc X2 N0 nn_ad1
  have old2 := Ol.wr W2 nn_ad1
  have kp2 := kp0.wr W2 (Or.inl (List.mem_of_getElem? (i := 0) rfl))
  have F2 := HF_ad1_AbstractList_modCount.same W2
  refine Go.fin st2 ?_
  show Go p e below _ (T2.setTop (mkF m 10 _ []))
  refine gs.aloadN X2.here hx (hb hby d9_10) rfl rfl ?_
  refine gs.aloadN X2.here hx (hb hby d9_11) rfl rfl ?_
  refine gs.aloadN X2.here hx (hb hby d9_12) rfl rfl ?_
  have f3 := (HF_ad1_ArrayList_elementData.other W2 (Or.inr (sn0 hw)))
  refine gs.getF X2 hx hZ hown (wd hw 25 rfl) Via.refl e2 f3 (hb hby d9_13) fun T4 X4 e4 => ?_
  refine gs.aloadN X4.here hx (hb hby d9_16) rfl rfl ?_
  have f5 := (HF_ad1_ArrayList_size.other W2 (Or.inr (sn1 hw)))
  refine gs.getF X4 hx hZ hown (wd hw 77 rfl) Via.refl e4 f5 (hb hby d9_17) fun T6 X6 e6 => ?_
  have f7 := (HE_ad1.wr W2)
  have f8 := (HV_ad3.other W2 (Ne.symm ne_ad1_ad3))
  have f9 := (HE_ad2.wr W2)
  refine gs.priv 0 X6 hx hZ hown (am10_2 l Z a0 hw [] u_1 aw0 u_0 kaw0 HW (ad1) (ad2) (ad3) (ad4) (kc1) h2 n0 old2 f7 F2 f3 f5 f8 f9 nn_ad1 nn_ad3 ne_ad1_ad3 hO_ad3) (wd hw 83 rfl) (wd hw 3 rfl) (wd hw 79 rfl) (wd hw 80 rfl) (mvT hZ (wd hw 82 rfl)) (wd hw 81 rfl) (by decide) f7 (by decide) (by decide) (by rw [hml]; rfl) [(.ref ad2), (.ref ad3), (.int (1 : Int32))] (lenOf pd_7 rfl) rfl (Nat.le_of_eq rfl) (hb hby d9_20) rfl e6 (by decide) (by decide) fun T10 Lc10 v10 X10 hQ10 => ?_
  obtain ⟨rfl, Nq10, K10, p10_0, p10_1, p10_2, p10_3, p10_4⟩ := hQ10
  have old10 := old2.keep K10 (allS nn_ad1 (allS nn_ad3 all0))
  have kp10 := kp2.trans K10 (allS (Or.inl (List.mem_of_getElem? (i := 0) rfl)) (allS (Or.inl (List.mem_of_getElem? (i := 1) rfl)) all0))
  have N10 := Fr.app N2 Nq10
  show Go p e below _ (T10.setTop (mkF m 23 _ []))
  refine gs.iconst 1 X10.here hx (hb hby d9_23) rfl ?_
  refine Go.retZ X10 hx (t := .boolean) Bd.returns (by simp) Bd.notSynchronized (hb hby d9_24) (by exact ⟨rfl, N10, kp10, p10_0, p10_1, p10_2, p10_3, p10_4⟩) (by decide) (by decide)
theorem d14_0 : decode c_14 0 = .ok (.aload_n 0, 1) := by decide +kernel
theorem d14_1 : decode c_14 1 = .ok (.invokespecial 3, 3) := by decide +kernel
theorem d14_4 : decode c_14 4 = .ok (.aload_n 0, 1) := by decide +kernel
theorem d14_5 : decode c_14 5 = .ok (.sipush 1024, 3) := by decide +kernel
theorem d14_8 : decode c_14 8 = .ok (.newarray .long, 2) := by decide +kernel
theorem d14_10 : decode c_14 10 = .ok (.putfield 9, 3) := by decide +kernel
theorem d14_13 : decode c_14 13 = .ok (.aload_n 0, 1) := by decide +kernel
theorem d14_14 : decode c_14 14 = .ok (.bipush 64, 2) := by decide +kernel
theorem d14_16 : decode c_14 16 = .ok (.newarray .int, 2) := by decide +kernel
theorem d14_18 : decode c_14 18 = .ok (.putfield 13, 3) := by decide +kernel
theorem sn15 {a0 : Array Value} {Z : State} (hw : ∀ d ∈ tables_1, d.before a0 Z = true) : SN Z "com/example/monarc/monarc/Domains" "marks" "[I" "com/example/monarc/monarc/Domains" "trail" "[J" := slot_ne (Or.inl (wd hw 114 rfl)) (Or.inl (wd hw 111 rfl)) (by decide) (t := (.array .int)) (t' := (.array .long)) (by decide) (by decide)
theorem d14_21 : decode c_14 21 = .ok (.aload_n 1, 1) := by decide +kernel
theorem d14_22 : decode c_14 22 = .ok (.invokeinterface 17 1, 5) := by decide +kernel
theorem d15_0 : decode c_15 0 = .ok (.aload_n 0, 1) := by decide +kernel
theorem d15_1 : decode c_15 1 = .ok (.getfield 48, 3) := by decide +kernel
theorem d15_4 : decode c_15 4 = .ok (.ireturn, 1) := by decide +kernel
theorem ef_am15_1 (m : MethodId) (x0 : Addr)  : entryFrame m #[(.ref x0)] 1 = mkF m 0 #[.val (.ref x0)] [] := by first | (simp [entryFrame, mkF, argsToLocals, Value.category]; done) | rfl
def Q_am15_1 (Z : State) (u_1 : Addr) (aw0 : Addr) (u_0 : ClassId) (kaw0 : ClassId) (ad1 : Addr) (h0 : Heap) (n0 : Nat) (v : Option Value) (h : Heap) (L : List Loc) : Prop := v = some (.int (2 : Int32)) ∧ Fr n0 L ∧ h = h0
set_option maxRecDepth 65536 in
set_option maxHeartbeats 40000000 in
theorem am15_1 (l : Launch) (Z : State) (a0 : Array Value) (hw : ∀ d ∈ tables_1, d.before a0 Z = true) (ws : List Jvm.Cond) (u_1 : Addr) (aw0 : Addr) (u_0 : ClassId) (kaw0 : ClassId) (HW : Wd Z u_1 aw0 u_0 kaw0) (ad1 : Addr) (h0 : Heap) (n0 : Nat) (Ol : Old Z n0 h0) (HF_ad1_ArrayList_size : Fld Z h0 ad1 "java/util/ArrayList" "size" "I" (.int (2 : Int32))) :
    MetFree l y_15 (head1 (Jvm.Cond.code y_15 jdk_38_method_8_code 1 (some .int) :: ws) (rm 0 0 0 0)) (fun a_ U_ => a_ = #[(.ref ad1)] ∧ Z.Warmed39 U_.vm ∧ U_.heap = h0) (fun _ _ _ _ _ => True) (fun _ U_ o_ V_ => ∃ v_ L_, o_ = .returned v_ ∧ Q_am15_1 Z u_1 aw0 u_0 kaw0 ad1 h0 n0 v_ V_.heap L_ ∧ FrameEnd U_ o_ V_ L_ (rm 0 0 0 0).cells (rm 0 0 0 0).slots) := by
  refine MetFree.of_bodySF (plainFor_of_name pn_4) hisR ?_
  intro p e s m args below meth c s₁ Bd hml0 hP hK
  obtain ⟨rfl, hZ, hh⟩ := hP
  have hx := Bd.exec
  have hby := Bd.bytes
  have hml : c.maxLocals = 1 := hml0
  have hown : s.vm.findClass "java/util/ArrayList" = some m.cls := findClass_of_methodNamed Bd.named
  have hnm := (name_of_methodNamed Bd.named Bd.method).1
  have X0 : Stand p l e (rm 0 0 0 0) s m #[(.ref ad1)] below meth c s₁ [] 0 0 := Stand.of_body Bd
  have e0 : s₁.heap = h0 := by rw [← hh, Bd.state]; rfl
  have N0 := Fr.nil n0
  have kp0 := Keep.refl h0 []
  show Go p e below (Fin1 s below (Q_am15_1 Z u_1 aw0 u_0 kaw0 ad1 h0 n0) (rm 0 0 0 0).cells (rm 0 0 0 0).slots) _
  refine Go.step (fun t_ k_ => castTop (ef_am15_1 m ad1) k_) ?_
  obtain ⟨Eu_1, Su_1, Eaw0, Saw0, Au_1, Aaw0⟩ := id HW
  show Go p e below _ (s₁.setTop (mkF m 0 #[.val (.ref ad1)] []))
  refine gs.aloadN X0.here hx (hb hby d15_0) rfl rfl ?_
  refine gs.getF X0 hx hZ hown (wd hw 77 rfl) Via.refl e0 HF_ad1_ArrayList_size (hb hby d15_1) fun T1 X1 e1 => ?_
  refine Go.retI X1 hx Bd.returns Bd.notSynchronized (hb hby d15_4) (by rw [e1]; exact ⟨rfl, N0, rfl⟩) (by decide) (by decide)
theorem pd_9 : parseMethodDescriptor "()I" = some ⟨[], some .int⟩ := by decide +kernel
theorem d14_27 : decode c_14 27 = .ok (.istore_n 2, 1) := by decide +kernel
theorem d14_28 : decode c_14 28 = .ok (.aload_n 0, 1) := by decide +kernel
theorem d14_29 : decode c_14 29 = .ok (.iload_n 2, 1) := by decide +kernel
theorem d14_30 : decode c_14 30 = .ok (.anewarray 23, 3) := by decide +kernel
theorem d14_33 : decode c_14 33 = .ok (.putfield 25, 3) := by decide +kernel
theorem sn16 {a0 : Array Value} {Z : State} (hw : ∀ d ∈ tables_1, d.before a0 Z = true) : SN Z "com/example/monarc/monarc/Domains" "initial" "[Lcom/example/monarc/monarc/InitialDomain;" "com/example/monarc/monarc/Domains" "trail" "[J" := slot_ne (Or.inr (wd hw 127 rfl)) (Or.inl (wd hw 111 rfl)) (by decide) (t := (.array (.object "com/example/monarc/monarc/InitialDomain"))) (t' := (.array .long)) (by decide) (by decide)
theorem sn17 {a0 : Array Value} {Z : State} (hw : ∀ d ∈ tables_1, d.before a0 Z = true) : SN Z "com/example/monarc/monarc/Domains" "initial" "[Lcom/example/monarc/monarc/InitialDomain;" "com/example/monarc/monarc/Domains" "marks" "[I" := slot_ne (Or.inr (wd hw 127 rfl)) (Or.inl (wd hw 114 rfl)) (by decide) (t := (.array (.object "com/example/monarc/monarc/InitialDomain"))) (t' := (.array .int)) (by decide) (by decide)
theorem d14_36 : decode c_14 36 = .ok (.aload_n 0, 1) := by decide +kernel
theorem d14_37 : decode c_14 37 = .ok (.iload_n 2, 1) := by decide +kernel
theorem d14_38 : decode c_14 38 = .ok (.newarray .int, 2) := by decide +kernel
theorem d14_40 : decode c_14 40 = .ok (.putfield 29, 3) := by decide +kernel
theorem sn18 {a0 : Array Value} {Z : State} (hw : ∀ d ∈ tables_1, d.before a0 Z = true) : SN Z "com/example/monarc/monarc/Domains" "lower" "[I" "com/example/monarc/monarc/Domains" "trail" "[J" := slot_ne (Or.inr (wd hw 129 rfl)) (Or.inl (wd hw 111 rfl)) (by decide) (t := (.array .int)) (t' := (.array .long)) (by decide) (by decide)
theorem sn19 {a0 : Array Value} {Z : State} (hw : ∀ d ∈ tables_1, d.before a0 Z = true) : SN Z "com/example/monarc/monarc/Domains" "lower" "[I" "com/example/monarc/monarc/Domains" "marks" "[I" := slot_ne (Or.inr (wd hw 129 rfl)) (Or.inl (wd hw 114 rfl)) (by decide) (t := (.array .int)) (t' := (.array .int)) (by decide) (by decide)
theorem sn20 {a0 : Array Value} {Z : State} (hw : ∀ d ∈ tables_1, d.before a0 Z = true) : SN Z "com/example/monarc/monarc/Domains" "lower" "[I" "com/example/monarc/monarc/Domains" "initial" "[Lcom/example/monarc/monarc/InitialDomain;" := slot_ne (Or.inr (wd hw 129 rfl)) (Or.inr (wd hw 127 rfl)) (by decide) (t := (.array .int)) (t' := (.array (.object "com/example/monarc/monarc/InitialDomain"))) (by decide) (by decide)
theorem d14_43 : decode c_14 43 = .ok (.aload_n 0, 1) := by decide +kernel
theorem d14_44 : decode c_14 44 = .ok (.iload_n 2, 1) := by decide +kernel
theorem d14_45 : decode c_14 45 = .ok (.newarray .int, 2) := by decide +kernel
theorem d14_47 : decode c_14 47 = .ok (.putfield 32, 3) := by decide +kernel
theorem sn21 {a0 : Array Value} {Z : State} (hw : ∀ d ∈ tables_1, d.before a0 Z = true) : SN Z "com/example/monarc/monarc/Domains" "upper" "[I" "com/example/monarc/monarc/Domains" "trail" "[J" := slot_ne (Or.inr (wd hw 131 rfl)) (Or.inl (wd hw 111 rfl)) (by decide) (t := (.array .int)) (t' := (.array .long)) (by decide) (by decide)
theorem sn22 {a0 : Array Value} {Z : State} (hw : ∀ d ∈ tables_1, d.before a0 Z = true) : SN Z "com/example/monarc/monarc/Domains" "upper" "[I" "com/example/monarc/monarc/Domains" "marks" "[I" := slot_ne (Or.inr (wd hw 131 rfl)) (Or.inl (wd hw 114 rfl)) (by decide) (t := (.array .int)) (t' := (.array .int)) (by decide) (by decide)
theorem sn23 {a0 : Array Value} {Z : State} (hw : ∀ d ∈ tables_1, d.before a0 Z = true) : SN Z "com/example/monarc/monarc/Domains" "upper" "[I" "com/example/monarc/monarc/Domains" "initial" "[Lcom/example/monarc/monarc/InitialDomain;" := slot_ne (Or.inr (wd hw 131 rfl)) (Or.inr (wd hw 127 rfl)) (by decide) (t := (.array .int)) (t' := (.array (.object "com/example/monarc/monarc/InitialDomain"))) (by decide) (by decide)
theorem sn24 {a0 : Array Value} {Z : State} (hw : ∀ d ∈ tables_1, d.before a0 Z = true) : SN Z "com/example/monarc/monarc/Domains" "upper" "[I" "com/example/monarc/monarc/Domains" "lower" "[I" := slot_ne (Or.inr (wd hw 131 rfl)) (Or.inr (wd hw 129 rfl)) (by decide) (t := (.array .int)) (t' := (.array .int)) (by decide) (by decide)
theorem d14_50 : decode c_14 50 = .ok (.aload_n 0, 1) := by decide +kernel
theorem d14_51 : decode c_14 51 = .ok (.iload_n 2, 1) := by decide +kernel
theorem d14_52 : decode c_14 52 = .ok (.anewarray 35, 3) := by decide +kernel
theorem d14_55 : decode c_14 55 = .ok (.putfield 36, 3) := by decide +kernel
theorem sn25 {a0 : Array Value} {Z : State} (hw : ∀ d ∈ tables_1, d.before a0 Z = true) : SN Z "com/example/monarc/monarc/Domains" "holes" "[[J" "com/example/monarc/monarc/Domains" "trail" "[J" := slot_ne (Or.inr (wd hw 135 rfl)) (Or.inl (wd hw 111 rfl)) (by decide) (t := (.array (.array .long))) (t' := (.array .long)) (by decide) (by decide)
theorem sn26 {a0 : Array Value} {Z : State} (hw : ∀ d ∈ tables_1, d.before a0 Z = true) : SN Z "com/example/monarc/monarc/Domains" "holes" "[[J" "com/example/monarc/monarc/Domains" "marks" "[I" := slot_ne (Or.inr (wd hw 135 rfl)) (Or.inl (wd hw 114 rfl)) (by decide) (t := (.array (.array .long))) (t' := (.array .int)) (by decide) (by decide)
theorem sn27 {a0 : Array Value} {Z : State} (hw : ∀ d ∈ tables_1, d.before a0 Z = true) : SN Z "com/example/monarc/monarc/Domains" "holes" "[[J" "com/example/monarc/monarc/Domains" "initial" "[Lcom/example/monarc/monarc/InitialDomain;" := slot_ne (Or.inr (wd hw 135 rfl)) (Or.inr (wd hw 127 rfl)) (by decide) (t := (.array (.array .long))) (t' := (.array (.object "com/example/monarc/monarc/InitialDomain"))) (by decide) (by decide)
theorem sn28 {a0 : Array Value} {Z : State} (hw : ∀ d ∈ tables_1, d.before a0 Z = true) : SN Z "com/example/monarc/monarc/Domains" "holes" "[[J" "com/example/monarc/monarc/Domains" "lower" "[I" := slot_ne (Or.inr (wd hw 135 rfl)) (Or.inr (wd hw 129 rfl)) (by decide) (t := (.array (.array .long))) (t' := (.array .int)) (by decide) (by decide)
theorem sn29 {a0 : Array Value} {Z : State} (hw : ∀ d ∈ tables_1, d.before a0 Z = true) : SN Z "com/example/monarc/monarc/Domains" "holes" "[[J" "com/example/monarc/monarc/Domains" "upper" "[I" := slot_ne (Or.inr (wd hw 135 rfl)) (Or.inr (wd hw 131 rfl)) (by decide) (t := (.array (.array .long))) (t' := (.array .int)) (by decide) (by decide)
theorem d14_58 : decode c_14 58 = .ok (.aload_n 0, 1) := by decide +kernel
theorem d14_59 : decode c_14 59 = .ok (.iload_n 2, 1) := by decide +kernel
theorem d14_60 : decode c_14 60 = .ok (.newarray .int, 2) := by decide +kernel
theorem d14_62 : decode c_14 62 = .ok (.putfield 40, 3) := by decide +kernel
theorem sn30 {a0 : Array Value} {Z : State} (hw : ∀ d ∈ tables_1, d.before a0 Z = true) : SN Z "com/example/monarc/monarc/Domains" "sizes" "[I" "com/example/monarc/monarc/Domains" "trail" "[J" := slot_ne (Or.inr (wd hw 137 rfl)) (Or.inl (wd hw 111 rfl)) (by decide) (t := (.array .int)) (t' := (.array .long)) (by decide) (by decide)
theorem sn31 {a0 : Array Value} {Z : State} (hw : ∀ d ∈ tables_1, d.before a0 Z = true) : SN Z "com/example/monarc/monarc/Domains" "sizes" "[I" "com/example/monarc/monarc/Domains" "marks" "[I" := slot_ne (Or.inr (wd hw 137 rfl)) (Or.inl (wd hw 114 rfl)) (by decide) (t := (.array .int)) (t' := (.array .int)) (by decide) (by decide)
theorem sn32 {a0 : Array Value} {Z : State} (hw : ∀ d ∈ tables_1, d.before a0 Z = true) : SN Z "com/example/monarc/monarc/Domains" "sizes" "[I" "com/example/monarc/monarc/Domains" "initial" "[Lcom/example/monarc/monarc/InitialDomain;" := slot_ne (Or.inr (wd hw 137 rfl)) (Or.inr (wd hw 127 rfl)) (by decide) (t := (.array .int)) (t' := (.array (.object "com/example/monarc/monarc/InitialDomain"))) (by decide) (by decide)
theorem sn33 {a0 : Array Value} {Z : State} (hw : ∀ d ∈ tables_1, d.before a0 Z = true) : SN Z "com/example/monarc/monarc/Domains" "sizes" "[I" "com/example/monarc/monarc/Domains" "lower" "[I" := slot_ne (Or.inr (wd hw 137 rfl)) (Or.inr (wd hw 129 rfl)) (by decide) (t := (.array .int)) (t' := (.array .int)) (by decide) (by decide)
theorem sn34 {a0 : Array Value} {Z : State} (hw : ∀ d ∈ tables_1, d.before a0 Z = true) : SN Z "com/example/monarc/monarc/Domains" "sizes" "[I" "com/example/monarc/monarc/Domains" "upper" "[I" := slot_ne (Or.inr (wd hw 137 rfl)) (Or.inr (wd hw 131 rfl)) (by decide) (t := (.array .int)) (t' := (.array .int)) (by decide) (by decide)
theorem sn35 {a0 : Array Value} {Z : State} (hw : ∀ d ∈ tables_1, d.before a0 Z = true) : SN Z "com/example/monarc/monarc/Domains" "sizes" "[I" "com/example/monarc/monarc/Domains" "holes" "[[J" := slot_ne (Or.inr (wd hw 137 rfl)) (Or.inr (wd hw 135 rfl)) (by decide) (t := (.array .int)) (t' := (.array (.array .long))) (by decide) (by decide)
theorem d14_65 : decode c_14 65 = .ok (.iconst 0, 1) := by decide +kernel
theorem d14_66 : decode c_14 66 = .ok (.istore_n 3, 1) := by decide +kernel
theorem d14_67 : decode c_14 67 = .ok (.iload_n 3, 1) := by decide +kernel
theorem d14_68 : decode c_14 68 = .ok (.iload_n 2, 1) := by decide +kernel
theorem d14_69 : decode c_14 69 = .ok (.if_icmp .ge 81, 3) := by decide +kernel
theorem d14_72 : decode c_14 72 = .ok (.aload_n 0, 1) := by decide +kernel
theorem d14_73 : decode c_14 73 = .ok (.getfield 25, 3) := by decide +kernel
theorem sn36 {a0 : Array Value} {Z : State} (hw : ∀ d ∈ tables_1, d.before a0 Z = true) : SN Z "com/example/monarc/monarc/Domains" "initial" "[Lcom/example/monarc/monarc/InitialDomain;" "com/example/monarc/monarc/Domains" "lower" "[I" := slot_ne (Or.inr (wd hw 127 rfl)) (Or.inr (wd hw 129 rfl)) (by decide) (t := (.array (.object "com/example/monarc/monarc/InitialDomain"))) (t' := (.array .int)) (by decide) (by decide)
theorem sn37 {a0 : Array Value} {Z : State} (hw : ∀ d ∈ tables_1, d.before a0 Z = true) : SN Z "com/example/monarc/monarc/Domains" "initial" "[Lcom/example/monarc/monarc/InitialDomain;" "com/example/monarc/monarc/Domains" "upper" "[I" := slot_ne (Or.inr (wd hw 127 rfl)) (Or.inr (wd hw 131 rfl)) (by decide) (t := (.array (.object "com/example/monarc/monarc/InitialDomain"))) (t' := (.array .int)) (by decide) (by decide)
theorem sn38 {a0 : Array Value} {Z : State} (hw : ∀ d ∈ tables_1, d.before a0 Z = true) : SN Z "com/example/monarc/monarc/Domains" "initial" "[Lcom/example/monarc/monarc/InitialDomain;" "com/example/monarc/monarc/Domains" "holes" "[[J" := slot_ne (Or.inr (wd hw 127 rfl)) (Or.inr (wd hw 135 rfl)) (by decide) (t := (.array (.object "com/example/monarc/monarc/InitialDomain"))) (t' := (.array (.array .long))) (by decide) (by decide)
theorem sn39 {a0 : Array Value} {Z : State} (hw : ∀ d ∈ tables_1, d.before a0 Z = true) : SN Z "com/example/monarc/monarc/Domains" "initial" "[Lcom/example/monarc/monarc/InitialDomain;" "com/example/monarc/monarc/Domains" "sizes" "[I" := slot_ne (Or.inr (wd hw 127 rfl)) (Or.inr (wd hw 137 rfl)) (by decide) (t := (.array (.object "com/example/monarc/monarc/InitialDomain"))) (t' := (.array .int)) (by decide) (by decide)
theorem d14_76 : decode c_14 76 = .ok (.iload_n 3, 1) := by decide +kernel
theorem d14_77 : decode c_14 77 = .ok (.aload_n 1, 1) := by decide +kernel
theorem d14_78 : decode c_14 78 = .ok (.iload_n 3, 1) := by decide +kernel
theorem d14_79 : decode c_14 79 = .ok (.invokeinterface 43 2, 5) := by decide +kernel
theorem d16_0 : decode c_16 0 = .ok (.iload_n 1, 1) := by decide +kernel
theorem d16_1 : decode c_16 1 = .ok (.aload_n 0, 1) := by decide +kernel
theorem d16_2 : decode c_16 2 = .ok (.getfield 48, 3) := by decide +kernel
theorem d16_5 : decode c_16 5 = .ok (.invokestatic 118, 3) := by decide +kernel
theorem d17_0 : decode c_17 0 = .ok (.iload_n 0, 1) := by decide +kernel
theorem d17_1 : decode c_17 1 = .ok (.iload_n 1, 1) := by decide +kernel
theorem d17_2 : decode c_17 2 = .ok (.aconst_null, 1) := by decide +kernel
theorem d17_3 : decode c_17 3 = .ok (.invokestatic 105, 3) := by decide +kernel
theorem d18_0 : decode c_18 0 = .ok (.iload_n 0, 1) := by decide +kernel
theorem d18_1 : decode c_18 1 = .ok (.ifCond .lt 8, 3) := by decide +kernel
theorem d18_4 : decode c_18 4 = .ok (.iload_n 0, 1) := by decide +kernel
theorem d18_5 : decode c_18 5 = .ok (.iload_n 1, 1) := by decide +kernel
theorem d18_6 : decode c_18 6 = .ok (.if_icmp .lt 10, 3) := by decide +kernel
theorem d18_16 : decode c_18 16 = .ok (.iload_n 0, 1) := by decide +kernel
theorem d18_17 : decode c_18 17 = .ok (.ireturn, 1) := by decide +kernel
theorem pn_8 : plainName "jdk/internal/util/Preconditions" = true := by first | (simp [plainName, overriddenIn]; done) | decide +kernel
theorem ef_am18_1 (m : MethodId) (x0 : Int32) (x1 : Int32)  : entryFrame m #[(.int x0), (.int x1), .null] 3 = mkF m 0 #[.val (.int x0), .val (.int x1), .val .null] [] := by first | (simp [entryFrame, mkF, argsToLocals, Value.category]; done) | rfl
def Q_am18_1 (Z : State) (u_1 : Addr) (aw0 : Addr) (u_0 : ClassId) (kaw0 : ClassId) (iv1 : Int32) (iv2 : Int32) (h0 : Heap) (n0 : Nat) (v : Option Value) (h : Heap) (L : List Loc) : Prop := v = some (.int iv1) ∧ Fr n0 L ∧ h = h0
set_option maxRecDepth 65536 in
set_option maxHeartbeats 40000000 in
theorem am18_1 (l : Launch) (Z : State) (a0 : Array Value) (hw : ∀ d ∈ tables_1, d.before a0 Z = true) (ws : List Jvm.Cond) (u_1 : Addr) (aw0 : Addr) (u_0 : ClassId) (kaw0 : ClassId) (HW : Wd Z u_1 aw0 u_0 kaw0) (iv1 : Int32) (iv2 : Int32) (h0 : Heap) (n0 : Nat) (Ol : Old Z n0 h0) (as0 : ¬ (iv1 < (0 : Int32))) (as1 : iv1 < iv2) :
    MetFree l y_18 (head1 (Jvm.Cond.code y_18 jdk_41_method_11_code 3 (some .int) :: ws) (rm 0 0 0 0)) (fun a_ U_ => a_ = #[(.int iv1), (.int iv2), .null] ∧ Z.Warmed39 U_.vm ∧ U_.heap = h0) (fun _ _ _ _ _ => True) (fun _ U_ o_ V_ => ∃ v_ L_, o_ = .returned v_ ∧ Q_am18_1 Z u_1 aw0 u_0 kaw0 iv1 iv2 h0 n0 v_ V_.heap L_ ∧ FrameEnd U_ o_ V_ L_ (rm 0 0 0 0).cells (rm 0 0 0 0).slots) := by
  refine MetFree.of_bodySF (plainFor_of_name pn_8) hisR ?_
  intro p e s m args below meth c s₁ Bd hml0 hP hK
  obtain ⟨rfl, hZ, hh⟩ := hP
  have hx := Bd.exec
  have hby := Bd.bytes
  have hml : c.maxLocals = 3 := hml0
  have hown : s.vm.findClass "jdk/internal/util/Preconditions" = some m.cls := findClass_of_methodNamed Bd.named
  have hnm := (name_of_methodNamed Bd.named Bd.method).1
  have X0 : Stand p l e (rm 0 0 0 0) s m #[(.int iv1), (.int iv2), .null] below meth c s₁ [] 0 0 := Stand.of_body Bd
  have e0 : s₁.heap = h0 := by rw [← hh, Bd.state]; rfl
  have N0 := Fr.nil n0
  have kp0 := Keep.refl h0 []
  show Go p e below (Fin1 s below (Q_am18_1 Z u_1 aw0 u_0 kaw0 iv1 iv2 h0 n0) (rm 0 0 0 0).cells (rm 0 0 0 0).slots) _
  refine Go.step (fun t_ k_ => castTop (ef_am18_1 m iv1 iv2) k_) ?_
  obtain ⟨Eu_1, Su_1, Eaw0, Saw0, Au_1, Aaw0⟩ := id HW
  show Go p e below _ (s₁.setTop (mkF m 0 #[.val (.int iv1), .val (.int iv2), .val .null] []))
  refine gs.iloadN X0.here hx (hb hby d18_0) rfl ?_
  have hc1 : ¬ (iv1 < (0 : Int32)) := as0
  refine gs.ifNo X0.here hx (hb hby d18_1) ((if0 _ _).trans (flt hc1).1) ?_
  refine gs.iloadN X0.here hx (hb hby d18_4) rfl ?_
  refine gs.iloadN X0.here hx (hb hby d18_5) rfl ?_
  have hc6 : iv1 < iv2 := as1
  refine gs.icmpYes 16 X0.here hx (hb hby d18_6) (tlt hc6).1 rfl ?_
  refine gs.iloadN X0.here hx (hb hby d18_16) rfl ?_
  refine Go.retI X0 hx Bd.returns Bd.notSynchronized (hb hby d18_17) (by rw [e0]; exact ⟨rfl, N0, rfl⟩) (by decide) (by decide)
theorem pd_10 : parseMethodDescriptor "(IILjava/util/function/BiFunction;)I" = some ⟨[.int, .int, (.object "java/util/function/BiFunction")], some .int⟩ := by decide +kernel
theorem d17_6 : decode c_17 6 = .ok (.ireturn, 1) := by decide +kernel
theorem pn_9 : plainName "java/util/Objects" = true := by first | (simp [plainName, overriddenIn]; done) | decide +kernel
theorem ef_am17_1 (m : MethodId) (x0 : Int32) (x1 : Int32)  : entryFrame m #[(.int x0), (.int x1)] 2 = mkF m 0 #[.val (.int x0), .val (.int x1)] [] := by first | (simp [entryFrame, mkF, argsToLocals, Value.category]; done) | rfl
def Q_am17_1 (Z : State) (u_1 : Addr) (aw0 : Addr) (u_0 : ClassId) (kaw0 : ClassId) (iv1 : Int32) (iv2 : Int32) (h0 : Heap) (n0 : Nat) (v : Option Value) (h : Heap) (L : List Loc) : Prop := v = some (.int iv1) ∧ Fr n0 L ∧ h = h0
set_option maxRecDepth 65536 in
set_option maxHeartbeats 40000000 in
theorem am17_1 (l : Launch) (Z : State) (a0 : Array Value) (hw : ∀ d ∈ tables_1, d.before a0 Z = true) (ws : List Jvm.Cond) (u_1 : Addr) (aw0 : Addr) (u_0 : ClassId) (kaw0 : ClassId) (HW : Wd Z u_1 aw0 u_0 kaw0) (iv1 : Int32) (iv2 : Int32) (h0 : Heap) (n0 : Nat) (Ol : Old Z n0 h0) (as0 : ¬ (iv1 < (0 : Int32))) (as1 : iv1 < iv2) :
    MetFree l y_17 (head1 (Jvm.Cond.code y_17 jdk_31_method_17_code 2 (some .int) :: ws) (rm 1 0 0 14)) (fun a_ U_ => a_ = #[(.int iv1), (.int iv2)] ∧ Z.Warmed39 U_.vm ∧ U_.heap = h0) (fun _ _ _ _ _ => True) (fun _ U_ o_ V_ => ∃ v_ L_, o_ = .returned v_ ∧ Q_am17_1 Z u_1 aw0 u_0 kaw0 iv1 iv2 h0 n0 v_ V_.heap L_ ∧ FrameEnd U_ o_ V_ L_ (rm 1 0 0 14).cells (rm 1 0 0 14).slots) := by
  refine MetFree.of_bodySF (plainFor_of_name pn_9) hisR ?_
  intro p e s m args below meth c s₁ Bd hml0 hP hK
  obtain ⟨rfl, hZ, hh⟩ := hP
  have hx := Bd.exec
  have hby := Bd.bytes
  have hml : c.maxLocals = 2 := hml0
  have hown : s.vm.findClass "java/util/Objects" = some m.cls := findClass_of_methodNamed Bd.named
  have hnm := (name_of_methodNamed Bd.named Bd.method).1
  have X0 : Stand p l e (rm 1 0 0 14) s m #[(.int iv1), (.int iv2)] below meth c s₁ [] 0 0 := Stand.of_body Bd
  have e0 : s₁.heap = h0 := by rw [← hh, Bd.state]; rfl
  have N0 := Fr.nil n0
  have kp0 := Keep.refl h0 []
  show Go p e below (Fin1 s below (Q_am17_1 Z u_1 aw0 u_0 kaw0 iv1 iv2 h0 n0) (rm 1 0 0 14).cells (rm 1 0 0 14).slots) _
  refine Go.step (fun t_ k_ => castTop (ef_am17_1 m iv1 iv2) k_) ?_
  obtain ⟨Eu_1, Su_1, Eaw0, Saw0, Au_1, Aaw0⟩ := id HW
  show Go p e below _ (s₁.setTop (mkF m 0 #[.val (.int iv1), .val (.int iv2)] []))
  refine gs.iloadN X0.here hx (hb hby d17_0) rfl ?_
  refine gs.iloadN X0.here hx (hb hby d17_1) rfl ?_
  refine gs.aconstNull X0.here hx (hb hby d17_2) ?_
  refine gs.stat 0 X0 hx hZ hown (am18_1 l Z a0 hw [] u_1 aw0 u_0 kaw0 HW (iv1) (iv2) h0 n0 Ol as0 as1) (wd hw 153 rfl) (wd hw 152 rfl) (wd hw 150 rfl) (wd hw 151 rfl) (by decide) (by decide) (by decide) (by rw [hml]; rfl) [(.int iv1), (.int iv2), .null] (lenOf pd_10 rfl) rfl (Nat.le_of_eq rfl) (hb hby d17_3) rfl e0 (by decide) (by decide) fun T1 Lc1 v1 X1 hQ1 => ?_
  obtain ⟨rfl, Nq1, e1⟩ := hQ1
  have N1 := Fr.app N0 Nq1
  show Go p e below _ (T1.setTop (mkF m 6 _ [(.int iv1)]))
  refine Go.retI X1 hx Bd.returns Bd.notSynchronized (hb hby d17_6) (by rw [e1]; exact ⟨rfl, N1, rfl⟩) (by decide) (by decide)
theorem d16_8 : decode c_16 8 = .ok (.pop, 1) := by decide +kernel
theorem d16_9 : decode c_16 9 = .ok (.aload_n 0, 1) := by decide +kernel
theorem d16_10 : decode c_16 10 = .ok (.iload_n 1, 1) := by decide +kernel
theorem d16_11 : decode c_16 11 = .ok (.invokevirtual 123, 3) := by decide +kernel
theorem d19_0 : decode c_19 0 = .ok (.aload_n 0, 1) := by decide +kernel
theorem d19_1 : decode c_19 1 = .ok (.getfield 9, 3) := by decide +kernel
theorem d19_4 : decode c_19 4 = .ok (.iload_n 1, 1) := by decide +kernel
theorem d19_5 : decode c_19 5 = .ok (.aaload, 1) := by decide +kernel
theorem d19_6 : decode c_19 6 = .ok (.areturn, 1) := by decide +kernel
theorem ef_am19_1 (m : MethodId) (x0 : Addr) (x1 : Int32)  : entryFrame m #[(.ref x0), (.int x1)] 2 = mkF m 0 #[.val (.ref x0), .val (.int x1)] [] := by first | (simp [entryFrame, mkF, argsToLocals, Value.category]; done) | rfl
def Q_am19_1 (Z : State) (u_1 : Addr) (aw0 : Addr) (u_0 : ClassId) (kaw0 : ClassId) (ad1 : Addr) (iv1 : Int32) (ad2 : Addr) (ad3 : Addr) (kc1 : ClassId) (fv6 : Nat → Value) (h0 : Heap) (n0 : Nat) (v : Option Value) (h : Heap) (L : List Loc) : Prop := v = some (.ref ad3) ∧ Fr n0 L ∧ h = h0
set_option maxRecDepth 65536 in
set_option maxHeartbeats 40000000 in
theorem am19_1 (l : Launch) (Z : State) (a0 : Array Value) (hw : ∀ d ∈ tables_1, d.before a0 Z = true) (ws : List Jvm.Cond) (u_1 : Addr) (aw0 : Addr) (u_0 : ClassId) (kaw0 : ClassId) (HW : Wd Z u_1 aw0 u_0 kaw0) (ad1 : Addr) (iv1 : Int32) (ad2 : Addr) (ad3 : Addr) (kc1 : ClassId) (fv6 : Nat → Value) (h0 : Heap) (n0 : Nat) (Ol : Old Z n0 h0) (HF_ad1_ArrayList_elementData : Fld Z h0 ad1 "java/util/ArrayList" "elementData" "[Ljava/lang/Object;" (.ref ad2)) (HG_ad2 : Arw Z h0 ad2 kc1 (.object "java/lang/Object") (10 : Int32) fv6) (as0 : 0 ≤ (iv1).toInt ∧ (iv1).toInt < ((10 : Int32)).toInt) (rq0 : (fv6 (iv1).toNatClampNeg) = (.ref ad3)) :
    MetFree l y_19 (head1 (Jvm.Cond.code y_19 jdk_38_method_18_code 2 (some (.object "java/lang/Object")) :: ws) (rm 0 0 0 0)) (fun a_ U_ => a_ = #[(.ref ad1), (.int iv1)] ∧ Z.Warmed39 U_.vm ∧ U_.heap = h0) (fun _ _ _ _ _ => True) (fun _ U_ o_ V_ => ∃ v_ L_, o_ = .returned v_ ∧ Q_am19_1 Z u_1 aw0 u_0 kaw0 ad1 iv1 ad2 ad3 kc1 fv6 h0 n0 v_ V_.heap L_ ∧ FrameEnd U_ o_ V_ L_ (rm 0 0 0 0).cells (rm 0 0 0 0).slots) := by
  refine MetFree.of_bodySF (plainFor_of_name pn_4) hisR ?_
  intro p e s m args below meth c s₁ Bd hml0 hP hK
  obtain ⟨rfl, hZ, hh⟩ := hP
  have hx := Bd.exec
  have hby := Bd.bytes
  have hml : c.maxLocals = 2 := hml0
  have hown : s.vm.findClass "java/util/ArrayList" = some m.cls := findClass_of_methodNamed Bd.named
  have hnm := (name_of_methodNamed Bd.named Bd.method).1
  have X0 : Stand p l e (rm 0 0 0 0) s m #[(.ref ad1), (.int iv1)] below meth c s₁ [] 0 0 := Stand.of_body Bd
  have e0 : s₁.heap = h0 := by rw [← hh, Bd.state]; rfl
  have N0 := Fr.nil n0
  have kp0 := Keep.refl h0 []
  show Go p e below (Fin1 s below (Q_am19_1 Z u_1 aw0 u_0 kaw0 ad1 iv1 ad2 ad3 kc1 fv6 h0 n0) (rm 0 0 0 0).cells (rm 0 0 0 0).slots) _
  refine Go.step (fun t_ k_ => castTop (ef_am19_1 m ad1 iv1) k_) ?_
  obtain ⟨Eu_1, Su_1, Eaw0, Saw0, Au_1, Aaw0⟩ := id HW
  show Go p e below _ (s₁.setTop (mkF m 0 #[.val (.ref ad1), .val (.int iv1)] []))
  refine gs.aloadN X0.here hx (hb hby d19_0) rfl rfl ?_
  refine gs.getF X0 hx hZ hown (wd hw 25 rfl) Via.refl e0 HF_ad1_ArrayList_elementData (hb hby d19_1) fun T1 X1 e1 => ?_
  refine gs.iloadN X1.here hx (hb hby d19_4) rfl ?_
  obtain ⟨cl2, Ar2, q2, Sz2, Ng2, Hs2⟩ := id HG_ad2
  have hin2 : ¬ (iv1 < 0 ∨ cl2.slots.size ≤ (iv1).toNatClampNeg) := inb_of Sz2 (inb_int as0)
  have hat2 : cl2.slots[(iv1).toNatClampNeg]? = some (fv6 (iv1).toNatClampNeg) := Hs2 _ (lt_of_in hin2)
  rw [show (fv6 (iv1).toNatClampNeg) = (.ref ad3) from rq0] at hat2
  refine Go.fin (fun t_ k_ => X1.aaload hx (j := iv1) (v := (.ref ad3)) (by rw [e1]; exact Ar2.1) (State.isArrayOf_alike hZ.alike Ar2.2.1) rfl Ar2.2.2 hin2 hat2 (g := mkF m 5 _ _) rfl rfl (hb hby d19_5) _ k_) ?_
  show Go p e below _ (T1.setTop (mkF m 6 _ [(.ref ad3)]))
  refine Go.retR X1 hx Bd.returns rfl rfl Bd.notSynchronized (hb hby d19_6) (by rw [e1]; exact ⟨rfl, N0, rfl⟩) (by decide) (by decide)
theorem pd_11 : parseMethodDescriptor "(I)Ljava/lang/Object;" = some ⟨[.int], some (.object "java/lang/Object")⟩ := by decide +kernel
theorem d16_14 : decode c_16 14 = .ok (.areturn, 1) := by decide +kernel
theorem ef_am16_1 (m : MethodId) (x0 : Addr) (x1 : Int32)  : entryFrame m #[(.ref x0), (.int x1)] 2 = mkF m 0 #[.val (.ref x0), .val (.int x1)] [] := by first | (simp [entryFrame, mkF, argsToLocals, Value.category]; done) | rfl
def Q_am16_1 (Z : State) (u_1 : Addr) (aw0 : Addr) (u_0 : ClassId) (kaw0 : ClassId) (ad1 : Addr) (so1 : Int32) (ad2 : Addr) (so2 : Int32) (ad3 : Addr) (kc1 : ClassId) (fv4 : Nat → Value) (h0 : Heap) (n0 : Nat) (v : Option Value) (h : Heap) (L : List Loc) : Prop := v = some (.ref ad3) ∧ Fr n0 L ∧ h = h0
set_option maxRecDepth 65536 in
set_option maxHeartbeats 40000000 in
theorem am16_1 (l : Launch) (Z : State) (a0 : Array Value) (hw : ∀ d ∈ tables_1, d.before a0 Z = true) (ws : List Jvm.Cond) (u_1 : Addr) (aw0 : Addr) (u_0 : ClassId) (kaw0 : ClassId) (HW : Wd Z u_1 aw0 u_0 kaw0) (ad1 : Addr) (so1 : Int32) (ad2 : Addr) (so2 : Int32) (ad3 : Addr) (kc1 : ClassId) (fv4 : Nat → Value) (h0 : Heap) (n0 : Nat) (Ol : Old Z n0 h0) (HE_ad1 : Exa Z h0 ad1 "java/util/ArrayList") (HF_ad1_ArrayList_elementData : Fld Z h0 ad1 "java/util/ArrayList" "elementData" "[Ljava/lang/Object;" (.ref ad2)) (HF_ad1_ArrayList_size : Fld Z h0 ad1 "java/util/ArrayList" "size" "I" (.int so2)) (HG_ad2 : Arw Z h0 ad2 kc1 (.object "java/lang/Object") (10 : Int32) fv4) (as0 : 0 ≤ (so1).toInt ∧ (so1).toInt < ((10 : Int32)).toInt) (as1 : ¬ (so1 < (0 : Int32))) (as2 : so1 < so2) (rq0 : (fv4 (so1).toNatClampNeg) = (.ref ad3)) :
    MetFree l y_16 (head1 (Jvm.Cond.code y_16 jdk_38_method_20_code 2 (some (.object "java/lang/Object")) :: ws) (rm 2 0 0 27)) (fun a_ U_ => a_ = #[(.ref ad1), (.int so1)] ∧ Z.Warmed39 U_.vm ∧ U_.heap = h0) (fun _ _ _ _ _ => True) (fun _ U_ o_ V_ => ∃ v_ L_, o_ = .returned v_ ∧ Q_am16_1 Z u_1 aw0 u_0 kaw0 ad1 so1 ad2 so2 ad3 kc1 fv4 h0 n0 v_ V_.heap L_ ∧ FrameEnd U_ o_ V_ L_ (rm 2 0 0 27).cells (rm 2 0 0 27).slots) := by
  refine MetFree.of_bodySF (plainFor_of_name pn_4) hisR ?_
  intro p e s m args below meth c s₁ Bd hml0 hP hK
  obtain ⟨rfl, hZ, hh⟩ := hP
  have hx := Bd.exec
  have hby := Bd.bytes
  have hml : c.maxLocals = 2 := hml0
  have hown : s.vm.findClass "java/util/ArrayList" = some m.cls := findClass_of_methodNamed Bd.named
  have hnm := (name_of_methodNamed Bd.named Bd.method).1
  have X0 : Stand p l e (rm 2 0 0 27) s m #[(.ref ad1), (.int so1)] below meth c s₁ [] 0 0 := Stand.of_body Bd
  have e0 : s₁.heap = h0 := by rw [← hh, Bd.state]; rfl
  have N0 := Fr.nil n0
  have kp0 := Keep.refl h0 []
  show Go p e below (Fin1 s below (Q_am16_1 Z u_1 aw0 u_0 kaw0 ad1 so1 ad2 so2 ad3 kc1 fv4 h0 n0) (rm 2 0 0 27).cells (rm 2 0 0 27).slots) _
  refine Go.step (fun t_ k_ => castTop (ef_am16_1 m ad1 so1) k_) ?_
  obtain ⟨Eu_1, Su_1, Eaw0, Saw0, Au_1, Aaw0⟩ := id HW
  show Go p e below _ (s₁.setTop (mkF m 0 #[.val (.ref ad1), .val (.int so1)] []))
  refine gs.iloadN X0.here hx (hb hby d16_0) rfl ?_
  refine gs.aloadN X0.here hx (hb hby d16_1) rfl rfl ?_
  refine gs.getF X0 hx hZ hown (wd hw 77 rfl) Via.refl e0 HF_ad1_ArrayList_size (hb hby d16_2) fun T1 X1 e1 => ?_
  refine gs.stat 0 X1 hx hZ hown (am17_1 l Z a0 hw [] u_1 aw0 u_0 kaw0 HW (so1) (so2) h0 n0 Ol as1 as2) (wd hw 149 rfl) (wd hw 148 rfl) (wd hw 146 rfl) (wd hw 147 rfl) (by decide) (by decide) (by decide) (by rw [hml]; rfl) [(.int so1), (.int so2)] (lenOf pd_4 rfl) rfl (Nat.le_of_eq rfl) (hb hby d16_5) rfl e1 (by decide) (by decide) fun T2 Lc2 v2 X2 hQ2 => ?_
  obtain ⟨rfl, Nq2, e2⟩ := hQ2
  have N2 := Fr.app N0 Nq2
  show Go p e below _ (T2.setTop (mkF m 8 _ [(.int so1)]))
  refine gs.pop X2.here hx (hb hby d16_8) rfl ?_
  refine gs.aloadN X2.here hx (hb hby d16_9) rfl rfl ?_
  refine gs.iloadN X2.here hx (hb hby d16_10) rfl ?_
  refine gs.virt 0 X2 hx hZ hown (am19_1 l Z a0 hw [] u_1 aw0 u_0 kaw0 HW (ad1) (so1) (ad2) (ad3) (kc1) (fv4) h0 n0 Ol HF_ad1_ArrayList_elementData HG_ad2 as0 rq0) (wd hw 158 rfl) (wd hw 3 rfl) (wd hw 154 rfl) (wd hw 155 rfl) (notFace_of_selects (args := #[]) (mvT hZ (wd hw 157 rfl))) (wd hw 157 rfl) (wd hw 156 rfl) (by decide) HE_ad1 (by decide) (by decide) (by rw [hml]; rfl) [(.int so1)] (lenOf pd_11 rfl) rfl (Nat.le_of_eq rfl) (hb hby d16_11) rfl e2 (by decide) (by decide) fun T3 Lc3 v3 X3 hQ3 => ?_
  obtain ⟨rfl, Nq3, e3⟩ := hQ3
  have N3 := Fr.app N2 Nq3
  show Go p e below _ (T3.setTop (mkF m 14 _ [(.ref ad3)]))
  refine Go.retR X3 hx Bd.returns rfl rfl Bd.notSynchronized (hb hby d16_14) (by rw [e3]; exact ⟨rfl, N3, rfl⟩) (by decide) (by decide)
theorem d14_84 : decode c_14 84 = .ok (.checkcast 47, 3) := by decide +kernel
theorem d14_87 : decode c_14 87 = .ok (.invokevirtual 49, 3) := by decide +kernel
theorem d20_0 : decode c_20 0 = .ok (.aload_n 0, 1) := by decide +kernel
theorem d20_1 : decode c_20 1 = .ok (.getfield 17, 3) := by decide +kernel
theorem d20_4 : decode c_20 4 = .ok (.areturn, 1) := by decide +kernel
theorem ef_am20_1 (m : MethodId) (x0 : Addr)  : entryFrame m #[(.ref x0)] 1 = mkF m 0 #[.val (.ref x0)] [] := by first | (simp [entryFrame, mkF, argsToLocals, Value.category]; done) | rfl
def Q_am20_1 (Z : State) (u_1 : Addr) (aw0 : Addr) (u_0 : ClassId) (kaw0 : ClassId) (ad1 : Addr) (ad2 : Addr) (h0 : Heap) (n0 : Nat) (v : Option Value) (h : Heap) (L : List Loc) : Prop := v = some (.ref ad2) ∧ Fr n0 L ∧ h = h0
set_option maxRecDepth 65536 in
set_option maxHeartbeats 40000000 in
theorem am20_1 (l : Launch) (Z : State) (a0 : Array Value) (hw : ∀ d ∈ tables_1, d.before a0 Z = true) (ws : List Jvm.Cond) (u_1 : Addr) (aw0 : Addr) (u_0 : ClassId) (kaw0 : ClassId) (HW : Wd Z u_1 aw0 u_0 kaw0) (ad1 : Addr) (ad2 : Addr) (h0 : Heap) (n0 : Nat) (Ol : Old Z n0 h0) (HF_ad1_Variable_domain : Fld Z h0 ad1 "com/example/monarc/monarc/Variable" "domain" "Lcom/example/monarc/monarc/InitialDomain;" (.ref ad2)) :
    MetFree l y_20 (head1 (Jvm.Cond.code y_20 prog_76_method_4_code 1 (some (.object "com/example/monarc/monarc/InitialDomain")) :: ws) (rm 0 0 0 0)) (fun a_ U_ => a_ = #[(.ref ad1)] ∧ Z.Warmed39 U_.vm ∧ U_.heap = h0) (fun _ _ _ _ _ => True) (fun _ U_ o_ V_ => ∃ v_ L_, o_ = .returned v_ ∧ Q_am20_1 Z u_1 aw0 u_0 kaw0 ad1 ad2 h0 n0 v_ V_.heap L_ ∧ FrameEnd U_ o_ V_ L_ (rm 0 0 0 0).cells (rm 0 0 0 0).slots) := by
  refine MetFree.of_bodySF (plainFor_of_name pn_7) hisR ?_
  intro p e s m args below meth c s₁ Bd hml0 hP hK
  obtain ⟨rfl, hZ, hh⟩ := hP
  have hx := Bd.exec
  have hby := Bd.bytes
  have hml : c.maxLocals = 1 := hml0
  have hown : s.vm.findClass "com/example/monarc/monarc/Variable" = some m.cls := findClass_of_methodNamed Bd.named
  have hnm := (name_of_methodNamed Bd.named Bd.method).1
  have X0 : Stand p l e (rm 0 0 0 0) s m #[(.ref ad1)] below meth c s₁ [] 0 0 := Stand.of_body Bd
  have e0 : s₁.heap = h0 := by rw [← hh, Bd.state]; rfl
  have N0 := Fr.nil n0
  have kp0 := Keep.refl h0 []
  show Go p e below (Fin1 s below (Q_am20_1 Z u_1 aw0 u_0 kaw0 ad1 ad2 h0 n0) (rm 0 0 0 0).cells (rm 0 0 0 0).slots) _
  refine Go.step (fun t_ k_ => castTop (ef_am20_1 m ad1) k_) ?_
  obtain ⟨Eu_1, Su_1, Eaw0, Saw0, Au_1, Aaw0⟩ := id HW
  show Go p e below _ (s₁.setTop (mkF m 0 #[.val (.ref ad1)] []))
  refine gs.aloadN X0.here hx (hb hby d20_0) rfl rfl ?_
  refine gs.getF X0 hx hZ hown (wd hw 68 rfl) Via.refl e0 HF_ad1_Variable_domain (hb hby d20_1) fun T1 X1 e1 => ?_
  refine Go.retR X1 hx Bd.returns rfl rfl Bd.notSynchronized (hb hby d20_4) (by rw [e1]; exact ⟨rfl, N0, rfl⟩) (by decide) (by decide)
theorem pd_12 : parseMethodDescriptor "()Lcom/example/monarc/monarc/InitialDomain;" = some ⟨[], some (.object "com/example/monarc/monarc/InitialDomain")⟩ := by decide +kernel
theorem d14_90 : decode c_14 90 = .ok (.aastore, 1) := by decide +kernel
theorem d14_91 : decode c_14 91 = .ok (.aload_n 0, 1) := by decide +kernel
theorem d14_92 : decode c_14 92 = .ok (.getfield 40, 3) := by decide +kernel
theorem d14_95 : decode c_14 95 = .ok (.iload_n 3, 1) := by decide +kernel
theorem d14_96 : decode c_14 96 = .ok (.aload_n 0, 1) := by decide +kernel
theorem d14_97 : decode c_14 97 = .ok (.getfield 25, 3) := by decide +kernel
theorem d14_100 : decode c_14 100 = .ok (.iload_n 3, 1) := by decide +kernel
theorem d14_101 : decode c_14 101 = .ok (.aaload, 1) := by decide +kernel
theorem d14_102 : decode c_14 102 = .ok (.invokevirtual 53, 3) := by decide +kernel
theorem d21_0 : decode c_21 0 = .ok (.aload_n 0, 1) := by decide +kernel
theorem d21_1 : decode c_21 1 = .ok (.getfield 24, 3) := by decide +kernel
theorem d21_4 : decode c_21 4 = .ok (.ireturn, 1) := by decide +kernel
theorem ef_am21_1 (m : MethodId) (x0 : Addr)  : entryFrame m #[(.ref x0)] 1 = mkF m 0 #[.val (.ref x0)] [] := by first | (simp [entryFrame, mkF, argsToLocals, Value.category]; done) | rfl
def Q_am21_1 (Z : State) (u_1 : Addr) (aw0 : Addr) (u_0 : ClassId) (kaw0 : ClassId) (ad1 : Addr) (iv2 : Int32) (h0 : Heap) (n0 : Nat) (v : Option Value) (h : Heap) (L : List Loc) : Prop := v = some (.int iv2) ∧ Fr n0 L ∧ h = h0
set_option maxRecDepth 65536 in
set_option maxHeartbeats 40000000 in
theorem am21_1 (l : Launch) (Z : State) (a0 : Array Value) (hw : ∀ d ∈ tables_1, d.before a0 Z = true) (ws : List Jvm.Cond) (u_1 : Addr) (aw0 : Addr) (u_0 : ClassId) (kaw0 : ClassId) (HW : Wd Z u_1 aw0 u_0 kaw0) (ad1 : Addr) (iv2 : Int32) (h0 : Heap) (n0 : Nat) (Ol : Old Z n0 h0) (HF_ad1_InitialDomain_size : Fld Z h0 ad1 "com/example/monarc/monarc/InitialDomain" "size" "I" (.int iv2)) :
    MetFree l y_21 (head1 (Jvm.Cond.code y_21 prog_20_method_5_code 1 (some .int) :: ws) (rm 0 0 0 0)) (fun a_ U_ => a_ = #[(.ref ad1)] ∧ Z.Warmed39 U_.vm ∧ U_.heap = h0) (fun _ _ _ _ _ => True) (fun _ U_ o_ V_ => ∃ v_ L_, o_ = .returned v_ ∧ Q_am21_1 Z u_1 aw0 u_0 kaw0 ad1 iv2 h0 n0 v_ V_.heap L_ ∧ FrameEnd U_ o_ V_ L_ (rm 0 0 0 0).cells (rm 0 0 0 0).slots) := by
  refine MetFree.of_bodySF (plainFor_of_name pn_5) hisR ?_
  intro p e s m args below meth c s₁ Bd hml0 hP hK
  obtain ⟨rfl, hZ, hh⟩ := hP
  have hx := Bd.exec
  have hby := Bd.bytes
  have hml : c.maxLocals = 1 := hml0
  have hown : s.vm.findClass "com/example/monarc/monarc/InitialDomain" = some m.cls := findClass_of_methodNamed Bd.named
  have hnm := (name_of_methodNamed Bd.named Bd.method).1
  have X0 : Stand p l e (rm 0 0 0 0) s m #[(.ref ad1)] below meth c s₁ [] 0 0 := Stand.of_body Bd
  have e0 : s₁.heap = h0 := by rw [← hh, Bd.state]; rfl
  have N0 := Fr.nil n0
  have kp0 := Keep.refl h0 []
  show Go p e below (Fin1 s below (Q_am21_1 Z u_1 aw0 u_0 kaw0 ad1 iv2 h0 n0) (rm 0 0 0 0).cells (rm 0 0 0 0).slots) _
  refine Go.step (fun t_ k_ => castTop (ef_am21_1 m ad1) k_) ?_
  obtain ⟨Eu_1, Su_1, Eaw0, Saw0, Au_1, Aaw0⟩ := id HW
  show Go p e below _ (s₁.setTop (mkF m 0 #[.val (.ref ad1)] []))
  refine gs.aloadN X0.here hx (hb hby d21_0) rfl rfl ?_
  refine gs.getF X0 hx hZ hown (wd hw 51 rfl) Via.refl e0 HF_ad1_InitialDomain_size (hb hby d21_1) fun T1 X1 e1 => ?_
  refine Go.retI X1 hx Bd.returns Bd.notSynchronized (hb hby d21_4) (by rw [e1]; exact ⟨rfl, N0, rfl⟩) (by decide) (by decide)
theorem d14_105 : decode c_14 105 = .ok (.iastore, 1) := by decide +kernel
theorem d14_106 : decode c_14 106 = .ok (.aload_n 0, 1) := by decide +kernel
theorem d14_107 : decode c_14 107 = .ok (.getfield 32, 3) := by decide +kernel
theorem sn40 {a0 : Array Value} {Z : State} (hw : ∀ d ∈ tables_1, d.before a0 Z = true) : SN Z "com/example/monarc/monarc/Domains" "upper" "[I" "com/example/monarc/monarc/Domains" "holes" "[[J" := slot_ne (Or.inr (wd hw 131 rfl)) (Or.inr (wd hw 135 rfl)) (by decide) (t := (.array .int)) (t' := (.array (.array .long))) (by decide) (by decide)
theorem sn41 {a0 : Array Value} {Z : State} (hw : ∀ d ∈ tables_1, d.before a0 Z = true) : SN Z "com/example/monarc/monarc/Domains" "upper" "[I" "com/example/monarc/monarc/Domains" "sizes" "[I" := slot_ne (Or.inr (wd hw 131 rfl)) (Or.inr (wd hw 137 rfl)) (by decide) (t := (.array .int)) (t' := (.array .int)) (by decide) (by decide)
theorem d14_110 : decode c_14 110 = .ok (.iload_n 3, 1) := by decide +kernel
theorem d14_111 : decode c_14 111 = .ok (.aload_n 0, 1) := by decide +kernel
theorem d14_112 : decode c_14 112 = .ok (.getfield 40, 3) := by decide +kernel
theorem d14_115 : decode c_14 115 = .ok (.iload_n 3, 1) := by decide +kernel
theorem d14_116 : decode c_14 116 = .ok (.iaload, 1) := by decide +kernel
theorem d14_117 : decode c_14 117 = .ok (.iconst 1, 1) := by decide +kernel
theorem d14_118 : decode c_14 118 = .ok (.isub, 1) := by decide +kernel
theorem d14_119 : decode c_14 119 = .ok (.iastore, 1) := by decide +kernel
theorem d14_120 : decode c_14 120 = .ok (.aload_n 0, 1) := by decide +kernel
theorem d14_121 : decode c_14 121 = .ok (.dup, 1) := by decide +kernel
theorem d14_122 : decode c_14 122 = .ok (.getfield 54, 3) := by decide +kernel
theorem sn42 {a0 : Array Value} {Z : State} (hw : ∀ d ∈ tables_1, d.before a0 Z = true) : SN Z "com/example/monarc/monarc/Domains" "withOneValue" "I" "com/example/monarc/monarc/Domains" "trail" "[J" := slot_ne (Or.inl (wd hw 173 rfl)) (Or.inl (wd hw 111 rfl)) (by decide) (t := .int) (t' := (.array .long)) (by decide) (by decide)
theorem sn43 {a0 : Array Value} {Z : State} (hw : ∀ d ∈ tables_1, d.before a0 Z = true) : SN Z "com/example/monarc/monarc/Domains" "withOneValue" "I" "com/example/monarc/monarc/Domains" "marks" "[I" := slot_ne (Or.inl (wd hw 173 rfl)) (Or.inl (wd hw 114 rfl)) (by decide) (t := .int) (t' := (.array .int)) (by decide) (by decide)
theorem sn44 {a0 : Array Value} {Z : State} (hw : ∀ d ∈ tables_1, d.before a0 Z = true) : SN Z "com/example/monarc/monarc/Domains" "withOneValue" "I" "com/example/monarc/monarc/Domains" "initial" "[Lcom/example/monarc/monarc/InitialDomain;" := slot_ne (Or.inl (wd hw 173 rfl)) (Or.inr (wd hw 127 rfl)) (by decide) (t := .int) (t' := (.array (.object "com/example/monarc/monarc/InitialDomain"))) (by decide) (by decide)
theorem sn45 {a0 : Array Value} {Z : State} (hw : ∀ d ∈ tables_1, d.before a0 Z = true) : SN Z "com/example/monarc/monarc/Domains" "withOneValue" "I" "com/example/monarc/monarc/Domains" "lower" "[I" := slot_ne (Or.inl (wd hw 173 rfl)) (Or.inr (wd hw 129 rfl)) (by decide) (t := .int) (t' := (.array .int)) (by decide) (by decide)
theorem sn46 {a0 : Array Value} {Z : State} (hw : ∀ d ∈ tables_1, d.before a0 Z = true) : SN Z "com/example/monarc/monarc/Domains" "withOneValue" "I" "com/example/monarc/monarc/Domains" "upper" "[I" := slot_ne (Or.inl (wd hw 173 rfl)) (Or.inr (wd hw 131 rfl)) (by decide) (t := .int) (t' := (.array .int)) (by decide) (by decide)
theorem sn47 {a0 : Array Value} {Z : State} (hw : ∀ d ∈ tables_1, d.before a0 Z = true) : SN Z "com/example/monarc/monarc/Domains" "withOneValue" "I" "com/example/monarc/monarc/Domains" "holes" "[[J" := slot_ne (Or.inl (wd hw 173 rfl)) (Or.inr (wd hw 135 rfl)) (by decide) (t := .int) (t' := (.array (.array .long))) (by decide) (by decide)
theorem sn48 {a0 : Array Value} {Z : State} (hw : ∀ d ∈ tables_1, d.before a0 Z = true) : SN Z "com/example/monarc/monarc/Domains" "withOneValue" "I" "com/example/monarc/monarc/Domains" "sizes" "[I" := slot_ne (Or.inl (wd hw 173 rfl)) (Or.inr (wd hw 137 rfl)) (by decide) (t := .int) (t' := (.array .int)) (by decide) (by decide)
theorem d14_125 : decode c_14 125 = .ok (.aload_n 0, 1) := by decide +kernel
theorem d14_126 : decode c_14 126 = .ok (.getfield 40, 3) := by decide +kernel
theorem d14_129 : decode c_14 129 = .ok (.iload_n 3, 1) := by decide +kernel
theorem d14_130 : decode c_14 130 = .ok (.iaload, 1) := by decide +kernel
theorem d14_131 : decode c_14 131 = .ok (.iconst 1, 1) := by decide +kernel
theorem d14_140 : decode c_14 140 = .ok (.iadd, 1) := by decide +kernel
theorem d14_141 : decode c_14 141 = .ok (.putfield 54, 3) := by decide +kernel
theorem d14_144 : decode c_14 144 = .ok (.iinc 3 1, 3) := by decide +kernel
theorem d14_147 : decode c_14 147 = .ok (.goto (-80), 3) := by decide +kernel
theorem sn49 {a0 : Array Value} {Z : State} (hw : ∀ d ∈ tables_1, d.before a0 Z = true) : SN Z "com/example/monarc/monarc/Domains" "initial" "[Lcom/example/monarc/monarc/InitialDomain;" "com/example/monarc/monarc/Domains" "withOneValue" "I" := slot_ne (Or.inr (wd hw 127 rfl)) (Or.inl (wd hw 173 rfl)) (by decide) (t := (.array (.object "com/example/monarc/monarc/InitialDomain"))) (t' := .int) (by decide) (by decide)
theorem sn50 {a0 : Array Value} {Z : State} (hw : ∀ d ∈ tables_1, d.before a0 Z = true) : SN Z "com/example/monarc/monarc/Domains" "sizes" "[I" "com/example/monarc/monarc/Domains" "withOneValue" "I" := slot_ne (Or.inr (wd hw 137 rfl)) (Or.inl (wd hw 173 rfl)) (by decide) (t := (.array .int)) (t' := .int) (by decide) (by decide)
theorem sn51 {a0 : Array Value} {Z : State} (hw : ∀ d ∈ tables_1, d.before a0 Z = true) : SN Z "com/example/monarc/monarc/Domains" "upper" "[I" "com/example/monarc/monarc/Domains" "withOneValue" "I" := slot_ne (Or.inr (wd hw 131 rfl)) (Or.inl (wd hw 173 rfl)) (by decide) (t := (.array .int)) (t' := .int) (by decide) (by decide)
theorem d14_150 : decode c_14 150 = .ok (.return_, 1) := by decide +kernel
theorem d14_132 : decode c_14 132 = .ok (.if_icmp .ne 7, 3) := by decide +kernel
theorem d14_135 : decode c_14 135 = .ok (.iconst 1, 1) := by decide +kernel
theorem d14_136 : decode c_14 136 = .ok (.goto 4, 3) := by decide +kernel
theorem d14_139 : decode c_14 139 = .ok (.iconst 0, 1) := by decide +kernel
theorem sn52 {a0 : Array Value} {Z : State} (hw : ∀ d ∈ tables_1, d.before a0 Z = true) : SN Z "com/example/monarc/monarc/Domains" "holes" "[[J" "com/example/monarc/monarc/Domains" "sizes" "[I" := slot_ne (Or.inr (wd hw 135 rfl)) (Or.inr (wd hw 137 rfl)) (by decide) (t := (.array (.array .long))) (t' := (.array .int)) (by decide) (by decide)
theorem sn53 {a0 : Array Value} {Z : State} (hw : ∀ d ∈ tables_1, d.before a0 Z = true) : SN Z "com/example/monarc/monarc/Domains" "holes" "[[J" "com/example/monarc/monarc/Domains" "withOneValue" "I" := slot_ne (Or.inr (wd hw 135 rfl)) (Or.inl (wd hw 173 rfl)) (by decide) (t := (.array (.array .long))) (t' := .int) (by decide) (by decide)
theorem sn54 {a0 : Array Value} {Z : State} (hw : ∀ d ∈ tables_1, d.before a0 Z = true) : SN Z "com/example/monarc/monarc/Domains" "lower" "[I" "com/example/monarc/monarc/Domains" "upper" "[I" := slot_ne (Or.inr (wd hw 129 rfl)) (Or.inr (wd hw 131 rfl)) (by decide) (t := (.array .int)) (t' := (.array .int)) (by decide) (by decide)
theorem sn55 {a0 : Array Value} {Z : State} (hw : ∀ d ∈ tables_1, d.before a0 Z = true) : SN Z "com/example/monarc/monarc/Domains" "lower" "[I" "com/example/monarc/monarc/Domains" "holes" "[[J" := slot_ne (Or.inr (wd hw 129 rfl)) (Or.inr (wd hw 135 rfl)) (by decide) (t := (.array .int)) (t' := (.array (.array .long))) (by decide) (by decide)
theorem sn56 {a0 : Array Value} {Z : State} (hw : ∀ d ∈ tables_1, d.before a0 Z = true) : SN Z "com/example/monarc/monarc/Domains" "lower" "[I" "com/example/monarc/monarc/Domains" "sizes" "[I" := slot_ne (Or.inr (wd hw 129 rfl)) (Or.inr (wd hw 137 rfl)) (by decide) (t := (.array .int)) (t' := (.array .int)) (by decide) (by decide)
theorem sn57 {a0 : Array Value} {Z : State} (hw : ∀ d ∈ tables_1, d.before a0 Z = true) : SN Z "com/example/monarc/monarc/Domains" "lower" "[I" "com/example/monarc/monarc/Domains" "withOneValue" "I" := slot_ne (Or.inr (wd hw 129 rfl)) (Or.inl (wd hw 173 rfl)) (by decide) (t := (.array .int)) (t' := .int) (by decide) (by decide)
theorem sn58 {a0 : Array Value} {Z : State} (hw : ∀ d ∈ tables_1, d.before a0 Z = true) : SN Z "com/example/monarc/monarc/Domains" "resized" "Ljava/util/function/IntConsumer;" "com/example/monarc/monarc/Domains" "trail" "[J" := slot_ne (Or.inl (wd hw 197 rfl)) (Or.inl (wd hw 111 rfl)) (by decide) (t := (.object "java/util/function/IntConsumer")) (t' := (.array .long)) (by decide) (by decide)
theorem sn59 {a0 : Array Value} {Z : State} (hw : ∀ d ∈ tables_1, d.before a0 Z = true) : SN Z "com/example/monarc/monarc/Domains" "resized" "Ljava/util/function/IntConsumer;" "com/example/monarc/monarc/Domains" "marks" "[I" := slot_ne (Or.inl (wd hw 197 rfl)) (Or.inl (wd hw 114 rfl)) (by decide) (t := (.object "java/util/function/IntConsumer")) (t' := (.array .int)) (by decide) (by decide)
theorem sn60 {a0 : Array Value} {Z : State} (hw : ∀ d ∈ tables_1, d.before a0 Z = true) : SN Z "com/example/monarc/monarc/Domains" "resized" "Ljava/util/function/IntConsumer;" "com/example/monarc/monarc/Domains" "initial" "[Lcom/example/monarc/monarc/InitialDomain;" := slot_ne (Or.inl (wd hw 197 rfl)) (Or.inr (wd hw 127 rfl)) (by decide) (t := (.object "java/util/function/IntConsumer")) (t' := (.array (.object "com/example/monarc/monarc/InitialDomain"))) (by decide) (by decide)
theorem sn61 {a0 : Array Value} {Z : State} (hw : ∀ d ∈ tables_1, d.before a0 Z = true) : SN Z "com/example/monarc/monarc/Domains" "resized" "Ljava/util/function/IntConsumer;" "com/example/monarc/monarc/Domains" "lower" "[I" := slot_ne (Or.inl (wd hw 197 rfl)) (Or.inr (wd hw 129 rfl)) (by decide) (t := (.object "java/util/function/IntConsumer")) (t' := (.array .int)) (by decide) (by decide)
theorem sn62 {a0 : Array Value} {Z : State} (hw : ∀ d ∈ tables_1, d.before a0 Z = true) : SN Z "com/example/monarc/monarc/Domains" "resized" "Ljava/util/function/IntConsumer;" "com/example/monarc/monarc/Domains" "upper" "[I" := slot_ne (Or.inl (wd hw 197 rfl)) (Or.inr (wd hw 131 rfl)) (by decide) (t := (.object "java/util/function/IntConsumer")) (t' := (.array .int)) (by decide) (by decide)
theorem sn63 {a0 : Array Value} {Z : State} (hw : ∀ d ∈ tables_1, d.before a0 Z = true) : SN Z "com/example/monarc/monarc/Domains" "resized" "Ljava/util/function/IntConsumer;" "com/example/monarc/monarc/Domains" "holes" "[[J" := slot_ne (Or.inl (wd hw 197 rfl)) (Or.inr (wd hw 135 rfl)) (by decide) (t := (.object "java/util/function/IntConsumer")) (t' := (.array (.array .long))) (by decide) (by decide)
theorem sn64 {a0 : Array Value} {Z : State} (hw : ∀ d ∈ tables_1, d.before a0 Z = true) : SN Z "com/example/monarc/monarc/Domains" "resized" "Ljava/util/function/IntConsumer;" "com/example/monarc/monarc/Domains" "sizes" "[I" := slot_ne (Or.inl (wd hw 197 rfl)) (Or.inr (wd hw 137 rfl)) (by decide) (t := (.object "java/util/function/IntConsumer")) (t' := (.array .int)) (by decide) (by decide)
theorem sn65 {a0 : Array Value} {Z : State} (hw : ∀ d ∈ tables_1, d.before a0 Z = true) : SN Z "com/example/monarc/monarc/Domains" "resized" "Ljava/util/function/IntConsumer;" "com/example/monarc/monarc/Domains" "withOneValue" "I" := slot_ne (Or.inl (wd hw 197 rfl)) (Or.inl (wd hw 173 rfl)) (by decide) (t := (.object "java/util/function/IntConsumer")) (t' := .int) (by decide) (by decide)
theorem sn66 {a0 : Array Value} {Z : State} (hw : ∀ d ∈ tables_1, d.before a0 Z = true) : SN Z "com/example/monarc/monarc/Domains" "trail" "[J" "com/example/monarc/monarc/Domains" "marks" "[I" := slot_ne (Or.inl (wd hw 111 rfl)) (Or.inl (wd hw 114 rfl)) (by decide) (t := (.array .long)) (t' := (.array .int)) (by decide) (by decide)
theorem sn67 {a0 : Array Value} {Z : State} (hw : ∀ d ∈ tables_1, d.before a0 Z = true) : SN Z "com/example/monarc/monarc/Domains" "trail" "[J" "com/example/monarc/monarc/Domains" "initial" "[Lcom/example/monarc/monarc/InitialDomain;" := slot_ne (Or.inl (wd hw 111 rfl)) (Or.inr (wd hw 127 rfl)) (by decide) (t := (.array .long)) (t' := (.array (.object "com/example/monarc/monarc/InitialDomain"))) (by decide) (by decide)
theorem sn68 {a0 : Array Value} {Z : State} (hw : ∀ d ∈ tables_1, d.before a0 Z = true) : SN Z "com/example/monarc/monarc/Domains" "trail" "[J" "com/example/monarc/monarc/Domains" "lower" "[I" := slot_ne (Or.inl (wd hw 111 rfl)) (Or.inr (wd hw 129 rfl)) (by decide) (t := (.array .long)) (t' := (.array .int)) (by decide) (by decide)
theorem sn69 {a0 : Array Value} {Z : State} (hw : ∀ d ∈ tables_1, d.before a0 Z = true) : SN Z "com/example/monarc/monarc/Domains" "trail" "[J" "com/example/monarc/monarc/Domains" "upper" "[I" := slot_ne (Or.inl (wd hw 111 rfl)) (Or.inr (wd hw 131 rfl)) (by decide) (t := (.array .long)) (t' := (.array .int)) (by decide) (by decide)
theorem sn70 {a0 : Array Value} {Z : State} (hw : ∀ d ∈ tables_1, d.before a0 Z = true) : SN Z "com/example/monarc/monarc/Domains" "trail" "[J" "com/example/monarc/monarc/Domains" "holes" "[[J" := slot_ne (Or.inl (wd hw 111 rfl)) (Or.inr (wd hw 135 rfl)) (by decide) (t := (.array .long)) (t' := (.array (.array .long))) (by decide) (by decide)
theorem sn71 {a0 : Array Value} {Z : State} (hw : ∀ d ∈ tables_1, d.before a0 Z = true) : SN Z "com/example/monarc/monarc/Domains" "trail" "[J" "com/example/monarc/monarc/Domains" "sizes" "[I" := slot_ne (Or.inl (wd hw 111 rfl)) (Or.inr (wd hw 137 rfl)) (by decide) (t := (.array .long)) (t' := (.array .int)) (by decide) (by decide)
theorem sn72 {a0 : Array Value} {Z : State} (hw : ∀ d ∈ tables_1, d.before a0 Z = true) : SN Z "com/example/monarc/monarc/Domains" "trail" "[J" "com/example/monarc/monarc/Domains" "withOneValue" "I" := slot_ne (Or.inl (wd hw 111 rfl)) (Or.inl (wd hw 173 rfl)) (by decide) (t := (.array .long)) (t' := .int) (by decide) (by decide)
theorem sn73 {a0 : Array Value} {Z : State} (hw : ∀ d ∈ tables_1, d.before a0 Z = true) : SN Z "com/example/monarc/monarc/Domains" "trailSize" "I" "com/example/monarc/monarc/Domains" "trail" "[J" := slot_ne (Or.inl (wd hw 195 rfl)) (Or.inl (wd hw 111 rfl)) (by decide) (t := .int) (t' := (.array .long)) (by decide) (by decide)
theorem sn74 {a0 : Array Value} {Z : State} (hw : ∀ d ∈ tables_1, d.before a0 Z = true) : SN Z "com/example/monarc/monarc/Domains" "trailSize" "I" "com/example/monarc/monarc/Domains" "marks" "[I" := slot_ne (Or.inl (wd hw 195 rfl)) (Or.inl (wd hw 114 rfl)) (by decide) (t := .int) (t' := (.array .int)) (by decide) (by decide)
theorem sn75 {a0 : Array Value} {Z : State} (hw : ∀ d ∈ tables_1, d.before a0 Z = true) : SN Z "com/example/monarc/monarc/Domains" "trailSize" "I" "com/example/monarc/monarc/Domains" "initial" "[Lcom/example/monarc/monarc/InitialDomain;" := slot_ne (Or.inl (wd hw 195 rfl)) (Or.inr (wd hw 127 rfl)) (by decide) (t := .int) (t' := (.array (.object "com/example/monarc/monarc/InitialDomain"))) (by decide) (by decide)
theorem sn76 {a0 : Array Value} {Z : State} (hw : ∀ d ∈ tables_1, d.before a0 Z = true) : SN Z "com/example/monarc/monarc/Domains" "trailSize" "I" "com/example/monarc/monarc/Domains" "lower" "[I" := slot_ne (Or.inl (wd hw 195 rfl)) (Or.inr (wd hw 129 rfl)) (by decide) (t := .int) (t' := (.array .int)) (by decide) (by decide)
theorem sn77 {a0 : Array Value} {Z : State} (hw : ∀ d ∈ tables_1, d.before a0 Z = true) : SN Z "com/example/monarc/monarc/Domains" "trailSize" "I" "com/example/monarc/monarc/Domains" "upper" "[I" := slot_ne (Or.inl (wd hw 195 rfl)) (Or.inr (wd hw 131 rfl)) (by decide) (t := .int) (t' := (.array .int)) (by decide) (by decide)
theorem sn78 {a0 : Array Value} {Z : State} (hw : ∀ d ∈ tables_1, d.before a0 Z = true) : SN Z "com/example/monarc/monarc/Domains" "trailSize" "I" "com/example/monarc/monarc/Domains" "holes" "[[J" := slot_ne (Or.inl (wd hw 195 rfl)) (Or.inr (wd hw 135 rfl)) (by decide) (t := .int) (t' := (.array (.array .long))) (by decide) (by decide)
theorem sn79 {a0 : Array Value} {Z : State} (hw : ∀ d ∈ tables_1, d.before a0 Z = true) : SN Z "com/example/monarc/monarc/Domains" "trailSize" "I" "com/example/monarc/monarc/Domains" "sizes" "[I" := slot_ne (Or.inl (wd hw 195 rfl)) (Or.inr (wd hw 137 rfl)) (by decide) (t := .int) (t' := (.array .int)) (by decide) (by decide)
theorem sn80 {a0 : Array Value} {Z : State} (hw : ∀ d ∈ tables_1, d.before a0 Z = true) : SN Z "com/example/monarc/monarc/Domains" "trailSize" "I" "com/example/monarc/monarc/Domains" "withOneValue" "I" := slot_ne (Or.inl (wd hw 195 rfl)) (Or.inl (wd hw 173 rfl)) (by decide) (t := .int) (t' := .int) (by decide) (by decide)
theorem pn_10 : plainName "com/example/monarc/monarc/Domains" = true := by first | (simp [plainName, overriddenIn]; done) | decide +kernel
theorem ef_am14_1 (m : MethodId) (x0 : Addr) (x1 : Addr)  : entryFrame m #[(.ref x0), (.ref x1)] 4 = mkF m 0 #[.val (.ref x0), .val (.ref x1), .unset, .unset] [] := by first | (simp [entryFrame, mkF, argsToLocals, Value.category]; done) | rfl
def Q_am14_1 (Z : State) (u_1 : Addr) (aw0 : Addr) (u_0 : ClassId) (kaw0 : ClassId) (ad1 : Addr) (ad2 : Addr) (ad3 : Addr) (ad4 : Addr) (ad5 : Addr) (iv2 : Int32) (kc1 : ClassId) (ad6 : Addr) (ad7 : Addr) (iv3 : Int32) (h0 : Heap) (n0 : Nat) (v : Option Value) (h : Heap) (L : List Loc) : Prop := ∃ fr1 : Addr, ∃ fr2 : Addr, ∃ fr3 : Addr, ∃ fr4 : Addr, ∃ fr5 : Addr, ∃ fr6 : Addr, ∃ kx1 : ClassId, ∃ kx2 : ClassId, ∃ kx3 : ClassId, ∃ kx4 : ClassId, ∃ kx5 : ClassId, ∃ kx6 : ClassId, ∃ ex1 : Int32, v = none ∧ h0.size ≤ fr1 ∧ h0.size ≤ fr2 ∧ h0.size ≤ fr3 ∧ h0.size ≤ fr4 ∧ h0.size ≤ fr5 ∧ h0.size ≤ fr6 ∧ fr1 ≠ fr2 ∧ fr1 ≠ fr3 ∧ fr1 ≠ fr4 ∧ fr1 ≠ fr5 ∧ fr1 ≠ fr6 ∧ fr2 ≠ fr3 ∧ fr2 ≠ fr4 ∧ fr2 ≠ fr5 ∧ fr2 ≠ fr6 ∧ fr3 ≠ fr4 ∧ fr3 ≠ fr5 ∧ fr3 ≠ fr6 ∧ fr4 ≠ fr5 ∧ fr4 ≠ fr6 ∧ fr5 ≠ fr6 ∧ Fr n0 L ∧ Keep h0 h [ad1] ∧ (Exa Z h ad1 "com/example/monarc/monarc/Domains") ∧ (Fld Z h ad1 "com/example/monarc/monarc/Domains" "holes" "[[J" (.ref fr1)) ∧ (Fld Z h ad1 "com/example/monarc/monarc/Domains" "initial" "[Lcom/example/monarc/monarc/InitialDomain;" (.ref fr2)) ∧ (Fld Z h ad1 "com/example/monarc/monarc/Domains" "lower" "[I" (.ref fr3)) ∧ (Fld Z h ad1 "com/example/monarc/monarc/Domains" "resized" "Ljava/util/function/IntConsumer;" .null) ∧ (Fld Z h ad1 "com/example/monarc/monarc/Domains" "sizes" "[I" (.ref fr4)) ∧ (Fld Z h ad1 "com/example/monarc/monarc/Domains" "trail" "[J" (.ref fr5)) ∧ (Fld Z h ad1 "com/example/monarc/monarc/Domains" "trailSize" "I" (.int (0 : Int32))) ∧ (Fld Z h ad1 "com/example/monarc/monarc/Domains" "upper" "[I" (.ref fr6)) ∧ (Fld Z h ad1 "com/example/monarc/monarc/Domains" "withOneValue" "I" (.int ex1)) ∧ (Exa Z h fr1 "[[J") ∧ (Arv Z h fr1 kx1 (.array .long) (2 : Int32) [.null, .null] .null) ∧ (Arv Z h fr2 kx2 (.object "com/example/monarc/monarc/InitialDomain") (2 : Int32) [(.ref ad5), (.ref ad7)] .null) ∧ (Arv Z h fr3 kx3 .int (2 : Int32) [(.int (0 : Int32)), (.int (0 : Int32))] (.int (0 : Int32))) ∧ (Arv Z h fr4 kx4 .int (2 : Int32) [(.int iv2), (.int iv3)] (.int (0 : Int32))) ∧ (Exa Z h fr5 "[J") ∧ (Arv Z h fr5 kx5 .long (1024 : Int32) [] (.long (0 : Int64))) ∧ (Arv Z h fr6 kx6 .int (2 : Int32) [(.int (iv2 - (1 : Int32))), (.int (iv3 - (1 : Int32)))] (.int (0 : Int32))) ∧ (OvrA Z kx1 .long "[J") ∧ (Ovr Z kx2 "com/example/monarc/monarc/InitialDomain")
set_option maxRecDepth 65536 in
set_option maxHeartbeats 40000000 in
theorem am14_1 (l : Launch) (Z : State) (a0 : Array Value) (hw : ∀ d ∈ tables_1, d.before a0 Z = true) (ws : List Jvm.Cond) (u_1 : Addr) (aw0 : Addr) (u_0 : ClassId) (kaw0 : ClassId) (HW : Wd Z u_1 aw0 u_0 kaw0) (ad1 : Addr) (ad2 : Addr) (ad3 : Addr) (ad4 : Addr) (ad5 : Addr) (iv2 : Int32) (kc1 : ClassId) (ad6 : Addr) (ad7 : Addr) (iv3 : Int32) (h0 : Heap) (n0 : Nat) (Ol : Old Z n0 h0) (HE_ad2 : Exa Z h0 ad2 "java/util/ArrayList") (HF_ad2_ArrayList_elementData : Fld Z h0 ad2 "java/util/ArrayList" "elementData" "[Ljava/lang/Object;" (.ref ad3)) (HF_ad2_ArrayList_size : Fld Z h0 ad2 "java/util/ArrayList" "size" "I" (.int (2 : Int32))) (HE_ad4 : Exa Z h0 ad4 "com/example/monarc/monarc/Variable") (HF_ad4_Variable_domain : Fld Z h0 ad4 "com/example/monarc/monarc/Variable" "domain" "Lcom/example/monarc/monarc/InitialDomain;" (.ref ad5)) (HE_ad5 : Exa Z h0 ad5 "com/example/monarc/monarc/InitialDomain") (HF_ad5_InitialDomain_size : Fld Z h0 ad5 "com/example/monarc/monarc/InitialDomain" "size" "I" (.int iv2)) (HV_ad3 : Arv Z h0 ad3 kc1 (.object "java/lang/Object") (10 : Int32) [(.ref ad4), (.ref ad6), .null, .null, .null, .null, .null, .null, .null, .null] .null) (HE_ad6 : Exa Z h0 ad6 "com/example/monarc/monarc/Variable") (HF_ad6_Variable_domain : Fld Z h0 ad6 "com/example/monarc/monarc/Variable" "domain" "Lcom/example/monarc/monarc/InitialDomain;" (.ref ad7)) (HE_ad7 : Exa Z h0 ad7 "com/example/monarc/monarc/InitialDomain") (HF_ad7_InitialDomain_size : Fld Z h0 ad7 "com/example/monarc/monarc/InitialDomain" "size" "I" (.int iv3)) (HE_ad1 : Exa Z h0 ad1 "com/example/monarc/monarc/Domains") (HF_ad1_Domains_trail : Fld Z h0 ad1 "com/example/monarc/monarc/Domains" "trail" "[J" .null) (HF_ad1_Domains_marks : Fld Z h0 ad1 "com/example/monarc/monarc/Domains" "marks" "[I" .null) (HF_ad1_Domains_initial : Fld Z h0 ad1 "com/example/monarc/monarc/Domains" "initial" "[Lcom/example/monarc/monarc/InitialDomain;" .null) (HF_ad1_Domains_lower : Fld Z h0 ad1 "com/example/monarc/monarc/Domains" "lower" "[I" .null) (HF_ad1_Domains_upper : Fld Z h0 ad1 "com/example/monarc/monarc/Domains" "upper" "[I" .null) (HF_ad1_Domains_holes : Fld Z h0 ad1 "com/example/monarc/monarc/Domains" "holes" "[[J" .null) (HF_ad1_Domains_sizes : Fld Z h0 ad1 "com/example/monarc/monarc/Domains" "sizes" "[I" .null) (HF_ad1_Domains_withOneValue : Fld Z h0 ad1 "com/example/monarc/monarc/Domains" "withOneValue" "I" (.int (0 : Int32))) (HF_ad1_Domains_trailSize : Fld Z h0 ad1 "com/example/monarc/monarc/Domains" "trailSize" "I" (.int (0 : Int32))) (HF_ad1_Domains_resized : Fld Z h0 ad1 "com/example/monarc/monarc/Domains" "resized" "Ljava/util/function/IntConsumer;" .null) (nn_ad1 : n0 ≤ ad1) (ne_ad1_ad2 : ad1 ≠ ad2) (ne_ad1_ad3 : ad1 ≠ ad3) (ne_ad1_ad4 : ad1 ≠ ad4) (ne_ad1_ad5 : ad1 ≠ ad5) (ne_ad1_ad6 : ad1 ≠ ad6) (ne_ad1_ad7 : ad1 ≠ ad7) (hO_ad3 : Ovr Z kc1 "java/lang/Object") :
    MetFree l y_14 (head1 (Jvm.Cond.code y_14 prog_11_method_1_code 4 none :: ws) (rm 3 7 1098 42)) (fun a_ U_ => a_ = #[(.ref ad1), (.ref ad2)] ∧ Z.Warmed39 U_.vm ∧ U_.heap = h0) (fun _ _ _ _ _ => True) (fun _ U_ o_ V_ => ∃ v_ L_, o_ = .returned v_ ∧ Q_am14_1 Z u_1 aw0 u_0 kaw0 ad1 ad2 ad3 ad4 ad5 iv2 kc1 ad6 ad7 iv3 h0 n0 v_ V_.heap L_ ∧ FrameEnd U_ o_ V_ L_ (rm 3 7 1098 42).cells (rm 3 7 1098 42).slots) := by
  refine MetFree.of_bodySF (plainFor_of_name pn_10) hisR ?_
  intro p e s m args below meth c s₁ Bd hml0 hP hK
  obtain ⟨rfl, hZ, hh⟩ := hP
  have hx := Bd.exec
  have hby := Bd.bytes
  have hml : c.maxLocals = 4 := hml0
  have hown : s.vm.findClass "com/example/monarc/monarc/Domains" = some m.cls := findClass_of_methodNamed Bd.named
  have hnm := (name_of_methodNamed Bd.named Bd.method).1
  have X0 : Stand p l e (rm 3 7 1098 42) s m #[(.ref ad1), (.ref ad2)] below meth c s₁ [] 0 0 := Stand.of_body Bd
  have e0 : s₁.heap = h0 := by rw [← hh, Bd.state]; rfl
  have N0 := Fr.nil n0
  have kp0 := Keep.refl h0 [ad1]
  show Go p e below (Fin1 s below (Q_am14_1 Z u_1 aw0 u_0 kaw0 ad1 ad2 ad3 ad4 ad5 iv2 kc1 ad6 ad7 iv3 h0 n0) (rm 3 7 1098 42).cells (rm 3 7 1098 42).slots) _
  refine Go.step (fun t_ k_ => castTop (ef_am14_1 m ad1 ad2) k_) ?_
  obtain ⟨Eu_1, Su_1, Eaw0, Saw0, Au_1, Aaw0⟩ := id HW
  show Go p e below _ (s₁.setTop (mkF m 0 #[.val (.ref ad1), .val (.ref ad2), .unset, .unset] []))
  obtain ⟨fe, hd_fe⟩ : ∃ z : Nat → Value, z = fun i => ([(.ref ad4), (.ref ad6), .null, .null, .null, .null, .null, .null, .null, .null] : List Value).getD i .null := ⟨_, rfl⟩
  have g1_ : Arw Z h0 ad3 kc1 (.object "java/lang/Object") (10 : Int32) fe := Arw.of_list HV_ad3 (by rw [hd_fe]; intro i hi; rfl)
  have hv_fe0 : (fe ((0 : Int32)).toNatClampNeg) = (.ref ad4) := by rw [hd_fe]; rfl
  have hv_fe1 : (fe ((1 : Int32)).toNatClampNeg) = (.ref ad6) := by rw [hd_fe]; rfl
  refine gs.aloadN X0.here hx (hb hby d14_0) rfl rfl ?_
  obtain ⟨T2, X2, e2, st2⟩ := initO X0 hx hZ hown (wd hw 108 rfl) (wd hw 20 rfl) (wd hw 21 rfl) e0 (g := (mkF m 1 #[.val (.ref ad1), .val (.ref ad2), .unset, .unset] [(.ref ad1)])) rfl (by rw [hml]; rfl) rfl (hb hby d14_1) (by decide) (W := 0) (by show 2 * 0 + _ ≤ _; exact Nat.le_of_eq rfl) (by decide)
  refine Go.step st2 ?_
  show Go p e below _ (T2.setTop (mkF m 4 #[.val (.ref ad1), .val (.ref ad2), .unset, .unset] []))
  refine gs.aloadN X2.here hx (hb hby d14_4) rfl rfl ?_
  refine gs.sipush 1024 X2.here hx (hb hby d14_5) rfl ?_
  obtain ⟨T3, h3, k3, X3, e3, E3, A3, B3, st3⟩ := newPE X2 hx hZ (wd hw 109 rfl) e2 (g := (mkF m 8 #[.val (.ref ad1), .val (.ref ad2), .unset, .unset] [(.int (1024 : Int32)), (.ref ad1)])) rfl (hb hby d14_8) rfl (by decide) (cap := 1024) (by decide) (by decide) (by decide) (by decide) (ad := "[J") (by decide)
  obtain ⟨b3, g3⟩ : ∃ z, z = h0.size := ⟨_, rfl⟩
  rw [← g3] at A3 B3 st3
  have nn_b3 : n0 ≤ b3 := Nat.le_trans (old_z0 Ol) (Nat.le_of_eq g3.symm)
  have sz_b3 : h0.size ≤ b3 := Nat.le_trans kp0.1 (Nat.le_of_eq g3.symm)
  have old3 := Ol.ext E3
  have kp3 := kp0.ext E3
  have V3 : Arv Z h3 b3 k3 .long (1024 : Int32) [] (.long (0 : Int64)) := (Arv.new A3 (by decide)).pad (pad_rep [] (.long (0 : Int64)) 0)
  refine Go.fin st3 ?_
  show Go p e below _ (T3.setTop (mkF m 10 _ [(.ref b3), (.ref ad1)]))
  have f4 := (HF_ad1_Domains_trail.ext E3)
  have f5 := (HE_ad1.ext E3)
  obtain ⟨T6, h6, X6, e6, W6, st6⟩ := putF X3 hx hZ hown (host := "") (Or.inl (wd hw 110 rfl)) Via.refl e3 f4 f5 (Or.inl (wd hw 111 rfl)) (wd hw 103 rfl) (ty := (.array .long)) (by decide) rfl rfl (g := (mkF m 10 #[.val (.ref ad1), .val (.ref ad2), .unset, .unset] [(.ref b3), (.ref ad1)])) rfl rfl (hb hby d14_10)
  have N6 := Fr.snoc X6 N0 nn_ad1
  have old6 := old3.wr W6 nn_ad1
  have kp6 := kp3.wr W6 (Or.inl (List.mem_of_getElem? (i := 0) rfl))
  have F6 := f4.same W6
  refine Go.fin st6 ?_
  show Go p e below _ (T6.setTop (mkF m 13 _ []))
  refine gs.aloadN X6.here hx (hb hby d14_13) rfl rfl ?_
  refine gs.bipush 64 X6.here hx (hb hby d14_14) rfl ?_
  obtain ⟨T7, h7, k7, X7, e7, E7, A7, st7⟩ := newP X6 hx hZ (wd hw 112 rfl) e6 (g := (mkF m 16 #[.val (.ref ad1), .val (.ref ad2), .unset, .unset] [(.int (64 : Int32)), (.ref ad1)])) rfl (hb hby d14_16) rfl (by decide) (cap := 64) (by decide) (by decide) (by decide) (by decide)
  obtain ⟨b7, g7⟩ : ∃ z, z = h6.size := ⟨_, rfl⟩
  rw [← g7] at A7 st7
  have nn_b7 : n0 ≤ b7 := Nat.le_trans (old_z0 old6) (Nat.le_of_eq g7.symm)
  have sz_b7 : h0.size ≤ b7 := Nat.le_trans kp6.1 (Nat.le_of_eq g7.symm)
  have old7 := old6.ext E7
  have kp7 := kp6.ext E7
  have V7 : Arv Z h7 b7 k7 .int (64 : Int32) [] (.int (0 : Int32)) := (Arv.new A7 (by decide)).pad (pad_rep [] (.int (0 : Int32)) 0)
  refine Go.fin st7 ?_
  show Go p e below _ (T7.setTop (mkF m 18 _ [(.ref b7), (.ref ad1)]))
  have f8 := (((HF_ad1_Domains_marks.ext E3).other W6 (Or.inr (sn15 hw))).ext E7)
  have f9 := ((f5.wr W6).ext E7)
  obtain ⟨T10, h10, X10, e10, W10, st10⟩ := putF X7 hx hZ hown (host := "") (Or.inl (wd hw 113 rfl)) Via.refl e7 f8 f9 (Or.inl (wd hw 114 rfl)) (wd hw 103 rfl) (ty := (.array .int)) (by decide) rfl rfl (g := (mkF m 18 #[.val (.ref ad1), .val (.ref ad2), .unset, .unset] [(.ref b7), (.ref ad1)])) rfl rfl (hb hby d14_18)
  have N10 := Fr.snoc X10 N6 nn_ad1
  have old10 := old7.wr W10 nn_ad1
  have kp10 := kp7.wr W10 (Or.inl (List.mem_of_getElem? (i := 0) rfl))
  have F10 := f8.same W10
  refine Go.fin st10 ?_
  show Go p e below _ (T10.setTop (mkF m 21 _ []))
  refine gs.aloadN X10.here hx (hb hby d14_21) rfl rfl ?_
  have f11 := ((((HE_ad2.ext E3).wr W6).ext E7).wr W10)
  have f12 := ((((HF_ad2_ArrayList_size.ext E3).other W6 (Or.inl (Ne.symm ne_ad1_ad2))).ext E7).other W10 (Or.inl (Ne.symm ne_ad1_ad2)))
  refine gs.face 0 X10 hx hZ hown (am15_1 l Z a0 hw [] u_1 aw0 u_0 kaw0 HW (ad2) h10 n0 old10 f12) (wd hw 123 rfl) (wd hw 3 rfl) (wd hw 115 rfl) (wd hw 116 rfl) (mvT hZ (wd hw 117 rfl)) (wd hw 118 rfl) (wd hw 119 rfl) (wd hw 120 rfl) (wd hw 121 rfl) (wd hw 122 rfl) (by decide) f11 (by decide) (by decide) (by rw [hml]; rfl) [] (lenOf pd_9 rfl) rfl (Nat.le_of_eq rfl) (hb hby d14_22) rfl e10 (by decide) (by decide) fun T13 Lc13 v13 X13 hQ13 => ?_
  obtain ⟨rfl, Nq13, e13⟩ := hQ13
  have N13 := Fr.app N10 Nq13
  show Go p e below _ (T13.setTop (mkF m 27 _ [(.int (2 : Int32))]))
  refine gs.istoreN X13.here hx (hb hby d14_27) (l' := #[.val (.ref ad1), .val (.ref ad2), .val (.int (2 : Int32)), .unset]) rfl ?_
  refine gs.aloadN X13.here hx (hb hby d14_28) rfl rfl ?_
  refine gs.iloadN X13.here hx (hb hby d14_29) rfl ?_
  obtain ⟨T14, h14, k14, X14, e14, E14, A14, O14, st14⟩ := newR X13 hx hZ hown (wd hw 124 rfl) (wd hw 125 rfl) e13 (g := (mkF m 30 #[.val (.ref ad1), .val (.ref ad2), .val (.int (2 : Int32)), .unset] [(.int (2 : Int32)), (.ref ad1)])) rfl (hb hby d14_30) rfl (by decide) (cap := 2) (by decide) (by decide) (by decide) (by decide)
  obtain ⟨b14, g14⟩ : ∃ z, z = h10.size := ⟨_, rfl⟩
  rw [← g14] at A14 st14
  have nn_b14 : n0 ≤ b14 := Nat.le_trans (old_z0 old10) (Nat.le_of_eq g14.symm)
  have sz_b14 : h0.size ≤ b14 := Nat.le_trans kp10.1 (Nat.le_of_eq g14.symm)
  have old14 := old10.ext E14
  have kp14 := kp10.ext E14
  have V14 : Arv Z h14 b14 k14 (.object "com/example/monarc/monarc/InitialDomain") (2 : Int32) [.null, .null] .null := (Arv.new A14 (by decide)).pad (pad_rep [] .null 2)
  refine Go.fin st14 ?_
  show Go p e below _ (T14.setTop (mkF m 33 _ [(.ref b14), (.ref ad1)]))
  have f15 := (((((HF_ad1_Domains_initial.ext E3).other W6 (Or.inr (sn16 hw))).ext E7).other W10 (Or.inr (sn17 hw))).ext E14)
  have f16 := ((f9.wr W10).ext E14)
  obtain ⟨T17, h17, X17, e17, W17, st17⟩ := putF X14 hx hZ hown (host := "") (Or.inl (wd hw 126 rfl)) Via.refl e14 f15 f16 (Or.inr ⟨(wd hw 127 rfl), rfl, hnm⟩) (wd hw 103 rfl) (ty := (.array (.object "com/example/monarc/monarc/InitialDomain"))) (by decide) rfl rfl (g := (mkF m 33 #[.val (.ref ad1), .val (.ref ad2), .val (.int (2 : Int32)), .unset] [(.ref b14), (.ref ad1)])) rfl rfl (hb hby d14_33)
  have N17 := Fr.snoc X17 N13 nn_ad1
  have old17 := old14.wr W17 nn_ad1
  have kp17 := kp14.wr W17 (Or.inl (List.mem_of_getElem? (i := 0) rfl))
  have F17 := f15.same W17
  refine Go.fin st17 ?_
  show Go p e below _ (T17.setTop (mkF m 36 _ []))
  refine gs.aloadN X17.here hx (hb hby d14_36) rfl rfl ?_
  refine gs.iloadN X17.here hx (hb hby d14_37) rfl ?_
  obtain ⟨T18, h18, k18, X18, e18, E18, A18, st18⟩ := newP X17 hx hZ (wd hw 112 rfl) e17 (g := (mkF m 38 #[.val (.ref ad1), .val (.ref ad2), .val (.int (2 : Int32)), .unset] [(.int (2 : Int32)), (.ref ad1)])) rfl (hb hby d14_38) rfl (by decide) (cap := 2) (by decide) (by decide) (by decide) (by decide)
  obtain ⟨b18, g18⟩ : ∃ z, z = h17.size := ⟨_, rfl⟩
  rw [← g18] at A18 st18
  have nn_b18 : n0 ≤ b18 := Nat.le_trans (old_z0 old17) (Nat.le_of_eq g18.symm)
  have sz_b18 : h0.size ≤ b18 := Nat.le_trans kp17.1 (Nat.le_of_eq g18.symm)
  have old18 := old17.ext E18
  have kp18 := kp17.ext E18
  have V18 : Arv Z h18 b18 k18 .int (2 : Int32) [(.int (0 : Int32)), (.int (0 : Int32))] (.int (0 : Int32)) := (Arv.new A18 (by decide)).pad (pad_rep [] (.int (0 : Int32)) 2)
  refine Go.fin st18 ?_
  show Go p e below _ (T18.setTop (mkF m 40 _ [(.ref b18), (.ref ad1)]))
  have f19 := (((((((HF_ad1_Domains_lower.ext E3).other W6 (Or.inr (sn18 hw))).ext E7).other W10 (Or.inr (sn19 hw))).ext E14).other W17 (Or.inr (sn20 hw))).ext E18)
  have f20 := ((f16.wr W17).ext E18)
  obtain ⟨T21, h21, X21, e21, W21, st21⟩ := putF X18 hx hZ hown (host := "") (Or.inl (wd hw 128 rfl)) Via.refl e18 f19 f20 (Or.inr ⟨(wd hw 129 rfl), rfl, hnm⟩) (wd hw 103 rfl) (ty := (.array .int)) (by decide) rfl rfl (g := (mkF m 40 #[.val (.ref ad1), .val (.ref ad2), .val (.int (2 : Int32)), .unset] [(.ref b18), (.ref ad1)])) rfl rfl (hb hby d14_40)
  have N21 := Fr.snoc X21 N17 nn_ad1
  have old21 := old18.wr W21 nn_ad1
  have kp21 := kp18.wr W21 (Or.inl (List.mem_of_getElem? (i := 0) rfl))
  have F21 := f19.same W21
  refine Go.fin st21 ?_
  show Go p e below _ (T21.setTop (mkF m 43 _ []))
  refine gs.aloadN X21.here hx (hb hby d14_43) rfl rfl ?_
  refine gs.iloadN X21.here hx (hb hby d14_44) rfl ?_
  obtain ⟨T22, h22, k22, X22, e22, E22, A22, st22⟩ := newP X21 hx hZ (wd hw 112 rfl) e21 (g := (mkF m 45 #[.val (.ref ad1), .val (.ref ad2), .val (.int (2 : Int32)), .unset] [(.int (2 : Int32)), (.ref ad1)])) rfl (hb hby d14_45) rfl (by decide) (cap := 2) (by decide) (by decide) (by decide) (by decide)
  obtain ⟨b22, g22⟩ : ∃ z, z = h21.size := ⟨_, rfl⟩
  rw [← g22] at A22 st22
  have nn_b22 : n0 ≤ b22 := Nat.le_trans (old_z0 old21) (Nat.le_of_eq g22.symm)
  have sz_b22 : h0.size ≤ b22 := Nat.le_trans kp21.1 (Nat.le_of_eq g22.symm)
  have old22 := old21.ext E22
  have kp22 := kp21.ext E22
  have V22 : Arv Z h22 b22 k22 .int (2 : Int32) [(.int (0 : Int32)), (.int (0 : Int32))] (.int (0 : Int32)) := (Arv.new A22 (by decide)).pad (pad_rep [] (.int (0 : Int32)) 2)
  refine Go.fin st22 ?_
  show Go p e below _ (T22.setTop (mkF m 47 _ [(.ref b22), (.ref ad1)]))
  have f23 := (((((((((HF_ad1_Domains_upper.ext E3).other W6 (Or.inr (sn21 hw))).ext E7).other W10 (Or.inr (sn22 hw))).ext E14).other W17 (Or.inr (sn23 hw))).ext E18).other W21 (Or.inr (sn24 hw))).ext E22)
  have f24 := ((f20.wr W21).ext E22)
  obtain ⟨T25, h25, X25, e25, W25, st25⟩ := putF X22 hx hZ hown (host := "") (Or.inl (wd hw 130 rfl)) Via.refl e22 f23 f24 (Or.inr ⟨(wd hw 131 rfl), rfl, hnm⟩) (wd hw 103 rfl) (ty := (.array .int)) (by decide) rfl rfl (g := (mkF m 47 #[.val (.ref ad1), .val (.ref ad2), .val (.int (2 : Int32)), .unset] [(.ref b22), (.ref ad1)])) rfl rfl (hb hby d14_47)
  have N25 := Fr.snoc X25 N21 nn_ad1
  have old25 := old22.wr W25 nn_ad1
  have kp25 := kp22.wr W25 (Or.inl (List.mem_of_getElem? (i := 0) rfl))
  have F25 := f23.same W25
  refine Go.fin st25 ?_
  show Go p e below _ (T25.setTop (mkF m 50 _ []))
  refine gs.aloadN X25.here hx (hb hby d14_50) rfl rfl ?_
  refine gs.iloadN X25.here hx (hb hby d14_51) rfl ?_
  obtain ⟨T26, h26, k26, X26, e26, E26, A26, B26, O26, st26⟩ := newRA X25 hx hZ (ty := .long) hown (by decide) (wd hw 132 rfl) (wd hw 133 rfl) e25 (g := (mkF m 52 #[.val (.ref ad1), .val (.ref ad2), .val (.int (2 : Int32)), .unset] [(.int (2 : Int32)), (.ref ad1)])) rfl (hb hby d14_52) rfl (by decide) (cap := 2) (by decide) (by decide) (by decide) (by decide) (ad := "[[J") (by decide)
  obtain ⟨b26, g26⟩ : ∃ z, z = h25.size := ⟨_, rfl⟩
  rw [← g26] at A26 B26 st26
  have nn_b26 : n0 ≤ b26 := Nat.le_trans (old_z0 old25) (Nat.le_of_eq g26.symm)
  have sz_b26 : h0.size ≤ b26 := Nat.le_trans kp25.1 (Nat.le_of_eq g26.symm)
  have old26 := old25.ext E26
  have kp26 := kp25.ext E26
  have V26 : Arv Z h26 b26 k26 (.array .long) (2 : Int32) [.null, .null] .null := (Arv.new A26 (by decide)).pad (pad_rep [] .null 2)
  refine Go.fin st26 ?_
  show Go p e below _ (T26.setTop (mkF m 55 _ [(.ref b26), (.ref ad1)]))
  have f27 := (((((((((((HF_ad1_Domains_holes.ext E3).other W6 (Or.inr (sn25 hw))).ext E7).other W10 (Or.inr (sn26 hw))).ext E14).other W17 (Or.inr (sn27 hw))).ext E18).other W21 (Or.inr (sn28 hw))).ext E22).other W25 (Or.inr (sn29 hw))).ext E26)
  have f28 := ((f24.wr W25).ext E26)
  obtain ⟨T29, h29, X29, e29, W29, st29⟩ := putF X26 hx hZ hown (host := "") (Or.inl (wd hw 134 rfl)) Via.refl e26 f27 f28 (Or.inr ⟨(wd hw 135 rfl), rfl, hnm⟩) (wd hw 103 rfl) (ty := (.array (.array .long))) (by decide) rfl rfl (g := (mkF m 55 #[.val (.ref ad1), .val (.ref ad2), .val (.int (2 : Int32)), .unset] [(.ref b26), (.ref ad1)])) rfl rfl (hb hby d14_55)
  have N29 := Fr.snoc X29 N25 nn_ad1
  have old29 := old26.wr W29 nn_ad1
  have kp29 := kp26.wr W29 (Or.inl (List.mem_of_getElem? (i := 0) rfl))
  have F29 := f27.same W29
  refine Go.fin st29 ?_
  show Go p e below _ (T29.setTop (mkF m 58 _ []))
  refine gs.aloadN X29.here hx (hb hby d14_58) rfl rfl ?_
  refine gs.iloadN X29.here hx (hb hby d14_59) rfl ?_
  obtain ⟨T30, h30, k30, X30, e30, E30, A30, st30⟩ := newP X29 hx hZ (wd hw 112 rfl) e29 (g := (mkF m 60 #[.val (.ref ad1), .val (.ref ad2), .val (.int (2 : Int32)), .unset] [(.int (2 : Int32)), (.ref ad1)])) rfl (hb hby d14_60) rfl (by decide) (cap := 2) (by decide) (by decide) (by decide) (by decide)
  obtain ⟨b30, g30⟩ : ∃ z, z = h29.size := ⟨_, rfl⟩
  rw [← g30] at A30 st30
  have nn_b30 : n0 ≤ b30 := Nat.le_trans (old_z0 old29) (Nat.le_of_eq g30.symm)
  have sz_b30 : h0.size ≤ b30 := Nat.le_trans kp29.1 (Nat.le_of_eq g30.symm)
  have old30 := old29.ext E30
  have kp30 := kp29.ext E30
  have V30 : Arv Z h30 b30 k30 .int (2 : Int32) [(.int (0 : Int32)), (.int (0 : Int32))] (.int (0 : Int32)) := (Arv.new A30 (by decide)).pad (pad_rep [] (.int (0 : Int32)) 2)
  refine Go.fin st30 ?_
  show Go p e below _ (T30.setTop (mkF m 62 _ [(.ref b30), (.ref ad1)]))
  have f31 := (((((((((((((HF_ad1_Domains_sizes.ext E3).other W6 (Or.inr (sn30 hw))).ext E7).other W10 (Or.inr (sn31 hw))).ext E14).other W17 (Or.inr (sn32 hw))).ext E18).other W21 (Or.inr (sn33 hw))).ext E22).other W25 (Or.inr (sn34 hw))).ext E26).other W29 (Or.inr (sn35 hw))).ext E30)
  have f32 := ((f28.wr W29).ext E30)
  obtain ⟨T33, h33, X33, e33, W33, st33⟩ := putF X30 hx hZ hown (host := "") (Or.inl (wd hw 136 rfl)) Via.refl e30 f31 f32 (Or.inr ⟨(wd hw 137 rfl), rfl, hnm⟩) (wd hw 103 rfl) (ty := (.array .int)) (by decide) rfl rfl (g := (mkF m 62 #[.val (.ref ad1), .val (.ref ad2), .val (.int (2 : Int32)), .unset] [(.ref b30), (.ref ad1)])) rfl rfl (hb hby d14_62)
  have N33 := Fr.snoc X33 N29 nn_ad1
  have old33 := old30.wr W33 nn_ad1
  have kp33 := kp30.wr W33 (Or.inl (List.mem_of_getElem? (i := 0) rfl))
  have F33 := f31.same W33
  refine Go.fin st33 ?_
  show Go p e below _ (T33.setTop (mkF m 65 _ []))
  refine gs.iconst 0 X33.here hx (hb hby d14_65) rfl ?_
  refine gs.istoreN X33.here hx (hb hby d14_66) (l' := #[.val (.ref ad1), .val (.ref ad2), .val (.int (2 : Int32)), .val (.int (0 : Int32))]) rfl ?_
  refine gs.iloadN X33.here hx (hb hby d14_67) rfl ?_
  refine gs.iloadN X33.here hx (hb hby d14_68) rfl ?_
  have hc69 : (0 : Int32) < (2 : Int32) := by decide
  refine gs.icmpNo X33.here hx (hb hby d14_69) (tlt hc69).2.1 ?_
  refine gs.aloadN X33.here hx (hb hby d14_72) rfl rfl ?_
  have f34 := ((((((((F17.ext E18).other W21 (Or.inr (sn36 hw))).ext E22).other W25 (Or.inr (sn37 hw))).ext E26).other W29 (Or.inr (sn38 hw))).ext E30).other W33 (Or.inr (sn39 hw)))
  refine gs.getF X33 hx hZ hown (wd hw 126 rfl) Via.refl e33 f34 (hb hby d14_73) fun T35 X35 e35 => ?_
  refine gs.iloadN X35.here hx (hb hby d14_76) rfl ?_
  refine gs.aloadN X35.here hx (hb hby d14_77) rfl rfl ?_
  refine gs.iloadN X35.here hx (hb hby d14_78) rfl ?_
  show Go p e below _ (T35.setTop (mkF m 79 _ _))
  have f36 := ((((((((((f11.ext E14).wr W17).ext E18).wr W21).ext E22).wr W25).ext E26).wr W29).ext E30).wr W33)
  have f37 := ((((((((((((((HF_ad2_ArrayList_elementData.ext E3).other W6 (Or.inl (Ne.symm ne_ad1_ad2))).ext E7).other W10 (Or.inl (Ne.symm ne_ad1_ad2))).ext E14).other W17 (Or.inl (Ne.symm ne_ad1_ad2))).ext E18).other W21 (Or.inl (Ne.symm ne_ad1_ad2))).ext E22).other W25 (Or.inl (Ne.symm ne_ad1_ad2))).ext E26).other W29 (Or.inl (Ne.symm ne_ad1_ad2))).ext E30).other W33 (Or.inl (Ne.symm ne_ad1_ad2)))
  have f38 := ((((((((((f12.ext E14).other W17 (Or.inl (Ne.symm ne_ad1_ad2))).ext E18).other W21 (Or.inl (Ne.symm ne_ad1_ad2))).ext E22).other W25 (Or.inl (Ne.symm ne_ad1_ad2))).ext E26).other W29 (Or.inl (Ne.symm ne_ad1_ad2))).ext E30).other W33 (Or.inl (Ne.symm ne_ad1_ad2)))
  have f39 := ((((((((((((((g1_.ext E3).other W6 (Ne.symm ne_ad1_ad3)).ext E7).other W10 (Ne.symm ne_ad1_ad3)).ext E14).other W17 (Ne.symm ne_ad1_ad3)).ext E18).other W21 (Ne.symm ne_ad1_ad3)).ext E22).other W25 (Ne.symm ne_ad1_ad3)).ext E26).other W29 (Ne.symm ne_ad1_ad3)).ext E30).other W33 (Ne.symm ne_ad1_ad3))
  refine gs.face 2 X35 hx hZ hown (am16_1 l Z a0 hw [] u_1 aw0 u_0 kaw0 HW (ad2) ((0 : Int32)) (ad3) ((2 : Int32)) (ad4) (kc1) (fe) h33 n0 old33 f36 f37 f38 f39 (by decide) (by decide) (by decide) hv_fe0) (wd hw 145 rfl) (wd hw 3 rfl) (wd hw 138 rfl) (wd hw 139 rfl) (mvT hZ (wd hw 140 rfl)) (wd hw 141 rfl) (wd hw 142 rfl) (wd hw 143 rfl) (wd hw 144 rfl) (wd hw 122 rfl) (by decide) f36 (by decide) (by decide) (by rw [hml]; rfl) [(.int (0 : Int32))] (lenOf pd_11 rfl) rfl (Nat.le_of_eq rfl) (hb hby d14_79) rfl e35 (by decide) (by decide) fun T40 Lc40 v40 X40 hQ40 => ?_
  obtain ⟨rfl, Nq40, e40⟩ := hQ40
  have N40 := Fr.app N33 Nq40
  show Go p e below _ (T40.setTop (mkF m 84 _ [(.ref ad4), (.int (0 : Int32)), (.ref b14)]))
  have f41 := ((((((((((((((HE_ad4.ext E3).wr W6).ext E7).wr W10).ext E14).wr W17).ext E18).wr W21).ext E22).wr W25).ext E26).wr W29).ext E30).wr W33)
  obtain ⟨T42, X42, e42, st42⟩ := castY X40 hx hZ hown (wd hw 159 rfl) e40 (Ins.self f41) (g := (mkF m 84 #[.val (.ref ad1), .val (.ref ad2), .val (.int (2 : Int32)), .val (.int (0 : Int32))] [(.ref ad4), (.int (0 : Int32)), (.ref b14)])) rfl rfl (hb hby d14_84)
  refine Go.step st42 ?_
  show Go p e below _ (T42.setTop (mkF m 87 _ [(.ref ad4), (.int (0 : Int32)), (.ref b14)]))
  have f43 := ((((((((((((((HF_ad4_Variable_domain.ext E3).other W6 (Or.inl (Ne.symm ne_ad1_ad4))).ext E7).other W10 (Or.inl (Ne.symm ne_ad1_ad4))).ext E14).other W17 (Or.inl (Ne.symm ne_ad1_ad4))).ext E18).other W21 (Or.inl (Ne.symm ne_ad1_ad4))).ext E22).other W25 (Or.inl (Ne.symm ne_ad1_ad4))).ext E26).other W29 (Or.inl (Ne.symm ne_ad1_ad4))).ext E30).other W33 (Or.inl (Ne.symm ne_ad1_ad4)))
  refine gs.virt 2 X42 hx hZ hown (am20_1 l Z a0 hw [] u_1 aw0 u_0 kaw0 HW (ad4) (ad5) h33 n0 old33 f43) (wd hw 165 rfl) (wd hw 29 rfl) (wd hw 161 rfl) (wd hw 162 rfl) (notFace_of_selects (args := #[]) (mvT hZ (wd hw 164 rfl))) (wd hw 164 rfl) (wd hw 163 rfl) (by decide) f41 (by decide) (by decide) (by rw [hml]; rfl) [] (lenOf pd_12 rfl) rfl (Nat.le_of_eq rfl) (hb hby d14_87) rfl e42 (by decide) (by decide) fun T44 Lc44 v44 X44 hQ44 => ?_
  obtain ⟨rfl, Nq44, e44⟩ := hQ44
  have N44 := Fr.app N40 Nq44
  show Go p e below _ (T44.setTop (mkF m 90 _ [(.ref ad5), (.int (0 : Int32)), (.ref b14)]))
  have ne_ad1_b14 : ad1 ≠ b14 := Nat.ne_of_lt (Nat.lt_of_lt_of_le (f9.wr W10).lt (Nat.le_of_eq g14.symm))
  have f45 := (((((((((V14.other W17 (Ne.symm ne_ad1_b14)).ext E18).other W21 (Ne.symm ne_ad1_b14)).ext E22).other W25 (Ne.symm ne_ad1_b14)).ext E26).other W29 (Ne.symm ne_ad1_b14)).ext E30).other W33 (Ne.symm ne_ad1_b14))
  obtain ⟨cl46, Ar46, q46, Sz46, Ng46, Hs46, G46⟩ := id f45
  have hin46 : ¬ ((0 : Int32) < 0 ∨ cl46.slots.size ≤ ((0 : Int32)).toNatClampNeg) := inb_of Sz46 ⟨by decide, by decide⟩
  have f47 := ((((((((((((((HE_ad5.ext E3).wr W6).ext E7).wr W10).ext E14).wr W17).ext E18).wr W21).ext E22).wr W25).ext E26).wr W29).ext E30).wr W33)
  obtain ⟨T48, h48, X48, e48, W48, st48⟩ := stR X44 hx hZ e44 Ar46 (j := (0 : Int32)) hin46 rfl (Sto.ofV Ar46 q46 O14 (Ins.self f47)) (g := (mkF m 90 #[.val (.ref ad1), .val (.ref ad2), .val (.int (2 : Int32)), .val (.int (0 : Int32))] [(.ref ad5), (.int (0 : Int32)), (.ref b14)])) rfl rfl (hb hby d14_90)
  have N48 := Fr.snoc X48 N44 nn_b14
  have old48 := old33.wr W48 nn_b14
  have kp48 := kp33.wr W48 (Or.inr sz_b14)
  have V48 : Arv Z h48 b14 k14 (.object "com/example/monarc/monarc/InitialDomain") (2 : Int32) [(.ref ad5), .null] .null := Arv.set Ar46 q46 Sz46 Ng46 Hs46 G46 rfl W48 0 rfl (Nat.le_of_ble_eq_true rfl)
  refine Go.fin st48 ?_
  show Go p e below _ (T48.setTop (mkF m 91 _ []))
  refine gs.aloadN X48.here hx (hb hby d14_91) rfl rfl ?_
  have f49 := (F33.other W48 (Or.inl ne_ad1_b14))
  refine gs.getF X48 hx hZ hown (wd hw 136 rfl) Via.refl e48 f49 (hb hby d14_92) fun T50 X50 e50 => ?_
  refine gs.iloadN X50.here hx (hb hby d14_95) rfl ?_
  refine gs.aloadN X50.here hx (hb hby d14_96) rfl rfl ?_
  have f51 := (f34.other W48 (Or.inl ne_ad1_b14))
  refine gs.getF X50 hx hZ hown (wd hw 126 rfl) Via.refl e50 f51 (hb hby d14_97) fun T52 X52 e52 => ?_
  refine gs.iloadN X52.here hx (hb hby d14_100) rfl ?_
  obtain ⟨cl53, Ar53, q53, Sz53, Ng53, Hs53, G53⟩ := id V48
  have hin53 : ¬ ((0 : Int32) < 0 ∨ cl53.slots.size ≤ ((0 : Int32)).toNatClampNeg) := inb_of Sz53 ⟨by decide, by decide⟩
  have hat53 : cl53.slots[((0 : Int32)).toNatClampNeg]? = some (.ref ad5) := Has.at Hs53 hin53 rfl
  refine Go.fin (fun t_ k_ => X52.aaload hx (j := (0 : Int32)) (v := (.ref ad5)) (by rw [e52]; exact Ar53.1) (State.isArrayOf_alike hZ.alike Ar53.2.1) rfl Ar53.2.2 hin53 hat53 (g := mkF m 101 _ _) rfl rfl (hb hby d14_101) _ k_) ?_
  show Go p e below _ (T52.setTop (mkF m 102 _ [(.ref ad5), (.int (0 : Int32)), (.ref b30)]))
  have f54 := (f47.wr W48)
  have ne_ad5_b14 : ad5 ≠ b14 := Nat.ne_of_lt (Nat.lt_of_lt_of_le ((((HE_ad5.ext E3).wr W6).ext E7).wr W10).lt (Nat.le_of_eq g14.symm))
  have f55 := (((((((((((((((HF_ad5_InitialDomain_size.ext E3).other W6 (Or.inl (Ne.symm ne_ad1_ad5))).ext E7).other W10 (Or.inl (Ne.symm ne_ad1_ad5))).ext E14).other W17 (Or.inl (Ne.symm ne_ad1_ad5))).ext E18).other W21 (Or.inl (Ne.symm ne_ad1_ad5))).ext E22).other W25 (Or.inl (Ne.symm ne_ad1_ad5))).ext E26).other W29 (Or.inl (Ne.symm ne_ad1_ad5))).ext E30).other W33 (Or.inl (Ne.symm ne_ad1_ad5))).other W48 (Or.inl ne_ad5_b14))
  refine gs.virt 2 X52 hx hZ hown (am21_1 l Z a0 hw [] u_1 aw0 u_0 kaw0 HW (ad5) (iv2) h48 n0 old48 f55) (wd hw 171 rfl) (wd hw 40 rfl) (wd hw 167 rfl) (wd hw 168 rfl) (notFace_of_selects (args := #[]) (mvT hZ (wd hw 170 rfl))) (wd hw 170 rfl) (wd hw 169 rfl) (by decide) f54 (by decide) (by decide) (by rw [hml]; rfl) [] (lenOf pd_9 rfl) rfl (Nat.le_of_eq rfl) (hb hby d14_102) rfl e52 (by decide) (by decide) fun T56 Lc56 v56 X56 hQ56 => ?_
  obtain ⟨rfl, Nq56, e56⟩ := hQ56
  have N56 := Fr.app N48 Nq56
  show Go p e below _ (T56.setTop (mkF m 105 _ [(.int iv2), (.int (0 : Int32)), (.ref b30)]))
  have ne_ad1_b30 : ad1 ≠ b30 := Nat.ne_of_lt (Nat.lt_of_lt_of_le (f28.wr W29).lt (Nat.le_of_eq g30.symm))
  have ne_b14_b30 : b14 ≠ b30 := Nat.ne_of_lt (Nat.lt_of_lt_of_le (((((((V14.other W17 (Ne.symm ne_ad1_b14)).ext E18).other W21 (Ne.symm ne_ad1_b14)).ext E22).other W25 (Ne.symm ne_ad1_b14)).ext E26).other W29 (Ne.symm ne_ad1_b14)).lt (Nat.le_of_eq g30.symm))
  have f57 := ((V30.other W33 (Ne.symm ne_ad1_b30)).other W48 (Ne.symm ne_b14_b30))
  obtain ⟨cl58, Ar58, q58, Sz58, Ng58, Hs58, G58⟩ := id f57
  have hin58 : ¬ ((0 : Int32) < 0 ∨ cl58.slots.size ≤ ((0 : Int32)).toNatClampNeg) := inb_of Sz58 ⟨by decide, by decide⟩
  obtain ⟨T59, h59, X59, e59, W59, st59⟩ := stI X56 hx hZ e56 Ar58 (j := (0 : Int32)) hin58 (g := (mkF m 105 #[.val (.ref ad1), .val (.ref ad2), .val (.int (2 : Int32)), .val (.int (0 : Int32))] [(.int iv2), (.int (0 : Int32)), (.ref b30)])) rfl rfl (hb hby d14_105)
  have N59 := Fr.snoc X59 N56 nn_b30
  have old59 := old48.wr W59 nn_b30
  have kp59 := kp48.wr W59 (Or.inr sz_b30)
  have V59 : Arv Z h59 b30 k30 .int (2 : Int32) [(.int iv2), (.int (0 : Int32))] (.int (0 : Int32)) := Arv.set Ar58 q58 Sz58 Ng58 Hs58 G58 rfl W59 0 rfl (Nat.le_of_ble_eq_true rfl)
  refine Go.fin st59 ?_
  show Go p e below _ (T59.setTop (mkF m 106 _ []))
  refine gs.aloadN X59.here hx (hb hby d14_106) rfl rfl ?_
  have f60 := ((((((F25.ext E26).other W29 (Or.inr (sn40 hw))).ext E30).other W33 (Or.inr (sn41 hw))).other W48 (Or.inl ne_ad1_b14)).other W59 (Or.inl ne_ad1_b30))
  refine gs.getF X59 hx hZ hown (wd hw 130 rfl) Via.refl e59 f60 (hb hby d14_107) fun T61 X61 e61 => ?_
  refine gs.iloadN X61.here hx (hb hby d14_110) rfl ?_
  refine gs.aloadN X61.here hx (hb hby d14_111) rfl rfl ?_
  have f62 := (f49.other W59 (Or.inl ne_ad1_b30))
  refine gs.getF X61 hx hZ hown (wd hw 136 rfl) Via.refl e61 f62 (hb hby d14_112) fun T63 X63 e63 => ?_
  refine gs.iloadN X63.here hx (hb hby d14_115) rfl ?_
  obtain ⟨cl64, Ar64, q64, Sz64, Ng64, Hs64, G64⟩ := id V59
  have hin64 : ¬ ((0 : Int32) < 0 ∨ cl64.slots.size ≤ ((0 : Int32)).toNatClampNeg) := inb_of Sz64 ⟨by decide, by decide⟩
  have hat64 : cl64.slots[((0 : Int32)).toNatClampNeg]? = some (.int iv2) := Has.at Hs64 hin64 rfl
  refine Go.fin (fun t_ k_ => X63.iaload hx (j := (0 : Int32)) (v := (.int iv2)) (by rw [e63]; exact Ar64.1) (State.isArrayOf_alike hZ.alike Ar64.2.1) Ar64.2.2 hin64 hat64 (g := mkF m 116 _ _) rfl rfl (hb hby d14_116) _ k_) ?_
  show Go p e below _ (T63.setTop (mkF m 117 _ [(.int iv2), (.int (0 : Int32)), (.ref b22)]))
  refine gs.iconst 1 X63.here hx (hb hby d14_117) rfl ?_
  refine gs.isub X63.here hx (hb hby d14_118) ?_
  have ne_ad1_b22 : ad1 ≠ b22 := Nat.ne_of_lt (Nat.lt_of_lt_of_le (f20.wr W21).lt (Nat.le_of_eq g22.symm))
  have ne_b14_b22 : b14 ≠ b22 := Nat.ne_of_lt (Nat.lt_of_lt_of_le (((V14.other W17 (Ne.symm ne_ad1_b14)).ext E18).other W21 (Ne.symm ne_ad1_b14)).lt (Nat.le_of_eq g22.symm))
  have ne_b22_b30 : b22 ≠ b30 := Nat.ne_of_lt (Nat.lt_of_lt_of_le (((V22.other W25 (Ne.symm ne_ad1_b22)).ext E26).other W29 (Ne.symm ne_ad1_b22)).lt (Nat.le_of_eq g30.symm))
  have f65 := (((((((V22.other W25 (Ne.symm ne_ad1_b22)).ext E26).other W29 (Ne.symm ne_ad1_b22)).ext E30).other W33 (Ne.symm ne_ad1_b22)).other W48 (Ne.symm ne_b14_b22)).other W59 ne_b22_b30)
  obtain ⟨cl66, Ar66, q66, Sz66, Ng66, Hs66, G66⟩ := id f65
  have hin66 : ¬ ((0 : Int32) < 0 ∨ cl66.slots.size ≤ ((0 : Int32)).toNatClampNeg) := inb_of Sz66 ⟨by decide, by decide⟩
  obtain ⟨T67, h67, X67, e67, W67, st67⟩ := stI X63 hx hZ e63 Ar66 (j := (0 : Int32)) hin66 (g := (mkF m 119 #[.val (.ref ad1), .val (.ref ad2), .val (.int (2 : Int32)), .val (.int (0 : Int32))] [(.int (iv2 - (1 : Int32))), (.int (0 : Int32)), (.ref b22)])) rfl rfl (hb hby d14_119)
  have N67 := Fr.snoc X67 N59 nn_b22
  have old67 := old59.wr W67 nn_b22
  have kp67 := kp59.wr W67 (Or.inr sz_b22)
  have V67 : Arv Z h67 b22 k22 .int (2 : Int32) [(.int (iv2 - (1 : Int32))), (.int (0 : Int32))] (.int (0 : Int32)) := Arv.set Ar66 q66 Sz66 Ng66 Hs66 G66 rfl W67 0 rfl (Nat.le_of_ble_eq_true rfl)
  refine Go.fin st67 ?_
  show Go p e below _ (T67.setTop (mkF m 120 _ []))
  refine gs.aloadN X67.here hx (hb hby d14_120) rfl rfl ?_
  refine gs.dup X67.here hx (hb hby d14_121) rfl ?_
  have f68 := (((((((((((((((((HF_ad1_Domains_withOneValue.ext E3).other W6 (Or.inr (sn42 hw))).ext E7).other W10 (Or.inr (sn43 hw))).ext E14).other W17 (Or.inr (sn44 hw))).ext E18).other W21 (Or.inr (sn45 hw))).ext E22).other W25 (Or.inr (sn46 hw))).ext E26).other W29 (Or.inr (sn47 hw))).ext E30).other W33 (Or.inr (sn48 hw))).other W48 (Or.inl ne_ad1_b14)).other W59 (Or.inl ne_ad1_b30)).other W67 (Or.inl ne_ad1_b22))
  refine gs.getF X67 hx hZ hown (wd hw 172 rfl) Via.refl e67 f68 (hb hby d14_122) fun T69 X69 e69 => ?_
  refine gs.aloadN X69.here hx (hb hby d14_125) rfl rfl ?_
  have f70 := (f62.other W67 (Or.inl ne_ad1_b22))
  refine gs.getF X69 hx hZ hown (wd hw 136 rfl) Via.refl e69 f70 (hb hby d14_126) fun T71 X71 e71 => ?_
  refine gs.iloadN X71.here hx (hb hby d14_129) rfl ?_
  have f72 := (V59.other W67 (Ne.symm ne_b22_b30))
  obtain ⟨cl73, Ar73, q73, Sz73, Ng73, Hs73, G73⟩ := id f72
  have hin73 : ¬ ((0 : Int32) < 0 ∨ cl73.slots.size ≤ ((0 : Int32)).toNatClampNeg) := inb_of Sz73 ⟨by decide, by decide⟩
  have hat73 : cl73.slots[((0 : Int32)).toNatClampNeg]? = some (.int iv2) := Has.at Hs73 hin73 rfl
  refine Go.fin (fun t_ k_ => X71.iaload hx (j := (0 : Int32)) (v := (.int iv2)) (by rw [e71]; exact Ar73.1) (State.isArrayOf_alike hZ.alike Ar73.2.1) Ar73.2.2 hin73 hat73 (g := mkF m 130 _ _) rfl rfl (hb hby d14_130) _ k_) ?_
  show Go p e below _ (T71.setTop (mkF m 131 _ [(.int iv2), (.int (0 : Int32)), (.ref ad1)]))
  refine gs.iconst 1 X71.here hx (hb hby d14_131) rfl ?_
  have J74 : ∀ z_74 : Int32, Go p e below (Fin1 s below (Q_am14_1 Z u_1 aw0 u_0 kaw0 ad1 ad2 ad3 ad4 ad5 iv2 kc1 ad6 ad7 iv3 h0 n0) (rm 3 7 1098 42).cells (rm 3 7 1098 42).slots) (T71.setTop (mkF m 140 #[.val (.ref ad1), .val (.ref ad2), .val (.int (2 : Int32)), .val (.int (0 : Int32))] [(.int z_74), (.int (0 : Int32)), (.ref ad1)])) := by
    intro z_74
    refine gs.iadd X71.here hx (hb hby d14_140) ?_
    have f75 := ((((f32.wr W33).wr W48).wr W59).wr W67)
    obtain ⟨T76, h76, X76, e76, W76, st76⟩ := putF X71 hx hZ hown (host := "") (Or.inl (wd hw 172 rfl)) Via.refl e71 f68 f75 (Or.inl (wd hw 173 rfl)) (wd hw 103 rfl) (ty := .int) (by decide) rfl rfl (g := (mkF m 141 #[.val (.ref ad1), .val (.ref ad2), .val (.int (2 : Int32)), .val (.int (0 : Int32))] [(.int ((0 : Int32) + z_74)), (.ref ad1)])) rfl rfl (hb hby d14_141)
    have N76 := Fr.snoc X76 N67 nn_ad1
    have old76 := old67.wr W76 nn_ad1
    have kp76 := kp67.wr W76 (Or.inl (List.mem_of_getElem? (i := 0) rfl))
    have F76 := f68.same W76
    refine Go.fin st76 ?_
    show Go p e below _ (T76.setTop (mkF m 144 _ []))
    refine Go.step (fun t_ k_ => XS.iinc X76.here hx rfl (hb hby d14_144) rfl (l' := #[.val (.ref ad1), .val (.ref ad2), .val (.int (2 : Int32)), .val (.int ((0 : Int32) + (1 : Int32)))]) rfl k_) ?_
    show Go p e below _ (T76.setTop (mkF m 147 #[.val (.ref ad1), .val (.ref ad2), .val (.int (2 : Int32)), .val (.int ((0 : Int32) + (1 : Int32)))] []))
    rw [show ((0 : Int32) + (1 : Int32)) = (1 : Int32) from by decide]
    refine gs.goto 67 X76.here hx (hb hby d14_147) rfl ?_
    refine gs.iloadN X76.here hx (hb hby d14_67) rfl ?_
    refine gs.iloadN X76.here hx (hb hby d14_68) rfl ?_
    have hc69_2 : (1 : Int32) < (2 : Int32) := by decide
    refine gs.icmpNo X76.here hx (hb hby d14_69) (tlt hc69_2).2.1 ?_
    refine gs.aloadN X76.here hx (hb hby d14_72) rfl rfl ?_
    have f77 := (((f51.other W59 (Or.inl ne_ad1_b30)).other W67 (Or.inl ne_ad1_b22)).other W76 (Or.inr (sn49 hw)))
    refine gs.getF X76 hx hZ hown (wd hw 126 rfl) Via.refl e76 f77 (hb hby d14_73) fun T78 X78 e78 => ?_
    refine gs.iloadN X78.here hx (hb hby d14_76) rfl ?_
    refine gs.aloadN X78.here hx (hb hby d14_77) rfl rfl ?_
    refine gs.iloadN X78.here hx (hb hby d14_78) rfl ?_
    have f79 := ((((f36.wr W48).wr W59).wr W67).wr W76)
    have ne_ad2_b14 : ad2 ≠ b14 := Nat.ne_of_lt (Nat.lt_of_lt_of_le f11.lt (Nat.le_of_eq g14.symm))
    have ne_ad2_b30 : ad2 ≠ b30 := Nat.ne_of_lt (Nat.lt_of_lt_of_le ((((((((f11.ext E14).wr W17).ext E18).wr W21).ext E22).wr W25).ext E26).wr W29).lt (Nat.le_of_eq g30.symm))
    have ne_ad2_b22 : ad2 ≠ b22 := Nat.ne_of_lt (Nat.lt_of_lt_of_le ((((f11.ext E14).wr W17).ext E18).wr W21).lt (Nat.le_of_eq g22.symm))
    have f80 := ((((f37.other W48 (Or.inl ne_ad2_b14)).other W59 (Or.inl ne_ad2_b30)).other W67 (Or.inl ne_ad2_b22)).other W76 (Or.inl (Ne.symm ne_ad1_ad2)))
    have f81 := ((((f38.other W48 (Or.inl ne_ad2_b14)).other W59 (Or.inl ne_ad2_b30)).other W67 (Or.inl ne_ad2_b22)).other W76 (Or.inl (Ne.symm ne_ad1_ad2)))
    have ne_ad3_b14 : ad3 ≠ b14 := Nat.ne_of_lt (Nat.lt_of_lt_of_le ((((g1_.ext E3).other W6 (Ne.symm ne_ad1_ad3)).ext E7).other W10 (Ne.symm ne_ad1_ad3)).lt (Nat.le_of_eq g14.symm))
    have ne_ad3_b30 : ad3 ≠ b30 := Nat.ne_of_lt (Nat.lt_of_lt_of_le ((((((((((((g1_.ext E3).other W6 (Ne.symm ne_ad1_ad3)).ext E7).other W10 (Ne.symm ne_ad1_ad3)).ext E14).other W17 (Ne.symm ne_ad1_ad3)).ext E18).other W21 (Ne.symm ne_ad1_ad3)).ext E22).other W25 (Ne.symm ne_ad1_ad3)).ext E26).other W29 (Ne.symm ne_ad1_ad3)).lt (Nat.le_of_eq g30.symm))
    have ne_ad3_b22 : ad3 ≠ b22 := Nat.ne_of_lt (Nat.lt_of_lt_of_le ((((((((g1_.ext E3).other W6 (Ne.symm ne_ad1_ad3)).ext E7).other W10 (Ne.symm ne_ad1_ad3)).ext E14).other W17 (Ne.symm ne_ad1_ad3)).ext E18).other W21 (Ne.symm ne_ad1_ad3)).lt (Nat.le_of_eq g22.symm))
    have f82 := ((((f39.other W48 ne_ad3_b14).other W59 ne_ad3_b30).other W67 ne_ad3_b22).other W76 (Ne.symm ne_ad1_ad3))
    refine gs.face 2 X78 hx hZ hown (am16_1 l Z a0 hw [] u_1 aw0 u_0 kaw0 HW (ad2) ((1 : Int32)) (ad3) ((2 : Int32)) (ad6) (kc1) (fe) h76 n0 old76 f79 f80 f81 f82 (by decide) (by decide) (by decide) hv_fe1) (wd hw 145 rfl) (wd hw 3 rfl) (wd hw 138 rfl) (wd hw 139 rfl) (mvT hZ (wd hw 140 rfl)) (wd hw 141 rfl) (wd hw 142 rfl) (wd hw 143 rfl) (wd hw 144 rfl) (wd hw 122 rfl) (by decide) f79 (by decide) (by decide) (by rw [hml]; rfl) [(.int (1 : Int32))] (lenOf pd_11 rfl) rfl (Nat.le_of_eq rfl) (hb hby d14_79) rfl e78 (by decide) (by decide) fun T83 Lc83 v83 X83 hQ83 => ?_
    obtain ⟨rfl, Nq83, e83⟩ := hQ83
    have N83 := Fr.app N76 Nq83
    show Go p e below _ (T83.setTop (mkF m 84 _ [(.ref ad6), (.int (1 : Int32)), (.ref b14)]))
    have f84 := ((((((((((((((((((HE_ad6.ext E3).wr W6).ext E7).wr W10).ext E14).wr W17).ext E18).wr W21).ext E22).wr W25).ext E26).wr W29).ext E30).wr W33).wr W48).wr W59).wr W67).wr W76)
    obtain ⟨T85, X85, e85, st85⟩ := castY X83 hx hZ hown (wd hw 159 rfl) e83 (Ins.self f84) (g := (mkF m 84 #[.val (.ref ad1), .val (.ref ad2), .val (.int (2 : Int32)), .val (.int (1 : Int32))] [(.ref ad6), (.int (1 : Int32)), (.ref b14)])) rfl rfl (hb hby d14_84)
    refine Go.step st85 ?_
    show Go p e below _ (T85.setTop (mkF m 87 _ [(.ref ad6), (.int (1 : Int32)), (.ref b14)]))
    have ne_ad6_b14 : ad6 ≠ b14 := Nat.ne_of_lt (Nat.lt_of_lt_of_le ((((HE_ad6.ext E3).wr W6).ext E7).wr W10).lt (Nat.le_of_eq g14.symm))
    have ne_ad6_b30 : ad6 ≠ b30 := Nat.ne_of_lt (Nat.lt_of_lt_of_le ((((((((((((HE_ad6.ext E3).wr W6).ext E7).wr W10).ext E14).wr W17).ext E18).wr W21).ext E22).wr W25).ext E26).wr W29).lt (Nat.le_of_eq g30.symm))
    have ne_ad6_b22 : ad6 ≠ b22 := Nat.ne_of_lt (Nat.lt_of_lt_of_le ((((((((HE_ad6.ext E3).wr W6).ext E7).wr W10).ext E14).wr W17).ext E18).wr W21).lt (Nat.le_of_eq g22.symm))
    have f86 := ((((((((((((((((((HF_ad6_Variable_domain.ext E3).other W6 (Or.inl (Ne.symm ne_ad1_ad6))).ext E7).other W10 (Or.inl (Ne.symm ne_ad1_ad6))).ext E14).other W17 (Or.inl (Ne.symm ne_ad1_ad6))).ext E18).other W21 (Or.inl (Ne.symm ne_ad1_ad6))).ext E22).other W25 (Or.inl (Ne.symm ne_ad1_ad6))).ext E26).other W29 (Or.inl (Ne.symm ne_ad1_ad6))).ext E30).other W33 (Or.inl (Ne.symm ne_ad1_ad6))).other W48 (Or.inl ne_ad6_b14)).other W59 (Or.inl ne_ad6_b30)).other W67 (Or.inl ne_ad6_b22)).other W76 (Or.inl (Ne.symm ne_ad1_ad6)))
    refine gs.virt 2 X85 hx hZ hown (am20_1 l Z a0 hw [] u_1 aw0 u_0 kaw0 HW (ad6) (ad7) h76 n0 old76 f86) (wd hw 165 rfl) (wd hw 29 rfl) (wd hw 161 rfl) (wd hw 162 rfl) (notFace_of_selects (args := #[]) (mvT hZ (wd hw 164 rfl))) (wd hw 164 rfl) (wd hw 163 rfl) (by decide) f84 (by decide) (by decide) (by rw [hml]; rfl) [] (lenOf pd_12 rfl) rfl (Nat.le_of_eq rfl) (hb hby d14_87) rfl e85 (by decide) (by decide) fun T87 Lc87 v87 X87 hQ87 => ?_
    obtain ⟨rfl, Nq87, e87⟩ := hQ87
    have N87 := Fr.app N83 Nq87
    show Go p e below _ (T87.setTop (mkF m 90 _ [(.ref ad7), (.int (1 : Int32)), (.ref b14)]))
    have f88 := (((V48.other W59 ne_b14_b30).other W67 ne_b14_b22).other W76 (Ne.symm ne_ad1_b14))
    obtain ⟨cl89, Ar89, q89, Sz89, Ng89, Hs89, G89⟩ := id f88
    have hin89 : ¬ ((1 : Int32) < 0 ∨ cl89.slots.size ≤ ((1 : Int32)).toNatClampNeg) := inb_of Sz89 ⟨by decide, by decide⟩
    have f90 := ((((((((((((((((((HE_ad7.ext E3).wr W6).ext E7).wr W10).ext E14).wr W17).ext E18).wr W21).ext E22).wr W25).ext E26).wr W29).ext E30).wr W33).wr W48).wr W59).wr W67).wr W76)
    obtain ⟨T91, h91, X91, e91, W91, st91⟩ := stR X87 hx hZ e87 Ar89 (j := (1 : Int32)) hin89 rfl (Sto.ofV Ar89 q89 O14 (Ins.self f90)) (g := (mkF m 90 #[.val (.ref ad1), .val (.ref ad2), .val (.int (2 : Int32)), .val (.int (1 : Int32))] [(.ref ad7), (.int (1 : Int32)), (.ref b14)])) rfl rfl (hb hby d14_90)
    have N91 := Fr.snoc X91 N87 nn_b14
    have old91 := old76.wr W91 nn_b14
    have kp91 := kp76.wr W91 (Or.inr sz_b14)
    have V91 : Arv Z h91 b14 k14 (.object "com/example/monarc/monarc/InitialDomain") (2 : Int32) [(.ref ad5), (.ref ad7)] .null := Arv.set Ar89 q89 Sz89 Ng89 Hs89 G89 rfl W91 1 rfl (Nat.le_of_ble_eq_true rfl)
    refine Go.fin st91 ?_
    show Go p e below _ (T91.setTop (mkF m 91 _ []))
    refine gs.aloadN X91.here hx (hb hby d14_91) rfl rfl ?_
    have f92 := ((f70.other W76 (Or.inr (sn50 hw))).other W91 (Or.inl ne_ad1_b14))
    refine gs.getF X91 hx hZ hown (wd hw 136 rfl) Via.refl e91 f92 (hb hby d14_92) fun T93 X93 e93 => ?_
    refine gs.iloadN X93.here hx (hb hby d14_95) rfl ?_
    refine gs.aloadN X93.here hx (hb hby d14_96) rfl rfl ?_
    have f94 := (f77.other W91 (Or.inl ne_ad1_b14))
    refine gs.getF X93 hx hZ hown (wd hw 126 rfl) Via.refl e93 f94 (hb hby d14_97) fun T95 X95 e95 => ?_
    refine gs.iloadN X95.here hx (hb hby d14_100) rfl ?_
    obtain ⟨cl96, Ar96, q96, Sz96, Ng96, Hs96, G96⟩ := id V91
    have hin96 : ¬ ((1 : Int32) < 0 ∨ cl96.slots.size ≤ ((1 : Int32)).toNatClampNeg) := inb_of Sz96 ⟨by decide, by decide⟩
    have hat96 : cl96.slots[((1 : Int32)).toNatClampNeg]? = some (.ref ad7) := Has.at Hs96 hin96 rfl
    refine Go.fin (fun t_ k_ => X95.aaload hx (j := (1 : Int32)) (v := (.ref ad7)) (by rw [e95]; exact Ar96.1) (State.isArrayOf_alike hZ.alike Ar96.2.1) rfl Ar96.2.2 hin96 hat96 (g := mkF m 101 _ _) rfl rfl (hb hby d14_101) _ k_) ?_
    show Go p e below _ (T95.setTop (mkF m 102 _ [(.ref ad7), (.int (1 : Int32)), (.ref b30)]))
    have f97 := (f90.wr W91)
    have ne_ad7_b14 : ad7 ≠ b14 := Nat.ne_of_lt (Nat.lt_of_lt_of_le ((((HE_ad7.ext E3).wr W6).ext E7).wr W10).lt (Nat.le_of_eq g14.symm))
    have ne_ad7_b30 : ad7 ≠ b30 := Nat.ne_of_lt (Nat.lt_of_lt_of_le ((((((((((((HE_ad7.ext E3).wr W6).ext E7).wr W10).ext E14).wr W17).ext E18).wr W21).ext E22).wr W25).ext E26).wr W29).lt (Nat.le_of_eq g30.symm))
    have ne_ad7_b22 : ad7 ≠ b22 := Nat.ne_of_lt (Nat.lt_of_lt_of_le ((((((((HE_ad7.ext E3).wr W6).ext E7).wr W10).ext E14).wr W17).ext E18).wr W21).lt (Nat.le_of_eq g22.symm))
    have f98 := (((((((((((((((((((HF_ad7_InitialDomain_size.ext E3).other W6 (Or.inl (Ne.symm ne_ad1_ad7))).ext E7).other W10 (Or.inl (Ne.symm ne_ad1_ad7))).ext E14).other W17 (Or.inl (Ne.symm ne_ad1_ad7))).ext E18).other W21 (Or.inl (Ne.symm ne_ad1_ad7))).ext E22).other W25 (Or.inl (Ne.symm ne_ad1_ad7))).ext E26).other W29 (Or.inl (Ne.symm ne_ad1_ad7))).ext E30).other W33 (Or.inl (Ne.symm ne_ad1_ad7))).other W48 (Or.inl ne_ad7_b14)).other W59 (Or.inl ne_ad7_b30)).other W67 (Or.inl ne_ad7_b22)).other W76 (Or.inl (Ne.symm ne_ad1_ad7))).other W91 (Or.inl ne_ad7_b14))
    refine gs.virt 2 X95 hx hZ hown (am21_1 l Z a0 hw [] u_1 aw0 u_0 kaw0 HW (ad7) (iv3) h91 n0 old91 f98) (wd hw 171 rfl) (wd hw 40 rfl) (wd hw 167 rfl) (wd hw 168 rfl) (notFace_of_selects (args := #[]) (mvT hZ (wd hw 170 rfl))) (wd hw 170 rfl) (wd hw 169 rfl) (by decide) f97 (by decide) (by decide) (by rw [hml]; rfl) [] (lenOf pd_9 rfl) rfl (Nat.le_of_eq rfl) (hb hby d14_102) rfl e95 (by decide) (by decide) fun T99 Lc99 v99 X99 hQ99 => ?_
    obtain ⟨rfl, Nq99, e99⟩ := hQ99
    have N99 := Fr.app N91 Nq99
    show Go p e below _ (T99.setTop (mkF m 105 _ [(.int iv3), (.int (1 : Int32)), (.ref b30)]))
    have f100 := ((f72.other W76 (Ne.symm ne_ad1_b30)).other W91 (Ne.symm ne_b14_b30))
    obtain ⟨cl101, Ar101, q101, Sz101, Ng101, Hs101, G101⟩ := id f100
    have hin101 : ¬ ((1 : Int32) < 0 ∨ cl101.slots.size ≤ ((1 : Int32)).toNatClampNeg) := inb_of Sz101 ⟨by decide, by decide⟩
    obtain ⟨T102, h102, X102, e102, W102, st102⟩ := stI X99 hx hZ e99 Ar101 (j := (1 : Int32)) hin101 (g := (mkF m 105 #[.val (.ref ad1), .val (.ref ad2), .val (.int (2 : Int32)), .val (.int (1 : Int32))] [(.int iv3), (.int (1 : Int32)), (.ref b30)])) rfl rfl (hb hby d14_105)
    have N102 := Fr.snoc X102 N99 nn_b30
    have old102 := old91.wr W102 nn_b30
    have kp102 := kp91.wr W102 (Or.inr sz_b30)
    have V102 : Arv Z h102 b30 k30 .int (2 : Int32) [(.int iv2), (.int iv3)] (.int (0 : Int32)) := Arv.set Ar101 q101 Sz101 Ng101 Hs101 G101 rfl W102 1 rfl (Nat.le_of_ble_eq_true rfl)
    refine Go.fin st102 ?_
    show Go p e below _ (T102.setTop (mkF m 106 _ []))
    refine gs.aloadN X102.here hx (hb hby d14_106) rfl rfl ?_
    have f103 := ((((f60.other W67 (Or.inl ne_ad1_b22)).other W76 (Or.inr (sn51 hw))).other W91 (Or.inl ne_ad1_b14)).other W102 (Or.inl ne_ad1_b30))
    refine gs.getF X102 hx hZ hown (wd hw 130 rfl) Via.refl e102 f103 (hb hby d14_107) fun T104 X104 e104 => ?_
    refine gs.iloadN X104.here hx (hb hby d14_110) rfl ?_
    refine gs.aloadN X104.here hx (hb hby d14_111) rfl rfl ?_
    have f105 := (f92.other W102 (Or.inl ne_ad1_b30))
    refine gs.getF X104 hx hZ hown (wd hw 136 rfl) Via.refl e104 f105 (hb hby d14_112) fun T106 X106 e106 => ?_
    refine gs.iloadN X106.here hx (hb hby d14_115) rfl ?_
    obtain ⟨cl107, Ar107, q107, Sz107, Ng107, Hs107, G107⟩ := id V102
    have hin107 : ¬ ((1 : Int32) < 0 ∨ cl107.slots.size ≤ ((1 : Int32)).toNatClampNeg) := inb_of Sz107 ⟨by decide, by decide⟩
    have hat107 : cl107.slots[((1 : Int32)).toNatClampNeg]? = some (.int iv3) := Has.at Hs107 hin107 rfl
    refine Go.fin (fun t_ k_ => X106.iaload hx (j := (1 : Int32)) (v := (.int iv3)) (by rw [e106]; exact Ar107.1) (State.isArrayOf_alike hZ.alike Ar107.2.1) Ar107.2.2 hin107 hat107 (g := mkF m 116 _ _) rfl rfl (hb hby d14_116) _ k_) ?_
    show Go p e below _ (T106.setTop (mkF m 117 _ [(.int iv3), (.int (1 : Int32)), (.ref b22)]))
    refine gs.iconst 1 X106.here hx (hb hby d14_117) rfl ?_
    refine gs.isub X106.here hx (hb hby d14_118) ?_
    have f108 := (((V67.other W76 (Ne.symm ne_ad1_b22)).other W91 (Ne.symm ne_b14_b22)).other W102 ne_b22_b30)
    obtain ⟨cl109, Ar109, q109, Sz109, Ng109, Hs109, G109⟩ := id f108
    have hin109 : ¬ ((1 : Int32) < 0 ∨ cl109.slots.size ≤ ((1 : Int32)).toNatClampNeg) := inb_of Sz109 ⟨by decide, by decide⟩
    obtain ⟨T110, h110, X110, e110, W110, st110⟩ := stI X106 hx hZ e106 Ar109 (j := (1 : Int32)) hin109 (g := (mkF m 119 #[.val (.ref ad1), .val (.ref ad2), .val (.int (2 : Int32)), .val (.int (1 : Int32))] [(.int (iv3 - (1 : Int32))), (.int (1 : Int32)), (.ref b22)])) rfl rfl (hb hby d14_119)
    have N110 := Fr.snoc X110 N102 nn_b22
    have old110 := old102.wr W110 nn_b22
    have kp110 := kp102.wr W110 (Or.inr sz_b22)
    have V110 : Arv Z h110 b22 k22 .int (2 : Int32) [(.int (iv2 - (1 : Int32))), (.int (iv3 - (1 : Int32)))] (.int (0 : Int32)) := Arv.set Ar109 q109 Sz109 Ng109 Hs109 G109 rfl W110 1 rfl (Nat.le_of_ble_eq_true rfl)
    refine Go.fin st110 ?_
    show Go p e below _ (T110.setTop (mkF m 120 _ []))
    refine gs.aloadN X110.here hx (hb hby d14_120) rfl rfl ?_
    refine gs.dup X110.here hx (hb hby d14_121) rfl ?_
    have f111 := (((F76.other W91 (Or.inl ne_ad1_b14)).other W102 (Or.inl ne_ad1_b30)).other W110 (Or.inl ne_ad1_b22))
    refine gs.getF X110 hx hZ hown (wd hw 172 rfl) Via.refl e110 f111 (hb hby d14_122) fun T112 X112 e112 => ?_
    refine gs.aloadN X112.here hx (hb hby d14_125) rfl rfl ?_
    have f113 := (f105.other W110 (Or.inl ne_ad1_b22))
    refine gs.getF X112 hx hZ hown (wd hw 136 rfl) Via.refl e112 f113 (hb hby d14_126) fun T114 X114 e114 => ?_
    refine gs.iloadN X114.here hx (hb hby d14_129) rfl ?_
    have f115 := (V102.other W110 (Ne.symm ne_b22_b30))
    obtain ⟨cl116, Ar116, q116, Sz116, Ng116, Hs116, G116⟩ := id f115
    have hin116 : ¬ ((1 : Int32) < 0 ∨ cl116.slots.size ≤ ((1 : Int32)).toNatClampNeg) := inb_of Sz116 ⟨by decide, by decide⟩
    have hat116 : cl116.slots[((1 : Int32)).toNatClampNeg]? = some (.int iv3) := Has.at Hs116 hin116 rfl
    refine Go.fin (fun t_ k_ => X114.iaload hx (j := (1 : Int32)) (v := (.int iv3)) (by rw [e114]; exact Ar116.1) (State.isArrayOf_alike hZ.alike Ar116.2.1) Ar116.2.2 hin116 hat116 (g := mkF m 130 _ _) rfl rfl (hb hby d14_130) _ k_) ?_
    show Go p e below _ (T114.setTop (mkF m 131 _ [(.int iv3), (.int ((0 : Int32) + z_74)), (.ref ad1)]))
    refine gs.iconst 1 X114.here hx (hb hby d14_131) rfl ?_
    have J117 : ∀ z_117 : Int32, Go p e below (Fin1 s below (Q_am14_1 Z u_1 aw0 u_0 kaw0 ad1 ad2 ad3 ad4 ad5 iv2 kc1 ad6 ad7 iv3 h0 n0) (rm 3 7 1098 42).cells (rm 3 7 1098 42).slots) (T114.setTop (mkF m 140 #[.val (.ref ad1), .val (.ref ad2), .val (.int (2 : Int32)), .val (.int (1 : Int32))] [(.int z_117), (.int ((0 : Int32) + z_74)), (.ref ad1)])) := by
      intro z_117
      refine gs.iadd X114.here hx (hb hby d14_140) ?_
      have f118 := ((((f75.wr W76).wr W91).wr W102).wr W110)
      obtain ⟨T119, h119, X119, e119, W119, st119⟩ := putF X114 hx hZ hown (host := "") (Or.inl (wd hw 172 rfl)) Via.refl e114 f111 f118 (Or.inl (wd hw 173 rfl)) (wd hw 103 rfl) (ty := .int) (by decide) rfl rfl (g := (mkF m 141 #[.val (.ref ad1), .val (.ref ad2), .val (.int (2 : Int32)), .val (.int (1 : Int32))] [(.int (((0 : Int32) + z_74) + z_117)), (.ref ad1)])) rfl rfl (hb hby d14_141)
      have N119 := Fr.snoc X119 N110 nn_ad1
      have old119 := old110.wr W119 nn_ad1
      have kp119 := kp110.wr W119 (Or.inl (List.mem_of_getElem? (i := 0) rfl))
      have F119 := f111.same W119
      refine Go.fin st119 ?_
      show Go p e below _ (T119.setTop (mkF m 144 _ []))
      refine Go.step (fun t_ k_ => XS.iinc X119.here hx rfl (hb hby d14_144) rfl (l' := #[.val (.ref ad1), .val (.ref ad2), .val (.int (2 : Int32)), .val (.int ((1 : Int32) + (1 : Int32)))]) rfl k_) ?_
      show Go p e below _ (T119.setTop (mkF m 147 #[.val (.ref ad1), .val (.ref ad2), .val (.int (2 : Int32)), .val (.int ((1 : Int32) + (1 : Int32)))] []))
      rw [show ((1 : Int32) + (1 : Int32)) = (2 : Int32) from by decide]
      refine gs.goto 67 X119.here hx (hb hby d14_147) rfl ?_
      refine gs.iloadN X119.here hx (hb hby d14_67) rfl ?_
      refine gs.iloadN X119.here hx (hb hby d14_68) rfl ?_
      have hc69_3 : ¬ ((2 : Int32) < (2 : Int32)) := by decide
      refine gs.icmpYes 150 X119.here hx (hb hby d14_69) (flt hc69_3).2.1 rfl ?_
      have ne_b14_b26 : b14 ≠ b26 := Nat.ne_of_lt (Nat.lt_of_lt_of_le (((((V14.other W17 (Ne.symm ne_ad1_b14)).ext E18).other W21 (Ne.symm ne_ad1_b14)).ext E22).other W25 (Ne.symm ne_ad1_b14)).lt (Nat.le_of_eq g26.symm))
      have ne_ad1_b18 : ad1 ≠ b18 := Nat.ne_of_lt (Nat.lt_of_lt_of_le (f16.wr W17).lt (Nat.le_of_eq g18.symm))
      have ne_b18_b26 : b18 ≠ b26 := Nat.ne_of_lt (Nat.lt_of_lt_of_le (((V18.other W21 (Ne.symm ne_ad1_b18)).ext E22).other W25 (Ne.symm ne_ad1_b18)).lt (Nat.le_of_eq g26.symm))
      have ne_b26_b30 : b26 ≠ b30 := Nat.ne_of_lt (Nat.lt_of_lt_of_le (B26.wr W29).lt (Nat.le_of_eq g30.symm))
      have ne_b3_b26 : b3 ≠ b26 := Nat.ne_of_lt (Nat.lt_of_lt_of_le (((((((((B3.wr W6).ext E7).wr W10).ext E14).wr W17).ext E18).wr W21).ext E22).wr W25).lt (Nat.le_of_eq g26.symm))
      have ne_b22_b26 : b22 ≠ b26 := Nat.ne_of_lt (Nat.lt_of_lt_of_le (V22.other W25 (Ne.symm ne_ad1_b22)).lt (Nat.le_of_eq g26.symm))
      have ne_b14_b18 : b14 ≠ b18 := Nat.ne_of_lt (Nat.lt_of_lt_of_le (V14.other W17 (Ne.symm ne_ad1_b14)).lt (Nat.le_of_eq g18.symm))
      have ne_b3_b14 : b3 ≠ b14 := Nat.ne_of_lt (Nat.lt_of_lt_of_le (((B3.wr W6).ext E7).wr W10).lt (Nat.le_of_eq g14.symm))
      have ne_b18_b30 : b18 ≠ b30 := Nat.ne_of_lt (Nat.lt_of_lt_of_le (((((V18.other W21 (Ne.symm ne_ad1_b18)).ext E22).other W25 (Ne.symm ne_ad1_b18)).ext E26).other W29 (Ne.symm ne_ad1_b18)).lt (Nat.le_of_eq g30.symm))
      have ne_b3_b18 : b3 ≠ b18 := Nat.ne_of_lt (Nat.lt_of_lt_of_le (((((B3.wr W6).ext E7).wr W10).ext E14).wr W17).lt (Nat.le_of_eq g18.symm))
      have ne_b18_b22 : b18 ≠ b22 := Nat.ne_of_lt (Nat.lt_of_lt_of_le (V18.other W21 (Ne.symm ne_ad1_b18)).lt (Nat.le_of_eq g22.symm))
      have ne_b3_b30 : b3 ≠ b30 := Nat.ne_of_lt (Nat.lt_of_lt_of_le (((((((((((B3.wr W6).ext E7).wr W10).ext E14).wr W17).ext E18).wr W21).ext E22).wr W25).ext E26).wr W29).lt (Nat.le_of_eq g30.symm))
      have ne_b3_b22 : b3 ≠ b22 := Nat.ne_of_lt (Nat.lt_of_lt_of_le (((((((B3.wr W6).ext E7).wr W10).ext E14).wr W17).ext E18).wr W21).lt (Nat.le_of_eq g22.symm))
      have f120 := (f118.wr W119)
      have f121 := ((((((((((F29.ext E30).other W33 (Or.inr (sn52 hw))).other W48 (Or.inl ne_ad1_b14)).other W59 (Or.inl ne_ad1_b30)).other W67 (Or.inl ne_ad1_b22)).other W76 (Or.inr (sn53 hw))).other W91 (Or.inl ne_ad1_b14)).other W102 (Or.inl ne_ad1_b30)).other W110 (Or.inl ne_ad1_b22)).other W119 (Or.inr (sn53 hw)))
      have f122 := (((f94.other W102 (Or.inl ne_ad1_b30)).other W110 (Or.inl ne_ad1_b22)).other W119 (Or.inr (sn49 hw)))
      have f123 := ((((((((((((((F21.ext E22).other W25 (Or.inr (sn54 hw))).ext E26).other W29 (Or.inr (sn55 hw))).ext E30).other W33 (Or.inr (sn56 hw))).other W48 (Or.inl ne_ad1_b14)).other W59 (Or.inl ne_ad1_b30)).other W67 (Or.inl ne_ad1_b22)).other W76 (Or.inr (sn57 hw))).other W91 (Or.inl ne_ad1_b14)).other W102 (Or.inl ne_ad1_b30)).other W110 (Or.inl ne_ad1_b22)).other W119 (Or.inr (sn57 hw)))
      have f124 := ((((((((((((((((((((((HF_ad1_Domains_resized.ext E3).other W6 (Or.inr (sn58 hw))).ext E7).other W10 (Or.inr (sn59 hw))).ext E14).other W17 (Or.inr (sn60 hw))).ext E18).other W21 (Or.inr (sn61 hw))).ext E22).other W25 (Or.inr (sn62 hw))).ext E26).other W29 (Or.inr (sn63 hw))).ext E30).other W33 (Or.inr (sn64 hw))).other W48 (Or.inl ne_ad1_b14)).other W59 (Or.inl ne_ad1_b30)).other W67 (Or.inl ne_ad1_b22)).other W76 (Or.inr (sn65 hw))).other W91 (Or.inl ne_ad1_b14)).other W102 (Or.inl ne_ad1_b30)).other W110 (Or.inl ne_ad1_b22)).other W119 (Or.inr (sn65 hw)))
      have f125 := (f113.other W119 (Or.inr (sn50 hw)))
      have f126 := ((((((((((((((((((((F6.ext E7).other W10 (Or.inr (sn66 hw))).ext E14).other W17 (Or.inr (sn67 hw))).ext E18).other W21 (Or.inr (sn68 hw))).ext E22).other W25 (Or.inr (sn69 hw))).ext E26).other W29 (Or.inr (sn70 hw))).ext E30).other W33 (Or.inr (sn71 hw))).other W48 (Or.inl ne_ad1_b14)).other W59 (Or.inl ne_ad1_b30)).other W67 (Or.inl ne_ad1_b22)).other W76 (Or.inr (sn72 hw))).other W91 (Or.inl ne_ad1_b14)).other W102 (Or.inl ne_ad1_b30)).other W110 (Or.inl ne_ad1_b22)).other W119 (Or.inr (sn72 hw)))
      have f127 := ((((((((((((((((((((((HF_ad1_Domains_trailSize.ext E3).other W6 (Or.inr (sn73 hw))).ext E7).other W10 (Or.inr (sn74 hw))).ext E14).other W17 (Or.inr (sn75 hw))).ext E18).other W21 (Or.inr (sn76 hw))).ext E22).other W25 (Or.inr (sn77 hw))).ext E26).other W29 (Or.inr (sn78 hw))).ext E30).other W33 (Or.inr (sn79 hw))).other W48 (Or.inl ne_ad1_b14)).other W59 (Or.inl ne_ad1_b30)).other W67 (Or.inl ne_ad1_b22)).other W76 (Or.inr (sn80 hw))).other W91 (Or.inl ne_ad1_b14)).other W102 (Or.inl ne_ad1_b30)).other W110 (Or.inl ne_ad1_b22)).other W119 (Or.inr (sn80 hw)))
      have f128 := ((f103.other W110 (Or.inl ne_ad1_b22)).other W119 (Or.inr (sn51 hw)))
      have f129 := (((((((((((B26.wr W29).ext E30).wr W33).wr W48).wr W59).wr W67).wr W76).wr W91).wr W102).wr W110).wr W119)
      have ne_ad1_b26 : ad1 ≠ b26 := Nat.ne_of_lt (Nat.lt_of_lt_of_le (f24.wr W25).lt (Nat.le_of_eq g26.symm))
      have f130 := (((((((((((V26.other W29 (Ne.symm ne_ad1_b26)).ext E30).other W33 (Ne.symm ne_ad1_b26)).other W48 (Ne.symm ne_b14_b26)).other W59 ne_b26_b30).other W67 (Ne.symm ne_b22_b26)).other W76 (Ne.symm ne_ad1_b26)).other W91 (Ne.symm ne_b14_b26)).other W102 ne_b26_b30).other W110 (Ne.symm ne_b22_b26)).other W119 (Ne.symm ne_ad1_b26))
      have f131 := (((V91.other W102 ne_b14_b30).other W110 ne_b14_b22).other W119 (Ne.symm ne_ad1_b14))
      have f132 := (((((((((((((((V18.other W21 (Ne.symm ne_ad1_b18)).ext E22).other W25 (Ne.symm ne_ad1_b18)).ext E26).other W29 (Ne.symm ne_ad1_b18)).ext E30).other W33 (Ne.symm ne_ad1_b18)).other W48 (Ne.symm ne_b14_b18)).other W59 ne_b18_b30).other W67 ne_b18_b22).other W76 (Ne.symm ne_ad1_b18)).other W91 (Ne.symm ne_b14_b18)).other W102 ne_b18_b30).other W110 ne_b18_b22).other W119 (Ne.symm ne_ad1_b18))
      have f133 := (f115.other W119 (Ne.symm ne_ad1_b30))
      have f134 := (((((((((((((((((((((B3.wr W6).ext E7).wr W10).ext E14).wr W17).ext E18).wr W21).ext E22).wr W25).ext E26).wr W29).ext E30).wr W33).wr W48).wr W59).wr W67).wr W76).wr W91).wr W102).wr W110).wr W119)
      have ne_ad1_b3 : ad1 ≠ b3 := Nat.ne_of_lt (Nat.lt_of_lt_of_le HE_ad1.lt (Nat.le_of_eq g3.symm))
      have f135 := (((((((((((((((((((((V3.other W6 (Ne.symm ne_ad1_b3)).ext E7).other W10 (Ne.symm ne_ad1_b3)).ext E14).other W17 (Ne.symm ne_ad1_b3)).ext E18).other W21 (Ne.symm ne_ad1_b3)).ext E22).other W25 (Ne.symm ne_ad1_b3)).ext E26).other W29 (Ne.symm ne_ad1_b3)).ext E30).other W33 (Ne.symm ne_ad1_b3)).other W48 ne_b3_b14).other W59 ne_b3_b30).other W67 ne_b3_b22).other W76 (Ne.symm ne_ad1_b3)).other W91 ne_b3_b14).other W102 ne_b3_b30).other W110 ne_b3_b22).other W119 (Ne.symm ne_ad1_b3))
      have f136 := (V110.other W119 (Ne.symm ne_ad1_b22))
      refine Go.retV X119 hx Bd.returns Bd.notSynchronized (hb hby d14_150) (by rw [e119]; exact ⟨b26, b14, b18, b30, b3, b22, k26, k14, k18, k30, k3, k22, ((((0 : Int32) + z_74) + z_117)), rfl, sz_b26, sz_b14, sz_b18, sz_b30, sz_b3, sz_b22, (Ne.symm ne_b14_b26), (Ne.symm ne_b18_b26), ne_b26_b30, (Ne.symm ne_b3_b26), (Ne.symm ne_b22_b26), ne_b14_b18, ne_b14_b30, (Ne.symm ne_b3_b14), ne_b14_b22, ne_b18_b30, (Ne.symm ne_b3_b18), ne_b18_b22, (Ne.symm ne_b3_b30), (Ne.symm ne_b22_b30), ne_b3_b22, N119, kp119, f120, f121, f122, f123, f124, f125, f126, f127, f128, F119, f129, f130, f131, f132, f133, f134, f135, f136, O26, O14⟩) (by decide) (by decide)
    by_cases hc132 : iv3 = (1 : Int32)
    case pos =>
      refine gs.icmpNo X114.here hx (hb hby d14_132) (teq hc132).2 ?_
      refine gs.iconst 1 X114.here hx (hb hby d14_135) rfl ?_
      refine gs.goto 140 X114.here hx (hb hby d14_136) rfl ?_
      exact J117 _
    case neg =>
      refine gs.icmpYes 139 X114.here hx (hb hby d14_132) (feq hc132).2 rfl ?_
      refine gs.iconst 0 X114.here hx (hb hby d14_139) rfl ?_
      exact J117 _
  by_cases hc132 : iv2 = (1 : Int32)
  case pos =>
    refine gs.icmpNo X71.here hx (hb hby d14_132) (teq hc132).2 ?_
    refine gs.iconst 1 X71.here hx (hb hby d14_135) rfl ?_
    refine gs.goto 140 X71.here hx (hb hby d14_136) rfl ?_
    exact J74 _
  case neg =>
    refine gs.icmpYes 139 X71.here hx (hb hby d14_132) (feq hc132).2 rfl ?_
    refine gs.iconst 0 X71.here hx (hb hby d14_139) rfl ?_
    exact J74 _
theorem pd_13 : parseMethodDescriptor "(Ljava/util/List;)V" = some ⟨[(.object "java/util/List")], none⟩ := by decide +kernel
theorem d22_0 : decode c_22 0 = .ok (.iload_n 2, 1) := by decide +kernel
theorem d22_1 : decode c_22 1 = .ok (.aload_n 0, 1) := by decide +kernel
theorem d22_2 : decode c_22 2 = .ok (.getfield 29, 3) := by decide +kernel
theorem d22_5 : decode c_22 5 = .ok (.iload_n 1, 1) := by decide +kernel
theorem d22_6 : decode c_22 6 = .ok (.iaload, 1) := by decide +kernel
theorem d22_7 : decode c_22 7 = .ok (.if_icmp .ne 14, 3) := by decide +kernel
theorem d22_10 : decode c_22 10 = .ok (.aload_n 0, 1) := by decide +kernel
theorem d22_11 : decode c_22 11 = .ok (.iload_n 1, 1) := by decide +kernel
theorem d22_12 : decode c_22 12 = .ok (.iload_n 2, 1) := by decide +kernel
theorem d22_13 : decode c_22 13 = .ok (.iconst 1, 1) := by decide +kernel
theorem d22_14 : decode c_22 14 = .ok (.iadd, 1) := by decide +kernel
theorem d22_15 : decode c_22 15 = .ok (.invokevirtual 117, 3) := by decide +kernel
theorem d26_0 : decode c_26 0 = .ok (.iload_n 2, 1) := by decide +kernel
theorem d26_1 : decode c_26 1 = .ok (.aload_n 0, 1) := by decide +kernel
theorem d26_2 : decode c_26 2 = .ok (.getfield 32, 3) := by decide +kernel
theorem d26_5 : decode c_26 5 = .ok (.iload_n 1, 1) := by decide +kernel
theorem d26_6 : decode c_26 6 = .ok (.iaload, 1) := by decide +kernel
theorem d26_7 : decode c_26 7 = .ok (.if_icmp .le 14, 3) := by decide +kernel
theorem d26_10 : decode c_26 10 = .ok (.aload_n 0, 1) := by decide +kernel
theorem d26_11 : decode c_26 11 = .ok (.getfield 32, 3) := by decide +kernel
theorem d26_14 : decode c_26 14 = .ok (.iload_n 1, 1) := by decide +kernel
theorem d26_15 : decode c_26 15 = .ok (.iaload, 1) := by decide +kernel
theorem d26_16 : decode c_26 16 = .ok (.iconst 1, 1) := by decide +kernel
theorem d26_17 : decode c_26 17 = .ok (.iadd, 1) := by decide +kernel
theorem d26_18 : decode c_26 18 = .ok (.goto 9, 3) := by decide +kernel
theorem d26_27 : decode c_26 27 = .ok (.istore_n 3, 1) := by decide +kernel
theorem d26_28 : decode c_26 28 = .ok (.aload_n 0, 1) := by decide +kernel
theorem d26_29 : decode c_26 29 = .ok (.getfield 29, 3) := by decide +kernel
theorem d26_32 : decode c_26 32 = .ok (.iload_n 1, 1) := by decide +kernel
theorem d26_33 : decode c_26 33 = .ok (.iaload, 1) := by decide +kernel
theorem d26_34 : decode c_26 34 = .ok (.istore 4, 2) := by decide +kernel
theorem d26_36 : decode c_26 36 = .ok (.aload_n 0, 1) := by decide +kernel
theorem d26_37 : decode c_26 37 = .ok (.iload_n 1, 1) := by decide +kernel
theorem d26_38 : decode c_26 38 = .ok (.aload_n 0, 1) := by decide +kernel
theorem d26_39 : decode c_26 39 = .ok (.getfield 40, 3) := by decide +kernel
theorem d26_42 : decode c_26 42 = .ok (.iload_n 1, 1) := by decide +kernel
theorem d26_43 : decode c_26 43 = .ok (.iaload, 1) := by decide +kernel
theorem d26_44 : decode c_26 44 = .ok (.aload_n 0, 1) := by decide +kernel
theorem d26_45 : decode c_26 45 = .ok (.iload_n 1, 1) := by decide +kernel
theorem d26_46 : decode c_26 46 = .ok (.iload 4, 2) := by decide +kernel
theorem d26_48 : decode c_26 48 = .ok (.iload_n 3, 1) := by decide +kernel
theorem d26_49 : decode c_26 49 = .ok (.invokevirtual 143, 3) := by decide +kernel
theorem d27_0 : decode c_27 0 = .ok (.aload_n 0, 1) := by decide +kernel
theorem d27_1 : decode c_27 1 = .ok (.getfield 36, 3) := by decide +kernel
theorem d27_4 : decode c_27 4 = .ok (.iload_n 1, 1) := by decide +kernel
theorem d27_5 : decode c_27 5 = .ok (.aaload, 1) := by decide +kernel
theorem d27_6 : decode c_27 6 = .ok (.astore 4, 2) := by decide +kernel
theorem d27_8 : decode c_27 8 = .ok (.aload 4, 2) := by decide +kernel
theorem d27_10 : decode c_27 10 = .ok (.ifnull 8, 3) := by decide +kernel
theorem d27_18 : decode c_27 18 = .ok (.iconst 0, 1) := by decide +kernel
theorem d27_19 : decode c_27 19 = .ok (.iload_n 3, 1) := by decide +kernel
theorem d27_20 : decode c_27 20 = .ok (.iload_n 2, 1) := by decide +kernel
theorem d27_21 : decode c_27 21 = .ok (.isub, 1) := by decide +kernel
theorem d27_22 : decode c_27 22 = .ok (.invokestatic 71, 3) := by decide +kernel
theorem d27_25 : decode c_27 25 = .ok (.ireturn, 1) := by decide +kernel
theorem ef_am27_1 (m : MethodId) (x0 : Addr) (x1 : Int32) (x2 : Int32) (x3 : Int32)  : entryFrame m #[(.ref x0), (.int x1), (.int x2), (.int x3)] 13 = mkF m 0 #[.val (.ref x0), .val (.int x1), .val (.int x2), .val (.int x3), .unset, .unset, .unset, .unset, .unset, .unset, .unset, .unset, .unset] [] := by first | (simp [entryFrame, mkF, argsToLocals, Value.category]; done) | rfl
def Q_am27_1 (Z : State) (u_1 : Addr) (aw0 : Addr) (u_0 : ClassId) (kaw0 : ClassId) (ad1 : Addr) (iv1 : Int32) (iv2 : Int32) (ad7 : Addr) (kc4 : ClassId) (fv10 : Nat → Value) (h0 : Heap) (n0 : Nat) (v : Option Value) (h : Heap) (L : List Loc) : Prop := v = some (.int (mxI (0 : Int32) (iv2 - (0 : Int32)))) ∧ Fr n0 L ∧ h = h0
set_option maxRecDepth 65536 in
set_option maxHeartbeats 40000000 in
theorem am27_1 (l : Launch) (Z : State) (a0 : Array Value) (hw : ∀ d ∈ tables_1, d.before a0 Z = true) (ws : List Jvm.Cond) (u_1 : Addr) (aw0 : Addr) (u_0 : ClassId) (kaw0 : ClassId) (HW : Wd Z u_1 aw0 u_0 kaw0) (ad1 : Addr) (iv1 : Int32) (iv2 : Int32) (ad7 : Addr) (kc4 : ClassId) (fv10 : Nat → Value) (h0 : Heap) (n0 : Nat) (Ol : Old Z n0 h0) (HF_ad1_Domains_holes : Fld Z h0 ad1 "com/example/monarc/monarc/Domains" "holes" "[[J" (.ref ad7)) (HG_ad7 : Arw Z h0 ad7 kc4 (.array .long) (2 : Int32) fv10) (as0 : 0 ≤ (iv1).toInt ∧ (iv1).toInt < ((2 : Int32)).toInt) (rq0 : (fv10 (iv1).toNatClampNeg) = .null) (hO_ad7 : OvrA Z kc4 .long "[J") :
    MetFree l y_27 (head1 (Jvm.Cond.code y_27 prog_11_method_16_code 13 (some .int) :: ws) (rm 1 0 0 13)) (fun a_ U_ => a_ = #[(.ref ad1), (.int iv1), (.int (0 : Int32)), (.int iv2)] ∧ Z.Warmed39 U_.vm ∧ U_.heap = h0) (fun _ _ _ _ _ => True) (fun _ U_ o_ V_ => ∃ v_ L_, o_ = .returned v_ ∧ Q_am27_1 Z u_1 aw0 u_0 kaw0 ad1 iv1 iv2 ad7 kc4 fv10 h0 n0 v_ V_.heap L_ ∧ FrameEnd U_ o_ V_ L_ (rm 1 0 0 13).cells (rm 1 0 0 13).slots) := by
  refine MetFree.of_bodySF (plainFor_of_name pn_10) hisR ?_
  intro p e s m args below meth c s₁ Bd hml0 hP hK
  obtain ⟨rfl, hZ, hh⟩ := hP
  have hx := Bd.exec
  have hby := Bd.bytes
  have hml : c.maxLocals = 13 := hml0
  have hown : s.vm.findClass "com/example/monarc/monarc/Domains" = some m.cls := findClass_of_methodNamed Bd.named
  have hnm := (name_of_methodNamed Bd.named Bd.method).1
  have X0 : Stand p l e (rm 1 0 0 13) s m #[(.ref ad1), (.int iv1), (.int (0 : Int32)), (.int iv2)] below meth c s₁ [] 0 0 := Stand.of_body Bd
  have e0 : s₁.heap = h0 := by rw [← hh, Bd.state]; rfl
  have N0 := Fr.nil n0
  have kp0 := Keep.refl h0 []
  show Go p e below (Fin1 s below (Q_am27_1 Z u_1 aw0 u_0 kaw0 ad1 iv1 iv2 ad7 kc4 fv10 h0 n0) (rm 1 0 0 13).cells (rm 1 0 0 13).slots) _
  refine Go.step (fun t_ k_ => castTop (ef_am27_1 m ad1 iv1 (0 : Int32) iv2) k_) ?_
  obtain ⟨Eu_1, Su_1, Eaw0, Saw0, Au_1, Aaw0⟩ := id HW
  show Go p e below _ (s₁.setTop (mkF m 0 #[.val (.ref ad1), .val (.int iv1), .val (.int (0 : Int32)), .val (.int iv2), .unset, .unset, .unset, .unset, .unset, .unset, .unset, .unset, .unset] []))
  refine gs.aloadN X0.here hx (hb hby d27_0) rfl rfl ?_
  refine gs.getF X0 hx hZ hown (wd hw 134 rfl) Via.refl e0 HF_ad1_Domains_holes (hb hby d27_1) fun T1 X1 e1 => ?_
  refine gs.iloadN X1.here hx (hb hby d27_4) rfl ?_
  obtain ⟨cl2, Ar2, q2, Sz2, Ng2, Hs2⟩ := id HG_ad7
  have hin2 : ¬ (iv1 < 0 ∨ cl2.slots.size ≤ (iv1).toNatClampNeg) := inb_of Sz2 (inb_int as0)
  have hat2 : cl2.slots[(iv1).toNatClampNeg]? = some (fv10 (iv1).toNatClampNeg) := Hs2 _ (lt_of_in hin2)
  rw [show (fv10 (iv1).toNatClampNeg) = .null from rq0] at hat2
  refine Go.fin (fun t_ k_ => X1.aaload hx (j := iv1) (v := .null) (by rw [e1]; exact Ar2.1) (State.isArrayOf_alike hZ.alike Ar2.2.1) rfl Ar2.2.2 hin2 hat2 (g := mkF m 5 _ _) rfl rfl (hb hby d27_5) _ k_) ?_
  show Go p e below _ (T1.setTop (mkF m 6 _ [.null]))
  refine gs.astore X1.here hx (hb hby d27_6) rfl (l' := #[.val (.ref ad1), .val (.int iv1), .val (.int (0 : Int32)), .val (.int iv2), .val .null, .unset, .unset, .unset, .unset, .unset, .unset, .unset, .unset]) rfl ?_
  refine gs.aload X1.here hx (hb hby d27_8) rfl rfl ?_
  refine Go.fin (fun t_ k_ => XS.ifnullYes X1.here hx rfl (pc0 := 10) (pc' := 18) rfl (hb hby d27_10) rfl (by decide) (by decide) k_) ?_
  show Go p e below _ (T1.setTop (mkF m 18 _ []))
  refine gs.iconst 0 X1.here hx (hb hby d27_18) rfl ?_
  refine gs.iloadN X1.here hx (hb hby d27_19) rfl ?_
  refine gs.iloadN X1.here hx (hb hby d27_20) rfl ?_
  refine gs.isub X1.here hx (hb hby d27_21) ?_
  refine gs.stat 0 X1 hx hZ hown (rm13 l Z a0 hw [] u_1 aw0 u_0 kaw0 HW (0 : Int32) (iv2 - (0 : Int32)) (mxI (0 : Int32) (iv2 - (0 : Int32))) h0 n0 Ol rfl) (wd hw 97 rfl) (wd hw 96 rfl) (wd hw 206 rfl) (wd hw 95 rfl) (by decide) (by decide) (by decide) (by rw [hml]; rfl) [(.int (0 : Int32)), (.int (iv2 - (0 : Int32)))] (lenOf pd_4 rfl) rfl (Nat.le_of_eq rfl) (hb hby d27_22) rfl e1 (by decide) (by decide) fun T3 Lc3 v3 X3 hQ3 => ?_
  obtain ⟨rfl, Nq3, e3⟩ := hQ3
  have N3 := Fr.app N0 Nq3
  show Go p e below _ (T3.setTop (mkF m 25 _ [(.int (mxI (0 : Int32) (iv2 - (0 : Int32))))]))
  refine Go.retI X3 hx Bd.returns Bd.notSynchronized (hb hby d27_25) (by rw [e3]; exact ⟨rfl, N3, rfl⟩) (by decide) (by decide)
theorem pd_14 : parseMethodDescriptor "(III)I" = some ⟨[.int, .int, .int], some .int⟩ := by decide +kernel
theorem d26_52 : decode c_26 52 = .ok (.isub, 1) := by decide +kernel
theorem d26_53 : decode c_26 53 = .ok (.invokevirtual 130, 3) := by decide +kernel
theorem d24_0 : decode c_24 0 = .ok (.aload_n 0, 1) := by decide +kernel
theorem d24_1 : decode c_24 1 = .ok (.dup, 1) := by decide +kernel
theorem d24_2 : decode c_24 2 = .ok (.getfield 54, 3) := by decide +kernel
theorem d24_5 : decode c_24 5 = .ok (.iload_n 2, 1) := by decide +kernel
theorem d24_6 : decode c_24 6 = .ok (.iconst 1, 1) := by decide +kernel
theorem d24_15 : decode c_24 15 = .ok (.aload_n 0, 1) := by decide +kernel
theorem d24_16 : decode c_24 16 = .ok (.getfield 40, 3) := by decide +kernel
theorem d24_19 : decode c_24 19 = .ok (.iload_n 1, 1) := by decide +kernel
theorem d24_20 : decode c_24 20 = .ok (.iaload, 1) := by decide +kernel
theorem d24_21 : decode c_24 21 = .ok (.iconst 1, 1) := by decide +kernel
theorem d24_30 : decode c_24 30 = .ok (.isub, 1) := by decide +kernel
theorem d24_31 : decode c_24 31 = .ok (.iadd, 1) := by decide +kernel
theorem d24_32 : decode c_24 32 = .ok (.putfield 54, 3) := by decide +kernel
theorem d24_35 : decode c_24 35 = .ok (.aload_n 0, 1) := by decide +kernel
theorem d24_36 : decode c_24 36 = .ok (.getfield 40, 3) := by decide +kernel
theorem d24_39 : decode c_24 39 = .ok (.iload_n 1, 1) := by decide +kernel
theorem d24_40 : decode c_24 40 = .ok (.iload_n 2, 1) := by decide +kernel
theorem d24_41 : decode c_24 41 = .ok (.iastore, 1) := by decide +kernel
theorem d24_42 : decode c_24 42 = .ok (.return_, 1) := by decide +kernel
theorem d24_22 : decode c_24 22 = .ok (.if_icmp .ne 7, 3) := by decide +kernel
theorem d24_25 : decode c_24 25 = .ok (.iconst 1, 1) := by decide +kernel
theorem d24_26 : decode c_24 26 = .ok (.goto 4, 3) := by decide +kernel
theorem d24_29 : decode c_24 29 = .ok (.iconst 0, 1) := by decide +kernel
theorem d24_7 : decode c_24 7 = .ok (.if_icmp .ne 7, 3) := by decide +kernel
theorem d24_10 : decode c_24 10 = .ok (.iconst 1, 1) := by decide +kernel
theorem d24_11 : decode c_24 11 = .ok (.goto 4, 3) := by decide +kernel
theorem d24_14 : decode c_24 14 = .ok (.iconst 0, 1) := by decide +kernel
theorem ef_am24_1 (m : MethodId) (x0 : Addr) (x1 : Int32) (x2 : Int32)  : entryFrame m #[(.ref x0), (.int x1), (.int x2)] 3 = mkF m 0 #[.val (.ref x0), .val (.int x1), .val (.int x2)] [] := by first | (simp [entryFrame, mkF, argsToLocals, Value.category]; done) | rfl
def Q_am24_1 (Z : State) (u_1 : Addr) (aw0 : Addr) (u_0 : ClassId) (kaw0 : ClassId) (ad1 : Addr) (iv1 : Int32) (iv2 : Int32) (ad3 : Addr) (ad4 : Addr) (ad5 : Addr) (ad6 : Addr) (ad7 : Addr) (ad8 : Addr) (iv5 : Int32) (iv6 : Int32) (kc1 : ClassId) (fv7 : Nat → Int32) (h0 : Heap) (n0 : Nat) (v : Option Value) (h : Heap) (L : List Loc) : Prop := ∃ ex1 : Int32, v = none ∧ Fr n0 L ∧ Keep h0 h [ad1, ad8] ∧ (Exa Z h ad1 "com/example/monarc/monarc/Domains") ∧ (Fld Z h ad1 "com/example/monarc/monarc/Domains" "holes" "[[J" (.ref ad7)) ∧ (Fld Z h ad1 "com/example/monarc/monarc/Domains" "initial" "[Lcom/example/monarc/monarc/InitialDomain;" (.ref ad4)) ∧ (Fld Z h ad1 "com/example/monarc/monarc/Domains" "lower" "[I" (.ref ad5)) ∧ (Fld Z h ad1 "com/example/monarc/monarc/Domains" "resized" "Ljava/util/function/IntConsumer;" .null) ∧ (Fld Z h ad1 "com/example/monarc/monarc/Domains" "sizes" "[I" (.ref ad8)) ∧ (Fld Z h ad1 "com/example/monarc/monarc/Domains" "trail" "[J" (.ref ad3)) ∧ (Fld Z h ad1 "com/example/monarc/monarc/Domains" "trailSize" "I" (.int iv6)) ∧ (Fld Z h ad1 "com/example/monarc/monarc/Domains" "upper" "[I" (.ref ad6)) ∧ (Fld Z h ad1 "com/example/monarc/monarc/Domains" "withOneValue" "I" (.int ex1)) ∧ (Ari Z h ad8 kc1 (2 : Int32) (fun i => if i = (iv1).toNatClampNeg then iv2 else fv7 i))
set_option maxRecDepth 65536 in
set_option maxHeartbeats 40000000 in
theorem am24_1 (l : Launch) (Z : State) (a0 : Array Value) (hw : ∀ d ∈ tables_1, d.before a0 Z = true) (ws : List Jvm.Cond) (u_1 : Addr) (aw0 : Addr) (u_0 : ClassId) (kaw0 : ClassId) (HW : Wd Z u_1 aw0 u_0 kaw0) (ad1 : Addr) (iv1 : Int32) (iv2 : Int32) (ad3 : Addr) (ad4 : Addr) (ad5 : Addr) (ad6 : Addr) (ad7 : Addr) (ad8 : Addr) (iv5 : Int32) (iv6 : Int32) (kc1 : ClassId) (fv7 : Nat → Int32) (h0 : Heap) (n0 : Nat) (Ol : Old Z n0 h0) (HE_ad1 : Exa Z h0 ad1 "com/example/monarc/monarc/Domains") (HF_ad1_Domains_trail : Fld Z h0 ad1 "com/example/monarc/monarc/Domains" "trail" "[J" (.ref ad3)) (HF_ad1_Domains_initial : Fld Z h0 ad1 "com/example/monarc/monarc/Domains" "initial" "[Lcom/example/monarc/monarc/InitialDomain;" (.ref ad4)) (HF_ad1_Domains_lower : Fld Z h0 ad1 "com/example/monarc/monarc/Domains" "lower" "[I" (.ref ad5)) (HF_ad1_Domains_upper : Fld Z h0 ad1 "com/example/monarc/monarc/Domains" "upper" "[I" (.ref ad6)) (HF_ad1_Domains_holes : Fld Z h0 ad1 "com/example/monarc/monarc/Domains" "holes" "[[J" (.ref ad7)) (HF_ad1_Domains_sizes : Fld Z h0 ad1 "com/example/monarc/monarc/Domains" "sizes" "[I" (.ref ad8)) (HF_ad1_Domains_withOneValue : Fld Z h0 ad1 "com/example/monarc/monarc/Domains" "withOneValue" "I" (.int iv5)) (HF_ad1_Domains_trailSize : Fld Z h0 ad1 "com/example/monarc/monarc/Domains" "trailSize" "I" (.int iv6)) (HF_ad1_Domains_resized : Fld Z h0 ad1 "com/example/monarc/monarc/Domains" "resized" "Ljava/util/function/IntConsumer;" .null) (HG_ad8 : Ari Z h0 ad8 kc1 (2 : Int32) fv7) (nn_ad1 : n0 ≤ ad1) (nn_ad8 : n0 ≤ ad8) (ne_ad1_ad8 : ad1 ≠ ad8) (as0 : 0 ≤ (iv1).toInt ∧ (iv1).toInt < ((2 : Int32)).toInt) :
    MetFree l y_24 (head1 (Jvm.Cond.code y_24 prog_11_method_25_code 3 none :: ws) (rm 0 0 0 0)) (fun a_ U_ => a_ = #[(.ref ad1), (.int iv1), (.int iv2)] ∧ Z.Warmed39 U_.vm ∧ U_.heap = h0) (fun _ _ _ _ _ => True) (fun _ U_ o_ V_ => ∃ v_ L_, o_ = .returned v_ ∧ Q_am24_1 Z u_1 aw0 u_0 kaw0 ad1 iv1 iv2 ad3 ad4 ad5 ad6 ad7 ad8 iv5 iv6 kc1 fv7 h0 n0 v_ V_.heap L_ ∧ FrameEnd U_ o_ V_ L_ (rm 0 0 0 0).cells (rm 0 0 0 0).slots) := by
  refine MetFree.of_bodySF (plainFor_of_name pn_10) hisR ?_
  intro p e s m args below meth c s₁ Bd hml0 hP hK
  obtain ⟨rfl, hZ, hh⟩ := hP
  have hx := Bd.exec
  have hby := Bd.bytes
  have hml : c.maxLocals = 3 := hml0
  have hown : s.vm.findClass "com/example/monarc/monarc/Domains" = some m.cls := findClass_of_methodNamed Bd.named
  have hnm := (name_of_methodNamed Bd.named Bd.method).1
  have X0 : Stand p l e (rm 0 0 0 0) s m #[(.ref ad1), (.int iv1), (.int iv2)] below meth c s₁ [] 0 0 := Stand.of_body Bd
  have e0 : s₁.heap = h0 := by rw [← hh, Bd.state]; rfl
  have N0 := Fr.nil n0
  have kp0 := Keep.refl h0 [ad1, ad8]
  show Go p e below (Fin1 s below (Q_am24_1 Z u_1 aw0 u_0 kaw0 ad1 iv1 iv2 ad3 ad4 ad5 ad6 ad7 ad8 iv5 iv6 kc1 fv7 h0 n0) (rm 0 0 0 0).cells (rm 0 0 0 0).slots) _
  refine Go.step (fun t_ k_ => castTop (ef_am24_1 m ad1 iv1 iv2) k_) ?_
  obtain ⟨Eu_1, Su_1, Eaw0, Saw0, Au_1, Aaw0⟩ := id HW
  show Go p e below _ (s₁.setTop (mkF m 0 #[.val (.ref ad1), .val (.int iv1), .val (.int iv2)] []))
  refine gs.aloadN X0.here hx (hb hby d24_0) rfl rfl ?_
  refine gs.dup X0.here hx (hb hby d24_1) rfl ?_
  refine gs.getF X0 hx hZ hown (wd hw 172 rfl) Via.refl e0 HF_ad1_Domains_withOneValue (hb hby d24_2) fun T1 X1 e1 => ?_
  refine gs.iloadN X1.here hx (hb hby d24_5) rfl ?_
  refine gs.iconst 1 X1.here hx (hb hby d24_6) rfl ?_
  have J2 : ∀ z_2 : Int32, Go p e below (Fin1 s below (Q_am24_1 Z u_1 aw0 u_0 kaw0 ad1 iv1 iv2 ad3 ad4 ad5 ad6 ad7 ad8 iv5 iv6 kc1 fv7 h0 n0) (rm 0 0 0 0).cells (rm 0 0 0 0).slots) (T1.setTop (mkF m 15 #[.val (.ref ad1), .val (.int iv1), .val (.int iv2)] [(.int z_2), (.int iv5), (.ref ad1)])) := by
    intro z_2
    refine gs.aloadN X1.here hx (hb hby d24_15) rfl rfl ?_
    refine gs.getF X1 hx hZ hown (wd hw 136 rfl) Via.refl e1 HF_ad1_Domains_sizes (hb hby d24_16) fun T3 X3 e3 => ?_
    refine gs.iloadN X3.here hx (hb hby d24_19) rfl ?_
    obtain ⟨cl4, Ar4, q4, Sz4, Ng4, Hs4⟩ := id HG_ad8
    have hin4 : ¬ (iv1 < 0 ∨ cl4.slots.size ≤ (iv1).toNatClampNeg) := inb_of Sz4 (inb_int as0)
    have hat4 : cl4.slots[(iv1).toNatClampNeg]? = some (.int (fv7 (iv1).toNatClampNeg)) := Hs4 _ (lt_of_in hin4)
    refine Go.fin (fun t_ k_ => X3.iaload hx (j := iv1) (v := (.int (fv7 (iv1).toNatClampNeg))) (by rw [e3]; exact Ar4.1) (State.isArrayOf_alike hZ.alike Ar4.2.1) Ar4.2.2 hin4 hat4 (g := mkF m 20 _ _) rfl rfl (hb hby d24_20) _ k_) ?_
    show Go p e below _ (T3.setTop (mkF m 21 _ [(.int (fv7 (iv1).toNatClampNeg)), (.int z_2), (.int iv5), (.ref ad1)]))
    refine gs.iconst 1 X3.here hx (hb hby d24_21) rfl ?_
    have J5 : ∀ z_5 : Int32, Go p e below (Fin1 s below (Q_am24_1 Z u_1 aw0 u_0 kaw0 ad1 iv1 iv2 ad3 ad4 ad5 ad6 ad7 ad8 iv5 iv6 kc1 fv7 h0 n0) (rm 0 0 0 0).cells (rm 0 0 0 0).slots) (T3.setTop (mkF m 30 #[.val (.ref ad1), .val (.int iv1), .val (.int iv2)] [(.int z_5), (.int z_2), (.int iv5), (.ref ad1)])) := by
      intro z_5
      refine gs.isub X3.here hx (hb hby d24_30) ?_
      refine gs.iadd X3.here hx (hb hby d24_31) ?_
      obtain ⟨T6, h6, X6, e6, W6, st6⟩ := putF X3 hx hZ hown (host := "") (Or.inl (wd hw 172 rfl)) Via.refl e3 HF_ad1_Domains_withOneValue HE_ad1 (Or.inl (wd hw 173 rfl)) (wd hw 103 rfl) (ty := .int) (by decide) rfl rfl (g := (mkF m 32 #[.val (.ref ad1), .val (.int iv1), .val (.int iv2)] [(.int (iv5 + (z_2 - z_5))), (.ref ad1)])) rfl rfl (hb hby d24_32)
      have N6 := Fr.snoc X6 N0 nn_ad1
      have old6 := Ol.wr W6 nn_ad1
      have kp6 := kp0.wr W6 (Or.inl (List.mem_of_getElem? (i := 0) rfl))
      have F6 := HF_ad1_Domains_withOneValue.same W6
      refine Go.fin st6 ?_
      show Go p e below _ (T6.setTop (mkF m 35 _ []))
      refine gs.aloadN X6.here hx (hb hby d24_35) rfl rfl ?_
      have f7 := (HF_ad1_Domains_sizes.other W6 (Or.inr (sn50 hw)))
      refine gs.getF X6 hx hZ hown (wd hw 136 rfl) Via.refl e6 f7 (hb hby d24_36) fun T8 X8 e8 => ?_
      refine gs.iloadN X8.here hx (hb hby d24_39) rfl ?_
      refine gs.iloadN X8.here hx (hb hby d24_40) rfl ?_
      have f9 := (HG_ad8.other W6 (Ne.symm ne_ad1_ad8))
      obtain ⟨cl10, Ar10, q10, Sz10, Ng10, Hs10⟩ := id f9
      have hin10 : ¬ (iv1 < 0 ∨ cl10.slots.size ≤ (iv1).toNatClampNeg) := inb_of Sz10 (inb_int as0)
      obtain ⟨T11, h11, X11, e11, W11, st11⟩ := stI X8 hx hZ e8 Ar10 (j := iv1) hin10 (g := (mkF m 41 #[.val (.ref ad1), .val (.int iv1), .val (.int iv2)] [(.int iv2), (.int iv1), (.ref ad8)])) rfl rfl (hb hby d24_41)
      have N11 := Fr.snoc X11 N6 nn_ad8
      have old11 := old6.wr W11 nn_ad8
      have kp11 := kp6.wr W11 (Or.inl (List.mem_of_getElem? (i := 1) rfl))
      have V11 : Ari Z h11 ad8 kc1 (2 : Int32) (fun i => if i = (iv1).toNatClampNeg then iv2 else fv7 i) := Ari.set Ar10 q10 Sz10 Ng10 Hs10 W11
      refine Go.fin st11 ?_
      show Go p e below _ (T11.setTop (mkF m 42 _ []))
      have f12 := ((HE_ad1.wr W6).wr W11)
      have f13 := ((HF_ad1_Domains_holes.other W6 (Or.inr (sn53 hw))).other W11 (Or.inl ne_ad1_ad8))
      have f14 := ((HF_ad1_Domains_initial.other W6 (Or.inr (sn49 hw))).other W11 (Or.inl ne_ad1_ad8))
      have f15 := ((HF_ad1_Domains_lower.other W6 (Or.inr (sn57 hw))).other W11 (Or.inl ne_ad1_ad8))
      have f16 := ((HF_ad1_Domains_resized.other W6 (Or.inr (sn65 hw))).other W11 (Or.inl ne_ad1_ad8))
      have f17 := (f7.other W11 (Or.inl ne_ad1_ad8))
      have f18 := ((HF_ad1_Domains_trail.other W6 (Or.inr (sn72 hw))).other W11 (Or.inl ne_ad1_ad8))
      have f19 := ((HF_ad1_Domains_trailSize.other W6 (Or.inr (sn80 hw))).other W11 (Or.inl ne_ad1_ad8))
      have f20 := ((HF_ad1_Domains_upper.other W6 (Or.inr (sn51 hw))).other W11 (Or.inl ne_ad1_ad8))
      have f21 := (F6.other W11 (Or.inl ne_ad1_ad8))
      refine Go.retV X11 hx Bd.returns Bd.notSynchronized (hb hby d24_42) (by rw [e11]; exact ⟨((iv5 + (z_2 - z_5))), rfl, N11, kp11, f12, f13, f14, f15, f16, f17, f18, f19, f20, f21, V11⟩) (by decide) (by decide)
    by_cases hc22 : (fv7 (iv1).toNatClampNeg) = (1 : Int32)
    case pos =>
      refine gs.icmpNo X3.here hx (hb hby d24_22) (teq hc22).2 ?_
      refine gs.iconst 1 X3.here hx (hb hby d24_25) rfl ?_
      refine gs.goto 30 X3.here hx (hb hby d24_26) rfl ?_
      exact J5 _
    case neg =>
      refine gs.icmpYes 29 X3.here hx (hb hby d24_22) (feq hc22).2 rfl ?_
      refine gs.iconst 0 X3.here hx (hb hby d24_29) rfl ?_
      exact J5 _
  by_cases hc7 : iv2 = (1 : Int32)
  case pos =>
    refine gs.icmpNo X1.here hx (hb hby d24_7) (teq hc7).2 ?_
    refine gs.iconst 1 X1.here hx (hb hby d24_10) rfl ?_
    refine gs.goto 15 X1.here hx (hb hby d24_11) rfl ?_
    exact J2 _
  case neg =>
    refine gs.icmpYes 14 X1.here hx (hb hby d24_7) (feq hc7).2 rfl ?_
    refine gs.iconst 0 X1.here hx (hb hby d24_14) rfl ?_
    exact J2 _
theorem pd_15 : parseMethodDescriptor "(II)V" = some ⟨[.int, .int], none⟩ := by decide +kernel
theorem d26_56 : decode c_26 56 = .ok (.aload_n 0, 1) := by decide +kernel
theorem d26_57 : decode c_26 57 = .ok (.getfield 29, 3) := by decide +kernel
theorem d26_60 : decode c_26 60 = .ok (.iload_n 1, 1) := by decide +kernel
theorem d26_61 : decode c_26 61 = .ok (.iload_n 3, 1) := by decide +kernel
theorem d26_62 : decode c_26 62 = .ok (.iastore, 1) := by decide +kernel
theorem d26_63 : decode c_26 63 = .ok (.aload_n 0, 1) := by decide +kernel
theorem d26_64 : decode c_26 64 = .ok (.iload_n 1, 1) := by decide +kernel
theorem d26_65 : decode c_26 65 = .ok (.iconst 1, 1) := by decide +kernel
theorem d26_66 : decode c_26 66 = .ok (.iload 4, 2) := by decide +kernel
theorem d26_68 : decode c_26 68 = .ok (.invokevirtual 133, 3) := by decide +kernel
theorem d25_0 : decode c_25 0 = .ok (.aload_n 0, 1) := by decide +kernel
theorem d25_1 : decode c_25 1 = .ok (.getfield 147, 3) := by decide +kernel
theorem d25_4 : decode c_25 4 = .ok (.aload_n 0, 1) := by decide +kernel
theorem d25_5 : decode c_25 5 = .ok (.getfield 9, 3) := by decide +kernel
theorem d25_8 : decode c_25 8 = .ok (.arraylength, 1) := by decide +kernel
theorem d25_9 : decode c_25 9 = .ok (.if_icmp .ne 20, 3) := by decide +kernel
theorem d25_29 : decode c_25 29 = .ok (.aload_n 0, 1) := by decide +kernel
theorem d25_30 : decode c_25 30 = .ok (.getfield 9, 3) := by decide +kernel
theorem d25_33 : decode c_25 33 = .ok (.aload_n 0, 1) := by decide +kernel
theorem d25_34 : decode c_25 34 = .ok (.dup, 1) := by decide +kernel
theorem d25_35 : decode c_25 35 = .ok (.getfield 147, 3) := by decide +kernel
theorem d25_38 : decode c_25 38 = .ok (.dup_x1, 1) := by decide +kernel
theorem d25_39 : decode c_25 39 = .ok (.iconst 1, 1) := by decide +kernel
theorem d25_40 : decode c_25 40 = .ok (.iadd, 1) := by decide +kernel
theorem d25_41 : decode c_25 41 = .ok (.putfield 147, 3) := by decide +kernel
theorem d25_44 : decode c_25 44 = .ok (.iload_n 1, 1) := by decide +kernel
theorem d25_45 : decode c_25 45 = .ok (.i2l, 1) := by decide +kernel
theorem d25_46 : decode c_25 46 = .ok (.bipush 32, 2) := by decide +kernel
theorem d25_48 : decode c_25 48 = .ok (.lshl, 1) := by decide +kernel
theorem d25_49 : decode c_25 49 = .ok (.iload_n 2, 1) := by decide +kernel
theorem d25_50 : decode c_25 50 = .ok (.i2l, 1) := by decide +kernel
theorem d25_51 : decode c_25 51 = .ok (.bipush 30, 2) := by decide +kernel
theorem d25_53 : decode c_25 53 = .ok (.lshl, 1) := by decide +kernel
theorem d25_54 : decode c_25 54 = .ok (.lor, 1) := by decide +kernel
theorem d25_55 : decode c_25 55 = .ok (.iload_n 3, 1) := by decide +kernel
theorem d25_56 : decode c_25 56 = .ok (.i2l, 1) := by decide +kernel
theorem d25_57 : decode c_25 57 = .ok (.lor, 1) := by decide +kernel
theorem d25_58 : decode c_25 58 = .ok (.lastore, 1) := by decide +kernel
theorem d25_59 : decode c_25 59 = .ok (.aload_n 0, 1) := by decide +kernel
theorem d25_60 : decode c_25 60 = .ok (.getfield 104, 3) := by decide +kernel
theorem sn81 {a0 : Array Value} {Z : State} (hw : ∀ d ∈ tables_1, d.before a0 Z = true) : SN Z "com/example/monarc/monarc/Domains" "resized" "Ljava/util/function/IntConsumer;" "com/example/monarc/monarc/Domains" "trailSize" "I" := slot_ne (Or.inl (wd hw 197 rfl)) (Or.inl (wd hw 195 rfl)) (by decide) (t := (.object "java/util/function/IntConsumer")) (t' := .int) (by decide) (by decide)
theorem d25_63 : decode c_25 63 = .ok (.ifnull 13, 3) := by decide +kernel
theorem d25_76 : decode c_25 76 = .ok (.return_, 1) := by decide +kernel
theorem sn82 {a0 : Array Value} {Z : State} (hw : ∀ d ∈ tables_1, d.before a0 Z = true) : SN Z "com/example/monarc/monarc/Domains" "holes" "[[J" "com/example/monarc/monarc/Domains" "trailSize" "I" := slot_ne (Or.inr (wd hw 135 rfl)) (Or.inl (wd hw 195 rfl)) (by decide) (t := (.array (.array .long))) (t' := .int) (by decide) (by decide)
theorem sn83 {a0 : Array Value} {Z : State} (hw : ∀ d ∈ tables_1, d.before a0 Z = true) : SN Z "com/example/monarc/monarc/Domains" "initial" "[Lcom/example/monarc/monarc/InitialDomain;" "com/example/monarc/monarc/Domains" "trailSize" "I" := slot_ne (Or.inr (wd hw 127 rfl)) (Or.inl (wd hw 195 rfl)) (by decide) (t := (.array (.object "com/example/monarc/monarc/InitialDomain"))) (t' := .int) (by decide) (by decide)
theorem sn84 {a0 : Array Value} {Z : State} (hw : ∀ d ∈ tables_1, d.before a0 Z = true) : SN Z "com/example/monarc/monarc/Domains" "lower" "[I" "com/example/monarc/monarc/Domains" "trailSize" "I" := slot_ne (Or.inr (wd hw 129 rfl)) (Or.inl (wd hw 195 rfl)) (by decide) (t := (.array .int)) (t' := .int) (by decide) (by decide)
theorem sn85 {a0 : Array Value} {Z : State} (hw : ∀ d ∈ tables_1, d.before a0 Z = true) : SN Z "com/example/monarc/monarc/Domains" "sizes" "[I" "com/example/monarc/monarc/Domains" "trailSize" "I" := slot_ne (Or.inr (wd hw 137 rfl)) (Or.inl (wd hw 195 rfl)) (by decide) (t := (.array .int)) (t' := .int) (by decide) (by decide)
theorem sn86 {a0 : Array Value} {Z : State} (hw : ∀ d ∈ tables_1, d.before a0 Z = true) : SN Z "com/example/monarc/monarc/Domains" "trail" "[J" "com/example/monarc/monarc/Domains" "trailSize" "I" := slot_ne (Or.inl (wd hw 111 rfl)) (Or.inl (wd hw 195 rfl)) (by decide) (t := (.array .long)) (t' := .int) (by decide) (by decide)
theorem sn87 {a0 : Array Value} {Z : State} (hw : ∀ d ∈ tables_1, d.before a0 Z = true) : SN Z "com/example/monarc/monarc/Domains" "upper" "[I" "com/example/monarc/monarc/Domains" "trailSize" "I" := slot_ne (Or.inr (wd hw 131 rfl)) (Or.inl (wd hw 195 rfl)) (by decide) (t := (.array .int)) (t' := .int) (by decide) (by decide)
theorem sn88 {a0 : Array Value} {Z : State} (hw : ∀ d ∈ tables_1, d.before a0 Z = true) : SN Z "com/example/monarc/monarc/Domains" "withOneValue" "I" "com/example/monarc/monarc/Domains" "trailSize" "I" := slot_ne (Or.inl (wd hw 173 rfl)) (Or.inl (wd hw 195 rfl)) (by decide) (t := .int) (t' := .int) (by decide) (by decide)
theorem ef_am25_1 (m : MethodId) (x0 : Addr) (x1 : Int32) (x2 : Int32) (x3 : Int32)  : entryFrame m #[(.ref x0), (.int x1), (.int x2), (.int x3)] 4 = mkF m 0 #[.val (.ref x0), .val (.int x1), .val (.int x2), .val (.int x3)] [] := by first | (simp [entryFrame, mkF, argsToLocals, Value.category]; done) | rfl
def Q_am25_1 (Z : State) (u_1 : Addr) (aw0 : Addr) (u_0 : ClassId) (kaw0 : ClassId) (ad1 : Addr) (iv1 : Int32) (ad3 : Addr) (ad4 : Addr) (ad5 : Addr) (ad6 : Addr) (ad7 : Addr) (ad8 : Addr) (iv4 : Int32) (iv5 : Int32) (kc6 : ClassId) (fv11 : Nat → Int64) (h0 : Heap) (n0 : Nat) (v : Option Value) (h : Heap) (L : List Loc) : Prop := v = none ∧ Fr n0 L ∧ Keep h0 h [ad1, ad3] ∧ (Exa Z h ad1 "com/example/monarc/monarc/Domains") ∧ (Fld Z h ad1 "com/example/monarc/monarc/Domains" "holes" "[[J" (.ref ad7)) ∧ (Fld Z h ad1 "com/example/monarc/monarc/Domains" "initial" "[Lcom/example/monarc/monarc/InitialDomain;" (.ref ad4)) ∧ (Fld Z h ad1 "com/example/monarc/monarc/Domains" "lower" "[I" (.ref ad5)) ∧ (Fld Z h ad1 "com/example/monarc/monarc/Domains" "resized" "Ljava/util/function/IntConsumer;" .null) ∧ (Fld Z h ad1 "com/example/monarc/monarc/Domains" "sizes" "[I" (.ref ad8)) ∧ (Fld Z h ad1 "com/example/monarc/monarc/Domains" "trail" "[J" (.ref ad3)) ∧ (Fld Z h ad1 "com/example/monarc/monarc/Domains" "trailSize" "I" (.int (iv5 + (1 : Int32)))) ∧ (Fld Z h ad1 "com/example/monarc/monarc/Domains" "upper" "[I" (.ref ad6)) ∧ (Fld Z h ad1 "com/example/monarc/monarc/Domains" "withOneValue" "I" (.int iv4)) ∧ (Exa Z h ad3 "[J") ∧ (Arf Z h ad3 kc6 (1024 : Int32) (fun i => if i = (iv5).toNatClampNeg then ((((iv1.toInt64) <<< ((32 : Int32) &&& 0x3f).toInt64) ||| ((1 : Int64) <<< ((30 : Int32) &&& 0x3f).toInt64)) ||| (0 : Int64)) else fv11 i))
set_option maxRecDepth 65536 in
set_option maxHeartbeats 40000000 in
theorem am25_1 (l : Launch) (Z : State) (a0 : Array Value) (hw : ∀ d ∈ tables_1, d.before a0 Z = true) (ws : List Jvm.Cond) (u_1 : Addr) (aw0 : Addr) (u_0 : ClassId) (kaw0 : ClassId) (HW : Wd Z u_1 aw0 u_0 kaw0) (ad1 : Addr) (iv1 : Int32) (ad3 : Addr) (ad4 : Addr) (ad5 : Addr) (ad6 : Addr) (ad7 : Addr) (ad8 : Addr) (iv4 : Int32) (iv5 : Int32) (kc6 : ClassId) (fv11 : Nat → Int64) (h0 : Heap) (n0 : Nat) (Ol : Old Z n0 h0) (HE_ad1 : Exa Z h0 ad1 "com/example/monarc/monarc/Domains") (HF_ad1_Domains_trail : Fld Z h0 ad1 "com/example/monarc/monarc/Domains" "trail" "[J" (.ref ad3)) (HF_ad1_Domains_initial : Fld Z h0 ad1 "com/example/monarc/monarc/Domains" "initial" "[Lcom/example/monarc/monarc/InitialDomain;" (.ref ad4)) (HF_ad1_Domains_lower : Fld Z h0 ad1 "com/example/monarc/monarc/Domains" "lower" "[I" (.ref ad5)) (HF_ad1_Domains_upper : Fld Z h0 ad1 "com/example/monarc/monarc/Domains" "upper" "[I" (.ref ad6)) (HF_ad1_Domains_holes : Fld Z h0 ad1 "com/example/monarc/monarc/Domains" "holes" "[[J" (.ref ad7)) (HF_ad1_Domains_sizes : Fld Z h0 ad1 "com/example/monarc/monarc/Domains" "sizes" "[I" (.ref ad8)) (HF_ad1_Domains_withOneValue : Fld Z h0 ad1 "com/example/monarc/monarc/Domains" "withOneValue" "I" (.int iv4)) (HF_ad1_Domains_trailSize : Fld Z h0 ad1 "com/example/monarc/monarc/Domains" "trailSize" "I" (.int iv5)) (HF_ad1_Domains_resized : Fld Z h0 ad1 "com/example/monarc/monarc/Domains" "resized" "Ljava/util/function/IntConsumer;" .null) (HE_ad3 : Exa Z h0 ad3 "[J") (HG_ad3 : Arf Z h0 ad3 kc6 (1024 : Int32) fv11) (nn_ad1 : n0 ≤ ad1) (nn_ad3 : n0 ≤ ad3) (ne_ad1_ad3 : ad1 ≠ ad3) (as0 : 0 ≤ (iv5).toInt ∧ (iv5).toInt < ((1024 : Int32)).toInt) (as1 : ¬ (iv5 = (1024 : Int32))) :
    MetFree l y_25 (head1 (Jvm.Cond.code y_25 prog_11_method_26_code 4 none :: ws) (rm 0 0 0 0)) (fun a_ U_ => a_ = #[(.ref ad1), (.int iv1), (.int (1 : Int32)), (.int (0 : Int32))] ∧ Z.Warmed39 U_.vm ∧ U_.heap = h0) (fun _ _ _ _ _ => True) (fun _ U_ o_ V_ => ∃ v_ L_, o_ = .returned v_ ∧ Q_am25_1 Z u_1 aw0 u_0 kaw0 ad1 iv1 ad3 ad4 ad5 ad6 ad7 ad8 iv4 iv5 kc6 fv11 h0 n0 v_ V_.heap L_ ∧ FrameEnd U_ o_ V_ L_ (rm 0 0 0 0).cells (rm 0 0 0 0).slots) := by
  refine MetFree.of_bodySF (plainFor_of_name pn_10) hisR ?_
  intro p e s m args below meth c s₁ Bd hml0 hP hK
  obtain ⟨rfl, hZ, hh⟩ := hP
  have hx := Bd.exec
  have hby := Bd.bytes
  have hml : c.maxLocals = 4 := hml0
  have hown : s.vm.findClass "com/example/monarc/monarc/Domains" = some m.cls := findClass_of_methodNamed Bd.named
  have hnm := (name_of_methodNamed Bd.named Bd.method).1
  have X0 : Stand p l e (rm 0 0 0 0) s m #[(.ref ad1), (.int iv1), (.int (1 : Int32)), (.int (0 : Int32))] below meth c s₁ [] 0 0 := Stand.of_body Bd
  have e0 : s₁.heap = h0 := by rw [← hh, Bd.state]; rfl
  have N0 := Fr.nil n0
  have kp0 := Keep.refl h0 [ad1, ad3]
  show Go p e below (Fin1 s below (Q_am25_1 Z u_1 aw0 u_0 kaw0 ad1 iv1 ad3 ad4 ad5 ad6 ad7 ad8 iv4 iv5 kc6 fv11 h0 n0) (rm 0 0 0 0).cells (rm 0 0 0 0).slots) _
  refine Go.step (fun t_ k_ => castTop (ef_am25_1 m ad1 iv1 (1 : Int32) (0 : Int32)) k_) ?_
  obtain ⟨Eu_1, Su_1, Eaw0, Saw0, Au_1, Aaw0⟩ := id HW
  show Go p e below _ (s₁.setTop (mkF m 0 #[.val (.ref ad1), .val (.int iv1), .val (.int (1 : Int32)), .val (.int (0 : Int32))] []))
  refine gs.aloadN X0.here hx (hb hby d25_0) rfl rfl ?_
  refine gs.getF X0 hx hZ hown (wd hw 194 rfl) Via.refl e0 HF_ad1_Domains_trailSize (hb hby d25_1) fun T1 X1 e1 => ?_
  refine gs.aloadN X1.here hx (hb hby d25_4) rfl rfl ?_
  refine gs.getF X1 hx hZ hown (wd hw 110 rfl) Via.refl e1 HF_ad1_Domains_trail (hb hby d25_5) fun T2 X2 e2 => ?_
  obtain ⟨cl3, Ar3, -, Sz3, Ng3, -⟩ := id HG_ad3
  refine Go.fin (fun t_ k_ => X2.arraylength hx (by rw [e2]; exact Ar3.1) (State.isArrayOf_alike hZ.alike Ar3.2.1) (g := mkF m 8 _ _) rfl rfl (hb hby d25_8) _ k_) ?_
  rw [len_of Sz3 Ng3]
  show Go p e below _ (T2.setTop (mkF m 9 _ [(.int (1024 : Int32)), (.int iv5)]))
  have hc9 : ¬ (iv5 = (1024 : Int32)) := as1
  refine gs.icmpYes 29 X2.here hx (hb hby d25_9) (feq hc9).2 rfl ?_
  refine gs.aloadN X2.here hx (hb hby d25_29) rfl rfl ?_
  refine gs.getF X2 hx hZ hown (wd hw 110 rfl) Via.refl e2 HF_ad1_Domains_trail (hb hby d25_30) fun T4 X4 e4 => ?_
  refine gs.aloadN X4.here hx (hb hby d25_33) rfl rfl ?_
  refine gs.dup X4.here hx (hb hby d25_34) rfl ?_
  refine gs.getF X4 hx hZ hown (wd hw 194 rfl) Via.refl e4 HF_ad1_Domains_trailSize (hb hby d25_35) fun T5 X5 e5 => ?_
  refine Go.fin (fun t_ k_ => XS.dupX1 X5.here hx rfl (hb hby d25_38) rfl rfl rfl k_) ?_
  show Go p e below _ (T5.setTop (mkF m 39 _ [(.int iv5), (.ref ad1), (.int iv5), (.ref ad3)]))
  refine gs.iconst 1 X5.here hx (hb hby d25_39) rfl ?_
  refine gs.iadd X5.here hx (hb hby d25_40) ?_
  obtain ⟨T6, h6, X6, e6, W6, st6⟩ := putF X5 hx hZ hown (host := "") (Or.inl (wd hw 194 rfl)) Via.refl e5 HF_ad1_Domains_trailSize HE_ad1 (Or.inl (wd hw 195 rfl)) (wd hw 103 rfl) (ty := .int) (by decide) rfl rfl (g := (mkF m 41 #[.val (.ref ad1), .val (.int iv1), .val (.int (1 : Int32)), .val (.int (0 : Int32))] [(.int (iv5 + (1 : Int32))), (.ref ad1), (.int iv5), (.ref ad3)])) rfl rfl (hb hby d25_41)
  have N6 := Fr.snoc X6 N0 nn_ad1
  have old6 := Ol.wr W6 nn_ad1
  have kp6 := kp0.wr W6 (Or.inl (List.mem_of_getElem? (i := 0) rfl))
  have F6 := HF_ad1_Domains_trailSize.same W6
  refine Go.fin st6 ?_
  show Go p e below _ (T6.setTop (mkF m 44 _ [(.int iv5), (.ref ad3)]))
  refine gs.iloadN X6.here hx (hb hby d25_44) rfl ?_
  refine Go.fin (fun t_ k_ => XS.i2l X6.here hx rfl (hb hby d25_45) rfl k_) ?_
  show Go p e below _ (T6.setTop (mkF m 46 _ [(.long (iv1.toInt64)), (.int iv5), (.ref ad3)]))
  refine gs.bipush 32 X6.here hx (hb hby d25_46) rfl ?_
  refine Go.fin (fun t_ k_ => XS.lshl X6.here hx rfl (hb hby d25_48) rfl k_) ?_
  show Go p e below _ (T6.setTop (mkF m 49 _ [(.long ((iv1.toInt64) <<< ((32 : Int32) &&& 0x3f).toInt64)), (.int iv5), (.ref ad3)]))
  refine gs.iloadN X6.here hx (hb hby d25_49) rfl ?_
  refine Go.fin (fun t_ k_ => XS.i2l X6.here hx rfl (hb hby d25_50) rfl k_) ?_
  show Go p e below _ (T6.setTop (mkF m 51 _ [(.long ((1 : Int32).toInt64)), (.long ((iv1.toInt64) <<< ((32 : Int32) &&& 0x3f).toInt64)), (.int iv5), (.ref ad3)]))
  rw [show ((1 : Int32).toInt64) = (1 : Int64) from by decide]
  refine gs.bipush 30 X6.here hx (hb hby d25_51) rfl ?_
  refine Go.fin (fun t_ k_ => XS.lshl X6.here hx rfl (hb hby d25_53) rfl k_) ?_
  show Go p e below _ (T6.setTop (mkF m 54 _ [(.long ((1 : Int64) <<< ((30 : Int32) &&& 0x3f).toInt64)), (.long ((iv1.toInt64) <<< ((32 : Int32) &&& 0x3f).toInt64)), (.int iv5), (.ref ad3)]))
  refine gs.lor X6.here hx (hb hby d25_54) ?_
  refine gs.iloadN X6.here hx (hb hby d25_55) rfl ?_
  refine Go.fin (fun t_ k_ => XS.i2l X6.here hx rfl (hb hby d25_56) rfl k_) ?_
  show Go p e below _ (T6.setTop (mkF m 57 _ [(.long ((0 : Int32).toInt64)), (.long (((iv1.toInt64) <<< ((32 : Int32) &&& 0x3f).toInt64) ||| ((1 : Int64) <<< ((30 : Int32) &&& 0x3f).toInt64))), (.int iv5), (.ref ad3)]))
  rw [show ((0 : Int32).toInt64) = (0 : Int64) from by decide]
  refine gs.lor X6.here hx (hb hby d25_57) ?_
  have f7 := (HG_ad3.other W6 (Ne.symm ne_ad1_ad3))
  obtain ⟨cl8, Ar8, q8, Sz8, Ng8, Hs8⟩ := id f7
  have hin8 : ¬ (iv5 < 0 ∨ cl8.slots.size ≤ (iv5).toNatClampNeg) := inb_of Sz8 (inb_int as0)
  obtain ⟨T9, h9, X9, e9, W9, st9⟩ := stJ X6 hx hZ e6 Ar8 (j := iv5) hin8 (g := (mkF m 58 #[.val (.ref ad1), .val (.int iv1), .val (.int (1 : Int32)), .val (.int (0 : Int32))] [(.long ((((iv1.toInt64) <<< ((32 : Int32) &&& 0x3f).toInt64) ||| ((1 : Int64) <<< ((30 : Int32) &&& 0x3f).toInt64)) ||| (0 : Int64))), (.int iv5), (.ref ad3)])) rfl rfl (hb hby d25_58)
  have N9 := Fr.snoc X9 N6 nn_ad3
  have old9 := old6.wr W9 nn_ad3
  have kp9 := kp6.wr W9 (Or.inl (List.mem_of_getElem? (i := 1) rfl))
  have V9 : Arf Z h9 ad3 kc6 (1024 : Int32) (fun i => if i = (iv5).toNatClampNeg then ((((iv1.toInt64) <<< ((32 : Int32) &&& 0x3f).toInt64) ||| ((1 : Int64) <<< ((30 : Int32) &&& 0x3f).toInt64)) ||| (0 : Int64)) else fv11 i) := Arf.set Ar8 q8 Sz8 Ng8 Hs8 W9
  refine Go.fin st9 ?_
  show Go p e below _ (T9.setTop (mkF m 59 _ []))
  refine gs.aloadN X9.here hx (hb hby d25_59) rfl rfl ?_
  have f10 := ((HF_ad1_Domains_resized.other W6 (Or.inr (sn81 hw))).other W9 (Or.inl ne_ad1_ad3))
  refine gs.getF X9 hx hZ hown (wd hw 196 rfl) Via.refl e9 f10 (hb hby d25_60) fun T11 X11 e11 => ?_
  refine Go.fin (fun t_ k_ => XS.ifnullYes X11.here hx rfl (pc0 := 63) (pc' := 76) rfl (hb hby d25_63) rfl (by decide) (by decide) k_) ?_
  show Go p e below _ (T11.setTop (mkF m 76 _ []))
  have f12 := ((HE_ad1.wr W6).wr W9)
  have f13 := ((HF_ad1_Domains_holes.other W6 (Or.inr (sn82 hw))).other W9 (Or.inl ne_ad1_ad3))
  have f14 := ((HF_ad1_Domains_initial.other W6 (Or.inr (sn83 hw))).other W9 (Or.inl ne_ad1_ad3))
  have f15 := ((HF_ad1_Domains_lower.other W6 (Or.inr (sn84 hw))).other W9 (Or.inl ne_ad1_ad3))
  have f16 := ((HF_ad1_Domains_sizes.other W6 (Or.inr (sn85 hw))).other W9 (Or.inl ne_ad1_ad3))
  have f17 := ((HF_ad1_Domains_trail.other W6 (Or.inr (sn86 hw))).other W9 (Or.inl ne_ad1_ad3))
  have f18 := (F6.other W9 (Or.inl ne_ad1_ad3))
  have f19 := ((HF_ad1_Domains_upper.other W6 (Or.inr (sn87 hw))).other W9 (Or.inl ne_ad1_ad3))
  have f20 := ((HF_ad1_Domains_withOneValue.other W6 (Or.inr (sn88 hw))).other W9 (Or.inl ne_ad1_ad3))
  have f21 := ((HE_ad3.wr W6).wr W9)
  refine Go.retV X11 hx Bd.returns Bd.notSynchronized (hb hby d25_76) (by rw [e11]; exact ⟨rfl, N9, kp9, f12, f13, f14, f15, f10, f16, f17, f18, f19, f20, f21, V9⟩) (by decide) (by decide)
theorem pd_16 : parseMethodDescriptor "(III)V" = some ⟨[.int, .int, .int], none⟩ := by decide +kernel
theorem d26_71 : decode c_26 71 = .ok (.return_, 1) := by decide +kernel
theorem ef_am26_1 (m : MethodId) (x0 : Addr) (x1 : Int32) (x2 : Int32)  : entryFrame m #[(.ref x0), (.int x1), (.int x2)] 5 = mkF m 0 #[.val (.ref x0), .val (.int x1), .val (.int x2), .unset, .unset] [] := by first | (simp [entryFrame, mkF, argsToLocals, Value.category]; done) | rfl
def Q_am26_1 (Z : State) (u_1 : Addr) (aw0 : Addr) (u_0 : ClassId) (kaw0 : ClassId) (ad1 : Addr) (iv1 : Int32) (iv2 : Int32) (ad3 : Addr) (ad4 : Addr) (ad5 : Addr) (ad6 : Addr) (ad7 : Addr) (ad8 : Addr) (iv5 : Int32) (iv6 : Int32) (kc1 : ClassId) (fv7 : Nat → Int32) (kc2 : ClassId) (fv8 : Nat → Int32) (kc3 : ClassId) (fv9 : Nat → Int32) (kc4 : ClassId) (fv10 : Nat → Value) (kc6 : ClassId) (fv12 : Nat → Int64) (iv13 : Int32) (h0 : Heap) (n0 : Nat) (v : Option Value) (h : Heap) (L : List Loc) : Prop := ∃ ex1 : Int32, v = none ∧ Fr n0 L ∧ Keep h0 h [ad1, ad3, ad5, ad8] ∧ (Exa Z h ad1 "com/example/monarc/monarc/Domains") ∧ (Fld Z h ad1 "com/example/monarc/monarc/Domains" "holes" "[[J" (.ref ad7)) ∧ (Fld Z h ad1 "com/example/monarc/monarc/Domains" "initial" "[Lcom/example/monarc/monarc/InitialDomain;" (.ref ad4)) ∧ (Fld Z h ad1 "com/example/monarc/monarc/Domains" "lower" "[I" (.ref ad5)) ∧ (Fld Z h ad1 "com/example/monarc/monarc/Domains" "resized" "Ljava/util/function/IntConsumer;" .null) ∧ (Fld Z h ad1 "com/example/monarc/monarc/Domains" "sizes" "[I" (.ref ad8)) ∧ (Fld Z h ad1 "com/example/monarc/monarc/Domains" "trail" "[J" (.ref ad3)) ∧ (Fld Z h ad1 "com/example/monarc/monarc/Domains" "trailSize" "I" (.int (iv6 + (1 : Int32)))) ∧ (Fld Z h ad1 "com/example/monarc/monarc/Domains" "upper" "[I" (.ref ad6)) ∧ (Fld Z h ad1 "com/example/monarc/monarc/Domains" "withOneValue" "I" (.int ex1)) ∧ (Exa Z h ad3 "[J") ∧ (Arf Z h ad3 kc6 (1024 : Int32) (fun i => if i = (iv6).toNatClampNeg then ((((iv1.toInt64) <<< ((32 : Int32) &&& 0x3f).toInt64) ||| ((1 : Int64) <<< ((30 : Int32) &&& 0x3f).toInt64)) ||| (0 : Int64)) else fv12 i)) ∧ (Ari Z h ad5 kc3 (2 : Int32) (fun i => if i = (iv1).toNatClampNeg then (iv13 + (1 : Int32)) else fv9 i)) ∧ (Ari Z h ad8 kc1 (2 : Int32) (fun i => if i = (iv1).toNatClampNeg then ((fv7 (iv1).toNatClampNeg) - (mxI (0 : Int32) ((iv13 + (1 : Int32)) - (0 : Int32)))) else fv7 i))
set_option maxRecDepth 65536 in
set_option maxHeartbeats 40000000 in
theorem am26_1 (l : Launch) (Z : State) (a0 : Array Value) (hw : ∀ d ∈ tables_1, d.before a0 Z = true) (ws : List Jvm.Cond) (u_1 : Addr) (aw0 : Addr) (u_0 : ClassId) (kaw0 : ClassId) (HW : Wd Z u_1 aw0 u_0 kaw0) (ad1 : Addr) (iv1 : Int32) (iv2 : Int32) (ad3 : Addr) (ad4 : Addr) (ad5 : Addr) (ad6 : Addr) (ad7 : Addr) (ad8 : Addr) (iv5 : Int32) (iv6 : Int32) (kc1 : ClassId) (fv7 : Nat → Int32) (kc2 : ClassId) (fv8 : Nat → Int32) (kc3 : ClassId) (fv9 : Nat → Int32) (kc4 : ClassId) (fv10 : Nat → Value) (kc6 : ClassId) (fv12 : Nat → Int64) (iv13 : Int32) (h0 : Heap) (n0 : Nat) (Ol : Old Z n0 h0) (HE_ad1 : Exa Z h0 ad1 "com/example/monarc/monarc/Domains") (HF_ad1_Domains_trail : Fld Z h0 ad1 "com/example/monarc/monarc/Domains" "trail" "[J" (.ref ad3)) (HF_ad1_Domains_initial : Fld Z h0 ad1 "com/example/monarc/monarc/Domains" "initial" "[Lcom/example/monarc/monarc/InitialDomain;" (.ref ad4)) (HF_ad1_Domains_lower : Fld Z h0 ad1 "com/example/monarc/monarc/Domains" "lower" "[I" (.ref ad5)) (HF_ad1_Domains_upper : Fld Z h0 ad1 "com/example/monarc/monarc/Domains" "upper" "[I" (.ref ad6)) (HF_ad1_Domains_holes : Fld Z h0 ad1 "com/example/monarc/monarc/Domains" "holes" "[[J" (.ref ad7)) (HF_ad1_Domains_sizes : Fld Z h0 ad1 "com/example/monarc/monarc/Domains" "sizes" "[I" (.ref ad8)) (HF_ad1_Domains_withOneValue : Fld Z h0 ad1 "com/example/monarc/monarc/Domains" "withOneValue" "I" (.int iv5)) (HF_ad1_Domains_trailSize : Fld Z h0 ad1 "com/example/monarc/monarc/Domains" "trailSize" "I" (.int iv6)) (HF_ad1_Domains_resized : Fld Z h0 ad1 "com/example/monarc/monarc/Domains" "resized" "Ljava/util/function/IntConsumer;" .null) (HE_ad3 : Exa Z h0 ad3 "[J") (HG_ad8 : Ari Z h0 ad8 kc1 (2 : Int32) fv7) (HG_ad6 : Ari Z h0 ad6 kc2 (2 : Int32) fv8) (HG_ad5 : Ari Z h0 ad5 kc3 (2 : Int32) fv9) (HG_ad7 : Arw Z h0 ad7 kc4 (.array .long) (2 : Int32) fv10) (HG_ad3 : Arf Z h0 ad3 kc6 (1024 : Int32) fv12) (nn_ad1 : n0 ≤ ad1) (nn_ad3 : n0 ≤ ad3) (nn_ad5 : n0 ≤ ad5) (nn_ad8 : n0 ≤ ad8) (ne_ad1_ad3 : ad1 ≠ ad3) (ne_ad1_ad5 : ad1 ≠ ad5) (ne_ad1_ad8 : ad1 ≠ ad8) (ne_ad3_ad5 : ad3 ≠ ad5) (ne_ad3_ad8 : ad3 ≠ ad8) (ne_ad5_ad8 : ad5 ≠ ad8) (as0 : 0 ≤ (iv1).toInt ∧ (iv1).toInt < ((2 : Int32)).toInt) (as1 : 0 ≤ (iv6).toInt ∧ (iv6).toInt < ((1024 : Int32)).toInt) (as2 : iv13 < iv2) (as3 : ¬ (iv6 = (1024 : Int32))) (eq0 : (fv8 (iv1).toNatClampNeg) = iv13) (eq1 : (fv9 (iv1).toNatClampNeg) = (0 : Int32)) (rq0 : (fv10 (iv1).toNatClampNeg) = .null) (hO_ad7 : OvrA Z kc4 .long "[J") :
    MetFree l y_26 (head1 (Jvm.Cond.code y_26 prog_11_method_23_code 5 none :: ws) (rm 2 0 0 40)) (fun a_ U_ => a_ = #[(.ref ad1), (.int iv1), (.int iv2)] ∧ Z.Warmed39 U_.vm ∧ U_.heap = h0) (fun _ _ _ _ _ => True) (fun _ U_ o_ V_ => ∃ v_ L_, o_ = .returned v_ ∧ Q_am26_1 Z u_1 aw0 u_0 kaw0 ad1 iv1 iv2 ad3 ad4 ad5 ad6 ad7 ad8 iv5 iv6 kc1 fv7 kc2 fv8 kc3 fv9 kc4 fv10 kc6 fv12 iv13 h0 n0 v_ V_.heap L_ ∧ FrameEnd U_ o_ V_ L_ (rm 2 0 0 40).cells (rm 2 0 0 40).slots) := by
  refine MetFree.of_bodySF (plainFor_of_name pn_10) hisR ?_
  intro p e s m args below meth c s₁ Bd hml0 hP hK
  obtain ⟨rfl, hZ, hh⟩ := hP
  have hx := Bd.exec
  have hby := Bd.bytes
  have hml : c.maxLocals = 5 := hml0
  have hown : s.vm.findClass "com/example/monarc/monarc/Domains" = some m.cls := findClass_of_methodNamed Bd.named
  have hnm := (name_of_methodNamed Bd.named Bd.method).1
  have X0 : Stand p l e (rm 2 0 0 40) s m #[(.ref ad1), (.int iv1), (.int iv2)] below meth c s₁ [] 0 0 := Stand.of_body Bd
  have e0 : s₁.heap = h0 := by rw [← hh, Bd.state]; rfl
  have N0 := Fr.nil n0
  have kp0 := Keep.refl h0 [ad1, ad3, ad5, ad8]
  show Go p e below (Fin1 s below (Q_am26_1 Z u_1 aw0 u_0 kaw0 ad1 iv1 iv2 ad3 ad4 ad5 ad6 ad7 ad8 iv5 iv6 kc1 fv7 kc2 fv8 kc3 fv9 kc4 fv10 kc6 fv12 iv13 h0 n0) (rm 2 0 0 40).cells (rm 2 0 0 40).slots) _
  refine Go.step (fun t_ k_ => castTop (ef_am26_1 m ad1 iv1 iv2) k_) ?_
  obtain ⟨Eu_1, Su_1, Eaw0, Saw0, Au_1, Aaw0⟩ := id HW
  show Go p e below _ (s₁.setTop (mkF m 0 #[.val (.ref ad1), .val (.int iv1), .val (.int iv2), .unset, .unset] []))
  refine gs.iloadN X0.here hx (hb hby d26_0) rfl ?_
  refine gs.aloadN X0.here hx (hb hby d26_1) rfl rfl ?_
  refine gs.getF X0 hx hZ hown (wd hw 130 rfl) Via.refl e0 HF_ad1_Domains_upper (hb hby d26_2) fun T1 X1 e1 => ?_
  refine gs.iloadN X1.here hx (hb hby d26_5) rfl ?_
  obtain ⟨cl2, Ar2, q2, Sz2, Ng2, Hs2⟩ := id HG_ad6
  have hin2 : ¬ (iv1 < 0 ∨ cl2.slots.size ≤ (iv1).toNatClampNeg) := inb_of Sz2 (inb_int as0)
  have hat2 : cl2.slots[(iv1).toNatClampNeg]? = some (.int (fv8 (iv1).toNatClampNeg)) := Hs2 _ (lt_of_in hin2)
  refine Go.fin (fun t_ k_ => X1.iaload hx (j := iv1) (v := (.int (fv8 (iv1).toNatClampNeg))) (by rw [e1]; exact Ar2.1) (State.isArrayOf_alike hZ.alike Ar2.2.1) Ar2.2.2 hin2 hat2 (g := mkF m 6 _ _) rfl rfl (hb hby d26_6) _ k_) ?_
  show Go p e below _ (T1.setTop (mkF m 7 _ [(.int (fv8 (iv1).toNatClampNeg)), (.int iv2)]))
  rw [show (fv8 (iv1).toNatClampNeg) = iv13 from eq0]
  have hc7 : iv13 < iv2 := as2
  refine gs.icmpNo X1.here hx (hb hby d26_7) (tlt hc7).2.2.2 ?_
  refine gs.aloadN X1.here hx (hb hby d26_10) rfl rfl ?_
  refine gs.getF X1 hx hZ hown (wd hw 130 rfl) Via.refl e1 HF_ad1_Domains_upper (hb hby d26_11) fun T3 X3 e3 => ?_
  refine gs.iloadN X3.here hx (hb hby d26_14) rfl ?_
  obtain ⟨cl4, Ar4, q4, Sz4, Ng4, Hs4⟩ := id HG_ad6
  have hin4 : ¬ (iv1 < 0 ∨ cl4.slots.size ≤ (iv1).toNatClampNeg) := inb_of Sz4 (inb_int as0)
  have hat4 : cl4.slots[(iv1).toNatClampNeg]? = some (.int (fv8 (iv1).toNatClampNeg)) := Hs4 _ (lt_of_in hin4)
  refine Go.fin (fun t_ k_ => X3.iaload hx (j := iv1) (v := (.int (fv8 (iv1).toNatClampNeg))) (by rw [e3]; exact Ar4.1) (State.isArrayOf_alike hZ.alike Ar4.2.1) Ar4.2.2 hin4 hat4 (g := mkF m 15 _ _) rfl rfl (hb hby d26_15) _ k_) ?_
  show Go p e below _ (T3.setTop (mkF m 16 _ [(.int (fv8 (iv1).toNatClampNeg))]))
  rw [show (fv8 (iv1).toNatClampNeg) = iv13 from eq0]
  refine gs.iconst 1 X3.here hx (hb hby d26_16) rfl ?_
  refine gs.iadd X3.here hx (hb hby d26_17) ?_
  refine gs.goto 27 X3.here hx (hb hby d26_18) rfl ?_
  refine gs.istoreN X3.here hx (hb hby d26_27) (l' := #[.val (.ref ad1), .val (.int iv1), .val (.int iv2), .val (.int (iv13 + (1 : Int32))), .unset]) rfl ?_
  refine gs.aloadN X3.here hx (hb hby d26_28) rfl rfl ?_
  refine gs.getF X3 hx hZ hown (wd hw 128 rfl) Via.refl e3 HF_ad1_Domains_lower (hb hby d26_29) fun T5 X5 e5 => ?_
  refine gs.iloadN X5.here hx (hb hby d26_32) rfl ?_
  obtain ⟨cl6, Ar6, q6, Sz6, Ng6, Hs6⟩ := id HG_ad5
  have hin6 : ¬ (iv1 < 0 ∨ cl6.slots.size ≤ (iv1).toNatClampNeg) := inb_of Sz6 (inb_int as0)
  have hat6 : cl6.slots[(iv1).toNatClampNeg]? = some (.int (fv9 (iv1).toNatClampNeg)) := Hs6 _ (lt_of_in hin6)
  refine Go.fin (fun t_ k_ => X5.iaload hx (j := iv1) (v := (.int (fv9 (iv1).toNatClampNeg))) (by rw [e5]; exact Ar6.1) (State.isArrayOf_alike hZ.alike Ar6.2.1) Ar6.2.2 hin6 hat6 (g := mkF m 33 _ _) rfl rfl (hb hby d26_33) _ k_) ?_
  show Go p e below _ (T5.setTop (mkF m 34 _ [(.int (fv9 (iv1).toNatClampNeg))]))
  rw [show (fv9 (iv1).toNatClampNeg) = (0 : Int32) from eq1]
  refine gs.istore X5.here hx (hb hby d26_34) (l' := #[.val (.ref ad1), .val (.int iv1), .val (.int iv2), .val (.int (iv13 + (1 : Int32))), .val (.int (0 : Int32))]) rfl ?_
  refine gs.aloadN X5.here hx (hb hby d26_36) rfl rfl ?_
  refine gs.iloadN X5.here hx (hb hby d26_37) rfl ?_
  refine gs.aloadN X5.here hx (hb hby d26_38) rfl rfl ?_
  refine gs.getF X5 hx hZ hown (wd hw 136 rfl) Via.refl e5 HF_ad1_Domains_sizes (hb hby d26_39) fun T7 X7 e7 => ?_
  refine gs.iloadN X7.here hx (hb hby d26_42) rfl ?_
  obtain ⟨cl8, Ar8, q8, Sz8, Ng8, Hs8⟩ := id HG_ad8
  have hin8 : ¬ (iv1 < 0 ∨ cl8.slots.size ≤ (iv1).toNatClampNeg) := inb_of Sz8 (inb_int as0)
  have hat8 : cl8.slots[(iv1).toNatClampNeg]? = some (.int (fv7 (iv1).toNatClampNeg)) := Hs8 _ (lt_of_in hin8)
  refine Go.fin (fun t_ k_ => X7.iaload hx (j := iv1) (v := (.int (fv7 (iv1).toNatClampNeg))) (by rw [e7]; exact Ar8.1) (State.isArrayOf_alike hZ.alike Ar8.2.1) Ar8.2.2 hin8 hat8 (g := mkF m 43 _ _) rfl rfl (hb hby d26_43) _ k_) ?_
  show Go p e below _ (T7.setTop (mkF m 44 _ [(.int (fv7 (iv1).toNatClampNeg)), (.int iv1), (.ref ad1)]))
  refine gs.aloadN X7.here hx (hb hby d26_44) rfl rfl ?_
  refine gs.iloadN X7.here hx (hb hby d26_45) rfl ?_
  refine gs.iload X7.here hx (hb hby d26_46) rfl ?_
  refine gs.iloadN X7.here hx (hb hby d26_48) rfl ?_
  refine gs.priv 3 X7 hx hZ hown (am27_1 l Z a0 hw [] u_1 aw0 u_0 kaw0 HW (ad1) (iv1) ((iv13 + (1 : Int32))) (ad7) (kc4) (fv10) h0 n0 Ol HF_ad1_Domains_holes HG_ad7 as0 rq0 hO_ad7) (wd hw 205 rfl) (wd hw 104 rfl) (wd hw 202 rfl) (wd hw 203 rfl) (sel_priv hZ (wd hw 103 rfl) (wd hw 204 rfl) (wd hw 203 rfl) (by decide)) (wd hw 204 rfl) (by decide) HE_ad1 (by decide) (by decide) (by rw [hml]; rfl) [(.int iv1), (.int (0 : Int32)), (.int (iv13 + (1 : Int32)))] (lenOf pd_14 rfl) rfl (Nat.le_of_eq rfl) (hb hby d26_49) rfl e7 (by decide) (by decide) fun T9 Lc9 v9 X9 hQ9 => ?_
  obtain ⟨rfl, Nq9, e9⟩ := hQ9
  have N9 := Fr.app N0 Nq9
  show Go p e below _ (T9.setTop (mkF m 52 _ [(.int (mxI (0 : Int32) ((iv13 + (1 : Int32)) - (0 : Int32)))), (.int (fv7 (iv1).toNatClampNeg)), (.int iv1), (.ref ad1)]))
  refine gs.isub X9.here hx (hb hby d26_52) ?_
  refine gs.priv 0 X9 hx hZ hown (am24_1 l Z a0 hw [] u_1 aw0 u_0 kaw0 HW (ad1) (iv1) (((fv7 (iv1).toNatClampNeg) - (mxI (0 : Int32) ((iv13 + (1 : Int32)) - (0 : Int32))))) (ad3) (ad4) (ad5) (ad6) (ad7) (ad8) (iv5) (iv6) (kc1) (fv7) h0 n0 Ol HE_ad1 HF_ad1_Domains_trail HF_ad1_Domains_initial HF_ad1_Domains_lower HF_ad1_Domains_upper HF_ad1_Domains_holes HF_ad1_Domains_sizes HF_ad1_Domains_withOneValue HF_ad1_Domains_trailSize HF_ad1_Domains_resized HG_ad8 nn_ad1 nn_ad8 ne_ad1_ad8 as0) (wd hw 189 rfl) (wd hw 104 rfl) (wd hw 186 rfl) (wd hw 187 rfl) (sel_priv hZ (wd hw 103 rfl) (wd hw 188 rfl) (wd hw 187 rfl) (by decide)) (wd hw 188 rfl) (by decide) HE_ad1 (by decide) (by decide) (by rw [hml]; rfl) [(.int iv1), (.int ((fv7 (iv1).toNatClampNeg) - (mxI (0 : Int32) ((iv13 + (1 : Int32)) - (0 : Int32)))))] (lenOf pd_15 rfl) rfl (Nat.le_of_eq rfl) (hb hby d26_53) rfl e9 (by decide) (by decide) fun T10 Lc10 v10 X10 hQ10 => ?_
  obtain ⟨ex10_0, rfl, Nq10, K10, p10_0, p10_1, p10_2, p10_3, p10_4, p10_5, p10_6, p10_7, p10_8, p10_9, p10_10⟩ := hQ10
  have old10 := Ol.keep K10 (allS nn_ad1 (allS nn_ad8 all0))
  have kp10 := kp0.trans K10 (allS (Or.inl (List.mem_of_getElem? (i := 0) rfl)) (allS (Or.inl (List.mem_of_getElem? (i := 3) rfl)) all0))
  have N10 := Fr.app N9 Nq10
  show Go p e below _ (T10.setTop (mkF m 56 _ []))
  refine gs.aloadN X10.here hx (hb hby d26_56) rfl rfl ?_
  refine gs.getF X10 hx hZ hown (wd hw 128 rfl) Via.refl rfl p10_3 (hb hby d26_57) fun T11 X11 e11 => ?_
  refine gs.iloadN X11.here hx (hb hby d26_60) rfl ?_
  refine gs.iloadN X11.here hx (hb hby d26_61) rfl ?_
  have f12 := (HG_ad5.keep K10 (ninS (Ne.symm ne_ad1_ad5) (ninS ne_ad5_ad8 nin0)))
  obtain ⟨cl13, Ar13, q13, Sz13, Ng13, Hs13⟩ := id f12
  have hin13 : ¬ (iv1 < 0 ∨ cl13.slots.size ≤ (iv1).toNatClampNeg) := inb_of Sz13 (inb_int as0)
  obtain ⟨T14, h14, X14, e14, W14, st14⟩ := stI X11 hx hZ e11 Ar13 (j := iv1) hin13 (g := (mkF m 62 #[.val (.ref ad1), .val (.int iv1), .val (.int iv2), .val (.int (iv13 + (1 : Int32))), .val (.int (0 : Int32))] [(.int (iv13 + (1 : Int32))), (.int iv1), (.ref ad5)])) rfl rfl (hb hby d26_62)
  have N14 := Fr.snoc X14 N10 nn_ad5
  have old14 := old10.wr W14 nn_ad5
  have kp14 := kp10.wr W14 (Or.inl (List.mem_of_getElem? (i := 2) rfl))
  have V14 : Ari Z h14 ad5 kc3 (2 : Int32) (fun i => if i = (iv1).toNatClampNeg then (iv13 + (1 : Int32)) else fv9 i) := Ari.set Ar13 q13 Sz13 Ng13 Hs13 W14
  refine Go.fin st14 ?_
  show Go p e below _ (T14.setTop (mkF m 63 _ []))
  refine gs.aloadN X14.here hx (hb hby d26_63) rfl rfl ?_
  refine gs.iloadN X14.here hx (hb hby d26_64) rfl ?_
  refine gs.iconst 1 X14.here hx (hb hby d26_65) rfl ?_
  refine gs.iload X14.here hx (hb hby d26_66) rfl ?_
  have f15 := (p10_0.wr W14)
  have f16 := (p10_6.other W14 (Or.inl ne_ad1_ad5))
  have f17 := (p10_2.other W14 (Or.inl ne_ad1_ad5))
  have f18 := (p10_3.other W14 (Or.inl ne_ad1_ad5))
  have f19 := (p10_8.other W14 (Or.inl ne_ad1_ad5))
  have f20 := (p10_1.other W14 (Or.inl ne_ad1_ad5))
  have f21 := (p10_5.other W14 (Or.inl ne_ad1_ad5))
  have f22 := (p10_9.other W14 (Or.inl ne_ad1_ad5))
  have f23 := (p10_7.other W14 (Or.inl ne_ad1_ad5))
  have f24 := (p10_4.other W14 (Or.inl ne_ad1_ad5))
  have f25 := ((HE_ad3.keep K10).wr W14)
  have f26 := ((HG_ad3.keep K10 (ninS (Ne.symm ne_ad1_ad3) (ninS ne_ad3_ad8 nin0))).other W14 ne_ad3_ad5)
  refine gs.priv 0 X14 hx hZ hown (am25_1 l Z a0 hw [] u_1 aw0 u_0 kaw0 HW (ad1) (iv1) (ad3) (ad4) (ad5) (ad6) (ad7) (ad8) (ex10_0) (iv6) (kc6) (fv12) h14 n0 old14 f15 f16 f17 f18 f19 f20 f21 f22 f23 f24 f25 f26 nn_ad1 nn_ad3 ne_ad1_ad3 as1 as3) (wd hw 193 rfl) (wd hw 104 rfl) (wd hw 190 rfl) (wd hw 191 rfl) (sel_priv hZ (wd hw 103 rfl) (wd hw 192 rfl) (wd hw 191 rfl) (by decide)) (wd hw 192 rfl) (by decide) f15 (by decide) (by decide) (by rw [hml]; rfl) [(.int iv1), (.int (1 : Int32)), (.int (0 : Int32))] (lenOf pd_16 rfl) rfl (Nat.le_of_eq rfl) (hb hby d26_68) rfl e14 (by decide) (by decide) fun T27 Lc27 v27 X27 hQ27 => ?_
  obtain ⟨rfl, Nq27, K27, p27_0, p27_1, p27_2, p27_3, p27_4, p27_5, p27_6, p27_7, p27_8, p27_9, p27_10, p27_11⟩ := hQ27
  have old27 := old14.keep K27 (allS nn_ad1 (allS nn_ad3 all0))
  have kp27 := kp14.trans K27 (allS (Or.inl (List.mem_of_getElem? (i := 0) rfl)) (allS (Or.inl (List.mem_of_getElem? (i := 1) rfl)) all0))
  have N27 := Fr.app N14 Nq27
  show Go p e below _ (T27.setTop (mkF m 71 _ []))
  have f28 := (V14.keep K27 (ninS (Ne.symm ne_ad1_ad5) (ninS (Ne.symm ne_ad3_ad5) nin0)))
  have f29 := ((p10_10.other W14 (Ne.symm ne_ad5_ad8)).keep K27 (ninS (Ne.symm ne_ad1_ad8) (ninS (Ne.symm ne_ad3_ad8) nin0)))
  refine Go.retV X27 hx Bd.returns Bd.notSynchronized (hb hby d26_71) (by exact ⟨(ex10_0), rfl, N27, kp27, p27_0, p27_1, p27_2, p27_3, p27_4, p27_5, p27_6, p27_7, p27_8, p27_9, p27_10, p27_11, f28, f29⟩) (by decide) (by decide)
theorem d22_18 : decode c_22 18 = .ok (.goto 109, 3) := by decide +kernel
theorem d22_127 : decode c_22 127 = .ok (.return_, 1) := by decide +kernel
theorem ef_am22_1 (m : MethodId) (x0 : Addr) (x1 : Int32) (x2 : Int32)  : entryFrame m #[(.ref x0), (.int x1), (.int x2)] 3 = mkF m 0 #[.val (.ref x0), .val (.int x1), .val (.int x2)] [] := by first | (simp [entryFrame, mkF, argsToLocals, Value.category]; done) | rfl
def Q_am22_1 (Z : State) (u_1 : Addr) (aw0 : Addr) (u_0 : ClassId) (kaw0 : ClassId) (ad1 : Addr) (iv1 : Int32) (iv2 : Int32) (ad3 : Addr) (ad4 : Addr) (ad5 : Addr) (ad6 : Addr) (ad7 : Addr) (ad8 : Addr) (iv5 : Int32) (iv6 : Int32) (kc1 : ClassId) (fv7 : Nat → Int32) (kc2 : ClassId) (fv8 : Nat → Int32) (kc3 : ClassId) (fv9 : Nat → Int32) (kc4 : ClassId) (fv10 : Nat → Value) (kc6 : ClassId) (fv12 : Nat → Int64) (iv13 : Int32) (h0 : Heap) (n0 : Nat) (v : Option Value) (h : Heap) (L : List Loc) : Prop := ∃ ex1 : Int32, v = none ∧ Fr n0 L ∧ Keep h0 h [ad1, ad3, ad5, ad8] ∧ (Exa Z h ad1 "com/example/monarc/monarc/Domains") ∧ (Fld Z h ad1 "com/example/monarc/monarc/Domains" "holes" "[[J" (.ref ad7)) ∧ (Fld Z h ad1 "com/example/monarc/monarc/Domains" "initial" "[Lcom/example/monarc/monarc/InitialDomain;" (.ref ad4)) ∧ (Fld Z h ad1 "com/example/monarc/monarc/Domains" "lower" "[I" (.ref ad5)) ∧ (Fld Z h ad1 "com/example/monarc/monarc/Domains" "resized" "Ljava/util/function/IntConsumer;" .null) ∧ (Fld Z h ad1 "com/example/monarc/monarc/Domains" "sizes" "[I" (.ref ad8)) ∧ (Fld Z h ad1 "com/example/monarc/monarc/Domains" "trail" "[J" (.ref ad3)) ∧ (Fld Z h ad1 "com/example/monarc/monarc/Domains" "trailSize" "I" (.int (iv6 + (1 : Int32)))) ∧ (Fld Z h ad1 "com/example/monarc/monarc/Domains" "upper" "[I" (.ref ad6)) ∧ (Fld Z h ad1 "com/example/monarc/monarc/Domains" "withOneValue" "I" (.int ex1)) ∧ (Exa Z h ad3 "[J") ∧ (Arf Z h ad3 kc6 (1024 : Int32) (fun i => if i = (iv6).toNatClampNeg then ((((iv1.toInt64) <<< ((32 : Int32) &&& 0x3f).toInt64) ||| ((1 : Int64) <<< ((30 : Int32) &&& 0x3f).toInt64)) ||| (0 : Int64)) else fv12 i)) ∧ (Ari Z h ad5 kc3 (2 : Int32) (fun i => if i = (iv1).toNatClampNeg then (iv13 + (1 : Int32)) else fv9 i)) ∧ (Ari Z h ad8 kc1 (2 : Int32) (fun i => if i = (iv1).toNatClampNeg then ((fv7 (iv1).toNatClampNeg) - (mxI (0 : Int32) ((iv13 + (1 : Int32)) - (0 : Int32)))) else fv7 i))
set_option maxRecDepth 65536 in
set_option maxHeartbeats 40000000 in
theorem am22_1 (l : Launch) (Z : State) (a0 : Array Value) (hw : ∀ d ∈ tables_1, d.before a0 Z = true) (ws : List Jvm.Cond) (u_1 : Addr) (aw0 : Addr) (u_0 : ClassId) (kaw0 : ClassId) (HW : Wd Z u_1 aw0 u_0 kaw0) (ad1 : Addr) (iv1 : Int32) (iv2 : Int32) (ad3 : Addr) (ad4 : Addr) (ad5 : Addr) (ad6 : Addr) (ad7 : Addr) (ad8 : Addr) (iv5 : Int32) (iv6 : Int32) (kc1 : ClassId) (fv7 : Nat → Int32) (kc2 : ClassId) (fv8 : Nat → Int32) (kc3 : ClassId) (fv9 : Nat → Int32) (kc4 : ClassId) (fv10 : Nat → Value) (kc6 : ClassId) (fv12 : Nat → Int64) (iv13 : Int32) (h0 : Heap) (n0 : Nat) (Ol : Old Z n0 h0) (HE_ad1 : Exa Z h0 ad1 "com/example/monarc/monarc/Domains") (HF_ad1_Domains_trail : Fld Z h0 ad1 "com/example/monarc/monarc/Domains" "trail" "[J" (.ref ad3)) (HF_ad1_Domains_initial : Fld Z h0 ad1 "com/example/monarc/monarc/Domains" "initial" "[Lcom/example/monarc/monarc/InitialDomain;" (.ref ad4)) (HF_ad1_Domains_lower : Fld Z h0 ad1 "com/example/monarc/monarc/Domains" "lower" "[I" (.ref ad5)) (HF_ad1_Domains_upper : Fld Z h0 ad1 "com/example/monarc/monarc/Domains" "upper" "[I" (.ref ad6)) (HF_ad1_Domains_holes : Fld Z h0 ad1 "com/example/monarc/monarc/Domains" "holes" "[[J" (.ref ad7)) (HF_ad1_Domains_sizes : Fld Z h0 ad1 "com/example/monarc/monarc/Domains" "sizes" "[I" (.ref ad8)) (HF_ad1_Domains_withOneValue : Fld Z h0 ad1 "com/example/monarc/monarc/Domains" "withOneValue" "I" (.int iv5)) (HF_ad1_Domains_trailSize : Fld Z h0 ad1 "com/example/monarc/monarc/Domains" "trailSize" "I" (.int iv6)) (HF_ad1_Domains_resized : Fld Z h0 ad1 "com/example/monarc/monarc/Domains" "resized" "Ljava/util/function/IntConsumer;" .null) (HE_ad3 : Exa Z h0 ad3 "[J") (HG_ad8 : Ari Z h0 ad8 kc1 (2 : Int32) fv7) (HG_ad6 : Ari Z h0 ad6 kc2 (2 : Int32) fv8) (HG_ad5 : Ari Z h0 ad5 kc3 (2 : Int32) fv9) (HG_ad7 : Arw Z h0 ad7 kc4 (.array .long) (2 : Int32) fv10) (HG_ad3 : Arf Z h0 ad3 kc6 (1024 : Int32) fv12) (nn_ad1 : n0 ≤ ad1) (nn_ad3 : n0 ≤ ad3) (nn_ad5 : n0 ≤ ad5) (nn_ad8 : n0 ≤ ad8) (ne_ad1_ad3 : ad1 ≠ ad3) (ne_ad1_ad5 : ad1 ≠ ad5) (ne_ad1_ad8 : ad1 ≠ ad8) (ne_ad3_ad5 : ad3 ≠ ad5) (ne_ad3_ad8 : ad3 ≠ ad8) (ne_ad5_ad8 : ad5 ≠ ad8) (as0 : 0 ≤ (iv1).toInt ∧ (iv1).toInt < ((2 : Int32)).toInt) (as1 : 0 ≤ (iv6).toInt ∧ (iv6).toInt < ((1024 : Int32)).toInt) (as2 : iv13 < (iv2 + (1 : Int32))) (as3 : iv2 = (0 : Int32)) (as4 : ¬ (iv6 = (1024 : Int32))) (eq0 : (fv8 (iv1).toNatClampNeg) = iv13) (eq1 : (fv9 (iv1).toNatClampNeg) = (0 : Int32)) (rq0 : (fv10 (iv1).toNatClampNeg) = .null) (hO_ad7 : OvrA Z kc4 .long "[J") :
    MetFree l y_22 (head1 (Jvm.Cond.code y_22 prog_11_method_19_code 3 none :: ws) (rm 3 0 0 56)) (fun a_ U_ => a_ = #[(.ref ad1), (.int iv1), (.int iv2)] ∧ Z.Warmed39 U_.vm ∧ U_.heap = h0) (fun _ _ _ _ _ => True) (fun _ U_ o_ V_ => ∃ v_ L_, o_ = .returned v_ ∧ Q_am22_1 Z u_1 aw0 u_0 kaw0 ad1 iv1 iv2 ad3 ad4 ad5 ad6 ad7 ad8 iv5 iv6 kc1 fv7 kc2 fv8 kc3 fv9 kc4 fv10 kc6 fv12 iv13 h0 n0 v_ V_.heap L_ ∧ FrameEnd U_ o_ V_ L_ (rm 3 0 0 56).cells (rm 3 0 0 56).slots) := by
  refine MetFree.of_bodySF (plainFor_of_name pn_10) hisR ?_
  intro p e s m args below meth c s₁ Bd hml0 hP hK
  obtain ⟨rfl, hZ, hh⟩ := hP
  have hx := Bd.exec
  have hby := Bd.bytes
  have hml : c.maxLocals = 3 := hml0
  have hown : s.vm.findClass "com/example/monarc/monarc/Domains" = some m.cls := findClass_of_methodNamed Bd.named
  have hnm := (name_of_methodNamed Bd.named Bd.method).1
  have X0 : Stand p l e (rm 3 0 0 56) s m #[(.ref ad1), (.int iv1), (.int iv2)] below meth c s₁ [] 0 0 := Stand.of_body Bd
  have e0 : s₁.heap = h0 := by rw [← hh, Bd.state]; rfl
  have N0 := Fr.nil n0
  have kp0 := Keep.refl h0 [ad1, ad3, ad5, ad8]
  show Go p e below (Fin1 s below (Q_am22_1 Z u_1 aw0 u_0 kaw0 ad1 iv1 iv2 ad3 ad4 ad5 ad6 ad7 ad8 iv5 iv6 kc1 fv7 kc2 fv8 kc3 fv9 kc4 fv10 kc6 fv12 iv13 h0 n0) (rm 3 0 0 56).cells (rm 3 0 0 56).slots) _
  refine Go.step (fun t_ k_ => castTop (ef_am22_1 m ad1 iv1 iv2) k_) ?_
  obtain ⟨Eu_1, Su_1, Eaw0, Saw0, Au_1, Aaw0⟩ := id HW
  show Go p e below _ (s₁.setTop (mkF m 0 #[.val (.ref ad1), .val (.int iv1), .val (.int iv2)] []))
  refine gs.iloadN X0.here hx (hb hby d22_0) rfl ?_
  refine gs.aloadN X0.here hx (hb hby d22_1) rfl rfl ?_
  refine gs.getF X0 hx hZ hown (wd hw 128 rfl) Via.refl e0 HF_ad1_Domains_lower (hb hby d22_2) fun T1 X1 e1 => ?_
  refine gs.iloadN X1.here hx (hb hby d22_5) rfl ?_
  obtain ⟨cl2, Ar2, q2, Sz2, Ng2, Hs2⟩ := id HG_ad5
  have hin2 : ¬ (iv1 < 0 ∨ cl2.slots.size ≤ (iv1).toNatClampNeg) := inb_of Sz2 (inb_int as0)
  have hat2 : cl2.slots[(iv1).toNatClampNeg]? = some (.int (fv9 (iv1).toNatClampNeg)) := Hs2 _ (lt_of_in hin2)
  refine Go.fin (fun t_ k_ => X1.iaload hx (j := iv1) (v := (.int (fv9 (iv1).toNatClampNeg))) (by rw [e1]; exact Ar2.1) (State.isArrayOf_alike hZ.alike Ar2.2.1) Ar2.2.2 hin2 hat2 (g := mkF m 6 _ _) rfl rfl (hb hby d22_6) _ k_) ?_
  show Go p e below _ (T1.setTop (mkF m 7 _ [(.int (fv9 (iv1).toNatClampNeg)), (.int iv2)]))
  rw [show (fv9 (iv1).toNatClampNeg) = (0 : Int32) from eq1]
  have hc7 : iv2 = (0 : Int32) := as3
  refine gs.icmpNo X1.here hx (hb hby d22_7) (teq hc7).2 ?_
  refine gs.aloadN X1.here hx (hb hby d22_10) rfl rfl ?_
  refine gs.iloadN X1.here hx (hb hby d22_11) rfl ?_
  refine gs.iloadN X1.here hx (hb hby d22_12) rfl ?_
  refine gs.iconst 1 X1.here hx (hb hby d22_13) rfl ?_
  refine gs.iadd X1.here hx (hb hby d22_14) ?_
  refine gs.priv 0 X1 hx hZ hown (am26_1 l Z a0 hw [] u_1 aw0 u_0 kaw0 HW (ad1) (iv1) ((iv2 + (1 : Int32))) (ad3) (ad4) (ad5) (ad6) (ad7) (ad8) (iv5) (iv6) (kc1) (fv7) (kc2) (fv8) (kc3) (fv9) (kc4) (fv10) (kc6) (fv12) (iv13) h0 n0 Ol HE_ad1 HF_ad1_Domains_trail HF_ad1_Domains_initial HF_ad1_Domains_lower HF_ad1_Domains_upper HF_ad1_Domains_holes HF_ad1_Domains_sizes HF_ad1_Domains_withOneValue HF_ad1_Domains_trailSize HF_ad1_Domains_resized HE_ad3 HG_ad8 HG_ad6 HG_ad5 HG_ad7 HG_ad3 nn_ad1 nn_ad3 nn_ad5 nn_ad8 ne_ad1_ad3 ne_ad1_ad5 ne_ad1_ad8 ne_ad3_ad5 ne_ad3_ad8 ne_ad5_ad8 as0 as1 as2 as4 eq0 eq1 rq0 hO_ad7) (wd hw 201 rfl) (wd hw 104 rfl) (wd hw 198 rfl) (wd hw 199 rfl) (sel_priv hZ (wd hw 103 rfl) (wd hw 200 rfl) (wd hw 199 rfl) (by decide)) (wd hw 200 rfl) (by decide) HE_ad1 (by decide) (by decide) (by rw [hml]; rfl) [(.int iv1), (.int (iv2 + (1 : Int32)))] (lenOf pd_15 rfl) rfl (Nat.le_of_eq rfl) (hb hby d22_15) rfl e1 (by decide) (by decide) fun T3 Lc3 v3 X3 hQ3 => ?_
  obtain ⟨ex3_0, rfl, Nq3, K3, p3_0, p3_1, p3_2, p3_3, p3_4, p3_5, p3_6, p3_7, p3_8, p3_9, p3_10, p3_11, p3_12, p3_13⟩ := hQ3
  have old3 := Ol.keep K3 (allS nn_ad1 (allS nn_ad3 (allS nn_ad5 (allS nn_ad8 all0))))
  have kp3 := kp0.trans K3 (allS (Or.inl (List.mem_of_getElem? (i := 0) rfl)) (allS (Or.inl (List.mem_of_getElem? (i := 1) rfl)) (allS (Or.inl (List.mem_of_getElem? (i := 2) rfl)) (allS (Or.inl (List.mem_of_getElem? (i := 3) rfl)) all0))))
  have N3 := Fr.app N0 Nq3
  show Go p e below _ (T3.setTop (mkF m 18 _ []))
  refine gs.goto 127 X3.here hx (hb hby d22_18) rfl ?_
  refine Go.retV X3 hx Bd.returns Bd.notSynchronized (hb hby d22_127) (by exact ⟨(ex3_0), rfl, N3, kp3, p3_0, p3_1, p3_2, p3_3, p3_4, p3_5, p3_6, p3_7, p3_8, p3_9, p3_10, p3_11, p3_12, p3_13⟩) (by decide) (by decide)
theorem d28_0 : decode c_28 0 = .ok (.aload_n 0, 1) := by decide +kernel
theorem d28_1 : decode c_28 1 = .ok (.getfield 147, 3) := by decide +kernel
theorem d28_4 : decode c_28 4 = .ok (.ireturn, 1) := by decide +kernel
theorem ef_am28_1 (m : MethodId) (x0 : Addr)  : entryFrame m #[(.ref x0)] 1 = mkF m 0 #[.val (.ref x0)] [] := by first | (simp [entryFrame, mkF, argsToLocals, Value.category]; done) | rfl
def Q_am28_1 (Z : State) (u_1 : Addr) (aw0 : Addr) (u_0 : ClassId) (kaw0 : ClassId) (ad1 : Addr) (iv2 : Int32) (h0 : Heap) (n0 : Nat) (v : Option Value) (h : Heap) (L : List Loc) : Prop := v = some (.int iv2) ∧ Fr n0 L ∧ h = h0
set_option maxRecDepth 65536 in
set_option maxHeartbeats 40000000 in
theorem am28_1 (l : Launch) (Z : State) (a0 : Array Value) (hw : ∀ d ∈ tables_1, d.before a0 Z = true) (ws : List Jvm.Cond) (u_1 : Addr) (aw0 : Addr) (u_0 : ClassId) (kaw0 : ClassId) (HW : Wd Z u_1 aw0 u_0 kaw0) (ad1 : Addr) (iv2 : Int32) (h0 : Heap) (n0 : Nat) (Ol : Old Z n0 h0) (HF_ad1_Domains_trailSize : Fld Z h0 ad1 "com/example/monarc/monarc/Domains" "trailSize" "I" (.int iv2)) :
    MetFree l y_28 (head1 (Jvm.Cond.code y_28 prog_11_method_27_code 1 (some .int) :: ws) (rm 0 0 0 0)) (fun a_ U_ => a_ = #[(.ref ad1)] ∧ Z.Warmed39 U_.vm ∧ U_.heap = h0) (fun _ _ _ _ _ => True) (fun _ U_ o_ V_ => ∃ v_ L_, o_ = .returned v_ ∧ Q_am28_1 Z u_1 aw0 u_0 kaw0 ad1 iv2 h0 n0 v_ V_.heap L_ ∧ FrameEnd U_ o_ V_ L_ (rm 0 0 0 0).cells (rm 0 0 0 0).slots) := by
  refine MetFree.of_bodySF (plainFor_of_name pn_10) hisR ?_
  intro p e s m args below meth c s₁ Bd hml0 hP hK
  obtain ⟨rfl, hZ, hh⟩ := hP
  have hx := Bd.exec
  have hby := Bd.bytes
  have hml : c.maxLocals = 1 := hml0
  have hown : s.vm.findClass "com/example/monarc/monarc/Domains" = some m.cls := findClass_of_methodNamed Bd.named
  have hnm := (name_of_methodNamed Bd.named Bd.method).1
  have X0 : Stand p l e (rm 0 0 0 0) s m #[(.ref ad1)] below meth c s₁ [] 0 0 := Stand.of_body Bd
  have e0 : s₁.heap = h0 := by rw [← hh, Bd.state]; rfl
  have N0 := Fr.nil n0
  have kp0 := Keep.refl h0 []
  show Go p e below (Fin1 s below (Q_am28_1 Z u_1 aw0 u_0 kaw0 ad1 iv2 h0 n0) (rm 0 0 0 0).cells (rm 0 0 0 0).slots) _
  refine Go.step (fun t_ k_ => castTop (ef_am28_1 m ad1) k_) ?_
  obtain ⟨Eu_1, Su_1, Eaw0, Saw0, Au_1, Aaw0⟩ := id HW
  show Go p e below _ (s₁.setTop (mkF m 0 #[.val (.ref ad1)] []))
  refine gs.aloadN X0.here hx (hb hby d28_0) rfl rfl ?_
  refine gs.getF X0 hx hZ hown (wd hw 194 rfl) Via.refl e0 HF_ad1_Domains_trailSize (hb hby d28_1) fun T1 X1 e1 => ?_
  refine Go.retI X1 hx Bd.returns Bd.notSynchronized (hb hby d28_4) (by rw [e1]; exact ⟨rfl, N0, rfl⟩) (by decide) (by decide)
theorem d29_0 : decode c_29 0 = .ok (.aload_n 0, 1) := by decide +kernel
theorem d29_1 : decode c_29 1 = .ok (.getfield 9, 3) := by decide +kernel
theorem d29_4 : decode c_29 4 = .ok (.iload_n 1, 1) := by decide +kernel
theorem d29_5 : decode c_29 5 = .ok (.laload, 1) := by decide +kernel
theorem d29_6 : decode c_29 6 = .ok (.lstore_n 2, 1) := by decide +kernel
theorem d29_7 : decode c_29 7 = .ok (.lload_n 2, 1) := by decide +kernel
theorem d29_8 : decode c_29 8 = .ok (.bipush 30, 2) := by decide +kernel
theorem d29_10 : decode c_29 10 = .ok (.lushr, 1) := by decide +kernel
theorem d29_11 : decode c_29 11 = .ok (.l2i, 1) := by decide +kernel
theorem d29_12 : decode c_29 12 = .ok (.iconst 3, 1) := by decide +kernel
theorem d29_13 : decode c_29 13 = .ok (.iand, 1) := by decide +kernel
theorem d29_14 : decode c_29 14 = .ok (.ifCond .ne 11, 3) := by decide +kernel
theorem d29_17 : decode c_29 17 = .ok (.lload_n 2, 1) := by decide +kernel
theorem d29_18 : decode c_29 18 = .ok (.l2i, 1) := by decide +kernel
theorem d29_19 : decode c_29 19 = .ok (.ldc 158, 2) := by decide +kernel
theorem d29_21 : decode c_29 21 = .ok (.iand, 1) := by decide +kernel
theorem d29_22 : decode c_29 22 = .ok (.goto 4, 3) := by decide +kernel
theorem d29_26 : decode c_29 26 = .ok (.ireturn, 1) := by decide +kernel
theorem ef_am29_1 (m : MethodId) (x0 : Addr) (x1 : Int32)  : entryFrame m #[(.ref x0), (.int x1)] 4 = mkF m 0 #[.val (.ref x0), .val (.int x1), .unset, .unset] [] := by first | (simp [entryFrame, mkF, argsToLocals, Value.category]; done) | rfl
def Q_am29_1 (Z : State) (u_1 : Addr) (aw0 : Addr) (u_0 : ClassId) (kaw0 : ClassId) (ad1 : Addr) (ad2 : Addr) (kc6 : ClassId) (fv8 : Nat → Int64) (h0 : Heap) (n0 : Nat) (v : Option Value) (h : Heap) (L : List Loc) : Prop := v = some (.int (((fv8 ((0 : Int32)).toNatClampNeg).toInt32) &&& (1073741823 : Int32))) ∧ Fr n0 L ∧ h = h0
set_option maxRecDepth 65536 in
set_option maxHeartbeats 40000000 in
theorem am29_1 (l : Launch) (Z : State) (a0 : Array Value) (hw : ∀ d ∈ tables_1, d.before a0 Z = true) (ws : List Jvm.Cond) (u_1 : Addr) (aw0 : Addr) (u_0 : ClassId) (kaw0 : ClassId) (HW : Wd Z u_1 aw0 u_0 kaw0) (ad1 : Addr) (ad2 : Addr) (kc6 : ClassId) (fv8 : Nat → Int64) (h0 : Heap) (n0 : Nat) (Ol : Old Z n0 h0) (HF_ad1_Domains_trail : Fld Z h0 ad1 "com/example/monarc/monarc/Domains" "trail" "[J" (.ref ad2)) (HG_ad2 : Arf Z h0 ad2 kc6 (1024 : Int32) fv8) (as0 : (((((fv8 ((0 : Int32)).toNatClampNeg).toUInt64 >>> ((30 : Int32) &&& 0x3f).toInt64.toUInt64).toInt64).toInt32) &&& (3 : Int32)) = (0 : Int32)) (as1 : 0 ≤ ((0 : Int32)).toInt ∧ ((0 : Int32)).toInt < ((1024 : Int32)).toInt) :
    MetFree l y_29 (head1 (Jvm.Cond.code y_29 prog_11_method_29_code 4 (some .int) :: ws) (rm 0 0 0 0)) (fun a_ U_ => a_ = #[(.ref ad1), (.int (0 : Int32))] ∧ Z.Warmed39 U_.vm ∧ U_.heap = h0) (fun _ _ _ _ _ => True) (fun _ U_ o_ V_ => ∃ v_ L_, o_ = .returned v_ ∧ Q_am29_1 Z u_1 aw0 u_0 kaw0 ad1 ad2 kc6 fv8 h0 n0 v_ V_.heap L_ ∧ FrameEnd U_ o_ V_ L_ (rm 0 0 0 0).cells (rm 0 0 0 0).slots) := by
  refine MetFree.of_bodySF (plainFor_of_name pn_10) hisR ?_
  intro p e s m args below meth c s₁ Bd hml0 hP hK
  obtain ⟨rfl, hZ, hh⟩ := hP
  have hx := Bd.exec
  have hby := Bd.bytes
  have hml : c.maxLocals = 4 := hml0
  have hown : s.vm.findClass "com/example/monarc/monarc/Domains" = some m.cls := findClass_of_methodNamed Bd.named
  have hnm := (name_of_methodNamed Bd.named Bd.method).1
  have X0 : Stand p l e (rm 0 0 0 0) s m #[(.ref ad1), (.int (0 : Int32))] below meth c s₁ [] 0 0 := Stand.of_body Bd
  have e0 : s₁.heap = h0 := by rw [← hh, Bd.state]; rfl
  have N0 := Fr.nil n0
  have kp0 := Keep.refl h0 []
  show Go p e below (Fin1 s below (Q_am29_1 Z u_1 aw0 u_0 kaw0 ad1 ad2 kc6 fv8 h0 n0) (rm 0 0 0 0).cells (rm 0 0 0 0).slots) _
  refine Go.step (fun t_ k_ => castTop (ef_am29_1 m ad1 (0 : Int32)) k_) ?_
  obtain ⟨Eu_1, Su_1, Eaw0, Saw0, Au_1, Aaw0⟩ := id HW
  show Go p e below _ (s₁.setTop (mkF m 0 #[.val (.ref ad1), .val (.int (0 : Int32)), .unset, .unset] []))
  refine gs.aloadN X0.here hx (hb hby d29_0) rfl rfl ?_
  refine gs.getF X0 hx hZ hown (wd hw 110 rfl) Via.refl e0 HF_ad1_Domains_trail (hb hby d29_1) fun T1 X1 e1 => ?_
  refine gs.iloadN X1.here hx (hb hby d29_4) rfl ?_
  obtain ⟨cl2, Ar2, q2, Sz2, Ng2, Hs2⟩ := id HG_ad2
  have hin2 : ¬ ((0 : Int32) < 0 ∨ cl2.slots.size ≤ ((0 : Int32)).toNatClampNeg) := inb_of Sz2 (inb_int as1)
  have hat2 : cl2.slots[((0 : Int32)).toNatClampNeg]? = some (.long (fv8 ((0 : Int32)).toNatClampNeg)) := Hs2 _ (lt_of_in hin2)
  refine Go.fin (fun t_ k_ => X1.laload hx (j := (0 : Int32)) (v := (.long (fv8 ((0 : Int32)).toNatClampNeg))) (by rw [e1]; exact Ar2.1) (State.isArrayOf_alike hZ.alike Ar2.2.1) Ar2.2.2 hin2 hat2 (g := mkF m 5 _ _) rfl rfl (hb hby d29_5) _ k_) ?_
  show Go p e below _ (T1.setTop (mkF m 6 _ [(.long (fv8 ((0 : Int32)).toNatClampNeg))]))
  refine gs.lstoreN X1.here hx (hb hby d29_6) (l' := #[.val (.ref ad1), .val (.int (0 : Int32)), .val (.long (fv8 ((0 : Int32)).toNatClampNeg)), .second]) rfl ?_
  refine gs.lloadN X1.here hx (hb hby d29_7) rfl ?_
  refine gs.bipush 30 X1.here hx (hb hby d29_8) rfl ?_
  refine Go.fin (fun t_ k_ => XS.lushr X1.here hx rfl (hb hby d29_10) rfl k_) ?_
  show Go p e below _ (T1.setTop (mkF m 11 _ [(.long (((fv8 ((0 : Int32)).toNatClampNeg).toUInt64 >>> ((30 : Int32) &&& 0x3f).toInt64.toUInt64).toInt64))]))
  refine Go.fin (fun t_ k_ => XS.l2i X1.here hx rfl (hb hby d29_11) rfl k_) ?_
  show Go p e below _ (T1.setTop (mkF m 12 _ [(.int ((((fv8 ((0 : Int32)).toNatClampNeg).toUInt64 >>> ((30 : Int32) &&& 0x3f).toInt64.toUInt64).toInt64).toInt32))]))
  refine gs.iconst 3 X1.here hx (hb hby d29_12) rfl ?_
  refine gs.iand X1.here hx (hb hby d29_13) ?_
  have hc14 : (((((fv8 ((0 : Int32)).toNatClampNeg).toUInt64 >>> ((30 : Int32) &&& 0x3f).toInt64.toUInt64).toInt64).toInt32) &&& (3 : Int32)) = (0 : Int32) := as0
  refine gs.ifNo X1.here hx (hb hby d29_14) ((if0 _ _).trans (teq hc14).2) ?_
  refine gs.lloadN X1.here hx (hb hby d29_17) rfl ?_
  refine Go.fin (fun t_ k_ => XS.l2i X1.here hx rfl (hb hby d29_18) rfl k_) ?_
  show Go p e below _ (T1.setTop (mkF m 19 _ [(.int ((fv8 ((0 : Int32)).toNatClampNeg).toInt32))]))
  refine Go.fin (fun t_ k_ => X1.ldcInt hx hown (mvT hZ (wd hw 217 rfl)) (g := mkF m 19 _ _) rfl (hb hby d29_19) _ k_) ?_
  show Go p e below _ (T1.setTop (mkF m 21 _ [(.int (1073741823 : Int32)), (.int ((fv8 ((0 : Int32)).toNatClampNeg).toInt32))]))
  refine gs.iand X1.here hx (hb hby d29_21) ?_
  refine gs.goto 26 X1.here hx (hb hby d29_22) rfl ?_
  refine Go.retI X1 hx Bd.returns Bd.notSynchronized (hb hby d29_26) (by rw [e1]; exact ⟨rfl, N0, rfl⟩) (by decide) (by decide)
theorem pd_17 : parseMethodDescriptor "(I)I" = some ⟨[.int], some .int⟩ := by decide +kernel
def Q_am29_2 (Z : State) (u_1 : Addr) (aw0 : Addr) (u_0 : ClassId) (kaw0 : ClassId) (ad1 : Addr) (ad2 : Addr) (kc6 : ClassId) (fv8 : Nat → Int64) (h0 : Heap) (n0 : Nat) (v : Option Value) (h : Heap) (L : List Loc) : Prop := v = some (.int (((fv8 ((1 : Int32)).toNatClampNeg).toInt32) &&& (1073741823 : Int32))) ∧ Fr n0 L ∧ h = h0
set_option maxRecDepth 65536 in
set_option maxHeartbeats 40000000 in
theorem am29_2 (l : Launch) (Z : State) (a0 : Array Value) (hw : ∀ d ∈ tables_1, d.before a0 Z = true) (ws : List Jvm.Cond) (u_1 : Addr) (aw0 : Addr) (u_0 : ClassId) (kaw0 : ClassId) (HW : Wd Z u_1 aw0 u_0 kaw0) (ad1 : Addr) (ad2 : Addr) (kc6 : ClassId) (fv8 : Nat → Int64) (h0 : Heap) (n0 : Nat) (Ol : Old Z n0 h0) (HF_ad1_Domains_trail : Fld Z h0 ad1 "com/example/monarc/monarc/Domains" "trail" "[J" (.ref ad2)) (HG_ad2 : Arf Z h0 ad2 kc6 (1024 : Int32) fv8) (as0 : (((((fv8 ((1 : Int32)).toNatClampNeg).toUInt64 >>> ((30 : Int32) &&& 0x3f).toInt64.toUInt64).toInt64).toInt32) &&& (3 : Int32)) = (0 : Int32)) (as1 : 0 ≤ ((1 : Int32)).toInt ∧ ((1 : Int32)).toInt < ((1024 : Int32)).toInt) :
    MetFree l y_29 (head1 (Jvm.Cond.code y_29 prog_11_method_29_code 4 (some .int) :: ws) (rm 0 0 0 0)) (fun a_ U_ => a_ = #[(.ref ad1), (.int (1 : Int32))] ∧ Z.Warmed39 U_.vm ∧ U_.heap = h0) (fun _ _ _ _ _ => True) (fun _ U_ o_ V_ => ∃ v_ L_, o_ = .returned v_ ∧ Q_am29_2 Z u_1 aw0 u_0 kaw0 ad1 ad2 kc6 fv8 h0 n0 v_ V_.heap L_ ∧ FrameEnd U_ o_ V_ L_ (rm 0 0 0 0).cells (rm 0 0 0 0).slots) := by
  refine MetFree.of_bodySF (plainFor_of_name pn_10) hisR ?_
  intro p e s m args below meth c s₁ Bd hml0 hP hK
  obtain ⟨rfl, hZ, hh⟩ := hP
  have hx := Bd.exec
  have hby := Bd.bytes
  have hml : c.maxLocals = 4 := hml0
  have hown : s.vm.findClass "com/example/monarc/monarc/Domains" = some m.cls := findClass_of_methodNamed Bd.named
  have hnm := (name_of_methodNamed Bd.named Bd.method).1
  have X0 : Stand p l e (rm 0 0 0 0) s m #[(.ref ad1), (.int (1 : Int32))] below meth c s₁ [] 0 0 := Stand.of_body Bd
  have e0 : s₁.heap = h0 := by rw [← hh, Bd.state]; rfl
  have N0 := Fr.nil n0
  have kp0 := Keep.refl h0 []
  show Go p e below (Fin1 s below (Q_am29_2 Z u_1 aw0 u_0 kaw0 ad1 ad2 kc6 fv8 h0 n0) (rm 0 0 0 0).cells (rm 0 0 0 0).slots) _
  refine Go.step (fun t_ k_ => castTop (ef_am29_1 m ad1 (1 : Int32)) k_) ?_
  obtain ⟨Eu_1, Su_1, Eaw0, Saw0, Au_1, Aaw0⟩ := id HW
  show Go p e below _ (s₁.setTop (mkF m 0 #[.val (.ref ad1), .val (.int (1 : Int32)), .unset, .unset] []))
  refine gs.aloadN X0.here hx (hb hby d29_0) rfl rfl ?_
  refine gs.getF X0 hx hZ hown (wd hw 110 rfl) Via.refl e0 HF_ad1_Domains_trail (hb hby d29_1) fun T1 X1 e1 => ?_
  refine gs.iloadN X1.here hx (hb hby d29_4) rfl ?_
  obtain ⟨cl2, Ar2, q2, Sz2, Ng2, Hs2⟩ := id HG_ad2
  have hin2 : ¬ ((1 : Int32) < 0 ∨ cl2.slots.size ≤ ((1 : Int32)).toNatClampNeg) := inb_of Sz2 (inb_int as1)
  have hat2 : cl2.slots[((1 : Int32)).toNatClampNeg]? = some (.long (fv8 ((1 : Int32)).toNatClampNeg)) := Hs2 _ (lt_of_in hin2)
  refine Go.fin (fun t_ k_ => X1.laload hx (j := (1 : Int32)) (v := (.long (fv8 ((1 : Int32)).toNatClampNeg))) (by rw [e1]; exact Ar2.1) (State.isArrayOf_alike hZ.alike Ar2.2.1) Ar2.2.2 hin2 hat2 (g := mkF m 5 _ _) rfl rfl (hb hby d29_5) _ k_) ?_
  show Go p e below _ (T1.setTop (mkF m 6 _ [(.long (fv8 ((1 : Int32)).toNatClampNeg))]))
  refine gs.lstoreN X1.here hx (hb hby d29_6) (l' := #[.val (.ref ad1), .val (.int (1 : Int32)), .val (.long (fv8 ((1 : Int32)).toNatClampNeg)), .second]) rfl ?_
  refine gs.lloadN X1.here hx (hb hby d29_7) rfl ?_
  refine gs.bipush 30 X1.here hx (hb hby d29_8) rfl ?_
  refine Go.fin (fun t_ k_ => XS.lushr X1.here hx rfl (hb hby d29_10) rfl k_) ?_
  show Go p e below _ (T1.setTop (mkF m 11 _ [(.long (((fv8 ((1 : Int32)).toNatClampNeg).toUInt64 >>> ((30 : Int32) &&& 0x3f).toInt64.toUInt64).toInt64))]))
  refine Go.fin (fun t_ k_ => XS.l2i X1.here hx rfl (hb hby d29_11) rfl k_) ?_
  show Go p e below _ (T1.setTop (mkF m 12 _ [(.int ((((fv8 ((1 : Int32)).toNatClampNeg).toUInt64 >>> ((30 : Int32) &&& 0x3f).toInt64.toUInt64).toInt64).toInt32))]))
  refine gs.iconst 3 X1.here hx (hb hby d29_12) rfl ?_
  refine gs.iand X1.here hx (hb hby d29_13) ?_
  have hc14 : (((((fv8 ((1 : Int32)).toNatClampNeg).toUInt64 >>> ((30 : Int32) &&& 0x3f).toInt64.toUInt64).toInt64).toInt32) &&& (3 : Int32)) = (0 : Int32) := as0
  refine gs.ifNo X1.here hx (hb hby d29_14) ((if0 _ _).trans (teq hc14).2) ?_
  refine gs.lloadN X1.here hx (hb hby d29_17) rfl ?_
  refine Go.fin (fun t_ k_ => XS.l2i X1.here hx rfl (hb hby d29_18) rfl k_) ?_
  show Go p e below _ (T1.setTop (mkF m 19 _ [(.int ((fv8 ((1 : Int32)).toNatClampNeg).toInt32))]))
  refine Go.fin (fun t_ k_ => X1.ldcInt hx hown (mvT hZ (wd hw 217 rfl)) (g := mkF m 19 _ _) rfl (hb hby d29_19) _ k_) ?_
  show Go p e below _ (T1.setTop (mkF m 21 _ [(.int (1073741823 : Int32)), (.int ((fv8 ((1 : Int32)).toNatClampNeg).toInt32))]))
  refine gs.iand X1.here hx (hb hby d29_21) ?_
  refine gs.goto 26 X1.here hx (hb hby d29_22) rfl ?_
  refine Go.retI X1 hx Bd.returns Bd.notSynchronized (hb hby d29_26) (by rw [e1]; exact ⟨rfl, N0, rfl⟩) (by decide) (by decide)
theorem d29_25 : decode c_29 25 = .ok (.iconst (-1), 1) := by decide +kernel
def Q_am29_3 (Z : State) (u_1 : Addr) (aw0 : Addr) (u_0 : ClassId) (kaw0 : ClassId) (ad1 : Addr) (ad2 : Addr) (kc6 : ClassId) (fv8 : Nat → Int64) (h0 : Heap) (n0 : Nat) (v : Option Value) (h : Heap) (L : List Loc) : Prop := v = some (.int (-1 : Int32)) ∧ Fr n0 L ∧ h = h0
set_option maxRecDepth 65536 in
set_option maxHeartbeats 40000000 in
theorem am29_3 (l : Launch) (Z : State) (a0 : Array Value) (hw : ∀ d ∈ tables_1, d.before a0 Z = true) (ws : List Jvm.Cond) (u_1 : Addr) (aw0 : Addr) (u_0 : ClassId) (kaw0 : ClassId) (HW : Wd Z u_1 aw0 u_0 kaw0) (ad1 : Addr) (ad2 : Addr) (kc6 : ClassId) (fv8 : Nat → Int64) (h0 : Heap) (n0 : Nat) (Ol : Old Z n0 h0) (HF_ad1_Domains_trail : Fld Z h0 ad1 "com/example/monarc/monarc/Domains" "trail" "[J" (.ref ad2)) (HG_ad2 : Arf Z h0 ad2 kc6 (1024 : Int32) fv8) (as0 : ¬ ((((((fv8 ((1 : Int32)).toNatClampNeg).toUInt64 >>> ((30 : Int32) &&& 0x3f).toInt64.toUInt64).toInt64).toInt32) &&& (3 : Int32)) = (0 : Int32))) (as1 : 0 ≤ ((1 : Int32)).toInt ∧ ((1 : Int32)).toInt < ((1024 : Int32)).toInt) :
    MetFree l y_29 (head1 (Jvm.Cond.code y_29 prog_11_method_29_code 4 (some .int) :: ws) (rm 0 0 0 0)) (fun a_ U_ => a_ = #[(.ref ad1), (.int (1 : Int32))] ∧ Z.Warmed39 U_.vm ∧ U_.heap = h0) (fun _ _ _ _ _ => True) (fun _ U_ o_ V_ => ∃ v_ L_, o_ = .returned v_ ∧ Q_am29_3 Z u_1 aw0 u_0 kaw0 ad1 ad2 kc6 fv8 h0 n0 v_ V_.heap L_ ∧ FrameEnd U_ o_ V_ L_ (rm 0 0 0 0).cells (rm 0 0 0 0).slots) := by
  refine MetFree.of_bodySF (plainFor_of_name pn_10) hisR ?_
  intro p e s m args below meth c s₁ Bd hml0 hP hK
  obtain ⟨rfl, hZ, hh⟩ := hP
  have hx := Bd.exec
  have hby := Bd.bytes
  have hml : c.maxLocals = 4 := hml0
  have hown : s.vm.findClass "com/example/monarc/monarc/Domains" = some m.cls := findClass_of_methodNamed Bd.named
  have hnm := (name_of_methodNamed Bd.named Bd.method).1
  have X0 : Stand p l e (rm 0 0 0 0) s m #[(.ref ad1), (.int (1 : Int32))] below meth c s₁ [] 0 0 := Stand.of_body Bd
  have e0 : s₁.heap = h0 := by rw [← hh, Bd.state]; rfl
  have N0 := Fr.nil n0
  have kp0 := Keep.refl h0 []
  show Go p e below (Fin1 s below (Q_am29_3 Z u_1 aw0 u_0 kaw0 ad1 ad2 kc6 fv8 h0 n0) (rm 0 0 0 0).cells (rm 0 0 0 0).slots) _
  refine Go.step (fun t_ k_ => castTop (ef_am29_1 m ad1 (1 : Int32)) k_) ?_
  obtain ⟨Eu_1, Su_1, Eaw0, Saw0, Au_1, Aaw0⟩ := id HW
  show Go p e below _ (s₁.setTop (mkF m 0 #[.val (.ref ad1), .val (.int (1 : Int32)), .unset, .unset] []))
  refine gs.aloadN X0.here hx (hb hby d29_0) rfl rfl ?_
  refine gs.getF X0 hx hZ hown (wd hw 110 rfl) Via.refl e0 HF_ad1_Domains_trail (hb hby d29_1) fun T1 X1 e1 => ?_
  refine gs.iloadN X1.here hx (hb hby d29_4) rfl ?_
  obtain ⟨cl2, Ar2, q2, Sz2, Ng2, Hs2⟩ := id HG_ad2
  have hin2 : ¬ ((1 : Int32) < 0 ∨ cl2.slots.size ≤ ((1 : Int32)).toNatClampNeg) := inb_of Sz2 (inb_int as1)
  have hat2 : cl2.slots[((1 : Int32)).toNatClampNeg]? = some (.long (fv8 ((1 : Int32)).toNatClampNeg)) := Hs2 _ (lt_of_in hin2)
  refine Go.fin (fun t_ k_ => X1.laload hx (j := (1 : Int32)) (v := (.long (fv8 ((1 : Int32)).toNatClampNeg))) (by rw [e1]; exact Ar2.1) (State.isArrayOf_alike hZ.alike Ar2.2.1) Ar2.2.2 hin2 hat2 (g := mkF m 5 _ _) rfl rfl (hb hby d29_5) _ k_) ?_
  show Go p e below _ (T1.setTop (mkF m 6 _ [(.long (fv8 ((1 : Int32)).toNatClampNeg))]))
  refine gs.lstoreN X1.here hx (hb hby d29_6) (l' := #[.val (.ref ad1), .val (.int (1 : Int32)), .val (.long (fv8 ((1 : Int32)).toNatClampNeg)), .second]) rfl ?_
  refine gs.lloadN X1.here hx (hb hby d29_7) rfl ?_
  refine gs.bipush 30 X1.here hx (hb hby d29_8) rfl ?_
  refine Go.fin (fun t_ k_ => XS.lushr X1.here hx rfl (hb hby d29_10) rfl k_) ?_
  show Go p e below _ (T1.setTop (mkF m 11 _ [(.long (((fv8 ((1 : Int32)).toNatClampNeg).toUInt64 >>> ((30 : Int32) &&& 0x3f).toInt64.toUInt64).toInt64))]))
  refine Go.fin (fun t_ k_ => XS.l2i X1.here hx rfl (hb hby d29_11) rfl k_) ?_
  show Go p e below _ (T1.setTop (mkF m 12 _ [(.int ((((fv8 ((1 : Int32)).toNatClampNeg).toUInt64 >>> ((30 : Int32) &&& 0x3f).toInt64.toUInt64).toInt64).toInt32))]))
  refine gs.iconst 3 X1.here hx (hb hby d29_12) rfl ?_
  refine gs.iand X1.here hx (hb hby d29_13) ?_
  have hc14 : ¬ ((((((fv8 ((1 : Int32)).toNatClampNeg).toUInt64 >>> ((30 : Int32) &&& 0x3f).toInt64.toUInt64).toInt64).toInt32) &&& (3 : Int32)) = (0 : Int32)) := as0
  refine gs.ifYes 25 X1.here hx (hb hby d29_14) ((if0 _ _).trans (feq hc14).2) rfl ?_
  refine gs.iconst (-1) X1.here hx (hb hby d29_25) rfl ?_
  refine Go.retI X1 hx Bd.returns Bd.notSynchronized (hb hby d29_26) (by rw [e1]; exact ⟨rfl, N0, rfl⟩) (by decide) (by decide)
def Q_am29_4 (Z : State) (u_1 : Addr) (aw0 : Addr) (u_0 : ClassId) (kaw0 : ClassId) (ad1 : Addr) (ad2 : Addr) (kc6 : ClassId) (fv8 : Nat → Int64) (h0 : Heap) (n0 : Nat) (v : Option Value) (h : Heap) (L : List Loc) : Prop := v = some (.int (-1 : Int32)) ∧ Fr n0 L ∧ h = h0
set_option maxRecDepth 65536 in
set_option maxHeartbeats 40000000 in
theorem am29_4 (l : Launch) (Z : State) (a0 : Array Value) (hw : ∀ d ∈ tables_1, d.before a0 Z = true) (ws : List Jvm.Cond) (u_1 : Addr) (aw0 : Addr) (u_0 : ClassId) (kaw0 : ClassId) (HW : Wd Z u_1 aw0 u_0 kaw0) (ad1 : Addr) (ad2 : Addr) (kc6 : ClassId) (fv8 : Nat → Int64) (h0 : Heap) (n0 : Nat) (Ol : Old Z n0 h0) (HF_ad1_Domains_trail : Fld Z h0 ad1 "com/example/monarc/monarc/Domains" "trail" "[J" (.ref ad2)) (HG_ad2 : Arf Z h0 ad2 kc6 (1024 : Int32) fv8) (as0 : ¬ ((((((fv8 ((0 : Int32)).toNatClampNeg).toUInt64 >>> ((30 : Int32) &&& 0x3f).toInt64.toUInt64).toInt64).toInt32) &&& (3 : Int32)) = (0 : Int32))) (as1 : 0 ≤ ((0 : Int32)).toInt ∧ ((0 : Int32)).toInt < ((1024 : Int32)).toInt) :
    MetFree l y_29 (head1 (Jvm.Cond.code y_29 prog_11_method_29_code 4 (some .int) :: ws) (rm 0 0 0 0)) (fun a_ U_ => a_ = #[(.ref ad1), (.int (0 : Int32))] ∧ Z.Warmed39 U_.vm ∧ U_.heap = h0) (fun _ _ _ _ _ => True) (fun _ U_ o_ V_ => ∃ v_ L_, o_ = .returned v_ ∧ Q_am29_4 Z u_1 aw0 u_0 kaw0 ad1 ad2 kc6 fv8 h0 n0 v_ V_.heap L_ ∧ FrameEnd U_ o_ V_ L_ (rm 0 0 0 0).cells (rm 0 0 0 0).slots) := by
  refine MetFree.of_bodySF (plainFor_of_name pn_10) hisR ?_
  intro p e s m args below meth c s₁ Bd hml0 hP hK
  obtain ⟨rfl, hZ, hh⟩ := hP
  have hx := Bd.exec
  have hby := Bd.bytes
  have hml : c.maxLocals = 4 := hml0
  have hown : s.vm.findClass "com/example/monarc/monarc/Domains" = some m.cls := findClass_of_methodNamed Bd.named
  have hnm := (name_of_methodNamed Bd.named Bd.method).1
  have X0 : Stand p l e (rm 0 0 0 0) s m #[(.ref ad1), (.int (0 : Int32))] below meth c s₁ [] 0 0 := Stand.of_body Bd
  have e0 : s₁.heap = h0 := by rw [← hh, Bd.state]; rfl
  have N0 := Fr.nil n0
  have kp0 := Keep.refl h0 []
  show Go p e below (Fin1 s below (Q_am29_4 Z u_1 aw0 u_0 kaw0 ad1 ad2 kc6 fv8 h0 n0) (rm 0 0 0 0).cells (rm 0 0 0 0).slots) _
  refine Go.step (fun t_ k_ => castTop (ef_am29_1 m ad1 (0 : Int32)) k_) ?_
  obtain ⟨Eu_1, Su_1, Eaw0, Saw0, Au_1, Aaw0⟩ := id HW
  show Go p e below _ (s₁.setTop (mkF m 0 #[.val (.ref ad1), .val (.int (0 : Int32)), .unset, .unset] []))
  refine gs.aloadN X0.here hx (hb hby d29_0) rfl rfl ?_
  refine gs.getF X0 hx hZ hown (wd hw 110 rfl) Via.refl e0 HF_ad1_Domains_trail (hb hby d29_1) fun T1 X1 e1 => ?_
  refine gs.iloadN X1.here hx (hb hby d29_4) rfl ?_
  obtain ⟨cl2, Ar2, q2, Sz2, Ng2, Hs2⟩ := id HG_ad2
  have hin2 : ¬ ((0 : Int32) < 0 ∨ cl2.slots.size ≤ ((0 : Int32)).toNatClampNeg) := inb_of Sz2 (inb_int as1)
  have hat2 : cl2.slots[((0 : Int32)).toNatClampNeg]? = some (.long (fv8 ((0 : Int32)).toNatClampNeg)) := Hs2 _ (lt_of_in hin2)
  refine Go.fin (fun t_ k_ => X1.laload hx (j := (0 : Int32)) (v := (.long (fv8 ((0 : Int32)).toNatClampNeg))) (by rw [e1]; exact Ar2.1) (State.isArrayOf_alike hZ.alike Ar2.2.1) Ar2.2.2 hin2 hat2 (g := mkF m 5 _ _) rfl rfl (hb hby d29_5) _ k_) ?_
  show Go p e below _ (T1.setTop (mkF m 6 _ [(.long (fv8 ((0 : Int32)).toNatClampNeg))]))
  refine gs.lstoreN X1.here hx (hb hby d29_6) (l' := #[.val (.ref ad1), .val (.int (0 : Int32)), .val (.long (fv8 ((0 : Int32)).toNatClampNeg)), .second]) rfl ?_
  refine gs.lloadN X1.here hx (hb hby d29_7) rfl ?_
  refine gs.bipush 30 X1.here hx (hb hby d29_8) rfl ?_
  refine Go.fin (fun t_ k_ => XS.lushr X1.here hx rfl (hb hby d29_10) rfl k_) ?_
  show Go p e below _ (T1.setTop (mkF m 11 _ [(.long (((fv8 ((0 : Int32)).toNatClampNeg).toUInt64 >>> ((30 : Int32) &&& 0x3f).toInt64.toUInt64).toInt64))]))
  refine Go.fin (fun t_ k_ => XS.l2i X1.here hx rfl (hb hby d29_11) rfl k_) ?_
  show Go p e below _ (T1.setTop (mkF m 12 _ [(.int ((((fv8 ((0 : Int32)).toNatClampNeg).toUInt64 >>> ((30 : Int32) &&& 0x3f).toInt64.toUInt64).toInt64).toInt32))]))
  refine gs.iconst 3 X1.here hx (hb hby d29_12) rfl ?_
  refine gs.iand X1.here hx (hb hby d29_13) ?_
  have hc14 : ¬ ((((((fv8 ((0 : Int32)).toNatClampNeg).toUInt64 >>> ((30 : Int32) &&& 0x3f).toInt64.toUInt64).toInt64).toInt32) &&& (3 : Int32)) = (0 : Int32)) := as0
  refine gs.ifYes 25 X1.here hx (hb hby d29_14) ((if0 _ _).trans (feq hc14).2) rfl ?_
  refine gs.iconst (-1) X1.here hx (hb hby d29_25) rfl ?_
  refine Go.retI X1 hx Bd.returns Bd.notSynchronized (hb hby d29_26) (by rw [e1]; exact ⟨rfl, N0, rfl⟩) (by decide) (by decide)
set_option maxRecDepth 65536 in
set_option maxHeartbeats 40000000 in
theorem sg1 {p : Program} {l : Launch} {e : Env} {s : State} {m : MethodId} {args : Array Value} {below : List Frame} {meth : Method} {c : Code} {Z : State} {a0 : Array Value} (hw : ∀ d ∈ tables_1, d.before a0 Z = true) (u_1 : Addr) (aw0 : Addr) (u_0 : ClassId) (kaw0 : ClassId) (HW : Wd Z u_1 aw0 u_0 kaw0) {h0 : Heap} {n0 : Nat} (hx : p.tables.exec = Jvm.exec) (hby : c.code = code) (hml : c.maxLocals = 17) (hret : meth.sig.returnType = some .boolean) (hlk : meth.locks = false) {vm0 : Vm} {k0 : Nat} {T0 : State} {locs : List Loc} {h1 : Heap} (X0 : Stand p l e room_1 (s.setVm vm0) m args below meth c T0 locs 18 1151) (S0 : s.Since vm0 k0) (hk0 : k0 ≤ h1.size) (hZ : Z.Warmed39 (s.setVm vm0).vm) (hown : (s.setVm vm0).vm.findClass "com/example/monarc/monarc/DomainsHoleMadeAtPinLaw" = some m.cls) (e0 : T0.heap = h1) (N0 : Fr n0 locs) (kp0 : Keep h0 h1 []) (Ol : Old Z n0 h1) {Q : Option Value → Heap → List Loc → Prop} (hQ : ∀ h L, Fr n0 L → Q (some (.int 1)) h L) (lf0 : Int32) (lf1 : Int32) (lf2 : Int32) (lf3 : Int32) (lf4 : Int32) (lf5 : Int32) (lf6 : Int32) (lf7 : Int32) (lf8 : Int32) (ld9 : Addr) (ad3 : Addr) (lf11 : Int32) (lf12 : Int32) (nx : Int32) (ny : Int32) (pp : Int32) (qq : Int32) (ad4 : Addr) (t2 : Int32) (kc1 : ClassId) (ft2 : Nat → Int64) (HE_ad3 : Exa Z h1 ad3 "com/example/monarc/monarc/Domains") (HF_ad3_Domains_trail : Fld Z h1 ad3 "com/example/monarc/monarc/Domains" "trail" "[J" (.ref ad4)) (HF_ad3_Domains_trailSize : Fld Z h1 ad3 "com/example/monarc/monarc/Domains" "trailSize" "I" (.int t2)) (HG_ad4 : Arf Z h1 ad4 kc1 (1024 : Int32) ft2) (ht2 : t2 = (2 : Int32)) (H1 : HM (ft2 ((0 : Int32)).toNatClampNeg) = EX pp nx) (H2 : HM (ft2 ((1 : Int32)).toNatClampNeg) = EX qq ny) :
    Go p e below (Fin2 s below Q room_1.cells room_1.slots) (T0.setTop (mkF m 174 #[.val (.int lf0), .val (.int lf1), .val (.int lf2), .val (.int lf3), .val (.int lf4), .val (.int lf5), .val (.int lf6), .val (.int lf7), .val (.int lf8), .val (.ref ld9), .val (.ref ad3), .val (.int lf11), .val (.int lf12), .val (.int nx), .val (.int ny), .val (.int pp), .val (.int qq)] [])) := by
  obtain ⟨Eu_1, Su_1, Eaw0, Saw0, Au_1, Aaw0⟩ := id HW
  show Go p e below _ (T0.setTop (mkF m 174 #[.val (.int lf0), .val (.int lf1), .val (.int lf2), .val (.int lf3), .val (.int lf4), .val (.int lf5), .val (.int lf6), .val (.int lf7), .val (.int lf8), .val (.ref ld9), .val (.ref ad3), .val (.int lf11), .val (.int lf12), .val (.int nx), .val (.int ny), .val (.int pp), .val (.int qq)] []))
  refine gs.aload X0.here hx (hb hby at_174) rfl rfl ?_
  refine gs.virt 0 X0 hx hZ hown (am28_1 l Z a0 hw [] u_1 aw0 u_0 kaw0 HW (ad3) (t2) h1 n0 Ol HF_ad3_Domains_trailSize) (wd hw 211 rfl) (wd hw 104 rfl) (wd hw 207 rfl) (wd hw 208 rfl) (notFace_of_selects (args := #[]) (mvT hZ (wd hw 210 rfl))) (wd hw 210 rfl) (wd hw 209 rfl) (by decide) HE_ad3 (by decide) (by decide) (by rw [hml]; rfl) [] (lenOf pd_9 rfl) rfl (Nat.le_of_eq rfl) (hb hby at_176) rfl e0 (by decide) (by decide) fun T1 Lc1 v1 X1 hQ1 => ?_
  obtain ⟨rfl, Nq1, e1⟩ := hQ1
  have N1 := Fr.app N0 Nq1
  show Go p e below _ (T1.setTop (mkF m 179 _ [(.int t2)]))
  refine gs.iconst 2 X1.here hx (hb hby at_179) rfl ?_
  have hc180 : t2 = (2 : Int32) := ht2
  refine gs.icmpYes 185 X1.here hx (hb hby at_180) (teq hc180).1 rfl ?_
  refine gs.aload X1.here hx (hb hby at_185) rfl rfl ?_
  refine gs.iconst 0 X1.here hx (hb hby at_187) rfl ?_
  by_cases hq0 : (((((ft2 ((0 : Int32)).toNatClampNeg).toUInt64 >>> ((30 : Int32) &&& 0x3f).toInt64.toUInt64).toInt64).toInt32) &&& (3 : Int32)) = (0 : Int32)
  case pos =>
    refine gs.virt 0 X1 hx hZ hown (am29_1 l Z a0 hw [] u_1 aw0 u_0 kaw0 HW (ad3) (ad4) (kc1) (ft2) h1 n0 Ol HF_ad3_Domains_trail HG_ad4 hq0 (by decide)) (wd hw 216 rfl) (wd hw 104 rfl) (wd hw 212 rfl) (wd hw 213 rfl) (notFace_of_selects (args := #[]) (mvT hZ (wd hw 215 rfl))) (wd hw 215 rfl) (wd hw 214 rfl) (by decide) HE_ad3 (by decide) (by decide) (by rw [hml]; rfl) [(.int (0 : Int32))] (lenOf pd_17 rfl) rfl (Nat.le_of_eq rfl) (hb hby at_188) rfl e1 (by decide) (by decide) fun T2 Lc2 v2 X2 hQ2 => ?_
    obtain ⟨rfl, Nq2, e2⟩ := hQ2
    have N2 := Fr.app N1 Nq2
    show Go p e below _ (T2.setTop (mkF m 191 _ [(.int (((ft2 ((0 : Int32)).toNatClampNeg).toInt32) &&& (1073741823 : Int32)))]))
    refine gs.iload X2.here hx (hb hby at_191) rfl ?_
    refine gs.iload X2.here hx (hb hby at_193) rfl ?_
    refine gs.stat 1 X2 hx hZ hown (rm30 l Z a0 hw [] u_1 aw0 u_0 kaw0 HW pp nx (EX pp nx) h1 n0 Ol rfl) (wd hw 221 rfl) (wd hw 220 rfl) (wd hw 218 rfl) (wd hw 219 rfl) (by decide) (by decide) (by decide) (by rw [hml]; rfl) [(.int pp), (.int nx)] (lenOf pd_4 rfl) rfl (Nat.le_of_eq rfl) (hb hby at_195) rfl e2 (by decide) (by decide) fun T3 Lc3 v3 X3 hQ3 => ?_
    obtain ⟨rfl, Nq3, e3⟩ := hQ3
    have N3 := Fr.app N2 Nq3
    show Go p e below _ (T3.setTop (mkF m 198 _ [(.int (EX pp nx)), (.int (((ft2 ((0 : Int32)).toNatClampNeg).toInt32) &&& (1073741823 : Int32)))]))
    have hc198 : (((ft2 ((0 : Int32)).toNatClampNeg).toInt32) &&& (1073741823 : Int32)) = (EX pp nx) := by have q := H1; rw [HM, if_pos hq0] at q; exact q
    refine gs.icmpNo X3.here hx (hb hby at_198) (teq hc198).2 ?_
    refine gs.aload X3.here hx (hb hby at_201) rfl rfl ?_
    refine gs.iconst 1 X3.here hx (hb hby at_203) rfl ?_
    by_cases hq1 : (((((ft2 ((1 : Int32)).toNatClampNeg).toUInt64 >>> ((30 : Int32) &&& 0x3f).toInt64.toUInt64).toInt64).toInt32) &&& (3 : Int32)) = (0 : Int32)
    case pos =>
      refine gs.virt 0 X3 hx hZ hown (am29_2 l Z a0 hw [] u_1 aw0 u_0 kaw0 HW (ad3) (ad4) (kc1) (ft2) h1 n0 Ol HF_ad3_Domains_trail HG_ad4 hq1 (by decide)) (wd hw 216 rfl) (wd hw 104 rfl) (wd hw 212 rfl) (wd hw 213 rfl) (notFace_of_selects (args := #[]) (mvT hZ (wd hw 215 rfl))) (wd hw 215 rfl) (wd hw 214 rfl) (by decide) HE_ad3 (by decide) (by decide) (by rw [hml]; rfl) [(.int (1 : Int32))] (lenOf pd_17 rfl) rfl (Nat.le_of_eq rfl) (hb hby at_204) rfl e3 (by decide) (by decide) fun T4 Lc4 v4 X4 hQ4 => ?_
      obtain ⟨rfl, Nq4, e4⟩ := hQ4
      have N4 := Fr.app N3 Nq4
      show Go p e below _ (T4.setTop (mkF m 207 _ [(.int (((ft2 ((1 : Int32)).toNatClampNeg).toInt32) &&& (1073741823 : Int32)))]))
      refine gs.iload X4.here hx (hb hby at_207) rfl ?_
      refine gs.iload X4.here hx (hb hby at_209) rfl ?_
      refine gs.stat 1 X4 hx hZ hown (rm30 l Z a0 hw [] u_1 aw0 u_0 kaw0 HW qq ny (EX qq ny) h1 n0 Ol rfl) (wd hw 221 rfl) (wd hw 220 rfl) (wd hw 218 rfl) (wd hw 219 rfl) (by decide) (by decide) (by decide) (by rw [hml]; rfl) [(.int qq), (.int ny)] (lenOf pd_4 rfl) rfl (Nat.le_of_eq rfl) (hb hby at_211) rfl e4 (by decide) (by decide) fun T5 Lc5 v5 X5 hQ5 => ?_
      obtain ⟨rfl, Nq5, e5⟩ := hQ5
      have N5 := Fr.app N4 Nq5
      show Go p e below _ (T5.setTop (mkF m 214 _ [(.int (EX qq ny)), (.int (((ft2 ((1 : Int32)).toNatClampNeg).toInt32) &&& (1073741823 : Int32)))]))
      have hc214 : (((ft2 ((1 : Int32)).toNatClampNeg).toInt32) &&& (1073741823 : Int32)) = (EX qq ny) := by have q := H2; rw [HM, if_pos hq1] at q; exact q
      refine gs.icmpNo X5.here hx (hb hby at_214) (teq hc214).2 ?_
      refine gs.iconst 1 X5.here hx (hb hby at_217) rfl ?_
      refine gs.goto 222 X5.here hx (hb hby at_218) rfl ?_
      refine GoW.retZ X5 S0 (by rw [e5]; exact hk0) hx (t := .boolean) hret (by simp) hlk (hb hby at_222) (by rw [e5]; exact (hQ _ _ N5)) (by decide) (by decide)
    case neg =>
      refine gs.virt 0 X3 hx hZ hown (am29_3 l Z a0 hw [] u_1 aw0 u_0 kaw0 HW (ad3) (ad4) (kc1) (ft2) h1 n0 Ol HF_ad3_Domains_trail HG_ad4 hq1 (by decide)) (wd hw 216 rfl) (wd hw 104 rfl) (wd hw 212 rfl) (wd hw 213 rfl) (notFace_of_selects (args := #[]) (mvT hZ (wd hw 215 rfl))) (wd hw 215 rfl) (wd hw 214 rfl) (by decide) HE_ad3 (by decide) (by decide) (by rw [hml]; rfl) [(.int (1 : Int32))] (lenOf pd_17 rfl) rfl (Nat.le_of_eq rfl) (hb hby at_204) rfl e3 (by decide) (by decide) fun T6 Lc6 v6 X6 hQ6 => ?_
      obtain ⟨rfl, Nq6, e6⟩ := hQ6
      have N6 := Fr.app N3 Nq6
      show Go p e below _ (T6.setTop (mkF m 207 _ [(.int (-1 : Int32))]))
      refine gs.iload X6.here hx (hb hby at_207) rfl ?_
      refine gs.iload X6.here hx (hb hby at_209) rfl ?_
      refine gs.stat 1 X6 hx hZ hown (rm30 l Z a0 hw [] u_1 aw0 u_0 kaw0 HW qq ny (EX qq ny) h1 n0 Ol rfl) (wd hw 221 rfl) (wd hw 220 rfl) (wd hw 218 rfl) (wd hw 219 rfl) (by decide) (by decide) (by decide) (by rw [hml]; rfl) [(.int qq), (.int ny)] (lenOf pd_4 rfl) rfl (Nat.le_of_eq rfl) (hb hby at_211) rfl e6 (by decide) (by decide) fun T7 Lc7 v7 X7 hQ7 => ?_
      obtain ⟨rfl, Nq7, e7⟩ := hQ7
      have N7 := Fr.app N6 Nq7
      show Go p e below _ (T7.setTop (mkF m 214 _ [(.int (EX qq ny)), (.int (-1 : Int32))]))
      have hc214 : (-1 : Int32) = (EX qq ny) := by have q := H2; rw [HM, if_neg hq1] at q; exact q
      refine gs.icmpNo X7.here hx (hb hby at_214) (teq hc214).2 ?_
      refine gs.iconst 1 X7.here hx (hb hby at_217) rfl ?_
      refine gs.goto 222 X7.here hx (hb hby at_218) rfl ?_
      refine GoW.retZ X7 S0 (by rw [e7]; exact hk0) hx (t := .boolean) hret (by simp) hlk (hb hby at_222) (by rw [e7]; exact (hQ _ _ N7)) (by decide) (by decide)
  case neg =>
    refine gs.virt 0 X1 hx hZ hown (am29_4 l Z a0 hw [] u_1 aw0 u_0 kaw0 HW (ad3) (ad4) (kc1) (ft2) h1 n0 Ol HF_ad3_Domains_trail HG_ad4 hq0 (by decide)) (wd hw 216 rfl) (wd hw 104 rfl) (wd hw 212 rfl) (wd hw 213 rfl) (notFace_of_selects (args := #[]) (mvT hZ (wd hw 215 rfl))) (wd hw 215 rfl) (wd hw 214 rfl) (by decide) HE_ad3 (by decide) (by decide) (by rw [hml]; rfl) [(.int (0 : Int32))] (lenOf pd_17 rfl) rfl (Nat.le_of_eq rfl) (hb hby at_188) rfl e1 (by decide) (by decide) fun T8 Lc8 v8 X8 hQ8 => ?_
    obtain ⟨rfl, Nq8, e8⟩ := hQ8
    have N8 := Fr.app N1 Nq8
    show Go p e below _ (T8.setTop (mkF m 191 _ [(.int (-1 : Int32))]))
    refine gs.iload X8.here hx (hb hby at_191) rfl ?_
    refine gs.iload X8.here hx (hb hby at_193) rfl ?_
    refine gs.stat 1 X8 hx hZ hown (rm30 l Z a0 hw [] u_1 aw0 u_0 kaw0 HW pp nx (EX pp nx) h1 n0 Ol rfl) (wd hw 221 rfl) (wd hw 220 rfl) (wd hw 218 rfl) (wd hw 219 rfl) (by decide) (by decide) (by decide) (by rw [hml]; rfl) [(.int pp), (.int nx)] (lenOf pd_4 rfl) rfl (Nat.le_of_eq rfl) (hb hby at_195) rfl e8 (by decide) (by decide) fun T9 Lc9 v9 X9 hQ9 => ?_
    obtain ⟨rfl, Nq9, e9⟩ := hQ9
    have N9 := Fr.app N8 Nq9
    show Go p e below _ (T9.setTop (mkF m 198 _ [(.int (EX pp nx)), (.int (-1 : Int32))]))
    have hc198 : (-1 : Int32) = (EX pp nx) := by have q := H1; rw [HM, if_neg hq0] at q; exact q
    refine gs.icmpNo X9.here hx (hb hby at_198) (teq hc198).2 ?_
    refine gs.aload X9.here hx (hb hby at_201) rfl rfl ?_
    refine gs.iconst 1 X9.here hx (hb hby at_203) rfl ?_
    by_cases hq1 : (((((ft2 ((1 : Int32)).toNatClampNeg).toUInt64 >>> ((30 : Int32) &&& 0x3f).toInt64.toUInt64).toInt64).toInt32) &&& (3 : Int32)) = (0 : Int32)
    case pos =>
      refine gs.virt 0 X9 hx hZ hown (am29_2 l Z a0 hw [] u_1 aw0 u_0 kaw0 HW (ad3) (ad4) (kc1) (ft2) h1 n0 Ol HF_ad3_Domains_trail HG_ad4 hq1 (by decide)) (wd hw 216 rfl) (wd hw 104 rfl) (wd hw 212 rfl) (wd hw 213 rfl) (notFace_of_selects (args := #[]) (mvT hZ (wd hw 215 rfl))) (wd hw 215 rfl) (wd hw 214 rfl) (by decide) HE_ad3 (by decide) (by decide) (by rw [hml]; rfl) [(.int (1 : Int32))] (lenOf pd_17 rfl) rfl (Nat.le_of_eq rfl) (hb hby at_204) rfl e9 (by decide) (by decide) fun T10 Lc10 v10 X10 hQ10 => ?_
      obtain ⟨rfl, Nq10, e10⟩ := hQ10
      have N10 := Fr.app N9 Nq10
      show Go p e below _ (T10.setTop (mkF m 207 _ [(.int (((ft2 ((1 : Int32)).toNatClampNeg).toInt32) &&& (1073741823 : Int32)))]))
      refine gs.iload X10.here hx (hb hby at_207) rfl ?_
      refine gs.iload X10.here hx (hb hby at_209) rfl ?_
      refine gs.stat 1 X10 hx hZ hown (rm30 l Z a0 hw [] u_1 aw0 u_0 kaw0 HW qq ny (EX qq ny) h1 n0 Ol rfl) (wd hw 221 rfl) (wd hw 220 rfl) (wd hw 218 rfl) (wd hw 219 rfl) (by decide) (by decide) (by decide) (by rw [hml]; rfl) [(.int qq), (.int ny)] (lenOf pd_4 rfl) rfl (Nat.le_of_eq rfl) (hb hby at_211) rfl e10 (by decide) (by decide) fun T11 Lc11 v11 X11 hQ11 => ?_
      obtain ⟨rfl, Nq11, e11⟩ := hQ11
      have N11 := Fr.app N10 Nq11
      show Go p e below _ (T11.setTop (mkF m 214 _ [(.int (EX qq ny)), (.int (((ft2 ((1 : Int32)).toNatClampNeg).toInt32) &&& (1073741823 : Int32)))]))
      have hc214 : (((ft2 ((1 : Int32)).toNatClampNeg).toInt32) &&& (1073741823 : Int32)) = (EX qq ny) := by have q := H2; rw [HM, if_pos hq1] at q; exact q
      refine gs.icmpNo X11.here hx (hb hby at_214) (teq hc214).2 ?_
      refine gs.iconst 1 X11.here hx (hb hby at_217) rfl ?_
      refine gs.goto 222 X11.here hx (hb hby at_218) rfl ?_
      refine GoW.retZ X11 S0 (by rw [e11]; exact hk0) hx (t := .boolean) hret (by simp) hlk (hb hby at_222) (by rw [e11]; exact (hQ _ _ N11)) (by decide) (by decide)
    case neg =>
      refine gs.virt 0 X9 hx hZ hown (am29_3 l Z a0 hw [] u_1 aw0 u_0 kaw0 HW (ad3) (ad4) (kc1) (ft2) h1 n0 Ol HF_ad3_Domains_trail HG_ad4 hq1 (by decide)) (wd hw 216 rfl) (wd hw 104 rfl) (wd hw 212 rfl) (wd hw 213 rfl) (notFace_of_selects (args := #[]) (mvT hZ (wd hw 215 rfl))) (wd hw 215 rfl) (wd hw 214 rfl) (by decide) HE_ad3 (by decide) (by decide) (by rw [hml]; rfl) [(.int (1 : Int32))] (lenOf pd_17 rfl) rfl (Nat.le_of_eq rfl) (hb hby at_204) rfl e9 (by decide) (by decide) fun T12 Lc12 v12 X12 hQ12 => ?_
      obtain ⟨rfl, Nq12, e12⟩ := hQ12
      have N12 := Fr.app N9 Nq12
      show Go p e below _ (T12.setTop (mkF m 207 _ [(.int (-1 : Int32))]))
      refine gs.iload X12.here hx (hb hby at_207) rfl ?_
      refine gs.iload X12.here hx (hb hby at_209) rfl ?_
      refine gs.stat 1 X12 hx hZ hown (rm30 l Z a0 hw [] u_1 aw0 u_0 kaw0 HW qq ny (EX qq ny) h1 n0 Ol rfl) (wd hw 221 rfl) (wd hw 220 rfl) (wd hw 218 rfl) (wd hw 219 rfl) (by decide) (by decide) (by decide) (by rw [hml]; rfl) [(.int qq), (.int ny)] (lenOf pd_4 rfl) rfl (Nat.le_of_eq rfl) (hb hby at_211) rfl e12 (by decide) (by decide) fun T13 Lc13 v13 X13 hQ13 => ?_
      obtain ⟨rfl, Nq13, e13⟩ := hQ13
      have N13 := Fr.app N12 Nq13
      show Go p e below _ (T13.setTop (mkF m 214 _ [(.int (EX qq ny)), (.int (-1 : Int32))]))
      have hc214 : (-1 : Int32) = (EX qq ny) := by have q := H2; rw [HM, if_neg hq1] at q; exact q
      refine gs.icmpNo X13.here hx (hb hby at_214) (teq hc214).2 ?_
      refine gs.iconst 1 X13.here hx (hb hby at_217) rfl ?_
      refine gs.goto 222 X13.here hx (hb hby at_218) rfl ?_
      refine GoW.retZ X13 S0 (by rw [e13]; exact hk0) hx (t := .boolean) hret (by simp) hlk (hb hby at_222) (by rw [e13]; exact (hQ _ _ N13)) (by decide) (by decide)
theorem d26_21 : decode c_26 21 = .ok (.aload_n 0, 1) := by decide +kernel
theorem d26_22 : decode c_26 22 = .ok (.iload_n 1, 1) := by decide +kernel
theorem d26_23 : decode c_26 23 = .ok (.iload_n 2, 1) := by decide +kernel
theorem d26_24 : decode c_26 24 = .ok (.invokevirtual 84, 3) := by decide +kernel
theorem d31_0 : decode c_31 0 = .ok (.iload_n 2, 1) := by decide +kernel
theorem d31_1 : decode c_31 1 = .ok (.aload_n 0, 1) := by decide +kernel
theorem d31_2 : decode c_31 2 = .ok (.getfield 32, 3) := by decide +kernel
theorem d31_5 : decode c_31 5 = .ok (.iload_n 1, 1) := by decide +kernel
theorem d31_6 : decode c_31 6 = .ok (.iaload, 1) := by decide +kernel
theorem d31_7 : decode c_31 7 = .ok (.if_icmp .le 5, 3) := by decide +kernel
theorem d31_12 : decode c_31 12 = .ok (.aload_n 0, 1) := by decide +kernel
theorem d31_13 : decode c_31 13 = .ok (.getfield 36, 3) := by decide +kernel
theorem d31_16 : decode c_31 16 = .ok (.iload_n 1, 1) := by decide +kernel
theorem d31_17 : decode c_31 17 = .ok (.aaload, 1) := by decide +kernel
theorem d31_18 : decode c_31 18 = .ok (.astore_n 3, 1) := by decide +kernel
theorem d31_19 : decode c_31 19 = .ok (.aload_n 3, 1) := by decide +kernel
theorem d31_20 : decode c_31 20 = .ok (.ifnonnull 5, 3) := by decide +kernel
theorem d31_23 : decode c_31 23 = .ok (.iload_n 2, 1) := by decide +kernel
theorem d31_24 : decode c_31 24 = .ok (.ireturn, 1) := by decide +kernel
theorem ef_am31_1 (m : MethodId) (x0 : Addr) (x1 : Int32) (x2 : Int32)  : entryFrame m #[(.ref x0), (.int x1), (.int x2)] 7 = mkF m 0 #[.val (.ref x0), .val (.int x1), .val (.int x2), .unset, .unset, .unset, .unset] [] := by first | (simp [entryFrame, mkF, argsToLocals, Value.category]; done) | rfl
def Q_am31_1 (Z : State) (u_1 : Addr) (aw0 : Addr) (u_0 : ClassId) (kaw0 : ClassId) (ad1 : Addr) (iv1 : Int32) (iv2 : Int32) (ad6 : Addr) (ad7 : Addr) (kc2 : ClassId) (fv8 : Nat → Int32) (kc4 : ClassId) (fv10 : Nat → Value) (iv13 : Int32) (h0 : Heap) (n0 : Nat) (v : Option Value) (h : Heap) (L : List Loc) : Prop := v = some (.int iv2) ∧ Fr n0 L ∧ h = h0
set_option maxRecDepth 65536 in
set_option maxHeartbeats 40000000 in
theorem am31_1 (l : Launch) (Z : State) (a0 : Array Value) (hw : ∀ d ∈ tables_1, d.before a0 Z = true) (ws : List Jvm.Cond) (u_1 : Addr) (aw0 : Addr) (u_0 : ClassId) (kaw0 : ClassId) (HW : Wd Z u_1 aw0 u_0 kaw0) (ad1 : Addr) (iv1 : Int32) (iv2 : Int32) (ad6 : Addr) (ad7 : Addr) (kc2 : ClassId) (fv8 : Nat → Int32) (kc4 : ClassId) (fv10 : Nat → Value) (iv13 : Int32) (h0 : Heap) (n0 : Nat) (Ol : Old Z n0 h0) (HF_ad1_Domains_upper : Fld Z h0 ad1 "com/example/monarc/monarc/Domains" "upper" "[I" (.ref ad6)) (HF_ad1_Domains_holes : Fld Z h0 ad1 "com/example/monarc/monarc/Domains" "holes" "[[J" (.ref ad7)) (HG_ad6 : Ari Z h0 ad6 kc2 (2 : Int32) fv8) (HG_ad7 : Arw Z h0 ad7 kc4 (.array .long) (2 : Int32) fv10) (as0 : 0 ≤ (iv1).toInt ∧ (iv1).toInt < ((2 : Int32)).toInt) (as1 : ¬ (iv13 < iv2)) (eq0 : (fv8 (iv1).toNatClampNeg) = iv13) (rq0 : (fv10 (iv1).toNatClampNeg) = .null) (hO_ad7 : OvrA Z kc4 .long "[J") :
    MetFree l y_31 (head1 (Jvm.Cond.code y_31 prog_11_method_14_code 7 (some .int) :: ws) (rm 0 0 0 0)) (fun a_ U_ => a_ = #[(.ref ad1), (.int iv1), (.int iv2)] ∧ Z.Warmed39 U_.vm ∧ U_.heap = h0) (fun _ _ _ _ _ => True) (fun _ U_ o_ V_ => ∃ v_ L_, o_ = .returned v_ ∧ Q_am31_1 Z u_1 aw0 u_0 kaw0 ad1 iv1 iv2 ad6 ad7 kc2 fv8 kc4 fv10 iv13 h0 n0 v_ V_.heap L_ ∧ FrameEnd U_ o_ V_ L_ (rm 0 0 0 0).cells (rm 0 0 0 0).slots) := by
  refine MetFree.of_bodySF (plainFor_of_name pn_10) hisR ?_
  intro p e s m args below meth c s₁ Bd hml0 hP hK
  obtain ⟨rfl, hZ, hh⟩ := hP
  have hx := Bd.exec
  have hby := Bd.bytes
  have hml : c.maxLocals = 7 := hml0
  have hown : s.vm.findClass "com/example/monarc/monarc/Domains" = some m.cls := findClass_of_methodNamed Bd.named
  have hnm := (name_of_methodNamed Bd.named Bd.method).1
  have X0 : Stand p l e (rm 0 0 0 0) s m #[(.ref ad1), (.int iv1), (.int iv2)] below meth c s₁ [] 0 0 := Stand.of_body Bd
  have e0 : s₁.heap = h0 := by rw [← hh, Bd.state]; rfl
  have N0 := Fr.nil n0
  have kp0 := Keep.refl h0 []
  show Go p e below (Fin1 s below (Q_am31_1 Z u_1 aw0 u_0 kaw0 ad1 iv1 iv2 ad6 ad7 kc2 fv8 kc4 fv10 iv13 h0 n0) (rm 0 0 0 0).cells (rm 0 0 0 0).slots) _
  refine Go.step (fun t_ k_ => castTop (ef_am31_1 m ad1 iv1 iv2) k_) ?_
  obtain ⟨Eu_1, Su_1, Eaw0, Saw0, Au_1, Aaw0⟩ := id HW
  show Go p e below _ (s₁.setTop (mkF m 0 #[.val (.ref ad1), .val (.int iv1), .val (.int iv2), .unset, .unset, .unset, .unset] []))
  refine gs.iloadN X0.here hx (hb hby d31_0) rfl ?_
  refine gs.aloadN X0.here hx (hb hby d31_1) rfl rfl ?_
  refine gs.getF X0 hx hZ hown (wd hw 130 rfl) Via.refl e0 HF_ad1_Domains_upper (hb hby d31_2) fun T1 X1 e1 => ?_
  refine gs.iloadN X1.here hx (hb hby d31_5) rfl ?_
  obtain ⟨cl2, Ar2, q2, Sz2, Ng2, Hs2⟩ := id HG_ad6
  have hin2 : ¬ (iv1 < 0 ∨ cl2.slots.size ≤ (iv1).toNatClampNeg) := inb_of Sz2 (inb_int as0)
  have hat2 : cl2.slots[(iv1).toNatClampNeg]? = some (.int (fv8 (iv1).toNatClampNeg)) := Hs2 _ (lt_of_in hin2)
  refine Go.fin (fun t_ k_ => X1.iaload hx (j := iv1) (v := (.int (fv8 (iv1).toNatClampNeg))) (by rw [e1]; exact Ar2.1) (State.isArrayOf_alike hZ.alike Ar2.2.1) Ar2.2.2 hin2 hat2 (g := mkF m 6 _ _) rfl rfl (hb hby d31_6) _ k_) ?_
  show Go p e below _ (T1.setTop (mkF m 7 _ [(.int (fv8 (iv1).toNatClampNeg)), (.int iv2)]))
  rw [show (fv8 (iv1).toNatClampNeg) = iv13 from eq0]
  have hc7 : ¬ (iv13 < iv2) := as1
  refine gs.icmpYes 12 X1.here hx (hb hby d31_7) (flt hc7).2.2.2 rfl ?_
  refine gs.aloadN X1.here hx (hb hby d31_12) rfl rfl ?_
  refine gs.getF X1 hx hZ hown (wd hw 134 rfl) Via.refl e1 HF_ad1_Domains_holes (hb hby d31_13) fun T3 X3 e3 => ?_
  refine gs.iloadN X3.here hx (hb hby d31_16) rfl ?_
  obtain ⟨cl4, Ar4, q4, Sz4, Ng4, Hs4⟩ := id HG_ad7
  have hin4 : ¬ (iv1 < 0 ∨ cl4.slots.size ≤ (iv1).toNatClampNeg) := inb_of Sz4 (inb_int as0)
  have hat4 : cl4.slots[(iv1).toNatClampNeg]? = some (fv10 (iv1).toNatClampNeg) := Hs4 _ (lt_of_in hin4)
  rw [show (fv10 (iv1).toNatClampNeg) = .null from rq0] at hat4
  refine Go.fin (fun t_ k_ => X3.aaload hx (j := iv1) (v := .null) (by rw [e3]; exact Ar4.1) (State.isArrayOf_alike hZ.alike Ar4.2.1) rfl Ar4.2.2 hin4 hat4 (g := mkF m 17 _ _) rfl rfl (hb hby d31_17) _ k_) ?_
  show Go p e below _ (T3.setTop (mkF m 18 _ [.null]))
  refine gs.astoreN X3.here hx (hb hby d31_18) rfl (l' := #[.val (.ref ad1), .val (.int iv1), .val (.int iv2), .val .null, .unset, .unset, .unset]) rfl ?_
  refine gs.aloadN X3.here hx (hb hby d31_19) rfl rfl ?_
  refine Go.fin (fun t_ k_ => XS.ifnonnullNo X3.here hx rfl (hb hby d31_20) rfl k_) ?_
  show Go p e below _ (T3.setTop (mkF m 23 _ []))
  refine gs.iloadN X3.here hx (hb hby d31_23) rfl ?_
  refine Go.retI X3 hx Bd.returns Bd.notSynchronized (hb hby d31_24) (by rw [e3]; exact ⟨rfl, N0, rfl⟩) (by decide) (by decide)
def Q_am26_2 (Z : State) (u_1 : Addr) (aw0 : Addr) (u_0 : ClassId) (kaw0 : ClassId) (ad1 : Addr) (iv1 : Int32) (iv2 : Int32) (ad3 : Addr) (ad4 : Addr) (ad5 : Addr) (ad6 : Addr) (ad7 : Addr) (ad8 : Addr) (iv5 : Int32) (iv6 : Int32) (kc1 : ClassId) (fv7 : Nat → Int32) (kc2 : ClassId) (fv8 : Nat → Int32) (kc3 : ClassId) (fv9 : Nat → Int32) (kc4 : ClassId) (fv10 : Nat → Value) (kc6 : ClassId) (fv12 : Nat → Int64) (iv13 : Int32) (h0 : Heap) (n0 : Nat) (v : Option Value) (h : Heap) (L : List Loc) : Prop := ∃ ex1 : Int32, v = none ∧ Fr n0 L ∧ Keep h0 h [ad1, ad3, ad5, ad8] ∧ (Exa Z h ad1 "com/example/monarc/monarc/Domains") ∧ (Fld Z h ad1 "com/example/monarc/monarc/Domains" "holes" "[[J" (.ref ad7)) ∧ (Fld Z h ad1 "com/example/monarc/monarc/Domains" "initial" "[Lcom/example/monarc/monarc/InitialDomain;" (.ref ad4)) ∧ (Fld Z h ad1 "com/example/monarc/monarc/Domains" "lower" "[I" (.ref ad5)) ∧ (Fld Z h ad1 "com/example/monarc/monarc/Domains" "resized" "Ljava/util/function/IntConsumer;" .null) ∧ (Fld Z h ad1 "com/example/monarc/monarc/Domains" "sizes" "[I" (.ref ad8)) ∧ (Fld Z h ad1 "com/example/monarc/monarc/Domains" "trail" "[J" (.ref ad3)) ∧ (Fld Z h ad1 "com/example/monarc/monarc/Domains" "trailSize" "I" (.int (iv6 + (1 : Int32)))) ∧ (Fld Z h ad1 "com/example/monarc/monarc/Domains" "upper" "[I" (.ref ad6)) ∧ (Fld Z h ad1 "com/example/monarc/monarc/Domains" "withOneValue" "I" (.int ex1)) ∧ (Exa Z h ad3 "[J") ∧ (Arf Z h ad3 kc6 (1024 : Int32) (fun i => if i = (iv6).toNatClampNeg then ((((iv1.toInt64) <<< ((32 : Int32) &&& 0x3f).toInt64) ||| ((1 : Int64) <<< ((30 : Int32) &&& 0x3f).toInt64)) ||| (0 : Int64)) else fv12 i)) ∧ (Ari Z h ad5 kc3 (2 : Int32) (fun i => if i = (iv1).toNatClampNeg then iv2 else fv9 i)) ∧ (Ari Z h ad8 kc1 (2 : Int32) (fun i => if i = (iv1).toNatClampNeg then ((fv7 (iv1).toNatClampNeg) - (mxI (0 : Int32) (iv2 - (0 : Int32)))) else fv7 i))
set_option maxRecDepth 65536 in
set_option maxHeartbeats 40000000 in
theorem am26_2 (l : Launch) (Z : State) (a0 : Array Value) (hw : ∀ d ∈ tables_1, d.before a0 Z = true) (ws : List Jvm.Cond) (u_1 : Addr) (aw0 : Addr) (u_0 : ClassId) (kaw0 : ClassId) (HW : Wd Z u_1 aw0 u_0 kaw0) (ad1 : Addr) (iv1 : Int32) (iv2 : Int32) (ad3 : Addr) (ad4 : Addr) (ad5 : Addr) (ad6 : Addr) (ad7 : Addr) (ad8 : Addr) (iv5 : Int32) (iv6 : Int32) (kc1 : ClassId) (fv7 : Nat → Int32) (kc2 : ClassId) (fv8 : Nat → Int32) (kc3 : ClassId) (fv9 : Nat → Int32) (kc4 : ClassId) (fv10 : Nat → Value) (kc6 : ClassId) (fv12 : Nat → Int64) (iv13 : Int32) (h0 : Heap) (n0 : Nat) (Ol : Old Z n0 h0) (HE_ad1 : Exa Z h0 ad1 "com/example/monarc/monarc/Domains") (HF_ad1_Domains_trail : Fld Z h0 ad1 "com/example/monarc/monarc/Domains" "trail" "[J" (.ref ad3)) (HF_ad1_Domains_initial : Fld Z h0 ad1 "com/example/monarc/monarc/Domains" "initial" "[Lcom/example/monarc/monarc/InitialDomain;" (.ref ad4)) (HF_ad1_Domains_lower : Fld Z h0 ad1 "com/example/monarc/monarc/Domains" "lower" "[I" (.ref ad5)) (HF_ad1_Domains_upper : Fld Z h0 ad1 "com/example/monarc/monarc/Domains" "upper" "[I" (.ref ad6)) (HF_ad1_Domains_holes : Fld Z h0 ad1 "com/example/monarc/monarc/Domains" "holes" "[[J" (.ref ad7)) (HF_ad1_Domains_sizes : Fld Z h0 ad1 "com/example/monarc/monarc/Domains" "sizes" "[I" (.ref ad8)) (HF_ad1_Domains_withOneValue : Fld Z h0 ad1 "com/example/monarc/monarc/Domains" "withOneValue" "I" (.int iv5)) (HF_ad1_Domains_trailSize : Fld Z h0 ad1 "com/example/monarc/monarc/Domains" "trailSize" "I" (.int iv6)) (HF_ad1_Domains_resized : Fld Z h0 ad1 "com/example/monarc/monarc/Domains" "resized" "Ljava/util/function/IntConsumer;" .null) (HE_ad3 : Exa Z h0 ad3 "[J") (HG_ad8 : Ari Z h0 ad8 kc1 (2 : Int32) fv7) (HG_ad6 : Ari Z h0 ad6 kc2 (2 : Int32) fv8) (HG_ad5 : Ari Z h0 ad5 kc3 (2 : Int32) fv9) (HG_ad7 : Arw Z h0 ad7 kc4 (.array .long) (2 : Int32) fv10) (HG_ad3 : Arf Z h0 ad3 kc6 (1024 : Int32) fv12) (nn_ad1 : n0 ≤ ad1) (nn_ad3 : n0 ≤ ad3) (nn_ad5 : n0 ≤ ad5) (nn_ad8 : n0 ≤ ad8) (ne_ad1_ad3 : ad1 ≠ ad3) (ne_ad1_ad5 : ad1 ≠ ad5) (ne_ad1_ad8 : ad1 ≠ ad8) (ne_ad3_ad5 : ad3 ≠ ad5) (ne_ad3_ad8 : ad3 ≠ ad8) (ne_ad5_ad8 : ad5 ≠ ad8) (as0 : 0 ≤ (iv1).toInt ∧ (iv1).toInt < ((2 : Int32)).toInt) (as1 : 0 ≤ (iv6).toInt ∧ (iv6).toInt < ((1024 : Int32)).toInt) (as2 : ¬ (iv13 < iv2)) (as3 : ¬ (iv6 = (1024 : Int32))) (eq0 : (fv8 (iv1).toNatClampNeg) = iv13) (eq1 : (fv9 (iv1).toNatClampNeg) = (0 : Int32)) (rq0 : (fv10 (iv1).toNatClampNeg) = .null) (hO_ad7 : OvrA Z kc4 .long "[J") :
    MetFree l y_26 (head1 (Jvm.Cond.code y_26 prog_11_method_23_code 5 none :: ws) (rm 2 0 0 40)) (fun a_ U_ => a_ = #[(.ref ad1), (.int iv1), (.int iv2)] ∧ Z.Warmed39 U_.vm ∧ U_.heap = h0) (fun _ _ _ _ _ => True) (fun _ U_ o_ V_ => ∃ v_ L_, o_ = .returned v_ ∧ Q_am26_2 Z u_1 aw0 u_0 kaw0 ad1 iv1 iv2 ad3 ad4 ad5 ad6 ad7 ad8 iv5 iv6 kc1 fv7 kc2 fv8 kc3 fv9 kc4 fv10 kc6 fv12 iv13 h0 n0 v_ V_.heap L_ ∧ FrameEnd U_ o_ V_ L_ (rm 2 0 0 40).cells (rm 2 0 0 40).slots) := by
  refine MetFree.of_bodySF (plainFor_of_name pn_10) hisR ?_
  intro p e s m args below meth c s₁ Bd hml0 hP hK
  obtain ⟨rfl, hZ, hh⟩ := hP
  have hx := Bd.exec
  have hby := Bd.bytes
  have hml : c.maxLocals = 5 := hml0
  have hown : s.vm.findClass "com/example/monarc/monarc/Domains" = some m.cls := findClass_of_methodNamed Bd.named
  have hnm := (name_of_methodNamed Bd.named Bd.method).1
  have X0 : Stand p l e (rm 2 0 0 40) s m #[(.ref ad1), (.int iv1), (.int iv2)] below meth c s₁ [] 0 0 := Stand.of_body Bd
  have e0 : s₁.heap = h0 := by rw [← hh, Bd.state]; rfl
  have N0 := Fr.nil n0
  have kp0 := Keep.refl h0 [ad1, ad3, ad5, ad8]
  show Go p e below (Fin1 s below (Q_am26_2 Z u_1 aw0 u_0 kaw0 ad1 iv1 iv2 ad3 ad4 ad5 ad6 ad7 ad8 iv5 iv6 kc1 fv7 kc2 fv8 kc3 fv9 kc4 fv10 kc6 fv12 iv13 h0 n0) (rm 2 0 0 40).cells (rm 2 0 0 40).slots) _
  refine Go.step (fun t_ k_ => castTop (ef_am26_1 m ad1 iv1 iv2) k_) ?_
  obtain ⟨Eu_1, Su_1, Eaw0, Saw0, Au_1, Aaw0⟩ := id HW
  show Go p e below _ (s₁.setTop (mkF m 0 #[.val (.ref ad1), .val (.int iv1), .val (.int iv2), .unset, .unset] []))
  refine gs.iloadN X0.here hx (hb hby d26_0) rfl ?_
  refine gs.aloadN X0.here hx (hb hby d26_1) rfl rfl ?_
  refine gs.getF X0 hx hZ hown (wd hw 130 rfl) Via.refl e0 HF_ad1_Domains_upper (hb hby d26_2) fun T1 X1 e1 => ?_
  refine gs.iloadN X1.here hx (hb hby d26_5) rfl ?_
  obtain ⟨cl2, Ar2, q2, Sz2, Ng2, Hs2⟩ := id HG_ad6
  have hin2 : ¬ (iv1 < 0 ∨ cl2.slots.size ≤ (iv1).toNatClampNeg) := inb_of Sz2 (inb_int as0)
  have hat2 : cl2.slots[(iv1).toNatClampNeg]? = some (.int (fv8 (iv1).toNatClampNeg)) := Hs2 _ (lt_of_in hin2)
  refine Go.fin (fun t_ k_ => X1.iaload hx (j := iv1) (v := (.int (fv8 (iv1).toNatClampNeg))) (by rw [e1]; exact Ar2.1) (State.isArrayOf_alike hZ.alike Ar2.2.1) Ar2.2.2 hin2 hat2 (g := mkF m 6 _ _) rfl rfl (hb hby d26_6) _ k_) ?_
  show Go p e below _ (T1.setTop (mkF m 7 _ [(.int (fv8 (iv1).toNatClampNeg)), (.int iv2)]))
  rw [show (fv8 (iv1).toNatClampNeg) = iv13 from eq0]
  have hc7 : ¬ (iv13 < iv2) := as2
  refine gs.icmpYes 21 X1.here hx (hb hby d26_7) (flt hc7).2.2.2 rfl ?_
  refine gs.aloadN X1.here hx (hb hby d26_21) rfl rfl ?_
  refine gs.iloadN X1.here hx (hb hby d26_22) rfl ?_
  refine gs.iloadN X1.here hx (hb hby d26_23) rfl ?_
  refine gs.priv 0 X1 hx hZ hown (am31_1 l Z a0 hw [] u_1 aw0 u_0 kaw0 HW (ad1) (iv1) (iv2) (ad6) (ad7) (kc2) (fv8) (kc4) (fv10) (iv13) h0 n0 Ol HF_ad1_Domains_upper HF_ad1_Domains_holes HG_ad6 HG_ad7 as0 as2 eq0 rq0 hO_ad7) (wd hw 225 rfl) (wd hw 104 rfl) (wd hw 222 rfl) (wd hw 223 rfl) (sel_priv hZ (wd hw 103 rfl) (wd hw 224 rfl) (wd hw 223 rfl) (by decide)) (wd hw 224 rfl) (by decide) HE_ad1 (by decide) (by decide) (by rw [hml]; rfl) [(.int iv1), (.int iv2)] (lenOf pd_4 rfl) rfl (Nat.le_of_eq rfl) (hb hby d26_24) rfl e1 (by decide) (by decide) fun T3 Lc3 v3 X3 hQ3 => ?_
  obtain ⟨rfl, Nq3, e3⟩ := hQ3
  have N3 := Fr.app N0 Nq3
  show Go p e below _ (T3.setTop (mkF m 27 _ [(.int iv2)]))
  refine gs.istoreN X3.here hx (hb hby d26_27) (l' := #[.val (.ref ad1), .val (.int iv1), .val (.int iv2), .val (.int iv2), .unset]) rfl ?_
  refine gs.aloadN X3.here hx (hb hby d26_28) rfl rfl ?_
  refine gs.getF X3 hx hZ hown (wd hw 128 rfl) Via.refl e3 HF_ad1_Domains_lower (hb hby d26_29) fun T4 X4 e4 => ?_
  refine gs.iloadN X4.here hx (hb hby d26_32) rfl ?_
  obtain ⟨cl5, Ar5, q5, Sz5, Ng5, Hs5⟩ := id HG_ad5
  have hin5 : ¬ (iv1 < 0 ∨ cl5.slots.size ≤ (iv1).toNatClampNeg) := inb_of Sz5 (inb_int as0)
  have hat5 : cl5.slots[(iv1).toNatClampNeg]? = some (.int (fv9 (iv1).toNatClampNeg)) := Hs5 _ (lt_of_in hin5)
  refine Go.fin (fun t_ k_ => X4.iaload hx (j := iv1) (v := (.int (fv9 (iv1).toNatClampNeg))) (by rw [e4]; exact Ar5.1) (State.isArrayOf_alike hZ.alike Ar5.2.1) Ar5.2.2 hin5 hat5 (g := mkF m 33 _ _) rfl rfl (hb hby d26_33) _ k_) ?_
  show Go p e below _ (T4.setTop (mkF m 34 _ [(.int (fv9 (iv1).toNatClampNeg))]))
  rw [show (fv9 (iv1).toNatClampNeg) = (0 : Int32) from eq1]
  refine gs.istore X4.here hx (hb hby d26_34) (l' := #[.val (.ref ad1), .val (.int iv1), .val (.int iv2), .val (.int iv2), .val (.int (0 : Int32))]) rfl ?_
  refine gs.aloadN X4.here hx (hb hby d26_36) rfl rfl ?_
  refine gs.iloadN X4.here hx (hb hby d26_37) rfl ?_
  refine gs.aloadN X4.here hx (hb hby d26_38) rfl rfl ?_
  refine gs.getF X4 hx hZ hown (wd hw 136 rfl) Via.refl e4 HF_ad1_Domains_sizes (hb hby d26_39) fun T6 X6 e6 => ?_
  refine gs.iloadN X6.here hx (hb hby d26_42) rfl ?_
  obtain ⟨cl7, Ar7, q7, Sz7, Ng7, Hs7⟩ := id HG_ad8
  have hin7 : ¬ (iv1 < 0 ∨ cl7.slots.size ≤ (iv1).toNatClampNeg) := inb_of Sz7 (inb_int as0)
  have hat7 : cl7.slots[(iv1).toNatClampNeg]? = some (.int (fv7 (iv1).toNatClampNeg)) := Hs7 _ (lt_of_in hin7)
  refine Go.fin (fun t_ k_ => X6.iaload hx (j := iv1) (v := (.int (fv7 (iv1).toNatClampNeg))) (by rw [e6]; exact Ar7.1) (State.isArrayOf_alike hZ.alike Ar7.2.1) Ar7.2.2 hin7 hat7 (g := mkF m 43 _ _) rfl rfl (hb hby d26_43) _ k_) ?_
  show Go p e below _ (T6.setTop (mkF m 44 _ [(.int (fv7 (iv1).toNatClampNeg)), (.int iv1), (.ref ad1)]))
  refine gs.aloadN X6.here hx (hb hby d26_44) rfl rfl ?_
  refine gs.iloadN X6.here hx (hb hby d26_45) rfl ?_
  refine gs.iload X6.here hx (hb hby d26_46) rfl ?_
  refine gs.iloadN X6.here hx (hb hby d26_48) rfl ?_
  refine gs.priv 3 X6 hx hZ hown (am27_1 l Z a0 hw [] u_1 aw0 u_0 kaw0 HW (ad1) (iv1) (iv2) (ad7) (kc4) (fv10) h0 n0 Ol HF_ad1_Domains_holes HG_ad7 as0 rq0 hO_ad7) (wd hw 205 rfl) (wd hw 104 rfl) (wd hw 202 rfl) (wd hw 203 rfl) (sel_priv hZ (wd hw 103 rfl) (wd hw 204 rfl) (wd hw 203 rfl) (by decide)) (wd hw 204 rfl) (by decide) HE_ad1 (by decide) (by decide) (by rw [hml]; rfl) [(.int iv1), (.int (0 : Int32)), (.int iv2)] (lenOf pd_14 rfl) rfl (Nat.le_of_eq rfl) (hb hby d26_49) rfl e6 (by decide) (by decide) fun T8 Lc8 v8 X8 hQ8 => ?_
  obtain ⟨rfl, Nq8, e8⟩ := hQ8
  have N8 := Fr.app N3 Nq8
  show Go p e below _ (T8.setTop (mkF m 52 _ [(.int (mxI (0 : Int32) (iv2 - (0 : Int32)))), (.int (fv7 (iv1).toNatClampNeg)), (.int iv1), (.ref ad1)]))
  refine gs.isub X8.here hx (hb hby d26_52) ?_
  refine gs.priv 0 X8 hx hZ hown (am24_1 l Z a0 hw [] u_1 aw0 u_0 kaw0 HW (ad1) (iv1) (((fv7 (iv1).toNatClampNeg) - (mxI (0 : Int32) (iv2 - (0 : Int32))))) (ad3) (ad4) (ad5) (ad6) (ad7) (ad8) (iv5) (iv6) (kc1) (fv7) h0 n0 Ol HE_ad1 HF_ad1_Domains_trail HF_ad1_Domains_initial HF_ad1_Domains_lower HF_ad1_Domains_upper HF_ad1_Domains_holes HF_ad1_Domains_sizes HF_ad1_Domains_withOneValue HF_ad1_Domains_trailSize HF_ad1_Domains_resized HG_ad8 nn_ad1 nn_ad8 ne_ad1_ad8 as0) (wd hw 189 rfl) (wd hw 104 rfl) (wd hw 186 rfl) (wd hw 187 rfl) (sel_priv hZ (wd hw 103 rfl) (wd hw 188 rfl) (wd hw 187 rfl) (by decide)) (wd hw 188 rfl) (by decide) HE_ad1 (by decide) (by decide) (by rw [hml]; rfl) [(.int iv1), (.int ((fv7 (iv1).toNatClampNeg) - (mxI (0 : Int32) (iv2 - (0 : Int32)))))] (lenOf pd_15 rfl) rfl (Nat.le_of_eq rfl) (hb hby d26_53) rfl e8 (by decide) (by decide) fun T9 Lc9 v9 X9 hQ9 => ?_
  obtain ⟨ex9_0, rfl, Nq9, K9, p9_0, p9_1, p9_2, p9_3, p9_4, p9_5, p9_6, p9_7, p9_8, p9_9, p9_10⟩ := hQ9
  have old9 := Ol.keep K9 (allS nn_ad1 (allS nn_ad8 all0))
  have kp9 := kp0.trans K9 (allS (Or.inl (List.mem_of_getElem? (i := 0) rfl)) (allS (Or.inl (List.mem_of_getElem? (i := 3) rfl)) all0))
  have N9 := Fr.app N8 Nq9
  show Go p e below _ (T9.setTop (mkF m 56 _ []))
  refine gs.aloadN X9.here hx (hb hby d26_56) rfl rfl ?_
  refine gs.getF X9 hx hZ hown (wd hw 128 rfl) Via.refl rfl p9_3 (hb hby d26_57) fun T10 X10 e10 => ?_
  refine gs.iloadN X10.here hx (hb hby d26_60) rfl ?_
  refine gs.iloadN X10.here hx (hb hby d26_61) rfl ?_
  have f11 := (HG_ad5.keep K9 (ninS (Ne.symm ne_ad1_ad5) (ninS ne_ad5_ad8 nin0)))
  obtain ⟨cl12, Ar12, q12, Sz12, Ng12, Hs12⟩ := id f11
  have hin12 : ¬ (iv1 < 0 ∨ cl12.slots.size ≤ (iv1).toNatClampNeg) := inb_of Sz12 (inb_int as0)
  obtain ⟨T13, h13, X13, e13, W13, st13⟩ := stI X10 hx hZ e10 Ar12 (j := iv1) hin12 (g := (mkF m 62 #[.val (.ref ad1), .val (.int iv1), .val (.int iv2), .val (.int iv2), .val (.int (0 : Int32))] [(.int iv2), (.int iv1), (.ref ad5)])) rfl rfl (hb hby d26_62)
  have N13 := Fr.snoc X13 N9 nn_ad5
  have old13 := old9.wr W13 nn_ad5
  have kp13 := kp9.wr W13 (Or.inl (List.mem_of_getElem? (i := 2) rfl))
  have V13 : Ari Z h13 ad5 kc3 (2 : Int32) (fun i => if i = (iv1).toNatClampNeg then iv2 else fv9 i) := Ari.set Ar12 q12 Sz12 Ng12 Hs12 W13
  refine Go.fin st13 ?_
  show Go p e below _ (T13.setTop (mkF m 63 _ []))
  refine gs.aloadN X13.here hx (hb hby d26_63) rfl rfl ?_
  refine gs.iloadN X13.here hx (hb hby d26_64) rfl ?_
  refine gs.iconst 1 X13.here hx (hb hby d26_65) rfl ?_
  refine gs.iload X13.here hx (hb hby d26_66) rfl ?_
  have f14 := (p9_0.wr W13)
  have f15 := (p9_6.other W13 (Or.inl ne_ad1_ad5))
  have f16 := (p9_2.other W13 (Or.inl ne_ad1_ad5))
  have f17 := (p9_3.other W13 (Or.inl ne_ad1_ad5))
  have f18 := (p9_8.other W13 (Or.inl ne_ad1_ad5))
  have f19 := (p9_1.other W13 (Or.inl ne_ad1_ad5))
  have f20 := (p9_5.other W13 (Or.inl ne_ad1_ad5))
  have f21 := (p9_9.other W13 (Or.inl ne_ad1_ad5))
  have f22 := (p9_7.other W13 (Or.inl ne_ad1_ad5))
  have f23 := (p9_4.other W13 (Or.inl ne_ad1_ad5))
  have f24 := ((HE_ad3.keep K9).wr W13)
  have f25 := ((HG_ad3.keep K9 (ninS (Ne.symm ne_ad1_ad3) (ninS ne_ad3_ad8 nin0))).other W13 ne_ad3_ad5)
  refine gs.priv 0 X13 hx hZ hown (am25_1 l Z a0 hw [] u_1 aw0 u_0 kaw0 HW (ad1) (iv1) (ad3) (ad4) (ad5) (ad6) (ad7) (ad8) (ex9_0) (iv6) (kc6) (fv12) h13 n0 old13 f14 f15 f16 f17 f18 f19 f20 f21 f22 f23 f24 f25 nn_ad1 nn_ad3 ne_ad1_ad3 as1 as3) (wd hw 193 rfl) (wd hw 104 rfl) (wd hw 190 rfl) (wd hw 191 rfl) (sel_priv hZ (wd hw 103 rfl) (wd hw 192 rfl) (wd hw 191 rfl) (by decide)) (wd hw 192 rfl) (by decide) f14 (by decide) (by decide) (by rw [hml]; rfl) [(.int iv1), (.int (1 : Int32)), (.int (0 : Int32))] (lenOf pd_16 rfl) rfl (Nat.le_of_eq rfl) (hb hby d26_68) rfl e13 (by decide) (by decide) fun T26 Lc26 v26 X26 hQ26 => ?_
  obtain ⟨rfl, Nq26, K26, p26_0, p26_1, p26_2, p26_3, p26_4, p26_5, p26_6, p26_7, p26_8, p26_9, p26_10, p26_11⟩ := hQ26
  have old26 := old13.keep K26 (allS nn_ad1 (allS nn_ad3 all0))
  have kp26 := kp13.trans K26 (allS (Or.inl (List.mem_of_getElem? (i := 0) rfl)) (allS (Or.inl (List.mem_of_getElem? (i := 1) rfl)) all0))
  have N26 := Fr.app N13 Nq26
  show Go p e below _ (T26.setTop (mkF m 71 _ []))
  have f27 := (V13.keep K26 (ninS (Ne.symm ne_ad1_ad5) (ninS (Ne.symm ne_ad3_ad5) nin0)))
  have f28 := ((p9_10.other W13 (Ne.symm ne_ad5_ad8)).keep K26 (ninS (Ne.symm ne_ad1_ad8) (ninS (Ne.symm ne_ad3_ad8) nin0)))
  refine Go.retV X26 hx Bd.returns Bd.notSynchronized (hb hby d26_71) (by exact ⟨(ex9_0), rfl, N26, kp26, p26_0, p26_1, p26_2, p26_3, p26_4, p26_5, p26_6, p26_7, p26_8, p26_9, p26_10, p26_11, f27, f28⟩) (by decide) (by decide)
def Q_am22_2 (Z : State) (u_1 : Addr) (aw0 : Addr) (u_0 : ClassId) (kaw0 : ClassId) (ad1 : Addr) (iv1 : Int32) (iv2 : Int32) (ad3 : Addr) (ad4 : Addr) (ad5 : Addr) (ad6 : Addr) (ad7 : Addr) (ad8 : Addr) (iv5 : Int32) (iv6 : Int32) (kc1 : ClassId) (fv7 : Nat → Int32) (kc2 : ClassId) (fv8 : Nat → Int32) (kc3 : ClassId) (fv9 : Nat → Int32) (kc4 : ClassId) (fv10 : Nat → Value) (kc6 : ClassId) (fv12 : Nat → Int64) (iv13 : Int32) (h0 : Heap) (n0 : Nat) (v : Option Value) (h : Heap) (L : List Loc) : Prop := ∃ ex1 : Int32, v = none ∧ Fr n0 L ∧ Keep h0 h [ad1, ad3, ad5, ad8] ∧ (Exa Z h ad1 "com/example/monarc/monarc/Domains") ∧ (Fld Z h ad1 "com/example/monarc/monarc/Domains" "holes" "[[J" (.ref ad7)) ∧ (Fld Z h ad1 "com/example/monarc/monarc/Domains" "initial" "[Lcom/example/monarc/monarc/InitialDomain;" (.ref ad4)) ∧ (Fld Z h ad1 "com/example/monarc/monarc/Domains" "lower" "[I" (.ref ad5)) ∧ (Fld Z h ad1 "com/example/monarc/monarc/Domains" "resized" "Ljava/util/function/IntConsumer;" .null) ∧ (Fld Z h ad1 "com/example/monarc/monarc/Domains" "sizes" "[I" (.ref ad8)) ∧ (Fld Z h ad1 "com/example/monarc/monarc/Domains" "trail" "[J" (.ref ad3)) ∧ (Fld Z h ad1 "com/example/monarc/monarc/Domains" "trailSize" "I" (.int (iv6 + (1 : Int32)))) ∧ (Fld Z h ad1 "com/example/monarc/monarc/Domains" "upper" "[I" (.ref ad6)) ∧ (Fld Z h ad1 "com/example/monarc/monarc/Domains" "withOneValue" "I" (.int ex1)) ∧ (Exa Z h ad3 "[J") ∧ (Arf Z h ad3 kc6 (1024 : Int32) (fun i => if i = (iv6).toNatClampNeg then ((((iv1.toInt64) <<< ((32 : Int32) &&& 0x3f).toInt64) ||| ((1 : Int64) <<< ((30 : Int32) &&& 0x3f).toInt64)) ||| (0 : Int64)) else fv12 i)) ∧ (Ari Z h ad5 kc3 (2 : Int32) (fun i => if i = (iv1).toNatClampNeg then (iv2 + (1 : Int32)) else fv9 i)) ∧ (Ari Z h ad8 kc1 (2 : Int32) (fun i => if i = (iv1).toNatClampNeg then ((fv7 (iv1).toNatClampNeg) - (mxI (0 : Int32) ((iv2 + (1 : Int32)) - (0 : Int32)))) else fv7 i))
set_option maxRecDepth 65536 in
set_option maxHeartbeats 40000000 in
theorem am22_2 (l : Launch) (Z : State) (a0 : Array Value) (hw : ∀ d ∈ tables_1, d.before a0 Z = true) (ws : List Jvm.Cond) (u_1 : Addr) (aw0 : Addr) (u_0 : ClassId) (kaw0 : ClassId) (HW : Wd Z u_1 aw0 u_0 kaw0) (ad1 : Addr) (iv1 : Int32) (iv2 : Int32) (ad3 : Addr) (ad4 : Addr) (ad5 : Addr) (ad6 : Addr) (ad7 : Addr) (ad8 : Addr) (iv5 : Int32) (iv6 : Int32) (kc1 : ClassId) (fv7 : Nat → Int32) (kc2 : ClassId) (fv8 : Nat → Int32) (kc3 : ClassId) (fv9 : Nat → Int32) (kc4 : ClassId) (fv10 : Nat → Value) (kc6 : ClassId) (fv12 : Nat → Int64) (iv13 : Int32) (h0 : Heap) (n0 : Nat) (Ol : Old Z n0 h0) (HE_ad1 : Exa Z h0 ad1 "com/example/monarc/monarc/Domains") (HF_ad1_Domains_trail : Fld Z h0 ad1 "com/example/monarc/monarc/Domains" "trail" "[J" (.ref ad3)) (HF_ad1_Domains_initial : Fld Z h0 ad1 "com/example/monarc/monarc/Domains" "initial" "[Lcom/example/monarc/monarc/InitialDomain;" (.ref ad4)) (HF_ad1_Domains_lower : Fld Z h0 ad1 "com/example/monarc/monarc/Domains" "lower" "[I" (.ref ad5)) (HF_ad1_Domains_upper : Fld Z h0 ad1 "com/example/monarc/monarc/Domains" "upper" "[I" (.ref ad6)) (HF_ad1_Domains_holes : Fld Z h0 ad1 "com/example/monarc/monarc/Domains" "holes" "[[J" (.ref ad7)) (HF_ad1_Domains_sizes : Fld Z h0 ad1 "com/example/monarc/monarc/Domains" "sizes" "[I" (.ref ad8)) (HF_ad1_Domains_withOneValue : Fld Z h0 ad1 "com/example/monarc/monarc/Domains" "withOneValue" "I" (.int iv5)) (HF_ad1_Domains_trailSize : Fld Z h0 ad1 "com/example/monarc/monarc/Domains" "trailSize" "I" (.int iv6)) (HF_ad1_Domains_resized : Fld Z h0 ad1 "com/example/monarc/monarc/Domains" "resized" "Ljava/util/function/IntConsumer;" .null) (HE_ad3 : Exa Z h0 ad3 "[J") (HG_ad8 : Ari Z h0 ad8 kc1 (2 : Int32) fv7) (HG_ad6 : Ari Z h0 ad6 kc2 (2 : Int32) fv8) (HG_ad5 : Ari Z h0 ad5 kc3 (2 : Int32) fv9) (HG_ad7 : Arw Z h0 ad7 kc4 (.array .long) (2 : Int32) fv10) (HG_ad3 : Arf Z h0 ad3 kc6 (1024 : Int32) fv12) (nn_ad1 : n0 ≤ ad1) (nn_ad3 : n0 ≤ ad3) (nn_ad5 : n0 ≤ ad5) (nn_ad8 : n0 ≤ ad8) (ne_ad1_ad3 : ad1 ≠ ad3) (ne_ad1_ad5 : ad1 ≠ ad5) (ne_ad1_ad8 : ad1 ≠ ad8) (ne_ad3_ad5 : ad3 ≠ ad5) (ne_ad3_ad8 : ad3 ≠ ad8) (ne_ad5_ad8 : ad5 ≠ ad8) (as0 : 0 ≤ (iv1).toInt ∧ (iv1).toInt < ((2 : Int32)).toInt) (as1 : 0 ≤ (iv6).toInt ∧ (iv6).toInt < ((1024 : Int32)).toInt) (as2 : ¬ (iv13 < (iv2 + (1 : Int32)))) (as3 : iv2 = (0 : Int32)) (as4 : ¬ (iv6 = (1024 : Int32))) (eq0 : (fv8 (iv1).toNatClampNeg) = iv13) (eq1 : (fv9 (iv1).toNatClampNeg) = (0 : Int32)) (rq0 : (fv10 (iv1).toNatClampNeg) = .null) (hO_ad7 : OvrA Z kc4 .long "[J") :
    MetFree l y_22 (head1 (Jvm.Cond.code y_22 prog_11_method_19_code 3 none :: ws) (rm 3 0 0 56)) (fun a_ U_ => a_ = #[(.ref ad1), (.int iv1), (.int iv2)] ∧ Z.Warmed39 U_.vm ∧ U_.heap = h0) (fun _ _ _ _ _ => True) (fun _ U_ o_ V_ => ∃ v_ L_, o_ = .returned v_ ∧ Q_am22_2 Z u_1 aw0 u_0 kaw0 ad1 iv1 iv2 ad3 ad4 ad5 ad6 ad7 ad8 iv5 iv6 kc1 fv7 kc2 fv8 kc3 fv9 kc4 fv10 kc6 fv12 iv13 h0 n0 v_ V_.heap L_ ∧ FrameEnd U_ o_ V_ L_ (rm 3 0 0 56).cells (rm 3 0 0 56).slots) := by
  refine MetFree.of_bodySF (plainFor_of_name pn_10) hisR ?_
  intro p e s m args below meth c s₁ Bd hml0 hP hK
  obtain ⟨rfl, hZ, hh⟩ := hP
  have hx := Bd.exec
  have hby := Bd.bytes
  have hml : c.maxLocals = 3 := hml0
  have hown : s.vm.findClass "com/example/monarc/monarc/Domains" = some m.cls := findClass_of_methodNamed Bd.named
  have hnm := (name_of_methodNamed Bd.named Bd.method).1
  have X0 : Stand p l e (rm 3 0 0 56) s m #[(.ref ad1), (.int iv1), (.int iv2)] below meth c s₁ [] 0 0 := Stand.of_body Bd
  have e0 : s₁.heap = h0 := by rw [← hh, Bd.state]; rfl
  have N0 := Fr.nil n0
  have kp0 := Keep.refl h0 [ad1, ad3, ad5, ad8]
  show Go p e below (Fin1 s below (Q_am22_2 Z u_1 aw0 u_0 kaw0 ad1 iv1 iv2 ad3 ad4 ad5 ad6 ad7 ad8 iv5 iv6 kc1 fv7 kc2 fv8 kc3 fv9 kc4 fv10 kc6 fv12 iv13 h0 n0) (rm 3 0 0 56).cells (rm 3 0 0 56).slots) _
  refine Go.step (fun t_ k_ => castTop (ef_am22_1 m ad1 iv1 iv2) k_) ?_
  obtain ⟨Eu_1, Su_1, Eaw0, Saw0, Au_1, Aaw0⟩ := id HW
  show Go p e below _ (s₁.setTop (mkF m 0 #[.val (.ref ad1), .val (.int iv1), .val (.int iv2)] []))
  refine gs.iloadN X0.here hx (hb hby d22_0) rfl ?_
  refine gs.aloadN X0.here hx (hb hby d22_1) rfl rfl ?_
  refine gs.getF X0 hx hZ hown (wd hw 128 rfl) Via.refl e0 HF_ad1_Domains_lower (hb hby d22_2) fun T1 X1 e1 => ?_
  refine gs.iloadN X1.here hx (hb hby d22_5) rfl ?_
  obtain ⟨cl2, Ar2, q2, Sz2, Ng2, Hs2⟩ := id HG_ad5
  have hin2 : ¬ (iv1 < 0 ∨ cl2.slots.size ≤ (iv1).toNatClampNeg) := inb_of Sz2 (inb_int as0)
  have hat2 : cl2.slots[(iv1).toNatClampNeg]? = some (.int (fv9 (iv1).toNatClampNeg)) := Hs2 _ (lt_of_in hin2)
  refine Go.fin (fun t_ k_ => X1.iaload hx (j := iv1) (v := (.int (fv9 (iv1).toNatClampNeg))) (by rw [e1]; exact Ar2.1) (State.isArrayOf_alike hZ.alike Ar2.2.1) Ar2.2.2 hin2 hat2 (g := mkF m 6 _ _) rfl rfl (hb hby d22_6) _ k_) ?_
  show Go p e below _ (T1.setTop (mkF m 7 _ [(.int (fv9 (iv1).toNatClampNeg)), (.int iv2)]))
  rw [show (fv9 (iv1).toNatClampNeg) = (0 : Int32) from eq1]
  have hc7 : iv2 = (0 : Int32) := as3
  refine gs.icmpNo X1.here hx (hb hby d22_7) (teq hc7).2 ?_
  refine gs.aloadN X1.here hx (hb hby d22_10) rfl rfl ?_
  refine gs.iloadN X1.here hx (hb hby d22_11) rfl ?_
  refine gs.iloadN X1.here hx (hb hby d22_12) rfl ?_
  refine gs.iconst 1 X1.here hx (hb hby d22_13) rfl ?_
  refine gs.iadd X1.here hx (hb hby d22_14) ?_
  refine gs.priv 0 X1 hx hZ hown (am26_2 l Z a0 hw [] u_1 aw0 u_0 kaw0 HW (ad1) (iv1) ((iv2 + (1 : Int32))) (ad3) (ad4) (ad5) (ad6) (ad7) (ad8) (iv5) (iv6) (kc1) (fv7) (kc2) (fv8) (kc3) (fv9) (kc4) (fv10) (kc6) (fv12) (iv13) h0 n0 Ol HE_ad1 HF_ad1_Domains_trail HF_ad1_Domains_initial HF_ad1_Domains_lower HF_ad1_Domains_upper HF_ad1_Domains_holes HF_ad1_Domains_sizes HF_ad1_Domains_withOneValue HF_ad1_Domains_trailSize HF_ad1_Domains_resized HE_ad3 HG_ad8 HG_ad6 HG_ad5 HG_ad7 HG_ad3 nn_ad1 nn_ad3 nn_ad5 nn_ad8 ne_ad1_ad3 ne_ad1_ad5 ne_ad1_ad8 ne_ad3_ad5 ne_ad3_ad8 ne_ad5_ad8 as0 as1 as2 as4 eq0 eq1 rq0 hO_ad7) (wd hw 201 rfl) (wd hw 104 rfl) (wd hw 198 rfl) (wd hw 199 rfl) (sel_priv hZ (wd hw 103 rfl) (wd hw 200 rfl) (wd hw 199 rfl) (by decide)) (wd hw 200 rfl) (by decide) HE_ad1 (by decide) (by decide) (by rw [hml]; rfl) [(.int iv1), (.int (iv2 + (1 : Int32)))] (lenOf pd_15 rfl) rfl (Nat.le_of_eq rfl) (hb hby d22_15) rfl e1 (by decide) (by decide) fun T3 Lc3 v3 X3 hQ3 => ?_
  obtain ⟨ex3_0, rfl, Nq3, K3, p3_0, p3_1, p3_2, p3_3, p3_4, p3_5, p3_6, p3_7, p3_8, p3_9, p3_10, p3_11, p3_12, p3_13⟩ := hQ3
  have old3 := Ol.keep K3 (allS nn_ad1 (allS nn_ad3 (allS nn_ad5 (allS nn_ad8 all0))))
  have kp3 := kp0.trans K3 (allS (Or.inl (List.mem_of_getElem? (i := 0) rfl)) (allS (Or.inl (List.mem_of_getElem? (i := 1) rfl)) (allS (Or.inl (List.mem_of_getElem? (i := 2) rfl)) (allS (Or.inl (List.mem_of_getElem? (i := 3) rfl)) all0))))
  have N3 := Fr.app N0 Nq3
  show Go p e below _ (T3.setTop (mkF m 18 _ []))
  refine gs.goto 127 X3.here hx (hb hby d22_18) rfl ?_
  refine Go.retV X3 hx Bd.returns Bd.notSynchronized (hb hby d22_127) (by exact ⟨(ex3_0), rfl, N3, kp3, p3_0, p3_1, p3_2, p3_3, p3_4, p3_5, p3_6, p3_7, p3_8, p3_9, p3_10, p3_11, p3_12, p3_13⟩) (by decide) (by decide)
theorem d22_21 : decode c_22 21 = .ok (.iload_n 2, 1) := by decide +kernel
theorem d22_22 : decode c_22 22 = .ok (.aload_n 0, 1) := by decide +kernel
theorem d22_23 : decode c_22 23 = .ok (.getfield 32, 3) := by decide +kernel
theorem d22_26 : decode c_22 26 = .ok (.iload_n 1, 1) := by decide +kernel
theorem d22_27 : decode c_22 27 = .ok (.iaload, 1) := by decide +kernel
theorem d22_28 : decode c_22 28 = .ok (.if_icmp .ne 14, 3) := by decide +kernel
theorem d22_31 : decode c_22 31 = .ok (.aload_n 0, 1) := by decide +kernel
theorem d22_32 : decode c_22 32 = .ok (.iload_n 1, 1) := by decide +kernel
theorem d22_33 : decode c_22 33 = .ok (.iload_n 2, 1) := by decide +kernel
theorem d22_34 : decode c_22 34 = .ok (.iconst 1, 1) := by decide +kernel
theorem d22_35 : decode c_22 35 = .ok (.isub, 1) := by decide +kernel
theorem d22_36 : decode c_22 36 = .ok (.invokevirtual 121, 3) := by decide +kernel
theorem d32_0 : decode c_32 0 = .ok (.iload_n 2, 1) := by decide +kernel
theorem d32_1 : decode c_32 1 = .ok (.aload_n 0, 1) := by decide +kernel
theorem d32_2 : decode c_32 2 = .ok (.getfield 29, 3) := by decide +kernel
theorem d32_5 : decode c_32 5 = .ok (.iload_n 1, 1) := by decide +kernel
theorem d32_6 : decode c_32 6 = .ok (.iaload, 1) := by decide +kernel
theorem d32_7 : decode c_32 7 = .ok (.if_icmp .ge 14, 3) := by decide +kernel
theorem d32_21 : decode c_32 21 = .ok (.aload_n 0, 1) := by decide +kernel
theorem d32_22 : decode c_32 22 = .ok (.iload_n 1, 1) := by decide +kernel
theorem d32_23 : decode c_32 23 = .ok (.iload_n 2, 1) := by decide +kernel
theorem d32_24 : decode c_32 24 = .ok (.invokevirtual 89, 3) := by decide +kernel
theorem d33_0 : decode c_33 0 = .ok (.iload_n 2, 1) := by decide +kernel
theorem d33_1 : decode c_33 1 = .ok (.aload_n 0, 1) := by decide +kernel
theorem d33_2 : decode c_33 2 = .ok (.getfield 29, 3) := by decide +kernel
theorem d33_5 : decode c_33 5 = .ok (.iload_n 1, 1) := by decide +kernel
theorem d33_6 : decode c_33 6 = .ok (.iaload, 1) := by decide +kernel
theorem d33_7 : decode c_33 7 = .ok (.if_icmp .ge 5, 3) := by decide +kernel
theorem d33_12 : decode c_33 12 = .ok (.aload_n 0, 1) := by decide +kernel
theorem d33_13 : decode c_33 13 = .ok (.getfield 36, 3) := by decide +kernel
theorem d33_16 : decode c_33 16 = .ok (.iload_n 1, 1) := by decide +kernel
theorem d33_17 : decode c_33 17 = .ok (.aaload, 1) := by decide +kernel
theorem d33_18 : decode c_33 18 = .ok (.astore_n 3, 1) := by decide +kernel
theorem d33_19 : decode c_33 19 = .ok (.aload_n 3, 1) := by decide +kernel
theorem d33_20 : decode c_33 20 = .ok (.ifnonnull 5, 3) := by decide +kernel
theorem d33_23 : decode c_33 23 = .ok (.iload_n 2, 1) := by decide +kernel
theorem d33_24 : decode c_33 24 = .ok (.ireturn, 1) := by decide +kernel
theorem ef_am33_1 (m : MethodId) (x0 : Addr) (x1 : Int32) (x2 : Int32)  : entryFrame m #[(.ref x0), (.int x1), (.int x2)] 7 = mkF m 0 #[.val (.ref x0), .val (.int x1), .val (.int x2), .unset, .unset, .unset, .unset] [] := by first | (simp [entryFrame, mkF, argsToLocals, Value.category]; done) | rfl
def Q_am33_1 (Z : State) (u_1 : Addr) (aw0 : Addr) (u_0 : ClassId) (kaw0 : ClassId) (ad1 : Addr) (iv1 : Int32) (iv2 : Int32) (ad5 : Addr) (ad7 : Addr) (kc3 : ClassId) (fv9 : Nat → Int32) (kc4 : ClassId) (fv10 : Nat → Value) (h0 : Heap) (n0 : Nat) (v : Option Value) (h : Heap) (L : List Loc) : Prop := v = some (.int iv2) ∧ Fr n0 L ∧ h = h0
set_option maxRecDepth 65536 in
set_option maxHeartbeats 40000000 in
theorem am33_1 (l : Launch) (Z : State) (a0 : Array Value) (hw : ∀ d ∈ tables_1, d.before a0 Z = true) (ws : List Jvm.Cond) (u_1 : Addr) (aw0 : Addr) (u_0 : ClassId) (kaw0 : ClassId) (HW : Wd Z u_1 aw0 u_0 kaw0) (ad1 : Addr) (iv1 : Int32) (iv2 : Int32) (ad5 : Addr) (ad7 : Addr) (kc3 : ClassId) (fv9 : Nat → Int32) (kc4 : ClassId) (fv10 : Nat → Value) (h0 : Heap) (n0 : Nat) (Ol : Old Z n0 h0) (HF_ad1_Domains_lower : Fld Z h0 ad1 "com/example/monarc/monarc/Domains" "lower" "[I" (.ref ad5)) (HF_ad1_Domains_holes : Fld Z h0 ad1 "com/example/monarc/monarc/Domains" "holes" "[[J" (.ref ad7)) (HG_ad5 : Ari Z h0 ad5 kc3 (2 : Int32) fv9) (HG_ad7 : Arw Z h0 ad7 kc4 (.array .long) (2 : Int32) fv10) (as0 : 0 ≤ (iv1).toInt ∧ (iv1).toInt < ((2 : Int32)).toInt) (as1 : ¬ (iv2 < (0 : Int32))) (eq0 : (fv9 (iv1).toNatClampNeg) = (0 : Int32)) (rq0 : (fv10 (iv1).toNatClampNeg) = .null) (hO_ad7 : OvrA Z kc4 .long "[J") :
    MetFree l y_33 (head1 (Jvm.Cond.code y_33 prog_11_method_15_code 7 (some .int) :: ws) (rm 0 0 0 0)) (fun a_ U_ => a_ = #[(.ref ad1), (.int iv1), (.int iv2)] ∧ Z.Warmed39 U_.vm ∧ U_.heap = h0) (fun _ _ _ _ _ => True) (fun _ U_ o_ V_ => ∃ v_ L_, o_ = .returned v_ ∧ Q_am33_1 Z u_1 aw0 u_0 kaw0 ad1 iv1 iv2 ad5 ad7 kc3 fv9 kc4 fv10 h0 n0 v_ V_.heap L_ ∧ FrameEnd U_ o_ V_ L_ (rm 0 0 0 0).cells (rm 0 0 0 0).slots) := by
  refine MetFree.of_bodySF (plainFor_of_name pn_10) hisR ?_
  intro p e s m args below meth c s₁ Bd hml0 hP hK
  obtain ⟨rfl, hZ, hh⟩ := hP
  have hx := Bd.exec
  have hby := Bd.bytes
  have hml : c.maxLocals = 7 := hml0
  have hown : s.vm.findClass "com/example/monarc/monarc/Domains" = some m.cls := findClass_of_methodNamed Bd.named
  have hnm := (name_of_methodNamed Bd.named Bd.method).1
  have X0 : Stand p l e (rm 0 0 0 0) s m #[(.ref ad1), (.int iv1), (.int iv2)] below meth c s₁ [] 0 0 := Stand.of_body Bd
  have e0 : s₁.heap = h0 := by rw [← hh, Bd.state]; rfl
  have N0 := Fr.nil n0
  have kp0 := Keep.refl h0 []
  show Go p e below (Fin1 s below (Q_am33_1 Z u_1 aw0 u_0 kaw0 ad1 iv1 iv2 ad5 ad7 kc3 fv9 kc4 fv10 h0 n0) (rm 0 0 0 0).cells (rm 0 0 0 0).slots) _
  refine Go.step (fun t_ k_ => castTop (ef_am33_1 m ad1 iv1 iv2) k_) ?_
  obtain ⟨Eu_1, Su_1, Eaw0, Saw0, Au_1, Aaw0⟩ := id HW
  show Go p e below _ (s₁.setTop (mkF m 0 #[.val (.ref ad1), .val (.int iv1), .val (.int iv2), .unset, .unset, .unset, .unset] []))
  refine gs.iloadN X0.here hx (hb hby d33_0) rfl ?_
  refine gs.aloadN X0.here hx (hb hby d33_1) rfl rfl ?_
  refine gs.getF X0 hx hZ hown (wd hw 128 rfl) Via.refl e0 HF_ad1_Domains_lower (hb hby d33_2) fun T1 X1 e1 => ?_
  refine gs.iloadN X1.here hx (hb hby d33_5) rfl ?_
  obtain ⟨cl2, Ar2, q2, Sz2, Ng2, Hs2⟩ := id HG_ad5
  have hin2 : ¬ (iv1 < 0 ∨ cl2.slots.size ≤ (iv1).toNatClampNeg) := inb_of Sz2 (inb_int as0)
  have hat2 : cl2.slots[(iv1).toNatClampNeg]? = some (.int (fv9 (iv1).toNatClampNeg)) := Hs2 _ (lt_of_in hin2)
  refine Go.fin (fun t_ k_ => X1.iaload hx (j := iv1) (v := (.int (fv9 (iv1).toNatClampNeg))) (by rw [e1]; exact Ar2.1) (State.isArrayOf_alike hZ.alike Ar2.2.1) Ar2.2.2 hin2 hat2 (g := mkF m 6 _ _) rfl rfl (hb hby d33_6) _ k_) ?_
  show Go p e below _ (T1.setTop (mkF m 7 _ [(.int (fv9 (iv1).toNatClampNeg)), (.int iv2)]))
  rw [show (fv9 (iv1).toNatClampNeg) = (0 : Int32) from eq0]
  have hc7 : ¬ (iv2 < (0 : Int32)) := as1
  refine gs.icmpYes 12 X1.here hx (hb hby d33_7) (flt hc7).2.1 rfl ?_
  refine gs.aloadN X1.here hx (hb hby d33_12) rfl rfl ?_
  refine gs.getF X1 hx hZ hown (wd hw 134 rfl) Via.refl e1 HF_ad1_Domains_holes (hb hby d33_13) fun T3 X3 e3 => ?_
  refine gs.iloadN X3.here hx (hb hby d33_16) rfl ?_
  obtain ⟨cl4, Ar4, q4, Sz4, Ng4, Hs4⟩ := id HG_ad7
  have hin4 : ¬ (iv1 < 0 ∨ cl4.slots.size ≤ (iv1).toNatClampNeg) := inb_of Sz4 (inb_int as0)
  have hat4 : cl4.slots[(iv1).toNatClampNeg]? = some (fv10 (iv1).toNatClampNeg) := Hs4 _ (lt_of_in hin4)
  rw [show (fv10 (iv1).toNatClampNeg) = .null from rq0] at hat4
  refine Go.fin (fun t_ k_ => X3.aaload hx (j := iv1) (v := .null) (by rw [e3]; exact Ar4.1) (State.isArrayOf_alike hZ.alike Ar4.2.1) rfl Ar4.2.2 hin4 hat4 (g := mkF m 17 _ _) rfl rfl (hb hby d33_17) _ k_) ?_
  show Go p e below _ (T3.setTop (mkF m 18 _ [.null]))
  refine gs.astoreN X3.here hx (hb hby d33_18) rfl (l' := #[.val (.ref ad1), .val (.int iv1), .val (.int iv2), .val .null, .unset, .unset, .unset]) rfl ?_
  refine gs.aloadN X3.here hx (hb hby d33_19) rfl rfl ?_
  refine Go.fin (fun t_ k_ => XS.ifnonnullNo X3.here hx rfl (hb hby d33_20) rfl k_) ?_
  show Go p e below _ (T3.setTop (mkF m 23 _ []))
  refine gs.iloadN X3.here hx (hb hby d33_23) rfl ?_
  refine Go.retI X3 hx Bd.returns Bd.notSynchronized (hb hby d33_24) (by rw [e3]; exact ⟨rfl, N0, rfl⟩) (by decide) (by decide)
theorem d32_27 : decode c_32 27 = .ok (.istore_n 3, 1) := by decide +kernel
theorem d32_28 : decode c_32 28 = .ok (.aload_n 0, 1) := by decide +kernel
theorem d32_29 : decode c_32 29 = .ok (.getfield 32, 3) := by decide +kernel
theorem d32_32 : decode c_32 32 = .ok (.iload_n 1, 1) := by decide +kernel
theorem d32_33 : decode c_32 33 = .ok (.iaload, 1) := by decide +kernel
theorem d32_34 : decode c_32 34 = .ok (.istore 4, 2) := by decide +kernel
theorem d32_36 : decode c_32 36 = .ok (.aload_n 0, 1) := by decide +kernel
theorem d32_37 : decode c_32 37 = .ok (.iload_n 1, 1) := by decide +kernel
theorem d32_38 : decode c_32 38 = .ok (.aload_n 0, 1) := by decide +kernel
theorem d32_39 : decode c_32 39 = .ok (.getfield 40, 3) := by decide +kernel
theorem d32_42 : decode c_32 42 = .ok (.iload_n 1, 1) := by decide +kernel
theorem d32_43 : decode c_32 43 = .ok (.iaload, 1) := by decide +kernel
theorem d32_44 : decode c_32 44 = .ok (.aload_n 0, 1) := by decide +kernel
theorem d32_45 : decode c_32 45 = .ok (.iload_n 1, 1) := by decide +kernel
theorem d32_46 : decode c_32 46 = .ok (.iload_n 3, 1) := by decide +kernel
theorem d32_47 : decode c_32 47 = .ok (.iconst 1, 1) := by decide +kernel
theorem d32_48 : decode c_32 48 = .ok (.iadd, 1) := by decide +kernel
theorem d32_49 : decode c_32 49 = .ok (.iload 4, 2) := by decide +kernel
theorem d32_51 : decode c_32 51 = .ok (.iconst 1, 1) := by decide +kernel
theorem d32_52 : decode c_32 52 = .ok (.iadd, 1) := by decide +kernel
theorem d32_53 : decode c_32 53 = .ok (.invokevirtual 143, 3) := by decide +kernel
def Q_am27_2 (Z : State) (u_1 : Addr) (aw0 : Addr) (u_0 : ClassId) (kaw0 : ClassId) (ad1 : Addr) (iv1 : Int32) (iv2 : Int32) (iv3 : Int32) (ad7 : Addr) (kc4 : ClassId) (fv11 : Nat → Value) (h0 : Heap) (n0 : Nat) (v : Option Value) (h : Heap) (L : List Loc) : Prop := v = some (.int (mxI (0 : Int32) (iv3 - iv2))) ∧ Fr n0 L ∧ h = h0
set_option maxRecDepth 65536 in
set_option maxHeartbeats 40000000 in
theorem am27_2 (l : Launch) (Z : State) (a0 : Array Value) (hw : ∀ d ∈ tables_1, d.before a0 Z = true) (ws : List Jvm.Cond) (u_1 : Addr) (aw0 : Addr) (u_0 : ClassId) (kaw0 : ClassId) (HW : Wd Z u_1 aw0 u_0 kaw0) (ad1 : Addr) (iv1 : Int32) (iv2 : Int32) (iv3 : Int32) (ad7 : Addr) (kc4 : ClassId) (fv11 : Nat → Value) (h0 : Heap) (n0 : Nat) (Ol : Old Z n0 h0) (HF_ad1_Domains_holes : Fld Z h0 ad1 "com/example/monarc/monarc/Domains" "holes" "[[J" (.ref ad7)) (HG_ad7 : Arw Z h0 ad7 kc4 (.array .long) (2 : Int32) fv11) (as0 : 0 ≤ (iv1).toInt ∧ (iv1).toInt < ((2 : Int32)).toInt) (rq0 : (fv11 (iv1).toNatClampNeg) = .null) (hO_ad7 : OvrA Z kc4 .long "[J") :
    MetFree l y_27 (head1 (Jvm.Cond.code y_27 prog_11_method_16_code 13 (some .int) :: ws) (rm 1 0 0 13)) (fun a_ U_ => a_ = #[(.ref ad1), (.int iv1), (.int iv2), (.int iv3)] ∧ Z.Warmed39 U_.vm ∧ U_.heap = h0) (fun _ _ _ _ _ => True) (fun _ U_ o_ V_ => ∃ v_ L_, o_ = .returned v_ ∧ Q_am27_2 Z u_1 aw0 u_0 kaw0 ad1 iv1 iv2 iv3 ad7 kc4 fv11 h0 n0 v_ V_.heap L_ ∧ FrameEnd U_ o_ V_ L_ (rm 1 0 0 13).cells (rm 1 0 0 13).slots) := by
  refine MetFree.of_bodySF (plainFor_of_name pn_10) hisR ?_
  intro p e s m args below meth c s₁ Bd hml0 hP hK
  obtain ⟨rfl, hZ, hh⟩ := hP
  have hx := Bd.exec
  have hby := Bd.bytes
  have hml : c.maxLocals = 13 := hml0
  have hown : s.vm.findClass "com/example/monarc/monarc/Domains" = some m.cls := findClass_of_methodNamed Bd.named
  have hnm := (name_of_methodNamed Bd.named Bd.method).1
  have X0 : Stand p l e (rm 1 0 0 13) s m #[(.ref ad1), (.int iv1), (.int iv2), (.int iv3)] below meth c s₁ [] 0 0 := Stand.of_body Bd
  have e0 : s₁.heap = h0 := by rw [← hh, Bd.state]; rfl
  have N0 := Fr.nil n0
  have kp0 := Keep.refl h0 []
  show Go p e below (Fin1 s below (Q_am27_2 Z u_1 aw0 u_0 kaw0 ad1 iv1 iv2 iv3 ad7 kc4 fv11 h0 n0) (rm 1 0 0 13).cells (rm 1 0 0 13).slots) _
  refine Go.step (fun t_ k_ => castTop (ef_am27_1 m ad1 iv1 iv2 iv3) k_) ?_
  obtain ⟨Eu_1, Su_1, Eaw0, Saw0, Au_1, Aaw0⟩ := id HW
  show Go p e below _ (s₁.setTop (mkF m 0 #[.val (.ref ad1), .val (.int iv1), .val (.int iv2), .val (.int iv3), .unset, .unset, .unset, .unset, .unset, .unset, .unset, .unset, .unset] []))
  refine gs.aloadN X0.here hx (hb hby d27_0) rfl rfl ?_
  refine gs.getF X0 hx hZ hown (wd hw 134 rfl) Via.refl e0 HF_ad1_Domains_holes (hb hby d27_1) fun T1 X1 e1 => ?_
  refine gs.iloadN X1.here hx (hb hby d27_4) rfl ?_
  obtain ⟨cl2, Ar2, q2, Sz2, Ng2, Hs2⟩ := id HG_ad7
  have hin2 : ¬ (iv1 < 0 ∨ cl2.slots.size ≤ (iv1).toNatClampNeg) := inb_of Sz2 (inb_int as0)
  have hat2 : cl2.slots[(iv1).toNatClampNeg]? = some (fv11 (iv1).toNatClampNeg) := Hs2 _ (lt_of_in hin2)
  rw [show (fv11 (iv1).toNatClampNeg) = .null from rq0] at hat2
  refine Go.fin (fun t_ k_ => X1.aaload hx (j := iv1) (v := .null) (by rw [e1]; exact Ar2.1) (State.isArrayOf_alike hZ.alike Ar2.2.1) rfl Ar2.2.2 hin2 hat2 (g := mkF m 5 _ _) rfl rfl (hb hby d27_5) _ k_) ?_
  show Go p e below _ (T1.setTop (mkF m 6 _ [.null]))
  refine gs.astore X1.here hx (hb hby d27_6) rfl (l' := #[.val (.ref ad1), .val (.int iv1), .val (.int iv2), .val (.int iv3), .val .null, .unset, .unset, .unset, .unset, .unset, .unset, .unset, .unset]) rfl ?_
  refine gs.aload X1.here hx (hb hby d27_8) rfl rfl ?_
  refine Go.fin (fun t_ k_ => XS.ifnullYes X1.here hx rfl (pc0 := 10) (pc' := 18) rfl (hb hby d27_10) rfl (by decide) (by decide) k_) ?_
  show Go p e below _ (T1.setTop (mkF m 18 _ []))
  refine gs.iconst 0 X1.here hx (hb hby d27_18) rfl ?_
  refine gs.iloadN X1.here hx (hb hby d27_19) rfl ?_
  refine gs.iloadN X1.here hx (hb hby d27_20) rfl ?_
  refine gs.isub X1.here hx (hb hby d27_21) ?_
  refine gs.stat 0 X1 hx hZ hown (rm13 l Z a0 hw [] u_1 aw0 u_0 kaw0 HW (0 : Int32) (iv3 - iv2) (mxI (0 : Int32) (iv3 - iv2)) h0 n0 Ol rfl) (wd hw 97 rfl) (wd hw 96 rfl) (wd hw 206 rfl) (wd hw 95 rfl) (by decide) (by decide) (by decide) (by rw [hml]; rfl) [(.int (0 : Int32)), (.int (iv3 - iv2))] (lenOf pd_4 rfl) rfl (Nat.le_of_eq rfl) (hb hby d27_22) rfl e1 (by decide) (by decide) fun T3 Lc3 v3 X3 hQ3 => ?_
  obtain ⟨rfl, Nq3, e3⟩ := hQ3
  have N3 := Fr.app N0 Nq3
  show Go p e below _ (T3.setTop (mkF m 25 _ [(.int (mxI (0 : Int32) (iv3 - iv2)))]))
  refine Go.retI X3 hx Bd.returns Bd.notSynchronized (hb hby d27_25) (by rw [e3]; exact ⟨rfl, N3, rfl⟩) (by decide) (by decide)
theorem d32_56 : decode c_32 56 = .ok (.isub, 1) := by decide +kernel
theorem d32_57 : decode c_32 57 = .ok (.invokevirtual 130, 3) := by decide +kernel
theorem d32_60 : decode c_32 60 = .ok (.aload_n 0, 1) := by decide +kernel
theorem d32_61 : decode c_32 61 = .ok (.getfield 32, 3) := by decide +kernel
theorem d32_64 : decode c_32 64 = .ok (.iload_n 1, 1) := by decide +kernel
theorem d32_65 : decode c_32 65 = .ok (.iload_n 3, 1) := by decide +kernel
theorem d32_66 : decode c_32 66 = .ok (.iastore, 1) := by decide +kernel
theorem d32_67 : decode c_32 67 = .ok (.aload_n 0, 1) := by decide +kernel
theorem d32_68 : decode c_32 68 = .ok (.iload_n 1, 1) := by decide +kernel
theorem d32_69 : decode c_32 69 = .ok (.iconst 2, 1) := by decide +kernel
theorem d32_70 : decode c_32 70 = .ok (.iload 4, 2) := by decide +kernel
theorem d32_72 : decode c_32 72 = .ok (.invokevirtual 133, 3) := by decide +kernel
def Q_am25_2 (Z : State) (u_1 : Addr) (aw0 : Addr) (u_0 : ClassId) (kaw0 : ClassId) (ad1 : Addr) (iv1 : Int32) (iv2 : Int32) (ad3 : Addr) (ad4 : Addr) (ad5 : Addr) (ad6 : Addr) (ad7 : Addr) (ad8 : Addr) (iv5 : Int32) (iv6 : Int32) (kc6 : ClassId) (fv12 : Nat → Int64) (h0 : Heap) (n0 : Nat) (v : Option Value) (h : Heap) (L : List Loc) : Prop := v = none ∧ Fr n0 L ∧ Keep h0 h [ad1, ad3] ∧ (Exa Z h ad1 "com/example/monarc/monarc/Domains") ∧ (Fld Z h ad1 "com/example/monarc/monarc/Domains" "holes" "[[J" (.ref ad7)) ∧ (Fld Z h ad1 "com/example/monarc/monarc/Domains" "initial" "[Lcom/example/monarc/monarc/InitialDomain;" (.ref ad4)) ∧ (Fld Z h ad1 "com/example/monarc/monarc/Domains" "lower" "[I" (.ref ad5)) ∧ (Fld Z h ad1 "com/example/monarc/monarc/Domains" "resized" "Ljava/util/function/IntConsumer;" .null) ∧ (Fld Z h ad1 "com/example/monarc/monarc/Domains" "sizes" "[I" (.ref ad8)) ∧ (Fld Z h ad1 "com/example/monarc/monarc/Domains" "trail" "[J" (.ref ad3)) ∧ (Fld Z h ad1 "com/example/monarc/monarc/Domains" "trailSize" "I" (.int (iv6 + (1 : Int32)))) ∧ (Fld Z h ad1 "com/example/monarc/monarc/Domains" "upper" "[I" (.ref ad6)) ∧ (Fld Z h ad1 "com/example/monarc/monarc/Domains" "withOneValue" "I" (.int iv5)) ∧ (Exa Z h ad3 "[J") ∧ (Arf Z h ad3 kc6 (1024 : Int32) (fun i => if i = (iv6).toNatClampNeg then ((((iv1.toInt64) <<< ((32 : Int32) &&& 0x3f).toInt64) ||| ((2 : Int64) <<< ((30 : Int32) &&& 0x3f).toInt64)) ||| (iv2.toInt64)) else fv12 i))
set_option maxRecDepth 65536 in
set_option maxHeartbeats 40000000 in
theorem am25_2 (l : Launch) (Z : State) (a0 : Array Value) (hw : ∀ d ∈ tables_1, d.before a0 Z = true) (ws : List Jvm.Cond) (u_1 : Addr) (aw0 : Addr) (u_0 : ClassId) (kaw0 : ClassId) (HW : Wd Z u_1 aw0 u_0 kaw0) (ad1 : Addr) (iv1 : Int32) (iv2 : Int32) (ad3 : Addr) (ad4 : Addr) (ad5 : Addr) (ad6 : Addr) (ad7 : Addr) (ad8 : Addr) (iv5 : Int32) (iv6 : Int32) (kc6 : ClassId) (fv12 : Nat → Int64) (h0 : Heap) (n0 : Nat) (Ol : Old Z n0 h0) (HE_ad1 : Exa Z h0 ad1 "com/example/monarc/monarc/Domains") (HF_ad1_Domains_trail : Fld Z h0 ad1 "com/example/monarc/monarc/Domains" "trail" "[J" (.ref ad3)) (HF_ad1_Domains_initial : Fld Z h0 ad1 "com/example/monarc/monarc/Domains" "initial" "[Lcom/example/monarc/monarc/InitialDomain;" (.ref ad4)) (HF_ad1_Domains_lower : Fld Z h0 ad1 "com/example/monarc/monarc/Domains" "lower" "[I" (.ref ad5)) (HF_ad1_Domains_upper : Fld Z h0 ad1 "com/example/monarc/monarc/Domains" "upper" "[I" (.ref ad6)) (HF_ad1_Domains_holes : Fld Z h0 ad1 "com/example/monarc/monarc/Domains" "holes" "[[J" (.ref ad7)) (HF_ad1_Domains_sizes : Fld Z h0 ad1 "com/example/monarc/monarc/Domains" "sizes" "[I" (.ref ad8)) (HF_ad1_Domains_withOneValue : Fld Z h0 ad1 "com/example/monarc/monarc/Domains" "withOneValue" "I" (.int iv5)) (HF_ad1_Domains_trailSize : Fld Z h0 ad1 "com/example/monarc/monarc/Domains" "trailSize" "I" (.int iv6)) (HF_ad1_Domains_resized : Fld Z h0 ad1 "com/example/monarc/monarc/Domains" "resized" "Ljava/util/function/IntConsumer;" .null) (HE_ad3 : Exa Z h0 ad3 "[J") (HG_ad3 : Arf Z h0 ad3 kc6 (1024 : Int32) fv12) (nn_ad1 : n0 ≤ ad1) (nn_ad3 : n0 ≤ ad3) (ne_ad1_ad3 : ad1 ≠ ad3) (as0 : 0 ≤ (iv6).toInt ∧ (iv6).toInt < ((1024 : Int32)).toInt) (as1 : ¬ (iv6 = (1024 : Int32))) :
    MetFree l y_25 (head1 (Jvm.Cond.code y_25 prog_11_method_26_code 4 none :: ws) (rm 0 0 0 0)) (fun a_ U_ => a_ = #[(.ref ad1), (.int iv1), (.int (2 : Int32)), (.int iv2)] ∧ Z.Warmed39 U_.vm ∧ U_.heap = h0) (fun _ _ _ _ _ => True) (fun _ U_ o_ V_ => ∃ v_ L_, o_ = .returned v_ ∧ Q_am25_2 Z u_1 aw0 u_0 kaw0 ad1 iv1 iv2 ad3 ad4 ad5 ad6 ad7 ad8 iv5 iv6 kc6 fv12 h0 n0 v_ V_.heap L_ ∧ FrameEnd U_ o_ V_ L_ (rm 0 0 0 0).cells (rm 0 0 0 0).slots) := by
  refine MetFree.of_bodySF (plainFor_of_name pn_10) hisR ?_
  intro p e s m args below meth c s₁ Bd hml0 hP hK
  obtain ⟨rfl, hZ, hh⟩ := hP
  have hx := Bd.exec
  have hby := Bd.bytes
  have hml : c.maxLocals = 4 := hml0
  have hown : s.vm.findClass "com/example/monarc/monarc/Domains" = some m.cls := findClass_of_methodNamed Bd.named
  have hnm := (name_of_methodNamed Bd.named Bd.method).1
  have X0 : Stand p l e (rm 0 0 0 0) s m #[(.ref ad1), (.int iv1), (.int (2 : Int32)), (.int iv2)] below meth c s₁ [] 0 0 := Stand.of_body Bd
  have e0 : s₁.heap = h0 := by rw [← hh, Bd.state]; rfl
  have N0 := Fr.nil n0
  have kp0 := Keep.refl h0 [ad1, ad3]
  show Go p e below (Fin1 s below (Q_am25_2 Z u_1 aw0 u_0 kaw0 ad1 iv1 iv2 ad3 ad4 ad5 ad6 ad7 ad8 iv5 iv6 kc6 fv12 h0 n0) (rm 0 0 0 0).cells (rm 0 0 0 0).slots) _
  refine Go.step (fun t_ k_ => castTop (ef_am25_1 m ad1 iv1 (2 : Int32) iv2) k_) ?_
  obtain ⟨Eu_1, Su_1, Eaw0, Saw0, Au_1, Aaw0⟩ := id HW
  show Go p e below _ (s₁.setTop (mkF m 0 #[.val (.ref ad1), .val (.int iv1), .val (.int (2 : Int32)), .val (.int iv2)] []))
  refine gs.aloadN X0.here hx (hb hby d25_0) rfl rfl ?_
  refine gs.getF X0 hx hZ hown (wd hw 194 rfl) Via.refl e0 HF_ad1_Domains_trailSize (hb hby d25_1) fun T1 X1 e1 => ?_
  refine gs.aloadN X1.here hx (hb hby d25_4) rfl rfl ?_
  refine gs.getF X1 hx hZ hown (wd hw 110 rfl) Via.refl e1 HF_ad1_Domains_trail (hb hby d25_5) fun T2 X2 e2 => ?_
  obtain ⟨cl3, Ar3, -, Sz3, Ng3, -⟩ := id HG_ad3
  refine Go.fin (fun t_ k_ => X2.arraylength hx (by rw [e2]; exact Ar3.1) (State.isArrayOf_alike hZ.alike Ar3.2.1) (g := mkF m 8 _ _) rfl rfl (hb hby d25_8) _ k_) ?_
  rw [len_of Sz3 Ng3]
  show Go p e below _ (T2.setTop (mkF m 9 _ [(.int (1024 : Int32)), (.int iv6)]))
  have hc9 : ¬ (iv6 = (1024 : Int32)) := as1
  refine gs.icmpYes 29 X2.here hx (hb hby d25_9) (feq hc9).2 rfl ?_
  refine gs.aloadN X2.here hx (hb hby d25_29) rfl rfl ?_
  refine gs.getF X2 hx hZ hown (wd hw 110 rfl) Via.refl e2 HF_ad1_Domains_trail (hb hby d25_30) fun T4 X4 e4 => ?_
  refine gs.aloadN X4.here hx (hb hby d25_33) rfl rfl ?_
  refine gs.dup X4.here hx (hb hby d25_34) rfl ?_
  refine gs.getF X4 hx hZ hown (wd hw 194 rfl) Via.refl e4 HF_ad1_Domains_trailSize (hb hby d25_35) fun T5 X5 e5 => ?_
  refine Go.fin (fun t_ k_ => XS.dupX1 X5.here hx rfl (hb hby d25_38) rfl rfl rfl k_) ?_
  show Go p e below _ (T5.setTop (mkF m 39 _ [(.int iv6), (.ref ad1), (.int iv6), (.ref ad3)]))
  refine gs.iconst 1 X5.here hx (hb hby d25_39) rfl ?_
  refine gs.iadd X5.here hx (hb hby d25_40) ?_
  obtain ⟨T6, h6, X6, e6, W6, st6⟩ := putF X5 hx hZ hown (host := "") (Or.inl (wd hw 194 rfl)) Via.refl e5 HF_ad1_Domains_trailSize HE_ad1 (Or.inl (wd hw 195 rfl)) (wd hw 103 rfl) (ty := .int) (by decide) rfl rfl (g := (mkF m 41 #[.val (.ref ad1), .val (.int iv1), .val (.int (2 : Int32)), .val (.int iv2)] [(.int (iv6 + (1 : Int32))), (.ref ad1), (.int iv6), (.ref ad3)])) rfl rfl (hb hby d25_41)
  have N6 := Fr.snoc X6 N0 nn_ad1
  have old6 := Ol.wr W6 nn_ad1
  have kp6 := kp0.wr W6 (Or.inl (List.mem_of_getElem? (i := 0) rfl))
  have F6 := HF_ad1_Domains_trailSize.same W6
  refine Go.fin st6 ?_
  show Go p e below _ (T6.setTop (mkF m 44 _ [(.int iv6), (.ref ad3)]))
  refine gs.iloadN X6.here hx (hb hby d25_44) rfl ?_
  refine Go.fin (fun t_ k_ => XS.i2l X6.here hx rfl (hb hby d25_45) rfl k_) ?_
  show Go p e below _ (T6.setTop (mkF m 46 _ [(.long (iv1.toInt64)), (.int iv6), (.ref ad3)]))
  refine gs.bipush 32 X6.here hx (hb hby d25_46) rfl ?_
  refine Go.fin (fun t_ k_ => XS.lshl X6.here hx rfl (hb hby d25_48) rfl k_) ?_
  show Go p e below _ (T6.setTop (mkF m 49 _ [(.long ((iv1.toInt64) <<< ((32 : Int32) &&& 0x3f).toInt64)), (.int iv6), (.ref ad3)]))
  refine gs.iloadN X6.here hx (hb hby d25_49) rfl ?_
  refine Go.fin (fun t_ k_ => XS.i2l X6.here hx rfl (hb hby d25_50) rfl k_) ?_
  show Go p e below _ (T6.setTop (mkF m 51 _ [(.long ((2 : Int32).toInt64)), (.long ((iv1.toInt64) <<< ((32 : Int32) &&& 0x3f).toInt64)), (.int iv6), (.ref ad3)]))
  rw [show ((2 : Int32).toInt64) = (2 : Int64) from by decide]
  refine gs.bipush 30 X6.here hx (hb hby d25_51) rfl ?_
  refine Go.fin (fun t_ k_ => XS.lshl X6.here hx rfl (hb hby d25_53) rfl k_) ?_
  show Go p e below _ (T6.setTop (mkF m 54 _ [(.long ((2 : Int64) <<< ((30 : Int32) &&& 0x3f).toInt64)), (.long ((iv1.toInt64) <<< ((32 : Int32) &&& 0x3f).toInt64)), (.int iv6), (.ref ad3)]))
  refine gs.lor X6.here hx (hb hby d25_54) ?_
  refine gs.iloadN X6.here hx (hb hby d25_55) rfl ?_
  refine Go.fin (fun t_ k_ => XS.i2l X6.here hx rfl (hb hby d25_56) rfl k_) ?_
  show Go p e below _ (T6.setTop (mkF m 57 _ [(.long (iv2.toInt64)), (.long (((iv1.toInt64) <<< ((32 : Int32) &&& 0x3f).toInt64) ||| ((2 : Int64) <<< ((30 : Int32) &&& 0x3f).toInt64))), (.int iv6), (.ref ad3)]))
  refine gs.lor X6.here hx (hb hby d25_57) ?_
  have f7 := (HG_ad3.other W6 (Ne.symm ne_ad1_ad3))
  obtain ⟨cl8, Ar8, q8, Sz8, Ng8, Hs8⟩ := id f7
  have hin8 : ¬ (iv6 < 0 ∨ cl8.slots.size ≤ (iv6).toNatClampNeg) := inb_of Sz8 (inb_int as0)
  obtain ⟨T9, h9, X9, e9, W9, st9⟩ := stJ X6 hx hZ e6 Ar8 (j := iv6) hin8 (g := (mkF m 58 #[.val (.ref ad1), .val (.int iv1), .val (.int (2 : Int32)), .val (.int iv2)] [(.long ((((iv1.toInt64) <<< ((32 : Int32) &&& 0x3f).toInt64) ||| ((2 : Int64) <<< ((30 : Int32) &&& 0x3f).toInt64)) ||| (iv2.toInt64))), (.int iv6), (.ref ad3)])) rfl rfl (hb hby d25_58)
  have N9 := Fr.snoc X9 N6 nn_ad3
  have old9 := old6.wr W9 nn_ad3
  have kp9 := kp6.wr W9 (Or.inl (List.mem_of_getElem? (i := 1) rfl))
  have V9 : Arf Z h9 ad3 kc6 (1024 : Int32) (fun i => if i = (iv6).toNatClampNeg then ((((iv1.toInt64) <<< ((32 : Int32) &&& 0x3f).toInt64) ||| ((2 : Int64) <<< ((30 : Int32) &&& 0x3f).toInt64)) ||| (iv2.toInt64)) else fv12 i) := Arf.set Ar8 q8 Sz8 Ng8 Hs8 W9
  refine Go.fin st9 ?_
  show Go p e below _ (T9.setTop (mkF m 59 _ []))
  refine gs.aloadN X9.here hx (hb hby d25_59) rfl rfl ?_
  have f10 := ((HF_ad1_Domains_resized.other W6 (Or.inr (sn81 hw))).other W9 (Or.inl ne_ad1_ad3))
  refine gs.getF X9 hx hZ hown (wd hw 196 rfl) Via.refl e9 f10 (hb hby d25_60) fun T11 X11 e11 => ?_
  refine Go.fin (fun t_ k_ => XS.ifnullYes X11.here hx rfl (pc0 := 63) (pc' := 76) rfl (hb hby d25_63) rfl (by decide) (by decide) k_) ?_
  show Go p e below _ (T11.setTop (mkF m 76 _ []))
  have f12 := ((HE_ad1.wr W6).wr W9)
  have f13 := ((HF_ad1_Domains_holes.other W6 (Or.inr (sn82 hw))).other W9 (Or.inl ne_ad1_ad3))
  have f14 := ((HF_ad1_Domains_initial.other W6 (Or.inr (sn83 hw))).other W9 (Or.inl ne_ad1_ad3))
  have f15 := ((HF_ad1_Domains_lower.other W6 (Or.inr (sn84 hw))).other W9 (Or.inl ne_ad1_ad3))
  have f16 := ((HF_ad1_Domains_sizes.other W6 (Or.inr (sn85 hw))).other W9 (Or.inl ne_ad1_ad3))
  have f17 := ((HF_ad1_Domains_trail.other W6 (Or.inr (sn86 hw))).other W9 (Or.inl ne_ad1_ad3))
  have f18 := (F6.other W9 (Or.inl ne_ad1_ad3))
  have f19 := ((HF_ad1_Domains_upper.other W6 (Or.inr (sn87 hw))).other W9 (Or.inl ne_ad1_ad3))
  have f20 := ((HF_ad1_Domains_withOneValue.other W6 (Or.inr (sn88 hw))).other W9 (Or.inl ne_ad1_ad3))
  have f21 := ((HE_ad3.wr W6).wr W9)
  refine Go.retV X11 hx Bd.returns Bd.notSynchronized (hb hby d25_76) (by rw [e11]; exact ⟨rfl, N9, kp9, f12, f13, f14, f15, f10, f16, f17, f18, f19, f20, f21, V9⟩) (by decide) (by decide)
theorem d32_75 : decode c_32 75 = .ok (.return_, 1) := by decide +kernel
theorem ef_am32_1 (m : MethodId) (x0 : Addr) (x1 : Int32) (x2 : Int32)  : entryFrame m #[(.ref x0), (.int x1), (.int x2)] 5 = mkF m 0 #[.val (.ref x0), .val (.int x1), .val (.int x2), .unset, .unset] [] := by first | (simp [entryFrame, mkF, argsToLocals, Value.category]; done) | rfl
def Q_am32_1 (Z : State) (u_1 : Addr) (aw0 : Addr) (u_0 : ClassId) (kaw0 : ClassId) (ad1 : Addr) (iv1 : Int32) (iv2 : Int32) (ad3 : Addr) (ad4 : Addr) (ad5 : Addr) (ad6 : Addr) (ad7 : Addr) (ad8 : Addr) (iv5 : Int32) (iv6 : Int32) (kc1 : ClassId) (fv7 : Nat → Int32) (kc2 : ClassId) (fv8 : Nat → Int32) (kc3 : ClassId) (fv9 : Nat → Int32) (kc4 : ClassId) (fv10 : Nat → Value) (kc6 : ClassId) (fv12 : Nat → Int64) (iv13 : Int32) (h0 : Heap) (n0 : Nat) (v : Option Value) (h : Heap) (L : List Loc) : Prop := ∃ ex1 : Int32, v = none ∧ Fr n0 L ∧ Keep h0 h [ad1, ad3, ad6, ad8] ∧ (Exa Z h ad1 "com/example/monarc/monarc/Domains") ∧ (Fld Z h ad1 "com/example/monarc/monarc/Domains" "holes" "[[J" (.ref ad7)) ∧ (Fld Z h ad1 "com/example/monarc/monarc/Domains" "initial" "[Lcom/example/monarc/monarc/InitialDomain;" (.ref ad4)) ∧ (Fld Z h ad1 "com/example/monarc/monarc/Domains" "lower" "[I" (.ref ad5)) ∧ (Fld Z h ad1 "com/example/monarc/monarc/Domains" "resized" "Ljava/util/function/IntConsumer;" .null) ∧ (Fld Z h ad1 "com/example/monarc/monarc/Domains" "sizes" "[I" (.ref ad8)) ∧ (Fld Z h ad1 "com/example/monarc/monarc/Domains" "trail" "[J" (.ref ad3)) ∧ (Fld Z h ad1 "com/example/monarc/monarc/Domains" "trailSize" "I" (.int (iv6 + (1 : Int32)))) ∧ (Fld Z h ad1 "com/example/monarc/monarc/Domains" "upper" "[I" (.ref ad6)) ∧ (Fld Z h ad1 "com/example/monarc/monarc/Domains" "withOneValue" "I" (.int ex1)) ∧ (Exa Z h ad3 "[J") ∧ (Arf Z h ad3 kc6 (1024 : Int32) (fun i => if i = (iv6).toNatClampNeg then ((((iv1.toInt64) <<< ((32 : Int32) &&& 0x3f).toInt64) ||| ((2 : Int64) <<< ((30 : Int32) &&& 0x3f).toInt64)) ||| (iv13.toInt64)) else fv12 i)) ∧ (Ari Z h ad6 kc2 (2 : Int32) (fun i => if i = (iv1).toNatClampNeg then iv2 else fv8 i)) ∧ (Ari Z h ad8 kc1 (2 : Int32) (fun i => if i = (iv1).toNatClampNeg then ((fv7 (iv1).toNatClampNeg) - (mxI (0 : Int32) ((iv13 + (1 : Int32)) - (iv2 + (1 : Int32))))) else fv7 i))
set_option maxRecDepth 65536 in
set_option maxHeartbeats 40000000 in
theorem am32_1 (l : Launch) (Z : State) (a0 : Array Value) (hw : ∀ d ∈ tables_1, d.before a0 Z = true) (ws : List Jvm.Cond) (u_1 : Addr) (aw0 : Addr) (u_0 : ClassId) (kaw0 : ClassId) (HW : Wd Z u_1 aw0 u_0 kaw0) (ad1 : Addr) (iv1 : Int32) (iv2 : Int32) (ad3 : Addr) (ad4 : Addr) (ad5 : Addr) (ad6 : Addr) (ad7 : Addr) (ad8 : Addr) (iv5 : Int32) (iv6 : Int32) (kc1 : ClassId) (fv7 : Nat → Int32) (kc2 : ClassId) (fv8 : Nat → Int32) (kc3 : ClassId) (fv9 : Nat → Int32) (kc4 : ClassId) (fv10 : Nat → Value) (kc6 : ClassId) (fv12 : Nat → Int64) (iv13 : Int32) (h0 : Heap) (n0 : Nat) (Ol : Old Z n0 h0) (HE_ad1 : Exa Z h0 ad1 "com/example/monarc/monarc/Domains") (HF_ad1_Domains_trail : Fld Z h0 ad1 "com/example/monarc/monarc/Domains" "trail" "[J" (.ref ad3)) (HF_ad1_Domains_initial : Fld Z h0 ad1 "com/example/monarc/monarc/Domains" "initial" "[Lcom/example/monarc/monarc/InitialDomain;" (.ref ad4)) (HF_ad1_Domains_lower : Fld Z h0 ad1 "com/example/monarc/monarc/Domains" "lower" "[I" (.ref ad5)) (HF_ad1_Domains_upper : Fld Z h0 ad1 "com/example/monarc/monarc/Domains" "upper" "[I" (.ref ad6)) (HF_ad1_Domains_holes : Fld Z h0 ad1 "com/example/monarc/monarc/Domains" "holes" "[[J" (.ref ad7)) (HF_ad1_Domains_sizes : Fld Z h0 ad1 "com/example/monarc/monarc/Domains" "sizes" "[I" (.ref ad8)) (HF_ad1_Domains_withOneValue : Fld Z h0 ad1 "com/example/monarc/monarc/Domains" "withOneValue" "I" (.int iv5)) (HF_ad1_Domains_trailSize : Fld Z h0 ad1 "com/example/monarc/monarc/Domains" "trailSize" "I" (.int iv6)) (HF_ad1_Domains_resized : Fld Z h0 ad1 "com/example/monarc/monarc/Domains" "resized" "Ljava/util/function/IntConsumer;" .null) (HE_ad3 : Exa Z h0 ad3 "[J") (HG_ad8 : Ari Z h0 ad8 kc1 (2 : Int32) fv7) (HG_ad6 : Ari Z h0 ad6 kc2 (2 : Int32) fv8) (HG_ad5 : Ari Z h0 ad5 kc3 (2 : Int32) fv9) (HG_ad7 : Arw Z h0 ad7 kc4 (.array .long) (2 : Int32) fv10) (HG_ad3 : Arf Z h0 ad3 kc6 (1024 : Int32) fv12) (nn_ad1 : n0 ≤ ad1) (nn_ad3 : n0 ≤ ad3) (nn_ad6 : n0 ≤ ad6) (nn_ad8 : n0 ≤ ad8) (ne_ad1_ad3 : ad1 ≠ ad3) (ne_ad1_ad6 : ad1 ≠ ad6) (ne_ad1_ad8 : ad1 ≠ ad8) (ne_ad3_ad6 : ad3 ≠ ad6) (ne_ad3_ad8 : ad3 ≠ ad8) (ne_ad6_ad8 : ad6 ≠ ad8) (as0 : 0 ≤ (iv1).toInt ∧ (iv1).toInt < ((2 : Int32)).toInt) (as1 : 0 ≤ (iv6).toInt ∧ (iv6).toInt < ((1024 : Int32)).toInt) (as2 : ¬ (iv2 < (0 : Int32))) (as3 : ¬ (iv6 = (1024 : Int32))) (eq0 : (fv8 (iv1).toNatClampNeg) = iv13) (eq1 : (fv9 (iv1).toNatClampNeg) = (0 : Int32)) (rq0 : (fv10 (iv1).toNatClampNeg) = .null) (hO_ad7 : OvrA Z kc4 .long "[J") :
    MetFree l y_32 (head1 (Jvm.Cond.code y_32 prog_11_method_24_code 5 none :: ws) (rm 2 0 0 40)) (fun a_ U_ => a_ = #[(.ref ad1), (.int iv1), (.int iv2)] ∧ Z.Warmed39 U_.vm ∧ U_.heap = h0) (fun _ _ _ _ _ => True) (fun _ U_ o_ V_ => ∃ v_ L_, o_ = .returned v_ ∧ Q_am32_1 Z u_1 aw0 u_0 kaw0 ad1 iv1 iv2 ad3 ad4 ad5 ad6 ad7 ad8 iv5 iv6 kc1 fv7 kc2 fv8 kc3 fv9 kc4 fv10 kc6 fv12 iv13 h0 n0 v_ V_.heap L_ ∧ FrameEnd U_ o_ V_ L_ (rm 2 0 0 40).cells (rm 2 0 0 40).slots) := by
  refine MetFree.of_bodySF (plainFor_of_name pn_10) hisR ?_
  intro p e s m args below meth c s₁ Bd hml0 hP hK
  obtain ⟨rfl, hZ, hh⟩ := hP
  have hx := Bd.exec
  have hby := Bd.bytes
  have hml : c.maxLocals = 5 := hml0
  have hown : s.vm.findClass "com/example/monarc/monarc/Domains" = some m.cls := findClass_of_methodNamed Bd.named
  have hnm := (name_of_methodNamed Bd.named Bd.method).1
  have X0 : Stand p l e (rm 2 0 0 40) s m #[(.ref ad1), (.int iv1), (.int iv2)] below meth c s₁ [] 0 0 := Stand.of_body Bd
  have e0 : s₁.heap = h0 := by rw [← hh, Bd.state]; rfl
  have N0 := Fr.nil n0
  have kp0 := Keep.refl h0 [ad1, ad3, ad6, ad8]
  show Go p e below (Fin1 s below (Q_am32_1 Z u_1 aw0 u_0 kaw0 ad1 iv1 iv2 ad3 ad4 ad5 ad6 ad7 ad8 iv5 iv6 kc1 fv7 kc2 fv8 kc3 fv9 kc4 fv10 kc6 fv12 iv13 h0 n0) (rm 2 0 0 40).cells (rm 2 0 0 40).slots) _
  refine Go.step (fun t_ k_ => castTop (ef_am32_1 m ad1 iv1 iv2) k_) ?_
  obtain ⟨Eu_1, Su_1, Eaw0, Saw0, Au_1, Aaw0⟩ := id HW
  show Go p e below _ (s₁.setTop (mkF m 0 #[.val (.ref ad1), .val (.int iv1), .val (.int iv2), .unset, .unset] []))
  refine gs.iloadN X0.here hx (hb hby d32_0) rfl ?_
  refine gs.aloadN X0.here hx (hb hby d32_1) rfl rfl ?_
  refine gs.getF X0 hx hZ hown (wd hw 128 rfl) Via.refl e0 HF_ad1_Domains_lower (hb hby d32_2) fun T1 X1 e1 => ?_
  refine gs.iloadN X1.here hx (hb hby d32_5) rfl ?_
  obtain ⟨cl2, Ar2, q2, Sz2, Ng2, Hs2⟩ := id HG_ad5
  have hin2 : ¬ (iv1 < 0 ∨ cl2.slots.size ≤ (iv1).toNatClampNeg) := inb_of Sz2 (inb_int as0)
  have hat2 : cl2.slots[(iv1).toNatClampNeg]? = some (.int (fv9 (iv1).toNatClampNeg)) := Hs2 _ (lt_of_in hin2)
  refine Go.fin (fun t_ k_ => X1.iaload hx (j := iv1) (v := (.int (fv9 (iv1).toNatClampNeg))) (by rw [e1]; exact Ar2.1) (State.isArrayOf_alike hZ.alike Ar2.2.1) Ar2.2.2 hin2 hat2 (g := mkF m 6 _ _) rfl rfl (hb hby d32_6) _ k_) ?_
  show Go p e below _ (T1.setTop (mkF m 7 _ [(.int (fv9 (iv1).toNatClampNeg)), (.int iv2)]))
  rw [show (fv9 (iv1).toNatClampNeg) = (0 : Int32) from eq1]
  have hc7 : ¬ (iv2 < (0 : Int32)) := as2
  refine gs.icmpYes 21 X1.here hx (hb hby d32_7) (flt hc7).2.1 rfl ?_
  refine gs.aloadN X1.here hx (hb hby d32_21) rfl rfl ?_
  refine gs.iloadN X1.here hx (hb hby d32_22) rfl ?_
  refine gs.iloadN X1.here hx (hb hby d32_23) rfl ?_
  refine gs.priv 0 X1 hx hZ hown (am33_1 l Z a0 hw [] u_1 aw0 u_0 kaw0 HW (ad1) (iv1) (iv2) (ad5) (ad7) (kc3) (fv9) (kc4) (fv10) h0 n0 Ol HF_ad1_Domains_lower HF_ad1_Domains_holes HG_ad5 HG_ad7 as0 as2 eq1 rq0 hO_ad7) (wd hw 233 rfl) (wd hw 104 rfl) (wd hw 230 rfl) (wd hw 231 rfl) (sel_priv hZ (wd hw 103 rfl) (wd hw 232 rfl) (wd hw 231 rfl) (by decide)) (wd hw 232 rfl) (by decide) HE_ad1 (by decide) (by decide) (by rw [hml]; rfl) [(.int iv1), (.int iv2)] (lenOf pd_4 rfl) rfl (Nat.le_of_eq rfl) (hb hby d32_24) rfl e1 (by decide) (by decide) fun T3 Lc3 v3 X3 hQ3 => ?_
  obtain ⟨rfl, Nq3, e3⟩ := hQ3
  have N3 := Fr.app N0 Nq3
  show Go p e below _ (T3.setTop (mkF m 27 _ [(.int iv2)]))
  refine gs.istoreN X3.here hx (hb hby d32_27) (l' := #[.val (.ref ad1), .val (.int iv1), .val (.int iv2), .val (.int iv2), .unset]) rfl ?_
  refine gs.aloadN X3.here hx (hb hby d32_28) rfl rfl ?_
  refine gs.getF X3 hx hZ hown (wd hw 130 rfl) Via.refl e3 HF_ad1_Domains_upper (hb hby d32_29) fun T4 X4 e4 => ?_
  refine gs.iloadN X4.here hx (hb hby d32_32) rfl ?_
  obtain ⟨cl5, Ar5, q5, Sz5, Ng5, Hs5⟩ := id HG_ad6
  have hin5 : ¬ (iv1 < 0 ∨ cl5.slots.size ≤ (iv1).toNatClampNeg) := inb_of Sz5 (inb_int as0)
  have hat5 : cl5.slots[(iv1).toNatClampNeg]? = some (.int (fv8 (iv1).toNatClampNeg)) := Hs5 _ (lt_of_in hin5)
  refine Go.fin (fun t_ k_ => X4.iaload hx (j := iv1) (v := (.int (fv8 (iv1).toNatClampNeg))) (by rw [e4]; exact Ar5.1) (State.isArrayOf_alike hZ.alike Ar5.2.1) Ar5.2.2 hin5 hat5 (g := mkF m 33 _ _) rfl rfl (hb hby d32_33) _ k_) ?_
  show Go p e below _ (T4.setTop (mkF m 34 _ [(.int (fv8 (iv1).toNatClampNeg))]))
  rw [show (fv8 (iv1).toNatClampNeg) = iv13 from eq0]
  refine gs.istore X4.here hx (hb hby d32_34) (l' := #[.val (.ref ad1), .val (.int iv1), .val (.int iv2), .val (.int iv2), .val (.int iv13)]) rfl ?_
  refine gs.aloadN X4.here hx (hb hby d32_36) rfl rfl ?_
  refine gs.iloadN X4.here hx (hb hby d32_37) rfl ?_
  refine gs.aloadN X4.here hx (hb hby d32_38) rfl rfl ?_
  refine gs.getF X4 hx hZ hown (wd hw 136 rfl) Via.refl e4 HF_ad1_Domains_sizes (hb hby d32_39) fun T6 X6 e6 => ?_
  refine gs.iloadN X6.here hx (hb hby d32_42) rfl ?_
  obtain ⟨cl7, Ar7, q7, Sz7, Ng7, Hs7⟩ := id HG_ad8
  have hin7 : ¬ (iv1 < 0 ∨ cl7.slots.size ≤ (iv1).toNatClampNeg) := inb_of Sz7 (inb_int as0)
  have hat7 : cl7.slots[(iv1).toNatClampNeg]? = some (.int (fv7 (iv1).toNatClampNeg)) := Hs7 _ (lt_of_in hin7)
  refine Go.fin (fun t_ k_ => X6.iaload hx (j := iv1) (v := (.int (fv7 (iv1).toNatClampNeg))) (by rw [e6]; exact Ar7.1) (State.isArrayOf_alike hZ.alike Ar7.2.1) Ar7.2.2 hin7 hat7 (g := mkF m 43 _ _) rfl rfl (hb hby d32_43) _ k_) ?_
  show Go p e below _ (T6.setTop (mkF m 44 _ [(.int (fv7 (iv1).toNatClampNeg)), (.int iv1), (.ref ad1)]))
  refine gs.aloadN X6.here hx (hb hby d32_44) rfl rfl ?_
  refine gs.iloadN X6.here hx (hb hby d32_45) rfl ?_
  refine gs.iloadN X6.here hx (hb hby d32_46) rfl ?_
  refine gs.iconst 1 X6.here hx (hb hby d32_47) rfl ?_
  refine gs.iadd X6.here hx (hb hby d32_48) ?_
  refine gs.iload X6.here hx (hb hby d32_49) rfl ?_
  refine gs.iconst 1 X6.here hx (hb hby d32_51) rfl ?_
  refine gs.iadd X6.here hx (hb hby d32_52) ?_
  refine gs.priv 3 X6 hx hZ hown (am27_2 l Z a0 hw [] u_1 aw0 u_0 kaw0 HW (ad1) (iv1) ((iv2 + (1 : Int32))) ((iv13 + (1 : Int32))) (ad7) (kc4) (fv10) h0 n0 Ol HF_ad1_Domains_holes HG_ad7 as0 rq0 hO_ad7) (wd hw 205 rfl) (wd hw 104 rfl) (wd hw 202 rfl) (wd hw 203 rfl) (sel_priv hZ (wd hw 103 rfl) (wd hw 204 rfl) (wd hw 203 rfl) (by decide)) (wd hw 204 rfl) (by decide) HE_ad1 (by decide) (by decide) (by rw [hml]; rfl) [(.int iv1), (.int (iv2 + (1 : Int32))), (.int (iv13 + (1 : Int32)))] (lenOf pd_14 rfl) rfl (Nat.le_of_eq rfl) (hb hby d32_53) rfl e6 (by decide) (by decide) fun T8 Lc8 v8 X8 hQ8 => ?_
  obtain ⟨rfl, Nq8, e8⟩ := hQ8
  have N8 := Fr.app N3 Nq8
  show Go p e below _ (T8.setTop (mkF m 56 _ [(.int (mxI (0 : Int32) ((iv13 + (1 : Int32)) - (iv2 + (1 : Int32))))), (.int (fv7 (iv1).toNatClampNeg)), (.int iv1), (.ref ad1)]))
  refine gs.isub X8.here hx (hb hby d32_56) ?_
  refine gs.priv 0 X8 hx hZ hown (am24_1 l Z a0 hw [] u_1 aw0 u_0 kaw0 HW (ad1) (iv1) (((fv7 (iv1).toNatClampNeg) - (mxI (0 : Int32) ((iv13 + (1 : Int32)) - (iv2 + (1 : Int32)))))) (ad3) (ad4) (ad5) (ad6) (ad7) (ad8) (iv5) (iv6) (kc1) (fv7) h0 n0 Ol HE_ad1 HF_ad1_Domains_trail HF_ad1_Domains_initial HF_ad1_Domains_lower HF_ad1_Domains_upper HF_ad1_Domains_holes HF_ad1_Domains_sizes HF_ad1_Domains_withOneValue HF_ad1_Domains_trailSize HF_ad1_Domains_resized HG_ad8 nn_ad1 nn_ad8 ne_ad1_ad8 as0) (wd hw 189 rfl) (wd hw 104 rfl) (wd hw 186 rfl) (wd hw 187 rfl) (sel_priv hZ (wd hw 103 rfl) (wd hw 188 rfl) (wd hw 187 rfl) (by decide)) (wd hw 188 rfl) (by decide) HE_ad1 (by decide) (by decide) (by rw [hml]; rfl) [(.int iv1), (.int ((fv7 (iv1).toNatClampNeg) - (mxI (0 : Int32) ((iv13 + (1 : Int32)) - (iv2 + (1 : Int32))))))] (lenOf pd_15 rfl) rfl (Nat.le_of_eq rfl) (hb hby d32_57) rfl e8 (by decide) (by decide) fun T9 Lc9 v9 X9 hQ9 => ?_
  obtain ⟨ex9_0, rfl, Nq9, K9, p9_0, p9_1, p9_2, p9_3, p9_4, p9_5, p9_6, p9_7, p9_8, p9_9, p9_10⟩ := hQ9
  have old9 := Ol.keep K9 (allS nn_ad1 (allS nn_ad8 all0))
  have kp9 := kp0.trans K9 (allS (Or.inl (List.mem_of_getElem? (i := 0) rfl)) (allS (Or.inl (List.mem_of_getElem? (i := 3) rfl)) all0))
  have N9 := Fr.app N8 Nq9
  show Go p e below _ (T9.setTop (mkF m 60 _ []))
  refine gs.aloadN X9.here hx (hb hby d32_60) rfl rfl ?_
  refine gs.getF X9 hx hZ hown (wd hw 130 rfl) Via.refl rfl p9_8 (hb hby d32_61) fun T10 X10 e10 => ?_
  refine gs.iloadN X10.here hx (hb hby d32_64) rfl ?_
  refine gs.iloadN X10.here hx (hb hby d32_65) rfl ?_
  have f11 := (HG_ad6.keep K9 (ninS (Ne.symm ne_ad1_ad6) (ninS ne_ad6_ad8 nin0)))
  obtain ⟨cl12, Ar12, q12, Sz12, Ng12, Hs12⟩ := id f11
  have hin12 : ¬ (iv1 < 0 ∨ cl12.slots.size ≤ (iv1).toNatClampNeg) := inb_of Sz12 (inb_int as0)
  obtain ⟨T13, h13, X13, e13, W13, st13⟩ := stI X10 hx hZ e10 Ar12 (j := iv1) hin12 (g := (mkF m 66 #[.val (.ref ad1), .val (.int iv1), .val (.int iv2), .val (.int iv2), .val (.int iv13)] [(.int iv2), (.int iv1), (.ref ad6)])) rfl rfl (hb hby d32_66)
  have N13 := Fr.snoc X13 N9 nn_ad6
  have old13 := old9.wr W13 nn_ad6
  have kp13 := kp9.wr W13 (Or.inl (List.mem_of_getElem? (i := 2) rfl))
  have V13 : Ari Z h13 ad6 kc2 (2 : Int32) (fun i => if i = (iv1).toNatClampNeg then iv2 else fv8 i) := Ari.set Ar12 q12 Sz12 Ng12 Hs12 W13
  refine Go.fin st13 ?_
  show Go p e below _ (T13.setTop (mkF m 67 _ []))
  refine gs.aloadN X13.here hx (hb hby d32_67) rfl rfl ?_
  refine gs.iloadN X13.here hx (hb hby d32_68) rfl ?_
  refine gs.iconst 2 X13.here hx (hb hby d32_69) rfl ?_
  refine gs.iload X13.here hx (hb hby d32_70) rfl ?_
  have f14 := (p9_0.wr W13)
  have f15 := (p9_6.other W13 (Or.inl ne_ad1_ad6))
  have f16 := (p9_2.other W13 (Or.inl ne_ad1_ad6))
  have f17 := (p9_3.other W13 (Or.inl ne_ad1_ad6))
  have f18 := (p9_8.other W13 (Or.inl ne_ad1_ad6))
  have f19 := (p9_1.other W13 (Or.inl ne_ad1_ad6))
  have f20 := (p9_5.other W13 (Or.inl ne_ad1_ad6))
  have f21 := (p9_9.other W13 (Or.inl ne_ad1_ad6))
  have f22 := (p9_7.other W13 (Or.inl ne_ad1_ad6))
  have f23 := (p9_4.other W13 (Or.inl ne_ad1_ad6))
  have f24 := ((HE_ad3.keep K9).wr W13)
  have f25 := ((HG_ad3.keep K9 (ninS (Ne.symm ne_ad1_ad3) (ninS ne_ad3_ad8 nin0))).other W13 ne_ad3_ad6)
  refine gs.priv 0 X13 hx hZ hown (am25_2 l Z a0 hw [] u_1 aw0 u_0 kaw0 HW (ad1) (iv1) (iv13) (ad3) (ad4) (ad5) (ad6) (ad7) (ad8) (ex9_0) (iv6) (kc6) (fv12) h13 n0 old13 f14 f15 f16 f17 f18 f19 f20 f21 f22 f23 f24 f25 nn_ad1 nn_ad3 ne_ad1_ad3 as1 as3) (wd hw 193 rfl) (wd hw 104 rfl) (wd hw 190 rfl) (wd hw 191 rfl) (sel_priv hZ (wd hw 103 rfl) (wd hw 192 rfl) (wd hw 191 rfl) (by decide)) (wd hw 192 rfl) (by decide) f14 (by decide) (by decide) (by rw [hml]; rfl) [(.int iv1), (.int (2 : Int32)), (.int iv13)] (lenOf pd_16 rfl) rfl (Nat.le_of_eq rfl) (hb hby d32_72) rfl e13 (by decide) (by decide) fun T26 Lc26 v26 X26 hQ26 => ?_
  obtain ⟨rfl, Nq26, K26, p26_0, p26_1, p26_2, p26_3, p26_4, p26_5, p26_6, p26_7, p26_8, p26_9, p26_10, p26_11⟩ := hQ26
  have old26 := old13.keep K26 (allS nn_ad1 (allS nn_ad3 all0))
  have kp26 := kp13.trans K26 (allS (Or.inl (List.mem_of_getElem? (i := 0) rfl)) (allS (Or.inl (List.mem_of_getElem? (i := 1) rfl)) all0))
  have N26 := Fr.app N13 Nq26
  show Go p e below _ (T26.setTop (mkF m 75 _ []))
  have f27 := (V13.keep K26 (ninS (Ne.symm ne_ad1_ad6) (ninS (Ne.symm ne_ad3_ad6) nin0)))
  have f28 := ((p9_10.other W13 (Ne.symm ne_ad6_ad8)).keep K26 (ninS (Ne.symm ne_ad1_ad8) (ninS (Ne.symm ne_ad3_ad8) nin0)))
  refine Go.retV X26 hx Bd.returns Bd.notSynchronized (hb hby d32_75) (by exact ⟨(ex9_0), rfl, N26, kp26, p26_0, p26_1, p26_2, p26_3, p26_4, p26_5, p26_6, p26_7, p26_8, p26_9, p26_10, p26_11, f27, f28⟩) (by decide) (by decide)
theorem d22_39 : decode c_22 39 = .ok (.goto 88, 3) := by decide +kernel
def Q_am22_3 (Z : State) (u_1 : Addr) (aw0 : Addr) (u_0 : ClassId) (kaw0 : ClassId) (ad1 : Addr) (iv1 : Int32) (iv2 : Int32) (ad3 : Addr) (ad4 : Addr) (ad5 : Addr) (ad6 : Addr) (ad7 : Addr) (ad8 : Addr) (iv5 : Int32) (iv6 : Int32) (kc1 : ClassId) (fv7 : Nat → Int32) (kc2 : ClassId) (fv8 : Nat → Int32) (kc3 : ClassId) (fv9 : Nat → Int32) (kc4 : ClassId) (fv10 : Nat → Value) (kc6 : ClassId) (fv12 : Nat → Int64) (iv13 : Int32) (h0 : Heap) (n0 : Nat) (v : Option Value) (h : Heap) (L : List Loc) : Prop := ∃ ex1 : Int32, v = none ∧ Fr n0 L ∧ Keep h0 h [ad1, ad3, ad6, ad8] ∧ (Exa Z h ad1 "com/example/monarc/monarc/Domains") ∧ (Fld Z h ad1 "com/example/monarc/monarc/Domains" "holes" "[[J" (.ref ad7)) ∧ (Fld Z h ad1 "com/example/monarc/monarc/Domains" "initial" "[Lcom/example/monarc/monarc/InitialDomain;" (.ref ad4)) ∧ (Fld Z h ad1 "com/example/monarc/monarc/Domains" "lower" "[I" (.ref ad5)) ∧ (Fld Z h ad1 "com/example/monarc/monarc/Domains" "resized" "Ljava/util/function/IntConsumer;" .null) ∧ (Fld Z h ad1 "com/example/monarc/monarc/Domains" "sizes" "[I" (.ref ad8)) ∧ (Fld Z h ad1 "com/example/monarc/monarc/Domains" "trail" "[J" (.ref ad3)) ∧ (Fld Z h ad1 "com/example/monarc/monarc/Domains" "trailSize" "I" (.int (iv6 + (1 : Int32)))) ∧ (Fld Z h ad1 "com/example/monarc/monarc/Domains" "upper" "[I" (.ref ad6)) ∧ (Fld Z h ad1 "com/example/monarc/monarc/Domains" "withOneValue" "I" (.int ex1)) ∧ (Exa Z h ad3 "[J") ∧ (Arf Z h ad3 kc6 (1024 : Int32) (fun i => if i = (iv6).toNatClampNeg then ((((iv1.toInt64) <<< ((32 : Int32) &&& 0x3f).toInt64) ||| ((2 : Int64) <<< ((30 : Int32) &&& 0x3f).toInt64)) ||| (iv13.toInt64)) else fv12 i)) ∧ (Ari Z h ad6 kc2 (2 : Int32) (fun i => if i = (iv1).toNatClampNeg then (iv2 - (1 : Int32)) else fv8 i)) ∧ (Ari Z h ad8 kc1 (2 : Int32) (fun i => if i = (iv1).toNatClampNeg then ((fv7 (iv1).toNatClampNeg) - (mxI (0 : Int32) ((iv13 + (1 : Int32)) - ((iv2 - (1 : Int32)) + (1 : Int32))))) else fv7 i))
set_option maxRecDepth 65536 in
set_option maxHeartbeats 40000000 in
theorem am22_3 (l : Launch) (Z : State) (a0 : Array Value) (hw : ∀ d ∈ tables_1, d.before a0 Z = true) (ws : List Jvm.Cond) (u_1 : Addr) (aw0 : Addr) (u_0 : ClassId) (kaw0 : ClassId) (HW : Wd Z u_1 aw0 u_0 kaw0) (ad1 : Addr) (iv1 : Int32) (iv2 : Int32) (ad3 : Addr) (ad4 : Addr) (ad5 : Addr) (ad6 : Addr) (ad7 : Addr) (ad8 : Addr) (iv5 : Int32) (iv6 : Int32) (kc1 : ClassId) (fv7 : Nat → Int32) (kc2 : ClassId) (fv8 : Nat → Int32) (kc3 : ClassId) (fv9 : Nat → Int32) (kc4 : ClassId) (fv10 : Nat → Value) (kc6 : ClassId) (fv12 : Nat → Int64) (iv13 : Int32) (h0 : Heap) (n0 : Nat) (Ol : Old Z n0 h0) (HE_ad1 : Exa Z h0 ad1 "com/example/monarc/monarc/Domains") (HF_ad1_Domains_trail : Fld Z h0 ad1 "com/example/monarc/monarc/Domains" "trail" "[J" (.ref ad3)) (HF_ad1_Domains_initial : Fld Z h0 ad1 "com/example/monarc/monarc/Domains" "initial" "[Lcom/example/monarc/monarc/InitialDomain;" (.ref ad4)) (HF_ad1_Domains_lower : Fld Z h0 ad1 "com/example/monarc/monarc/Domains" "lower" "[I" (.ref ad5)) (HF_ad1_Domains_upper : Fld Z h0 ad1 "com/example/monarc/monarc/Domains" "upper" "[I" (.ref ad6)) (HF_ad1_Domains_holes : Fld Z h0 ad1 "com/example/monarc/monarc/Domains" "holes" "[[J" (.ref ad7)) (HF_ad1_Domains_sizes : Fld Z h0 ad1 "com/example/monarc/monarc/Domains" "sizes" "[I" (.ref ad8)) (HF_ad1_Domains_withOneValue : Fld Z h0 ad1 "com/example/monarc/monarc/Domains" "withOneValue" "I" (.int iv5)) (HF_ad1_Domains_trailSize : Fld Z h0 ad1 "com/example/monarc/monarc/Domains" "trailSize" "I" (.int iv6)) (HF_ad1_Domains_resized : Fld Z h0 ad1 "com/example/monarc/monarc/Domains" "resized" "Ljava/util/function/IntConsumer;" .null) (HE_ad3 : Exa Z h0 ad3 "[J") (HG_ad8 : Ari Z h0 ad8 kc1 (2 : Int32) fv7) (HG_ad6 : Ari Z h0 ad6 kc2 (2 : Int32) fv8) (HG_ad5 : Ari Z h0 ad5 kc3 (2 : Int32) fv9) (HG_ad7 : Arw Z h0 ad7 kc4 (.array .long) (2 : Int32) fv10) (HG_ad3 : Arf Z h0 ad3 kc6 (1024 : Int32) fv12) (nn_ad1 : n0 ≤ ad1) (nn_ad3 : n0 ≤ ad3) (nn_ad6 : n0 ≤ ad6) (nn_ad8 : n0 ≤ ad8) (ne_ad1_ad3 : ad1 ≠ ad3) (ne_ad1_ad6 : ad1 ≠ ad6) (ne_ad1_ad8 : ad1 ≠ ad8) (ne_ad3_ad6 : ad3 ≠ ad6) (ne_ad3_ad8 : ad3 ≠ ad8) (ne_ad6_ad8 : ad6 ≠ ad8) (as0 : ¬ ((iv2 - (1 : Int32)) < (0 : Int32))) (as1 : 0 ≤ (iv1).toInt ∧ (iv1).toInt < ((2 : Int32)).toInt) (as2 : 0 ≤ (iv6).toInt ∧ (iv6).toInt < ((1024 : Int32)).toInt) (as3 : ¬ (iv2 = (0 : Int32))) (as4 : iv2 = iv13) (as5 : ¬ (iv6 = (1024 : Int32))) (eq0 : (fv8 (iv1).toNatClampNeg) = iv13) (eq1 : (fv9 (iv1).toNatClampNeg) = (0 : Int32)) (rq0 : (fv10 (iv1).toNatClampNeg) = .null) (hO_ad7 : OvrA Z kc4 .long "[J") :
    MetFree l y_22 (head1 (Jvm.Cond.code y_22 prog_11_method_19_code 3 none :: ws) (rm 3 0 0 56)) (fun a_ U_ => a_ = #[(.ref ad1), (.int iv1), (.int iv2)] ∧ Z.Warmed39 U_.vm ∧ U_.heap = h0) (fun _ _ _ _ _ => True) (fun _ U_ o_ V_ => ∃ v_ L_, o_ = .returned v_ ∧ Q_am22_3 Z u_1 aw0 u_0 kaw0 ad1 iv1 iv2 ad3 ad4 ad5 ad6 ad7 ad8 iv5 iv6 kc1 fv7 kc2 fv8 kc3 fv9 kc4 fv10 kc6 fv12 iv13 h0 n0 v_ V_.heap L_ ∧ FrameEnd U_ o_ V_ L_ (rm 3 0 0 56).cells (rm 3 0 0 56).slots) := by
  refine MetFree.of_bodySF (plainFor_of_name pn_10) hisR ?_
  intro p e s m args below meth c s₁ Bd hml0 hP hK
  obtain ⟨rfl, hZ, hh⟩ := hP
  have hx := Bd.exec
  have hby := Bd.bytes
  have hml : c.maxLocals = 3 := hml0
  have hown : s.vm.findClass "com/example/monarc/monarc/Domains" = some m.cls := findClass_of_methodNamed Bd.named
  have hnm := (name_of_methodNamed Bd.named Bd.method).1
  have X0 : Stand p l e (rm 3 0 0 56) s m #[(.ref ad1), (.int iv1), (.int iv2)] below meth c s₁ [] 0 0 := Stand.of_body Bd
  have e0 : s₁.heap = h0 := by rw [← hh, Bd.state]; rfl
  have N0 := Fr.nil n0
  have kp0 := Keep.refl h0 [ad1, ad3, ad6, ad8]
  show Go p e below (Fin1 s below (Q_am22_3 Z u_1 aw0 u_0 kaw0 ad1 iv1 iv2 ad3 ad4 ad5 ad6 ad7 ad8 iv5 iv6 kc1 fv7 kc2 fv8 kc3 fv9 kc4 fv10 kc6 fv12 iv13 h0 n0) (rm 3 0 0 56).cells (rm 3 0 0 56).slots) _
  refine Go.step (fun t_ k_ => castTop (ef_am22_1 m ad1 iv1 iv2) k_) ?_
  obtain ⟨Eu_1, Su_1, Eaw0, Saw0, Au_1, Aaw0⟩ := id HW
  show Go p e below _ (s₁.setTop (mkF m 0 #[.val (.ref ad1), .val (.int iv1), .val (.int iv2)] []))
  refine gs.iloadN X0.here hx (hb hby d22_0) rfl ?_
  refine gs.aloadN X0.here hx (hb hby d22_1) rfl rfl ?_
  refine gs.getF X0 hx hZ hown (wd hw 128 rfl) Via.refl e0 HF_ad1_Domains_lower (hb hby d22_2) fun T1 X1 e1 => ?_
  refine gs.iloadN X1.here hx (hb hby d22_5) rfl ?_
  obtain ⟨cl2, Ar2, q2, Sz2, Ng2, Hs2⟩ := id HG_ad5
  have hin2 : ¬ (iv1 < 0 ∨ cl2.slots.size ≤ (iv1).toNatClampNeg) := inb_of Sz2 (inb_int as1)
  have hat2 : cl2.slots[(iv1).toNatClampNeg]? = some (.int (fv9 (iv1).toNatClampNeg)) := Hs2 _ (lt_of_in hin2)
  refine Go.fin (fun t_ k_ => X1.iaload hx (j := iv1) (v := (.int (fv9 (iv1).toNatClampNeg))) (by rw [e1]; exact Ar2.1) (State.isArrayOf_alike hZ.alike Ar2.2.1) Ar2.2.2 hin2 hat2 (g := mkF m 6 _ _) rfl rfl (hb hby d22_6) _ k_) ?_
  show Go p e below _ (T1.setTop (mkF m 7 _ [(.int (fv9 (iv1).toNatClampNeg)), (.int iv2)]))
  rw [show (fv9 (iv1).toNatClampNeg) = (0 : Int32) from eq1]
  have hc7 : ¬ (iv2 = (0 : Int32)) := as3
  refine gs.icmpYes 21 X1.here hx (hb hby d22_7) (feq hc7).2 rfl ?_
  refine gs.iloadN X1.here hx (hb hby d22_21) rfl ?_
  refine gs.aloadN X1.here hx (hb hby d22_22) rfl rfl ?_
  refine gs.getF X1 hx hZ hown (wd hw 130 rfl) Via.refl e1 HF_ad1_Domains_upper (hb hby d22_23) fun T3 X3 e3 => ?_
  refine gs.iloadN X3.here hx (hb hby d22_26) rfl ?_
  obtain ⟨cl4, Ar4, q4, Sz4, Ng4, Hs4⟩ := id HG_ad6
  have hin4 : ¬ (iv1 < 0 ∨ cl4.slots.size ≤ (iv1).toNatClampNeg) := inb_of Sz4 (inb_int as1)
  have hat4 : cl4.slots[(iv1).toNatClampNeg]? = some (.int (fv8 (iv1).toNatClampNeg)) := Hs4 _ (lt_of_in hin4)
  refine Go.fin (fun t_ k_ => X3.iaload hx (j := iv1) (v := (.int (fv8 (iv1).toNatClampNeg))) (by rw [e3]; exact Ar4.1) (State.isArrayOf_alike hZ.alike Ar4.2.1) Ar4.2.2 hin4 hat4 (g := mkF m 27 _ _) rfl rfl (hb hby d22_27) _ k_) ?_
  show Go p e below _ (T3.setTop (mkF m 28 _ [(.int (fv8 (iv1).toNatClampNeg)), (.int iv2)]))
  rw [show (fv8 (iv1).toNatClampNeg) = iv13 from eq0]
  have hc28 : iv2 = iv13 := as4
  refine gs.icmpNo X3.here hx (hb hby d22_28) (teq hc28).2 ?_
  refine gs.aloadN X3.here hx (hb hby d22_31) rfl rfl ?_
  refine gs.iloadN X3.here hx (hb hby d22_32) rfl ?_
  refine gs.iloadN X3.here hx (hb hby d22_33) rfl ?_
  refine gs.iconst 1 X3.here hx (hb hby d22_34) rfl ?_
  refine gs.isub X3.here hx (hb hby d22_35) ?_
  refine gs.priv 0 X3 hx hZ hown (am32_1 l Z a0 hw [] u_1 aw0 u_0 kaw0 HW (ad1) (iv1) ((iv2 - (1 : Int32))) (ad3) (ad4) (ad5) (ad6) (ad7) (ad8) (iv5) (iv6) (kc1) (fv7) (kc2) (fv8) (kc3) (fv9) (kc4) (fv10) (kc6) (fv12) (iv13) h0 n0 Ol HE_ad1 HF_ad1_Domains_trail HF_ad1_Domains_initial HF_ad1_Domains_lower HF_ad1_Domains_upper HF_ad1_Domains_holes HF_ad1_Domains_sizes HF_ad1_Domains_withOneValue HF_ad1_Domains_trailSize HF_ad1_Domains_resized HE_ad3 HG_ad8 HG_ad6 HG_ad5 HG_ad7 HG_ad3 nn_ad1 nn_ad3 nn_ad6 nn_ad8 ne_ad1_ad3 ne_ad1_ad6 ne_ad1_ad8 ne_ad3_ad6 ne_ad3_ad8 ne_ad6_ad8 as1 as2 as0 as5 eq0 eq1 rq0 hO_ad7) (wd hw 229 rfl) (wd hw 104 rfl) (wd hw 226 rfl) (wd hw 227 rfl) (sel_priv hZ (wd hw 103 rfl) (wd hw 228 rfl) (wd hw 227 rfl) (by decide)) (wd hw 228 rfl) (by decide) HE_ad1 (by decide) (by decide) (by rw [hml]; rfl) [(.int iv1), (.int (iv2 - (1 : Int32)))] (lenOf pd_15 rfl) rfl (Nat.le_of_eq rfl) (hb hby d22_36) rfl e3 (by decide) (by decide) fun T5 Lc5 v5 X5 hQ5 => ?_
  obtain ⟨ex5_0, rfl, Nq5, K5, p5_0, p5_1, p5_2, p5_3, p5_4, p5_5, p5_6, p5_7, p5_8, p5_9, p5_10, p5_11, p5_12, p5_13⟩ := hQ5
  have old5 := Ol.keep K5 (allS nn_ad1 (allS nn_ad3 (allS nn_ad6 (allS nn_ad8 all0))))
  have kp5 := kp0.trans K5 (allS (Or.inl (List.mem_of_getElem? (i := 0) rfl)) (allS (Or.inl (List.mem_of_getElem? (i := 1) rfl)) (allS (Or.inl (List.mem_of_getElem? (i := 2) rfl)) (allS (Or.inl (List.mem_of_getElem? (i := 3) rfl)) all0))))
  have N5 := Fr.app N0 Nq5
  show Go p e below _ (T5.setTop (mkF m 39 _ []))
  refine gs.goto 127 X5.here hx (hb hby d22_39) rfl ?_
  refine Go.retV X5 hx Bd.returns Bd.notSynchronized (hb hby d22_127) (by exact ⟨(ex5_0), rfl, N5, kp5, p5_0, p5_1, p5_2, p5_3, p5_4, p5_5, p5_6, p5_7, p5_8, p5_9, p5_10, p5_11, p5_12, p5_13⟩) (by decide) (by decide)
theorem d22_42 : decode c_22 42 = .ok (.aload_n 0, 1) := by decide +kernel
theorem d22_43 : decode c_22 43 = .ok (.getfield 36, 3) := by decide +kernel
theorem d22_46 : decode c_22 46 = .ok (.iload_n 1, 1) := by decide +kernel
theorem d22_47 : decode c_22 47 = .ok (.aaload, 1) := by decide +kernel
theorem d22_48 : decode c_22 48 = .ok (.ifnonnull 38, 3) := by decide +kernel
theorem d22_51 : decode c_22 51 = .ok (.aload_n 0, 1) := by decide +kernel
theorem d22_52 : decode c_22 52 = .ok (.getfield 36, 3) := by decide +kernel
theorem d22_55 : decode c_22 55 = .ok (.iload_n 1, 1) := by decide +kernel
theorem d22_56 : decode c_22 56 = .ok (.aload_n 0, 1) := by decide +kernel
theorem d22_57 : decode c_22 57 = .ok (.getfield 25, 3) := by decide +kernel
theorem d22_60 : decode c_22 60 = .ok (.iload_n 1, 1) := by decide +kernel
theorem d22_61 : decode c_22 61 = .ok (.aaload, 1) := by decide +kernel
theorem d22_62 : decode c_22 62 = .ok (.invokevirtual 53, 3) := by decide +kernel
theorem d22_65 : decode c_22 65 = .ok (.bipush 63, 2) := by decide +kernel
theorem d22_67 : decode c_22 67 = .ok (.iadd, 1) := by decide +kernel
theorem d22_68 : decode c_22 68 = .ok (.bipush 6, 2) := by decide +kernel
theorem d22_70 : decode c_22 70 = .ok (.iushr, 1) := by decide +kernel
theorem d22_71 : decode c_22 71 = .ok (.newarray .long, 2) := by decide +kernel
theorem d22_73 : decode c_22 73 = .ok (.aastore, 1) := by decide +kernel
theorem d22_74 : decode c_22 74 = .ok (.aload_n 0, 1) := by decide +kernel
theorem d22_75 : decode c_22 75 = .ok (.getfield 36, 3) := by decide +kernel
theorem d22_78 : decode c_22 78 = .ok (.iload_n 1, 1) := by decide +kernel
theorem d22_79 : decode c_22 79 = .ok (.aaload, 1) := by decide +kernel
theorem d22_80 : decode c_22 80 = .ok (.ldc2_w 82, 3) := by decide +kernel
theorem d22_83 : decode c_22 83 = .ok (.invokestatic 124, 3) := by decide +kernel
theorem pd_18 : parseMethodDescriptor "([JJ)V" = some ⟨[(.array .long), .long], none⟩ := by decide +kernel
theorem d22_86 : decode c_22 86 = .ok (.aload_n 0, 1) := by decide +kernel
theorem d22_87 : decode c_22 87 = .ok (.getfield 36, 3) := by decide +kernel
theorem d22_90 : decode c_22 90 = .ok (.iload_n 1, 1) := by decide +kernel
theorem d22_91 : decode c_22 91 = .ok (.aaload, 1) := by decide +kernel
theorem d22_92 : decode c_22 92 = .ok (.iload_n 2, 1) := by decide +kernel
theorem d22_93 : decode c_22 93 = .ok (.bipush 6, 2) := by decide +kernel
theorem d22_95 : decode c_22 95 = .ok (.iushr, 1) := by decide +kernel
theorem d22_96 : decode c_22 96 = .ok (.dup2, 1) := by decide +kernel
theorem d22_97 : decode c_22 97 = .ok (.laload, 1) := by decide +kernel
theorem d22_98 : decode c_22 98 = .ok (.lconst 1, 1) := by decide +kernel
theorem d22_99 : decode c_22 99 = .ok (.iload_n 2, 1) := by decide +kernel
theorem d22_100 : decode c_22 100 = .ok (.lshl, 1) := by decide +kernel
theorem d22_101 : decode c_22 101 = .ok (.ldc2_w 82, 3) := by decide +kernel
theorem d22_104 : decode c_22 104 = .ok (.lxor, 1) := by decide +kernel
theorem d22_105 : decode c_22 105 = .ok (.land, 1) := by decide +kernel
theorem d22_106 : decode c_22 106 = .ok (.lastore, 1) := by decide +kernel
theorem d22_107 : decode c_22 107 = .ok (.aload_n 0, 1) := by decide +kernel
theorem d22_108 : decode c_22 108 = .ok (.iload_n 1, 1) := by decide +kernel
theorem d22_109 : decode c_22 109 = .ok (.aload_n 0, 1) := by decide +kernel
theorem d22_110 : decode c_22 110 = .ok (.getfield 40, 3) := by decide +kernel
theorem d22_113 : decode c_22 113 = .ok (.iload_n 1, 1) := by decide +kernel
theorem d22_114 : decode c_22 114 = .ok (.iaload, 1) := by decide +kernel
theorem d22_115 : decode c_22 115 = .ok (.iconst 1, 1) := by decide +kernel
theorem d22_116 : decode c_22 116 = .ok (.isub, 1) := by decide +kernel
theorem d22_117 : decode c_22 117 = .ok (.invokevirtual 130, 3) := by decide +kernel
theorem d22_120 : decode c_22 120 = .ok (.aload_n 0, 1) := by decide +kernel
theorem d22_121 : decode c_22 121 = .ok (.iload_n 1, 1) := by decide +kernel
theorem d22_122 : decode c_22 122 = .ok (.iconst 0, 1) := by decide +kernel
theorem d22_123 : decode c_22 123 = .ok (.iload_n 2, 1) := by decide +kernel
theorem d22_124 : decode c_22 124 = .ok (.invokevirtual 133, 3) := by decide +kernel
def Q_am25_3 (Z : State) (u_1 : Addr) (aw0 : Addr) (u_0 : ClassId) (kaw0 : ClassId) (ad1 : Addr) (iv1 : Int32) (iv2 : Int32) (ad3 : Addr) (ad4 : Addr) (ad5 : Addr) (ad6 : Addr) (ad7 : Addr) (ad8 : Addr) (iv5 : Int32) (iv6 : Int32) (kc6 : ClassId) (fv12 : Nat → Int64) (h0 : Heap) (n0 : Nat) (v : Option Value) (h : Heap) (L : List Loc) : Prop := v = none ∧ Fr n0 L ∧ Keep h0 h [ad1, ad3] ∧ (Exa Z h ad1 "com/example/monarc/monarc/Domains") ∧ (Fld Z h ad1 "com/example/monarc/monarc/Domains" "holes" "[[J" (.ref ad7)) ∧ (Fld Z h ad1 "com/example/monarc/monarc/Domains" "initial" "[Lcom/example/monarc/monarc/InitialDomain;" (.ref ad4)) ∧ (Fld Z h ad1 "com/example/monarc/monarc/Domains" "lower" "[I" (.ref ad5)) ∧ (Fld Z h ad1 "com/example/monarc/monarc/Domains" "resized" "Ljava/util/function/IntConsumer;" .null) ∧ (Fld Z h ad1 "com/example/monarc/monarc/Domains" "sizes" "[I" (.ref ad8)) ∧ (Fld Z h ad1 "com/example/monarc/monarc/Domains" "trail" "[J" (.ref ad3)) ∧ (Fld Z h ad1 "com/example/monarc/monarc/Domains" "trailSize" "I" (.int (iv6 + (1 : Int32)))) ∧ (Fld Z h ad1 "com/example/monarc/monarc/Domains" "upper" "[I" (.ref ad6)) ∧ (Fld Z h ad1 "com/example/monarc/monarc/Domains" "withOneValue" "I" (.int iv5)) ∧ (Exa Z h ad3 "[J") ∧ (Arf Z h ad3 kc6 (1024 : Int32) (fun i => if i = (iv6).toNatClampNeg then ((((iv1.toInt64) <<< ((32 : Int32) &&& 0x3f).toInt64) ||| ((0 : Int64) <<< ((30 : Int32) &&& 0x3f).toInt64)) ||| (iv2.toInt64)) else fv12 i))
set_option maxRecDepth 65536 in
set_option maxHeartbeats 40000000 in
theorem am25_3 (l : Launch) (Z : State) (a0 : Array Value) (hw : ∀ d ∈ tables_1, d.before a0 Z = true) (ws : List Jvm.Cond) (u_1 : Addr) (aw0 : Addr) (u_0 : ClassId) (kaw0 : ClassId) (HW : Wd Z u_1 aw0 u_0 kaw0) (ad1 : Addr) (iv1 : Int32) (iv2 : Int32) (ad3 : Addr) (ad4 : Addr) (ad5 : Addr) (ad6 : Addr) (ad7 : Addr) (ad8 : Addr) (iv5 : Int32) (iv6 : Int32) (kc6 : ClassId) (fv12 : Nat → Int64) (h0 : Heap) (n0 : Nat) (Ol : Old Z n0 h0) (HE_ad1 : Exa Z h0 ad1 "com/example/monarc/monarc/Domains") (HF_ad1_Domains_trail : Fld Z h0 ad1 "com/example/monarc/monarc/Domains" "trail" "[J" (.ref ad3)) (HF_ad1_Domains_initial : Fld Z h0 ad1 "com/example/monarc/monarc/Domains" "initial" "[Lcom/example/monarc/monarc/InitialDomain;" (.ref ad4)) (HF_ad1_Domains_lower : Fld Z h0 ad1 "com/example/monarc/monarc/Domains" "lower" "[I" (.ref ad5)) (HF_ad1_Domains_upper : Fld Z h0 ad1 "com/example/monarc/monarc/Domains" "upper" "[I" (.ref ad6)) (HF_ad1_Domains_holes : Fld Z h0 ad1 "com/example/monarc/monarc/Domains" "holes" "[[J" (.ref ad7)) (HF_ad1_Domains_sizes : Fld Z h0 ad1 "com/example/monarc/monarc/Domains" "sizes" "[I" (.ref ad8)) (HF_ad1_Domains_withOneValue : Fld Z h0 ad1 "com/example/monarc/monarc/Domains" "withOneValue" "I" (.int iv5)) (HF_ad1_Domains_trailSize : Fld Z h0 ad1 "com/example/monarc/monarc/Domains" "trailSize" "I" (.int iv6)) (HF_ad1_Domains_resized : Fld Z h0 ad1 "com/example/monarc/monarc/Domains" "resized" "Ljava/util/function/IntConsumer;" .null) (HE_ad3 : Exa Z h0 ad3 "[J") (HG_ad3 : Arf Z h0 ad3 kc6 (1024 : Int32) fv12) (nn_ad1 : n0 ≤ ad1) (nn_ad3 : n0 ≤ ad3) (ne_ad1_ad3 : ad1 ≠ ad3) (as0 : 0 ≤ (iv6).toInt ∧ (iv6).toInt < ((1024 : Int32)).toInt) (as1 : ¬ (iv6 = (1024 : Int32))) :
    MetFree l y_25 (head1 (Jvm.Cond.code y_25 prog_11_method_26_code 4 none :: ws) (rm 0 0 0 0)) (fun a_ U_ => a_ = #[(.ref ad1), (.int iv1), (.int (0 : Int32)), (.int iv2)] ∧ Z.Warmed39 U_.vm ∧ U_.heap = h0) (fun _ _ _ _ _ => True) (fun _ U_ o_ V_ => ∃ v_ L_, o_ = .returned v_ ∧ Q_am25_3 Z u_1 aw0 u_0 kaw0 ad1 iv1 iv2 ad3 ad4 ad5 ad6 ad7 ad8 iv5 iv6 kc6 fv12 h0 n0 v_ V_.heap L_ ∧ FrameEnd U_ o_ V_ L_ (rm 0 0 0 0).cells (rm 0 0 0 0).slots) := by
  refine MetFree.of_bodySF (plainFor_of_name pn_10) hisR ?_
  intro p e s m args below meth c s₁ Bd hml0 hP hK
  obtain ⟨rfl, hZ, hh⟩ := hP
  have hx := Bd.exec
  have hby := Bd.bytes
  have hml : c.maxLocals = 4 := hml0
  have hown : s.vm.findClass "com/example/monarc/monarc/Domains" = some m.cls := findClass_of_methodNamed Bd.named
  have hnm := (name_of_methodNamed Bd.named Bd.method).1
  have X0 : Stand p l e (rm 0 0 0 0) s m #[(.ref ad1), (.int iv1), (.int (0 : Int32)), (.int iv2)] below meth c s₁ [] 0 0 := Stand.of_body Bd
  have e0 : s₁.heap = h0 := by rw [← hh, Bd.state]; rfl
  have N0 := Fr.nil n0
  have kp0 := Keep.refl h0 [ad1, ad3]
  show Go p e below (Fin1 s below (Q_am25_3 Z u_1 aw0 u_0 kaw0 ad1 iv1 iv2 ad3 ad4 ad5 ad6 ad7 ad8 iv5 iv6 kc6 fv12 h0 n0) (rm 0 0 0 0).cells (rm 0 0 0 0).slots) _
  refine Go.step (fun t_ k_ => castTop (ef_am25_1 m ad1 iv1 (0 : Int32) iv2) k_) ?_
  obtain ⟨Eu_1, Su_1, Eaw0, Saw0, Au_1, Aaw0⟩ := id HW
  show Go p e below _ (s₁.setTop (mkF m 0 #[.val (.ref ad1), .val (.int iv1), .val (.int (0 : Int32)), .val (.int iv2)] []))
  refine gs.aloadN X0.here hx (hb hby d25_0) rfl rfl ?_
  refine gs.getF X0 hx hZ hown (wd hw 194 rfl) Via.refl e0 HF_ad1_Domains_trailSize (hb hby d25_1) fun T1 X1 e1 => ?_
  refine gs.aloadN X1.here hx (hb hby d25_4) rfl rfl ?_
  refine gs.getF X1 hx hZ hown (wd hw 110 rfl) Via.refl e1 HF_ad1_Domains_trail (hb hby d25_5) fun T2 X2 e2 => ?_
  obtain ⟨cl3, Ar3, -, Sz3, Ng3, -⟩ := id HG_ad3
  refine Go.fin (fun t_ k_ => X2.arraylength hx (by rw [e2]; exact Ar3.1) (State.isArrayOf_alike hZ.alike Ar3.2.1) (g := mkF m 8 _ _) rfl rfl (hb hby d25_8) _ k_) ?_
  rw [len_of Sz3 Ng3]
  show Go p e below _ (T2.setTop (mkF m 9 _ [(.int (1024 : Int32)), (.int iv6)]))
  have hc9 : ¬ (iv6 = (1024 : Int32)) := as1
  refine gs.icmpYes 29 X2.here hx (hb hby d25_9) (feq hc9).2 rfl ?_
  refine gs.aloadN X2.here hx (hb hby d25_29) rfl rfl ?_
  refine gs.getF X2 hx hZ hown (wd hw 110 rfl) Via.refl e2 HF_ad1_Domains_trail (hb hby d25_30) fun T4 X4 e4 => ?_
  refine gs.aloadN X4.here hx (hb hby d25_33) rfl rfl ?_
  refine gs.dup X4.here hx (hb hby d25_34) rfl ?_
  refine gs.getF X4 hx hZ hown (wd hw 194 rfl) Via.refl e4 HF_ad1_Domains_trailSize (hb hby d25_35) fun T5 X5 e5 => ?_
  refine Go.fin (fun t_ k_ => XS.dupX1 X5.here hx rfl (hb hby d25_38) rfl rfl rfl k_) ?_
  show Go p e below _ (T5.setTop (mkF m 39 _ [(.int iv6), (.ref ad1), (.int iv6), (.ref ad3)]))
  refine gs.iconst 1 X5.here hx (hb hby d25_39) rfl ?_
  refine gs.iadd X5.here hx (hb hby d25_40) ?_
  obtain ⟨T6, h6, X6, e6, W6, st6⟩ := putF X5 hx hZ hown (host := "") (Or.inl (wd hw 194 rfl)) Via.refl e5 HF_ad1_Domains_trailSize HE_ad1 (Or.inl (wd hw 195 rfl)) (wd hw 103 rfl) (ty := .int) (by decide) rfl rfl (g := (mkF m 41 #[.val (.ref ad1), .val (.int iv1), .val (.int (0 : Int32)), .val (.int iv2)] [(.int (iv6 + (1 : Int32))), (.ref ad1), (.int iv6), (.ref ad3)])) rfl rfl (hb hby d25_41)
  have N6 := Fr.snoc X6 N0 nn_ad1
  have old6 := Ol.wr W6 nn_ad1
  have kp6 := kp0.wr W6 (Or.inl (List.mem_of_getElem? (i := 0) rfl))
  have F6 := HF_ad1_Domains_trailSize.same W6
  refine Go.fin st6 ?_
  show Go p e below _ (T6.setTop (mkF m 44 _ [(.int iv6), (.ref ad3)]))
  refine gs.iloadN X6.here hx (hb hby d25_44) rfl ?_
  refine Go.fin (fun t_ k_ => XS.i2l X6.here hx rfl (hb hby d25_45) rfl k_) ?_
  show Go p e below _ (T6.setTop (mkF m 46 _ [(.long (iv1.toInt64)), (.int iv6), (.ref ad3)]))
  refine gs.bipush 32 X6.here hx (hb hby d25_46) rfl ?_
  refine Go.fin (fun t_ k_ => XS.lshl X6.here hx rfl (hb hby d25_48) rfl k_) ?_
  show Go p e below _ (T6.setTop (mkF m 49 _ [(.long ((iv1.toInt64) <<< ((32 : Int32) &&& 0x3f).toInt64)), (.int iv6), (.ref ad3)]))
  refine gs.iloadN X6.here hx (hb hby d25_49) rfl ?_
  refine Go.fin (fun t_ k_ => XS.i2l X6.here hx rfl (hb hby d25_50) rfl k_) ?_
  show Go p e below _ (T6.setTop (mkF m 51 _ [(.long ((0 : Int32).toInt64)), (.long ((iv1.toInt64) <<< ((32 : Int32) &&& 0x3f).toInt64)), (.int iv6), (.ref ad3)]))
  rw [show ((0 : Int32).toInt64) = (0 : Int64) from by decide]
  refine gs.bipush 30 X6.here hx (hb hby d25_51) rfl ?_
  refine Go.fin (fun t_ k_ => XS.lshl X6.here hx rfl (hb hby d25_53) rfl k_) ?_
  show Go p e below _ (T6.setTop (mkF m 54 _ [(.long ((0 : Int64) <<< ((30 : Int32) &&& 0x3f).toInt64)), (.long ((iv1.toInt64) <<< ((32 : Int32) &&& 0x3f).toInt64)), (.int iv6), (.ref ad3)]))
  refine gs.lor X6.here hx (hb hby d25_54) ?_
  refine gs.iloadN X6.here hx (hb hby d25_55) rfl ?_
  refine Go.fin (fun t_ k_ => XS.i2l X6.here hx rfl (hb hby d25_56) rfl k_) ?_
  show Go p e below _ (T6.setTop (mkF m 57 _ [(.long (iv2.toInt64)), (.long (((iv1.toInt64) <<< ((32 : Int32) &&& 0x3f).toInt64) ||| ((0 : Int64) <<< ((30 : Int32) &&& 0x3f).toInt64))), (.int iv6), (.ref ad3)]))
  refine gs.lor X6.here hx (hb hby d25_57) ?_
  have f7 := (HG_ad3.other W6 (Ne.symm ne_ad1_ad3))
  obtain ⟨cl8, Ar8, q8, Sz8, Ng8, Hs8⟩ := id f7
  have hin8 : ¬ (iv6 < 0 ∨ cl8.slots.size ≤ (iv6).toNatClampNeg) := inb_of Sz8 (inb_int as0)
  obtain ⟨T9, h9, X9, e9, W9, st9⟩ := stJ X6 hx hZ e6 Ar8 (j := iv6) hin8 (g := (mkF m 58 #[.val (.ref ad1), .val (.int iv1), .val (.int (0 : Int32)), .val (.int iv2)] [(.long ((((iv1.toInt64) <<< ((32 : Int32) &&& 0x3f).toInt64) ||| ((0 : Int64) <<< ((30 : Int32) &&& 0x3f).toInt64)) ||| (iv2.toInt64))), (.int iv6), (.ref ad3)])) rfl rfl (hb hby d25_58)
  have N9 := Fr.snoc X9 N6 nn_ad3
  have old9 := old6.wr W9 nn_ad3
  have kp9 := kp6.wr W9 (Or.inl (List.mem_of_getElem? (i := 1) rfl))
  have V9 : Arf Z h9 ad3 kc6 (1024 : Int32) (fun i => if i = (iv6).toNatClampNeg then ((((iv1.toInt64) <<< ((32 : Int32) &&& 0x3f).toInt64) ||| ((0 : Int64) <<< ((30 : Int32) &&& 0x3f).toInt64)) ||| (iv2.toInt64)) else fv12 i) := Arf.set Ar8 q8 Sz8 Ng8 Hs8 W9
  refine Go.fin st9 ?_
  show Go p e below _ (T9.setTop (mkF m 59 _ []))
  refine gs.aloadN X9.here hx (hb hby d25_59) rfl rfl ?_
  have f10 := ((HF_ad1_Domains_resized.other W6 (Or.inr (sn81 hw))).other W9 (Or.inl ne_ad1_ad3))
  refine gs.getF X9 hx hZ hown (wd hw 196 rfl) Via.refl e9 f10 (hb hby d25_60) fun T11 X11 e11 => ?_
  refine Go.fin (fun t_ k_ => XS.ifnullYes X11.here hx rfl (pc0 := 63) (pc' := 76) rfl (hb hby d25_63) rfl (by decide) (by decide) k_) ?_
  show Go p e below _ (T11.setTop (mkF m 76 _ []))
  have f12 := ((HE_ad1.wr W6).wr W9)
  have f13 := ((HF_ad1_Domains_holes.other W6 (Or.inr (sn82 hw))).other W9 (Or.inl ne_ad1_ad3))
  have f14 := ((HF_ad1_Domains_initial.other W6 (Or.inr (sn83 hw))).other W9 (Or.inl ne_ad1_ad3))
  have f15 := ((HF_ad1_Domains_lower.other W6 (Or.inr (sn84 hw))).other W9 (Or.inl ne_ad1_ad3))
  have f16 := ((HF_ad1_Domains_sizes.other W6 (Or.inr (sn85 hw))).other W9 (Or.inl ne_ad1_ad3))
  have f17 := ((HF_ad1_Domains_trail.other W6 (Or.inr (sn86 hw))).other W9 (Or.inl ne_ad1_ad3))
  have f18 := (F6.other W9 (Or.inl ne_ad1_ad3))
  have f19 := ((HF_ad1_Domains_upper.other W6 (Or.inr (sn87 hw))).other W9 (Or.inl ne_ad1_ad3))
  have f20 := ((HF_ad1_Domains_withOneValue.other W6 (Or.inr (sn88 hw))).other W9 (Or.inl ne_ad1_ad3))
  have f21 := ((HE_ad3.wr W6).wr W9)
  refine Go.retV X11 hx Bd.returns Bd.notSynchronized (hb hby d25_76) (by rw [e11]; exact ⟨rfl, N9, kp9, f12, f13, f14, f15, f10, f16, f17, f18, f19, f20, f21, V9⟩) (by decide) (by decide)
def Q_am22_4 (Z : State) (u_1 : Addr) (aw0 : Addr) (u_0 : ClassId) (kaw0 : ClassId) (ad1 : Addr) (iv1 : Int32) (iv2 : Int32) (ad2 : Addr) (iv4 : Int32) (ad3 : Addr) (ad4 : Addr) (ad5 : Addr) (ad6 : Addr) (ad7 : Addr) (ad8 : Addr) (iv5 : Int32) (iv6 : Int32) (kc1 : ClassId) (fv7 : Nat → Int32) (kc2 : ClassId) (fv8 : Nat → Int32) (kc3 : ClassId) (fv9 : Nat → Int32) (kc4 : ClassId) (fv10 : Nat → Value) (kc5 : ClassId) (fv11 : Nat → Addr) (kc6 : ClassId) (fv12 : Nat → Int64) (iv13 : Int32) (iv14 : Int32) (h0 : Heap) (n0 : Nat) (v : Option Value) (h : Heap) (L : List Loc) : Prop := ∃ fr1 : Addr, ∃ kx1 : ClassId, ∃ ex1 : Int32, ∃ ex2 : Nat → Int64, v = none ∧ h0.size ≤ fr1 ∧ Fr n0 L ∧ Keep h0 h [ad1, ad3, ad7, ad8] ∧ (Exa Z h ad1 "com/example/monarc/monarc/Domains") ∧ (Fld Z h ad1 "com/example/monarc/monarc/Domains" "holes" "[[J" (.ref ad7)) ∧ (Fld Z h ad1 "com/example/monarc/monarc/Domains" "initial" "[Lcom/example/monarc/monarc/InitialDomain;" (.ref ad4)) ∧ (Fld Z h ad1 "com/example/monarc/monarc/Domains" "lower" "[I" (.ref ad5)) ∧ (Fld Z h ad1 "com/example/monarc/monarc/Domains" "resized" "Ljava/util/function/IntConsumer;" .null) ∧ (Fld Z h ad1 "com/example/monarc/monarc/Domains" "sizes" "[I" (.ref ad8)) ∧ (Fld Z h ad1 "com/example/monarc/monarc/Domains" "trail" "[J" (.ref ad3)) ∧ (Fld Z h ad1 "com/example/monarc/monarc/Domains" "trailSize" "I" (.int (iv6 + (1 : Int32)))) ∧ (Fld Z h ad1 "com/example/monarc/monarc/Domains" "upper" "[I" (.ref ad6)) ∧ (Fld Z h ad1 "com/example/monarc/monarc/Domains" "withOneValue" "I" (.int ex1)) ∧ (Exa Z h ad3 "[J") ∧ (Arf Z h ad3 kc6 (1024 : Int32) (fun i => if i = (iv6).toNatClampNeg then ((((iv1.toInt64) <<< ((32 : Int32) &&& 0x3f).toInt64) ||| ((0 : Int64) <<< ((30 : Int32) &&& 0x3f).toInt64)) ||| (iv2.toInt64)) else fv12 i)) ∧ (Exa Z h ad7 "[[J") ∧ (Arw Z h ad7 kc4 (.array .long) (2 : Int32) (fun i => if i = (iv1).toNatClampNeg then (.ref fr1) else fv10 i)) ∧ (Ari Z h ad8 kc1 (2 : Int32) (fun i => if i = (iv1).toNatClampNeg then ((fv7 (iv1).toNatClampNeg) - (1 : Int32)) else fv7 i)) ∧ (Exa Z h fr1 "[J") ∧ (Arf Z h fr1 kx1 iv14 ex2)
set_option maxRecDepth 65536 in
set_option maxHeartbeats 40000000 in
theorem am22_4 (l : Launch) (Z : State) (a0 : Array Value) (hw : ∀ d ∈ tables_1, d.before a0 Z = true) (ws : List Jvm.Cond) (u_1 : Addr) (aw0 : Addr) (u_0 : ClassId) (kaw0 : ClassId) (HW : Wd Z u_1 aw0 u_0 kaw0) (ad1 : Addr) (iv1 : Int32) (iv2 : Int32) (ad2 : Addr) (iv4 : Int32) (ad3 : Addr) (ad4 : Addr) (ad5 : Addr) (ad6 : Addr) (ad7 : Addr) (ad8 : Addr) (iv5 : Int32) (iv6 : Int32) (kc1 : ClassId) (fv7 : Nat → Int32) (kc2 : ClassId) (fv8 : Nat → Int32) (kc3 : ClassId) (fv9 : Nat → Int32) (kc4 : ClassId) (fv10 : Nat → Value) (kc5 : ClassId) (fv11 : Nat → Addr) (kc6 : ClassId) (fv12 : Nat → Int64) (iv13 : Int32) (iv14 : Int32) (h0 : Heap) (n0 : Nat) (Ol : Old Z n0 h0) (HE_ad2 : Exa Z h0 ad2 "com/example/monarc/monarc/InitialDomain") (HF_ad2_InitialDomain_size : Fld Z h0 ad2 "com/example/monarc/monarc/InitialDomain" "size" "I" (.int iv4)) (HE_ad1 : Exa Z h0 ad1 "com/example/monarc/monarc/Domains") (HF_ad1_Domains_trail : Fld Z h0 ad1 "com/example/monarc/monarc/Domains" "trail" "[J" (.ref ad3)) (HF_ad1_Domains_initial : Fld Z h0 ad1 "com/example/monarc/monarc/Domains" "initial" "[Lcom/example/monarc/monarc/InitialDomain;" (.ref ad4)) (HF_ad1_Domains_lower : Fld Z h0 ad1 "com/example/monarc/monarc/Domains" "lower" "[I" (.ref ad5)) (HF_ad1_Domains_upper : Fld Z h0 ad1 "com/example/monarc/monarc/Domains" "upper" "[I" (.ref ad6)) (HF_ad1_Domains_holes : Fld Z h0 ad1 "com/example/monarc/monarc/Domains" "holes" "[[J" (.ref ad7)) (HF_ad1_Domains_sizes : Fld Z h0 ad1 "com/example/monarc/monarc/Domains" "sizes" "[I" (.ref ad8)) (HF_ad1_Domains_withOneValue : Fld Z h0 ad1 "com/example/monarc/monarc/Domains" "withOneValue" "I" (.int iv5)) (HF_ad1_Domains_trailSize : Fld Z h0 ad1 "com/example/monarc/monarc/Domains" "trailSize" "I" (.int iv6)) (HF_ad1_Domains_resized : Fld Z h0 ad1 "com/example/monarc/monarc/Domains" "resized" "Ljava/util/function/IntConsumer;" .null) (HE_ad7 : Exa Z h0 ad7 "[[J") (HE_ad3 : Exa Z h0 ad3 "[J") (HG_ad8 : Ari Z h0 ad8 kc1 (2 : Int32) fv7) (HG_ad6 : Ari Z h0 ad6 kc2 (2 : Int32) fv8) (HG_ad5 : Ari Z h0 ad5 kc3 (2 : Int32) fv9) (HG_ad7 : Arw Z h0 ad7 kc4 (.array .long) (2 : Int32) fv10) (HG_ad4 : Ara Z h0 ad4 kc5 (.object "com/example/monarc/monarc/InitialDomain") (2 : Int32) fv11) (HG_ad3 : Arf Z h0 ad3 kc6 (1024 : Int32) fv12) (nn_ad1 : n0 ≤ ad1) (nn_ad3 : n0 ≤ ad3) (nn_ad7 : n0 ≤ ad7) (nn_ad8 : n0 ≤ ad8) (ne_ad1_ad3 : ad1 ≠ ad3) (ne_ad1_ad7 : ad1 ≠ ad7) (ne_ad1_ad8 : ad1 ≠ ad8) (ne_ad3_ad7 : ad3 ≠ ad7) (ne_ad3_ad8 : ad3 ≠ ad8) (ne_ad7_ad8 : ad7 ≠ ad8) (as0 : (iv14).toNatClampNeg ≤ 16384) (as1 : 0 ≤ (((iv2.toUInt32 >>> ((6 : Int32) &&& 31).toUInt32).toInt32)).toInt ∧ (((iv2.toUInt32 >>> ((6 : Int32) &&& 31).toUInt32).toInt32)).toInt < (iv14).toInt) (as2 : 0 ≤ (iv1).toInt ∧ (iv1).toInt < ((2 : Int32)).toInt) (as3 : 0 ≤ (iv6).toInt ∧ (iv6).toInt < ((1024 : Int32)).toInt) (as4 : ¬ (iv14 < (0 : Int32))) (as5 : ¬ (iv2 = (0 : Int32))) (as6 : ¬ (iv2 = iv13)) (as7 : ¬ (iv6 = (1024 : Int32))) (eq0 : (((iv4 + (63 : Int32)).toUInt32 >>> ((6 : Int32) &&& 31).toUInt32).toInt32) = iv14) (eq1 : (fv8 (iv1).toNatClampNeg) = iv13) (eq2 : (fv9 (iv1).toNatClampNeg) = (0 : Int32)) (rq0 : (fv10 (iv1).toNatClampNeg) = .null) (rq1 : (fv11 (iv1).toNatClampNeg) = ad2) (hO_ad7 : OvrA Z kc4 .long "[J") (hO_ad4 : Ovr Z kc5 "com/example/monarc/monarc/InitialDomain") :
    MetFree l y_22 (head1 (Jvm.Cond.code y_22 prog_11_method_19_code 3 none :: ws) (rm 1 1 16384 16)) (fun a_ U_ => a_ = #[(.ref ad1), (.int iv1), (.int iv2)] ∧ Z.Warmed39 U_.vm ∧ U_.heap = h0) (fun _ _ _ _ _ => True) (fun _ U_ o_ V_ => ∃ v_ L_, o_ = .returned v_ ∧ Q_am22_4 Z u_1 aw0 u_0 kaw0 ad1 iv1 iv2 ad2 iv4 ad3 ad4 ad5 ad6 ad7 ad8 iv5 iv6 kc1 fv7 kc2 fv8 kc3 fv9 kc4 fv10 kc5 fv11 kc6 fv12 iv13 iv14 h0 n0 v_ V_.heap L_ ∧ FrameEnd U_ o_ V_ L_ (rm 1 1 16384 16).cells (rm 1 1 16384 16).slots) := by
  refine MetFree.of_bodySF (plainFor_of_name pn_10) hisR ?_
  intro p e s m args below meth c s₁ Bd hml0 hP hK
  obtain ⟨rfl, hZ, hh⟩ := hP
  have hx := Bd.exec
  have hby := Bd.bytes
  have hml : c.maxLocals = 3 := hml0
  have hown : s.vm.findClass "com/example/monarc/monarc/Domains" = some m.cls := findClass_of_methodNamed Bd.named
  have hnm := (name_of_methodNamed Bd.named Bd.method).1
  have X0 : Stand p l e (rm 1 1 16384 16) s m #[(.ref ad1), (.int iv1), (.int iv2)] below meth c s₁ [] 0 0 := Stand.of_body Bd
  have e0 : s₁.heap = h0 := by rw [← hh, Bd.state]; rfl
  have N0 := Fr.nil n0
  have kp0 := Keep.refl h0 [ad1, ad3, ad7, ad8]
  show Go p e below (Fin1 s below (Q_am22_4 Z u_1 aw0 u_0 kaw0 ad1 iv1 iv2 ad2 iv4 ad3 ad4 ad5 ad6 ad7 ad8 iv5 iv6 kc1 fv7 kc2 fv8 kc3 fv9 kc4 fv10 kc5 fv11 kc6 fv12 iv13 iv14 h0 n0) (rm 1 1 16384 16).cells (rm 1 1 16384 16).slots) _
  refine Go.step (fun t_ k_ => castTop (ef_am22_1 m ad1 iv1 iv2) k_) ?_
  obtain ⟨Eu_1, Su_1, Eaw0, Saw0, Au_1, Aaw0⟩ := id HW
  show Go p e below _ (s₁.setTop (mkF m 0 #[.val (.ref ad1), .val (.int iv1), .val (.int iv2)] []))
  refine gs.iloadN X0.here hx (hb hby d22_0) rfl ?_
  refine gs.aloadN X0.here hx (hb hby d22_1) rfl rfl ?_
  refine gs.getF X0 hx hZ hown (wd hw 128 rfl) Via.refl e0 HF_ad1_Domains_lower (hb hby d22_2) fun T1 X1 e1 => ?_
  refine gs.iloadN X1.here hx (hb hby d22_5) rfl ?_
  obtain ⟨cl2, Ar2, q2, Sz2, Ng2, Hs2⟩ := id HG_ad5
  have hin2 : ¬ (iv1 < 0 ∨ cl2.slots.size ≤ (iv1).toNatClampNeg) := inb_of Sz2 (inb_int as2)
  have hat2 : cl2.slots[(iv1).toNatClampNeg]? = some (.int (fv9 (iv1).toNatClampNeg)) := Hs2 _ (lt_of_in hin2)
  refine Go.fin (fun t_ k_ => X1.iaload hx (j := iv1) (v := (.int (fv9 (iv1).toNatClampNeg))) (by rw [e1]; exact Ar2.1) (State.isArrayOf_alike hZ.alike Ar2.2.1) Ar2.2.2 hin2 hat2 (g := mkF m 6 _ _) rfl rfl (hb hby d22_6) _ k_) ?_
  show Go p e below _ (T1.setTop (mkF m 7 _ [(.int (fv9 (iv1).toNatClampNeg)), (.int iv2)]))
  rw [show (fv9 (iv1).toNatClampNeg) = (0 : Int32) from eq2]
  have hc7 : ¬ (iv2 = (0 : Int32)) := as5
  refine gs.icmpYes 21 X1.here hx (hb hby d22_7) (feq hc7).2 rfl ?_
  refine gs.iloadN X1.here hx (hb hby d22_21) rfl ?_
  refine gs.aloadN X1.here hx (hb hby d22_22) rfl rfl ?_
  refine gs.getF X1 hx hZ hown (wd hw 130 rfl) Via.refl e1 HF_ad1_Domains_upper (hb hby d22_23) fun T3 X3 e3 => ?_
  refine gs.iloadN X3.here hx (hb hby d22_26) rfl ?_
  obtain ⟨cl4, Ar4, q4, Sz4, Ng4, Hs4⟩ := id HG_ad6
  have hin4 : ¬ (iv1 < 0 ∨ cl4.slots.size ≤ (iv1).toNatClampNeg) := inb_of Sz4 (inb_int as2)
  have hat4 : cl4.slots[(iv1).toNatClampNeg]? = some (.int (fv8 (iv1).toNatClampNeg)) := Hs4 _ (lt_of_in hin4)
  refine Go.fin (fun t_ k_ => X3.iaload hx (j := iv1) (v := (.int (fv8 (iv1).toNatClampNeg))) (by rw [e3]; exact Ar4.1) (State.isArrayOf_alike hZ.alike Ar4.2.1) Ar4.2.2 hin4 hat4 (g := mkF m 27 _ _) rfl rfl (hb hby d22_27) _ k_) ?_
  show Go p e below _ (T3.setTop (mkF m 28 _ [(.int (fv8 (iv1).toNatClampNeg)), (.int iv2)]))
  rw [show (fv8 (iv1).toNatClampNeg) = iv13 from eq1]
  have hc28 : ¬ (iv2 = iv13) := as6
  refine gs.icmpYes 42 X3.here hx (hb hby d22_28) (feq hc28).2 rfl ?_
  refine gs.aloadN X3.here hx (hb hby d22_42) rfl rfl ?_
  refine gs.getF X3 hx hZ hown (wd hw 134 rfl) Via.refl e3 HF_ad1_Domains_holes (hb hby d22_43) fun T5 X5 e5 => ?_
  refine gs.iloadN X5.here hx (hb hby d22_46) rfl ?_
  obtain ⟨cl6, Ar6, q6, Sz6, Ng6, Hs6⟩ := id HG_ad7
  have hin6 : ¬ (iv1 < 0 ∨ cl6.slots.size ≤ (iv1).toNatClampNeg) := inb_of Sz6 (inb_int as2)
  have hat6 : cl6.slots[(iv1).toNatClampNeg]? = some (fv10 (iv1).toNatClampNeg) := Hs6 _ (lt_of_in hin6)
  rw [show (fv10 (iv1).toNatClampNeg) = .null from rq0] at hat6
  refine Go.fin (fun t_ k_ => X5.aaload hx (j := iv1) (v := .null) (by rw [e5]; exact Ar6.1) (State.isArrayOf_alike hZ.alike Ar6.2.1) rfl Ar6.2.2 hin6 hat6 (g := mkF m 47 _ _) rfl rfl (hb hby d22_47) _ k_) ?_
  show Go p e below _ (T5.setTop (mkF m 48 _ [.null]))
  refine Go.fin (fun t_ k_ => XS.ifnonnullNo X5.here hx rfl (hb hby d22_48) rfl k_) ?_
  show Go p e below _ (T5.setTop (mkF m 51 _ []))
  refine gs.aloadN X5.here hx (hb hby d22_51) rfl rfl ?_
  refine gs.getF X5 hx hZ hown (wd hw 134 rfl) Via.refl e5 HF_ad1_Domains_holes (hb hby d22_52) fun T7 X7 e7 => ?_
  refine gs.iloadN X7.here hx (hb hby d22_55) rfl ?_
  refine gs.aloadN X7.here hx (hb hby d22_56) rfl rfl ?_
  refine gs.getF X7 hx hZ hown (wd hw 126 rfl) Via.refl e7 HF_ad1_Domains_initial (hb hby d22_57) fun T8 X8 e8 => ?_
  refine gs.iloadN X8.here hx (hb hby d22_60) rfl ?_
  obtain ⟨cl9, Ar9, q9, Sz9, Ng9, Hs9⟩ := id HG_ad4
  have hin9 : ¬ (iv1 < 0 ∨ cl9.slots.size ≤ (iv1).toNatClampNeg) := inb_of Sz9 (inb_int as2)
  have hat9 : cl9.slots[(iv1).toNatClampNeg]? = some (.ref (fv11 (iv1).toNatClampNeg)) := Hs9 _ (lt_of_in hin9)
  rw [show (fv11 (iv1).toNatClampNeg) = ad2 from rq1] at hat9
  refine Go.fin (fun t_ k_ => X8.aaload hx (j := iv1) (v := (.ref ad2)) (by rw [e8]; exact Ar9.1) (State.isArrayOf_alike hZ.alike Ar9.2.1) rfl Ar9.2.2 hin9 hat9 (g := mkF m 61 _ _) rfl rfl (hb hby d22_61) _ k_) ?_
  show Go p e below _ (T8.setTop (mkF m 62 _ [(.ref ad2), (.int iv1), (.ref ad7)]))
  refine gs.virt 2 X8 hx hZ hown (am21_1 l Z a0 hw [] u_1 aw0 u_0 kaw0 HW (ad2) (iv4) h0 n0 Ol HF_ad2_InitialDomain_size) (wd hw 171 rfl) (wd hw 40 rfl) (wd hw 167 rfl) (wd hw 168 rfl) (notFace_of_selects (args := #[]) (mvT hZ (wd hw 170 rfl))) (wd hw 170 rfl) (wd hw 169 rfl) (by decide) HE_ad2 (by decide) (by decide) (by rw [hml]; rfl) [] (lenOf pd_9 rfl) rfl (Nat.le_of_eq rfl) (hb hby d22_62) rfl e8 (by decide) (by decide) fun T10 Lc10 v10 X10 hQ10 => ?_
  obtain ⟨rfl, Nq10, e10⟩ := hQ10
  have N10 := Fr.app N0 Nq10
  show Go p e below _ (T10.setTop (mkF m 65 _ [(.int iv4), (.int iv1), (.ref ad7)]))
  refine gs.bipush 63 X10.here hx (hb hby d22_65) rfl ?_
  refine gs.iadd X10.here hx (hb hby d22_67) ?_
  refine gs.bipush 6 X10.here hx (hb hby d22_68) rfl ?_
  refine Go.fin (fun t_ k_ => XS.iushr X10.here hx rfl (hb hby d22_70) rfl k_) ?_
  show Go p e below _ (T10.setTop (mkF m 71 _ [(.int (((iv4 + (63 : Int32)).toUInt32 >>> ((6 : Int32) &&& 31).toUInt32).toInt32)), (.int iv1), (.ref ad7)]))
  rw [show (((iv4 + (63 : Int32)).toUInt32 >>> ((6 : Int32) &&& 31).toUInt32).toInt32) = iv14 from eq0]
  obtain ⟨T11, h11, k11, X11, e11, E11, A11, B11, st11⟩ := newPE X10 hx hZ (wd hw 109 rfl) e10 (g := (mkF m 71 #[.val (.ref ad1), .val (.int iv1), .val (.int iv2)] [(.int iv14), (.int iv1), (.ref ad7)])) rfl (hb hby d22_71) rfl as4 (cap := 16384) as0 (by decide) (by decide) (by decide) (ad := "[J") (by decide)
  obtain ⟨b11, g11⟩ : ∃ z, z = h0.size := ⟨_, rfl⟩
  rw [← g11] at A11 B11 st11
  have nn_b11 : n0 ≤ b11 := Nat.le_trans (old_z0 Ol) (Nat.le_of_eq g11.symm)
  have sz_b11 : h0.size ≤ b11 := Nat.le_trans kp0.1 (Nat.le_of_eq g11.symm)
  have old11 := Ol.ext E11
  have kp11 := kp0.ext E11
  have V11 : Arv Z h11 b11 k11 .long iv14 [] (.long (0 : Int64)) := Arv.new A11 as4
  refine Go.fin st11 ?_
  show Go p e below _ (T11.setTop (mkF m 73 _ [(.ref b11), (.int iv1), (.ref ad7)]))
  have g12_f : Arf Z h11 b11 k11 iv14 (fun _ => (0 : Int64)) := Arf.of_arv V11
  have f13 := (HG_ad7.ext E11)
  obtain ⟨cl14, Ar14, q14, Sz14, Ng14, Hs14⟩ := id f13
  have hin14 : ¬ (iv1 < 0 ∨ cl14.slots.size ≤ (iv1).toNatClampNeg) := inb_of Sz14 (inb_int as2)
  obtain ⟨T15, h15, X15, e15, W15, st15⟩ := stR X11 hx hZ e11 Ar14 (j := iv1) hin14 rfl (Sto.ofVA Ar14 q14 hO_ad7 (Ins.self B11)) (g := (mkF m 73 #[.val (.ref ad1), .val (.int iv1), .val (.int iv2)] [(.ref b11), (.int iv1), (.ref ad7)])) rfl rfl (hb hby d22_73)
  have N15 := Fr.snoc X15 N10 nn_ad7
  have old15 := old11.wr W15 nn_ad7
  have kp15 := kp11.wr W15 (Or.inl (List.mem_of_getElem? (i := 2) rfl))
  have V15 : Arw Z h15 ad7 kc4 (.array .long) (2 : Int32) (fun i => if i = (iv1).toNatClampNeg then (.ref b11) else fv10 i) := Arw.set Ar14 q14 Sz14 Ng14 Hs14 W15
  refine Go.fin st15 ?_
  show Go p e below _ (T15.setTop (mkF m 74 _ []))
  refine gs.aloadN X15.here hx (hb hby d22_74) rfl rfl ?_
  have f16 := ((HF_ad1_Domains_holes.ext E11).other W15 (Or.inl ne_ad1_ad7))
  refine gs.getF X15 hx hZ hown (wd hw 134 rfl) Via.refl e15 f16 (hb hby d22_75) fun T17 X17 e17 => ?_
  refine gs.iloadN X17.here hx (hb hby d22_78) rfl ?_
  obtain ⟨cl18, Ar18, q18, Sz18, Ng18, Hs18⟩ := id V15
  have hin18 : ¬ (iv1 < 0 ∨ cl18.slots.size ≤ (iv1).toNatClampNeg) := inb_of Sz18 (inb_int as2)
  have hat18 : cl18.slots[(iv1).toNatClampNeg]? = some ((fun i => if i = (iv1).toNatClampNeg then (.ref b11) else fv10 i) (iv1).toNatClampNeg) := Hs18 _ (lt_of_in hin18)
  rw [show ((fun i => if i = (iv1).toNatClampNeg then (.ref b11) else fv10 i) (iv1).toNatClampNeg) = (.ref b11) from if_pos rfl] at hat18
  refine Go.fin (fun t_ k_ => X17.aaload hx (j := iv1) (v := (.ref b11)) (by rw [e17]; exact Ar18.1) (State.isArrayOf_alike hZ.alike Ar18.2.1) rfl Ar18.2.2 hin18 hat18 (g := mkF m 79 _ _) rfl rfl (hb hby d22_79) _ k_) ?_
  show Go p e below _ (T17.setTop (mkF m 80 _ [(.ref b11)]))
  refine Go.fin (fun t_ k_ => X17.ldc2Long hx hown (mvT hZ (wd hw 181 rfl)) (g := mkF m 80 _ _) rfl (hb hby d22_80) _ k_) ?_
  show Go p e below _ (T17.setTop (mkF m 83 _ [(.long (-1 : Int64)), (.ref b11)]))
  have ne_ad7_b11 : ad7 ≠ b11 := Nat.ne_of_lt (Nat.lt_of_lt_of_le HE_ad7.lt (Nat.le_of_eq g11.symm))
  have f19 := (g12_f.other W15 (Ne.symm ne_ad7_b11))
  refine gs.stat 0 X17 hx hZ hown (fill1 l Z a0 hw [] u_1 aw0 u_0 kaw0 HW (b11) ((-1 : Int64)) (k11) (iv14) ((fun _ => (0 : Int64))) h15 n0 old15 f19 nn_b11) (wd hw 185 rfl) (wd hw 184 rfl) (wd hw 182 rfl) (wd hw 183 rfl) (by decide) (by decide) (by decide) (by rw [hml]; rfl) [(.ref b11), (.long (-1 : Int64))] (lenOf pd_18 rfl) rfl (Nat.le_of_eq rfl) (hb hby d22_83) rfl e17 (by decide) (by decide) fun T20 Lc20 v20 X20 hQ20 => ?_
  obtain ⟨ex20_0, rfl, Nq20, K20, p20_0⟩ := hQ20
  have old20 := old15.keep K20 (allS nn_b11 all0)
  have kp20 := kp15.trans K20 (allS (Or.inr sz_b11) all0)
  have N20 := Fr.app N15 Nq20
  show Go p e below _ (T20.setTop (mkF m 86 _ []))
  refine gs.aloadN X20.here hx (hb hby d22_86) rfl rfl ?_
  have ne_ad1_b11 : ad1 ≠ b11 := Nat.ne_of_lt (Nat.lt_of_lt_of_le HE_ad1.lt (Nat.le_of_eq g11.symm))
  have f21 := (f16.keep K20 (ninS ne_ad1_b11 nin0))
  refine gs.getF X20 hx hZ hown (wd hw 134 rfl) Via.refl rfl f21 (hb hby d22_87) fun T22 X22 e22 => ?_
  refine gs.iloadN X22.here hx (hb hby d22_90) rfl ?_
  have f23 := (V15.keep K20 (ninS ne_ad7_b11 nin0))
  obtain ⟨cl24, Ar24, q24, Sz24, Ng24, Hs24⟩ := id f23
  have hin24 : ¬ (iv1 < 0 ∨ cl24.slots.size ≤ (iv1).toNatClampNeg) := inb_of Sz24 (inb_int as2)
  have hat24 : cl24.slots[(iv1).toNatClampNeg]? = some ((fun i => if i = (iv1).toNatClampNeg then (.ref b11) else fv10 i) (iv1).toNatClampNeg) := Hs24 _ (lt_of_in hin24)
  rw [show ((fun i => if i = (iv1).toNatClampNeg then (.ref b11) else fv10 i) (iv1).toNatClampNeg) = (.ref b11) from if_pos rfl] at hat24
  refine Go.fin (fun t_ k_ => X22.aaload hx (j := iv1) (v := (.ref b11)) (by rw [e22]; exact Ar24.1) (State.isArrayOf_alike hZ.alike Ar24.2.1) rfl Ar24.2.2 hin24 hat24 (g := mkF m 91 _ _) rfl rfl (hb hby d22_91) _ k_) ?_
  show Go p e below _ (T22.setTop (mkF m 92 _ [(.ref b11)]))
  refine gs.iloadN X22.here hx (hb hby d22_92) rfl ?_
  refine gs.bipush 6 X22.here hx (hb hby d22_93) rfl ?_
  refine Go.fin (fun t_ k_ => XS.iushr X22.here hx rfl (hb hby d22_95) rfl k_) ?_
  show Go p e below _ (T22.setTop (mkF m 96 _ [(.int ((iv2.toUInt32 >>> ((6 : Int32) &&& 31).toUInt32).toInt32)), (.ref b11)]))
  refine gs.dup2 X22.here hx (hb hby d22_96) rfl rfl ?_
  obtain ⟨cl25, Ar25, q25, Sz25, Ng25, Hs25⟩ := id p20_0
  have hin25 : ¬ (((iv2.toUInt32 >>> ((6 : Int32) &&& 31).toUInt32).toInt32) < 0 ∨ cl25.slots.size ≤ (((iv2.toUInt32 >>> ((6 : Int32) &&& 31).toUInt32).toInt32)).toNatClampNeg) := inb_of Sz25 (inb_int as1)
  have hat25 : cl25.slots[(((iv2.toUInt32 >>> ((6 : Int32) &&& 31).toUInt32).toInt32)).toNatClampNeg]? = some (.long (ex20_0 (((iv2.toUInt32 >>> ((6 : Int32) &&& 31).toUInt32).toInt32)).toNatClampNeg)) := Hs25 _ (lt_of_in hin25)
  refine Go.fin (fun t_ k_ => X22.laload hx (j := ((iv2.toUInt32 >>> ((6 : Int32) &&& 31).toUInt32).toInt32)) (v := (.long (ex20_0 (((iv2.toUInt32 >>> ((6 : Int32) &&& 31).toUInt32).toInt32)).toNatClampNeg))) (by rw [e22]; exact Ar25.1) (State.isArrayOf_alike hZ.alike Ar25.2.1) Ar25.2.2 hin25 hat25 (g := mkF m 97 _ _) rfl rfl (hb hby d22_97) _ k_) ?_
  show Go p e below _ (T22.setTop (mkF m 98 _ [(.long (ex20_0 (((iv2.toUInt32 >>> ((6 : Int32) &&& 31).toUInt32).toInt32)).toNatClampNeg)), (.int ((iv2.toUInt32 >>> ((6 : Int32) &&& 31).toUInt32).toInt32)), (.ref b11)]))
  refine Go.fin (fun t_ k_ => XS.lconst X22.here hx rfl (hb hby d22_98) k_) ?_
  show Go p e below _ (T22.setTop (mkF m 99 _ [(.long (1 : Int64)), (.long (ex20_0 (((iv2.toUInt32 >>> ((6 : Int32) &&& 31).toUInt32).toInt32)).toNatClampNeg)), (.int ((iv2.toUInt32 >>> ((6 : Int32) &&& 31).toUInt32).toInt32)), (.ref b11)]))
  refine gs.iloadN X22.here hx (hb hby d22_99) rfl ?_
  refine Go.fin (fun t_ k_ => XS.lshl X22.here hx rfl (hb hby d22_100) rfl k_) ?_
  show Go p e below _ (T22.setTop (mkF m 101 _ [(.long ((1 : Int64) <<< (iv2 &&& 0x3f).toInt64)), (.long (ex20_0 (((iv2.toUInt32 >>> ((6 : Int32) &&& 31).toUInt32).toInt32)).toNatClampNeg)), (.int ((iv2.toUInt32 >>> ((6 : Int32) &&& 31).toUInt32).toInt32)), (.ref b11)]))
  refine Go.fin (fun t_ k_ => X22.ldc2Long hx hown (mvT hZ (wd hw 181 rfl)) (g := mkF m 101 _ _) rfl (hb hby d22_101) _ k_) ?_
  show Go p e below _ (T22.setTop (mkF m 104 _ [(.long (-1 : Int64)), (.long ((1 : Int64) <<< (iv2 &&& 0x3f).toInt64)), (.long (ex20_0 (((iv2.toUInt32 >>> ((6 : Int32) &&& 31).toUInt32).toInt32)).toNatClampNeg)), (.int ((iv2.toUInt32 >>> ((6 : Int32) &&& 31).toUInt32).toInt32)), (.ref b11)]))
  refine gs.lxor X22.here hx (hb hby d22_104) ?_
  refine gs.land X22.here hx (hb hby d22_105) ?_
  obtain ⟨cl26, Ar26, q26, Sz26, Ng26, Hs26⟩ := id p20_0
  have hin26 : ¬ (((iv2.toUInt32 >>> ((6 : Int32) &&& 31).toUInt32).toInt32) < 0 ∨ cl26.slots.size ≤ (((iv2.toUInt32 >>> ((6 : Int32) &&& 31).toUInt32).toInt32)).toNatClampNeg) := inb_of Sz26 (inb_int as1)
  obtain ⟨T27, h27, X27, e27, W27, st27⟩ := stJ X22 hx hZ e22 Ar26 (j := ((iv2.toUInt32 >>> ((6 : Int32) &&& 31).toUInt32).toInt32)) hin26 (g := (mkF m 106 #[.val (.ref ad1), .val (.int iv1), .val (.int iv2)] [(.long ((ex20_0 (((iv2.toUInt32 >>> ((6 : Int32) &&& 31).toUInt32).toInt32)).toNatClampNeg) &&& (((1 : Int64) <<< (iv2 &&& 0x3f).toInt64) ^^^ (-1 : Int64)))), (.int ((iv2.toUInt32 >>> ((6 : Int32) &&& 31).toUInt32).toInt32)), (.ref b11)])) rfl rfl (hb hby d22_106)
  have N27 := Fr.snoc X27 N20 nn_b11
  have old27 := old20.wr W27 nn_b11
  have kp27 := kp20.wr W27 (Or.inr sz_b11)
  have V27 : Arf Z h27 b11 k11 iv14 (fun i => if i = (((iv2.toUInt32 >>> ((6 : Int32) &&& 31).toUInt32).toInt32)).toNatClampNeg then ((ex20_0 (((iv2.toUInt32 >>> ((6 : Int32) &&& 31).toUInt32).toInt32)).toNatClampNeg) &&& (((1 : Int64) <<< (iv2 &&& 0x3f).toInt64) ^^^ (-1 : Int64))) else ex20_0 i) := Arf.set Ar26 q26 Sz26 Ng26 Hs26 W27
  refine Go.fin st27 ?_
  show Go p e below _ (T27.setTop (mkF m 107 _ []))
  refine gs.aloadN X27.here hx (hb hby d22_107) rfl rfl ?_
  refine gs.iloadN X27.here hx (hb hby d22_108) rfl ?_
  refine gs.aloadN X27.here hx (hb hby d22_109) rfl rfl ?_
  have f28 := ((((HF_ad1_Domains_sizes.ext E11).other W15 (Or.inl ne_ad1_ad7)).keep K20 (ninS ne_ad1_b11 nin0)).other W27 (Or.inl ne_ad1_b11))
  refine gs.getF X27 hx hZ hown (wd hw 136 rfl) Via.refl e27 f28 (hb hby d22_110) fun T29 X29 e29 => ?_
  refine gs.iloadN X29.here hx (hb hby d22_113) rfl ?_
  have ne_ad8_b11 : ad8 ≠ b11 := Nat.ne_of_lt (Nat.lt_of_lt_of_le HG_ad8.lt (Nat.le_of_eq g11.symm))
  have f30 := ((((HG_ad8.ext E11).other W15 (Ne.symm ne_ad7_ad8)).keep K20 (ninS ne_ad8_b11 nin0)).other W27 ne_ad8_b11)
  obtain ⟨cl31, Ar31, q31, Sz31, Ng31, Hs31⟩ := id f30
  have hin31 : ¬ (iv1 < 0 ∨ cl31.slots.size ≤ (iv1).toNatClampNeg) := inb_of Sz31 (inb_int as2)
  have hat31 : cl31.slots[(iv1).toNatClampNeg]? = some (.int (fv7 (iv1).toNatClampNeg)) := Hs31 _ (lt_of_in hin31)
  refine Go.fin (fun t_ k_ => X29.iaload hx (j := iv1) (v := (.int (fv7 (iv1).toNatClampNeg))) (by rw [e29]; exact Ar31.1) (State.isArrayOf_alike hZ.alike Ar31.2.1) Ar31.2.2 hin31 hat31 (g := mkF m 114 _ _) rfl rfl (hb hby d22_114) _ k_) ?_
  show Go p e below _ (T29.setTop (mkF m 115 _ [(.int (fv7 (iv1).toNatClampNeg)), (.int iv1), (.ref ad1)]))
  refine gs.iconst 1 X29.here hx (hb hby d22_115) rfl ?_
  refine gs.isub X29.here hx (hb hby d22_116) ?_
  have f32 := ((((HE_ad1.ext E11).wr W15).keep K20).wr W27)
  have f33 := ((((HF_ad1_Domains_trail.ext E11).other W15 (Or.inl ne_ad1_ad7)).keep K20 (ninS ne_ad1_b11 nin0)).other W27 (Or.inl ne_ad1_b11))
  have f34 := ((((HF_ad1_Domains_initial.ext E11).other W15 (Or.inl ne_ad1_ad7)).keep K20 (ninS ne_ad1_b11 nin0)).other W27 (Or.inl ne_ad1_b11))
  have f35 := ((((HF_ad1_Domains_lower.ext E11).other W15 (Or.inl ne_ad1_ad7)).keep K20 (ninS ne_ad1_b11 nin0)).other W27 (Or.inl ne_ad1_b11))
  have f36 := ((((HF_ad1_Domains_upper.ext E11).other W15 (Or.inl ne_ad1_ad7)).keep K20 (ninS ne_ad1_b11 nin0)).other W27 (Or.inl ne_ad1_b11))
  have f37 := (f21.other W27 (Or.inl ne_ad1_b11))
  have f38 := ((((HF_ad1_Domains_withOneValue.ext E11).other W15 (Or.inl ne_ad1_ad7)).keep K20 (ninS ne_ad1_b11 nin0)).other W27 (Or.inl ne_ad1_b11))
  have f39 := ((((HF_ad1_Domains_trailSize.ext E11).other W15 (Or.inl ne_ad1_ad7)).keep K20 (ninS ne_ad1_b11 nin0)).other W27 (Or.inl ne_ad1_b11))
  have f40 := ((((HF_ad1_Domains_resized.ext E11).other W15 (Or.inl ne_ad1_ad7)).keep K20 (ninS ne_ad1_b11 nin0)).other W27 (Or.inl ne_ad1_b11))
  refine gs.priv 0 X29 hx hZ hown (am24_1 l Z a0 hw [] u_1 aw0 u_0 kaw0 HW (ad1) (iv1) (((fv7 (iv1).toNatClampNeg) - (1 : Int32))) (ad3) (ad4) (ad5) (ad6) (ad7) (ad8) (iv5) (iv6) (kc1) (fv7) h27 n0 old27 f32 f33 f34 f35 f36 f37 f28 f38 f39 f40 f30 nn_ad1 nn_ad8 ne_ad1_ad8 as2) (wd hw 189 rfl) (wd hw 104 rfl) (wd hw 186 rfl) (wd hw 187 rfl) (sel_priv hZ (wd hw 103 rfl) (wd hw 188 rfl) (wd hw 187 rfl) (by decide)) (wd hw 188 rfl) (by decide) f32 (by decide) (by decide) (by rw [hml]; rfl) [(.int iv1), (.int ((fv7 (iv1).toNatClampNeg) - (1 : Int32)))] (lenOf pd_15 rfl) rfl (Nat.le_of_eq rfl) (hb hby d22_117) rfl e29 (by decide) (by decide) fun T41 Lc41 v41 X41 hQ41 => ?_
  obtain ⟨ex41_0, rfl, Nq41, K41, p41_0, p41_1, p41_2, p41_3, p41_4, p41_5, p41_6, p41_7, p41_8, p41_9, p41_10⟩ := hQ41
  have old41 := old27.keep K41 (allS nn_ad1 (allS nn_ad8 all0))
  have kp41 := kp27.trans K41 (allS (Or.inl (List.mem_of_getElem? (i := 0) rfl)) (allS (Or.inl (List.mem_of_getElem? (i := 3) rfl)) all0))
  have N41 := Fr.app N27 Nq41
  show Go p e below _ (T41.setTop (mkF m 120 _ []))
  refine gs.aloadN X41.here hx (hb hby d22_120) rfl rfl ?_
  refine gs.iloadN X41.here hx (hb hby d22_121) rfl ?_
  refine gs.iconst 0 X41.here hx (hb hby d22_122) rfl ?_
  refine gs.iloadN X41.here hx (hb hby d22_123) rfl ?_
  have f42 := (((((HE_ad3.ext E11).wr W15).keep K20).wr W27).keep K41)
  have ne_ad3_b11 : ad3 ≠ b11 := Nat.ne_of_lt (Nat.lt_of_lt_of_le HE_ad3.lt (Nat.le_of_eq g11.symm))
  have f43 := (((((HG_ad3.ext E11).other W15 ne_ad3_ad7).keep K20 (ninS ne_ad3_b11 nin0)).other W27 ne_ad3_b11).keep K41 (ninS (Ne.symm ne_ad1_ad3) (ninS ne_ad3_ad8 nin0)))
  refine gs.priv 0 X41 hx hZ hown (am25_3 l Z a0 hw [] u_1 aw0 u_0 kaw0 HW (ad1) (iv1) (iv2) (ad3) (ad4) (ad5) (ad6) (ad7) (ad8) (ex41_0) (iv6) (kc6) (fv12) T41.heap n0 old41 p41_0 p41_6 p41_2 p41_3 p41_8 p41_1 p41_5 p41_9 p41_7 p41_4 f42 f43 nn_ad1 nn_ad3 ne_ad1_ad3 as3 as7) (wd hw 193 rfl) (wd hw 104 rfl) (wd hw 190 rfl) (wd hw 191 rfl) (sel_priv hZ (wd hw 103 rfl) (wd hw 192 rfl) (wd hw 191 rfl) (by decide)) (wd hw 192 rfl) (by decide) p41_0 (by decide) (by decide) (by rw [hml]; rfl) [(.int iv1), (.int (0 : Int32)), (.int iv2)] (lenOf pd_16 rfl) rfl (Nat.le_of_eq rfl) (hb hby d22_124) rfl rfl (by decide) (by decide) fun T44 Lc44 v44 X44 hQ44 => ?_
  obtain ⟨rfl, Nq44, K44, p44_0, p44_1, p44_2, p44_3, p44_4, p44_5, p44_6, p44_7, p44_8, p44_9, p44_10, p44_11⟩ := hQ44
  have old44 := old41.keep K44 (allS nn_ad1 (allS nn_ad3 all0))
  have kp44 := kp41.trans K44 (allS (Or.inl (List.mem_of_getElem? (i := 0) rfl)) (allS (Or.inl (List.mem_of_getElem? (i := 1) rfl)) all0))
  have N44 := Fr.app N41 Nq44
  show Go p e below _ (T44.setTop (mkF m 127 _ []))
  have f45 := ((((((HE_ad7.ext E11).wr W15).keep K20).wr W27).keep K41).keep K44)
  have f46 := (((f23.other W27 ne_ad7_b11).keep K41 (ninS (Ne.symm ne_ad1_ad7) (ninS ne_ad7_ad8 nin0))).keep K44 (ninS (Ne.symm ne_ad1_ad7) (ninS (Ne.symm ne_ad3_ad7) nin0)))
  have f47 := (p41_10.keep K44 (ninS (Ne.symm ne_ad1_ad8) (ninS (Ne.symm ne_ad3_ad8) nin0)))
  have f48 := (((((B11.wr W15).keep K20).wr W27).keep K41).keep K44)
  have f49 := ((V27.keep K41 (ninS (Ne.symm ne_ad1_b11) (ninS (Ne.symm ne_ad8_b11) nin0))).keep K44 (ninS (Ne.symm ne_ad1_b11) (ninS (Ne.symm ne_ad3_b11) nin0)))
  refine Go.retV X44 hx Bd.returns Bd.notSynchronized (hb hby d22_127) (by exact ⟨b11, k11, (ex41_0), ((fun i => if i = (((iv2.toUInt32 >>> ((6 : Int32) &&& 31).toUInt32).toInt32)).toNatClampNeg then ((ex20_0 (((iv2.toUInt32 >>> ((6 : Int32) &&& 31).toUInt32).toInt32)).toNatClampNeg) &&& (((1 : Int64) <<< (iv2 &&& 0x3f).toInt64) ^^^ (-1 : Int64))) else ex20_0 i)), rfl, sz_b11, N44, kp44, p44_0, p44_1, p44_2, p44_3, p44_4, p44_5, p44_6, p44_7, p44_8, p44_9, p44_10, p44_11, f45, f46, f47, f48, f49⟩) (by decide) (by decide)
set_option maxRecDepth 65536 in
set_option maxHeartbeats 40000000 in
theorem sg2 {p : Program} {l : Launch} {e : Env} {s : State} {m : MethodId} {args : Array Value} {below : List Frame} {meth : Method} {c : Code} {Z : State} {a0 : Array Value} (hw : ∀ d ∈ tables_1, d.before a0 Z = true) (u_1 : Addr) (aw0 : Addr) (u_0 : ClassId) (kaw0 : ClassId) (HW : Wd Z u_1 aw0 u_0 kaw0) {h0 : Heap} {n0 : Nat} (hx : p.tables.exec = Jvm.exec) (hby : c.code = code) (hml : c.maxLocals = 17) (hret : meth.sig.returnType = some .boolean) (hlk : meth.locks = false) {vm0 : Vm} {k0 : Nat} {T0 : State} {locs : List Loc} {h1 : Heap} (X0 : Stand p l e room_1 (s.setVm vm0) m args below meth c T0 locs 19 17535) (S0 : s.Since vm0 k0) (hk0 : k0 ≤ h1.size) (hZ : Z.Warmed39 (s.setVm vm0).vm) (hown : (s.setVm vm0).vm.findClass "com/example/monarc/monarc/DomainsHoleMadeAtPinLaw" = some m.cls) (e0 : T0.heap = h1) (N0 : Fr n0 locs) (kp0 : Keep h0 h1 []) (Ol : Old Z n0 h1) {Q : Option Value → Heap → List Loc → Prop} (hQ : ∀ h L, Fr n0 L → Q (some (.int 1)) h L) (lf0 : Int32) (lf1 : Int32) (lf2 : Int32) (lf3 : Int32) (lf4 : Int32) (lf5 : Int32) (lf6 : Int32) (lf7 : Int32) (lf8 : Int32) (ld9 : Addr) (ad3 : Addr) (lf11 : Int32) (lf12 : Int32) (nx : Int32) (ny : Int32) (pp : Int32) (qq : Int32) (ad4 : Addr) (t2 : Int32) (kc1 : ClassId) (ft2 : Nat → Int64) (HE_ad3 : Exa Z h1 ad3 "com/example/monarc/monarc/Domains") (HF_ad3_Domains_trail : Fld Z h1 ad3 "com/example/monarc/monarc/Domains" "trail" "[J" (.ref ad4)) (HF_ad3_Domains_trailSize : Fld Z h1 ad3 "com/example/monarc/monarc/Domains" "trailSize" "I" (.int t2)) (HG_ad4 : Arf Z h1 ad4 kc1 (1024 : Int32) ft2) (ht2 : t2 = (2 : Int32)) (H1 : HM (ft2 ((0 : Int32)).toNatClampNeg) = EX pp nx) (H2 : HM (ft2 ((1 : Int32)).toNatClampNeg) = EX qq ny) :
    Go p e below (Fin2 s below Q room_1.cells room_1.slots) (T0.setTop (mkF m 174 #[.val (.int lf0), .val (.int lf1), .val (.int lf2), .val (.int lf3), .val (.int lf4), .val (.int lf5), .val (.int lf6), .val (.int lf7), .val (.int lf8), .val (.ref ld9), .val (.ref ad3), .val (.int lf11), .val (.int lf12), .val (.int nx), .val (.int ny), .val (.int pp), .val (.int qq)] [])) := by
  obtain ⟨Eu_1, Su_1, Eaw0, Saw0, Au_1, Aaw0⟩ := id HW
  show Go p e below _ (T0.setTop (mkF m 174 #[.val (.int lf0), .val (.int lf1), .val (.int lf2), .val (.int lf3), .val (.int lf4), .val (.int lf5), .val (.int lf6), .val (.int lf7), .val (.int lf8), .val (.ref ld9), .val (.ref ad3), .val (.int lf11), .val (.int lf12), .val (.int nx), .val (.int ny), .val (.int pp), .val (.int qq)] []))
  refine gs.aload X0.here hx (hb hby at_174) rfl rfl ?_
  refine gs.virt 0 X0 hx hZ hown (am28_1 l Z a0 hw [] u_1 aw0 u_0 kaw0 HW (ad3) (t2) h1 n0 Ol HF_ad3_Domains_trailSize) (wd hw 211 rfl) (wd hw 104 rfl) (wd hw 207 rfl) (wd hw 208 rfl) (notFace_of_selects (args := #[]) (mvT hZ (wd hw 210 rfl))) (wd hw 210 rfl) (wd hw 209 rfl) (by decide) HE_ad3 (by decide) (by decide) (by rw [hml]; rfl) [] (lenOf pd_9 rfl) rfl (Nat.le_of_eq rfl) (hb hby at_176) rfl e0 (by decide) (by decide) fun T1 Lc1 v1 X1 hQ1 => ?_
  obtain ⟨rfl, Nq1, e1⟩ := hQ1
  have N1 := Fr.app N0 Nq1
  show Go p e below _ (T1.setTop (mkF m 179 _ [(.int t2)]))
  refine gs.iconst 2 X1.here hx (hb hby at_179) rfl ?_
  have hc180 : t2 = (2 : Int32) := ht2
  refine gs.icmpYes 185 X1.here hx (hb hby at_180) (teq hc180).1 rfl ?_
  refine gs.aload X1.here hx (hb hby at_185) rfl rfl ?_
  refine gs.iconst 0 X1.here hx (hb hby at_187) rfl ?_
  by_cases hq0 : (((((ft2 ((0 : Int32)).toNatClampNeg).toUInt64 >>> ((30 : Int32) &&& 0x3f).toInt64.toUInt64).toInt64).toInt32) &&& (3 : Int32)) = (0 : Int32)
  case pos =>
    refine gs.virt 0 X1 hx hZ hown (am29_1 l Z a0 hw [] u_1 aw0 u_0 kaw0 HW (ad3) (ad4) (kc1) (ft2) h1 n0 Ol HF_ad3_Domains_trail HG_ad4 hq0 (by decide)) (wd hw 216 rfl) (wd hw 104 rfl) (wd hw 212 rfl) (wd hw 213 rfl) (notFace_of_selects (args := #[]) (mvT hZ (wd hw 215 rfl))) (wd hw 215 rfl) (wd hw 214 rfl) (by decide) HE_ad3 (by decide) (by decide) (by rw [hml]; rfl) [(.int (0 : Int32))] (lenOf pd_17 rfl) rfl (Nat.le_of_eq rfl) (hb hby at_188) rfl e1 (by decide) (by decide) fun T2 Lc2 v2 X2 hQ2 => ?_
    obtain ⟨rfl, Nq2, e2⟩ := hQ2
    have N2 := Fr.app N1 Nq2
    show Go p e below _ (T2.setTop (mkF m 191 _ [(.int (((ft2 ((0 : Int32)).toNatClampNeg).toInt32) &&& (1073741823 : Int32)))]))
    refine gs.iload X2.here hx (hb hby at_191) rfl ?_
    refine gs.iload X2.here hx (hb hby at_193) rfl ?_
    refine gs.stat 1 X2 hx hZ hown (rm30 l Z a0 hw [] u_1 aw0 u_0 kaw0 HW pp nx (EX pp nx) h1 n0 Ol rfl) (wd hw 221 rfl) (wd hw 220 rfl) (wd hw 218 rfl) (wd hw 219 rfl) (by decide) (by decide) (by decide) (by rw [hml]; rfl) [(.int pp), (.int nx)] (lenOf pd_4 rfl) rfl (Nat.le_of_eq rfl) (hb hby at_195) rfl e2 (by decide) (by decide) fun T3 Lc3 v3 X3 hQ3 => ?_
    obtain ⟨rfl, Nq3, e3⟩ := hQ3
    have N3 := Fr.app N2 Nq3
    show Go p e below _ (T3.setTop (mkF m 198 _ [(.int (EX pp nx)), (.int (((ft2 ((0 : Int32)).toNatClampNeg).toInt32) &&& (1073741823 : Int32)))]))
    have hc198 : (((ft2 ((0 : Int32)).toNatClampNeg).toInt32) &&& (1073741823 : Int32)) = (EX pp nx) := by have q := H1; rw [HM, if_pos hq0] at q; exact q
    refine gs.icmpNo X3.here hx (hb hby at_198) (teq hc198).2 ?_
    refine gs.aload X3.here hx (hb hby at_201) rfl rfl ?_
    refine gs.iconst 1 X3.here hx (hb hby at_203) rfl ?_
    by_cases hq1 : (((((ft2 ((1 : Int32)).toNatClampNeg).toUInt64 >>> ((30 : Int32) &&& 0x3f).toInt64.toUInt64).toInt64).toInt32) &&& (3 : Int32)) = (0 : Int32)
    case pos =>
      refine gs.virt 0 X3 hx hZ hown (am29_2 l Z a0 hw [] u_1 aw0 u_0 kaw0 HW (ad3) (ad4) (kc1) (ft2) h1 n0 Ol HF_ad3_Domains_trail HG_ad4 hq1 (by decide)) (wd hw 216 rfl) (wd hw 104 rfl) (wd hw 212 rfl) (wd hw 213 rfl) (notFace_of_selects (args := #[]) (mvT hZ (wd hw 215 rfl))) (wd hw 215 rfl) (wd hw 214 rfl) (by decide) HE_ad3 (by decide) (by decide) (by rw [hml]; rfl) [(.int (1 : Int32))] (lenOf pd_17 rfl) rfl (Nat.le_of_eq rfl) (hb hby at_204) rfl e3 (by decide) (by decide) fun T4 Lc4 v4 X4 hQ4 => ?_
      obtain ⟨rfl, Nq4, e4⟩ := hQ4
      have N4 := Fr.app N3 Nq4
      show Go p e below _ (T4.setTop (mkF m 207 _ [(.int (((ft2 ((1 : Int32)).toNatClampNeg).toInt32) &&& (1073741823 : Int32)))]))
      refine gs.iload X4.here hx (hb hby at_207) rfl ?_
      refine gs.iload X4.here hx (hb hby at_209) rfl ?_
      refine gs.stat 1 X4 hx hZ hown (rm30 l Z a0 hw [] u_1 aw0 u_0 kaw0 HW qq ny (EX qq ny) h1 n0 Ol rfl) (wd hw 221 rfl) (wd hw 220 rfl) (wd hw 218 rfl) (wd hw 219 rfl) (by decide) (by decide) (by decide) (by rw [hml]; rfl) [(.int qq), (.int ny)] (lenOf pd_4 rfl) rfl (Nat.le_of_eq rfl) (hb hby at_211) rfl e4 (by decide) (by decide) fun T5 Lc5 v5 X5 hQ5 => ?_
      obtain ⟨rfl, Nq5, e5⟩ := hQ5
      have N5 := Fr.app N4 Nq5
      show Go p e below _ (T5.setTop (mkF m 214 _ [(.int (EX qq ny)), (.int (((ft2 ((1 : Int32)).toNatClampNeg).toInt32) &&& (1073741823 : Int32)))]))
      have hc214 : (((ft2 ((1 : Int32)).toNatClampNeg).toInt32) &&& (1073741823 : Int32)) = (EX qq ny) := by have q := H2; rw [HM, if_pos hq1] at q; exact q
      refine gs.icmpNo X5.here hx (hb hby at_214) (teq hc214).2 ?_
      refine gs.iconst 1 X5.here hx (hb hby at_217) rfl ?_
      refine gs.goto 222 X5.here hx (hb hby at_218) rfl ?_
      refine GoW.retZ X5 S0 (by rw [e5]; exact hk0) hx (t := .boolean) hret (by simp) hlk (hb hby at_222) (by rw [e5]; exact (hQ _ _ N5)) (by decide) (by decide)
    case neg =>
      refine gs.virt 0 X3 hx hZ hown (am29_3 l Z a0 hw [] u_1 aw0 u_0 kaw0 HW (ad3) (ad4) (kc1) (ft2) h1 n0 Ol HF_ad3_Domains_trail HG_ad4 hq1 (by decide)) (wd hw 216 rfl) (wd hw 104 rfl) (wd hw 212 rfl) (wd hw 213 rfl) (notFace_of_selects (args := #[]) (mvT hZ (wd hw 215 rfl))) (wd hw 215 rfl) (wd hw 214 rfl) (by decide) HE_ad3 (by decide) (by decide) (by rw [hml]; rfl) [(.int (1 : Int32))] (lenOf pd_17 rfl) rfl (Nat.le_of_eq rfl) (hb hby at_204) rfl e3 (by decide) (by decide) fun T6 Lc6 v6 X6 hQ6 => ?_
      obtain ⟨rfl, Nq6, e6⟩ := hQ6
      have N6 := Fr.app N3 Nq6
      show Go p e below _ (T6.setTop (mkF m 207 _ [(.int (-1 : Int32))]))
      refine gs.iload X6.here hx (hb hby at_207) rfl ?_
      refine gs.iload X6.here hx (hb hby at_209) rfl ?_
      refine gs.stat 1 X6 hx hZ hown (rm30 l Z a0 hw [] u_1 aw0 u_0 kaw0 HW qq ny (EX qq ny) h1 n0 Ol rfl) (wd hw 221 rfl) (wd hw 220 rfl) (wd hw 218 rfl) (wd hw 219 rfl) (by decide) (by decide) (by decide) (by rw [hml]; rfl) [(.int qq), (.int ny)] (lenOf pd_4 rfl) rfl (Nat.le_of_eq rfl) (hb hby at_211) rfl e6 (by decide) (by decide) fun T7 Lc7 v7 X7 hQ7 => ?_
      obtain ⟨rfl, Nq7, e7⟩ := hQ7
      have N7 := Fr.app N6 Nq7
      show Go p e below _ (T7.setTop (mkF m 214 _ [(.int (EX qq ny)), (.int (-1 : Int32))]))
      have hc214 : (-1 : Int32) = (EX qq ny) := by have q := H2; rw [HM, if_neg hq1] at q; exact q
      refine gs.icmpNo X7.here hx (hb hby at_214) (teq hc214).2 ?_
      refine gs.iconst 1 X7.here hx (hb hby at_217) rfl ?_
      refine gs.goto 222 X7.here hx (hb hby at_218) rfl ?_
      refine GoW.retZ X7 S0 (by rw [e7]; exact hk0) hx (t := .boolean) hret (by simp) hlk (hb hby at_222) (by rw [e7]; exact (hQ _ _ N7)) (by decide) (by decide)
  case neg =>
    refine gs.virt 0 X1 hx hZ hown (am29_4 l Z a0 hw [] u_1 aw0 u_0 kaw0 HW (ad3) (ad4) (kc1) (ft2) h1 n0 Ol HF_ad3_Domains_trail HG_ad4 hq0 (by decide)) (wd hw 216 rfl) (wd hw 104 rfl) (wd hw 212 rfl) (wd hw 213 rfl) (notFace_of_selects (args := #[]) (mvT hZ (wd hw 215 rfl))) (wd hw 215 rfl) (wd hw 214 rfl) (by decide) HE_ad3 (by decide) (by decide) (by rw [hml]; rfl) [(.int (0 : Int32))] (lenOf pd_17 rfl) rfl (Nat.le_of_eq rfl) (hb hby at_188) rfl e1 (by decide) (by decide) fun T8 Lc8 v8 X8 hQ8 => ?_
    obtain ⟨rfl, Nq8, e8⟩ := hQ8
    have N8 := Fr.app N1 Nq8
    show Go p e below _ (T8.setTop (mkF m 191 _ [(.int (-1 : Int32))]))
    refine gs.iload X8.here hx (hb hby at_191) rfl ?_
    refine gs.iload X8.here hx (hb hby at_193) rfl ?_
    refine gs.stat 1 X8 hx hZ hown (rm30 l Z a0 hw [] u_1 aw0 u_0 kaw0 HW pp nx (EX pp nx) h1 n0 Ol rfl) (wd hw 221 rfl) (wd hw 220 rfl) (wd hw 218 rfl) (wd hw 219 rfl) (by decide) (by decide) (by decide) (by rw [hml]; rfl) [(.int pp), (.int nx)] (lenOf pd_4 rfl) rfl (Nat.le_of_eq rfl) (hb hby at_195) rfl e8 (by decide) (by decide) fun T9 Lc9 v9 X9 hQ9 => ?_
    obtain ⟨rfl, Nq9, e9⟩ := hQ9
    have N9 := Fr.app N8 Nq9
    show Go p e below _ (T9.setTop (mkF m 198 _ [(.int (EX pp nx)), (.int (-1 : Int32))]))
    have hc198 : (-1 : Int32) = (EX pp nx) := by have q := H1; rw [HM, if_neg hq0] at q; exact q
    refine gs.icmpNo X9.here hx (hb hby at_198) (teq hc198).2 ?_
    refine gs.aload X9.here hx (hb hby at_201) rfl rfl ?_
    refine gs.iconst 1 X9.here hx (hb hby at_203) rfl ?_
    by_cases hq1 : (((((ft2 ((1 : Int32)).toNatClampNeg).toUInt64 >>> ((30 : Int32) &&& 0x3f).toInt64.toUInt64).toInt64).toInt32) &&& (3 : Int32)) = (0 : Int32)
    case pos =>
      refine gs.virt 0 X9 hx hZ hown (am29_2 l Z a0 hw [] u_1 aw0 u_0 kaw0 HW (ad3) (ad4) (kc1) (ft2) h1 n0 Ol HF_ad3_Domains_trail HG_ad4 hq1 (by decide)) (wd hw 216 rfl) (wd hw 104 rfl) (wd hw 212 rfl) (wd hw 213 rfl) (notFace_of_selects (args := #[]) (mvT hZ (wd hw 215 rfl))) (wd hw 215 rfl) (wd hw 214 rfl) (by decide) HE_ad3 (by decide) (by decide) (by rw [hml]; rfl) [(.int (1 : Int32))] (lenOf pd_17 rfl) rfl (Nat.le_of_eq rfl) (hb hby at_204) rfl e9 (by decide) (by decide) fun T10 Lc10 v10 X10 hQ10 => ?_
      obtain ⟨rfl, Nq10, e10⟩ := hQ10
      have N10 := Fr.app N9 Nq10
      show Go p e below _ (T10.setTop (mkF m 207 _ [(.int (((ft2 ((1 : Int32)).toNatClampNeg).toInt32) &&& (1073741823 : Int32)))]))
      refine gs.iload X10.here hx (hb hby at_207) rfl ?_
      refine gs.iload X10.here hx (hb hby at_209) rfl ?_
      refine gs.stat 1 X10 hx hZ hown (rm30 l Z a0 hw [] u_1 aw0 u_0 kaw0 HW qq ny (EX qq ny) h1 n0 Ol rfl) (wd hw 221 rfl) (wd hw 220 rfl) (wd hw 218 rfl) (wd hw 219 rfl) (by decide) (by decide) (by decide) (by rw [hml]; rfl) [(.int qq), (.int ny)] (lenOf pd_4 rfl) rfl (Nat.le_of_eq rfl) (hb hby at_211) rfl e10 (by decide) (by decide) fun T11 Lc11 v11 X11 hQ11 => ?_
      obtain ⟨rfl, Nq11, e11⟩ := hQ11
      have N11 := Fr.app N10 Nq11
      show Go p e below _ (T11.setTop (mkF m 214 _ [(.int (EX qq ny)), (.int (((ft2 ((1 : Int32)).toNatClampNeg).toInt32) &&& (1073741823 : Int32)))]))
      have hc214 : (((ft2 ((1 : Int32)).toNatClampNeg).toInt32) &&& (1073741823 : Int32)) = (EX qq ny) := by have q := H2; rw [HM, if_pos hq1] at q; exact q
      refine gs.icmpNo X11.here hx (hb hby at_214) (teq hc214).2 ?_
      refine gs.iconst 1 X11.here hx (hb hby at_217) rfl ?_
      refine gs.goto 222 X11.here hx (hb hby at_218) rfl ?_
      refine GoW.retZ X11 S0 (by rw [e11]; exact hk0) hx (t := .boolean) hret (by simp) hlk (hb hby at_222) (by rw [e11]; exact (hQ _ _ N11)) (by decide) (by decide)
    case neg =>
      refine gs.virt 0 X9 hx hZ hown (am29_3 l Z a0 hw [] u_1 aw0 u_0 kaw0 HW (ad3) (ad4) (kc1) (ft2) h1 n0 Ol HF_ad3_Domains_trail HG_ad4 hq1 (by decide)) (wd hw 216 rfl) (wd hw 104 rfl) (wd hw 212 rfl) (wd hw 213 rfl) (notFace_of_selects (args := #[]) (mvT hZ (wd hw 215 rfl))) (wd hw 215 rfl) (wd hw 214 rfl) (by decide) HE_ad3 (by decide) (by decide) (by rw [hml]; rfl) [(.int (1 : Int32))] (lenOf pd_17 rfl) rfl (Nat.le_of_eq rfl) (hb hby at_204) rfl e9 (by decide) (by decide) fun T12 Lc12 v12 X12 hQ12 => ?_
      obtain ⟨rfl, Nq12, e12⟩ := hQ12
      have N12 := Fr.app N9 Nq12
      show Go p e below _ (T12.setTop (mkF m 207 _ [(.int (-1 : Int32))]))
      refine gs.iload X12.here hx (hb hby at_207) rfl ?_
      refine gs.iload X12.here hx (hb hby at_209) rfl ?_
      refine gs.stat 1 X12 hx hZ hown (rm30 l Z a0 hw [] u_1 aw0 u_0 kaw0 HW qq ny (EX qq ny) h1 n0 Ol rfl) (wd hw 221 rfl) (wd hw 220 rfl) (wd hw 218 rfl) (wd hw 219 rfl) (by decide) (by decide) (by decide) (by rw [hml]; rfl) [(.int qq), (.int ny)] (lenOf pd_4 rfl) rfl (Nat.le_of_eq rfl) (hb hby at_211) rfl e12 (by decide) (by decide) fun T13 Lc13 v13 X13 hQ13 => ?_
      obtain ⟨rfl, Nq13, e13⟩ := hQ13
      have N13 := Fr.app N12 Nq13
      show Go p e below _ (T13.setTop (mkF m 214 _ [(.int (EX qq ny)), (.int (-1 : Int32))]))
      have hc214 : (-1 : Int32) = (EX qq ny) := by have q := H2; rw [HM, if_neg hq1] at q; exact q
      refine gs.icmpNo X13.here hx (hb hby at_214) (teq hc214).2 ?_
      refine gs.iconst 1 X13.here hx (hb hby at_217) rfl ?_
      refine gs.goto 222 X13.here hx (hb hby at_218) rfl ?_
      refine GoW.retZ X13 S0 (by rw [e13]; exact hk0) hx (t := .boolean) hret (by simp) hlk (hb hby at_222) (by rw [e13]; exact (hQ _ _ N13)) (by decide) (by decide)
set_option maxRecDepth 65536 in
set_option maxHeartbeats 40000000 in
theorem sg3 {p : Program} {l : Launch} {e : Env} {s : State} {m : MethodId} {args : Array Value} {below : List Frame} {meth : Method} {c : Code} {Z : State} {a0 : Array Value} (hw : ∀ d ∈ tables_1, d.before a0 Z = true) (u_1 : Addr) (aw0 : Addr) (u_0 : ClassId) (kaw0 : ClassId) (HW : Wd Z u_1 aw0 u_0 kaw0) {h0 : Heap} {n0 : Nat} (hx : p.tables.exec = Jvm.exec) (hby : c.code = code) (hml : c.maxLocals = 17) (hret : meth.sig.returnType = some .boolean) (hlk : meth.locks = false) {vm0 : Vm} {k0 : Nat} {T0 : State} {locs : List Loc} {h1 : Heap} (X0 : Stand p l e room_1 (s.setVm vm0) m args below meth c T0 locs 18 1151) (S0 : s.Since vm0 k0) (hk0 : k0 ≤ h1.size) (hZ : Z.Warmed39 (s.setVm vm0).vm) (hown : (s.setVm vm0).vm.findClass "com/example/monarc/monarc/DomainsHoleMadeAtPinLaw" = some m.cls) (e0 : T0.heap = h1) (N0 : Fr n0 locs) (kp0 : Keep h0 h1 []) (Ol : Old Z n0 h1) {Q : Option Value → Heap → List Loc → Prop} (hQ : ∀ h L, Fr n0 L → Q (some (.int 1)) h L) (ad2 : Addr) (lf0 : Int32) (lf1 : Int32) (lf2 : Int32) (lf3 : Int32) (lf4 : Int32) (lf5 : Int32) (lf6 : Int32) (lf7 : Int32) (lf8 : Int32) (ld9 : Addr) (ad3 : Addr) (lf11 : Int32) (yy : Int32) (nx : Int32) (ny : Int32) (pp : Int32) (qq : Int32) (ad4 : Addr) (ad5 : Addr) (ad6 : Addr) (ad7 : Addr) (ad8 : Addr) (ad9 : Addr) (w1 : Int32) (t1 : Int32) (kc1 : ClassId) (fs1 : Nat → Int32) (kc2 : ClassId) (fu1 : Nat → Int32) (kc3 : ClassId) (fl1 : Nat → Int32) (kc4 : ClassId) (fh1 : Nat → Value) (kc5 : ClassId) (fa : Nat → Addr) (kc6 : ClassId) (ft1 : Nat → Int64) (ux : Int32) (uy : Int32) (xx : Int32) (HE_ad2 : Exa Z h1 ad2 "com/example/monarc/monarc/InitialDomain") (HF_ad2_InitialDomain_size : Fld Z h1 ad2 "com/example/monarc/monarc/InitialDomain" "size" "I" (.int ny)) (HE_ad3 : Exa Z h1 ad3 "com/example/monarc/monarc/Domains") (HF_ad3_Domains_trail : Fld Z h1 ad3 "com/example/monarc/monarc/Domains" "trail" "[J" (.ref ad4)) (HF_ad3_Domains_initial : Fld Z h1 ad3 "com/example/monarc/monarc/Domains" "initial" "[Lcom/example/monarc/monarc/InitialDomain;" (.ref ad5)) (HF_ad3_Domains_lower : Fld Z h1 ad3 "com/example/monarc/monarc/Domains" "lower" "[I" (.ref ad6)) (HF_ad3_Domains_upper : Fld Z h1 ad3 "com/example/monarc/monarc/Domains" "upper" "[I" (.ref ad7)) (HF_ad3_Domains_holes : Fld Z h1 ad3 "com/example/monarc/monarc/Domains" "holes" "[[J" (.ref ad8)) (HF_ad3_Domains_sizes : Fld Z h1 ad3 "com/example/monarc/monarc/Domains" "sizes" "[I" (.ref ad9)) (HF_ad3_Domains_withOneValue : Fld Z h1 ad3 "com/example/monarc/monarc/Domains" "withOneValue" "I" (.int w1)) (HF_ad3_Domains_trailSize : Fld Z h1 ad3 "com/example/monarc/monarc/Domains" "trailSize" "I" (.int t1)) (HF_ad3_Domains_resized : Fld Z h1 ad3 "com/example/monarc/monarc/Domains" "resized" "Ljava/util/function/IntConsumer;" .null) (HE_ad8 : Exa Z h1 ad8 "[[J") (HE_ad4 : Exa Z h1 ad4 "[J") (HG_ad9 : Ari Z h1 ad9 kc1 (2 : Int32) fs1) (HG_ad7 : Ari Z h1 ad7 kc2 (2 : Int32) fu1) (HG_ad6 : Ari Z h1 ad6 kc3 (2 : Int32) fl1) (HG_ad8 : Arw Z h1 ad8 kc4 (.array .long) (2 : Int32) fh1) (HG_ad5 : Ara Z h1 ad5 kc5 (.object "com/example/monarc/monarc/InitialDomain") (2 : Int32) fa) (HG_ad4 : Arf Z h1 ad4 kc6 (1024 : Int32) ft1) (nn_ad3 : n0 ≤ ad3) (nn_ad4 : n0 ≤ ad4) (nn_ad6 : n0 ≤ ad6) (nn_ad7 : n0 ≤ ad7) (nn_ad8 : n0 ≤ ad8) (nn_ad9 : n0 ≤ ad9) (sz_ad3 : h0.size ≤ ad3) (sz_ad4 : h0.size ≤ ad4) (sz_ad6 : h0.size ≤ ad6) (sz_ad7 : h0.size ≤ ad7) (sz_ad8 : h0.size ≤ ad8) (sz_ad9 : h0.size ≤ ad9) (ne_ad3_ad4 : ad3 ≠ ad4) (ne_ad3_ad6 : ad3 ≠ ad6) (ne_ad3_ad7 : ad3 ≠ ad7) (ne_ad3_ad8 : ad3 ≠ ad8) (ne_ad3_ad9 : ad3 ≠ ad9) (ne_ad4_ad6 : ad4 ≠ ad6) (ne_ad4_ad7 : ad4 ≠ ad7) (ne_ad4_ad8 : ad4 ≠ ad8) (ne_ad4_ad9 : ad4 ≠ ad9) (ne_ad6_ad9 : ad6 ≠ ad9) (ne_ad7_ad9 : ad7 ≠ ad9) (ne_ad8_ad9 : ad8 ≠ ad9) (hb_xx : 0 ≤ xx.toInt ∧ xx.toInt < 2) (hb_yy : yy.toInt = 1 - xx.toInt) (hb_nx : 1 ≤ nx.toInt ∧ nx.toInt ≤ 1048576) (hb_ny : 1 ≤ ny.toInt ∧ ny.toInt ≤ 1048576) (hb_ux : ux.toInt = nx.toInt - 1) (hb_uy : uy.toInt = ny.toInt - 1) (hd_ux : ux = (nx - (1 : Int32))) (hd_uy : uy = (ny - (1 : Int32))) (hb_pp : 0 ≤ pp.toInt ∧ pp.toInt < nx.toInt) (hb_qq : 0 ≤ qq.toInt ∧ qq.toInt < ny.toInt) (hf_uy1 : (fu1 (yy).toNatClampNeg) = uy) (hf_ly1 : (fl1 (yy).toNatClampNeg) = (0 : Int32)) (hf_hy1 : (fh1 (yy).toNatClampNeg) = .null) (hf_ay : (fa (yy).toNatClampNeg) = ad2) (ht1 : t1 = (1 : Int32)) (H1 : HM (ft1 ((0 : Int32)).toNatClampNeg) = EX pp nx) (hO_ad8 : OvrA Z kc4 .long "[J") (hO_ad5 : Ovr Z kc5 "com/example/monarc/monarc/InitialDomain") :
    Go p e below (Fin2 s below Q room_1.cells room_1.slots) (T0.setTop (mkF m 165 #[.val (.int lf0), .val (.int lf1), .val (.int lf2), .val (.int lf3), .val (.int lf4), .val (.int lf5), .val (.int lf6), .val (.int lf7), .val (.int lf8), .val (.ref ld9), .val (.ref ad3), .val (.int lf11), .val (.int yy), .val (.int nx), .val (.int ny), .val (.int pp), .val (.int qq)] [])) := by
  obtain ⟨Eu_1, Su_1, Eaw0, Saw0, Au_1, Aaw0⟩ := id HW
  show Go p e below _ (T0.setTop (mkF m 165 #[.val (.int lf0), .val (.int lf1), .val (.int lf2), .val (.int lf3), .val (.int lf4), .val (.int lf5), .val (.int lf6), .val (.int lf7), .val (.int lf8), .val (.ref ld9), .val (.ref ad3), .val (.int lf11), .val (.int yy), .val (.int nx), .val (.int ny), .val (.int pp), .val (.int qq)] []))
  refine gs.aload X0.here hx (hb hby at_165) rfl rfl ?_
  refine gs.iload X0.here hx (hb hby at_167) rfl ?_
  refine gs.iload X0.here hx (hb hby at_169) rfl ?_
  by_cases hp0 : qq = (0 : Int32)
  case pos =>
    by_cases hpu : uy < (qq + (1 : Int32))
    case pos =>
      refine gs.virt 0 X0 hx hZ hown (am22_1 l Z a0 hw [] u_1 aw0 u_0 kaw0 HW (ad3) (yy) (qq) (ad4) (ad5) (ad6) (ad7) (ad8) (ad9) (w1) (t1) (kc1) (fs1) (kc2) (fu1) (kc3) (fl1) (kc4) (fh1) (kc6) (ft1) (uy) h1 n0 Ol HE_ad3 HF_ad3_Domains_trail HF_ad3_Domains_initial HF_ad3_Domains_lower HF_ad3_Domains_upper HF_ad3_Domains_holes HF_ad3_Domains_sizes HF_ad3_Domains_withOneValue HF_ad3_Domains_trailSize HF_ad3_Domains_resized HE_ad4 HG_ad9 HG_ad7 HG_ad6 HG_ad8 HG_ad4 nn_ad3 nn_ad4 nn_ad6 nn_ad9 ne_ad3_ad4 ne_ad3_ad6 ne_ad3_ad9 ne_ad4_ad6 ne_ad4_ad9 ne_ad6_ad9 (by have o2 : (2 : Int32).toInt = 2 := rfl; omega) (by rw [ht1]; decide) hpu hp0 (by rw [ht1]; decide) hf_uy1 hf_ly1 hf_hy1 hO_ad8) (wd hw 179 rfl) (wd hw 104 rfl) (wd hw 175 rfl) (wd hw 176 rfl) (notFace_of_selects (args := #[]) (mvT hZ (wd hw 178 rfl))) (wd hw 178 rfl) (wd hw 177 rfl) (by decide) HE_ad3 (by decide) (by decide) (by rw [hml]; rfl) [(.int yy), (.int qq)] (lenOf pd_15 rfl) rfl (Nat.le_of_eq rfl) (hb hby at_171) rfl e0 (by decide) (by decide) fun T1 Lc1 v1 X1 hQ1 => ?_
      obtain ⟨ex1_0, rfl, Nq1, K1, p1_0, p1_1, p1_2, p1_3, p1_4, p1_5, p1_6, p1_7, p1_8, p1_9, p1_10, p1_11, p1_12, p1_13⟩ := hQ1
      have old1 := Ol.keep K1 (allS nn_ad3 (allS nn_ad4 (allS nn_ad6 (allS nn_ad9 all0))))
      have hk1 := Nat.le_trans hk0 K1.1
      have kp1 := kp0.trans K1 (allS (Or.inr sz_ad3) (allS (Or.inr sz_ad4) (allS (Or.inr sz_ad6) (allS (Or.inr sz_ad9) all0))))
      have N1 := Fr.app N0 Nq1
      show Go p e below _ (T1.setTop (mkF m 174 _ []))
      obtain ⟨ft2, hd_ft2⟩ : ∃ z, z = (fun i => if i = (t1).toNatClampNeg then ((((yy.toInt64) <<< ((32 : Int32) &&& 0x3f).toInt64) ||| ((1 : Int64) <<< ((30 : Int32) &&& 0x3f).toInt64)) ||| (0 : Int64)) else ft1 i) := ⟨_, rfl⟩
      have v2_ : Arf Z T1.heap ad4 kc6 (1024 : Int32) ft2 := by rw [hd_ft2]; exact p1_11
      obtain ⟨t2, hd_t2⟩ : ∃ z, z = (t1 + (1 : Int32)) := ⟨_, rfl⟩
      have v3_ : Fld Z T1.heap ad3 "com/example/monarc/monarc/Domains" "trailSize" "I" (.int t2) := by rw [hd_t2]; exact p1_7
      have ht2 : t2 = (2 : Int32) := by rw [hd_t2, ht1]; decide
      have H1b : HM (ft2 ((0 : Int32)).toNatClampNeg) = EX pp nx := by rw [hd_ft2, ht1]; exact (congrArg HM (if_neg (by decide))).trans H1
      have H2 : HM (ft2 ((1 : Int32)).toNatClampNeg) = EX qq ny := by rw [hd_ft2, ht1]; simp only [if_true]; exact (hm_low yy).trans (if_pos hp0).symm
      clear H1
      have H1 := H1b
      exact sg1 hw u_1 aw0 u_0 kaw0 HW hx hby hml hret hlk (vm0 := vm0) X1 S0 hk1 hZ hown rfl N1 kp1 old1 hQ lf0 lf1 lf2 lf3 lf4 lf5 lf6 lf7 lf8 ld9 ad3 lf11 yy nx ny pp qq ad4 t2 kc6 ft2 p1_0 p1_6 v3_ v2_ ht2 H1 H2
    case neg =>
      refine gs.virt 0 X0 hx hZ hown (am22_2 l Z a0 hw [] u_1 aw0 u_0 kaw0 HW (ad3) (yy) (qq) (ad4) (ad5) (ad6) (ad7) (ad8) (ad9) (w1) (t1) (kc1) (fs1) (kc2) (fu1) (kc3) (fl1) (kc4) (fh1) (kc6) (ft1) (uy) h1 n0 Ol HE_ad3 HF_ad3_Domains_trail HF_ad3_Domains_initial HF_ad3_Domains_lower HF_ad3_Domains_upper HF_ad3_Domains_holes HF_ad3_Domains_sizes HF_ad3_Domains_withOneValue HF_ad3_Domains_trailSize HF_ad3_Domains_resized HE_ad4 HG_ad9 HG_ad7 HG_ad6 HG_ad8 HG_ad4 nn_ad3 nn_ad4 nn_ad6 nn_ad9 ne_ad3_ad4 ne_ad3_ad6 ne_ad3_ad9 ne_ad4_ad6 ne_ad4_ad9 ne_ad6_ad9 (by have o2 : (2 : Int32).toInt = 2 := rfl; omega) (by rw [ht1]; decide) hpu hp0 (by rw [ht1]; decide) hf_uy1 hf_ly1 hf_hy1 hO_ad8) (wd hw 179 rfl) (wd hw 104 rfl) (wd hw 175 rfl) (wd hw 176 rfl) (notFace_of_selects (args := #[]) (mvT hZ (wd hw 178 rfl))) (wd hw 178 rfl) (wd hw 177 rfl) (by decide) HE_ad3 (by decide) (by decide) (by rw [hml]; rfl) [(.int yy), (.int qq)] (lenOf pd_15 rfl) rfl (Nat.le_of_eq rfl) (hb hby at_171) rfl e0 (by decide) (by decide) fun T4 Lc4 v4 X4 hQ4 => ?_
      obtain ⟨ex4_0, rfl, Nq4, K4, p4_0, p4_1, p4_2, p4_3, p4_4, p4_5, p4_6, p4_7, p4_8, p4_9, p4_10, p4_11, p4_12, p4_13⟩ := hQ4
      have old4 := Ol.keep K4 (allS nn_ad3 (allS nn_ad4 (allS nn_ad6 (allS nn_ad9 all0))))
      have hk4 := Nat.le_trans hk0 K4.1
      have kp4 := kp0.trans K4 (allS (Or.inr sz_ad3) (allS (Or.inr sz_ad4) (allS (Or.inr sz_ad6) (allS (Or.inr sz_ad9) all0))))
      have N4 := Fr.app N0 Nq4
      show Go p e below _ (T4.setTop (mkF m 174 _ []))
      obtain ⟨ft2, hd_ft2⟩ : ∃ z, z = (fun i => if i = (t1).toNatClampNeg then ((((yy.toInt64) <<< ((32 : Int32) &&& 0x3f).toInt64) ||| ((1 : Int64) <<< ((30 : Int32) &&& 0x3f).toInt64)) ||| (0 : Int64)) else ft1 i) := ⟨_, rfl⟩
      have v5_ : Arf Z T4.heap ad4 kc6 (1024 : Int32) ft2 := by rw [hd_ft2]; exact p4_11
      obtain ⟨t2, hd_t2⟩ : ∃ z, z = (t1 + (1 : Int32)) := ⟨_, rfl⟩
      have v6_ : Fld Z T4.heap ad3 "com/example/monarc/monarc/Domains" "trailSize" "I" (.int t2) := by rw [hd_t2]; exact p4_7
      have ht2 : t2 = (2 : Int32) := by rw [hd_t2, ht1]; decide
      have H1b : HM (ft2 ((0 : Int32)).toNatClampNeg) = EX pp nx := by rw [hd_ft2, ht1]; exact (congrArg HM (if_neg (by decide))).trans H1
      have H2 : HM (ft2 ((1 : Int32)).toNatClampNeg) = EX qq ny := by rw [hd_ft2, ht1]; simp only [if_true]; exact (hm_low yy).trans (if_pos hp0).symm
      clear H1
      have H1 := H1b
      exact sg1 hw u_1 aw0 u_0 kaw0 HW hx hby hml hret hlk (vm0 := vm0) X4 S0 hk4 hZ hown rfl N4 kp4 old4 hQ lf0 lf1 lf2 lf3 lf4 lf5 lf6 lf7 lf8 ld9 ad3 lf11 yy nx ny pp qq ad4 t2 kc6 ft2 p4_0 p4_6 v6_ v5_ ht2 H1 H2
  case neg =>
    by_cases hpe : qq = uy
    case pos =>
      refine gs.virt 0 X0 hx hZ hown (am22_3 l Z a0 hw [] u_1 aw0 u_0 kaw0 HW (ad3) (yy) (qq) (ad4) (ad5) (ad6) (ad7) (ad8) (ad9) (w1) (t1) (kc1) (fs1) (kc2) (fu1) (kc3) (fl1) (kc4) (fh1) (kc6) (ft1) (uy) h1 n0 Ol HE_ad3 HF_ad3_Domains_trail HF_ad3_Domains_initial HF_ad3_Domains_lower HF_ad3_Domains_upper HF_ad3_Domains_holes HF_ad3_Domains_sizes HF_ad3_Domains_withOneValue HF_ad3_Domains_trailSize HF_ad3_Domains_resized HE_ad4 HG_ad9 HG_ad7 HG_ad6 HG_ad8 HG_ad4 nn_ad3 nn_ad4 nn_ad7 nn_ad9 ne_ad3_ad4 ne_ad3_ad7 ne_ad3_ad9 ne_ad4_ad7 ne_ad4_ad9 ne_ad7_ad9 (i_nlt (by have o0 : (0 : Int32).toInt = 0 := rfl; have o1 : (1 : Int32).toInt = 1 := rfl; have q : ¬ qq.toInt = (0 : Int32).toInt := fun y => hp0 (Int32.toInt_inj.mp y); rw [Jvm.Kit.i32_sub (by omega) (by omega)]; omega)) (by have o2 : (2 : Int32).toInt = 2 := rfl; omega) (by rw [ht1]; decide) hp0 hpe (by rw [ht1]; decide) hf_uy1 hf_ly1 hf_hy1 hO_ad8) (wd hw 179 rfl) (wd hw 104 rfl) (wd hw 175 rfl) (wd hw 176 rfl) (notFace_of_selects (args := #[]) (mvT hZ (wd hw 178 rfl))) (wd hw 178 rfl) (wd hw 177 rfl) (by decide) HE_ad3 (by decide) (by decide) (by rw [hml]; rfl) [(.int yy), (.int qq)] (lenOf pd_15 rfl) rfl (Nat.le_of_eq rfl) (hb hby at_171) rfl e0 (by decide) (by decide) fun T7 Lc7 v7 X7 hQ7 => ?_
      obtain ⟨ex7_0, rfl, Nq7, K7, p7_0, p7_1, p7_2, p7_3, p7_4, p7_5, p7_6, p7_7, p7_8, p7_9, p7_10, p7_11, p7_12, p7_13⟩ := hQ7
      have old7 := Ol.keep K7 (allS nn_ad3 (allS nn_ad4 (allS nn_ad7 (allS nn_ad9 all0))))
      have hk7 := Nat.le_trans hk0 K7.1
      have kp7 := kp0.trans K7 (allS (Or.inr sz_ad3) (allS (Or.inr sz_ad4) (allS (Or.inr sz_ad7) (allS (Or.inr sz_ad9) all0))))
      have N7 := Fr.app N0 Nq7
      show Go p e below _ (T7.setTop (mkF m 174 _ []))
      obtain ⟨ft2, hd_ft2⟩ : ∃ z, z = (fun i => if i = (t1).toNatClampNeg then ((((yy.toInt64) <<< ((32 : Int32) &&& 0x3f).toInt64) ||| ((2 : Int64) <<< ((30 : Int32) &&& 0x3f).toInt64)) ||| (uy.toInt64)) else ft1 i) := ⟨_, rfl⟩
      have v8_ : Arf Z T7.heap ad4 kc6 (1024 : Int32) ft2 := by rw [hd_ft2]; exact p7_11
      obtain ⟨t2, hd_t2⟩ : ∃ z, z = (t1 + (1 : Int32)) := ⟨_, rfl⟩
      have v9_ : Fld Z T7.heap ad3 "com/example/monarc/monarc/Domains" "trailSize" "I" (.int t2) := by rw [hd_t2]; exact p7_7
      have ht2 : t2 = (2 : Int32) := by rw [hd_t2, ht1]; decide
      have H1b : HM (ft2 ((0 : Int32)).toNatClampNeg) = EX pp nx := by rw [hd_ft2, ht1]; exact (congrArg HM (if_neg (by decide))).trans H1
      have H2 : HM (ft2 ((1 : Int32)).toNatClampNeg) = EX qq ny := by rw [hd_ft2, ht1]; simp only [if_true]; exact (hm_upp yy (by omega)).trans ((if_neg hp0).trans (if_pos (hpe.trans hd_uy))).symm
      clear H1
      have H1 := H1b
      exact sg1 hw u_1 aw0 u_0 kaw0 HW hx hby hml hret hlk (vm0 := vm0) X7 S0 hk7 hZ hown rfl N7 kp7 old7 hQ lf0 lf1 lf2 lf3 lf4 lf5 lf6 lf7 lf8 ld9 ad3 lf11 yy nx ny pp qq ad4 t2 kc6 ft2 p7_0 p7_6 v9_ v8_ ht2 H1 H2
    case neg =>
      obtain ⟨wx, hd_wx⟩ : ∃ z, z = (((ny + (63 : Int32)).toUInt32 >>> ((6 : Int32) &&& 31).toUInt32).toInt32) := ⟨_, rfl⟩
      have hb_wx : wx.toInt = (ny.toInt + 63) / 64 := by rw [hd_wx]; exact wn_ hb_ny
      have hb_ip := ix_ (x := qq) hb_qq.1
      refine gs.virt 0 X0 hx hZ hown (am22_4 l Z a0 hw [] u_1 aw0 u_0 kaw0 HW (ad3) (yy) (qq) (ad2) (ny) (ad4) (ad5) (ad6) (ad7) (ad8) (ad9) (w1) (t1) (kc1) (fs1) (kc2) (fu1) (kc3) (fl1) (kc4) (fh1) (kc5) (fa) (kc6) (ft1) (uy) (wx) h1 n0 Ol HE_ad2 HF_ad2_InitialDomain_size HE_ad3 HF_ad3_Domains_trail HF_ad3_Domains_initial HF_ad3_Domains_lower HF_ad3_Domains_upper HF_ad3_Domains_holes HF_ad3_Domains_sizes HF_ad3_Domains_withOneValue HF_ad3_Domains_trailSize HF_ad3_Domains_resized HE_ad8 HE_ad4 HG_ad9 HG_ad7 HG_ad6 HG_ad8 HG_ad5 HG_ad4 nn_ad3 nn_ad4 nn_ad8 nn_ad9 ne_ad3_ad4 ne_ad3_ad8 ne_ad3_ad9 ne_ad4_ad8 ne_ad4_ad9 ne_ad8_ad9 (by rw [Int32.toNatClampNeg]; omega) (by omega) (by have o2 : (2 : Int32).toInt = 2 := rfl; omega) (by rw [ht1]; decide) (i_nlt (by have o0 : (0 : Int32).toInt = 0 := rfl; omega)) hp0 hpe (by rw [ht1]; decide) hd_wx.symm hf_uy1 hf_ly1 hf_hy1 hf_ay hO_ad8 hO_ad5) (wd hw 179 rfl) (wd hw 104 rfl) (wd hw 175 rfl) (wd hw 176 rfl) (notFace_of_selects (args := #[]) (mvT hZ (wd hw 178 rfl))) (wd hw 178 rfl) (wd hw 177 rfl) (by decide) HE_ad3 (by decide) (by decide) (by rw [hml]; rfl) [(.int yy), (.int qq)] (lenOf pd_15 rfl) rfl (Nat.le_of_eq rfl) (hb hby at_171) rfl e0 (by decide) (by decide) fun T10 Lc10 v10 X10 hQ10 => ?_
      obtain ⟨b10_0, kx10_0, ex10_0, ex10_1, rfl, gb_b10_0, Nq10, K10, p10_0, p10_1, p10_2, p10_3, p10_4, p10_5, p10_6, p10_7, p10_8, p10_9, p10_10, p10_11, p10_12, p10_13, p10_14, p10_15, p10_16⟩ := hQ10
      have nn_b10_0 : n0 ≤ b10_0 := Nat.le_trans (old_z0 Ol) gb_b10_0
      have sz_b10_0 : h0.size ≤ b10_0 := Nat.le_trans kp0.1 gb_b10_0
      have old10 := Ol.keep K10 (allS nn_ad3 (allS nn_ad4 (allS nn_ad8 (allS nn_ad9 all0))))
      have hk10 := Nat.le_trans hk0 K10.1
      have kp10 := kp0.trans K10 (allS (Or.inr sz_ad3) (allS (Or.inr sz_ad4) (allS (Or.inr sz_ad8) (allS (Or.inr sz_ad9) all0))))
      have N10 := Fr.app N0 Nq10
      show Go p e below _ (T10.setTop (mkF m 174 _ []))
      obtain ⟨ft2, hd_ft2⟩ : ∃ z, z = (fun i => if i = (t1).toNatClampNeg then ((((yy.toInt64) <<< ((32 : Int32) &&& 0x3f).toInt64) ||| ((0 : Int64) <<< ((30 : Int32) &&& 0x3f).toInt64)) ||| (qq.toInt64)) else ft1 i) := ⟨_, rfl⟩
      have v11_ : Arf Z T10.heap ad4 kc6 (1024 : Int32) ft2 := by rw [hd_ft2]; exact p10_11
      obtain ⟨t2, hd_t2⟩ : ∃ z, z = (t1 + (1 : Int32)) := ⟨_, rfl⟩
      have v12_ : Fld Z T10.heap ad3 "com/example/monarc/monarc/Domains" "trailSize" "I" (.int t2) := by rw [hd_t2]; exact p10_7
      have ht2 : t2 = (2 : Int32) := by rw [hd_t2, ht1]; decide
      have H1b : HM (ft2 ((0 : Int32)).toNatClampNeg) = EX pp nx := by rw [hd_ft2, ht1]; exact (congrArg HM (if_neg (by decide))).trans H1
      have H2 : HM (ft2 ((1 : Int32)).toNatClampNeg) = EX qq ny := by rw [hd_ft2, ht1]; simp only [if_true]; exact (hm_hole yy (by omega)).trans ((if_neg hp0).trans (if_neg (fun q => hpe (q.trans hd_uy.symm)))).symm
      clear H1
      have H1 := H1b
      exact sg2 hw u_1 aw0 u_0 kaw0 HW hx hby hml hret hlk (vm0 := vm0) X10 S0 hk10 hZ hown rfl N10 kp10 old10 hQ lf0 lf1 lf2 lf3 lf4 lf5 lf6 lf7 lf8 ld9 ad3 lf11 yy nx ny pp qq ad4 t2 kc6 ft2 p10_0 p10_6 v12_ v11_ ht2 H1 H2
set_option maxRecDepth 65536 in
set_option maxHeartbeats 40000000 in
theorem sg4 {p : Program} {l : Launch} {e : Env} {s : State} {m : MethodId} {args : Array Value} {below : List Frame} {meth : Method} {c : Code} {Z : State} {a0 : Array Value} (hw : ∀ d ∈ tables_1, d.before a0 Z = true) (u_1 : Addr) (aw0 : Addr) (u_0 : ClassId) (kaw0 : ClassId) (HW : Wd Z u_1 aw0 u_0 kaw0) {h0 : Heap} {n0 : Nat} (hx : p.tables.exec = Jvm.exec) (hby : c.code = code) (hml : c.maxLocals = 17) (hret : meth.sig.returnType = some .boolean) (hlk : meth.locks = false) {vm0 : Vm} {k0 : Nat} {T0 : State} {locs : List Loc} {h1 : Heap} (X0 : Stand p l e room_1 (s.setVm vm0) m args below meth c T0 locs 20 33919) (S0 : s.Since vm0 k0) (hk0 : k0 ≤ h1.size) (hZ : Z.Warmed39 (s.setVm vm0).vm) (hown : (s.setVm vm0).vm.findClass "com/example/monarc/monarc/DomainsHoleMadeAtPinLaw" = some m.cls) (e0 : T0.heap = h1) (N0 : Fr n0 locs) (kp0 : Keep h0 h1 []) (Ol : Old Z n0 h1) {Q : Option Value → Heap → List Loc → Prop} (hQ : ∀ h L, Fr n0 L → Q (some (.int 1)) h L) (lf0 : Int32) (lf1 : Int32) (lf2 : Int32) (lf3 : Int32) (lf4 : Int32) (lf5 : Int32) (lf6 : Int32) (lf7 : Int32) (lf8 : Int32) (ld9 : Addr) (ad3 : Addr) (lf11 : Int32) (lf12 : Int32) (nx : Int32) (ny : Int32) (pp : Int32) (qq : Int32) (ad4 : Addr) (t2 : Int32) (kc1 : ClassId) (ft2 : Nat → Int64) (HE_ad3 : Exa Z h1 ad3 "com/example/monarc/monarc/Domains") (HF_ad3_Domains_trail : Fld Z h1 ad3 "com/example/monarc/monarc/Domains" "trail" "[J" (.ref ad4)) (HF_ad3_Domains_trailSize : Fld Z h1 ad3 "com/example/monarc/monarc/Domains" "trailSize" "I" (.int t2)) (HG_ad4 : Arf Z h1 ad4 kc1 (1024 : Int32) ft2) (ht2 : t2 = (2 : Int32)) (H1 : HM (ft2 ((0 : Int32)).toNatClampNeg) = EX pp nx) (H2 : HM (ft2 ((1 : Int32)).toNatClampNeg) = EX qq ny) :
    Go p e below (Fin2 s below Q room_1.cells room_1.slots) (T0.setTop (mkF m 174 #[.val (.int lf0), .val (.int lf1), .val (.int lf2), .val (.int lf3), .val (.int lf4), .val (.int lf5), .val (.int lf6), .val (.int lf7), .val (.int lf8), .val (.ref ld9), .val (.ref ad3), .val (.int lf11), .val (.int lf12), .val (.int nx), .val (.int ny), .val (.int pp), .val (.int qq)] [])) := by
  obtain ⟨Eu_1, Su_1, Eaw0, Saw0, Au_1, Aaw0⟩ := id HW
  show Go p e below _ (T0.setTop (mkF m 174 #[.val (.int lf0), .val (.int lf1), .val (.int lf2), .val (.int lf3), .val (.int lf4), .val (.int lf5), .val (.int lf6), .val (.int lf7), .val (.int lf8), .val (.ref ld9), .val (.ref ad3), .val (.int lf11), .val (.int lf12), .val (.int nx), .val (.int ny), .val (.int pp), .val (.int qq)] []))
  refine gs.aload X0.here hx (hb hby at_174) rfl rfl ?_
  refine gs.virt 0 X0 hx hZ hown (am28_1 l Z a0 hw [] u_1 aw0 u_0 kaw0 HW (ad3) (t2) h1 n0 Ol HF_ad3_Domains_trailSize) (wd hw 211 rfl) (wd hw 104 rfl) (wd hw 207 rfl) (wd hw 208 rfl) (notFace_of_selects (args := #[]) (mvT hZ (wd hw 210 rfl))) (wd hw 210 rfl) (wd hw 209 rfl) (by decide) HE_ad3 (by decide) (by decide) (by rw [hml]; rfl) [] (lenOf pd_9 rfl) rfl (Nat.le_of_eq rfl) (hb hby at_176) rfl e0 (by decide) (by decide) fun T1 Lc1 v1 X1 hQ1 => ?_
  obtain ⟨rfl, Nq1, e1⟩ := hQ1
  have N1 := Fr.app N0 Nq1
  show Go p e below _ (T1.setTop (mkF m 179 _ [(.int t2)]))
  refine gs.iconst 2 X1.here hx (hb hby at_179) rfl ?_
  have hc180 : t2 = (2 : Int32) := ht2
  refine gs.icmpYes 185 X1.here hx (hb hby at_180) (teq hc180).1 rfl ?_
  refine gs.aload X1.here hx (hb hby at_185) rfl rfl ?_
  refine gs.iconst 0 X1.here hx (hb hby at_187) rfl ?_
  by_cases hq0 : (((((ft2 ((0 : Int32)).toNatClampNeg).toUInt64 >>> ((30 : Int32) &&& 0x3f).toInt64.toUInt64).toInt64).toInt32) &&& (3 : Int32)) = (0 : Int32)
  case pos =>
    refine gs.virt 0 X1 hx hZ hown (am29_1 l Z a0 hw [] u_1 aw0 u_0 kaw0 HW (ad3) (ad4) (kc1) (ft2) h1 n0 Ol HF_ad3_Domains_trail HG_ad4 hq0 (by decide)) (wd hw 216 rfl) (wd hw 104 rfl) (wd hw 212 rfl) (wd hw 213 rfl) (notFace_of_selects (args := #[]) (mvT hZ (wd hw 215 rfl))) (wd hw 215 rfl) (wd hw 214 rfl) (by decide) HE_ad3 (by decide) (by decide) (by rw [hml]; rfl) [(.int (0 : Int32))] (lenOf pd_17 rfl) rfl (Nat.le_of_eq rfl) (hb hby at_188) rfl e1 (by decide) (by decide) fun T2 Lc2 v2 X2 hQ2 => ?_
    obtain ⟨rfl, Nq2, e2⟩ := hQ2
    have N2 := Fr.app N1 Nq2
    show Go p e below _ (T2.setTop (mkF m 191 _ [(.int (((ft2 ((0 : Int32)).toNatClampNeg).toInt32) &&& (1073741823 : Int32)))]))
    refine gs.iload X2.here hx (hb hby at_191) rfl ?_
    refine gs.iload X2.here hx (hb hby at_193) rfl ?_
    refine gs.stat 1 X2 hx hZ hown (rm30 l Z a0 hw [] u_1 aw0 u_0 kaw0 HW pp nx (EX pp nx) h1 n0 Ol rfl) (wd hw 221 rfl) (wd hw 220 rfl) (wd hw 218 rfl) (wd hw 219 rfl) (by decide) (by decide) (by decide) (by rw [hml]; rfl) [(.int pp), (.int nx)] (lenOf pd_4 rfl) rfl (Nat.le_of_eq rfl) (hb hby at_195) rfl e2 (by decide) (by decide) fun T3 Lc3 v3 X3 hQ3 => ?_
    obtain ⟨rfl, Nq3, e3⟩ := hQ3
    have N3 := Fr.app N2 Nq3
    show Go p e below _ (T3.setTop (mkF m 198 _ [(.int (EX pp nx)), (.int (((ft2 ((0 : Int32)).toNatClampNeg).toInt32) &&& (1073741823 : Int32)))]))
    have hc198 : (((ft2 ((0 : Int32)).toNatClampNeg).toInt32) &&& (1073741823 : Int32)) = (EX pp nx) := by have q := H1; rw [HM, if_pos hq0] at q; exact q
    refine gs.icmpNo X3.here hx (hb hby at_198) (teq hc198).2 ?_
    refine gs.aload X3.here hx (hb hby at_201) rfl rfl ?_
    refine gs.iconst 1 X3.here hx (hb hby at_203) rfl ?_
    by_cases hq1 : (((((ft2 ((1 : Int32)).toNatClampNeg).toUInt64 >>> ((30 : Int32) &&& 0x3f).toInt64.toUInt64).toInt64).toInt32) &&& (3 : Int32)) = (0 : Int32)
    case pos =>
      refine gs.virt 0 X3 hx hZ hown (am29_2 l Z a0 hw [] u_1 aw0 u_0 kaw0 HW (ad3) (ad4) (kc1) (ft2) h1 n0 Ol HF_ad3_Domains_trail HG_ad4 hq1 (by decide)) (wd hw 216 rfl) (wd hw 104 rfl) (wd hw 212 rfl) (wd hw 213 rfl) (notFace_of_selects (args := #[]) (mvT hZ (wd hw 215 rfl))) (wd hw 215 rfl) (wd hw 214 rfl) (by decide) HE_ad3 (by decide) (by decide) (by rw [hml]; rfl) [(.int (1 : Int32))] (lenOf pd_17 rfl) rfl (Nat.le_of_eq rfl) (hb hby at_204) rfl e3 (by decide) (by decide) fun T4 Lc4 v4 X4 hQ4 => ?_
      obtain ⟨rfl, Nq4, e4⟩ := hQ4
      have N4 := Fr.app N3 Nq4
      show Go p e below _ (T4.setTop (mkF m 207 _ [(.int (((ft2 ((1 : Int32)).toNatClampNeg).toInt32) &&& (1073741823 : Int32)))]))
      refine gs.iload X4.here hx (hb hby at_207) rfl ?_
      refine gs.iload X4.here hx (hb hby at_209) rfl ?_
      refine gs.stat 1 X4 hx hZ hown (rm30 l Z a0 hw [] u_1 aw0 u_0 kaw0 HW qq ny (EX qq ny) h1 n0 Ol rfl) (wd hw 221 rfl) (wd hw 220 rfl) (wd hw 218 rfl) (wd hw 219 rfl) (by decide) (by decide) (by decide) (by rw [hml]; rfl) [(.int qq), (.int ny)] (lenOf pd_4 rfl) rfl (Nat.le_of_eq rfl) (hb hby at_211) rfl e4 (by decide) (by decide) fun T5 Lc5 v5 X5 hQ5 => ?_
      obtain ⟨rfl, Nq5, e5⟩ := hQ5
      have N5 := Fr.app N4 Nq5
      show Go p e below _ (T5.setTop (mkF m 214 _ [(.int (EX qq ny)), (.int (((ft2 ((1 : Int32)).toNatClampNeg).toInt32) &&& (1073741823 : Int32)))]))
      have hc214 : (((ft2 ((1 : Int32)).toNatClampNeg).toInt32) &&& (1073741823 : Int32)) = (EX qq ny) := by have q := H2; rw [HM, if_pos hq1] at q; exact q
      refine gs.icmpNo X5.here hx (hb hby at_214) (teq hc214).2 ?_
      refine gs.iconst 1 X5.here hx (hb hby at_217) rfl ?_
      refine gs.goto 222 X5.here hx (hb hby at_218) rfl ?_
      refine GoW.retZ X5 S0 (by rw [e5]; exact hk0) hx (t := .boolean) hret (by simp) hlk (hb hby at_222) (by rw [e5]; exact (hQ _ _ N5)) (by decide) (by decide)
    case neg =>
      refine gs.virt 0 X3 hx hZ hown (am29_3 l Z a0 hw [] u_1 aw0 u_0 kaw0 HW (ad3) (ad4) (kc1) (ft2) h1 n0 Ol HF_ad3_Domains_trail HG_ad4 hq1 (by decide)) (wd hw 216 rfl) (wd hw 104 rfl) (wd hw 212 rfl) (wd hw 213 rfl) (notFace_of_selects (args := #[]) (mvT hZ (wd hw 215 rfl))) (wd hw 215 rfl) (wd hw 214 rfl) (by decide) HE_ad3 (by decide) (by decide) (by rw [hml]; rfl) [(.int (1 : Int32))] (lenOf pd_17 rfl) rfl (Nat.le_of_eq rfl) (hb hby at_204) rfl e3 (by decide) (by decide) fun T6 Lc6 v6 X6 hQ6 => ?_
      obtain ⟨rfl, Nq6, e6⟩ := hQ6
      have N6 := Fr.app N3 Nq6
      show Go p e below _ (T6.setTop (mkF m 207 _ [(.int (-1 : Int32))]))
      refine gs.iload X6.here hx (hb hby at_207) rfl ?_
      refine gs.iload X6.here hx (hb hby at_209) rfl ?_
      refine gs.stat 1 X6 hx hZ hown (rm30 l Z a0 hw [] u_1 aw0 u_0 kaw0 HW qq ny (EX qq ny) h1 n0 Ol rfl) (wd hw 221 rfl) (wd hw 220 rfl) (wd hw 218 rfl) (wd hw 219 rfl) (by decide) (by decide) (by decide) (by rw [hml]; rfl) [(.int qq), (.int ny)] (lenOf pd_4 rfl) rfl (Nat.le_of_eq rfl) (hb hby at_211) rfl e6 (by decide) (by decide) fun T7 Lc7 v7 X7 hQ7 => ?_
      obtain ⟨rfl, Nq7, e7⟩ := hQ7
      have N7 := Fr.app N6 Nq7
      show Go p e below _ (T7.setTop (mkF m 214 _ [(.int (EX qq ny)), (.int (-1 : Int32))]))
      have hc214 : (-1 : Int32) = (EX qq ny) := by have q := H2; rw [HM, if_neg hq1] at q; exact q
      refine gs.icmpNo X7.here hx (hb hby at_214) (teq hc214).2 ?_
      refine gs.iconst 1 X7.here hx (hb hby at_217) rfl ?_
      refine gs.goto 222 X7.here hx (hb hby at_218) rfl ?_
      refine GoW.retZ X7 S0 (by rw [e7]; exact hk0) hx (t := .boolean) hret (by simp) hlk (hb hby at_222) (by rw [e7]; exact (hQ _ _ N7)) (by decide) (by decide)
  case neg =>
    refine gs.virt 0 X1 hx hZ hown (am29_4 l Z a0 hw [] u_1 aw0 u_0 kaw0 HW (ad3) (ad4) (kc1) (ft2) h1 n0 Ol HF_ad3_Domains_trail HG_ad4 hq0 (by decide)) (wd hw 216 rfl) (wd hw 104 rfl) (wd hw 212 rfl) (wd hw 213 rfl) (notFace_of_selects (args := #[]) (mvT hZ (wd hw 215 rfl))) (wd hw 215 rfl) (wd hw 214 rfl) (by decide) HE_ad3 (by decide) (by decide) (by rw [hml]; rfl) [(.int (0 : Int32))] (lenOf pd_17 rfl) rfl (Nat.le_of_eq rfl) (hb hby at_188) rfl e1 (by decide) (by decide) fun T8 Lc8 v8 X8 hQ8 => ?_
    obtain ⟨rfl, Nq8, e8⟩ := hQ8
    have N8 := Fr.app N1 Nq8
    show Go p e below _ (T8.setTop (mkF m 191 _ [(.int (-1 : Int32))]))
    refine gs.iload X8.here hx (hb hby at_191) rfl ?_
    refine gs.iload X8.here hx (hb hby at_193) rfl ?_
    refine gs.stat 1 X8 hx hZ hown (rm30 l Z a0 hw [] u_1 aw0 u_0 kaw0 HW pp nx (EX pp nx) h1 n0 Ol rfl) (wd hw 221 rfl) (wd hw 220 rfl) (wd hw 218 rfl) (wd hw 219 rfl) (by decide) (by decide) (by decide) (by rw [hml]; rfl) [(.int pp), (.int nx)] (lenOf pd_4 rfl) rfl (Nat.le_of_eq rfl) (hb hby at_195) rfl e8 (by decide) (by decide) fun T9 Lc9 v9 X9 hQ9 => ?_
    obtain ⟨rfl, Nq9, e9⟩ := hQ9
    have N9 := Fr.app N8 Nq9
    show Go p e below _ (T9.setTop (mkF m 198 _ [(.int (EX pp nx)), (.int (-1 : Int32))]))
    have hc198 : (-1 : Int32) = (EX pp nx) := by have q := H1; rw [HM, if_neg hq0] at q; exact q
    refine gs.icmpNo X9.here hx (hb hby at_198) (teq hc198).2 ?_
    refine gs.aload X9.here hx (hb hby at_201) rfl rfl ?_
    refine gs.iconst 1 X9.here hx (hb hby at_203) rfl ?_
    by_cases hq1 : (((((ft2 ((1 : Int32)).toNatClampNeg).toUInt64 >>> ((30 : Int32) &&& 0x3f).toInt64.toUInt64).toInt64).toInt32) &&& (3 : Int32)) = (0 : Int32)
    case pos =>
      refine gs.virt 0 X9 hx hZ hown (am29_2 l Z a0 hw [] u_1 aw0 u_0 kaw0 HW (ad3) (ad4) (kc1) (ft2) h1 n0 Ol HF_ad3_Domains_trail HG_ad4 hq1 (by decide)) (wd hw 216 rfl) (wd hw 104 rfl) (wd hw 212 rfl) (wd hw 213 rfl) (notFace_of_selects (args := #[]) (mvT hZ (wd hw 215 rfl))) (wd hw 215 rfl) (wd hw 214 rfl) (by decide) HE_ad3 (by decide) (by decide) (by rw [hml]; rfl) [(.int (1 : Int32))] (lenOf pd_17 rfl) rfl (Nat.le_of_eq rfl) (hb hby at_204) rfl e9 (by decide) (by decide) fun T10 Lc10 v10 X10 hQ10 => ?_
      obtain ⟨rfl, Nq10, e10⟩ := hQ10
      have N10 := Fr.app N9 Nq10
      show Go p e below _ (T10.setTop (mkF m 207 _ [(.int (((ft2 ((1 : Int32)).toNatClampNeg).toInt32) &&& (1073741823 : Int32)))]))
      refine gs.iload X10.here hx (hb hby at_207) rfl ?_
      refine gs.iload X10.here hx (hb hby at_209) rfl ?_
      refine gs.stat 1 X10 hx hZ hown (rm30 l Z a0 hw [] u_1 aw0 u_0 kaw0 HW qq ny (EX qq ny) h1 n0 Ol rfl) (wd hw 221 rfl) (wd hw 220 rfl) (wd hw 218 rfl) (wd hw 219 rfl) (by decide) (by decide) (by decide) (by rw [hml]; rfl) [(.int qq), (.int ny)] (lenOf pd_4 rfl) rfl (Nat.le_of_eq rfl) (hb hby at_211) rfl e10 (by decide) (by decide) fun T11 Lc11 v11 X11 hQ11 => ?_
      obtain ⟨rfl, Nq11, e11⟩ := hQ11
      have N11 := Fr.app N10 Nq11
      show Go p e below _ (T11.setTop (mkF m 214 _ [(.int (EX qq ny)), (.int (((ft2 ((1 : Int32)).toNatClampNeg).toInt32) &&& (1073741823 : Int32)))]))
      have hc214 : (((ft2 ((1 : Int32)).toNatClampNeg).toInt32) &&& (1073741823 : Int32)) = (EX qq ny) := by have q := H2; rw [HM, if_pos hq1] at q; exact q
      refine gs.icmpNo X11.here hx (hb hby at_214) (teq hc214).2 ?_
      refine gs.iconst 1 X11.here hx (hb hby at_217) rfl ?_
      refine gs.goto 222 X11.here hx (hb hby at_218) rfl ?_
      refine GoW.retZ X11 S0 (by rw [e11]; exact hk0) hx (t := .boolean) hret (by simp) hlk (hb hby at_222) (by rw [e11]; exact (hQ _ _ N11)) (by decide) (by decide)
    case neg =>
      refine gs.virt 0 X9 hx hZ hown (am29_3 l Z a0 hw [] u_1 aw0 u_0 kaw0 HW (ad3) (ad4) (kc1) (ft2) h1 n0 Ol HF_ad3_Domains_trail HG_ad4 hq1 (by decide)) (wd hw 216 rfl) (wd hw 104 rfl) (wd hw 212 rfl) (wd hw 213 rfl) (notFace_of_selects (args := #[]) (mvT hZ (wd hw 215 rfl))) (wd hw 215 rfl) (wd hw 214 rfl) (by decide) HE_ad3 (by decide) (by decide) (by rw [hml]; rfl) [(.int (1 : Int32))] (lenOf pd_17 rfl) rfl (Nat.le_of_eq rfl) (hb hby at_204) rfl e9 (by decide) (by decide) fun T12 Lc12 v12 X12 hQ12 => ?_
      obtain ⟨rfl, Nq12, e12⟩ := hQ12
      have N12 := Fr.app N9 Nq12
      show Go p e below _ (T12.setTop (mkF m 207 _ [(.int (-1 : Int32))]))
      refine gs.iload X12.here hx (hb hby at_207) rfl ?_
      refine gs.iload X12.here hx (hb hby at_209) rfl ?_
      refine gs.stat 1 X12 hx hZ hown (rm30 l Z a0 hw [] u_1 aw0 u_0 kaw0 HW qq ny (EX qq ny) h1 n0 Ol rfl) (wd hw 221 rfl) (wd hw 220 rfl) (wd hw 218 rfl) (wd hw 219 rfl) (by decide) (by decide) (by decide) (by rw [hml]; rfl) [(.int qq), (.int ny)] (lenOf pd_4 rfl) rfl (Nat.le_of_eq rfl) (hb hby at_211) rfl e12 (by decide) (by decide) fun T13 Lc13 v13 X13 hQ13 => ?_
      obtain ⟨rfl, Nq13, e13⟩ := hQ13
      have N13 := Fr.app N12 Nq13
      show Go p e below _ (T13.setTop (mkF m 214 _ [(.int (EX qq ny)), (.int (-1 : Int32))]))
      have hc214 : (-1 : Int32) = (EX qq ny) := by have q := H2; rw [HM, if_neg hq1] at q; exact q
      refine gs.icmpNo X13.here hx (hb hby at_214) (teq hc214).2 ?_
      refine gs.iconst 1 X13.here hx (hb hby at_217) rfl ?_
      refine gs.goto 222 X13.here hx (hb hby at_218) rfl ?_
      refine GoW.retZ X13 S0 (by rw [e13]; exact hk0) hx (t := .boolean) hret (by simp) hlk (hb hby at_222) (by rw [e13]; exact (hQ _ _ N13)) (by decide) (by decide)
set_option maxRecDepth 65536 in
set_option maxHeartbeats 40000000 in
theorem sg5 {p : Program} {l : Launch} {e : Env} {s : State} {m : MethodId} {args : Array Value} {below : List Frame} {meth : Method} {c : Code} {Z : State} {a0 : Array Value} (hw : ∀ d ∈ tables_1, d.before a0 Z = true) (u_1 : Addr) (aw0 : Addr) (u_0 : ClassId) (kaw0 : ClassId) (HW : Wd Z u_1 aw0 u_0 kaw0) {h0 : Heap} {n0 : Nat} (hx : p.tables.exec = Jvm.exec) (hby : c.code = code) (hml : c.maxLocals = 17) (hret : meth.sig.returnType = some .boolean) (hlk : meth.locks = false) {vm0 : Vm} {k0 : Nat} {T0 : State} {locs : List Loc} {h1 : Heap} (X0 : Stand p l e room_1 (s.setVm vm0) m args below meth c T0 locs 19 17535) (S0 : s.Since vm0 k0) (hk0 : k0 ≤ h1.size) (hZ : Z.Warmed39 (s.setVm vm0).vm) (hown : (s.setVm vm0).vm.findClass "com/example/monarc/monarc/DomainsHoleMadeAtPinLaw" = some m.cls) (e0 : T0.heap = h1) (N0 : Fr n0 locs) (kp0 : Keep h0 h1 []) (Ol : Old Z n0 h1) {Q : Option Value → Heap → List Loc → Prop} (hQ : ∀ h L, Fr n0 L → Q (some (.int 1)) h L) (ad2 : Addr) (lf0 : Int32) (lf1 : Int32) (lf2 : Int32) (lf3 : Int32) (lf4 : Int32) (lf5 : Int32) (lf6 : Int32) (lf7 : Int32) (lf8 : Int32) (ld9 : Addr) (ad3 : Addr) (lf11 : Int32) (yy : Int32) (nx : Int32) (ny : Int32) (pp : Int32) (qq : Int32) (ad4 : Addr) (ad5 : Addr) (ad6 : Addr) (ad7 : Addr) (ad8 : Addr) (ad9 : Addr) (w1 : Int32) (t1 : Int32) (kc1 : ClassId) (fs1 : Nat → Int32) (kc2 : ClassId) (fu1 : Nat → Int32) (kc3 : ClassId) (fl1 : Nat → Int32) (kc4 : ClassId) (fh1 : Nat → Value) (kc5 : ClassId) (fa : Nat → Addr) (kc6 : ClassId) (ft1 : Nat → Int64) (ux : Int32) (uy : Int32) (xx : Int32) (HE_ad2 : Exa Z h1 ad2 "com/example/monarc/monarc/InitialDomain") (HF_ad2_InitialDomain_size : Fld Z h1 ad2 "com/example/monarc/monarc/InitialDomain" "size" "I" (.int ny)) (HE_ad3 : Exa Z h1 ad3 "com/example/monarc/monarc/Domains") (HF_ad3_Domains_trail : Fld Z h1 ad3 "com/example/monarc/monarc/Domains" "trail" "[J" (.ref ad4)) (HF_ad3_Domains_initial : Fld Z h1 ad3 "com/example/monarc/monarc/Domains" "initial" "[Lcom/example/monarc/monarc/InitialDomain;" (.ref ad5)) (HF_ad3_Domains_lower : Fld Z h1 ad3 "com/example/monarc/monarc/Domains" "lower" "[I" (.ref ad6)) (HF_ad3_Domains_upper : Fld Z h1 ad3 "com/example/monarc/monarc/Domains" "upper" "[I" (.ref ad7)) (HF_ad3_Domains_holes : Fld Z h1 ad3 "com/example/monarc/monarc/Domains" "holes" "[[J" (.ref ad8)) (HF_ad3_Domains_sizes : Fld Z h1 ad3 "com/example/monarc/monarc/Domains" "sizes" "[I" (.ref ad9)) (HF_ad3_Domains_withOneValue : Fld Z h1 ad3 "com/example/monarc/monarc/Domains" "withOneValue" "I" (.int w1)) (HF_ad3_Domains_trailSize : Fld Z h1 ad3 "com/example/monarc/monarc/Domains" "trailSize" "I" (.int t1)) (HF_ad3_Domains_resized : Fld Z h1 ad3 "com/example/monarc/monarc/Domains" "resized" "Ljava/util/function/IntConsumer;" .null) (HE_ad8 : Exa Z h1 ad8 "[[J") (HE_ad4 : Exa Z h1 ad4 "[J") (HG_ad9 : Ari Z h1 ad9 kc1 (2 : Int32) fs1) (HG_ad7 : Ari Z h1 ad7 kc2 (2 : Int32) fu1) (HG_ad6 : Ari Z h1 ad6 kc3 (2 : Int32) fl1) (HG_ad8 : Arw Z h1 ad8 kc4 (.array .long) (2 : Int32) fh1) (HG_ad5 : Ara Z h1 ad5 kc5 (.object "com/example/monarc/monarc/InitialDomain") (2 : Int32) fa) (HG_ad4 : Arf Z h1 ad4 kc6 (1024 : Int32) ft1) (nn_ad3 : n0 ≤ ad3) (nn_ad4 : n0 ≤ ad4) (nn_ad6 : n0 ≤ ad6) (nn_ad7 : n0 ≤ ad7) (nn_ad8 : n0 ≤ ad8) (nn_ad9 : n0 ≤ ad9) (sz_ad3 : h0.size ≤ ad3) (sz_ad4 : h0.size ≤ ad4) (sz_ad6 : h0.size ≤ ad6) (sz_ad7 : h0.size ≤ ad7) (sz_ad8 : h0.size ≤ ad8) (sz_ad9 : h0.size ≤ ad9) (ne_ad3_ad4 : ad3 ≠ ad4) (ne_ad3_ad6 : ad3 ≠ ad6) (ne_ad3_ad7 : ad3 ≠ ad7) (ne_ad3_ad8 : ad3 ≠ ad8) (ne_ad3_ad9 : ad3 ≠ ad9) (ne_ad4_ad6 : ad4 ≠ ad6) (ne_ad4_ad7 : ad4 ≠ ad7) (ne_ad4_ad8 : ad4 ≠ ad8) (ne_ad4_ad9 : ad4 ≠ ad9) (ne_ad6_ad9 : ad6 ≠ ad9) (ne_ad7_ad9 : ad7 ≠ ad9) (ne_ad8_ad9 : ad8 ≠ ad9) (hb_xx : 0 ≤ xx.toInt ∧ xx.toInt < 2) (hb_yy : yy.toInt = 1 - xx.toInt) (hb_nx : 1 ≤ nx.toInt ∧ nx.toInt ≤ 1048576) (hb_ny : 1 ≤ ny.toInt ∧ ny.toInt ≤ 1048576) (hb_ux : ux.toInt = nx.toInt - 1) (hb_uy : uy.toInt = ny.toInt - 1) (hd_ux : ux = (nx - (1 : Int32))) (hd_uy : uy = (ny - (1 : Int32))) (hb_pp : 0 ≤ pp.toInt ∧ pp.toInt < nx.toInt) (hb_qq : 0 ≤ qq.toInt ∧ qq.toInt < ny.toInt) (hf_uy1 : (fu1 (yy).toNatClampNeg) = uy) (hf_ly1 : (fl1 (yy).toNatClampNeg) = (0 : Int32)) (hf_hy1 : (fh1 (yy).toNatClampNeg) = .null) (hf_ay : (fa (yy).toNatClampNeg) = ad2) (ht1 : t1 = (1 : Int32)) (H1 : HM (ft1 ((0 : Int32)).toNatClampNeg) = EX pp nx) (hO_ad8 : OvrA Z kc4 .long "[J") (hO_ad5 : Ovr Z kc5 "com/example/monarc/monarc/InitialDomain") :
    Go p e below (Fin2 s below Q room_1.cells room_1.slots) (T0.setTop (mkF m 165 #[.val (.int lf0), .val (.int lf1), .val (.int lf2), .val (.int lf3), .val (.int lf4), .val (.int lf5), .val (.int lf6), .val (.int lf7), .val (.int lf8), .val (.ref ld9), .val (.ref ad3), .val (.int lf11), .val (.int yy), .val (.int nx), .val (.int ny), .val (.int pp), .val (.int qq)] [])) := by
  obtain ⟨Eu_1, Su_1, Eaw0, Saw0, Au_1, Aaw0⟩ := id HW
  show Go p e below _ (T0.setTop (mkF m 165 #[.val (.int lf0), .val (.int lf1), .val (.int lf2), .val (.int lf3), .val (.int lf4), .val (.int lf5), .val (.int lf6), .val (.int lf7), .val (.int lf8), .val (.ref ld9), .val (.ref ad3), .val (.int lf11), .val (.int yy), .val (.int nx), .val (.int ny), .val (.int pp), .val (.int qq)] []))
  refine gs.aload X0.here hx (hb hby at_165) rfl rfl ?_
  refine gs.iload X0.here hx (hb hby at_167) rfl ?_
  refine gs.iload X0.here hx (hb hby at_169) rfl ?_
  by_cases hp0 : qq = (0 : Int32)
  case pos =>
    by_cases hpu : uy < (qq + (1 : Int32))
    case pos =>
      refine gs.virt 0 X0 hx hZ hown (am22_1 l Z a0 hw [] u_1 aw0 u_0 kaw0 HW (ad3) (yy) (qq) (ad4) (ad5) (ad6) (ad7) (ad8) (ad9) (w1) (t1) (kc1) (fs1) (kc2) (fu1) (kc3) (fl1) (kc4) (fh1) (kc6) (ft1) (uy) h1 n0 Ol HE_ad3 HF_ad3_Domains_trail HF_ad3_Domains_initial HF_ad3_Domains_lower HF_ad3_Domains_upper HF_ad3_Domains_holes HF_ad3_Domains_sizes HF_ad3_Domains_withOneValue HF_ad3_Domains_trailSize HF_ad3_Domains_resized HE_ad4 HG_ad9 HG_ad7 HG_ad6 HG_ad8 HG_ad4 nn_ad3 nn_ad4 nn_ad6 nn_ad9 ne_ad3_ad4 ne_ad3_ad6 ne_ad3_ad9 ne_ad4_ad6 ne_ad4_ad9 ne_ad6_ad9 (by have o2 : (2 : Int32).toInt = 2 := rfl; omega) (by rw [ht1]; decide) hpu hp0 (by rw [ht1]; decide) hf_uy1 hf_ly1 hf_hy1 hO_ad8) (wd hw 179 rfl) (wd hw 104 rfl) (wd hw 175 rfl) (wd hw 176 rfl) (notFace_of_selects (args := #[]) (mvT hZ (wd hw 178 rfl))) (wd hw 178 rfl) (wd hw 177 rfl) (by decide) HE_ad3 (by decide) (by decide) (by rw [hml]; rfl) [(.int yy), (.int qq)] (lenOf pd_15 rfl) rfl (Nat.le_of_eq rfl) (hb hby at_171) rfl e0 (by decide) (by decide) fun T1 Lc1 v1 X1 hQ1 => ?_
      obtain ⟨ex1_0, rfl, Nq1, K1, p1_0, p1_1, p1_2, p1_3, p1_4, p1_5, p1_6, p1_7, p1_8, p1_9, p1_10, p1_11, p1_12, p1_13⟩ := hQ1
      have old1 := Ol.keep K1 (allS nn_ad3 (allS nn_ad4 (allS nn_ad6 (allS nn_ad9 all0))))
      have hk1 := Nat.le_trans hk0 K1.1
      have kp1 := kp0.trans K1 (allS (Or.inr sz_ad3) (allS (Or.inr sz_ad4) (allS (Or.inr sz_ad6) (allS (Or.inr sz_ad9) all0))))
      have N1 := Fr.app N0 Nq1
      show Go p e below _ (T1.setTop (mkF m 174 _ []))
      obtain ⟨ft2, hd_ft2⟩ : ∃ z, z = (fun i => if i = (t1).toNatClampNeg then ((((yy.toInt64) <<< ((32 : Int32) &&& 0x3f).toInt64) ||| ((1 : Int64) <<< ((30 : Int32) &&& 0x3f).toInt64)) ||| (0 : Int64)) else ft1 i) := ⟨_, rfl⟩
      have v2_ : Arf Z T1.heap ad4 kc6 (1024 : Int32) ft2 := by rw [hd_ft2]; exact p1_11
      obtain ⟨t2, hd_t2⟩ : ∃ z, z = (t1 + (1 : Int32)) := ⟨_, rfl⟩
      have v3_ : Fld Z T1.heap ad3 "com/example/monarc/monarc/Domains" "trailSize" "I" (.int t2) := by rw [hd_t2]; exact p1_7
      have ht2 : t2 = (2 : Int32) := by rw [hd_t2, ht1]; decide
      have H1b : HM (ft2 ((0 : Int32)).toNatClampNeg) = EX pp nx := by rw [hd_ft2, ht1]; exact (congrArg HM (if_neg (by decide))).trans H1
      have H2 : HM (ft2 ((1 : Int32)).toNatClampNeg) = EX qq ny := by rw [hd_ft2, ht1]; simp only [if_true]; exact (hm_low yy).trans (if_pos hp0).symm
      clear H1
      have H1 := H1b
      exact sg2 hw u_1 aw0 u_0 kaw0 HW hx hby hml hret hlk (vm0 := vm0) X1 S0 hk1 hZ hown rfl N1 kp1 old1 hQ lf0 lf1 lf2 lf3 lf4 lf5 lf6 lf7 lf8 ld9 ad3 lf11 yy nx ny pp qq ad4 t2 kc6 ft2 p1_0 p1_6 v3_ v2_ ht2 H1 H2
    case neg =>
      refine gs.virt 0 X0 hx hZ hown (am22_2 l Z a0 hw [] u_1 aw0 u_0 kaw0 HW (ad3) (yy) (qq) (ad4) (ad5) (ad6) (ad7) (ad8) (ad9) (w1) (t1) (kc1) (fs1) (kc2) (fu1) (kc3) (fl1) (kc4) (fh1) (kc6) (ft1) (uy) h1 n0 Ol HE_ad3 HF_ad3_Domains_trail HF_ad3_Domains_initial HF_ad3_Domains_lower HF_ad3_Domains_upper HF_ad3_Domains_holes HF_ad3_Domains_sizes HF_ad3_Domains_withOneValue HF_ad3_Domains_trailSize HF_ad3_Domains_resized HE_ad4 HG_ad9 HG_ad7 HG_ad6 HG_ad8 HG_ad4 nn_ad3 nn_ad4 nn_ad6 nn_ad9 ne_ad3_ad4 ne_ad3_ad6 ne_ad3_ad9 ne_ad4_ad6 ne_ad4_ad9 ne_ad6_ad9 (by have o2 : (2 : Int32).toInt = 2 := rfl; omega) (by rw [ht1]; decide) hpu hp0 (by rw [ht1]; decide) hf_uy1 hf_ly1 hf_hy1 hO_ad8) (wd hw 179 rfl) (wd hw 104 rfl) (wd hw 175 rfl) (wd hw 176 rfl) (notFace_of_selects (args := #[]) (mvT hZ (wd hw 178 rfl))) (wd hw 178 rfl) (wd hw 177 rfl) (by decide) HE_ad3 (by decide) (by decide) (by rw [hml]; rfl) [(.int yy), (.int qq)] (lenOf pd_15 rfl) rfl (Nat.le_of_eq rfl) (hb hby at_171) rfl e0 (by decide) (by decide) fun T4 Lc4 v4 X4 hQ4 => ?_
      obtain ⟨ex4_0, rfl, Nq4, K4, p4_0, p4_1, p4_2, p4_3, p4_4, p4_5, p4_6, p4_7, p4_8, p4_9, p4_10, p4_11, p4_12, p4_13⟩ := hQ4
      have old4 := Ol.keep K4 (allS nn_ad3 (allS nn_ad4 (allS nn_ad6 (allS nn_ad9 all0))))
      have hk4 := Nat.le_trans hk0 K4.1
      have kp4 := kp0.trans K4 (allS (Or.inr sz_ad3) (allS (Or.inr sz_ad4) (allS (Or.inr sz_ad6) (allS (Or.inr sz_ad9) all0))))
      have N4 := Fr.app N0 Nq4
      show Go p e below _ (T4.setTop (mkF m 174 _ []))
      obtain ⟨ft2, hd_ft2⟩ : ∃ z, z = (fun i => if i = (t1).toNatClampNeg then ((((yy.toInt64) <<< ((32 : Int32) &&& 0x3f).toInt64) ||| ((1 : Int64) <<< ((30 : Int32) &&& 0x3f).toInt64)) ||| (0 : Int64)) else ft1 i) := ⟨_, rfl⟩
      have v5_ : Arf Z T4.heap ad4 kc6 (1024 : Int32) ft2 := by rw [hd_ft2]; exact p4_11
      obtain ⟨t2, hd_t2⟩ : ∃ z, z = (t1 + (1 : Int32)) := ⟨_, rfl⟩
      have v6_ : Fld Z T4.heap ad3 "com/example/monarc/monarc/Domains" "trailSize" "I" (.int t2) := by rw [hd_t2]; exact p4_7
      have ht2 : t2 = (2 : Int32) := by rw [hd_t2, ht1]; decide
      have H1b : HM (ft2 ((0 : Int32)).toNatClampNeg) = EX pp nx := by rw [hd_ft2, ht1]; exact (congrArg HM (if_neg (by decide))).trans H1
      have H2 : HM (ft2 ((1 : Int32)).toNatClampNeg) = EX qq ny := by rw [hd_ft2, ht1]; simp only [if_true]; exact (hm_low yy).trans (if_pos hp0).symm
      clear H1
      have H1 := H1b
      exact sg2 hw u_1 aw0 u_0 kaw0 HW hx hby hml hret hlk (vm0 := vm0) X4 S0 hk4 hZ hown rfl N4 kp4 old4 hQ lf0 lf1 lf2 lf3 lf4 lf5 lf6 lf7 lf8 ld9 ad3 lf11 yy nx ny pp qq ad4 t2 kc6 ft2 p4_0 p4_6 v6_ v5_ ht2 H1 H2
  case neg =>
    by_cases hpe : qq = uy
    case pos =>
      refine gs.virt 0 X0 hx hZ hown (am22_3 l Z a0 hw [] u_1 aw0 u_0 kaw0 HW (ad3) (yy) (qq) (ad4) (ad5) (ad6) (ad7) (ad8) (ad9) (w1) (t1) (kc1) (fs1) (kc2) (fu1) (kc3) (fl1) (kc4) (fh1) (kc6) (ft1) (uy) h1 n0 Ol HE_ad3 HF_ad3_Domains_trail HF_ad3_Domains_initial HF_ad3_Domains_lower HF_ad3_Domains_upper HF_ad3_Domains_holes HF_ad3_Domains_sizes HF_ad3_Domains_withOneValue HF_ad3_Domains_trailSize HF_ad3_Domains_resized HE_ad4 HG_ad9 HG_ad7 HG_ad6 HG_ad8 HG_ad4 nn_ad3 nn_ad4 nn_ad7 nn_ad9 ne_ad3_ad4 ne_ad3_ad7 ne_ad3_ad9 ne_ad4_ad7 ne_ad4_ad9 ne_ad7_ad9 (i_nlt (by have o0 : (0 : Int32).toInt = 0 := rfl; have o1 : (1 : Int32).toInt = 1 := rfl; have q : ¬ qq.toInt = (0 : Int32).toInt := fun y => hp0 (Int32.toInt_inj.mp y); rw [Jvm.Kit.i32_sub (by omega) (by omega)]; omega)) (by have o2 : (2 : Int32).toInt = 2 := rfl; omega) (by rw [ht1]; decide) hp0 hpe (by rw [ht1]; decide) hf_uy1 hf_ly1 hf_hy1 hO_ad8) (wd hw 179 rfl) (wd hw 104 rfl) (wd hw 175 rfl) (wd hw 176 rfl) (notFace_of_selects (args := #[]) (mvT hZ (wd hw 178 rfl))) (wd hw 178 rfl) (wd hw 177 rfl) (by decide) HE_ad3 (by decide) (by decide) (by rw [hml]; rfl) [(.int yy), (.int qq)] (lenOf pd_15 rfl) rfl (Nat.le_of_eq rfl) (hb hby at_171) rfl e0 (by decide) (by decide) fun T7 Lc7 v7 X7 hQ7 => ?_
      obtain ⟨ex7_0, rfl, Nq7, K7, p7_0, p7_1, p7_2, p7_3, p7_4, p7_5, p7_6, p7_7, p7_8, p7_9, p7_10, p7_11, p7_12, p7_13⟩ := hQ7
      have old7 := Ol.keep K7 (allS nn_ad3 (allS nn_ad4 (allS nn_ad7 (allS nn_ad9 all0))))
      have hk7 := Nat.le_trans hk0 K7.1
      have kp7 := kp0.trans K7 (allS (Or.inr sz_ad3) (allS (Or.inr sz_ad4) (allS (Or.inr sz_ad7) (allS (Or.inr sz_ad9) all0))))
      have N7 := Fr.app N0 Nq7
      show Go p e below _ (T7.setTop (mkF m 174 _ []))
      obtain ⟨ft2, hd_ft2⟩ : ∃ z, z = (fun i => if i = (t1).toNatClampNeg then ((((yy.toInt64) <<< ((32 : Int32) &&& 0x3f).toInt64) ||| ((2 : Int64) <<< ((30 : Int32) &&& 0x3f).toInt64)) ||| (uy.toInt64)) else ft1 i) := ⟨_, rfl⟩
      have v8_ : Arf Z T7.heap ad4 kc6 (1024 : Int32) ft2 := by rw [hd_ft2]; exact p7_11
      obtain ⟨t2, hd_t2⟩ : ∃ z, z = (t1 + (1 : Int32)) := ⟨_, rfl⟩
      have v9_ : Fld Z T7.heap ad3 "com/example/monarc/monarc/Domains" "trailSize" "I" (.int t2) := by rw [hd_t2]; exact p7_7
      have ht2 : t2 = (2 : Int32) := by rw [hd_t2, ht1]; decide
      have H1b : HM (ft2 ((0 : Int32)).toNatClampNeg) = EX pp nx := by rw [hd_ft2, ht1]; exact (congrArg HM (if_neg (by decide))).trans H1
      have H2 : HM (ft2 ((1 : Int32)).toNatClampNeg) = EX qq ny := by rw [hd_ft2, ht1]; simp only [if_true]; exact (hm_upp yy (by omega)).trans ((if_neg hp0).trans (if_pos (hpe.trans hd_uy))).symm
      clear H1
      have H1 := H1b
      exact sg2 hw u_1 aw0 u_0 kaw0 HW hx hby hml hret hlk (vm0 := vm0) X7 S0 hk7 hZ hown rfl N7 kp7 old7 hQ lf0 lf1 lf2 lf3 lf4 lf5 lf6 lf7 lf8 ld9 ad3 lf11 yy nx ny pp qq ad4 t2 kc6 ft2 p7_0 p7_6 v9_ v8_ ht2 H1 H2
    case neg =>
      obtain ⟨wx, hd_wx⟩ : ∃ z, z = (((ny + (63 : Int32)).toUInt32 >>> ((6 : Int32) &&& 31).toUInt32).toInt32) := ⟨_, rfl⟩
      have hb_wx : wx.toInt = (ny.toInt + 63) / 64 := by rw [hd_wx]; exact wn_ hb_ny
      have hb_ip := ix_ (x := qq) hb_qq.1
      refine gs.virt 0 X0 hx hZ hown (am22_4 l Z a0 hw [] u_1 aw0 u_0 kaw0 HW (ad3) (yy) (qq) (ad2) (ny) (ad4) (ad5) (ad6) (ad7) (ad8) (ad9) (w1) (t1) (kc1) (fs1) (kc2) (fu1) (kc3) (fl1) (kc4) (fh1) (kc5) (fa) (kc6) (ft1) (uy) (wx) h1 n0 Ol HE_ad2 HF_ad2_InitialDomain_size HE_ad3 HF_ad3_Domains_trail HF_ad3_Domains_initial HF_ad3_Domains_lower HF_ad3_Domains_upper HF_ad3_Domains_holes HF_ad3_Domains_sizes HF_ad3_Domains_withOneValue HF_ad3_Domains_trailSize HF_ad3_Domains_resized HE_ad8 HE_ad4 HG_ad9 HG_ad7 HG_ad6 HG_ad8 HG_ad5 HG_ad4 nn_ad3 nn_ad4 nn_ad8 nn_ad9 ne_ad3_ad4 ne_ad3_ad8 ne_ad3_ad9 ne_ad4_ad8 ne_ad4_ad9 ne_ad8_ad9 (by rw [Int32.toNatClampNeg]; omega) (by omega) (by have o2 : (2 : Int32).toInt = 2 := rfl; omega) (by rw [ht1]; decide) (i_nlt (by have o0 : (0 : Int32).toInt = 0 := rfl; omega)) hp0 hpe (by rw [ht1]; decide) hd_wx.symm hf_uy1 hf_ly1 hf_hy1 hf_ay hO_ad8 hO_ad5) (wd hw 179 rfl) (wd hw 104 rfl) (wd hw 175 rfl) (wd hw 176 rfl) (notFace_of_selects (args := #[]) (mvT hZ (wd hw 178 rfl))) (wd hw 178 rfl) (wd hw 177 rfl) (by decide) HE_ad3 (by decide) (by decide) (by rw [hml]; rfl) [(.int yy), (.int qq)] (lenOf pd_15 rfl) rfl (Nat.le_of_eq rfl) (hb hby at_171) rfl e0 (by decide) (by decide) fun T10 Lc10 v10 X10 hQ10 => ?_
      obtain ⟨b10_0, kx10_0, ex10_0, ex10_1, rfl, gb_b10_0, Nq10, K10, p10_0, p10_1, p10_2, p10_3, p10_4, p10_5, p10_6, p10_7, p10_8, p10_9, p10_10, p10_11, p10_12, p10_13, p10_14, p10_15, p10_16⟩ := hQ10
      have nn_b10_0 : n0 ≤ b10_0 := Nat.le_trans (old_z0 Ol) gb_b10_0
      have sz_b10_0 : h0.size ≤ b10_0 := Nat.le_trans kp0.1 gb_b10_0
      have old10 := Ol.keep K10 (allS nn_ad3 (allS nn_ad4 (allS nn_ad8 (allS nn_ad9 all0))))
      have hk10 := Nat.le_trans hk0 K10.1
      have kp10 := kp0.trans K10 (allS (Or.inr sz_ad3) (allS (Or.inr sz_ad4) (allS (Or.inr sz_ad8) (allS (Or.inr sz_ad9) all0))))
      have N10 := Fr.app N0 Nq10
      show Go p e below _ (T10.setTop (mkF m 174 _ []))
      obtain ⟨ft2, hd_ft2⟩ : ∃ z, z = (fun i => if i = (t1).toNatClampNeg then ((((yy.toInt64) <<< ((32 : Int32) &&& 0x3f).toInt64) ||| ((0 : Int64) <<< ((30 : Int32) &&& 0x3f).toInt64)) ||| (qq.toInt64)) else ft1 i) := ⟨_, rfl⟩
      have v11_ : Arf Z T10.heap ad4 kc6 (1024 : Int32) ft2 := by rw [hd_ft2]; exact p10_11
      obtain ⟨t2, hd_t2⟩ : ∃ z, z = (t1 + (1 : Int32)) := ⟨_, rfl⟩
      have v12_ : Fld Z T10.heap ad3 "com/example/monarc/monarc/Domains" "trailSize" "I" (.int t2) := by rw [hd_t2]; exact p10_7
      have ht2 : t2 = (2 : Int32) := by rw [hd_t2, ht1]; decide
      have H1b : HM (ft2 ((0 : Int32)).toNatClampNeg) = EX pp nx := by rw [hd_ft2, ht1]; exact (congrArg HM (if_neg (by decide))).trans H1
      have H2 : HM (ft2 ((1 : Int32)).toNatClampNeg) = EX qq ny := by rw [hd_ft2, ht1]; simp only [if_true]; exact (hm_hole yy (by omega)).trans ((if_neg hp0).trans (if_neg (fun q => hpe (q.trans hd_uy.symm)))).symm
      clear H1
      have H1 := H1b
      exact sg4 hw u_1 aw0 u_0 kaw0 HW hx hby hml hret hlk (vm0 := vm0) X10 S0 hk10 hZ hown rfl N10 kp10 old10 hQ lf0 lf1 lf2 lf3 lf4 lf5 lf6 lf7 lf8 ld9 ad3 lf11 yy nx ny pp qq ad4 t2 kc6 ft2 p10_0 p10_6 v12_ v11_ ht2 H1 H2
set_option maxRecDepth 65536 in
set_option maxHeartbeats 40000000 in
theorem sg6 {p : Program} {l : Launch} {e : Env} {s : State} {m : MethodId} {args : Array Value} {below : List Frame} {meth : Method} {c : Code} {Z : State} {a0 : Array Value} (hw : ∀ d ∈ tables_1, d.before a0 Z = true) (u_1 : Addr) (aw0 : Addr) (u_0 : ClassId) (kaw0 : ClassId) (HW : Wd Z u_1 aw0 u_0 kaw0) {h0 : Heap} {n0 : Nat} (hx : p.tables.exec = Jvm.exec) (hby : c.code = code) (hml : c.maxLocals = 17) (hret : meth.sig.returnType = some .boolean) (hlk : meth.locks = false) {vm0 : Vm} {k0 : Nat} {T0 : State} {locs : List Loc} {h1 : Heap} (X0 : Stand p l e room_1 (s.setVm vm0) m args below meth c T0 locs 18 1151) (S0 : s.Since vm0 k0) (hk0 : k0 ≤ h1.size) (hZ : Z.Warmed39 (s.setVm vm0).vm) (hown : (s.setVm vm0).vm.findClass "com/example/monarc/monarc/DomainsHoleMadeAtPinLaw" = some m.cls) (e0 : T0.heap = h1) (N0 : Fr n0 locs) (kp0 : Keep h0 h1 []) (Ol : Old Z n0 h1) {Q : Option Value → Heap → List Loc → Prop} (hQ : ∀ h L, Fr n0 L → Q (some (.int 1)) h L) (ad1 : Addr) (ad2 : Addr) (lf0 : Int32) (lf1 : Int32) (p3 : Int32) (lf3 : Int32) (p5 : Int32) (lf5 : Int32) (lf6 : Int32) (lf7 : Int32) (lf8 : Int32) (ld9 : Addr) (ad3 : Addr) (xx : Int32) (yy : Int32) (nx : Int32) (ny : Int32) (ad4 : Addr) (ad5 : Addr) (ad6 : Addr) (ad7 : Addr) (ad8 : Addr) (ad9 : Addr) (w0 : Int32) (t0 : Int32) (kc1 : ClassId) (fs : Nat → Int32) (kc2 : ClassId) (fu : Nat → Int32) (kc3 : ClassId) (fl : Nat → Int32) (kc4 : ClassId) (fh : Nat → Value) (kc5 : ClassId) (fa : Nat → Addr) (kc6 : ClassId) (ft : Nat → Int64) (ux : Int32) (uy : Int32) (HE_ad1 : Exa Z h1 ad1 "com/example/monarc/monarc/InitialDomain") (HF_ad1_InitialDomain_size : Fld Z h1 ad1 "com/example/monarc/monarc/InitialDomain" "size" "I" (.int nx)) (HE_ad2 : Exa Z h1 ad2 "com/example/monarc/monarc/InitialDomain") (HF_ad2_InitialDomain_size : Fld Z h1 ad2 "com/example/monarc/monarc/InitialDomain" "size" "I" (.int ny)) (HE_ad3 : Exa Z h1 ad3 "com/example/monarc/monarc/Domains") (HF_ad3_Domains_trail : Fld Z h1 ad3 "com/example/monarc/monarc/Domains" "trail" "[J" (.ref ad4)) (HF_ad3_Domains_initial : Fld Z h1 ad3 "com/example/monarc/monarc/Domains" "initial" "[Lcom/example/monarc/monarc/InitialDomain;" (.ref ad5)) (HF_ad3_Domains_lower : Fld Z h1 ad3 "com/example/monarc/monarc/Domains" "lower" "[I" (.ref ad6)) (HF_ad3_Domains_upper : Fld Z h1 ad3 "com/example/monarc/monarc/Domains" "upper" "[I" (.ref ad7)) (HF_ad3_Domains_holes : Fld Z h1 ad3 "com/example/monarc/monarc/Domains" "holes" "[[J" (.ref ad8)) (HF_ad3_Domains_sizes : Fld Z h1 ad3 "com/example/monarc/monarc/Domains" "sizes" "[I" (.ref ad9)) (HF_ad3_Domains_withOneValue : Fld Z h1 ad3 "com/example/monarc/monarc/Domains" "withOneValue" "I" (.int w0)) (HF_ad3_Domains_trailSize : Fld Z h1 ad3 "com/example/monarc/monarc/Domains" "trailSize" "I" (.int t0)) (HF_ad3_Domains_resized : Fld Z h1 ad3 "com/example/monarc/monarc/Domains" "resized" "Ljava/util/function/IntConsumer;" .null) (HE_ad8 : Exa Z h1 ad8 "[[J") (HE_ad4 : Exa Z h1 ad4 "[J") (HG_ad9 : Ari Z h1 ad9 kc1 (2 : Int32) fs) (HG_ad7 : Ari Z h1 ad7 kc2 (2 : Int32) fu) (HG_ad6 : Ari Z h1 ad6 kc3 (2 : Int32) fl) (HG_ad8 : Arw Z h1 ad8 kc4 (.array .long) (2 : Int32) fh) (HG_ad5 : Ara Z h1 ad5 kc5 (.object "com/example/monarc/monarc/InitialDomain") (2 : Int32) fa) (HG_ad4 : Arf Z h1 ad4 kc6 (1024 : Int32) ft) (nn_ad3 : n0 ≤ ad3) (nn_ad4 : n0 ≤ ad4) (nn_ad6 : n0 ≤ ad6) (nn_ad7 : n0 ≤ ad7) (nn_ad8 : n0 ≤ ad8) (nn_ad9 : n0 ≤ ad9) (sz_ad3 : h0.size ≤ ad3) (sz_ad4 : h0.size ≤ ad4) (sz_ad6 : h0.size ≤ ad6) (sz_ad7 : h0.size ≤ ad7) (sz_ad8 : h0.size ≤ ad8) (sz_ad9 : h0.size ≤ ad9) (ne_ad2_ad3 : ad2 ≠ ad3) (ne_ad2_ad4 : ad2 ≠ ad4) (ne_ad2_ad6 : ad2 ≠ ad6) (ne_ad2_ad7 : ad2 ≠ ad7) (ne_ad2_ad8 : ad2 ≠ ad8) (ne_ad2_ad9 : ad2 ≠ ad9) (ne_ad3_ad4 : ad3 ≠ ad4) (ne_ad3_ad5 : ad3 ≠ ad5) (ne_ad3_ad6 : ad3 ≠ ad6) (ne_ad3_ad7 : ad3 ≠ ad7) (ne_ad3_ad8 : ad3 ≠ ad8) (ne_ad3_ad9 : ad3 ≠ ad9) (ne_ad4_ad5 : ad4 ≠ ad5) (ne_ad4_ad6 : ad4 ≠ ad6) (ne_ad4_ad7 : ad4 ≠ ad7) (ne_ad4_ad8 : ad4 ≠ ad8) (ne_ad4_ad9 : ad4 ≠ ad9) (ne_ad5_ad6 : ad5 ≠ ad6) (ne_ad5_ad7 : ad5 ≠ ad7) (ne_ad5_ad8 : ad5 ≠ ad8) (ne_ad5_ad9 : ad5 ≠ ad9) (ne_ad6_ad7 : ad6 ≠ ad7) (ne_ad6_ad8 : ad6 ≠ ad8) (ne_ad6_ad9 : ad6 ≠ ad9) (ne_ad7_ad8 : ad7 ≠ ad8) (ne_ad7_ad9 : ad7 ≠ ad9) (ne_ad8_ad9 : ad8 ≠ ad9) (hb_xx : 0 ≤ xx.toInt ∧ xx.toInt < 2) (hb_yy : yy.toInt = 1 - xx.toInt) (hb_nx : 1 ≤ nx.toInt ∧ nx.toInt ≤ 1048576) (hb_ny : 1 ≤ ny.toInt ∧ ny.toInt ≤ 1048576) (hb_ux : ux.toInt = nx.toInt - 1) (hb_uy : uy.toInt = ny.toInt - 1) (hd_ux : ux = (nx - (1 : Int32))) (hd_uy : uy = (ny - (1 : Int32))) (hf_ux : (fu (xx).toNatClampNeg) = ux) (hf_lx : (fl (xx).toNatClampNeg) = (0 : Int32)) (hf_hx : (fh (xx).toNatClampNeg) = .null) (hf_ax : (fa (xx).toNatClampNeg) = ad1) (hf_uy : (fu (yy).toNatClampNeg) = uy) (hf_ly : (fl (yy).toNatClampNeg) = (0 : Int32)) (hf_hy : (fh (yy).toNatClampNeg) = .null) (hf_ay : (fa (yy).toNatClampNeg) = ad2) (ht0 : t0 = (0 : Int32)) (hO_ad8 : OvrA Z kc4 .long "[J") (hO_ad5 : Ovr Z kc5 "com/example/monarc/monarc/InitialDomain") :
    Go p e below (Fin2 s below Q room_1.cells room_1.slots) (T0.setTop (mkF m 137 #[.val (.int lf0), .val (.int lf1), .val (.int p3), .val (.int lf3), .val (.int p5), .val (.int lf5), .val (.int lf6), .val (.int lf7), .val (.int lf8), .val (.ref ld9), .val (.ref ad3), .val (.int xx), .val (.int yy), .val (.int nx), .val (.int ny), .unset, .unset] [])) := by
  obtain ⟨Eu_1, Su_1, Eaw0, Saw0, Au_1, Aaw0⟩ := id HW
  show Go p e below _ (T0.setTop (mkF m 137 #[.val (.int lf0), .val (.int lf1), .val (.int p3), .val (.int lf3), .val (.int p5), .val (.int lf5), .val (.int lf6), .val (.int lf7), .val (.int lf8), .val (.ref ld9), .val (.ref ad3), .val (.int xx), .val (.int yy), .val (.int nx), .val (.int ny), .unset, .unset] []))
  refine gs.iloadN X0.here hx (hb hby at_137) rfl ?_
  refine Go.fin (fun t_ k_ => X0.ldcInt hx hown (mvT hZ (wd hw 174 rfl)) (g := mkF m 138 _ _) rfl (hb hby at_138) _ k_) ?_
  show Go p e below _ (T0.setTop (mkF m 140 _ [(.int (2147483647 : Int32)), (.int p3)]))
  refine gs.iand X0.here hx (hb hby at_140) ?_
  refine gs.iload X0.here hx (hb hby at_141) rfl ?_
  refine Go.fin (fun t_ k_ => iremM X0 hx rfl (hb hby at_143) rfl (z_ne hb_nx) k_) ?_
  show Go p e below _ (T0.setTop (mkF m 144 _ [(.int ((p3 &&& (2147483647 : Int32)) % nx))]))
  refine gs.istore X0.here hx (hb hby at_144) (l' := #[.val (.int lf0), .val (.int lf1), .val (.int p3), .val (.int lf3), .val (.int p5), .val (.int lf5), .val (.int lf6), .val (.int lf7), .val (.int lf8), .val (.ref ld9), .val (.ref ad3), .val (.int xx), .val (.int yy), .val (.int nx), .val (.int ny), .val (.int ((p3 &&& (2147483647 : Int32)) % nx)), .unset]) rfl ?_
  generalize hk_pp : ((p3 &&& (2147483647 : Int32)) % nx) = pp
  show Go p e below _ (T0.setTop (mkF m 146 #[.val (.int lf0), .val (.int lf1), .val (.int p3), .val (.int lf3), .val (.int p5), .val (.int lf5), .val (.int lf6), .val (.int lf7), .val (.int lf8), .val (.ref ld9), .val (.ref ad3), .val (.int xx), .val (.int yy), .val (.int nx), .val (.int ny), .val (.int pp), .unset] []))
  have hb_pp := rm_bd p3 hb_nx
  rw [hk_pp] at hb_pp
  refine gs.iload X0.here hx (hb hby at_146) rfl ?_
  refine Go.fin (fun t_ k_ => X0.ldcInt hx hown (mvT hZ (wd hw 174 rfl)) (g := mkF m 148 _ _) rfl (hb hby at_148) _ k_) ?_
  show Go p e below _ (T0.setTop (mkF m 150 _ [(.int (2147483647 : Int32)), (.int p5)]))
  refine gs.iand X0.here hx (hb hby at_150) ?_
  refine gs.iload X0.here hx (hb hby at_151) rfl ?_
  refine Go.fin (fun t_ k_ => iremM X0 hx rfl (hb hby at_153) rfl (z_ne hb_ny) k_) ?_
  show Go p e below _ (T0.setTop (mkF m 154 _ [(.int ((p5 &&& (2147483647 : Int32)) % ny))]))
  refine gs.istore X0.here hx (hb hby at_154) (l' := #[.val (.int lf0), .val (.int lf1), .val (.int p3), .val (.int lf3), .val (.int p5), .val (.int lf5), .val (.int lf6), .val (.int lf7), .val (.int lf8), .val (.ref ld9), .val (.ref ad3), .val (.int xx), .val (.int yy), .val (.int nx), .val (.int ny), .val (.int pp), .val (.int ((p5 &&& (2147483647 : Int32)) % ny))]) rfl ?_
  generalize hk_qq : ((p5 &&& (2147483647 : Int32)) % ny) = qq
  show Go p e below _ (T0.setTop (mkF m 156 #[.val (.int lf0), .val (.int lf1), .val (.int p3), .val (.int lf3), .val (.int p5), .val (.int lf5), .val (.int lf6), .val (.int lf7), .val (.int lf8), .val (.ref ld9), .val (.ref ad3), .val (.int xx), .val (.int yy), .val (.int nx), .val (.int ny), .val (.int pp), .val (.int qq)] []))
  have hb_qq := rm_bd p5 hb_ny
  rw [hk_qq] at hb_qq
  refine gs.aload X0.here hx (hb hby at_156) rfl rfl ?_
  refine gs.iload X0.here hx (hb hby at_158) rfl ?_
  refine gs.iload X0.here hx (hb hby at_160) rfl ?_
  by_cases hp0 : pp = (0 : Int32)
  case pos =>
    by_cases hpu : ux < (pp + (1 : Int32))
    case pos =>
      refine gs.virt 0 X0 hx hZ hown (am22_1 l Z a0 hw [] u_1 aw0 u_0 kaw0 HW (ad3) (xx) (pp) (ad4) (ad5) (ad6) (ad7) (ad8) (ad9) (w0) (t0) (kc1) (fs) (kc2) (fu) (kc3) (fl) (kc4) (fh) (kc6) (ft) (ux) h1 n0 Ol HE_ad3 HF_ad3_Domains_trail HF_ad3_Domains_initial HF_ad3_Domains_lower HF_ad3_Domains_upper HF_ad3_Domains_holes HF_ad3_Domains_sizes HF_ad3_Domains_withOneValue HF_ad3_Domains_trailSize HF_ad3_Domains_resized HE_ad4 HG_ad9 HG_ad7 HG_ad6 HG_ad8 HG_ad4 nn_ad3 nn_ad4 nn_ad6 nn_ad9 ne_ad3_ad4 ne_ad3_ad6 ne_ad3_ad9 ne_ad4_ad6 ne_ad4_ad9 ne_ad6_ad9 (by have o2 : (2 : Int32).toInt = 2 := rfl; omega) (by rw [ht0]; decide) hpu hp0 (by rw [ht0]; decide) hf_ux hf_lx hf_hx hO_ad8) (wd hw 179 rfl) (wd hw 104 rfl) (wd hw 175 rfl) (wd hw 176 rfl) (notFace_of_selects (args := #[]) (mvT hZ (wd hw 178 rfl))) (wd hw 178 rfl) (wd hw 177 rfl) (by decide) HE_ad3 (by decide) (by decide) (by rw [hml]; rfl) [(.int xx), (.int pp)] (lenOf pd_15 rfl) rfl (Nat.le_of_eq rfl) (hb hby at_162) rfl e0 (by decide) (by decide) fun T1 Lc1 v1 X1 hQ1 => ?_
      obtain ⟨ex1_0, rfl, Nq1, K1, p1_0, p1_1, p1_2, p1_3, p1_4, p1_5, p1_6, p1_7, p1_8, p1_9, p1_10, p1_11, p1_12, p1_13⟩ := hQ1
      have old1 := Ol.keep K1 (allS nn_ad3 (allS nn_ad4 (allS nn_ad6 (allS nn_ad9 all0))))
      have hk1 := Nat.le_trans hk0 K1.1
      have kp1 := kp0.trans K1 (allS (Or.inr sz_ad3) (allS (Or.inr sz_ad4) (allS (Or.inr sz_ad6) (allS (Or.inr sz_ad9) all0))))
      have N1 := Fr.app N0 Nq1
      show Go p e below _ (T1.setTop (mkF m 165 _ []))
      have f2 := (HG_ad7.keep K1 (ninS (Ne.symm ne_ad3_ad7) (ninS (Ne.symm ne_ad4_ad7) (ninS (Ne.symm ne_ad6_ad7) (ninS ne_ad7_ad9 nin0)))))
      obtain ⟨fu1, hd_fu1⟩ : ∃ z, z = fu := ⟨_, rfl⟩
      have v3_ : Ari Z T1.heap ad7 kc2 (2 : Int32) fu1 := by rw [hd_fu1]; exact f2
      obtain ⟨fl1, hd_fl1⟩ : ∃ z, z = (fun i => if i = (xx).toNatClampNeg then (ux + (1 : Int32)) else fl i) := ⟨_, rfl⟩
      have v4_ : Ari Z T1.heap ad6 kc3 (2 : Int32) fl1 := by rw [hd_fl1]; exact p1_12
      have f5 := (HG_ad8.keep K1 (ninS (Ne.symm ne_ad3_ad8) (ninS (Ne.symm ne_ad4_ad8) (ninS (Ne.symm ne_ad6_ad8) (ninS ne_ad8_ad9 nin0)))))
      obtain ⟨fh1, hd_fh1⟩ : ∃ z, z = fh := ⟨_, rfl⟩
      have v6_ : Arw Z T1.heap ad8 kc4 (.array .long) (2 : Int32) fh1 := by rw [hd_fh1]; exact f5
      obtain ⟨fs1, hd_fs1⟩ : ∃ z, z = (fun i => if i = (xx).toNatClampNeg then ((fs (xx).toNatClampNeg) - (mxI (0 : Int32) ((ux + (1 : Int32)) - (0 : Int32)))) else fs i) := ⟨_, rfl⟩
      have v7_ : Ari Z T1.heap ad9 kc1 (2 : Int32) fs1 := by rw [hd_fs1]; exact p1_13
      obtain ⟨ft1, hd_ft1⟩ : ∃ z, z = (fun i => if i = (t0).toNatClampNeg then ((((xx.toInt64) <<< ((32 : Int32) &&& 0x3f).toInt64) ||| ((1 : Int64) <<< ((30 : Int32) &&& 0x3f).toInt64)) ||| (0 : Int64)) else ft i) := ⟨_, rfl⟩
      have v8_ : Arf Z T1.heap ad4 kc6 (1024 : Int32) ft1 := by rw [hd_ft1]; exact p1_11
      obtain ⟨t1, hd_t1⟩ : ∃ z, z = (t0 + (1 : Int32)) := ⟨_, rfl⟩
      have v9_ : Fld Z T1.heap ad3 "com/example/monarc/monarc/Domains" "trailSize" "I" (.int t1) := by rw [hd_t1]; exact p1_7
      obtain ⟨w1, hd_w1⟩ : ∃ z, z = ex1_0 := ⟨_, rfl⟩
      have v10_ : Fld Z T1.heap ad3 "com/example/monarc/monarc/Domains" "withOneValue" "I" (.int w1) := by rw [hd_w1]; exact p1_9
      have hne : ¬ (yy).toNatClampNeg = (xx).toNatClampNeg := fun q => by rw [Int32.toNatClampNeg, Int32.toNatClampNeg] at q; omega
      have hf_uy1 : (fu1 (yy).toNatClampNeg) = uy := by rw [hd_fu1]; first | exact hf_uy | exact (if_neg hne).trans hf_uy
      have hf_ly1 : (fl1 (yy).toNatClampNeg) = (0 : Int32) := by rw [hd_fl1]; first | exact hf_ly | exact (if_neg hne).trans hf_ly
      have hf_hy1 : (fh1 (yy).toNatClampNeg) = .null := by rw [hd_fh1]; first | exact hf_hy | exact (if_neg hne).trans hf_hy
      have ht1 : t1 = (1 : Int32) := by rw [hd_t1, ht0]; decide
      have H1 : HM (ft1 ((0 : Int32)).toNatClampNeg) = EX pp nx := by rw [hd_ft1, ht0]; simp only [if_true]; exact (hm_low xx).trans (if_pos hp0).symm
      have f11 := (HE_ad2.keep K1)
      have f12 := (HF_ad2_InitialDomain_size.keep K1 (ninS ne_ad2_ad3 (ninS ne_ad2_ad4 (ninS ne_ad2_ad6 (ninS ne_ad2_ad9 nin0)))))
      have f13 := (HE_ad8.keep K1)
      have f14 := (HG_ad5.keep K1 (ninS (Ne.symm ne_ad3_ad5) (ninS (Ne.symm ne_ad4_ad5) (ninS ne_ad5_ad6 (ninS ne_ad5_ad9 nin0)))))
      exact sg3 hw u_1 aw0 u_0 kaw0 HW hx hby hml hret hlk (vm0 := vm0) X1 S0 hk1 hZ hown rfl N1 kp1 old1 hQ ad2 lf0 lf1 p3 lf3 p5 lf5 lf6 lf7 lf8 ld9 ad3 xx yy nx ny pp qq ad4 ad5 ad6 ad7 ad8 ad9 w1 t1 kc1 fs1 kc2 fu1 kc3 fl1 kc4 fh1 kc5 fa kc6 ft1 ux uy xx f11 f12 p1_0 p1_6 p1_2 p1_3 p1_8 p1_1 p1_5 v10_ v9_ p1_4 f13 p1_10 v7_ v3_ v4_ v6_ f14 v8_ nn_ad3 nn_ad4 nn_ad6 nn_ad7 nn_ad8 nn_ad9 sz_ad3 sz_ad4 sz_ad6 sz_ad7 sz_ad8 sz_ad9 ne_ad3_ad4 ne_ad3_ad6 ne_ad3_ad7 ne_ad3_ad8 ne_ad3_ad9 ne_ad4_ad6 ne_ad4_ad7 ne_ad4_ad8 ne_ad4_ad9 ne_ad6_ad9 ne_ad7_ad9 ne_ad8_ad9 hb_xx hb_yy hb_nx hb_ny hb_ux hb_uy hd_ux hd_uy hb_pp hb_qq hf_uy1 hf_ly1 hf_hy1 hf_ay ht1 H1 hO_ad8 hO_ad5
    case neg =>
      refine gs.virt 0 X0 hx hZ hown (am22_2 l Z a0 hw [] u_1 aw0 u_0 kaw0 HW (ad3) (xx) (pp) (ad4) (ad5) (ad6) (ad7) (ad8) (ad9) (w0) (t0) (kc1) (fs) (kc2) (fu) (kc3) (fl) (kc4) (fh) (kc6) (ft) (ux) h1 n0 Ol HE_ad3 HF_ad3_Domains_trail HF_ad3_Domains_initial HF_ad3_Domains_lower HF_ad3_Domains_upper HF_ad3_Domains_holes HF_ad3_Domains_sizes HF_ad3_Domains_withOneValue HF_ad3_Domains_trailSize HF_ad3_Domains_resized HE_ad4 HG_ad9 HG_ad7 HG_ad6 HG_ad8 HG_ad4 nn_ad3 nn_ad4 nn_ad6 nn_ad9 ne_ad3_ad4 ne_ad3_ad6 ne_ad3_ad9 ne_ad4_ad6 ne_ad4_ad9 ne_ad6_ad9 (by have o2 : (2 : Int32).toInt = 2 := rfl; omega) (by rw [ht0]; decide) hpu hp0 (by rw [ht0]; decide) hf_ux hf_lx hf_hx hO_ad8) (wd hw 179 rfl) (wd hw 104 rfl) (wd hw 175 rfl) (wd hw 176 rfl) (notFace_of_selects (args := #[]) (mvT hZ (wd hw 178 rfl))) (wd hw 178 rfl) (wd hw 177 rfl) (by decide) HE_ad3 (by decide) (by decide) (by rw [hml]; rfl) [(.int xx), (.int pp)] (lenOf pd_15 rfl) rfl (Nat.le_of_eq rfl) (hb hby at_162) rfl e0 (by decide) (by decide) fun T15 Lc15 v15 X15 hQ15 => ?_
      obtain ⟨ex15_0, rfl, Nq15, K15, p15_0, p15_1, p15_2, p15_3, p15_4, p15_5, p15_6, p15_7, p15_8, p15_9, p15_10, p15_11, p15_12, p15_13⟩ := hQ15
      have old15 := Ol.keep K15 (allS nn_ad3 (allS nn_ad4 (allS nn_ad6 (allS nn_ad9 all0))))
      have hk15 := Nat.le_trans hk0 K15.1
      have kp15 := kp0.trans K15 (allS (Or.inr sz_ad3) (allS (Or.inr sz_ad4) (allS (Or.inr sz_ad6) (allS (Or.inr sz_ad9) all0))))
      have N15 := Fr.app N0 Nq15
      show Go p e below _ (T15.setTop (mkF m 165 _ []))
      have f16 := (HG_ad7.keep K15 (ninS (Ne.symm ne_ad3_ad7) (ninS (Ne.symm ne_ad4_ad7) (ninS (Ne.symm ne_ad6_ad7) (ninS ne_ad7_ad9 nin0)))))
      obtain ⟨fu1, hd_fu1⟩ : ∃ z, z = fu := ⟨_, rfl⟩
      have v17_ : Ari Z T15.heap ad7 kc2 (2 : Int32) fu1 := by rw [hd_fu1]; exact f16
      obtain ⟨fl1, hd_fl1⟩ : ∃ z, z = (fun i => if i = (xx).toNatClampNeg then (pp + (1 : Int32)) else fl i) := ⟨_, rfl⟩
      have v18_ : Ari Z T15.heap ad6 kc3 (2 : Int32) fl1 := by rw [hd_fl1]; exact p15_12
      have f19 := (HG_ad8.keep K15 (ninS (Ne.symm ne_ad3_ad8) (ninS (Ne.symm ne_ad4_ad8) (ninS (Ne.symm ne_ad6_ad8) (ninS ne_ad8_ad9 nin0)))))
      obtain ⟨fh1, hd_fh1⟩ : ∃ z, z = fh := ⟨_, rfl⟩
      have v20_ : Arw Z T15.heap ad8 kc4 (.array .long) (2 : Int32) fh1 := by rw [hd_fh1]; exact f19
      obtain ⟨fs1, hd_fs1⟩ : ∃ z, z = (fun i => if i = (xx).toNatClampNeg then ((fs (xx).toNatClampNeg) - (mxI (0 : Int32) ((pp + (1 : Int32)) - (0 : Int32)))) else fs i) := ⟨_, rfl⟩
      have v21_ : Ari Z T15.heap ad9 kc1 (2 : Int32) fs1 := by rw [hd_fs1]; exact p15_13
      obtain ⟨ft1, hd_ft1⟩ : ∃ z, z = (fun i => if i = (t0).toNatClampNeg then ((((xx.toInt64) <<< ((32 : Int32) &&& 0x3f).toInt64) ||| ((1 : Int64) <<< ((30 : Int32) &&& 0x3f).toInt64)) ||| (0 : Int64)) else ft i) := ⟨_, rfl⟩
      have v22_ : Arf Z T15.heap ad4 kc6 (1024 : Int32) ft1 := by rw [hd_ft1]; exact p15_11
      obtain ⟨t1, hd_t1⟩ : ∃ z, z = (t0 + (1 : Int32)) := ⟨_, rfl⟩
      have v23_ : Fld Z T15.heap ad3 "com/example/monarc/monarc/Domains" "trailSize" "I" (.int t1) := by rw [hd_t1]; exact p15_7
      obtain ⟨w1, hd_w1⟩ : ∃ z, z = ex15_0 := ⟨_, rfl⟩
      have v24_ : Fld Z T15.heap ad3 "com/example/monarc/monarc/Domains" "withOneValue" "I" (.int w1) := by rw [hd_w1]; exact p15_9
      have hne : ¬ (yy).toNatClampNeg = (xx).toNatClampNeg := fun q => by rw [Int32.toNatClampNeg, Int32.toNatClampNeg] at q; omega
      have hf_uy1 : (fu1 (yy).toNatClampNeg) = uy := by rw [hd_fu1]; first | exact hf_uy | exact (if_neg hne).trans hf_uy
      have hf_ly1 : (fl1 (yy).toNatClampNeg) = (0 : Int32) := by rw [hd_fl1]; first | exact hf_ly | exact (if_neg hne).trans hf_ly
      have hf_hy1 : (fh1 (yy).toNatClampNeg) = .null := by rw [hd_fh1]; first | exact hf_hy | exact (if_neg hne).trans hf_hy
      have ht1 : t1 = (1 : Int32) := by rw [hd_t1, ht0]; decide
      have H1 : HM (ft1 ((0 : Int32)).toNatClampNeg) = EX pp nx := by rw [hd_ft1, ht0]; simp only [if_true]; exact (hm_low xx).trans (if_pos hp0).symm
      have f25 := (HE_ad2.keep K15)
      have f26 := (HF_ad2_InitialDomain_size.keep K15 (ninS ne_ad2_ad3 (ninS ne_ad2_ad4 (ninS ne_ad2_ad6 (ninS ne_ad2_ad9 nin0)))))
      have f27 := (HE_ad8.keep K15)
      have f28 := (HG_ad5.keep K15 (ninS (Ne.symm ne_ad3_ad5) (ninS (Ne.symm ne_ad4_ad5) (ninS ne_ad5_ad6 (ninS ne_ad5_ad9 nin0)))))
      exact sg3 hw u_1 aw0 u_0 kaw0 HW hx hby hml hret hlk (vm0 := vm0) X15 S0 hk15 hZ hown rfl N15 kp15 old15 hQ ad2 lf0 lf1 p3 lf3 p5 lf5 lf6 lf7 lf8 ld9 ad3 xx yy nx ny pp qq ad4 ad5 ad6 ad7 ad8 ad9 w1 t1 kc1 fs1 kc2 fu1 kc3 fl1 kc4 fh1 kc5 fa kc6 ft1 ux uy xx f25 f26 p15_0 p15_6 p15_2 p15_3 p15_8 p15_1 p15_5 v24_ v23_ p15_4 f27 p15_10 v21_ v17_ v18_ v20_ f28 v22_ nn_ad3 nn_ad4 nn_ad6 nn_ad7 nn_ad8 nn_ad9 sz_ad3 sz_ad4 sz_ad6 sz_ad7 sz_ad8 sz_ad9 ne_ad3_ad4 ne_ad3_ad6 ne_ad3_ad7 ne_ad3_ad8 ne_ad3_ad9 ne_ad4_ad6 ne_ad4_ad7 ne_ad4_ad8 ne_ad4_ad9 ne_ad6_ad9 ne_ad7_ad9 ne_ad8_ad9 hb_xx hb_yy hb_nx hb_ny hb_ux hb_uy hd_ux hd_uy hb_pp hb_qq hf_uy1 hf_ly1 hf_hy1 hf_ay ht1 H1 hO_ad8 hO_ad5
  case neg =>
    by_cases hpe : pp = ux
    case pos =>
      refine gs.virt 0 X0 hx hZ hown (am22_3 l Z a0 hw [] u_1 aw0 u_0 kaw0 HW (ad3) (xx) (pp) (ad4) (ad5) (ad6) (ad7) (ad8) (ad9) (w0) (t0) (kc1) (fs) (kc2) (fu) (kc3) (fl) (kc4) (fh) (kc6) (ft) (ux) h1 n0 Ol HE_ad3 HF_ad3_Domains_trail HF_ad3_Domains_initial HF_ad3_Domains_lower HF_ad3_Domains_upper HF_ad3_Domains_holes HF_ad3_Domains_sizes HF_ad3_Domains_withOneValue HF_ad3_Domains_trailSize HF_ad3_Domains_resized HE_ad4 HG_ad9 HG_ad7 HG_ad6 HG_ad8 HG_ad4 nn_ad3 nn_ad4 nn_ad7 nn_ad9 ne_ad3_ad4 ne_ad3_ad7 ne_ad3_ad9 ne_ad4_ad7 ne_ad4_ad9 ne_ad7_ad9 (i_nlt (by have o0 : (0 : Int32).toInt = 0 := rfl; have o1 : (1 : Int32).toInt = 1 := rfl; have q : ¬ pp.toInt = (0 : Int32).toInt := fun y => hp0 (Int32.toInt_inj.mp y); rw [Jvm.Kit.i32_sub (by omega) (by omega)]; omega)) (by have o2 : (2 : Int32).toInt = 2 := rfl; omega) (by rw [ht0]; decide) hp0 hpe (by rw [ht0]; decide) hf_ux hf_lx hf_hx hO_ad8) (wd hw 179 rfl) (wd hw 104 rfl) (wd hw 175 rfl) (wd hw 176 rfl) (notFace_of_selects (args := #[]) (mvT hZ (wd hw 178 rfl))) (wd hw 178 rfl) (wd hw 177 rfl) (by decide) HE_ad3 (by decide) (by decide) (by rw [hml]; rfl) [(.int xx), (.int pp)] (lenOf pd_15 rfl) rfl (Nat.le_of_eq rfl) (hb hby at_162) rfl e0 (by decide) (by decide) fun T29 Lc29 v29 X29 hQ29 => ?_
      obtain ⟨ex29_0, rfl, Nq29, K29, p29_0, p29_1, p29_2, p29_3, p29_4, p29_5, p29_6, p29_7, p29_8, p29_9, p29_10, p29_11, p29_12, p29_13⟩ := hQ29
      have old29 := Ol.keep K29 (allS nn_ad3 (allS nn_ad4 (allS nn_ad7 (allS nn_ad9 all0))))
      have hk29 := Nat.le_trans hk0 K29.1
      have kp29 := kp0.trans K29 (allS (Or.inr sz_ad3) (allS (Or.inr sz_ad4) (allS (Or.inr sz_ad7) (allS (Or.inr sz_ad9) all0))))
      have N29 := Fr.app N0 Nq29
      show Go p e below _ (T29.setTop (mkF m 165 _ []))
      obtain ⟨fu1, hd_fu1⟩ : ∃ z, z = (fun i => if i = (xx).toNatClampNeg then (pp - (1 : Int32)) else fu i) := ⟨_, rfl⟩
      have v30_ : Ari Z T29.heap ad7 kc2 (2 : Int32) fu1 := by rw [hd_fu1]; exact p29_12
      have f31 := (HG_ad6.keep K29 (ninS (Ne.symm ne_ad3_ad6) (ninS (Ne.symm ne_ad4_ad6) (ninS ne_ad6_ad7 (ninS ne_ad6_ad9 nin0)))))
      obtain ⟨fl1, hd_fl1⟩ : ∃ z, z = fl := ⟨_, rfl⟩
      have v32_ : Ari Z T29.heap ad6 kc3 (2 : Int32) fl1 := by rw [hd_fl1]; exact f31
      have f33 := (HG_ad8.keep K29 (ninS (Ne.symm ne_ad3_ad8) (ninS (Ne.symm ne_ad4_ad8) (ninS (Ne.symm ne_ad7_ad8) (ninS ne_ad8_ad9 nin0)))))
      obtain ⟨fh1, hd_fh1⟩ : ∃ z, z = fh := ⟨_, rfl⟩
      have v34_ : Arw Z T29.heap ad8 kc4 (.array .long) (2 : Int32) fh1 := by rw [hd_fh1]; exact f33
      obtain ⟨fs1, hd_fs1⟩ : ∃ z, z = (fun i => if i = (xx).toNatClampNeg then ((fs (xx).toNatClampNeg) - (mxI (0 : Int32) ((ux + (1 : Int32)) - ((pp - (1 : Int32)) + (1 : Int32))))) else fs i) := ⟨_, rfl⟩
      have v35_ : Ari Z T29.heap ad9 kc1 (2 : Int32) fs1 := by rw [hd_fs1]; exact p29_13
      obtain ⟨ft1, hd_ft1⟩ : ∃ z, z = (fun i => if i = (t0).toNatClampNeg then ((((xx.toInt64) <<< ((32 : Int32) &&& 0x3f).toInt64) ||| ((2 : Int64) <<< ((30 : Int32) &&& 0x3f).toInt64)) ||| (ux.toInt64)) else ft i) := ⟨_, rfl⟩
      have v36_ : Arf Z T29.heap ad4 kc6 (1024 : Int32) ft1 := by rw [hd_ft1]; exact p29_11
      obtain ⟨t1, hd_t1⟩ : ∃ z, z = (t0 + (1 : Int32)) := ⟨_, rfl⟩
      have v37_ : Fld Z T29.heap ad3 "com/example/monarc/monarc/Domains" "trailSize" "I" (.int t1) := by rw [hd_t1]; exact p29_7
      obtain ⟨w1, hd_w1⟩ : ∃ z, z = ex29_0 := ⟨_, rfl⟩
      have v38_ : Fld Z T29.heap ad3 "com/example/monarc/monarc/Domains" "withOneValue" "I" (.int w1) := by rw [hd_w1]; exact p29_9
      have hne : ¬ (yy).toNatClampNeg = (xx).toNatClampNeg := fun q => by rw [Int32.toNatClampNeg, Int32.toNatClampNeg] at q; omega
      have hf_uy1 : (fu1 (yy).toNatClampNeg) = uy := by rw [hd_fu1]; first | exact hf_uy | exact (if_neg hne).trans hf_uy
      have hf_ly1 : (fl1 (yy).toNatClampNeg) = (0 : Int32) := by rw [hd_fl1]; first | exact hf_ly | exact (if_neg hne).trans hf_ly
      have hf_hy1 : (fh1 (yy).toNatClampNeg) = .null := by rw [hd_fh1]; first | exact hf_hy | exact (if_neg hne).trans hf_hy
      have ht1 : t1 = (1 : Int32) := by rw [hd_t1, ht0]; decide
      have H1 : HM (ft1 ((0 : Int32)).toNatClampNeg) = EX pp nx := by rw [hd_ft1, ht0]; simp only [if_true]; exact (hm_upp xx (by omega)).trans ((if_neg hp0).trans (if_pos (hpe.trans hd_ux))).symm
      have f39 := (HE_ad2.keep K29)
      have f40 := (HF_ad2_InitialDomain_size.keep K29 (ninS ne_ad2_ad3 (ninS ne_ad2_ad4 (ninS ne_ad2_ad7 (ninS ne_ad2_ad9 nin0)))))
      have f41 := (HE_ad8.keep K29)
      have f42 := (HG_ad5.keep K29 (ninS (Ne.symm ne_ad3_ad5) (ninS (Ne.symm ne_ad4_ad5) (ninS ne_ad5_ad7 (ninS ne_ad5_ad9 nin0)))))
      exact sg3 hw u_1 aw0 u_0 kaw0 HW hx hby hml hret hlk (vm0 := vm0) X29 S0 hk29 hZ hown rfl N29 kp29 old29 hQ ad2 lf0 lf1 p3 lf3 p5 lf5 lf6 lf7 lf8 ld9 ad3 xx yy nx ny pp qq ad4 ad5 ad6 ad7 ad8 ad9 w1 t1 kc1 fs1 kc2 fu1 kc3 fl1 kc4 fh1 kc5 fa kc6 ft1 ux uy xx f39 f40 p29_0 p29_6 p29_2 p29_3 p29_8 p29_1 p29_5 v38_ v37_ p29_4 f41 p29_10 v35_ v30_ v32_ v34_ f42 v36_ nn_ad3 nn_ad4 nn_ad6 nn_ad7 nn_ad8 nn_ad9 sz_ad3 sz_ad4 sz_ad6 sz_ad7 sz_ad8 sz_ad9 ne_ad3_ad4 ne_ad3_ad6 ne_ad3_ad7 ne_ad3_ad8 ne_ad3_ad9 ne_ad4_ad6 ne_ad4_ad7 ne_ad4_ad8 ne_ad4_ad9 ne_ad6_ad9 ne_ad7_ad9 ne_ad8_ad9 hb_xx hb_yy hb_nx hb_ny hb_ux hb_uy hd_ux hd_uy hb_pp hb_qq hf_uy1 hf_ly1 hf_hy1 hf_ay ht1 H1 hO_ad8 hO_ad5
    case neg =>
      obtain ⟨wx, hd_wx⟩ : ∃ z, z = (((nx + (63 : Int32)).toUInt32 >>> ((6 : Int32) &&& 31).toUInt32).toInt32) := ⟨_, rfl⟩
      have hb_wx : wx.toInt = (nx.toInt + 63) / 64 := by rw [hd_wx]; exact wn_ hb_nx
      have hb_ip := ix_ (x := pp) hb_pp.1
      refine gs.virt 0 X0 hx hZ hown (am22_4 l Z a0 hw [] u_1 aw0 u_0 kaw0 HW (ad3) (xx) (pp) (ad1) (nx) (ad4) (ad5) (ad6) (ad7) (ad8) (ad9) (w0) (t0) (kc1) (fs) (kc2) (fu) (kc3) (fl) (kc4) (fh) (kc5) (fa) (kc6) (ft) (ux) (wx) h1 n0 Ol HE_ad1 HF_ad1_InitialDomain_size HE_ad3 HF_ad3_Domains_trail HF_ad3_Domains_initial HF_ad3_Domains_lower HF_ad3_Domains_upper HF_ad3_Domains_holes HF_ad3_Domains_sizes HF_ad3_Domains_withOneValue HF_ad3_Domains_trailSize HF_ad3_Domains_resized HE_ad8 HE_ad4 HG_ad9 HG_ad7 HG_ad6 HG_ad8 HG_ad5 HG_ad4 nn_ad3 nn_ad4 nn_ad8 nn_ad9 ne_ad3_ad4 ne_ad3_ad8 ne_ad3_ad9 ne_ad4_ad8 ne_ad4_ad9 ne_ad8_ad9 (by rw [Int32.toNatClampNeg]; omega) (by omega) (by have o2 : (2 : Int32).toInt = 2 := rfl; omega) (by rw [ht0]; decide) (i_nlt (by have o0 : (0 : Int32).toInt = 0 := rfl; omega)) hp0 hpe (by rw [ht0]; decide) hd_wx.symm hf_ux hf_lx hf_hx hf_ax hO_ad8 hO_ad5) (wd hw 179 rfl) (wd hw 104 rfl) (wd hw 175 rfl) (wd hw 176 rfl) (notFace_of_selects (args := #[]) (mvT hZ (wd hw 178 rfl))) (wd hw 178 rfl) (wd hw 177 rfl) (by decide) HE_ad3 (by decide) (by decide) (by rw [hml]; rfl) [(.int xx), (.int pp)] (lenOf pd_15 rfl) rfl (Nat.le_of_eq rfl) (hb hby at_162) rfl e0 (by decide) (by decide) fun T43 Lc43 v43 X43 hQ43 => ?_
      obtain ⟨b43_0, kx43_0, ex43_0, ex43_1, rfl, gb_b43_0, Nq43, K43, p43_0, p43_1, p43_2, p43_3, p43_4, p43_5, p43_6, p43_7, p43_8, p43_9, p43_10, p43_11, p43_12, p43_13, p43_14, p43_15, p43_16⟩ := hQ43
      have nn_b43_0 : n0 ≤ b43_0 := Nat.le_trans (old_z0 Ol) gb_b43_0
      have sz_b43_0 : h0.size ≤ b43_0 := Nat.le_trans kp0.1 gb_b43_0
      have old43 := Ol.keep K43 (allS nn_ad3 (allS nn_ad4 (allS nn_ad8 (allS nn_ad9 all0))))
      have hk43 := Nat.le_trans hk0 K43.1
      have kp43 := kp0.trans K43 (allS (Or.inr sz_ad3) (allS (Or.inr sz_ad4) (allS (Or.inr sz_ad8) (allS (Or.inr sz_ad9) all0))))
      have N43 := Fr.app N0 Nq43
      show Go p e below _ (T43.setTop (mkF m 165 _ []))
      have f44 := (HG_ad7.keep K43 (ninS (Ne.symm ne_ad3_ad7) (ninS (Ne.symm ne_ad4_ad7) (ninS ne_ad7_ad8 (ninS ne_ad7_ad9 nin0)))))
      obtain ⟨fu1, hd_fu1⟩ : ∃ z, z = fu := ⟨_, rfl⟩
      have v45_ : Ari Z T43.heap ad7 kc2 (2 : Int32) fu1 := by rw [hd_fu1]; exact f44
      have f46 := (HG_ad6.keep K43 (ninS (Ne.symm ne_ad3_ad6) (ninS (Ne.symm ne_ad4_ad6) (ninS ne_ad6_ad8 (ninS ne_ad6_ad9 nin0)))))
      obtain ⟨fl1, hd_fl1⟩ : ∃ z, z = fl := ⟨_, rfl⟩
      have v47_ : Ari Z T43.heap ad6 kc3 (2 : Int32) fl1 := by rw [hd_fl1]; exact f46
      obtain ⟨fh1, hd_fh1⟩ : ∃ z, z = (fun i => if i = (xx).toNatClampNeg then (.ref b43_0) else fh i) := ⟨_, rfl⟩
      have v48_ : Arw Z T43.heap ad8 kc4 (.array .long) (2 : Int32) fh1 := by rw [hd_fh1]; exact p43_13
      obtain ⟨fs1, hd_fs1⟩ : ∃ z, z = (fun i => if i = (xx).toNatClampNeg then ((fs (xx).toNatClampNeg) - (1 : Int32)) else fs i) := ⟨_, rfl⟩
      have v49_ : Ari Z T43.heap ad9 kc1 (2 : Int32) fs1 := by rw [hd_fs1]; exact p43_14
      obtain ⟨ft1, hd_ft1⟩ : ∃ z, z = (fun i => if i = (t0).toNatClampNeg then ((((xx.toInt64) <<< ((32 : Int32) &&& 0x3f).toInt64) ||| ((0 : Int64) <<< ((30 : Int32) &&& 0x3f).toInt64)) ||| (pp.toInt64)) else ft i) := ⟨_, rfl⟩
      have v50_ : Arf Z T43.heap ad4 kc6 (1024 : Int32) ft1 := by rw [hd_ft1]; exact p43_11
      obtain ⟨t1, hd_t1⟩ : ∃ z, z = (t0 + (1 : Int32)) := ⟨_, rfl⟩
      have v51_ : Fld Z T43.heap ad3 "com/example/monarc/monarc/Domains" "trailSize" "I" (.int t1) := by rw [hd_t1]; exact p43_7
      obtain ⟨w1, hd_w1⟩ : ∃ z, z = ex43_0 := ⟨_, rfl⟩
      have v52_ : Fld Z T43.heap ad3 "com/example/monarc/monarc/Domains" "withOneValue" "I" (.int w1) := by rw [hd_w1]; exact p43_9
      have hne : ¬ (yy).toNatClampNeg = (xx).toNatClampNeg := fun q => by rw [Int32.toNatClampNeg, Int32.toNatClampNeg] at q; omega
      have hf_uy1 : (fu1 (yy).toNatClampNeg) = uy := by rw [hd_fu1]; first | exact hf_uy | exact (if_neg hne).trans hf_uy
      have hf_ly1 : (fl1 (yy).toNatClampNeg) = (0 : Int32) := by rw [hd_fl1]; first | exact hf_ly | exact (if_neg hne).trans hf_ly
      have hf_hy1 : (fh1 (yy).toNatClampNeg) = .null := by rw [hd_fh1]; first | exact hf_hy | exact (if_neg hne).trans hf_hy
      have ht1 : t1 = (1 : Int32) := by rw [hd_t1, ht0]; decide
      have H1 : HM (ft1 ((0 : Int32)).toNatClampNeg) = EX pp nx := by rw [hd_ft1, ht0]; simp only [if_true]; exact (hm_hole xx (by omega)).trans ((if_neg hp0).trans (if_neg (fun q => hpe (q.trans hd_ux.symm)))).symm
      have f53 := (HE_ad2.keep K43)
      have f54 := (HF_ad2_InitialDomain_size.keep K43 (ninS ne_ad2_ad3 (ninS ne_ad2_ad4 (ninS ne_ad2_ad8 (ninS ne_ad2_ad9 nin0)))))
      have f55 := (HG_ad5.keep K43 (ninS (Ne.symm ne_ad3_ad5) (ninS (Ne.symm ne_ad4_ad5) (ninS ne_ad5_ad8 (ninS ne_ad5_ad9 nin0)))))
      exact sg5 hw u_1 aw0 u_0 kaw0 HW hx hby hml hret hlk (vm0 := vm0) X43 S0 hk43 hZ hown rfl N43 kp43 old43 hQ ad2 lf0 lf1 p3 lf3 p5 lf5 lf6 lf7 lf8 ld9 ad3 xx yy nx ny pp qq ad4 ad5 ad6 ad7 ad8 ad9 w1 t1 kc1 fs1 kc2 fu1 kc3 fl1 kc4 fh1 kc5 fa kc6 ft1 ux uy xx f53 f54 p43_0 p43_6 p43_2 p43_3 p43_8 p43_1 p43_5 v52_ v51_ p43_4 p43_12 p43_10 v49_ v45_ v47_ v48_ f55 v50_ nn_ad3 nn_ad4 nn_ad6 nn_ad7 nn_ad8 nn_ad9 sz_ad3 sz_ad4 sz_ad6 sz_ad7 sz_ad8 sz_ad9 ne_ad3_ad4 ne_ad3_ad6 ne_ad3_ad7 ne_ad3_ad8 ne_ad3_ad9 ne_ad4_ad6 ne_ad4_ad7 ne_ad4_ad8 ne_ad4_ad9 ne_ad6_ad9 ne_ad7_ad9 ne_ad8_ad9 hb_xx hb_yy hb_nx hb_ny hb_ux hb_uy hd_ux hd_uy hb_pp hb_qq hf_uy1 hf_ly1 hf_hy1 hf_ay ht1 H1 hO_ad8 hO_ad5
theorem ef_rm0 (m : MethodId) (x0 : Int32) (x1 : Int32) (x2 : Int32) (x3 : Int32) (x4 : Int32) (x5 : Int32)  : entryFrame m #[(.int x0), (.int x1), (.int x2), (.int x3), (.int x4), (.int x5)] maxLocals = mkF m 0 #[.val (.int x0), .val (.int x1), .val (.int x2), .val (.int x3), .val (.int x4), .val (.int x5), .unset, .unset, .unset, .unset, .unset, .unset, .unset, .unset, .unset, .unset, .unset] [] := by first | (simp [entryFrame, mkF, argsToLocals, Value.category, maxLocals]; done) | rfl
def Q_rm0 (Z : State) (u_1 : Addr) (aw0 : Addr) (u_0 : ClassId) (kaw0 : ClassId) (p1 p2 p3 p4 p5 p6 : Int32) (h0 : Heap) (n0 : Nat) (v : Option Value) (h : Heap) (L : List Loc) : Prop := v = some (.int 1) ∧ Fr n0 L
set_option maxRecDepth 65536 in
set_option maxHeartbeats 40000000 in
theorem rm0 (l : Launch) (Z : State) (a0 : Array Value) (hw : ∀ d ∈ tables_1, d.before a0 Z = true) (ws : List Jvm.Cond) (u_1 : Addr) (aw0 : Addr) (u_0 : ClassId) (kaw0 : ClassId) (HW : Wd Z u_1 aw0 u_0 kaw0) (p1 p2 p3 p4 p5 p6 : Int32) (h0 : Heap) (n0 : Nat) (Ol : Old Z n0 h0)  :
    MetFree l x (head1 (Jvm.Cond.code x code maxLocals ret :: ws) room_1) (fun a_ U_ => a_ = #[(.int p1), (.int p2), (.int p3), (.int p4), (.int p5), (.int p6)] ∧ Z.Warmed39 U_.vm ∧ U_.heap = h0) (fun _ _ _ _ _ => True) (fun _ U_ o_ V_ => ∃ v_ L_, o_ = .returned v_ ∧ Q_rm0 Z u_1 aw0 u_0 kaw0 p1 p2 p3 p4 p5 p6 h0 n0 v_ V_.heap L_ ∧ ReturnedEndW U_ o_ V_ L_ room_1.cells room_1.slots) := by
  refine MetFree.of_bodySF (plainFor_of_name pn_0) hisR ?_
  intro p e s m args below meth c s₁ Bd hml0 hP hK
  obtain ⟨rfl, hZ, hh⟩ := hP
  have hx := Bd.exec
  have hby := Bd.bytes
  have hml : c.maxLocals = 17 := hml0
  have hown : s.vm.findClass "com/example/monarc/monarc/DomainsHoleMadeAtPinLaw" = some m.cls := findClass_of_methodNamed Bd.named
  have hnm := (name_of_methodNamed Bd.named Bd.method).1
  have X0 : Stand p l e room_1 s m #[(.int p1), (.int p2), (.int p3), (.int p4), (.int p5), (.int p6)] below meth c s₁ [] 0 0 := Stand.of_body Bd
  have e0 : s₁.heap = h0 := by rw [← hh, Bd.state]; rfl
  have N0 := Fr.nil n0
  have kp0 := Keep.refl h0 []
  show Go p e below (Fin2 s below (Q_rm0 Z u_1 aw0 u_0 kaw0 p1 p2 p3 p4 p5 p6 h0 n0) room_1.cells room_1.slots) _
  have S0 : s.Since s.vm 0 := (State.WarmedH.refl s).since 0
  have hk0 : 0 ≤ h0.size := Nat.zero_le _
  refine Go.step (fun t_ k_ => castTop (ef_rm0 m p1 p2 p3 p4 p5 p6) k_) ?_
  obtain ⟨Eu_1, Su_1, Eaw0, Saw0, Au_1, Aaw0⟩ := id HW
  show Go p e below _ (s₁.setTop (mkF m 0 #[.val (.int p1), .val (.int p2), .val (.int p3), .val (.int p4), .val (.int p5), .val (.int p6), .unset, .unset, .unset, .unset, .unset, .unset, .unset, .unset, .unset, .unset, .unset] []))
  refine gs.iconst 1 X0.here hx (hb hby at_0) rfl ?_
  refine gs.iloadN X0.here hx (hb hby at_1) rfl ?_
  refine Go.fin (fun t_ k_ => X0.ldcInt hx hown (mvT hZ (wd hw 0 rfl)) (g := mkF m 2 _ _) rfl (hb hby at_2) _ k_) ?_
  show Go p e below _ (s₁.setTop (mkF m 4 _ [(.int (1048575 : Int32)), (.int p1), (.int (1 : Int32))]))
  refine gs.iand X0.here hx (hb hby at_4) ?_
  refine gs.iadd X0.here hx (hb hby at_5) ?_
  refine gs.istore X0.here hx (hb hby at_6) (l' := #[.val (.int p1), .val (.int p2), .val (.int p3), .val (.int p4), .val (.int p5), .val (.int p6), .val (.int ((1 : Int32) + (p1 &&& (1048575 : Int32)))), .unset, .unset, .unset, .unset, .unset, .unset, .unset, .unset, .unset, .unset]) rfl ?_
  generalize hk_z0 : ((1 : Int32) + (p1 &&& (1048575 : Int32))) = z0
  show Go p e below _ (s₁.setTop (mkF m 8 #[.val (.int p1), .val (.int p2), .val (.int p3), .val (.int p4), .val (.int p5), .val (.int p6), .val (.int z0), .unset, .unset, .unset, .unset, .unset, .unset, .unset, .unset, .unset, .unset] []))
  have hb_z0 := z_bd p1
  rw [hk_z0] at hb_z0
  refine gs.iconst 1 X0.here hx (hb hby at_8) rfl ?_
  refine gs.iloadN X0.here hx (hb hby at_9) rfl ?_
  refine Go.fin (fun t_ k_ => X0.ldcInt hx hown (mvT hZ (wd hw 0 rfl)) (g := mkF m 10 _ _) rfl (hb hby at_10) _ k_) ?_
  show Go p e below _ (s₁.setTop (mkF m 12 _ [(.int (1048575 : Int32)), (.int p2), (.int (1 : Int32))]))
  refine gs.iand X0.here hx (hb hby at_12) ?_
  refine gs.iadd X0.here hx (hb hby at_13) ?_
  refine gs.istore X0.here hx (hb hby at_14) (l' := #[.val (.int p1), .val (.int p2), .val (.int p3), .val (.int p4), .val (.int p5), .val (.int p6), .val (.int z0), .val (.int ((1 : Int32) + (p2 &&& (1048575 : Int32)))), .unset, .unset, .unset, .unset, .unset, .unset, .unset, .unset, .unset]) rfl ?_
  generalize hk_z1 : ((1 : Int32) + (p2 &&& (1048575 : Int32))) = z1
  show Go p e below _ (s₁.setTop (mkF m 16 #[.val (.int p1), .val (.int p2), .val (.int p3), .val (.int p4), .val (.int p5), .val (.int p6), .val (.int z0), .val (.int z1), .unset, .unset, .unset, .unset, .unset, .unset, .unset, .unset, .unset] []))
  have hb_z1 := z_bd p2
  rw [hk_z1] at hb_z1
  refine gs.iload X0.here hx (hb hby at_16) rfl ?_
  refine gs.iconst 1 X0.here hx (hb hby at_18) rfl ?_
  refine Go.fin (fun t_ k_ => XS.ishr X0.here hx rfl (hb hby at_19) rfl k_) ?_
  show Go p e below _ (s₁.setTop (mkF m 20 _ [(.int (p6 >>> ((1 : Int32) &&& 31)))]))
  refine gs.istore X0.here hx (hb hby at_20) (l' := #[.val (.int p1), .val (.int p2), .val (.int p3), .val (.int p4), .val (.int p5), .val (.int p6), .val (.int z0), .val (.int z1), .val (.int (p6 >>> ((1 : Int32) &&& 31))), .unset, .unset, .unset, .unset, .unset, .unset, .unset, .unset]) rfl ?_
  generalize hk_lw : (p6 >>> ((1 : Int32) &&& 31)) = lw
  show Go p e below _ (s₁.setTop (mkF m 22 #[.val (.int p1), .val (.int p2), .val (.int p3), .val (.int p4), .val (.int p5), .val (.int p6), .val (.int z0), .val (.int z1), .val (.int lw), .unset, .unset, .unset, .unset, .unset, .unset, .unset, .unset] []))
  have hb_lw := lw_bd p6
  rw [hk_lw] at hb_lw
  obtain ⟨T1, h1, X1, e1, E1, A1, D1, Y1, st1⟩ := newO X0 hx hZ hown (wd hw 1 rfl) (wd hw 2 rfl) (wd hw 3 rfl) e0 (g := (mkF m 22 #[.val (.int p1), .val (.int p2), .val (.int p3), .val (.int p4), .val (.int p5), .val (.int p6), .val (.int z0), .val (.int z1), .val (.int lw), .unset, .unset, .unset, .unset, .unset, .unset, .unset, .unset] [])) rfl (hb hby at_22) (by decide) (by decide)
  obtain ⟨b1, g1⟩ : ∃ z, z = h0.size := ⟨_, rfl⟩
  rw [← g1] at A1 D1 Y1 st1
  have nn_b1 : n0 ≤ b1 := Nat.le_trans (old_z0 Ol) (Nat.le_of_eq g1.symm)
  have sz_b1 : h0.size ≤ b1 := Nat.le_trans kp0.1 (Nat.le_of_eq g1.symm)
  have old1 := Ol.ext E1
  have kp1 := kp0.ext E1
  have hk1 := Nat.le_trans hk0 E1.1
  have F1_modCount : Fld Z h1 b1 "java/util/AbstractList" "modCount" "I" (.int (0 : Int32)) := D1 (Or.inl (wd hw 23 rfl)) (ty := .int) (by decide)
  have F1_elementData : Fld Z h1 b1 "java/util/ArrayList" "elementData" "[Ljava/lang/Object;" .null := D1 (Or.inl (wd hw 26 rfl)) (ty := (.array (.object "java/lang/Object"))) (by decide)
  have F1_size : Fld Z h1 b1 "java/util/ArrayList" "size" "I" (.int (0 : Int32)) := D1 (Or.inl (wd hw 78 rfl)) (ty := .int) (by decide)
  refine Go.fin st1 ?_
  show Go p e below _ (T1.setTop (mkF m 25 _ [(.ref b1)]))
  refine gs.dup X1.here hx (hb hby at_25) rfl ?_
  refine gs.init 1 X1 hx hZ hown (am1_1 l Z a0 hw [] u_1 aw0 u_0 kaw0 HW (b1) h1 n0 old1 A1 F1_modCount F1_elementData F1_size nn_b1) (wd hw 6 rfl) (wd hw 3 rfl) (wd hw 4 rfl) rfl (wd hw 5 rfl) (by decide) (by decide) (by decide) (by rw [hml]; rfl) [] (lenOf pd_0 rfl) rfl (Nat.le_of_eq rfl) (hb hby at_26) rfl e1 (by decide) (by decide) fun T2 Lc2 v2 X2 hQ2 => ?_
  obtain ⟨rfl, Nq2, K2, p2_0, p2_1, p2_2, p2_3⟩ := hQ2
  have old2 := old1.keep K2 (allS nn_b1 all0)
  have hk2 := Nat.le_trans hk1 K2.1
  have kp2 := kp1.trans K2 (allS (Or.inr sz_b1) all0)
  have N2 := Fr.app N0 Nq2
  show Go p e below _ (T2.setTop (mkF m 29 _ [(.ref b1)]))
  refine gs.astore X2.here hx (hb hby at_29) rfl (l' := #[.val (.int p1), .val (.int p2), .val (.int p3), .val (.int p4), .val (.int p5), .val (.int p6), .val (.int z0), .val (.int z1), .val (.int lw), .val (.ref b1), .unset, .unset, .unset, .unset, .unset, .unset, .unset]) rfl ?_
  refine gs.aload X2.here hx (hb hby at_31) rfl rfl ?_
  obtain ⟨T3, h3, X3, e3, E3, A3, D3, Y3, st3⟩ := newO X2 hx hZ hown (wd hw 27 rfl) (wd hw 28 rfl) (wd hw 29 rfl) rfl (g := (mkF m 33 #[.val (.int p1), .val (.int p2), .val (.int p3), .val (.int p4), .val (.int p5), .val (.int p6), .val (.int z0), .val (.int z1), .val (.int lw), .val (.ref b1), .unset, .unset, .unset, .unset, .unset, .unset, .unset] [(.ref b1)])) rfl (hb hby at_33) (by decide) (by decide)
  obtain ⟨b3, g3⟩ : ∃ z, z = T2.heap.size := ⟨_, rfl⟩
  rw [← g3] at A3 D3 Y3 st3
  have nn_b3 : n0 ≤ b3 := Nat.le_trans (old_z0 old2) (Nat.le_of_eq g3.symm)
  have sz_b3 : h0.size ≤ b3 := Nat.le_trans kp2.1 (Nat.le_of_eq g3.symm)
  have old3 := old2.ext E3
  have kp3 := kp2.ext E3
  have hk3 := Nat.le_trans hk2 E3.1
  have F3_name : Fld Z h3 b3 "com/example/monarc/monarc/Variable" "name" "Ljava/lang/String;" .null := D3 (Or.inr (wd hw 65 rfl)) (ty := (.object "java/lang/String")) (by decide)
  have F3_index : Fld Z h3 b3 "com/example/monarc/monarc/Variable" "index" "I" (.int (0 : Int32)) := D3 (Or.inr (wd hw 67 rfl)) (ty := .int) (by decide)
  have F3_domain : Fld Z h3 b3 "com/example/monarc/monarc/Variable" "domain" "Lcom/example/monarc/monarc/InitialDomain;" .null := D3 (Or.inr (wd hw 69 rfl)) (ty := (.object "com/example/monarc/monarc/InitialDomain")) (by decide)
  refine Go.fin st3 ?_
  show Go p e below _ (T3.setTop (mkF m 36 _ [(.ref b3), (.ref b1)]))
  refine gs.dup X3.here hx (hb hby at_36) rfl ?_
  obtain ⟨sa4, T4, h4, k1_4, X4, e4, E4, S4, hkk4, hZ4, hown4, st4⟩ := ldcS (vm0 := s.vm) X3 hx hZ hown (wd hw 30 rfl) (wS_all hw) e3 S0 hk3 (g := (mkF m 37 #[.val (.int p1), .val (.int p2), .val (.int p3), .val (.int p4), .val (.int p5), .val (.int p6), .val (.int z0), .val (.int z1), .val (.int lw), .val (.ref b1), .unset, .unset, .unset, .unset, .unset, .unset, .unset] [(.ref b3), (.ref b3), (.ref b1)])) rfl (hb hby at_37) (n := 4) (by decide +kernel) (by decide) (by decide) (by decide)
  have old4 := old3.ext E4
  have kp4 := kp3.ext E4
  have hk4 := Nat.le_trans hk3 E4.1
  refine Go.fin st4 ?_
  show Go p e below _ (T4.setTop (mkF m 39 _ [(.ref sa4), (.ref b3), (.ref b3), (.ref b1)]))
  refine gs.iconst 0 X4.here hx (hb hby at_39) rfl ?_
  refine gs.iload X4.here hx (hb hby at_40) rfl ?_
  refine gs.iload X4.here hx (hb hby at_42) rfl ?_
  refine gs.iload X4.here hx (hb hby at_44) rfl ?_
  refine gs.iconst 1 X4.here hx (hb hby at_46) rfl ?_
  refine gs.isub X4.here hx (hb hby at_47) ?_
  refine gs.iadd X4.here hx (hb hby at_48) ?_
  generalize hk_hi0 : (lw + (z0 - (1 : Int32))) = hi0
  show Go p e below _ (T4.setTop (mkF m 49 #[.val (.int p1), .val (.int p2), .val (.int p3), .val (.int p4), .val (.int p5), .val (.int p6), .val (.int z0), .val (.int z1), .val (.int lw), .val (.ref b1), .unset, .unset, .unset, .unset, .unset, .unset, .unset] [(.int hi0), (.int lw), (.int (0 : Int32)), (.ref sa4), (.ref b3), (.ref b3), (.ref b1)]))
  have hx_hi0 := hi_eq hb_lw hb_z0
  rw [hk_hi0] at hx_hi0
  refine gs.stat 5 X4 hx hZ4 hown4 (am5_1 l Z a0 hw [] u_1 aw0 u_0 kaw0 HW (lw) (hi0) (z0) h4 n0 old4 (fit_ hx_hi0 hb_z0) (i_nlt (by omega)) (sz_ hx_hi0 hb_z0)) (wd hw 41 rfl) (wd hw 40 rfl) (wd hw 38 rfl) (wd hw 39 rfl) (by decide) (by decide) (by decide) (by rw [hml]; rfl) [(.int lw), (.int hi0)] (lenOf pd_2 rfl) rfl (Nat.le_of_eq rfl) (hb hby at_49) rfl e4 (by decide) (by decide) fun T5 Lc5 v5 X5 hQ5 => ?_
  obtain ⟨b5_0, rfl, gb_b5_0, Nq5, K5, p5_0, p5_1, p5_2, p5_3⟩ := hQ5
  have nn_b5_0 : n0 ≤ b5_0 := Nat.le_trans (old_z0 old4) gb_b5_0
  have sz_b5_0 : h0.size ≤ b5_0 := Nat.le_trans kp4.1 gb_b5_0
  have old5 := old4.keep K5 all0
  have hk5 := Nat.le_trans hkk4 K5.1
  have kp5 := kp4.trans K5 all0
  have N5 := Fr.app N2 Nq5
  show Go p e below _ (T5.setTop (mkF m 52 _ [(.ref b5_0), (.int (0 : Int32)), (.ref sa4), (.ref b3), (.ref b3), (.ref b1)]))
  have f6 := ((A3.ext E4).keep K5)
  have f7 := ((F3_name.ext E4).keep K5 nin0)
  have f8 := ((F3_index.ext E4).keep K5 nin0)
  have f9 := ((F3_domain.ext E4).keep K5 nin0)
  refine gs.init 2 X5 hx hZ4 hown4 (am7_1 l Z a0 hw [] u_1 aw0 u_0 kaw0 HW (b3) (sa4) ((0 : Int32)) (b5_0) T5.heap n0 old5 f6 f7 f8 f9 nn_b3) (wd hw 57 rfl) (wd hw 29 rfl) (wd hw 55 rfl) rfl (wd hw 56 rfl) (by decide) (by decide) (by decide) (by rw [hml]; rfl) [(.ref sa4), (.int (0 : Int32)), (.ref b5_0)] (lenOf pd_3 rfl) rfl (Nat.le_of_eq rfl) (hb hby at_52) rfl rfl (by decide) (by decide) fun T10 Lc10 v10 X10 hQ10 => ?_
  obtain ⟨rfl, Nq10, K10, p10_0, p10_1⟩ := hQ10
  have old10 := old5.keep K10 (allS nn_b3 all0)
  have hk10 := Nat.le_trans hk5 K10.1
  have kp10 := kp5.trans K10 (allS (Or.inr sz_b3) all0)
  have N10 := Fr.app N5 Nq10
  show Go p e below _ (T10.setTop (mkF m 55 _ [(.ref b3), (.ref b1)]))
  have f11 := ((((p2_0.ext E3).ext E4).keep K5).keep K10)
  have ne_b1_b3 : b1 ≠ b3 := Nat.ne_of_lt (Nat.lt_of_lt_of_le p2_0.lt (Nat.le_of_eq g3.symm))
  have f12 := ((((p2_1.ext E3).ext E4).keep K5 nin0).keep K10 (ninS ne_b1_b3 nin0))
  have f13 := ((((p2_2.ext E3).ext E4).keep K5 nin0).keep K10 (ninS ne_b1_b3 nin0))
  have f14 := ((((p2_3.ext E3).ext E4).keep K5 nin0).keep K10 (ninS ne_b1_b3 nin0))
  refine gs.virt 0 X10 hx hZ4 hown4 (am9_1 l Z a0 hw [] u_1 aw0 u_0 kaw0 HW (b1) (b3) T10.heap n0 old10 f11 f12 f13 f14 p10_0 nn_b1) (wd hw 74 rfl) (wd hw 3 rfl) (wd hw 70 rfl) (wd hw 71 rfl) (notFace_of_selects (args := #[]) (mvT hZ4 (wd hw 73 rfl))) (wd hw 73 rfl) (wd hw 72 rfl) (by decide) f11 (by decide) (by decide) (by rw [hml]; rfl) [(.ref b3)] (lenOf pd_8 rfl) rfl (Nat.le_of_eq rfl) (hb hby at_55) rfl rfl (by decide) (by decide) fun T15 Lc15 v15 X15 hQ15 => ?_
  obtain ⟨b15_0, kx15_0, rfl, gb_b15_0, Nq15, K15, p15_0, p15_1, p15_2, p15_3, p15_4, ov15_0⟩ := hQ15
  have nn_b15_0 : n0 ≤ b15_0 := Nat.le_trans (old_z0 old10) gb_b15_0
  have sz_b15_0 : h0.size ≤ b15_0 := Nat.le_trans kp10.1 gb_b15_0
  have old15 := old10.keep K15 (allS nn_b1 all0)
  have hk15 := Nat.le_trans hk10 K15.1
  have kp15 := kp10.trans K15 (allS (Or.inr sz_b1) all0)
  have N15 := Fr.app N10 Nq15
  show Go p e below _ (T15.setTop (mkF m 58 _ [(.int (1 : Int32))]))
  refine gs.pop X15.here hx (hb hby at_58) rfl ?_
  refine gs.aload X15.here hx (hb hby at_59) rfl rfl ?_
  obtain ⟨T16, h16, X16, e16, E16, A16, D16, Y16, st16⟩ := newO X15 hx hZ4 hown4 (wd hw 27 rfl) (wd hw 28 rfl) (wd hw 29 rfl) rfl (g := (mkF m 61 #[.val (.int p1), .val (.int p2), .val (.int p3), .val (.int p4), .val (.int p5), .val (.int p6), .val (.int z0), .val (.int z1), .val (.int lw), .val (.ref b1), .unset, .unset, .unset, .unset, .unset, .unset, .unset] [(.ref b1)])) rfl (hb hby at_61) (by decide) (by decide)
  obtain ⟨b16, g16⟩ : ∃ z, z = T15.heap.size := ⟨_, rfl⟩
  rw [← g16] at A16 D16 Y16 st16
  have nn_b16 : n0 ≤ b16 := Nat.le_trans (old_z0 old15) (Nat.le_of_eq g16.symm)
  have sz_b16 : h0.size ≤ b16 := Nat.le_trans kp15.1 (Nat.le_of_eq g16.symm)
  have old16 := old15.ext E16
  have kp16 := kp15.ext E16
  have hk16 := Nat.le_trans hk15 E16.1
  have F16_name : Fld Z h16 b16 "com/example/monarc/monarc/Variable" "name" "Ljava/lang/String;" .null := D16 (Or.inr (wd hw 65 rfl)) (ty := (.object "java/lang/String")) (by decide)
  have F16_index : Fld Z h16 b16 "com/example/monarc/monarc/Variable" "index" "I" (.int (0 : Int32)) := D16 (Or.inr (wd hw 67 rfl)) (ty := .int) (by decide)
  have F16_domain : Fld Z h16 b16 "com/example/monarc/monarc/Variable" "domain" "Lcom/example/monarc/monarc/InitialDomain;" .null := D16 (Or.inr (wd hw 69 rfl)) (ty := (.object "com/example/monarc/monarc/InitialDomain")) (by decide)
  refine Go.fin st16 ?_
  show Go p e below _ (T16.setTop (mkF m 64 _ [(.ref b16), (.ref b1)]))
  refine gs.dup X16.here hx (hb hby at_64) rfl ?_
  obtain ⟨sa17, T17, h17, k1_17, X17, e17, E17, S17, hkk17, hZ17, hown17, st17⟩ := ldcS (vm0 := T4.vm) X16 hx hZ4 hown4 (wd hw 101 rfl) (wS_all hw) e16 S4 hk16 (g := (mkF m 65 #[.val (.int p1), .val (.int p2), .val (.int p3), .val (.int p4), .val (.int p5), .val (.int p6), .val (.int z0), .val (.int z1), .val (.int lw), .val (.ref b1), .unset, .unset, .unset, .unset, .unset, .unset, .unset] [(.ref b16), (.ref b16), (.ref b1)])) rfl (hb hby at_65) (n := 4) (by decide +kernel) (by decide) (by decide) (by decide)
  have old17 := old16.ext E17
  have kp17 := kp16.ext E17
  have hk17 := Nat.le_trans hk16 E17.1
  refine Go.fin st17 ?_
  show Go p e below _ (T17.setTop (mkF m 67 _ [(.ref sa17), (.ref b16), (.ref b16), (.ref b1)]))
  refine gs.iconst 1 X17.here hx (hb hby at_67) rfl ?_
  refine gs.iload X17.here hx (hb hby at_68) rfl ?_
  refine gs.iload X17.here hx (hb hby at_70) rfl ?_
  refine gs.iload X17.here hx (hb hby at_72) rfl ?_
  refine gs.iconst 1 X17.here hx (hb hby at_74) rfl ?_
  refine gs.isub X17.here hx (hb hby at_75) ?_
  refine gs.iadd X17.here hx (hb hby at_76) ?_
  generalize hk_hi1 : (lw + (z1 - (1 : Int32))) = hi1
  show Go p e below _ (T17.setTop (mkF m 77 #[.val (.int p1), .val (.int p2), .val (.int p3), .val (.int p4), .val (.int p5), .val (.int p6), .val (.int z0), .val (.int z1), .val (.int lw), .val (.ref b1), .unset, .unset, .unset, .unset, .unset, .unset, .unset] [(.int hi1), (.int lw), (.int (1 : Int32)), (.ref sa17), (.ref b16), (.ref b16), (.ref b1)]))
  have hx_hi1 := hi_eq hb_lw hb_z1
  rw [hk_hi1] at hx_hi1
  refine gs.stat 5 X17 hx hZ17 hown17 (am5_1 l Z a0 hw [] u_1 aw0 u_0 kaw0 HW (lw) (hi1) (z1) h17 n0 old17 (fit_ hx_hi1 hb_z1) (i_nlt (by omega)) (sz_ hx_hi1 hb_z1)) (wd hw 41 rfl) (wd hw 40 rfl) (wd hw 38 rfl) (wd hw 39 rfl) (by decide) (by decide) (by decide) (by rw [hml]; rfl) [(.int lw), (.int hi1)] (lenOf pd_2 rfl) rfl (Nat.le_of_eq rfl) (hb hby at_77) rfl e17 (by decide) (by decide) fun T18 Lc18 v18 X18 hQ18 => ?_
  obtain ⟨b18_0, rfl, gb_b18_0, Nq18, K18, p18_0, p18_1, p18_2, p18_3⟩ := hQ18
  have nn_b18_0 : n0 ≤ b18_0 := Nat.le_trans (old_z0 old17) gb_b18_0
  have sz_b18_0 : h0.size ≤ b18_0 := Nat.le_trans kp17.1 gb_b18_0
  have old18 := old17.keep K18 all0
  have hk18 := Nat.le_trans hkk17 K18.1
  have kp18 := kp17.trans K18 all0
  have N18 := Fr.app N15 Nq18
  show Go p e below _ (T18.setTop (mkF m 80 _ [(.ref b18_0), (.int (1 : Int32)), (.ref sa17), (.ref b16), (.ref b16), (.ref b1)]))
  have f19 := ((A16.ext E17).keep K18)
  have f20 := ((F16_name.ext E17).keep K18 nin0)
  have f21 := ((F16_index.ext E17).keep K18 nin0)
  have f22 := ((F16_domain.ext E17).keep K18 nin0)
  refine gs.init 2 X18 hx hZ17 hown17 (am7_1 l Z a0 hw [] u_1 aw0 u_0 kaw0 HW (b16) (sa17) ((1 : Int32)) (b18_0) T18.heap n0 old18 f19 f20 f21 f22 nn_b16) (wd hw 57 rfl) (wd hw 29 rfl) (wd hw 55 rfl) rfl (wd hw 56 rfl) (by decide) (by decide) (by decide) (by rw [hml]; rfl) [(.ref sa17), (.int (1 : Int32)), (.ref b18_0)] (lenOf pd_3 rfl) rfl (Nat.le_of_eq rfl) (hb hby at_80) rfl rfl (by decide) (by decide) fun T23 Lc23 v23 X23 hQ23 => ?_
  obtain ⟨rfl, Nq23, K23, p23_0, p23_1⟩ := hQ23
  have old23 := old18.keep K23 (allS nn_b16 all0)
  have hk23 := Nat.le_trans hk18 K23.1
  have kp23 := kp18.trans K23 (allS (Or.inr sz_b16) all0)
  have N23 := Fr.app N18 Nq23
  show Go p e below _ (T23.setTop (mkF m 83 _ [(.ref b16), (.ref b1)]))
  have f24 := ((((p15_0.ext E16).ext E17).keep K18).keep K23)
  have ne_b1_b16 : b1 ≠ b16 := Nat.ne_of_lt (Nat.lt_of_lt_of_le p15_0.lt (Nat.le_of_eq g16.symm))
  have f25 := ((((p15_1.ext E16).ext E17).keep K18 nin0).keep K23 (ninS ne_b1_b16 nin0))
  have f26 := ((((p15_2.ext E16).ext E17).keep K18 nin0).keep K23 (ninS ne_b1_b16 nin0))
  have f27 := ((((p15_3.ext E16).ext E17).keep K18 nin0).keep K23 (ninS ne_b1_b16 nin0))
  have ne_b15_0_b16 : b15_0 ≠ b16 := Nat.ne_of_lt (Nat.lt_of_lt_of_le p15_4.lt (Nat.le_of_eq g16.symm))
  have f28 := ((((p15_4.ext E16).ext E17).keep K18 nin0).keep K23 (ninS ne_b15_0_b16 nin0))
  have ne_b1_b15_0 : b1 ≠ b15_0 := Nat.ne_of_lt (Nat.lt_of_lt_of_le f11.lt gb_b15_0)
  refine gs.virt 0 X23 hx hZ17 hown17 (am9_2 l Z a0 hw [] u_1 aw0 u_0 kaw0 HW (b1) (b16) (b15_0) (b3) (kx15_0) T23.heap n0 old23 f24 f25 f26 f27 f28 p23_0 nn_b1 nn_b15_0 ne_b1_b15_0 ov15_0) (wd hw 74 rfl) (wd hw 3 rfl) (wd hw 70 rfl) (wd hw 71 rfl) (notFace_of_selects (args := #[]) (mvT hZ17 (wd hw 73 rfl))) (wd hw 73 rfl) (wd hw 72 rfl) (by decide) f24 (by decide) (by decide) (by rw [hml]; rfl) [(.ref b16)] (lenOf pd_8 rfl) rfl (Nat.le_of_eq rfl) (hb hby at_83) rfl rfl (by decide) (by decide) fun T29 Lc29 v29 X29 hQ29 => ?_
  obtain ⟨rfl, Nq29, K29, p29_0, p29_1, p29_2, p29_3, p29_4⟩ := hQ29
  have old29 := old23.keep K29 (allS nn_b1 (allS nn_b15_0 all0))
  have hk29 := Nat.le_trans hk23 K29.1
  have kp29 := kp23.trans K29 (allS (Or.inr sz_b1) (allS (Or.inr sz_b15_0) all0))
  have N29 := Fr.app N23 Nq29
  show Go p e below _ (T29.setTop (mkF m 86 _ [(.int (1 : Int32))]))
  refine gs.pop X29.here hx (hb hby at_86) rfl ?_
  obtain ⟨T30, h30, X30, e30, E30, A30, D30, Y30, st30⟩ := newO X29 hx hZ17 hown17 (wd hw 102 rfl) (wd hw 103 rfl) (wd hw 104 rfl) rfl (g := (mkF m 87 #[.val (.int p1), .val (.int p2), .val (.int p3), .val (.int p4), .val (.int p5), .val (.int p6), .val (.int z0), .val (.int z1), .val (.int lw), .val (.ref b1), .unset, .unset, .unset, .unset, .unset, .unset, .unset] [])) rfl (hb hby at_87) (by decide) (by decide)
  obtain ⟨b30, g30⟩ : ∃ z, z = T29.heap.size := ⟨_, rfl⟩
  rw [← g30] at A30 D30 Y30 st30
  have nn_b30 : n0 ≤ b30 := Nat.le_trans (old_z0 old29) (Nat.le_of_eq g30.symm)
  have sz_b30 : h0.size ≤ b30 := Nat.le_trans kp29.1 (Nat.le_of_eq g30.symm)
  have old30 := old29.ext E30
  have kp30 := kp29.ext E30
  have hk30 := Nat.le_trans hk29 E30.1
  have F30_trail : Fld Z h30 b30 "com/example/monarc/monarc/Domains" "trail" "[J" .null := D30 (Or.inl (wd hw 111 rfl)) (ty := (.array .long)) (by decide)
  have F30_marks : Fld Z h30 b30 "com/example/monarc/monarc/Domains" "marks" "[I" .null := D30 (Or.inl (wd hw 114 rfl)) (ty := (.array .int)) (by decide)
  have F30_initial : Fld Z h30 b30 "com/example/monarc/monarc/Domains" "initial" "[Lcom/example/monarc/monarc/InitialDomain;" .null := D30 (Or.inr (wd hw 127 rfl)) (ty := (.array (.object "com/example/monarc/monarc/InitialDomain"))) (by decide)
  have F30_lower : Fld Z h30 b30 "com/example/monarc/monarc/Domains" "lower" "[I" .null := D30 (Or.inr (wd hw 129 rfl)) (ty := (.array .int)) (by decide)
  have F30_upper : Fld Z h30 b30 "com/example/monarc/monarc/Domains" "upper" "[I" .null := D30 (Or.inr (wd hw 131 rfl)) (ty := (.array .int)) (by decide)
  have F30_holes : Fld Z h30 b30 "com/example/monarc/monarc/Domains" "holes" "[[J" .null := D30 (Or.inr (wd hw 135 rfl)) (ty := (.array (.array .long))) (by decide)
  have F30_sizes : Fld Z h30 b30 "com/example/monarc/monarc/Domains" "sizes" "[I" .null := D30 (Or.inr (wd hw 137 rfl)) (ty := (.array .int)) (by decide)
  have F30_withOneValue : Fld Z h30 b30 "com/example/monarc/monarc/Domains" "withOneValue" "I" (.int (0 : Int32)) := D30 (Or.inl (wd hw 173 rfl)) (ty := .int) (by decide)
  have F30_trailSize : Fld Z h30 b30 "com/example/monarc/monarc/Domains" "trailSize" "I" (.int (0 : Int32)) := D30 (Or.inl (wd hw 195 rfl)) (ty := .int) (by decide)
  have F30_resized : Fld Z h30 b30 "com/example/monarc/monarc/Domains" "resized" "Ljava/util/function/IntConsumer;" .null := D30 (Or.inl (wd hw 197 rfl)) (ty := (.object "java/util/function/IntConsumer")) (by decide)
  refine Go.fin st30 ?_
  show Go p e below _ (T30.setTop (mkF m 90 _ [(.ref b30)]))
  refine gs.dup X30.here hx (hb hby at_90) rfl ?_
  refine gs.aload X30.here hx (hb hby at_91) rfl rfl ?_
  have f31 := (p29_0.ext E30)
  have f32 := (p29_2.ext E30)
  have f33 := (p29_3.ext E30)
  have f34 := (((((((p10_0.keep K15).ext E16).ext E17).keep K18).keep K23).keep K29).ext E30)
  have ne_b3_b16 : b3 ≠ b16 := Nat.ne_of_lt (Nat.lt_of_lt_of_le (p10_0.keep K15).lt (Nat.le_of_eq g16.symm))
  have ne_b3_b15_0 : b3 ≠ b15_0 := Nat.ne_of_lt (Nat.lt_of_lt_of_le p10_0.lt gb_b15_0)
  have f35 := (((((((p10_1.keep K15 (ninS (Ne.symm ne_b1_b3) nin0)).ext E16).ext E17).keep K18 nin0).keep K23 (ninS ne_b3_b16 nin0)).keep K29 (ninS (Ne.symm ne_b1_b3) (ninS ne_b3_b15_0 nin0))).ext E30)
  have f36 := ((((((((p5_0.keep K10).keep K15).ext E16).ext E17).keep K18).keep K23).keep K29).ext E30)
  have ne_b3_b5_0 : b3 ≠ b5_0 := Nat.ne_of_lt (Nat.lt_of_lt_of_le (A3.ext E4).lt gb_b5_0)
  have ne_b1_b5_0 : b1 ≠ b5_0 := Nat.ne_of_lt (Nat.lt_of_lt_of_le ((p2_0.ext E3).ext E4).lt gb_b5_0)
  have ne_b5_0_b16 : b5_0 ≠ b16 := Nat.ne_of_lt (Nat.lt_of_lt_of_le ((p5_0.keep K10).keep K15).lt (Nat.le_of_eq g16.symm))
  have ne_b5_0_b15_0 : b5_0 ≠ b15_0 := Nat.ne_of_lt (Nat.lt_of_lt_of_le (p5_0.keep K10).lt gb_b15_0)
  have f37 := ((((((((p5_2.keep K10 (ninS (Ne.symm ne_b3_b5_0) nin0)).keep K15 (ninS (Ne.symm ne_b1_b5_0) nin0)).ext E16).ext E17).keep K18 nin0).keep K23 (ninS ne_b5_0_b16 nin0)).keep K29 (ninS (Ne.symm ne_b1_b5_0) (ninS ne_b5_0_b15_0 nin0))).ext E30)
  have f38 := (p29_4.ext E30)
  have f39 := ((p23_0.keep K29).ext E30)
  have f40 := ((p23_1.keep K29 (ninS (Ne.symm ne_b1_b16) (ninS (Ne.symm ne_b15_0_b16) nin0))).ext E30)
  have f41 := (((p18_0.keep K23).keep K29).ext E30)
  have ne_b16_b18_0 : b16 ≠ b18_0 := Nat.ne_of_lt (Nat.lt_of_lt_of_le (A16.ext E17).lt gb_b18_0)
  have ne_b15_0_b18_0 : b15_0 ≠ b18_0 := Nat.ne_of_lt (Nat.lt_of_lt_of_le ((p15_4.ext E16).ext E17).lt gb_b18_0)
  have ne_b1_b18_0 : b1 ≠ b18_0 := Nat.ne_of_lt (Nat.lt_of_lt_of_le ((p15_0.ext E16).ext E17).lt gb_b18_0)
  have f42 := (((p18_2.keep K23 (ninS (Ne.symm ne_b16_b18_0) nin0)).keep K29 (ninS (Ne.symm ne_b1_b18_0) (ninS (Ne.symm ne_b15_0_b18_0) nin0))).ext E30)
  have ne_b1_b30 : b1 ≠ b30 := Nat.ne_of_lt (Nat.lt_of_lt_of_le p29_0.lt (Nat.le_of_eq g30.symm))
  have ne_b15_0_b30 : b15_0 ≠ b30 := Nat.ne_of_lt (Nat.lt_of_lt_of_le p29_4.lt (Nat.le_of_eq g30.symm))
  have ne_b3_b30 : b3 ≠ b30 := Nat.ne_of_lt (Nat.lt_of_lt_of_le ((((((p10_0.keep K15).ext E16).ext E17).keep K18).keep K23).keep K29).lt (Nat.le_of_eq g30.symm))
  have ne_b5_0_b30 : b5_0 ≠ b30 := Nat.ne_of_lt (Nat.lt_of_lt_of_le (((((((p5_0.keep K10).keep K15).ext E16).ext E17).keep K18).keep K23).keep K29).lt (Nat.le_of_eq g30.symm))
  have ne_b16_b30 : b16 ≠ b30 := Nat.ne_of_lt (Nat.lt_of_lt_of_le (p23_0.keep K29).lt (Nat.le_of_eq g30.symm))
  have ne_b18_0_b30 : b18_0 ≠ b30 := Nat.ne_of_lt (Nat.lt_of_lt_of_le ((p18_0.keep K23).keep K29).lt (Nat.le_of_eq g30.symm))
  refine gs.init 1 X30 hx hZ17 hown17 (am14_1 l Z a0 hw [] u_1 aw0 u_0 kaw0 HW (b30) (b1) (b15_0) (b3) (b5_0) (z0) (kx15_0) (b16) (b18_0) (z1) h30 n0 old30 f31 f32 f33 f34 f35 f36 f37 f38 f39 f40 f41 f42 A30 F30_trail F30_marks F30_initial F30_lower F30_upper F30_holes F30_sizes F30_withOneValue F30_trailSize F30_resized nn_b30 (Ne.symm ne_b1_b30) (Ne.symm ne_b15_0_b30) (Ne.symm ne_b3_b30) (Ne.symm ne_b5_0_b30) (Ne.symm ne_b16_b30) (Ne.symm ne_b18_0_b30) ov15_0) (wd hw 107 rfl) (wd hw 104 rfl) (wd hw 105 rfl) rfl (wd hw 106 rfl) (by decide) (by decide) (by decide) (by rw [hml]; rfl) [(.ref b1)] (lenOf pd_13 rfl) rfl (Nat.le_of_eq rfl) (hb hby at_93) rfl e30 (by decide) (by decide) fun T43 Lc43 v43 X43 hQ43 => ?_
  obtain ⟨b43_0, b43_1, b43_2, b43_3, b43_4, b43_5, kx43_0, kx43_1, kx43_2, kx43_3, kx43_4, kx43_5, ex43_0, rfl, gb_b43_0, gb_b43_1, gb_b43_2, gb_b43_3, gb_b43_4, gb_b43_5, ne_b43_0_b43_1, ne_b43_0_b43_2, ne_b43_0_b43_3, ne_b43_0_b43_4, ne_b43_0_b43_5, ne_b43_1_b43_2, ne_b43_1_b43_3, ne_b43_1_b43_4, ne_b43_1_b43_5, ne_b43_2_b43_3, ne_b43_2_b43_4, ne_b43_2_b43_5, ne_b43_3_b43_4, ne_b43_3_b43_5, ne_b43_4_b43_5, Nq43, K43, p43_0, p43_1, p43_2, p43_3, p43_4, p43_5, p43_6, p43_7, p43_8, p43_9, p43_10, p43_11, p43_12, p43_13, p43_14, p43_15, p43_16, p43_17, ov43_0, ov43_1⟩ := hQ43
  have nn_b43_0 : n0 ≤ b43_0 := Nat.le_trans (old_z0 old30) gb_b43_0
  have sz_b43_0 : h0.size ≤ b43_0 := Nat.le_trans kp30.1 gb_b43_0
  have nn_b43_1 : n0 ≤ b43_1 := Nat.le_trans (old_z0 old30) gb_b43_1
  have sz_b43_1 : h0.size ≤ b43_1 := Nat.le_trans kp30.1 gb_b43_1
  have nn_b43_2 : n0 ≤ b43_2 := Nat.le_trans (old_z0 old30) gb_b43_2
  have sz_b43_2 : h0.size ≤ b43_2 := Nat.le_trans kp30.1 gb_b43_2
  have nn_b43_3 : n0 ≤ b43_3 := Nat.le_trans (old_z0 old30) gb_b43_3
  have sz_b43_3 : h0.size ≤ b43_3 := Nat.le_trans kp30.1 gb_b43_3
  have nn_b43_4 : n0 ≤ b43_4 := Nat.le_trans (old_z0 old30) gb_b43_4
  have sz_b43_4 : h0.size ≤ b43_4 := Nat.le_trans kp30.1 gb_b43_4
  have nn_b43_5 : n0 ≤ b43_5 := Nat.le_trans (old_z0 old30) gb_b43_5
  have sz_b43_5 : h0.size ≤ b43_5 := Nat.le_trans kp30.1 gb_b43_5
  have old43 := old30.keep K43 (allS nn_b30 all0)
  have hk43 := Nat.le_trans hk30 K43.1
  have kp43 := kp30.trans K43 (allS (Or.inr sz_b30) all0)
  have N43 := Fr.app N29 Nq43
  show Go p e below _ (T43.setTop (mkF m 96 _ [(.ref b30)]))
  refine gs.astore X43.here hx (hb hby at_96) rfl (l' := #[.val (.int p1), .val (.int p2), .val (.int p3), .val (.int p4), .val (.int p5), .val (.int p6), .val (.int z0), .val (.int z1), .val (.int lw), .val (.ref b1), .val (.ref b30), .unset, .unset, .unset, .unset, .unset, .unset]) rfl ?_
  obtain ⟨fs, hd_fs⟩ : ∃ z : Nat → Int32, z = fun i => ([z0, z1] : List Int32).getD i z0 := ⟨_, rfl⟩
  have g44_ : Ari Z T43.heap b43_3 kx43_3 (2 : Int32) fs := Arw.of_list p43_14 (by rw [hd_fs]; intro i hi; have h4 : i < 2 := hi; rcases i with _ | _ | i <;> first | rfl | omega)
  have hv_fs0 : (fs ((0 : Int32)).toNatClampNeg) = z0 := by rw [hd_fs]; rfl
  have hv_fs1 : (fs ((1 : Int32)).toNatClampNeg) = z1 := by rw [hd_fs]; rfl
  obtain ⟨fu, hd_fu⟩ : ∃ z : Nat → Int32, z = fun i => ([(z0 - (1 : Int32)), (z1 - (1 : Int32))] : List Int32).getD i (z0 - (1 : Int32)) := ⟨_, rfl⟩
  have g45_ : Ari Z T43.heap b43_5 kx43_5 (2 : Int32) fu := Arw.of_list p43_17 (by rw [hd_fu]; intro i hi; have h4 : i < 2 := hi; rcases i with _ | _ | i <;> first | rfl | omega)
  have hv_fu0 : (fu ((0 : Int32)).toNatClampNeg) = (z0 - (1 : Int32)) := by rw [hd_fu]; rfl
  have hv_fu1 : (fu ((1 : Int32)).toNatClampNeg) = (z1 - (1 : Int32)) := by rw [hd_fu]; rfl
  obtain ⟨fl, hd_fl⟩ : ∃ z : Nat → Int32, z = fun i => ([(0 : Int32), (0 : Int32)] : List Int32).getD i (0 : Int32) := ⟨_, rfl⟩
  have g46_ : Ari Z T43.heap b43_2 kx43_2 (2 : Int32) fl := Arw.of_list p43_13 (by rw [hd_fl]; intro i hi; have h4 : i < 2 := hi; rcases i with _ | _ | i <;> first | rfl | omega)
  have hv_fl0 : (fl ((0 : Int32)).toNatClampNeg) = (0 : Int32) := by rw [hd_fl]; rfl
  have hv_fl1 : (fl ((1 : Int32)).toNatClampNeg) = (0 : Int32) := by rw [hd_fl]; rfl
  obtain ⟨fh, hd_fh⟩ : ∃ z : Nat → Value, z = fun i => ([.null, .null] : List Value).getD i .null := ⟨_, rfl⟩
  have g47_ : Arw Z T43.heap b43_0 kx43_0 (.array .long) (2 : Int32) fh := Arw.of_list p43_11 (by rw [hd_fh]; intro i hi; have h4 : i < 2 := hi; rcases i with _ | _ | i <;> first | rfl | omega)
  have hv_fh0 : (fh ((0 : Int32)).toNatClampNeg) = .null := by rw [hd_fh]; rfl
  have hv_fh1 : (fh ((1 : Int32)).toNatClampNeg) = .null := by rw [hd_fh]; rfl
  obtain ⟨fa, hd_fa⟩ : ∃ z : Nat → Addr, z = fun i => ([b5_0, b18_0] : List Addr).getD i b5_0 := ⟨_, rfl⟩
  have g48_ : Ara Z T43.heap b43_1 kx43_1 (.object "com/example/monarc/monarc/InitialDomain") (2 : Int32) fa := Arw.of_list p43_12 (by rw [hd_fa]; intro i hi; have h4 : i < 2 := hi; rcases i with _ | _ | i <;> first | rfl | omega)
  have hv_fa0 : (fa ((0 : Int32)).toNatClampNeg) = b5_0 := by rw [hd_fa]; rfl
  have hv_fa1 : (fa ((1 : Int32)).toNatClampNeg) = b18_0 := by rw [hd_fa]; rfl
  have g49_f : Arf Z T43.heap b43_4 kx43_4 (1024 : Int32) (fun _ => (0 : Int64)) := Arf.of_arv p43_16
  obtain ⟨ft, hd_ft⟩ : ∃ z, z = (fun _ => (0 : Int64)) := ⟨_, rfl⟩
  have v50_ : Arf Z T43.heap b43_4 kx43_4 (1024 : Int32) ft := by rw [hd_ft]; exact g49_f
  obtain ⟨t0, hd_t0⟩ : ∃ z, z = (0 : Int32) := ⟨_, rfl⟩
  have v51_ : Fld Z T43.heap b30 "com/example/monarc/monarc/Domains" "trailSize" "I" (.int t0) := by rw [hd_t0]; exact p43_7
  obtain ⟨w0, hd_w0⟩ : ∃ z, z = ex43_0 := ⟨_, rfl⟩
  have v52_ : Fld Z T43.heap b30 "com/example/monarc/monarc/Domains" "withOneValue" "I" (.int w0) := by rw [hd_w0]; exact p43_9
  refine gs.iloadN X43.here hx (hb hby at_98) rfl ?_
  refine gs.iconst 1 X43.here hx (hb hby at_99) rfl ?_
  refine gs.iand X43.here hx (hb hby at_100) ?_
  refine gs.istore X43.here hx (hb hby at_101) (l' := #[.val (.int p1), .val (.int p2), .val (.int p3), .val (.int p4), .val (.int p5), .val (.int p6), .val (.int z0), .val (.int z1), .val (.int lw), .val (.ref b1), .val (.ref b30), .val (.int (p4 &&& (1 : Int32))), .unset, .unset, .unset, .unset, .unset]) rfl ?_
  generalize hk_xx : (p4 &&& (1 : Int32)) = xx
  show Go p e below _ (T43.setTop (mkF m 103 #[.val (.int p1), .val (.int p2), .val (.int p3), .val (.int p4), .val (.int p5), .val (.int p6), .val (.int z0), .val (.int z1), .val (.int lw), .val (.ref b1), .val (.ref b30), .val (.int xx), .unset, .unset, .unset, .unset, .unset] []))
  have hb_xx := and1_bd p4
  rw [hk_xx] at hb_xx
  refine gs.iconst 1 X43.here hx (hb hby at_103) rfl ?_
  refine gs.iload X43.here hx (hb hby at_104) rfl ?_
  refine gs.isub X43.here hx (hb hby at_106) ?_
  refine gs.istore X43.here hx (hb hby at_107) (l' := #[.val (.int p1), .val (.int p2), .val (.int p3), .val (.int p4), .val (.int p5), .val (.int p6), .val (.int z0), .val (.int z1), .val (.int lw), .val (.ref b1), .val (.ref b30), .val (.int xx), .val (.int ((1 : Int32) - xx)), .unset, .unset, .unset, .unset]) rfl ?_
  generalize hk_yy : ((1 : Int32) - xx) = yy
  show Go p e below _ (T43.setTop (mkF m 109 #[.val (.int p1), .val (.int p2), .val (.int p3), .val (.int p4), .val (.int p5), .val (.int p6), .val (.int z0), .val (.int z1), .val (.int lw), .val (.ref b1), .val (.ref b30), .val (.int xx), .val (.int yy), .unset, .unset, .unset, .unset] []))
  have o1 : (1 : Int32).toInt = 1 := rfl
  have hb_yy : yy.toInt = 1 - xx.toInt := by rw [← hk_yy, Jvm.Kit.i32_sub (by omega) (by omega), o1]
  refine gs.iload X43.here hx (hb hby at_109) rfl ?_
  show Go p e below _ (T43.setTop (mkF m 111 _ _))
  by_cases hc111 : xx = (0 : Int32)
  case pos =>
    refine gs.ifNo X43.here hx (hb hby at_111) ((if0 _ _).trans (teq hc111).2) ?_
    refine gs.iload X43.here hx (hb hby at_114) rfl ?_
    refine gs.goto 121 X43.here hx (hb hby at_116) rfl ?_
    refine gs.istore X43.here hx (hb hby at_121) (l' := #[.val (.int p1), .val (.int p2), .val (.int p3), .val (.int p4), .val (.int p5), .val (.int p6), .val (.int z0), .val (.int z1), .val (.int lw), .val (.ref b1), .val (.ref b30), .val (.int xx), .val (.int yy), .val (.int z0), .unset, .unset, .unset]) rfl ?_
    refine gs.iload X43.here hx (hb hby at_123) rfl ?_
    have hc125 : ¬ (yy = (0 : Int32)) := (i_ne (by have q := congrArg Int32.toInt hc111; have o : (0 : Int32).toInt = 0 := rfl; omega))
    refine gs.ifYes 133 X43.here hx (hb hby at_125) ((if0 _ _).trans (feq hc125).2) rfl ?_
    refine gs.iload X43.here hx (hb hby at_133) rfl ?_
    refine gs.istore X43.here hx (hb hby at_135) (l' := #[.val (.int p1), .val (.int p2), .val (.int p3), .val (.int p4), .val (.int p5), .val (.int p6), .val (.int z0), .val (.int z1), .val (.int lw), .val (.ref b1), .val (.ref b30), .val (.int xx), .val (.int yy), .val (.int z0), .val (.int z1), .unset, .unset]) rfl ?_
    have hxl : xx = (0 : Int32) := hc111
    have hyl : yy = (1 : Int32) := Int32.toInt_inj.mp (by rw [hb_yy, hxl]; rfl)
    obtain ⟨nx, hd_nx⟩ : ∃ z, z = z0 := ⟨_, rfl⟩
    rw [← hd_nx]
    have hb_nx := hb_z0
    rw [← hd_nx] at hb_nx
    obtain ⟨ny, hd_ny⟩ : ∃ z, z = z1 := ⟨_, rfl⟩
    rw [← hd_ny]
    have hb_ny := hb_z1
    rw [← hd_ny] at hb_ny
    show Go p e below _ (T43.setTop (mkF m 137 #[.val (.int p1), .val (.int p2), .val (.int p3), .val (.int p4), .val (.int p5), .val (.int p6), .val (.int nx), .val (.int ny), .val (.int lw), .val (.ref b1), .val (.ref b30), .val (.int xx), .val (.int yy), .val (.int nx), .val (.int ny), .unset, .unset] []))
    have f53 := (f37.keep K43 (ninS ne_b5_0_b30 nin0))
    have v54_ : Fld Z T43.heap b5_0 "com/example/monarc/monarc/InitialDomain" "size" "I" (.int nx) := by rw [hd_nx]; exact f53
    obtain ⟨ux, hd_ux⟩ : ∃ z, z = (nx - (1 : Int32)) := ⟨_, rfl⟩
    have hb_ux : ux.toInt = nx.toInt - 1 := by rw [hd_ux]; exact up_ hb_nx
    have hf_ux : (fu (xx).toNatClampNeg) = ux := by rw [hxl, hv_fu0, hd_ux, hd_nx]
    have hf_lx : (fl (xx).toNatClampNeg) = (0 : Int32) := by rw [hxl, hv_fl0]
    have hf_hx : (fh (xx).toNatClampNeg) = .null := by rw [hxl, hv_fh0]
    have hf_ax : (fa (xx).toNatClampNeg) = b5_0 := by rw [hxl, hv_fa0]
    have f55 := (f42.keep K43 (ninS ne_b18_0_b30 nin0))
    have v56_ : Fld Z T43.heap b18_0 "com/example/monarc/monarc/InitialDomain" "size" "I" (.int ny) := by rw [hd_ny]; exact f55
    obtain ⟨uy, hd_uy⟩ : ∃ z, z = (ny - (1 : Int32)) := ⟨_, rfl⟩
    have hb_uy : uy.toInt = ny.toInt - 1 := by rw [hd_uy]; exact up_ hb_ny
    have hf_uy : (fu (yy).toNatClampNeg) = uy := by rw [hyl, hv_fu1, hd_uy, hd_ny]
    have hf_ly : (fl (yy).toNatClampNeg) = (0 : Int32) := by rw [hyl, hv_fl1]
    have hf_hy : (fh (yy).toNatClampNeg) = .null := by rw [hyl, hv_fh1]
    have hf_ay : (fa (yy).toNatClampNeg) = b18_0 := by rw [hyl, hv_fa1]
    have ht0 := hd_t0
    have f57 := (f36.keep K43)
    have f58 := (f41.keep K43)
    have ne_b18_0_b43_4 : b18_0 ≠ b43_4 := Nat.ne_of_lt (Nat.lt_of_lt_of_le f41.lt gb_b43_4)
    have ne_b18_0_b43_2 : b18_0 ≠ b43_2 := Nat.ne_of_lt (Nat.lt_of_lt_of_le f41.lt gb_b43_2)
    have ne_b18_0_b43_5 : b18_0 ≠ b43_5 := Nat.ne_of_lt (Nat.lt_of_lt_of_le f41.lt gb_b43_5)
    have ne_b18_0_b43_0 : b18_0 ≠ b43_0 := Nat.ne_of_lt (Nat.lt_of_lt_of_le f41.lt gb_b43_0)
    have ne_b18_0_b43_3 : b18_0 ≠ b43_3 := Nat.ne_of_lt (Nat.lt_of_lt_of_le f41.lt gb_b43_3)
    have ne_b30_b43_4 : b30 ≠ b43_4 := Nat.ne_of_lt (Nat.lt_of_lt_of_le A30.lt gb_b43_4)
    have ne_b30_b43_1 : b30 ≠ b43_1 := Nat.ne_of_lt (Nat.lt_of_lt_of_le A30.lt gb_b43_1)
    have ne_b30_b43_2 : b30 ≠ b43_2 := Nat.ne_of_lt (Nat.lt_of_lt_of_le A30.lt gb_b43_2)
    have ne_b30_b43_5 : b30 ≠ b43_5 := Nat.ne_of_lt (Nat.lt_of_lt_of_le A30.lt gb_b43_5)
    have ne_b30_b43_0 : b30 ≠ b43_0 := Nat.ne_of_lt (Nat.lt_of_lt_of_le A30.lt gb_b43_0)
    have ne_b30_b43_3 : b30 ≠ b43_3 := Nat.ne_of_lt (Nat.lt_of_lt_of_le A30.lt gb_b43_3)
    exact sg6 hw u_1 aw0 u_0 kaw0 HW hx hby hml Bd.returns Bd.notSynchronized (vm0 := T17.vm) X43 S17 hk43 hZ17 hown17 rfl N43 kp43 old43 (fun h_ L_ q_ => ⟨rfl, q_⟩) b5_0 b18_0 p1 p2 p3 p4 p5 p6 nx ny lw b1 b30 xx yy nx ny b43_4 b43_1 b43_2 b43_5 b43_0 b43_3 w0 t0 kx43_3 fs kx43_5 fu kx43_2 fl kx43_0 fh kx43_1 fa kx43_4 ft ux uy f57 v54_ f58 v56_ p43_0 p43_6 p43_2 p43_3 p43_8 p43_1 p43_5 v52_ v51_ p43_4 p43_10 p43_15 g44_ g45_ g46_ g47_ g48_ v50_ nn_b30 nn_b43_4 nn_b43_2 nn_b43_5 nn_b43_0 nn_b43_3 sz_b30 sz_b43_4 sz_b43_2 sz_b43_5 sz_b43_0 sz_b43_3 ne_b18_0_b30 ne_b18_0_b43_4 ne_b18_0_b43_2 ne_b18_0_b43_5 ne_b18_0_b43_0 ne_b18_0_b43_3 ne_b30_b43_4 ne_b30_b43_1 ne_b30_b43_2 ne_b30_b43_5 ne_b30_b43_0 ne_b30_b43_3 (Ne.symm ne_b43_1_b43_4) (Ne.symm ne_b43_2_b43_4) ne_b43_4_b43_5 (Ne.symm ne_b43_0_b43_4) (Ne.symm ne_b43_3_b43_4) ne_b43_1_b43_2 ne_b43_1_b43_5 (Ne.symm ne_b43_0_b43_1) ne_b43_1_b43_3 ne_b43_2_b43_5 (Ne.symm ne_b43_0_b43_2) ne_b43_2_b43_3 (Ne.symm ne_b43_0_b43_5) (Ne.symm ne_b43_3_b43_5) ne_b43_0_b43_3 hb_xx hb_yy hb_nx hb_ny hb_ux hb_uy hd_ux hd_uy hf_ux hf_lx hf_hx hf_ax hf_uy hf_ly hf_hy hf_ay ht0 ov43_0 ov43_1
  case neg =>
    refine gs.ifYes 119 X43.here hx (hb hby at_111) ((if0 _ _).trans (feq hc111).2) rfl ?_
    refine gs.iload X43.here hx (hb hby at_119) rfl ?_
    refine gs.istore X43.here hx (hb hby at_121) (l' := #[.val (.int p1), .val (.int p2), .val (.int p3), .val (.int p4), .val (.int p5), .val (.int p6), .val (.int z0), .val (.int z1), .val (.int lw), .val (.ref b1), .val (.ref b30), .val (.int xx), .val (.int yy), .val (.int z1), .unset, .unset, .unset]) rfl ?_
    refine gs.iload X43.here hx (hb hby at_123) rfl ?_
    have hc125 : yy = (0 : Int32) := Int32.toInt_inj.mp (by have q : ¬ xx.toInt = (0 : Int32).toInt := fun y => hc111 (Int32.toInt_inj.mp y); have o : (0 : Int32).toInt = 0 := rfl; omega)
    refine gs.ifNo X43.here hx (hb hby at_125) ((if0 _ _).trans (teq hc125).2) ?_
    refine gs.iload X43.here hx (hb hby at_128) rfl ?_
    refine gs.goto 135 X43.here hx (hb hby at_130) rfl ?_
    refine gs.istore X43.here hx (hb hby at_135) (l' := #[.val (.int p1), .val (.int p2), .val (.int p3), .val (.int p4), .val (.int p5), .val (.int p6), .val (.int z0), .val (.int z1), .val (.int lw), .val (.ref b1), .val (.ref b30), .val (.int xx), .val (.int yy), .val (.int z1), .val (.int z0), .unset, .unset]) rfl ?_
    have hxl : xx = (1 : Int32) := Int32.toInt_inj.mp (by have q : ¬ xx.toInt = (0 : Int32).toInt := fun y => hc111 (Int32.toInt_inj.mp y); have o : (0 : Int32).toInt = 0 := rfl; omega)
    have hyl : yy = (0 : Int32) := Int32.toInt_inj.mp (by rw [hb_yy, hxl]; rfl)
    obtain ⟨nx, hd_nx⟩ : ∃ z, z = z1 := ⟨_, rfl⟩
    rw [← hd_nx]
    have hb_nx := hb_z1
    rw [← hd_nx] at hb_nx
    obtain ⟨ny, hd_ny⟩ : ∃ z, z = z0 := ⟨_, rfl⟩
    rw [← hd_ny]
    have hb_ny := hb_z0
    rw [← hd_ny] at hb_ny
    show Go p e below _ (T43.setTop (mkF m 137 #[.val (.int p1), .val (.int p2), .val (.int p3), .val (.int p4), .val (.int p5), .val (.int p6), .val (.int ny), .val (.int nx), .val (.int lw), .val (.ref b1), .val (.ref b30), .val (.int xx), .val (.int yy), .val (.int nx), .val (.int ny), .unset, .unset] []))
    have f59 := (f42.keep K43 (ninS ne_b18_0_b30 nin0))
    have v60_ : Fld Z T43.heap b18_0 "com/example/monarc/monarc/InitialDomain" "size" "I" (.int nx) := by rw [hd_nx]; exact f59
    obtain ⟨ux, hd_ux⟩ : ∃ z, z = (nx - (1 : Int32)) := ⟨_, rfl⟩
    have hb_ux : ux.toInt = nx.toInt - 1 := by rw [hd_ux]; exact up_ hb_nx
    have hf_ux : (fu (xx).toNatClampNeg) = ux := by rw [hxl, hv_fu1, hd_ux, hd_nx]
    have hf_lx : (fl (xx).toNatClampNeg) = (0 : Int32) := by rw [hxl, hv_fl1]
    have hf_hx : (fh (xx).toNatClampNeg) = .null := by rw [hxl, hv_fh1]
    have hf_ax : (fa (xx).toNatClampNeg) = b18_0 := by rw [hxl, hv_fa1]
    have f61 := (f37.keep K43 (ninS ne_b5_0_b30 nin0))
    have v62_ : Fld Z T43.heap b5_0 "com/example/monarc/monarc/InitialDomain" "size" "I" (.int ny) := by rw [hd_ny]; exact f61
    obtain ⟨uy, hd_uy⟩ : ∃ z, z = (ny - (1 : Int32)) := ⟨_, rfl⟩
    have hb_uy : uy.toInt = ny.toInt - 1 := by rw [hd_uy]; exact up_ hb_ny
    have hf_uy : (fu (yy).toNatClampNeg) = uy := by rw [hyl, hv_fu0, hd_uy, hd_ny]
    have hf_ly : (fl (yy).toNatClampNeg) = (0 : Int32) := by rw [hyl, hv_fl0]
    have hf_hy : (fh (yy).toNatClampNeg) = .null := by rw [hyl, hv_fh0]
    have hf_ay : (fa (yy).toNatClampNeg) = b5_0 := by rw [hyl, hv_fa0]
    have ht0 := hd_t0
    have f63 := (f41.keep K43)
    have f64 := (f36.keep K43)
    have ne_b5_0_b43_4 : b5_0 ≠ b43_4 := Nat.ne_of_lt (Nat.lt_of_lt_of_le f36.lt gb_b43_4)
    have ne_b5_0_b43_2 : b5_0 ≠ b43_2 := Nat.ne_of_lt (Nat.lt_of_lt_of_le f36.lt gb_b43_2)
    have ne_b5_0_b43_5 : b5_0 ≠ b43_5 := Nat.ne_of_lt (Nat.lt_of_lt_of_le f36.lt gb_b43_5)
    have ne_b5_0_b43_0 : b5_0 ≠ b43_0 := Nat.ne_of_lt (Nat.lt_of_lt_of_le f36.lt gb_b43_0)
    have ne_b5_0_b43_3 : b5_0 ≠ b43_3 := Nat.ne_of_lt (Nat.lt_of_lt_of_le f36.lt gb_b43_3)
    have ne_b30_b43_4 : b30 ≠ b43_4 := Nat.ne_of_lt (Nat.lt_of_lt_of_le A30.lt gb_b43_4)
    have ne_b30_b43_1 : b30 ≠ b43_1 := Nat.ne_of_lt (Nat.lt_of_lt_of_le A30.lt gb_b43_1)
    have ne_b30_b43_2 : b30 ≠ b43_2 := Nat.ne_of_lt (Nat.lt_of_lt_of_le A30.lt gb_b43_2)
    have ne_b30_b43_5 : b30 ≠ b43_5 := Nat.ne_of_lt (Nat.lt_of_lt_of_le A30.lt gb_b43_5)
    have ne_b30_b43_0 : b30 ≠ b43_0 := Nat.ne_of_lt (Nat.lt_of_lt_of_le A30.lt gb_b43_0)
    have ne_b30_b43_3 : b30 ≠ b43_3 := Nat.ne_of_lt (Nat.lt_of_lt_of_le A30.lt gb_b43_3)
    exact sg6 hw u_1 aw0 u_0 kaw0 HW hx hby hml Bd.returns Bd.notSynchronized (vm0 := T17.vm) X43 S17 hk43 hZ17 hown17 rfl N43 kp43 old43 (fun h_ L_ q_ => ⟨rfl, q_⟩) b18_0 b5_0 p1 p2 p3 p4 p5 p6 ny nx lw b1 b30 xx yy nx ny b43_4 b43_1 b43_2 b43_5 b43_0 b43_3 w0 t0 kx43_3 fs kx43_5 fu kx43_2 fl kx43_0 fh kx43_1 fa kx43_4 ft ux uy f63 v60_ f64 v62_ p43_0 p43_6 p43_2 p43_3 p43_8 p43_1 p43_5 v52_ v51_ p43_4 p43_10 p43_15 g44_ g45_ g46_ g47_ g48_ v50_ nn_b30 nn_b43_4 nn_b43_2 nn_b43_5 nn_b43_0 nn_b43_3 sz_b30 sz_b43_4 sz_b43_2 sz_b43_5 sz_b43_0 sz_b43_3 ne_b5_0_b30 ne_b5_0_b43_4 ne_b5_0_b43_2 ne_b5_0_b43_5 ne_b5_0_b43_0 ne_b5_0_b43_3 ne_b30_b43_4 ne_b30_b43_1 ne_b30_b43_2 ne_b30_b43_5 ne_b30_b43_0 ne_b30_b43_3 (Ne.symm ne_b43_1_b43_4) (Ne.symm ne_b43_2_b43_4) ne_b43_4_b43_5 (Ne.symm ne_b43_0_b43_4) (Ne.symm ne_b43_3_b43_4) ne_b43_1_b43_2 ne_b43_1_b43_5 (Ne.symm ne_b43_0_b43_1) ne_b43_1_b43_3 ne_b43_2_b43_5 (Ne.symm ne_b43_0_b43_2) ne_b43_2_b43_3 (Ne.symm ne_b43_0_b43_5) (Ne.symm ne_b43_3_b43_5) ne_b43_0_b43_3 hb_xx hb_yy hb_nx hb_ny hb_ux hb_uy hd_ux hd_uy hf_ux hf_lx hf_hx hf_ax hf_uy hf_ly hf_hy hf_ay ht0 ov43_0 ov43_1
set_option maxRecDepth 65536 in
set_option maxHeartbeats 40000000 in
theorem comes_1 {Post : Tables → Env → Array Value → State → Outcome → State → Prop} (hpost : ∀ tb e args s v u, (limb_1_1.after args s (.returned v) u = true ∧ limb_1_2.after args s (.returned v) u = true ∧ True) → ReturnedEndW s (.returned v) u (Jvm.fieldLocs frame_1_writes args s ++ Jvm.arrayLocs frame_1_arrays args s ++ Jvm.staticLocs frame_1_statics s) 48 69952 → Post tb e args s (.returned v) u) :
    ArmFor flags0 classFile x code maxLocals ret World_1 tables_1 room_1 Calls_1 rest_1 Pre_1 Post := by
  intro l hfl _ _ p e ha hc hk s m args below hf hA hF happ hP
  obtain ⟨hcalls, hrest, hpre⟩ := hP
  obtain ⟨-, -, -, hnamed, -, -, -, hat⟩ := (Spec.applies_iff hf).mp happ
  obtain ⟨hg, hn⟩ := and_e (Cond.before_iff.mp (show (Jvm.Cond.and given_1 narrow_1).before args s = true from hpre))
  obtain ⟨hgl, hgr⟩ := and_e hg
  obtain ⟨hgrl, hgrr⟩ := and_e hgr
  obtain ⟨hgrrl, hgrrr⟩ := and_e hgrr
  obtain ⟨hgrrrl, hgrrrr⟩ := and_e hgrrr
  obtain ⟨hgrrrrl, hgrrrrr⟩ := and_e hgrrrr
  obtain ⟨hgrrrrrl, hgrrrrrr⟩ := and_e hgrrrrr
  obtain ⟨w0, w1, w2, w3, w4, w5, rfl⟩ : ∃ w0 w1 w2 w3 w4 w5 : Value, args = #[w0, w1, w2, w3, w4, w5] := by
    have hs : args.size = 6 := by simpa [Cond.value, given_1] using hgl
    obtain ⟨L⟩ := args
    match L, hs with
    | [w0, w1, w2, w3, w4, w5], _ => exact ⟨w0, w1, w2, w3, w4, w5, rfl⟩
  have hw := fun d (hd : d ∈ tables_1) => atoms_spec (ws := Jvm.Cond.code x code maxLocals ret :: tables_1) hat d (List.mem_cons_of_mem _ hd)
  have hfit : Fit s := fun {y c} hc i hi => by
    obtain ⟨ha, rfl⟩ := Array.getElem?_eq_some_iff.mp hc
    have q := List.all_eq_true.mp ((Array.all_eq_true_iff_forall_mem.mp hF) _ (Array.getElem_mem ha)) i (List.mem_range.mpr hi)
    simpa [Array.getElem?_eq_getElem hi] using q
  obtain ⟨hsets, hown0⟩ := atoms_of _ (rest_1_c_eq ▸ (show rest_1_c.before _ s = true from hrest))
  have hr0 := Cond.before_iff.mp hown0
  obtain ⟨i0, ei0⟩ := is_v hgrl
  obtain rfl : w0 = (.int i0) := Option.some.inj ei0
  obtain ⟨i1, ei1⟩ := is_v hgrrl
  obtain rfl : w1 = (.int i1) := Option.some.inj ei1
  obtain ⟨i2, ei2⟩ := is_v hgrrrl
  obtain rfl : w2 = (.int i2) := Option.some.inj ei2
  obtain ⟨i3, ei3⟩ := is_v hgrrrrl
  obtain rfl : w3 = (.int i3) := Option.some.inj ei3
  obtain ⟨i4, ei4⟩ := is_v hgrrrrrl
  obtain rfl : w4 = (.int i4) := Option.some.inj ei4
  obtain ⟨i5, ei5⟩ := is_v hgrrrrrr
  obtain rfl : w5 = (.int i5) := Option.some.inj ei5
  obtain ⟨u_1, eva_EMPTY_ELEMENTDATA⟩ := arr_v (Cond.before_iff.mp (hsets _ (List.mem_of_getElem? (i := 3) rfl)))
  obtain ⟨cla_EMPTY_ELEMENTDATA, Ara_EMPTY_ELEMENTDATA⟩ := Arr.start eva_EMPTY_ELEMENTDATA (Cond.before_iff.mp (hsets _ (List.mem_of_getElem? (i := 3) rfl)))
  obtain ⟨aw0, evaw0⟩ := arr_v (Cond.before_iff.mp (hsets _ (List.mem_of_getElem? (i := 6) rfl)))
  obtain ⟨claw0, Araw0⟩ := Arr.start evaw0 (Cond.before_iff.mp (hsets _ (List.mem_of_getElem? (i := 6) rfl)))
  obtain ⟨q1a_EMPTY_ELEMENTDATA, q2a_EMPTY_ELEMENTDATA⟩ := len_start Ara_EMPTY_ELEMENTDATA eva_EMPTY_ELEMENTDATA (eq_int (Cond.before_iff.mp (hsets _ (List.mem_of_getElem? (i := 5) rfl))))
  obtain ⟨u_0, hka_EMPTY_ELEMENTDATA⟩ : ∃ z, z = cla_EMPTY_ELEMENTDATA.cls := ⟨_, rfl⟩
  obtain ⟨q1aw0, q2aw0⟩ := len_start Araw0 evaw0 (eq_int (Cond.before_iff.mp (hsets _ (List.mem_of_getElem? (i := 8) rfl))))
  obtain ⟨kaw0, hkaw0⟩ : ∃ z, z = claw0.cls := ⟨_, rfl⟩
  have HW : Wd s u_1 aw0 u_0 kaw0 := ⟨Exa.start eva_EMPTY_ELEMENTDATA (Cond.before_iff.mp (hsets _ (List.mem_of_getElem? (i := 4) rfl))), Sta.start eva_EMPTY_ELEMENTDATA (Or.inl (hsets _ (List.mem_of_getElem? (i := 1) rfl))), Exa.start evaw0 (Cond.before_iff.mp (hsets _ (List.mem_of_getElem? (i := 7) rfl))), Sta.start evaw0 (Or.inr ⟨(wd hw 3 rfl), (hsets _ (List.mem_of_getElem? (i := 2) rfl))⟩), hka_EMPTY_ELEMENTDATA ▸ Arv.start hfit Ara_EMPTY_ELEMENTDATA q1a_EMPTY_ELEMENTDATA q2a_EMPTY_ELEMENTDATA (by decide) (by decide) trivial, hkaw0 ▸ Arv.start hfit Araw0 q1aw0 q2aw0 (by decide) (by decide) trivial⟩
  obtain ⟨n, o, h1, h2, h3, _, L, rfl, ⟨rfl, N⟩, hq⟩ := rm0 l s _ hw tables_1 u_1 aw0 u_0 kaw0 HW i0 i1 i2 i3 i4 i5 s.heap s.heap.size (Old.start s)  p e ha hc hk s m _ below hf ((Spec.applies_iff_loose hf).mp happ).1 ⟨rfl, State.Warmed39.refl s, rfl⟩ trivial
  refine ⟨n, _, h1, h2, h3, hpost _ _ _ _ _ _ ⟨Cond.after_iff.mpr rfl, Cond.after_iff.mpr (eq_i res_at (Term.int_eval (1)) rfl), trivial⟩ ⟨hq.1, hq.2.1, hq.2.2.1, (hq.2.2.2.sift fun y hy => Or.inr (N y hy)).mono (by decide) (by decide)⟩⟩
theorem main_1_1 : Claimed_1_1 := comes_1 fun _ _ _ _ _ _ h hF => ⟨h.1, hF⟩
theorem main_1_2 : Claimed_1_2 := comes_1 fun _ _ _ _ _ _ h hF => ⟨h.2.1, hF⟩
end Jvm.Pilot.@@N@@
namespace Jvm.Pilot.@@N@@
open Jvm Jvm.ClassFile Sem Op Lib Jvm.Free Jvm.Stand Jvm.Pilot.@@N@@.Jvm.D
/-! MADE BY PROGRAM (witnessworld.py) out of the Statement's table words and the real class files: 33 classes; the members and pool entries that the words name. The judged class is class 1, her method 2. -/
namespace start1
open Jvm.ClassFile
def u (s : String) : CpInfo := .utf8 (stringToUtf16 s)
/-- a pool by its gaps: so many unusable entries, then the entry; so many at the end -/
def gap : Nat → List CpInfo → List CpInfo
  | 0, r => r
  | n + 1, r => .unusable :: gap n r
def poolList (es : List (Nat × CpInfo)) (last : Nat) : List CpInfo := es.foldr (fun e r => gap e.1 (e.2 :: r)) (gap last [])
def pool (es : List (Nat × CpInfo)) (last : Nat) : Array CpInfo := ⟨poolList es last⟩
def fileOf (pool : Array CpInfo) (this : Nat) (attrs : Array Attribute := #[]) (ms : Array MethodInfo := #[]) (fl : Nat := 33) (sup : Nat := 0) (ifs : Array Nat := #[]) (fds : Array FieldInfo := #[]) : ClassFile where
  minorVersion := 0
  majorVersion := 65
  constantPool := pool
  accessFlags := fl
  thisClass := this
  superClass := sup
  interfaces := ifs
  fields := fds
  methods := ms
  attributes := attrs
def plain (name : String) (sup : Option ClassId) : Class where
  name := name
  kind := .ordinary
  loader := none
  accessFlags := 33
  super := sup
  interfaces := #[]
  cf := none
  fields := #[]
  methods := #[]
  instanceTypes := #[]
  staticTypes := #[]
  resolved := #[]
  callSites := []
  init := .initialized
  statics := none
  mirror := none

def pool0 : Array CpInfo := pool [(5, u "<init>"), (0, u "()V"), (1, .class_ 10), (1, u "java/lang/Object")] 113

def k0c0 : Code := { maxStack := 0, maxLocals := 1, code := object_method_1_code, exceptionTable := #[], attributes := #[] }
def k0m0 : Method := { name := "<init>", desc := "()V", sig := { parameters := [], returnType := none }, accessFlags := 1, code := some k0c0 }
/-- java/lang/Object -/
def k0 : Class := { plain "java/lang/Object" none with
  accessFlags := 33
  interfaces := #[]
  cf := some (fileOf pool0 8 #[] #[{ accessFlags := 1, nameIndex := 5, descriptorIndex := 6, attributes := #[] }] 33 0 #[] #[])
  fields := #[]
  methods := #[k0m0]
  instanceTypes := #[]
  staticTypes := #[]
  resolved := Array.replicate 124 none
  statics := none }

def pool1 : Array CpInfo := pool [(2, .class_ 4), (0, .nameAndType 5 6), (0, u "java/lang/Object"), (0, u "<init>"), (0, u "()V"), (0, .integer 1048575), (0, .class_ 9), (0, u "java/util/ArrayList"), (0, .methodref 8 3), (0, .class_ 12), (0, u "com/example/monarc/monarc/Variable"), (0, .string 14), (0, u "u"), (0, .methodref 16 17), (0, .class_ 18), (0, .nameAndType 19 20), (0, u "com/example/monarc/monarc/InitialDomain"), (0, u "range"), (0, u "(II)Lcom/example/monarc/monarc/InitialDomain;"), (0, .methodref 11 22), (0, .nameAndType 5 23), (0, u "(Ljava/lang/String;ILcom/example/monarc/monarc/InitialDomain;)V"), (0, .methodref 8 25), (0, .nameAndType 26 27), (0, u "add"), (0, u "(Ljava/lang/Object;)Z"), (0, .string 29), (0, u "w"), (0, .class_ 31), (0, u "com/example/monarc/monarc/Domains"), (0, .methodref 30 33), (0, .nameAndType 5 34), (0, u "(Ljava/util/List;)V"), (0, .integer 2147483647), (0, .methodref 30 37), (0, .nameAndType 38 39), (0, u "remove"), (0, u "(II)V"), (0, .methodref 30 41), (0, .nameAndType 42 43), (0, u "trailSize"), (0, u "()I"), (0, .methodref 30 45), (0, .nameAndType 46 47), (0, u "holeMadeAt"), (0, u "(I)I"), (0, .methodref 49 50), (0, .class_ 51), (0, .nameAndType 52 53), (0, u "com/example/monarc/monarc/DomainsHoleMadeAtPinLaw"), (0, u "expected"), (0, u "(II)I"), (3, u "law"), (0, u "(IIIIII)Z")] 2

def k1m0 : Method := { name := "<init>", desc := "()V", sig := { parameters := [], returnType := none }, accessFlags := 2, code := none }
def k1c1 : Code := { maxStack := 3, maxLocals := 2, code := method_2_code, exceptionTable := #[], attributes := #[] }
def k1m1 : Method := { name := "expected", desc := "(II)I", sig := { parameters := [.int, .int], returnType := some .int }, accessFlags := 10, code := some k1c1 }
def k1c2 : Code := { maxStack := 9, maxLocals := 17, code := code, exceptionTable := #[], attributes := #[] }
def k1m2 : Method := { name := "law", desc := "(IIIIII)Z", sig := { parameters := [.int, .int, .int, .int, .int, .int], returnType := some .boolean }, accessFlags := 9, code := some k1c2 }
/-- com/example/monarc/monarc/DomainsHoleMadeAtPinLaw -/
def k1 : Class := { plain "com/example/monarc/monarc/DomainsHoleMadeAtPinLaw" (some 0) with
  accessFlags := 49
  interfaces := #[]
  cf := some (fileOf pool1 49 #[] #[{ accessFlags := 2, nameIndex := 5, descriptorIndex := 6, attributes := #[] }, { accessFlags := 10, nameIndex := 52, descriptorIndex := 53, attributes := #[] }, { accessFlags := 9, nameIndex := 57, descriptorIndex := 58, attributes := #[] }] 49 2 #[] #[])
  fields := #[]
  methods := #[k1m0, k1m1, k1m2]
  instanceTypes := #[]
  staticTypes := #[]
  resolved := Array.replicate 61 none
  statics := none }

def pool2 : Array CpInfo := pool [(8, .class_ 10), (1, u "java/lang/Iterable"), (24, .class_ 36), (0, u "java/lang/Object")] 25

/-- java/lang/Iterable -/
def k2 : Class := { plain "java/lang/Iterable" (some 0) with
  accessFlags := 1537
  interfaces := #[]
  cf := some (fileOf pool2 8 #[] #[] 1537 35 #[] #[])
  fields := #[]
  methods := #[]
  instanceTypes := #[]
  staticTypes := #[]
  resolved := Array.replicate 62 none
  statics := none }

def pool3 : Array CpInfo := pool [(10, .class_ 12), (1, u "java/util/Collection"), (47, .class_ 61), (0, u "java/lang/Object"), (0, .class_ 63), (0, u "java/lang/Iterable")] 51

/-- java/util/Collection -/
def k3 : Class := { plain "java/util/Collection" (some 0) with
  accessFlags := 1537
  interfaces := #[2]
  cf := some (fileOf pool3 10 #[] #[] 1537 60 #[62] #[])
  fields := #[]
  methods := #[]
  instanceTypes := #[]
  staticTypes := #[]
  resolved := Array.replicate 115 none
  statics := none }

def pool4 : Array CpInfo := pool [(1, .methodref 2 3), (0, .class_ 4), (0, .nameAndType 5 6), (0, u "java/lang/Object"), (0, u "<init>"), (0, u "()V"), (1, .class_ 10), (1, u "java/util/AbstractCollection"), (66, .class_ 78), (0, u "java/util/Collection")] 81

def k4c0 : Code := { maxStack := 1, maxLocals := 1, code := jdk_22_method_1_code, exceptionTable := #[], attributes := #[] }
def k4m0 : Method := { name := "<init>", desc := "()V", sig := { parameters := [], returnType := none }, accessFlags := 4, code := some k4c0 }
/-- java/util/AbstractCollection -/
def k4 : Class := { plain "java/util/AbstractCollection" (some 0) with
  accessFlags := 1057
  interfaces := #[3]
  cf := some (fileOf pool4 8 #[] #[{ accessFlags := 4, nameIndex := 5, descriptorIndex := 6, attributes := #[] }] 1057 2 #[77] #[])
  fields := #[]
  methods := #[k4m0]
  instanceTypes := #[]
  staticTypes := #[]
  resolved := Array.replicate 160 none
  statics := none }

def pool5 : Array CpInfo := pool [(8, .class_ 10), (1, u "java/util/SequencedCollection"), (15, .class_ 27), (0, u "java/lang/Object"), (0, .class_ 29), (0, u "java/util/Collection")] 27

/-- java/util/SequencedCollection -/
def k5 : Class := { plain "java/util/SequencedCollection" (some 0) with
  accessFlags := 1537
  interfaces := #[3]
  cf := some (fileOf pool5 8 #[] #[] 1537 26 #[28] #[])
  fields := #[]
  methods := #[]
  instanceTypes := #[]
  staticTypes := #[]
  resolved := Array.replicate 57 none
  statics := none }

def pool6 : Array CpInfo := pool [(8, .class_ 10), (1, u "java/util/List"), (64, u "get"), (0, u "(I)Ljava/lang/Object;"), (2, u "size"), (0, u "()I"), (22, .class_ 104), (0, u "java/lang/Object"), (15, .class_ 121), (0, u "java/util/SequencedCollection")] 129

def k6m0 : Method := { name := "size", desc := "()I", sig := { parameters := [], returnType := some .int }, accessFlags := 1025, code := none }
def k6m1 : Method := { name := "get", desc := "(I)Ljava/lang/Object;", sig := { parameters := [.int], returnType := some (.object "java/lang/Object") }, accessFlags := 1025, code := none }
/-- java/util/List -/
def k6 : Class := { plain "java/util/List" (some 0) with
  accessFlags := 1537
  interfaces := #[5]
  cf := some (fileOf pool6 8 #[] #[{ accessFlags := 1025, nameIndex := 79, descriptorIndex := 80, attributes := #[] }, { accessFlags := 1025, nameIndex := 75, descriptorIndex := 76, attributes := #[] }] 1537 103 #[120] #[])
  fields := #[]
  methods := #[k6m0, k6m1]
  instanceTypes := #[]
  staticTypes := #[]
  resolved := Array.replicate 251 none
  statics := none }

def pool7 : Array CpInfo := pool [(1, .methodref 2 3), (0, .class_ 4), (0, .nameAndType 5 6), (0, u "java/util/AbstractCollection"), (0, u "<init>"), (0, u "()V"), (0, .fieldref 8 9), (0, .class_ 10), (0, .nameAndType 11 12), (0, u "java/util/AbstractList"), (0, u "modCount"), (0, u "I"), (64, .class_ 78), (0, u "java/util/AbstractList$Itr"), (3, .class_ 83), (0, u "java/util/AbstractList$ListItr"), (9, .class_ 94), (0, u "java/util/AbstractList$RandomAccessSubList"), (3, .class_ 99), (0, u "java/util/AbstractList$SubList"), (33, .class_ 134), (0, u "java/util/List"), (73, .class_ 209), (0, u "java/util/AbstractList$SubList$1"), (0, .class_ 211), (0, u "java/util/AbstractList$RandomAccessSpliterator")] 6

def k7c0 : Code := { maxStack := 2, maxLocals := 1, code := jdk_39_method_1_code, exceptionTable := #[], attributes := #[] }
def k7m0 : Method := { name := "<init>", desc := "()V", sig := { parameters := [], returnType := none }, accessFlags := 4, code := some k7c0 }
/-- java/util/AbstractList -/
def k7 : Class := { plain "java/util/AbstractList" (some 4) with
  accessFlags := 1057
  interfaces := #[6]
  cf := some (fileOf pool7 8 #[.nestMembers #[93, 98, 208, 210, 82, 77]] #[{ accessFlags := 4, nameIndex := 5, descriptorIndex := 6, attributes := #[] }] 1057 2 #[133] #[{ accessFlags := 132, nameIndex := 11, descriptorIndex := 12, attributes := #[] }])
  fields := #[{ name := "modCount", type := .int, accessFlags := 132, slot := 0, constantValue := 0 }]
  methods := #[k7m0]
  instanceTypes := #[.int]
  staticTypes := #[]
  resolved := Array.replicate 218 none
  statics := none }

def pool8 : Array CpInfo := pool [(1, .class_ 2), (0, u "java/util/RandomAccess"), (0, .class_ 4), (0, u "java/lang/Object")] 2

/-- java/util/RandomAccess -/
def k8 : Class := { plain "java/util/RandomAccess" (some 0) with
  accessFlags := 1537
  interfaces := #[]
  cf := some (fileOf pool8 1 #[] #[] 1537 3 #[] #[])
  fields := #[]
  methods := #[]
  instanceTypes := #[]
  staticTypes := #[]
  resolved := Array.replicate 7 none
  statics := none }

def pool9 : Array CpInfo := pool [(1, .class_ 2), (0, u "java/lang/Cloneable"), (0, .class_ 4), (0, u "java/lang/Object")] 2

/-- java/lang/Cloneable -/
def k9 : Class := { plain "java/lang/Cloneable" (some 0) with
  accessFlags := 1537
  interfaces := #[]
  cf := some (fileOf pool9 1 #[] #[] 1537 3 #[] #[])
  fields := #[]
  methods := #[]
  instanceTypes := #[]
  staticTypes := #[]
  resolved := Array.replicate 7 none
  statics := none }

def pool10 : Array CpInfo := pool [(1, .class_ 2), (0, u "java/io/Serializable"), (0, .class_ 4), (0, u "java/lang/Object")] 2

/-- java/io/Serializable -/
def k10 : Class := { plain "java/io/Serializable" (some 0) with
  accessFlags := 1537
  interfaces := #[]
  cf := some (fileOf pool10 1 #[] #[] 1537 3 #[] #[])
  fields := #[]
  methods := #[]
  instanceTypes := #[]
  staticTypes := #[]
  resolved := Array.replicate 7 none
  statics := none }

def pool11 : Array CpInfo := pool [(1, .methodref 2 3), (0, .class_ 4), (0, .nameAndType 5 6), (0, u "java/util/AbstractList"), (0, u "<init>"), (0, u "()V"), (0, .class_ 8), (0, u "java/lang/Object"), (0, .fieldref 10 11), (0, .class_ 12), (0, .nameAndType 13 14), (0, u "java/util/ArrayList"), (0, u "elementData"), (0, u "[Ljava/lang/Object;"), (2, u "EMPTY_ELEMENTDATA"), (21, .fieldref 10 40), (0, .nameAndType 41 14), (0, u "DEFAULTCAPACITY_EMPTY_ELEMENTDATA"), (5, u "()[Ljava/lang/Object;"), (0, .fieldref 10 49), (0, .nameAndType 50 51), (0, u "size"), (0, u "I"), (11, .fieldref 10 64), (0, .nameAndType 65 51), (0, u "modCount"), (3, .methodref 10 70), (0, .nameAndType 71 72), (0, u "grow"), (0, u "(I)[Ljava/lang/Object;"), (6, .methodref 80 81), (0, .class_ 82), (0, .nameAndType 83 84), (0, u "java/lang/Math"), (0, u "max"), (0, u "(II)I"), (11, u "(Ljava/lang/Object;)Z"), (21, .methodref 119 120), (0, .class_ 121), (0, .nameAndType 122 84), (0, u "java/util/Objects"), (0, u "checkIndex"), (0, .methodref 10 124), (0, .nameAndType 13 125), (0, u "(I)Ljava/lang/Object;"), (3, .methodref 10 130), (0, .nameAndType 71 47), (0, .methodref 10 132), (0, .nameAndType 133 134), (0, u "add"), (0, u "(Ljava/lang/Object;[Ljava/lang/Object;I)V"), (13, .class_ 149), (0, u "java/util/List"), (36, u "()I"), (75, .class_ 263), (0, u "java/util/ArrayList$ListItr"), (3, .class_ 268), (0, u "java/util/ArrayList$Itr"), (7, .class_ 277), (0, u "java/util/ArrayList$SubList"), (12, .class_ 291), (0, u "java/util/ArrayList$ArrayListSpliterator"), (37, .class_ 330), (0, u "java/util/RandomAccess"), (0, .class_ 332), (0, u "java/lang/Cloneable"), (0, .class_ 334), (0, u "java/io/Serializable"), (0, u "serialVersionUID"), (0, u "J"), (3, u "DEFAULT_CAPACITY"), (40, u "get"), (118, .class_ 501), (0, u "java/util/ArrayList$SubList$2"), (0, .class_ 503), (0, u "java/util/ArrayList$SubList$1")] 5

def k11c0 : Code := { maxStack := 2, maxLocals := 1, code := jdk_38_method_2_code, exceptionTable := #[], attributes := #[] }
def k11m0 : Method := { name := "<init>", desc := "()V", sig := { parameters := [], returnType := none }, accessFlags := 1, code := some k11c0 }
def k11c1 : Code := { maxStack := 4, maxLocals := 4, code := jdk_38_method_6_code, exceptionTable := #[], attributes := #[] }
def k11m1 : Method := { name := "grow", desc := "(I)[Ljava/lang/Object;", sig := { parameters := [.int], returnType := some (.array (.object "java/lang/Object")) }, accessFlags := 2, code := some k11c1 }
def k11c2 : Code := { maxStack := 3, maxLocals := 1, code := jdk_38_method_7_code, exceptionTable := #[], attributes := #[] }
def k11m2 : Method := { name := "grow", desc := "()[Ljava/lang/Object;", sig := { parameters := [], returnType := some (.array (.object "java/lang/Object")) }, accessFlags := 2, code := some k11c2 }
def k11c3 : Code := { maxStack := 1, maxLocals := 1, code := jdk_38_method_8_code, exceptionTable := #[], attributes := #[] }
def k11m3 : Method := { name := "size", desc := "()I", sig := { parameters := [], returnType := some .int }, accessFlags := 1, code := some k11c3 }
def k11c4 : Code := { maxStack := 2, maxLocals := 2, code := jdk_38_method_18_code, exceptionTable := #[], attributes := #[] }
def k11m4 : Method := { name := "elementData", desc := "(I)Ljava/lang/Object;", sig := { parameters := [.int], returnType := some (.object "java/lang/Object") }, accessFlags := 0, code := some k11c4 }
def k11c5 : Code := { maxStack := 2, maxLocals := 2, code := jdk_38_method_20_code, exceptionTable := #[], attributes := #[] }
def k11m5 : Method := { name := "get", desc := "(I)Ljava/lang/Object;", sig := { parameters := [.int], returnType := some (.object "java/lang/Object") }, accessFlags := 1, code := some k11c5 }
def k11c6 : Code := { maxStack := 3, maxLocals := 4, code := jdk_38_method_24_code, exceptionTable := #[], attributes := #[] }
def k11m6 : Method := { name := "add", desc := "(Ljava/lang/Object;[Ljava/lang/Object;I)V", sig := { parameters := [(.object "java/lang/Object"), (.array (.object "java/lang/Object")), .int], returnType := none }, accessFlags := 2, code := some k11c6 }
def k11c7 : Code := { maxStack := 4, maxLocals := 2, code := jdk_38_method_25_code, exceptionTable := #[], attributes := #[] }
def k11m7 : Method := { name := "add", desc := "(Ljava/lang/Object;)Z", sig := { parameters := [(.object "java/lang/Object")], returnType := some .boolean }, accessFlags := 1, code := some k11c7 }
/-- java/util/ArrayList -/
def k11 : Class := { plain "java/util/ArrayList" (some 7) with
  accessFlags := 33
  interfaces := #[6, 8, 9, 10]
  cf := some (fileOf pool11 10 #[.nestMembers #[290, 276, 500, 502, 262, 267]] #[{ accessFlags := 1, nameIndex := 5, descriptorIndex := 6, attributes := #[] }, { accessFlags := 2, nameIndex := 71, descriptorIndex := 72, attributes := #[] }, { accessFlags := 2, nameIndex := 71, descriptorIndex := 47, attributes := #[] }, { accessFlags := 1, nameIndex := 50, descriptorIndex := 186, attributes := #[] }, { accessFlags := 0, nameIndex := 13, descriptorIndex := 125, attributes := #[] }, { accessFlags := 1, nameIndex := 381, descriptorIndex := 125, attributes := #[] }, { accessFlags := 2, nameIndex := 133, descriptorIndex := 134, attributes := #[] }, { accessFlags := 1, nameIndex := 133, descriptorIndex := 96, attributes := #[] }] 33 2 #[148, 329, 331, 333] #[{ accessFlags := 26, nameIndex := 335, descriptorIndex := 336, attributes := #[] }, { accessFlags := 26, nameIndex := 340, descriptorIndex := 51, attributes := #[] }, { accessFlags := 26, nameIndex := 17, descriptorIndex := 14, attributes := #[] }, { accessFlags := 26, nameIndex := 41, descriptorIndex := 14, attributes := #[] }, { accessFlags := 128, nameIndex := 13, descriptorIndex := 14, attributes := #[] }, { accessFlags := 2, nameIndex := 50, descriptorIndex := 51, attributes := #[] }])
  fields := #[{ name := "serialVersionUID", type := .long, accessFlags := 26, slot := 0, constantValue := 0 }, { name := "DEFAULT_CAPACITY", type := .int, accessFlags := 26, slot := 1, constantValue := 0 }, { name := "EMPTY_ELEMENTDATA", type := (.array (.object "java/lang/Object")), accessFlags := 26, slot := 2, constantValue := 0 }, { name := "DEFAULTCAPACITY_EMPTY_ELEMENTDATA", type := (.array (.object "java/lang/Object")), accessFlags := 26, slot := 3, constantValue := 0 }, { name := "elementData", type := (.array (.object "java/lang/Object")), accessFlags := 128, slot := 1, constantValue := 0 }, { name := "size", type := .int, accessFlags := 2, slot := 2, constantValue := 0 }]
  methods := #[k11m0, k11m1, k11m2, k11m3, k11m4, k11m5, k11m6, k11m7]
  instanceTypes := #[.int, (.array (.object "java/lang/Object")), .int]
  staticTypes := #[.long, .int, (.array (.object "java/lang/Object")), (.array (.object "java/lang/Object"))]
  resolved := Array.replicate 509 none
  statics := some 0 }

def pool12 : Array CpInfo := pool [(1, .methodref 2 3), (0, .class_ 4), (0, .nameAndType 5 6), (0, u "java/lang/Object"), (0, u "<init>"), (0, u "()V"), (0, .class_ 8), (0, u "com/example/monarc/monarc/Term$Constant"), (10, .class_ 21), (1, u "com/example/monarc/monarc/Term"), (74, .class_ 97), (0, u "com/example/monarc/monarc/Term$Call")] 61

def k12c0 : Code := { maxStack := 1, maxLocals := 1, code := prog_70_method_1_code, exceptionTable := #[], attributes := #[] }
def k12m0 : Method := { name := "<init>", desc := "()V", sig := { parameters := [], returnType := none }, accessFlags := 0, code := some k12c0 }
/-- com/example/monarc/monarc/Term -/
def k12 : Class := { plain "com/example/monarc/monarc/Term" (some 0) with
  accessFlags := 1057
  interfaces := #[]
  cf := some (fileOf pool12 19 #[.nestMembers #[96, 7]] #[{ accessFlags := 0, nameIndex := 5, descriptorIndex := 6, attributes := #[] }] 1057 2 #[] #[])
  fields := #[]
  methods := #[k12m0]
  instanceTypes := #[]
  staticTypes := #[]
  resolved := Array.replicate 159 none
  statics := none }

def pool13 : Array CpInfo := pool [(1, .methodref 2 3), (0, .class_ 4), (0, .nameAndType 5 6), (0, u "com/example/monarc/monarc/Term"), (0, u "<init>"), (0, u "()V"), (0, .fieldref 8 9), (0, .class_ 10), (0, .nameAndType 11 12), (0, u "com/example/monarc/monarc/Variable"), (0, u "name"), (0, u "Ljava/lang/String;"), (0, .fieldref 8 14), (0, .nameAndType 15 16), (0, u "index"), (0, u "I"), (0, .fieldref 8 18), (0, .nameAndType 19 20), (0, u "domain"), (0, u "Lcom/example/monarc/monarc/InitialDomain;"), (28, u "(Ljava/lang/String;ILcom/example/monarc/monarc/InitialDomain;)V"), (3, u "()Lcom/example/monarc/monarc/InitialDomain;")] 34

def k13c0 : Code := { maxStack := 2, maxLocals := 4, code := prog_76_method_1_code, exceptionTable := #[], attributes := #[] }
def k13m0 : Method := { name := "<init>", desc := "(Ljava/lang/String;ILcom/example/monarc/monarc/InitialDomain;)V", sig := { parameters := [(.object "java/lang/String"), .int, (.object "com/example/monarc/monarc/InitialDomain")], returnType := none }, accessFlags := 0, code := some k13c0 }
def k13c1 : Code := { maxStack := 1, maxLocals := 1, code := prog_76_method_4_code, exceptionTable := #[], attributes := #[] }
def k13m1 : Method := { name := "domain", desc := "()Lcom/example/monarc/monarc/InitialDomain;", sig := { parameters := [], returnType := some (.object "com/example/monarc/monarc/InitialDomain") }, accessFlags := 0, code := some k13c1 }
/-- com/example/monarc/monarc/Variable -/
def k13 : Class := { plain "com/example/monarc/monarc/Variable" (some 12) with
  accessFlags := 49
  interfaces := #[]
  cf := some (fileOf pool13 8 #[] #[{ accessFlags := 0, nameIndex := 5, descriptorIndex := 49, attributes := #[] }, { accessFlags := 0, nameIndex := 19, descriptorIndex := 53, attributes := #[] }] 49 2 #[] #[{ accessFlags := 18, nameIndex := 11, descriptorIndex := 12, attributes := #[] }, { accessFlags := 18, nameIndex := 15, descriptorIndex := 16, attributes := #[] }, { accessFlags := 18, nameIndex := 19, descriptorIndex := 20, attributes := #[] }])
  fields := #[{ name := "name", type := (.object "java/lang/String"), accessFlags := 18, slot := 0, constantValue := 0 }, { name := "index", type := .int, accessFlags := 18, slot := 1, constantValue := 0 }, { name := "domain", type := (.object "com/example/monarc/monarc/InitialDomain"), accessFlags := 18, slot := 2, constantValue := 0 }]
  methods := #[k13m0, k13m1]
  instanceTypes := #[(.object "java/lang/String"), .int, (.object "com/example/monarc/monarc/InitialDomain")]
  staticTypes := #[]
  resolved := Array.replicate 88 none
  statics := none }

def pool14 : Array CpInfo := pool [(1, .class_ 2), (0, u "java/lang/Comparable"), (0, .class_ 4), (0, u "java/lang/Object")] 7

/-- java/lang/Comparable -/
def k14 : Class := { plain "java/lang/Comparable" (some 0) with
  accessFlags := 1537
  interfaces := #[]
  cf := some (fileOf pool14 1 #[] #[] 1537 3 #[] #[])
  fields := #[]
  methods := #[]
  instanceTypes := #[]
  staticTypes := #[]
  resolved := Array.replicate 12 none
  statics := none }

def pool15 : Array CpInfo := pool [(2, .class_ 4), (1, u "java/lang/CharSequence"), (42, .class_ 48), (0, u "java/lang/CharSequence$1CodePointIterator"), (10, .class_ 60), (0, u "java/lang/CharSequence$1CharIterator"), (5, .class_ 67), (0, u "java/lang/Object")] 63

/-- java/lang/CharSequence -/
def k15 : Class := { plain "java/lang/CharSequence" (some 0) with
  accessFlags := 1537
  interfaces := #[]
  cf := some (fileOf pool15 2 #[.nestMembers #[47, 59]] #[] 1537 66 #[] #[])
  fields := #[]
  methods := #[]
  instanceTypes := #[]
  staticTypes := #[]
  resolved := Array.replicate 131 none
  statics := none }

def pool16 : Array CpInfo := pool [(1, .class_ 2), (0, u "java/lang/constant/Constable"), (0, .class_ 4), (0, u "java/lang/Object")] 6

/-- java/lang/constant/Constable -/
def k16 : Class := { plain "java/lang/constant/Constable" (some 0) with
  accessFlags := 1537
  interfaces := #[]
  cf := some (fileOf pool16 1 #[] #[] 1537 3 #[] #[])
  fields := #[]
  methods := #[]
  instanceTypes := #[]
  staticTypes := #[]
  resolved := Array.replicate 11 none
  statics := none }

def pool17 : Array CpInfo := pool [(1, .class_ 2), (0, u "java/lang/constant/ConstantDesc"), (0, .class_ 4), (0, u "java/lang/Object")] 32

/-- java/lang/constant/ConstantDesc -/
def k17 : Class := { plain "java/lang/constant/ConstantDesc" (some 0) with
  accessFlags := 1537
  interfaces := #[]
  cf := some (fileOf pool17 1 #[] #[] 1537 3 #[] #[])
  fields := #[]
  methods := #[]
  instanceTypes := #[]
  staticTypes := #[]
  resolved := Array.replicate 37 none
  statics := none }

def pool18 : Array CpInfo := pool [(2, .class_ 4), (1, u "java/lang/Object"), (0, u "<init>"), (0, u "()V"), (3, .class_ 12), (1, u "java/lang/String"), (0, u "value"), (0, u "[B"), (2, u "coder"), (0, u "B"), (2, u "hash"), (0, u "I"), (2, u "hashIsZero"), (0, u "Z"), (13, u "COMPACT_STRINGS"), (534, .class_ 576), (0, u "java/lang/CharSequence"), (22, u "CASE_INSENSITIVE_ORDER"), (0, u "Ljava/util/Comparator;"), (500, u "serialPersistentFields"), (0, u "[Ljava/io/ObjectStreamField;"), (0, .class_ 1104), (0, u "java/lang/String$CaseInsensitiveComparator"), (1, .class_ 1107), (0, u "java/io/Serializable"), (0, .class_ 1109), (0, u "java/lang/Comparable"), (0, .class_ 1111), (0, u "java/lang/constant/Constable"), (0, .class_ 1113), (0, u "java/lang/constant/ConstantDesc"), (2, u "serialVersionUID"), (0, u "J"), (3, u "REPL"), (0, u "C"), (2, u "LATIN1"), (1, u "UTF16")] 323

def k18m0 : Method := { name := "<init>", desc := "()V", sig := { parameters := [], returnType := none }, accessFlags := 1, code := none }
/-- java/lang/String -/
def k18 : Class := { plain "java/lang/String" (some 0) with
  accessFlags := 49
  interfaces := #[10, 14, 15, 16, 17]
  cf := some (fileOf pool18 10 #[.nestMembers #[1103]] #[{ accessFlags := 1, nameIndex := 5, descriptorIndex := 6, attributes := #[] }] 49 2 #[1106, 1108, 575, 1110, 1112] #[{ accessFlags := 18, nameIndex := 13, descriptorIndex := 14, attributes := #[] }, { accessFlags := 18, nameIndex := 17, descriptorIndex := 18, attributes := #[] }, { accessFlags := 2, nameIndex := 21, descriptorIndex := 22, attributes := #[] }, { accessFlags := 2, nameIndex := 25, descriptorIndex := 26, attributes := #[] }, { accessFlags := 26, nameIndex := 1116, descriptorIndex := 1117, attributes := #[] }, { accessFlags := 24, nameIndex := 40, descriptorIndex := 26, attributes := #[] }, { accessFlags := 26, nameIndex := 1101, descriptorIndex := 1102, attributes := #[] }, { accessFlags := 26, nameIndex := 1121, descriptorIndex := 1122, attributes := #[] }, { accessFlags := 25, nameIndex := 599, descriptorIndex := 600, attributes := #[] }, { accessFlags := 24, nameIndex := 1125, descriptorIndex := 18, attributes := #[] }, { accessFlags := 24, nameIndex := 1127, descriptorIndex := 18, attributes := #[] }])
  fields := #[{ name := "value", type := (.array .byte), accessFlags := 18, slot := 0, constantValue := 0 }, { name := "coder", type := .byte, accessFlags := 18, slot := 1, constantValue := 0 }, { name := "hash", type := .int, accessFlags := 2, slot := 2, constantValue := 0 }, { name := "hashIsZero", type := .boolean, accessFlags := 2, slot := 3, constantValue := 0 }, { name := "serialVersionUID", type := .long, accessFlags := 26, slot := 0, constantValue := 0 }, { name := "COMPACT_STRINGS", type := .boolean, accessFlags := 24, slot := 1, constantValue := 0 }, { name := "serialPersistentFields", type := (.array (.object "java/io/ObjectStreamField")), accessFlags := 26, slot := 2, constantValue := 0 }, { name := "REPL", type := .char, accessFlags := 26, slot := 3, constantValue := 0 }, { name := "CASE_INSENSITIVE_ORDER", type := (.object "java/util/Comparator"), accessFlags := 25, slot := 4, constantValue := 0 }, { name := "LATIN1", type := .byte, accessFlags := 24, slot := 5, constantValue := 0 }, { name := "UTF16", type := .byte, accessFlags := 24, slot := 6, constantValue := 0 }]
  methods := #[k18m0]
  instanceTypes := #[(.array .byte), .byte, .int, .boolean]
  staticTypes := #[.long, .boolean, (.array (.object "java/io/ObjectStreamField")), .char, (.object "java/util/Comparator"), .byte, .byte]
  resolved := Array.replicate 1451 none
  statics := none }

def pool19 : Array CpInfo := pool [(1, .methodref 2 3), (0, .class_ 4), (0, .nameAndType 5 6), (0, u "java/lang/Object"), (0, u "<init>"), (0, u "()V"), (0, .class_ 8), (0, u "com/example/monarc/monarc/InitialDomain"), (0, .long 1073741823), (10, .fieldref 7 21), (0, .nameAndType 22 23), (0, u "lowest"), (0, u "I"), (0, .fieldref 7 25), (0, .nameAndType 26 23), (0, u "size"), (0, .fieldref 7 28), (0, .nameAndType 29 30), (0, u "values"), (0, u "[I"), (3, .methodref 7 35), (0, .nameAndType 5 36), (0, u "(IJ[I)V"), (25, u "range"), (0, u "(II)Lcom/example/monarc/monarc/InitialDomain;"), (60, u "MOST_VALUES"), (6, u "()I")] 35

def k19c0 : Code := { maxStack := 4, maxLocals := 5, code := prog_20_method_1_code, exceptionTable := #[], attributes := #[] }
def k19m0 : Method := { name := "<init>", desc := "(IJ[I)V", sig := { parameters := [.int, .long, (.array .int)], returnType := none }, accessFlags := 2, code := some k19c0 }
def k19c1 : Code := { maxStack := 7, maxLocals := 2, code := prog_20_method_2_code, exceptionTable := #[], attributes := #[] }
def k19m1 : Method := { name := "range", desc := "(II)Lcom/example/monarc/monarc/InitialDomain;", sig := { parameters := [.int, .int], returnType := some (.object "com/example/monarc/monarc/InitialDomain") }, accessFlags := 9, code := some k19c1 }
def k19c2 : Code := { maxStack := 1, maxLocals := 1, code := prog_20_method_5_code, exceptionTable := #[], attributes := #[] }
def k19m2 : Method := { name := "size", desc := "()I", sig := { parameters := [], returnType := some .int }, accessFlags := 0, code := some k19c2 }
/-- com/example/monarc/monarc/InitialDomain -/
def k19 : Class := { plain "com/example/monarc/monarc/InitialDomain" (some 0) with
  accessFlags := 49
  interfaces := #[]
  cf := some (fileOf pool19 7 #[] #[{ accessFlags := 2, nameIndex := 5, descriptorIndex := 36, attributes := #[] }, { accessFlags := 9, nameIndex := 62, descriptorIndex := 63, attributes := #[] }, { accessFlags := 0, nameIndex := 26, descriptorIndex := 131, attributes := #[] }] 49 2 #[] #[{ accessFlags := 25, nameIndex := 124, descriptorIndex := 23, attributes := #[] }, { accessFlags := 18, nameIndex := 22, descriptorIndex := 23, attributes := #[] }, { accessFlags := 18, nameIndex := 26, descriptorIndex := 23, attributes := #[] }, { accessFlags := 18, nameIndex := 29, descriptorIndex := 30, attributes := #[] }])
  fields := #[{ name := "MOST_VALUES", type := .int, accessFlags := 25, slot := 0, constantValue := 0 }, { name := "lowest", type := .int, accessFlags := 18, slot := 0, constantValue := 0 }, { name := "size", type := .int, accessFlags := 18, slot := 1, constantValue := 0 }, { name := "values", type := (.array .int), accessFlags := 18, slot := 2, constantValue := 0 }]
  methods := #[k19m0, k19m1, k19m2]
  instanceTypes := #[.int, .int, (.array .int)]
  staticTypes := #[.int]
  resolved := Array.replicate 167 none
  statics := none }

def pool20 : Array CpInfo := pool [(1, .class_ 2), (0, u "java/lang/Math"), (1, .class_ 6), (1, u "java/lang/Object"), (0, u "<init>"), (0, u "()V"), (89, .class_ 100), (1, u "java/lang/Math$RandomNumberGeneratorHolder"), (71, u "negativeZeroFloatBits"), (0, u "J"), (2, u "negativeZeroDoubleBits"), (21, u "max"), (46, u "$assertionsDisabled"), (0, u "Z"), (88, u "(II)I"), (2, u "twoToTheDoubleScaleDown"), (0, u "D"), (4, u "twoToTheDoubleScaleUp"), (9, u "E"), (3, u "PI"), (2, u "TAU"), (2, u "DEGREES_TO_RADIANS"), (0, u "RADIANS_TO_DEGREES")] 94

def k20m0 : Method := { name := "<init>", desc := "()V", sig := { parameters := [], returnType := none }, accessFlags := 2, code := none }
def k20c1 : Code := { maxStack := 2, maxLocals := 2, code := jdk_29_method_65_code, exceptionTable := #[], attributes := #[] }
def k20m1 : Method := { name := "max", desc := "(II)I", sig := { parameters := [.int, .int], returnType := some .int }, accessFlags := 9, code := some k20c1 }
/-- java/lang/Math -/
def k20 : Class := { plain "java/lang/Math" (some 0) with
  accessFlags := 49
  interfaces := #[]
  cf := some (fileOf pool20 1 #[.nestMembers #[98]] #[{ accessFlags := 2, nameIndex := 7, descriptorIndex := 8, attributes := #[] }, { accessFlags := 9, nameIndex := 198, descriptorIndex := 335, attributes := #[] }] 49 4 #[] #[{ accessFlags := 25, nameIndex := 354, descriptorIndex := 339, attributes := #[] }, { accessFlags := 25, nameIndex := 358, descriptorIndex := 339, attributes := #[] }, { accessFlags := 25, nameIndex := 361, descriptorIndex := 339, attributes := #[] }, { accessFlags := 26, nameIndex := 364, descriptorIndex := 339, attributes := #[] }, { accessFlags := 26, nameIndex := 365, descriptorIndex := 339, attributes := #[] }, { accessFlags := 26, nameIndex := 172, descriptorIndex := 173, attributes := #[] }, { accessFlags := 26, nameIndex := 176, descriptorIndex := 173, attributes := #[] }, { accessFlags := 8, nameIndex := 344, descriptorIndex := 339, attributes := #[] }, { accessFlags := 8, nameIndex := 338, descriptorIndex := 339, attributes := #[] }, { accessFlags := 4120, nameIndex := 245, descriptorIndex := 246, attributes := #[] }])
  fields := #[{ name := "E", type := .double, accessFlags := 25, slot := 0, constantValue := 0 }, { name := "PI", type := .double, accessFlags := 25, slot := 1, constantValue := 0 }, { name := "TAU", type := .double, accessFlags := 25, slot := 2, constantValue := 0 }, { name := "DEGREES_TO_RADIANS", type := .double, accessFlags := 26, slot := 3, constantValue := 0 }, { name := "RADIANS_TO_DEGREES", type := .double, accessFlags := 26, slot := 4, constantValue := 0 }, { name := "negativeZeroFloatBits", type := .long, accessFlags := 26, slot := 5, constantValue := 0 }, { name := "negativeZeroDoubleBits", type := .long, accessFlags := 26, slot := 6, constantValue := 0 }, { name := "twoToTheDoubleScaleUp", type := .double, accessFlags := 8, slot := 7, constantValue := 0 }, { name := "twoToTheDoubleScaleDown", type := .double, accessFlags := 8, slot := 8, constantValue := 0 }, { name := "$assertionsDisabled", type := .boolean, accessFlags := 4120, slot := 9, constantValue := 0 }]
  methods := #[k20m0, k20m1]
  instanceTypes := #[]
  staticTypes := #[.double, .double, .double, .double, .double, .long, .long, .double, .double, .boolean]
  resolved := Array.replicate 460 none
  statics := none }

def pool21 : Array CpInfo := pool [(1, .class_ 2), (0, u "com/example/monarc/monarc/Domains"), (0, .methodref 4 5), (0, .class_ 6), (0, .nameAndType 7 8), (0, u "java/lang/Object"), (0, u "<init>"), (0, u "()V"), (0, .fieldref 1 10), (0, .nameAndType 11 12), (0, u "trail"), (0, u "[J"), (0, .fieldref 1 14), (0, .nameAndType 15 16), (0, u "marks"), (0, u "[I"), (0, .interfaceMethodref 18 19), (0, .class_ 20), (0, .nameAndType 21 22), (0, u "java/util/List"), (0, u "size"), (0, u "()I"), (0, .class_ 24), (0, u "com/example/monarc/monarc/InitialDomain"), (0, .fieldref 1 26), (0, .nameAndType 27 28), (0, u "initial"), (0, u "[Lcom/example/monarc/monarc/InitialDomain;"), (0, .fieldref 1 30), (0, .nameAndType 31 16), (0, u "lower"), (0, .fieldref 1 33), (0, .nameAndType 34 16), (0, u "upper"), (0, .class_ 12), (0, .fieldref 1 37), (0, .nameAndType 38 39), (0, u "holes"), (0, u "[[J"), (0, .fieldref 1 41), (0, .nameAndType 42 16), (0, u "sizes"), (0, .interfaceMethodref 18 44), (0, .nameAndType 45 46), (0, u "get"), (0, u "(I)Ljava/lang/Object;"), (0, .class_ 48), (0, u "com/example/monarc/monarc/Variable"), (0, .methodref 47 50), (0, .nameAndType 51 52), (0, u "domain"), (0, u "()Lcom/example/monarc/monarc/InitialDomain;"), (0, .methodref 23 19), (0, .fieldref 1 55), (0, .nameAndType 56 57), (0, u "withOneValue"), (0, u "I"), (6, u "(I)I"), (3, u "(II)I"), (2, .methodref 72 73), (0, .class_ 74), (0, .nameAndType 75 68), (0, u "java/lang/Math"), (0, u "max"), (6, .long 18446744073709551615), (1, .methodref 1 85), (0, .nameAndType 86 68), (0, u "leftFrom"), (2, .methodref 1 90), (0, .nameAndType 91 68), (0, u "leftUpTo"), (12, .fieldref 1 105), (0, .nameAndType 106 107), (0, u "resized"), (0, u "Ljava/util/function/IntConsumer;"), (8, u "takenBack"), (0, .methodref 1 118), (0, .nameAndType 119 120), (0, u "raiseLower"), (0, u "(II)V"), (0, .methodref 1 122), (0, .nameAndType 123 120), (0, u "lowerUpper"), (0, .methodref 125 126), (0, .class_ 127), (0, .nameAndType 128 129), (0, u "java/util/Arrays"), (0, u "fill"), (0, u "([JJ)V"), (0, .methodref 1 131), (0, .nameAndType 132 120), (0, u "resize"), (0, .methodref 1 134), (0, .nameAndType 135 136), (0, u "record"), (0, u "(III)V"), (6, .methodref 1 144), (0, .nameAndType 145 146), (0, u "countNotHoles"), (0, u "(III)I"), (0, .fieldref 1 148), (0, .nameAndType 149 57), (0, u "trailSize"), (8, .integer 1073741823), (2, u "depth"), (3, u "HOLE"), (2, u "LOWER"), (1, u "UPPER"), (1, u "POSITION_BITS"), (1, u "POSITION_MASK"), (0, u "(Ljava/util/List;)V"), (22, u "remove"), (5, u "holeMadeAt")] 4

def k21c0 : Code := { maxStack := 4, maxLocals := 4, code := prog_11_method_1_code, exceptionTable := #[], attributes := #[] }
def k21m0 : Method := { name := "<init>", desc := "(Ljava/util/List;)V", sig := { parameters := [(.object "java/util/List")], returnType := none }, accessFlags := 0, code := some k21c0 }
def k21c1 : Code := { maxStack := 5, maxLocals := 7, code := prog_11_method_14_code, exceptionTable := #[], attributes := #[] }
def k21m1 : Method := { name := "leftFrom", desc := "(II)I", sig := { parameters := [.int, .int], returnType := some .int }, accessFlags := 2, code := some k21c1 }
def k21c2 : Code := { maxStack := 7, maxLocals := 7, code := prog_11_method_15_code, exceptionTable := #[], attributes := #[] }
def k21m2 : Method := { name := "leftUpTo", desc := "(II)I", sig := { parameters := [.int, .int], returnType := some .int }, accessFlags := 2, code := some k21c2 }
def k21c3 : Code := { maxStack := 5, maxLocals := 13, code := prog_11_method_16_code, exceptionTable := #[], attributes := #[] }
def k21m3 : Method := { name := "countNotHoles", desc := "(III)I", sig := { parameters := [.int, .int, .int], returnType := some .int }, accessFlags := 2, code := some k21c3 }
def k21c4 : Code := { maxStack := 8, maxLocals := 3, code := prog_11_method_19_code, exceptionTable := #[], attributes := #[] }
def k21m4 : Method := { name := "remove", desc := "(II)V", sig := { parameters := [.int, .int], returnType := none }, accessFlags := 0, code := some k21c4 }
def k21c5 : Code := { maxStack := 7, maxLocals := 5, code := prog_11_method_23_code, exceptionTable := #[], attributes := #[] }
def k21m5 : Method := { name := "raiseLower", desc := "(II)V", sig := { parameters := [.int, .int], returnType := none }, accessFlags := 2, code := some k21c5 }
def k21c6 : Code := { maxStack := 8, maxLocals := 5, code := prog_11_method_24_code, exceptionTable := #[], attributes := #[] }
def k21m6 : Method := { name := "lowerUpper", desc := "(II)V", sig := { parameters := [.int, .int], returnType := none }, accessFlags := 2, code := some k21c6 }
def k21c7 : Code := { maxStack := 5, maxLocals := 3, code := prog_11_method_25_code, exceptionTable := #[], attributes := #[] }
def k21m7 : Method := { name := "resize", desc := "(II)V", sig := { parameters := [.int, .int], returnType := none }, accessFlags := 2, code := some k21c7 }
def k21c8 : Code := { maxStack := 7, maxLocals := 4, code := prog_11_method_26_code, exceptionTable := #[], attributes := #[] }
def k21m8 : Method := { name := "record", desc := "(III)V", sig := { parameters := [.int, .int, .int], returnType := none }, accessFlags := 2, code := some k21c8 }
def k21c9 : Code := { maxStack := 1, maxLocals := 1, code := prog_11_method_27_code, exceptionTable := #[], attributes := #[] }
def k21m9 : Method := { name := "trailSize", desc := "()I", sig := { parameters := [], returnType := some .int }, accessFlags := 0, code := some k21c9 }
def k21c10 : Code := { maxStack := 3, maxLocals := 4, code := prog_11_method_29_code, exceptionTable := #[], attributes := #[] }
def k21m10 : Method := { name := "holeMadeAt", desc := "(I)I", sig := { parameters := [.int], returnType := some .int }, accessFlags := 0, code := some k21c10 }
/-- com/example/monarc/monarc/Domains -/
def k21 : Class := { plain "com/example/monarc/monarc/Domains" (some 0) with
  accessFlags := 48
  interfaces := #[]
  cf := some (fileOf pool21 1 #[] #[{ accessFlags := 0, nameIndex := 7, descriptorIndex := 175, attributes := #[] }, { accessFlags := 2, nameIndex := 86, descriptorIndex := 68, attributes := #[] }, { accessFlags := 2, nameIndex := 91, descriptorIndex := 68, attributes := #[] }, { accessFlags := 2, nameIndex := 145, descriptorIndex := 146, attributes := #[] }, { accessFlags := 0, nameIndex := 198, descriptorIndex := 120, attributes := #[] }, { accessFlags := 2, nameIndex := 119, descriptorIndex := 120, attributes := #[] }, { accessFlags := 2, nameIndex := 123, descriptorIndex := 120, attributes := #[] }, { accessFlags := 2, nameIndex := 132, descriptorIndex := 120, attributes := #[] }, { accessFlags := 2, nameIndex := 135, descriptorIndex := 136, attributes := #[] }, { accessFlags := 0, nameIndex := 149, descriptorIndex := 22, attributes := #[] }, { accessFlags := 0, nameIndex := 204, descriptorIndex := 64, attributes := #[] }] 48 4 #[] #[{ accessFlags := 26, nameIndex := 165, descriptorIndex := 57, attributes := #[] }, { accessFlags := 26, nameIndex := 168, descriptorIndex := 57, attributes := #[] }, { accessFlags := 26, nameIndex := 170, descriptorIndex := 57, attributes := #[] }, { accessFlags := 26, nameIndex := 172, descriptorIndex := 57, attributes := #[] }, { accessFlags := 26, nameIndex := 174, descriptorIndex := 57, attributes := #[] }, { accessFlags := 18, nameIndex := 27, descriptorIndex := 28, attributes := #[] }, { accessFlags := 18, nameIndex := 31, descriptorIndex := 16, attributes := #[] }, { accessFlags := 18, nameIndex := 34, descriptorIndex := 16, attributes := #[] }, { accessFlags := 18, nameIndex := 38, descriptorIndex := 39, attributes := #[] }, { accessFlags := 18, nameIndex := 42, descriptorIndex := 16, attributes := #[] }, { accessFlags := 2, nameIndex := 56, descriptorIndex := 57, attributes := #[] }, { accessFlags := 2, nameIndex := 11, descriptorIndex := 12, attributes := #[] }, { accessFlags := 2, nameIndex := 149, descriptorIndex := 57, attributes := #[] }, { accessFlags := 2, nameIndex := 15, descriptorIndex := 16, attributes := #[] }, { accessFlags := 2, nameIndex := 161, descriptorIndex := 57, attributes := #[] }, { accessFlags := 2, nameIndex := 106, descriptorIndex := 107, attributes := #[] }, { accessFlags := 2, nameIndex := 116, descriptorIndex := 107, attributes := #[] }])
  fields := #[{ name := "HOLE", type := .int, accessFlags := 26, slot := 0, constantValue := 0 }, { name := "LOWER", type := .int, accessFlags := 26, slot := 1, constantValue := 0 }, { name := "UPPER", type := .int, accessFlags := 26, slot := 2, constantValue := 0 }, { name := "POSITION_BITS", type := .int, accessFlags := 26, slot := 3, constantValue := 0 }, { name := "POSITION_MASK", type := .int, accessFlags := 26, slot := 4, constantValue := 0 }, { name := "initial", type := (.array (.object "com/example/monarc/monarc/InitialDomain")), accessFlags := 18, slot := 0, constantValue := 0 }, { name := "lower", type := (.array .int), accessFlags := 18, slot := 1, constantValue := 0 }, { name := "upper", type := (.array .int), accessFlags := 18, slot := 2, constantValue := 0 }, { name := "holes", type := (.array (.array .long)), accessFlags := 18, slot := 3, constantValue := 0 }, { name := "sizes", type := (.array .int), accessFlags := 18, slot := 4, constantValue := 0 }, { name := "withOneValue", type := .int, accessFlags := 2, slot := 5, constantValue := 0 }, { name := "trail", type := (.array .long), accessFlags := 2, slot := 6, constantValue := 0 }, { name := "trailSize", type := .int, accessFlags := 2, slot := 7, constantValue := 0 }, { name := "marks", type := (.array .int), accessFlags := 2, slot := 8, constantValue := 0 }, { name := "depth", type := .int, accessFlags := 2, slot := 9, constantValue := 0 }, { name := "resized", type := (.object "java/util/function/IntConsumer"), accessFlags := 2, slot := 10, constantValue := 0 }, { name := "takenBack", type := (.object "java/util/function/IntConsumer"), accessFlags := 2, slot := 11, constantValue := 0 }]
  methods := #[k21m0, k21m1, k21m2, k21m3, k21m4, k21m5, k21m6, k21m7, k21m8, k21m9, k21m10]
  instanceTypes := #[(.array (.object "com/example/monarc/monarc/InitialDomain")), (.array .int), (.array .int), (.array (.array .long)), (.array .int), .int, (.array .long), .int, (.array .int), .int, (.object "java/util/function/IntConsumer"), (.object "java/util/function/IntConsumer")]
  staticTypes := #[.int, .int, .int, .int, .int]
  resolved := Array.replicate 209 none
  statics := none }

def pool22 : Array CpInfo := pool [(2, .class_ 4), (1, u "java/lang/Object"), (0, u "<init>"), (0, u "()V"), (35, .class_ 44), (1, u "java/util/Objects"), (60, .methodref 106 107), (0, .class_ 108), (0, .nameAndType 109 110), (0, u "jdk/internal/util/Preconditions"), (0, u "checkIndex"), (0, u "(IILjava/util/function/BiFunction;)I"), (60, u "(II)I")] 12

def k22m0 : Method := { name := "<init>", desc := "()V", sig := { parameters := [], returnType := none }, accessFlags := 2, code := none }
def k22c1 : Code := { maxStack := 3, maxLocals := 2, code := jdk_31_method_17_code, exceptionTable := #[], attributes := #[] }
def k22m1 : Method := { name := "checkIndex", desc := "(II)I", sig := { parameters := [.int, .int], returnType := some .int }, accessFlags := 9, code := some k22c1 }
/-- java/util/Objects -/
def k22 : Class := { plain "java/util/Objects" (some 0) with
  accessFlags := 49
  interfaces := #[]
  cf := some (fileOf pool22 42 #[] #[{ accessFlags := 2, nameIndex := 5, descriptorIndex := 6, attributes := #[] }, { accessFlags := 9, nameIndex := 109, descriptorIndex := 171, attributes := #[] }] 49 2 #[] #[])
  fields := #[]
  methods := #[k22m0, k22m1]
  instanceTypes := #[]
  staticTypes := #[]
  resolved := Array.replicate 184 none
  statics := none }

def pool23 : Array CpInfo := pool [(2, .class_ 4), (1, u "java/lang/Object"), (0, u "<init>"), (0, u "()V"), (17, .class_ 26), (1, u "jdk/internal/util/Preconditions"), (6, u "checkIndex"), (21, .class_ 56), (0, u "jdk/internal/util/Preconditions$4"), (57, .class_ 115), (0, u "jdk/internal/util/Preconditions$1"), (7, u "SIOOBE_FORMATTER"), (0, u "Ljava/util/function/BiFunction;"), (0, .class_ 126), (0, u "jdk/internal/util/Preconditions$2"), (3, u "AIOOBE_FORMATTER"), (0, .class_ 132), (0, u "jdk/internal/util/Preconditions$3"), (3, u "IOOBE_FORMATTER"), (41, u "(IILjava/util/function/BiFunction;)I")] 15

def k23m0 : Method := { name := "<init>", desc := "()V", sig := { parameters := [], returnType := none }, accessFlags := 1, code := none }
def k23c1 : Code := { maxStack := 3, maxLocals := 3, code := jdk_41_method_11_code, exceptionTable := #[], attributes := #[] }
def k23m1 : Method := { name := "checkIndex", desc := "(IILjava/util/function/BiFunction;)I", sig := { parameters := [.int, .int, (.object "java/util/function/BiFunction")], returnType := some .int }, accessFlags := 9, code := some k23c1 }
/-- jdk/internal/util/Preconditions -/
def k23 : Class := { plain "jdk/internal/util/Preconditions" (some 0) with
  accessFlags := 33
  interfaces := #[]
  cf := some (fileOf pool23 24 #[.nestMembers #[55, 131, 125, 114]] #[{ accessFlags := 1, nameIndex := 5, descriptorIndex := 6, attributes := #[] }, { accessFlags := 9, nameIndex := 33, descriptorIndex := 178, attributes := #[] }] 33 2 #[] #[{ accessFlags := 25, nameIndex := 123, descriptorIndex := 124, attributes := #[] }, { accessFlags := 25, nameIndex := 130, descriptorIndex := 124, attributes := #[] }, { accessFlags := 25, nameIndex := 136, descriptorIndex := 124, attributes := #[] }])
  fields := #[{ name := "SIOOBE_FORMATTER", type := (.object "java/util/function/BiFunction"), accessFlags := 25, slot := 0, constantValue := 0 }, { name := "AIOOBE_FORMATTER", type := (.object "java/util/function/BiFunction"), accessFlags := 25, slot := 1, constantValue := 0 }, { name := "IOOBE_FORMATTER", type := (.object "java/util/function/BiFunction"), accessFlags := 25, slot := 2, constantValue := 0 }]
  methods := #[k23m0, k23m1]
  instanceTypes := #[]
  staticTypes := #[(.object "java/util/function/BiFunction"), (.object "java/util/function/BiFunction"), (.object "java/util/function/BiFunction")]
  resolved := Array.replicate 194 none
  statics := none }

def pool24 : Array CpInfo := pool [(2, .class_ 4), (1, u "java/lang/Object"), (0, u "<init>"), (0, u "()V"), (7, .class_ 16), (1, u "java/util/Arrays"), (57, .class_ 76), (1, u "java/util/Arrays$NaturalOrder"), (36, .class_ 115), (1, u "java/util/Arrays$LegacyMergeSort"), (1, u "Z"), (257, .class_ 376), (0, u "java/util/Arrays$ArrayList"), (68, u "$assertionsDisabled"), (269, u "MIN_ARRAY_SORT_GRAN"), (0, u "I"), (2, u "INSERTIONSORT_THRESHOLD"), (120, u "fill"), (0, u "([JJ)V"), (133, .class_ 976), (0, u "java/util/Arrays$ArrayItr")] 52

def k24m0 : Method := { name := "<init>", desc := "()V", sig := { parameters := [], returnType := none }, accessFlags := 2, code := none }
def k24c1 : Code := { maxStack := 4, maxLocals := 5, code := jdk_65_method_101_code, exceptionTable := #[], attributes := #[] }
def k24m1 : Method := { name := "fill", desc := "([JJ)V", sig := { parameters := [(.array .long), .long], returnType := none }, accessFlags := 9, code := some k24c1 }
/-- java/util/Arrays -/
def k24 : Class := { plain "java/util/Arrays" (some 0) with
  accessFlags := 49
  interfaces := #[]
  cf := some (fileOf pool24 14 #[.nestMembers #[975, 375, 113, 74]] #[{ accessFlags := 2, nameIndex := 5, descriptorIndex := 6, attributes := #[] }, { accessFlags := 9, nameIndex := 840, descriptorIndex := 841, attributes := #[] }] 49 2 #[] #[{ accessFlags := 26, nameIndex := 715, descriptorIndex := 716, attributes := #[] }, { accessFlags := 26, nameIndex := 719, descriptorIndex := 716, attributes := #[] }, { accessFlags := 4120, nameIndex := 445, descriptorIndex := 117, attributes := #[] }])
  fields := #[{ name := "MIN_ARRAY_SORT_GRAN", type := .int, accessFlags := 26, slot := 0, constantValue := 0 }, { name := "INSERTIONSORT_THRESHOLD", type := .int, accessFlags := 26, slot := 1, constantValue := 0 }, { name := "$assertionsDisabled", type := .boolean, accessFlags := 4120, slot := 2, constantValue := 0 }]
  methods := #[k24m0, k24m1]
  instanceTypes := #[]
  staticTypes := #[.int, .int, .boolean]
  resolved := Array.replicate 1029 none
  statics := none }

/-- the primitive byte -/
def k25 : Class := { plain "byte" none with kind := .primitive 'B', accessFlags := 0x411 }
/-- [B -/
def k26 : Class := { plain "[B" (some 0) with kind := .array 25 .byte, interfaces := #[9, 10], accessFlags := 1041 }

/-- the primitive int -/
def k27 : Class := { plain "int" none with kind := .primitive 'I', accessFlags := 0x411 }
/-- [I -/
def k28 : Class := { plain "[I" (some 0) with kind := .array 27 .int, interfaces := #[9, 10], accessFlags := 1041 }

/-- the primitive long -/
def k29 : Class := { plain "long" none with kind := .primitive 'J', accessFlags := 0x411 }
/-- [J -/
def k30 : Class := { plain "[J" (some 0) with kind := .array 29 .long, interfaces := #[9, 10], accessFlags := 1041 }

/-- [Lcom/example/monarc/monarc/InitialDomain; -/
def k31 : Class := { plain "[Lcom/example/monarc/monarc/InitialDomain;" (some 0) with kind := .array 19 (.object "com/example/monarc/monarc/InitialDomain"), interfaces := #[9, 10], accessFlags := 1041 }

/-- [Ljava/lang/Object; -/
def k32 : Class := { plain "[Ljava/lang/Object;" (some 0) with kind := .array 0 (.object "java/lang/Object"), interfaces := #[9, 10], accessFlags := 1041 }

/-- [[J -/
def k33 : Class := { plain "[[J" (some 0) with kind := .array 30 (.array .long), interfaces := #[9, 10], accessFlags := 1041 }

def heap : Heap := #[{ cls := 11, slots := #[.long 0, .int 0, .ref 1, .ref 2], vm := .statics 11 },
  { cls := 32, slots := #[], vm := .none },
  { cls := 32, slots := #[], vm := .none }]
def classes : Array Class := #[k0, k1, k2, k3, k4, k5, k6, k7, k8, k9, k10, k11, k12, k13, k14, k15, k16, k17, k18, k19, k20, k21, k22, k23, k24, k25, k26, k27, k28, k29, k30, k31, k32, k33]
def interned : List (Array UInt16 × Addr) := []
def slotsUsed : Nat := 4
def theMethod : MethodId := ⟨1, 2⟩
def args0 : Array Value := #[.int 5, .int 6, .int 7, .int 8, .int 9, .int 10]
def aboutOver (below : List Frame) : State where
  vm := { classes := classes, interned := interned.toArray }
  heap := heap
  slotsUsed := slotsUsed
  threads := #[{ frames := .invoking theMethod args0 :: below }]
def below0 : List Frame := [.native { method := ⟨0, 0⟩, args := #[] }]
def about1 : State := aboutOver below0
def p0 : Program := .bare "" "" ""
def e0 : Env := launch0.env 0 0 0
theorem w_frames : about1.frames = Frame.invoking theMethod args0 :: below0 := rfl
set_option maxRecDepth 65536 in
theorem w_args : argsFit about1.vm theMethod args0 = true := by decide +kernel
set_option maxRecDepth 65536 in
theorem w_heap : heapFits about1 = true := by decide +kernel
set_option maxRecDepth 65536 in
theorem w_runnable : about1.curStatus? = some .runnable := by decide +kernel
set_option maxRecDepth 65536 in
theorem w_alone : about1.alone = true := by decide +kernel
set_option maxRecDepth 65536 in
theorem w_named : about1.methodNamed? x = some theMethod := by decide +kernel
set_option maxRecDepth 65536 in
theorem w_hears : about1.hears theMethod below0 = true := by decide +kernel
set_option maxRecDepth 65536 in
theorem w_ripe : about1.ripe theMethod args0 below0 = true := by decide +kernel
theorem w_running : about1.status = .running := rfl
set_option maxRecDepth 65536 in
theorem w_room : about1.hasRoom e0.platform room_1 = true :=
  launch0.hasRoom_least _ room_1 (by decide +kernel) (by decide +kernel) (by decide +kernel) (by decide +kernel) (by decide +kernel) (by decide +kernel)
theorem allAtoms_all (ts : List Jvm.Cond) (a : Array Jvm.Value) (st : Jvm.State) : (allAtoms ts).before a st = ts.all (fun c => c.before a st) := by
  induction ts with
  | nil => rfl
  | cons c t ih =>
    show (Jvm.Cond.and c (allAtoms t)).before a st = _
    rw [Jvm.Cond.before_and, ih, List.all_cons]
def words1 : List Jvm.Cond := Jvm.Cond.code x code maxLocals ret :: tables_1
/-- a 'code' word, met by the world's own term for the bytes: nothing is compared byte by byte -/
theorem code_word {y : MethodName} {bytes : ByteArray} {mx : Nat} {rt : Option FieldType} {a : Array Value} {s : State} {m : MethodId} {meth : Method} {c : Code} (h1 : s.methodNamed? y = some m) (h2 : s.vm.method? m = some meth) (h3 : meth.code = some c) (h4 : c.code = bytes)
    (h5 : (c.maxLocals == mx && c.exceptionTable.isEmpty && decide (c.maxStack ≤ mostOperands) && decide (meth.sig.returnType = rt) && !meth.locks && decide (parseMethodDescriptor y.desc = some meth.sig)) = true) : (Jvm.Cond.code y bytes mx rt).before a s = true := by
  simp only [Bool.and_eq_true, beq_iff_eq, Bool.not_eq_true', decide_eq_true_eq] at h5
  obtain ⟨⟨⟨⟨⟨g1, g2⟩, g3⟩, g4⟩, g5⟩, g6⟩ := h5
  simp [Cond.before, Cond.holds, Cond.value, h1, h2, h3, h4, g1, g2, g3, g4, g5, g6]
def isCode : Jvm.Cond → Bool
  | .code _ _ _ _ => true
  | _ => false
theorem all_split {L : List Jvm.Cond} {P : Jvm.Cond → Bool} (h1 : L.all (fun c => isCode c || P c) = true) (h2 : ∀ c ∈ L.filter isCode, P c = true) : L.all P = true := by
  refine List.all_eq_true.mpr fun c hc => ?_
  have h := List.all_eq_true.mp h1 c hc
  rcases Bool.eq_false_or_eq_true (isCode c) with hi | hi
  · exact h2 c (List.mem_filter.mpr ⟨hc, hi⟩)
  · simpa [hi] using h
set_option maxRecDepth 65536 in
theorem w_c0 : (Jvm.Cond.code x code maxLocals ret).before args0 about1 = true := code_word (m := ⟨1, 2⟩) (meth := k1m2) (c := k1c2) (by decide +kernel) rfl rfl rfl (by decide +kernel)
set_option maxRecDepth 65536 in
theorem w_c1 : (Jvm.Cond.code ({ cls := "java/util/ArrayList", name := "<init>", desc := "()V" } : Jvm.MethodName) jdk_38_method_2_code (1 : Nat) (Option.none : Option Jvm.ClassFile.FieldType)).before args0 about1 = true := code_word (m := ⟨11, 0⟩) (meth := k11m0) (c := k11c0) (by decide +kernel) rfl rfl rfl (by decide +kernel)
set_option maxRecDepth 65536 in
theorem w_c2 : (Jvm.Cond.code ({ cls := "java/util/AbstractList", name := "<init>", desc := "()V" } : Jvm.MethodName) jdk_39_method_1_code (1 : Nat) (Option.none : Option Jvm.ClassFile.FieldType)).before args0 about1 = true := code_word (m := ⟨7, 0⟩) (meth := k7m0) (c := k7c0) (by decide +kernel) rfl rfl rfl (by decide +kernel)
set_option maxRecDepth 65536 in
theorem w_c3 : (Jvm.Cond.code ({ cls := "java/util/AbstractCollection", name := "<init>", desc := "()V" } : Jvm.MethodName) jdk_22_method_1_code (1 : Nat) (Option.none : Option Jvm.ClassFile.FieldType)).before args0 about1 = true := code_word (m := ⟨4, 0⟩) (meth := k4m0) (c := k4c0) (by decide +kernel) rfl rfl rfl (by decide +kernel)
set_option maxRecDepth 65536 in
theorem w_c4 : (Jvm.Cond.code ({ cls := "java/lang/Object", name := "<init>", desc := "()V" } : Jvm.MethodName) object_method_1_code (1 : Nat) (Option.none : Option Jvm.ClassFile.FieldType)).before args0 about1 = true := code_word (m := ⟨0, 0⟩) (meth := k0m0) (c := k0c0) (by decide +kernel) rfl rfl rfl (by decide +kernel)
set_option maxRecDepth 65536 in
theorem w_c5 : (Jvm.Cond.code ({ cls := "com/example/monarc/monarc/InitialDomain", name := "range", desc := "(II)Lcom/example/monarc/monarc/InitialDomain;" } : Jvm.MethodName) prog_20_method_2_code (2 : Nat) (Option.some (Jvm.ClassFile.FieldType.object "com/example/monarc/monarc/InitialDomain"))).before args0 about1 = true := code_word (m := ⟨19, 1⟩) (meth := k19m1) (c := k19c1) (by decide +kernel) rfl rfl rfl (by decide +kernel)
set_option maxRecDepth 65536 in
theorem w_c6 : (Jvm.Cond.code ({ cls := "com/example/monarc/monarc/InitialDomain", name := "<init>", desc := "(IJ[I)V" } : Jvm.MethodName) prog_20_method_1_code (5 : Nat) (Option.none : Option Jvm.ClassFile.FieldType)).before args0 about1 = true := code_word (m := ⟨19, 0⟩) (meth := k19m0) (c := k19c0) (by decide +kernel) rfl rfl rfl (by decide +kernel)
set_option maxRecDepth 65536 in
theorem w_c7 : (Jvm.Cond.code ({ cls := "com/example/monarc/monarc/Variable", name := "<init>", desc := "(Ljava/lang/String;ILcom/example/monarc/monarc/InitialDomain;)V" } : Jvm.MethodName) prog_76_method_1_code (4 : Nat) (Option.none : Option Jvm.ClassFile.FieldType)).before args0 about1 = true := code_word (m := ⟨13, 0⟩) (meth := k13m0) (c := k13c0) (by decide +kernel) rfl rfl rfl (by decide +kernel)
set_option maxRecDepth 65536 in
theorem w_c8 : (Jvm.Cond.code ({ cls := "com/example/monarc/monarc/Term", name := "<init>", desc := "()V" } : Jvm.MethodName) prog_70_method_1_code (1 : Nat) (Option.none : Option Jvm.ClassFile.FieldType)).before args0 about1 = true := code_word (m := ⟨12, 0⟩) (meth := k12m0) (c := k12c0) (by decide +kernel) rfl rfl rfl (by decide +kernel)
set_option maxRecDepth 65536 in
theorem w_c9 : (Jvm.Cond.code ({ cls := "java/util/ArrayList", name := "add", desc := "(Ljava/lang/Object;)Z" } : Jvm.MethodName) jdk_38_method_25_code (2 : Nat) (Option.some Jvm.ClassFile.FieldType.boolean)).before args0 about1 = true := code_word (m := ⟨11, 7⟩) (meth := k11m7) (c := k11c7) (by decide +kernel) rfl rfl rfl (by decide +kernel)
set_option maxRecDepth 65536 in
theorem w_c10 : (Jvm.Cond.code ({ cls := "java/util/ArrayList", name := "add", desc := "(Ljava/lang/Object;[Ljava/lang/Object;I)V" } : Jvm.MethodName) jdk_38_method_24_code (4 : Nat) (Option.none : Option Jvm.ClassFile.FieldType)).before args0 about1 = true := code_word (m := ⟨11, 6⟩) (meth := k11m6) (c := k11c6) (by decide +kernel) rfl rfl rfl (by decide +kernel)
set_option maxRecDepth 65536 in
theorem w_c11 : (Jvm.Cond.code ({ cls := "java/util/ArrayList", name := "grow", desc := "()[Ljava/lang/Object;" } : Jvm.MethodName) jdk_38_method_7_code (1 : Nat) (Option.some (Jvm.ClassFile.FieldType.array (Jvm.ClassFile.FieldType.object "java/lang/Object")))).before args0 about1 = true := code_word (m := ⟨11, 2⟩) (meth := k11m2) (c := k11c2) (by decide +kernel) rfl rfl rfl (by decide +kernel)
set_option maxRecDepth 65536 in
theorem w_c12 : (Jvm.Cond.code ({ cls := "java/util/ArrayList", name := "grow", desc := "(I)[Ljava/lang/Object;" } : Jvm.MethodName) jdk_38_method_6_code (4 : Nat) (Option.some (Jvm.ClassFile.FieldType.array (Jvm.ClassFile.FieldType.object "java/lang/Object")))).before args0 about1 = true := code_word (m := ⟨11, 1⟩) (meth := k11m1) (c := k11c1) (by decide +kernel) rfl rfl rfl (by decide +kernel)
set_option maxRecDepth 65536 in
theorem w_c13 : (Jvm.Cond.code ({ cls := "java/lang/Math", name := "max", desc := "(II)I" } : Jvm.MethodName) jdk_29_method_65_code (2 : Nat) (Option.some Jvm.ClassFile.FieldType.int)).before args0 about1 = true := code_word (m := ⟨20, 1⟩) (meth := k20m1) (c := k20c1) (by decide +kernel) rfl rfl rfl (by decide +kernel)
set_option maxRecDepth 65536 in
theorem w_c14 : (Jvm.Cond.code ({ cls := "com/example/monarc/monarc/Domains", name := "<init>", desc := "(Ljava/util/List;)V" } : Jvm.MethodName) prog_11_method_1_code (4 : Nat) (Option.none : Option Jvm.ClassFile.FieldType)).before args0 about1 = true := code_word (m := ⟨21, 0⟩) (meth := k21m0) (c := k21c0) (by decide +kernel) rfl rfl rfl (by decide +kernel)
set_option maxRecDepth 65536 in
theorem w_c15 : (Jvm.Cond.code ({ cls := "java/util/ArrayList", name := "size", desc := "()I" } : Jvm.MethodName) jdk_38_method_8_code (1 : Nat) (Option.some Jvm.ClassFile.FieldType.int)).before args0 about1 = true := code_word (m := ⟨11, 3⟩) (meth := k11m3) (c := k11c3) (by decide +kernel) rfl rfl rfl (by decide +kernel)
set_option maxRecDepth 65536 in
theorem w_c16 : (Jvm.Cond.code ({ cls := "java/util/ArrayList", name := "get", desc := "(I)Ljava/lang/Object;" } : Jvm.MethodName) jdk_38_method_20_code (2 : Nat) (Option.some (Jvm.ClassFile.FieldType.object "java/lang/Object"))).before args0 about1 = true := code_word (m := ⟨11, 5⟩) (meth := k11m5) (c := k11c5) (by decide +kernel) rfl rfl rfl (by decide +kernel)
set_option maxRecDepth 65536 in
theorem w_c17 : (Jvm.Cond.code ({ cls := "java/util/Objects", name := "checkIndex", desc := "(II)I" } : Jvm.MethodName) jdk_31_method_17_code (2 : Nat) (Option.some Jvm.ClassFile.FieldType.int)).before args0 about1 = true := code_word (m := ⟨22, 1⟩) (meth := k22m1) (c := k22c1) (by decide +kernel) rfl rfl rfl (by decide +kernel)
set_option maxRecDepth 65536 in
theorem w_c18 : (Jvm.Cond.code ({ cls := "jdk/internal/util/Preconditions", name := "checkIndex", desc := "(IILjava/util/function/BiFunction;)I" } : Jvm.MethodName) jdk_41_method_11_code (3 : Nat) (Option.some Jvm.ClassFile.FieldType.int)).before args0 about1 = true := code_word (m := ⟨23, 1⟩) (meth := k23m1) (c := k23c1) (by decide +kernel) rfl rfl rfl (by decide +kernel)
set_option maxRecDepth 65536 in
theorem w_c19 : (Jvm.Cond.code ({ cls := "java/util/ArrayList", name := "elementData", desc := "(I)Ljava/lang/Object;" } : Jvm.MethodName) jdk_38_method_18_code (2 : Nat) (Option.some (Jvm.ClassFile.FieldType.object "java/lang/Object"))).before args0 about1 = true := code_word (m := ⟨11, 4⟩) (meth := k11m4) (c := k11c4) (by decide +kernel) rfl rfl rfl (by decide +kernel)
set_option maxRecDepth 65536 in
theorem w_c20 : (Jvm.Cond.code ({ cls := "com/example/monarc/monarc/Variable", name := "domain", desc := "()Lcom/example/monarc/monarc/InitialDomain;" } : Jvm.MethodName) prog_76_method_4_code (1 : Nat) (Option.some (Jvm.ClassFile.FieldType.object "com/example/monarc/monarc/InitialDomain"))).before args0 about1 = true := code_word (m := ⟨13, 1⟩) (meth := k13m1) (c := k13c1) (by decide +kernel) rfl rfl rfl (by decide +kernel)
set_option maxRecDepth 65536 in
theorem w_c21 : (Jvm.Cond.code ({ cls := "com/example/monarc/monarc/InitialDomain", name := "size", desc := "()I" } : Jvm.MethodName) prog_20_method_5_code (1 : Nat) (Option.some Jvm.ClassFile.FieldType.int)).before args0 about1 = true := code_word (m := ⟨19, 2⟩) (meth := k19m2) (c := k19c2) (by decide +kernel) rfl rfl rfl (by decide +kernel)
set_option maxRecDepth 65536 in
theorem w_c22 : (Jvm.Cond.code ({ cls := "com/example/monarc/monarc/Domains", name := "remove", desc := "(II)V" } : Jvm.MethodName) prog_11_method_19_code (3 : Nat) (Option.none : Option Jvm.ClassFile.FieldType)).before args0 about1 = true := code_word (m := ⟨21, 4⟩) (meth := k21m4) (c := k21c4) (by decide +kernel) rfl rfl rfl (by decide +kernel)
set_option maxRecDepth 65536 in
theorem w_c23 : (Jvm.Cond.code ({ cls := "java/util/Arrays", name := "fill", desc := "([JJ)V" } : Jvm.MethodName) jdk_65_method_101_code (5 : Nat) (Option.none : Option Jvm.ClassFile.FieldType)).before args0 about1 = true := code_word (m := ⟨24, 1⟩) (meth := k24m1) (c := k24c1) (by decide +kernel) rfl rfl rfl (by decide +kernel)
set_option maxRecDepth 65536 in
theorem w_c24 : (Jvm.Cond.code ({ cls := "com/example/monarc/monarc/Domains", name := "resize", desc := "(II)V" } : Jvm.MethodName) prog_11_method_25_code (3 : Nat) (Option.none : Option Jvm.ClassFile.FieldType)).before args0 about1 = true := code_word (m := ⟨21, 7⟩) (meth := k21m7) (c := k21c7) (by decide +kernel) rfl rfl rfl (by decide +kernel)
set_option maxRecDepth 65536 in
theorem w_c25 : (Jvm.Cond.code ({ cls := "com/example/monarc/monarc/Domains", name := "record", desc := "(III)V" } : Jvm.MethodName) prog_11_method_26_code (4 : Nat) (Option.none : Option Jvm.ClassFile.FieldType)).before args0 about1 = true := code_word (m := ⟨21, 8⟩) (meth := k21m8) (c := k21c8) (by decide +kernel) rfl rfl rfl (by decide +kernel)
set_option maxRecDepth 65536 in
theorem w_c26 : (Jvm.Cond.code ({ cls := "com/example/monarc/monarc/Domains", name := "raiseLower", desc := "(II)V" } : Jvm.MethodName) prog_11_method_23_code (5 : Nat) (Option.none : Option Jvm.ClassFile.FieldType)).before args0 about1 = true := code_word (m := ⟨21, 5⟩) (meth := k21m5) (c := k21c5) (by decide +kernel) rfl rfl rfl (by decide +kernel)
set_option maxRecDepth 65536 in
theorem w_c27 : (Jvm.Cond.code ({ cls := "com/example/monarc/monarc/Domains", name := "countNotHoles", desc := "(III)I" } : Jvm.MethodName) prog_11_method_16_code (13 : Nat) (Option.some Jvm.ClassFile.FieldType.int)).before args0 about1 = true := code_word (m := ⟨21, 3⟩) (meth := k21m3) (c := k21c3) (by decide +kernel) rfl rfl rfl (by decide +kernel)
set_option maxRecDepth 65536 in
theorem w_c28 : (Jvm.Cond.code ({ cls := "com/example/monarc/monarc/Domains", name := "trailSize", desc := "()I" } : Jvm.MethodName) prog_11_method_27_code (1 : Nat) (Option.some Jvm.ClassFile.FieldType.int)).before args0 about1 = true := code_word (m := ⟨21, 9⟩) (meth := k21m9) (c := k21c9) (by decide +kernel) rfl rfl rfl (by decide +kernel)
set_option maxRecDepth 65536 in
theorem w_c29 : (Jvm.Cond.code ({ cls := "com/example/monarc/monarc/Domains", name := "holeMadeAt", desc := "(I)I" } : Jvm.MethodName) prog_11_method_29_code (4 : Nat) (Option.some Jvm.ClassFile.FieldType.int)).before args0 about1 = true := code_word (m := ⟨21, 10⟩) (meth := k21m10) (c := k21c10) (by decide +kernel) rfl rfl rfl (by decide +kernel)
set_option maxRecDepth 65536 in
theorem w_c30 : (Jvm.Cond.code ({ cls := "com/example/monarc/monarc/DomainsHoleMadeAtPinLaw", name := "expected", desc := "(II)I" } : Jvm.MethodName) method_2_code (2 : Nat) (Option.some Jvm.ClassFile.FieldType.int)).before args0 about1 = true := code_word (m := ⟨1, 1⟩) (meth := k1m1) (c := k1c1) (by decide +kernel) rfl rfl rfl (by decide +kernel)
set_option maxRecDepth 65536 in
theorem w_c31 : (Jvm.Cond.code ({ cls := "com/example/monarc/monarc/Domains", name := "leftFrom", desc := "(II)I" } : Jvm.MethodName) prog_11_method_14_code (7 : Nat) (Option.some Jvm.ClassFile.FieldType.int)).before args0 about1 = true := code_word (m := ⟨21, 1⟩) (meth := k21m1) (c := k21c1) (by decide +kernel) rfl rfl rfl (by decide +kernel)
set_option maxRecDepth 65536 in
theorem w_c32 : (Jvm.Cond.code ({ cls := "com/example/monarc/monarc/Domains", name := "lowerUpper", desc := "(II)V" } : Jvm.MethodName) prog_11_method_24_code (5 : Nat) (Option.none : Option Jvm.ClassFile.FieldType)).before args0 about1 = true := code_word (m := ⟨21, 6⟩) (meth := k21m6) (c := k21c6) (by decide +kernel) rfl rfl rfl (by decide +kernel)
set_option maxRecDepth 65536 in
theorem w_c33 : (Jvm.Cond.code ({ cls := "com/example/monarc/monarc/Domains", name := "leftUpTo", desc := "(II)I" } : Jvm.MethodName) prog_11_method_15_code (7 : Nat) (Option.some Jvm.ClassFile.FieldType.int)).before args0 about1 = true := code_word (m := ⟨21, 2⟩) (meth := k21m2) (c := k21c2) (by decide +kernel) rfl rfl rfl (by decide +kernel)
def codes1 : List Jvm.Cond := [Jvm.Cond.code x code maxLocals ret, Jvm.Cond.code ({ cls := "java/util/ArrayList", name := "<init>", desc := "()V" } : Jvm.MethodName) jdk_38_method_2_code (1 : Nat) (Option.none : Option Jvm.ClassFile.FieldType), Jvm.Cond.code ({ cls := "java/util/AbstractList", name := "<init>", desc := "()V" } : Jvm.MethodName) jdk_39_method_1_code (1 : Nat) (Option.none : Option Jvm.ClassFile.FieldType), Jvm.Cond.code ({ cls := "java/util/AbstractCollection", name := "<init>", desc := "()V" } : Jvm.MethodName) jdk_22_method_1_code (1 : Nat) (Option.none : Option Jvm.ClassFile.FieldType), Jvm.Cond.code ({ cls := "java/lang/Object", name := "<init>", desc := "()V" } : Jvm.MethodName) object_method_1_code (1 : Nat) (Option.none : Option Jvm.ClassFile.FieldType), Jvm.Cond.code ({ cls := "com/example/monarc/monarc/InitialDomain", name := "range", desc := "(II)Lcom/example/monarc/monarc/InitialDomain;" } : Jvm.MethodName) prog_20_method_2_code (2 : Nat) (Option.some (Jvm.ClassFile.FieldType.object "com/example/monarc/monarc/InitialDomain")), Jvm.Cond.code ({ cls := "com/example/monarc/monarc/InitialDomain", name := "<init>", desc := "(IJ[I)V" } : Jvm.MethodName) prog_20_method_1_code (5 : Nat) (Option.none : Option Jvm.ClassFile.FieldType), Jvm.Cond.code ({ cls := "com/example/monarc/monarc/Variable", name := "<init>", desc := "(Ljava/lang/String;ILcom/example/monarc/monarc/InitialDomain;)V" } : Jvm.MethodName) prog_76_method_1_code (4 : Nat) (Option.none : Option Jvm.ClassFile.FieldType), Jvm.Cond.code ({ cls := "com/example/monarc/monarc/Term", name := "<init>", desc := "()V" } : Jvm.MethodName) prog_70_method_1_code (1 : Nat) (Option.none : Option Jvm.ClassFile.FieldType), Jvm.Cond.code ({ cls := "java/util/ArrayList", name := "add", desc := "(Ljava/lang/Object;)Z" } : Jvm.MethodName) jdk_38_method_25_code (2 : Nat) (Option.some Jvm.ClassFile.FieldType.boolean), Jvm.Cond.code ({ cls := "java/util/ArrayList", name := "add", desc := "(Ljava/lang/Object;[Ljava/lang/Object;I)V" } : Jvm.MethodName) jdk_38_method_24_code (4 : Nat) (Option.none : Option Jvm.ClassFile.FieldType), Jvm.Cond.code ({ cls := "java/util/ArrayList", name := "grow", desc := "()[Ljava/lang/Object;" } : Jvm.MethodName) jdk_38_method_7_code (1 : Nat) (Option.some (Jvm.ClassFile.FieldType.array (Jvm.ClassFile.FieldType.object "java/lang/Object"))), Jvm.Cond.code ({ cls := "java/util/ArrayList", name := "grow", desc := "(I)[Ljava/lang/Object;" } : Jvm.MethodName) jdk_38_method_6_code (4 : Nat) (Option.some (Jvm.ClassFile.FieldType.array (Jvm.ClassFile.FieldType.object "java/lang/Object"))), Jvm.Cond.code ({ cls := "java/lang/Math", name := "max", desc := "(II)I" } : Jvm.MethodName) jdk_29_method_65_code (2 : Nat) (Option.some Jvm.ClassFile.FieldType.int), Jvm.Cond.code ({ cls := "com/example/monarc/monarc/Domains", name := "<init>", desc := "(Ljava/util/List;)V" } : Jvm.MethodName) prog_11_method_1_code (4 : Nat) (Option.none : Option Jvm.ClassFile.FieldType), Jvm.Cond.code ({ cls := "java/util/ArrayList", name := "size", desc := "()I" } : Jvm.MethodName) jdk_38_method_8_code (1 : Nat) (Option.some Jvm.ClassFile.FieldType.int), Jvm.Cond.code ({ cls := "java/util/ArrayList", name := "get", desc := "(I)Ljava/lang/Object;" } : Jvm.MethodName) jdk_38_method_20_code (2 : Nat) (Option.some (Jvm.ClassFile.FieldType.object "java/lang/Object")), Jvm.Cond.code ({ cls := "java/util/Objects", name := "checkIndex", desc := "(II)I" } : Jvm.MethodName) jdk_31_method_17_code (2 : Nat) (Option.some Jvm.ClassFile.FieldType.int), Jvm.Cond.code ({ cls := "jdk/internal/util/Preconditions", name := "checkIndex", desc := "(IILjava/util/function/BiFunction;)I" } : Jvm.MethodName) jdk_41_method_11_code (3 : Nat) (Option.some Jvm.ClassFile.FieldType.int), Jvm.Cond.code ({ cls := "java/util/ArrayList", name := "elementData", desc := "(I)Ljava/lang/Object;" } : Jvm.MethodName) jdk_38_method_18_code (2 : Nat) (Option.some (Jvm.ClassFile.FieldType.object "java/lang/Object")), Jvm.Cond.code ({ cls := "com/example/monarc/monarc/Variable", name := "domain", desc := "()Lcom/example/monarc/monarc/InitialDomain;" } : Jvm.MethodName) prog_76_method_4_code (1 : Nat) (Option.some (Jvm.ClassFile.FieldType.object "com/example/monarc/monarc/InitialDomain")), Jvm.Cond.code ({ cls := "com/example/monarc/monarc/InitialDomain", name := "size", desc := "()I" } : Jvm.MethodName) prog_20_method_5_code (1 : Nat) (Option.some Jvm.ClassFile.FieldType.int), Jvm.Cond.code ({ cls := "com/example/monarc/monarc/Domains", name := "remove", desc := "(II)V" } : Jvm.MethodName) prog_11_method_19_code (3 : Nat) (Option.none : Option Jvm.ClassFile.FieldType), Jvm.Cond.code ({ cls := "java/util/Arrays", name := "fill", desc := "([JJ)V" } : Jvm.MethodName) jdk_65_method_101_code (5 : Nat) (Option.none : Option Jvm.ClassFile.FieldType), Jvm.Cond.code ({ cls := "com/example/monarc/monarc/Domains", name := "resize", desc := "(II)V" } : Jvm.MethodName) prog_11_method_25_code (3 : Nat) (Option.none : Option Jvm.ClassFile.FieldType), Jvm.Cond.code ({ cls := "com/example/monarc/monarc/Domains", name := "record", desc := "(III)V" } : Jvm.MethodName) prog_11_method_26_code (4 : Nat) (Option.none : Option Jvm.ClassFile.FieldType), Jvm.Cond.code ({ cls := "com/example/monarc/monarc/Domains", name := "raiseLower", desc := "(II)V" } : Jvm.MethodName) prog_11_method_23_code (5 : Nat) (Option.none : Option Jvm.ClassFile.FieldType), Jvm.Cond.code ({ cls := "com/example/monarc/monarc/Domains", name := "countNotHoles", desc := "(III)I" } : Jvm.MethodName) prog_11_method_16_code (13 : Nat) (Option.some Jvm.ClassFile.FieldType.int), Jvm.Cond.code ({ cls := "com/example/monarc/monarc/Domains", name := "trailSize", desc := "()I" } : Jvm.MethodName) prog_11_method_27_code (1 : Nat) (Option.some Jvm.ClassFile.FieldType.int), Jvm.Cond.code ({ cls := "com/example/monarc/monarc/Domains", name := "holeMadeAt", desc := "(I)I" } : Jvm.MethodName) prog_11_method_29_code (4 : Nat) (Option.some Jvm.ClassFile.FieldType.int), Jvm.Cond.code ({ cls := "com/example/monarc/monarc/DomainsHoleMadeAtPinLaw", name := "expected", desc := "(II)I" } : Jvm.MethodName) method_2_code (2 : Nat) (Option.some Jvm.ClassFile.FieldType.int), Jvm.Cond.code ({ cls := "com/example/monarc/monarc/Domains", name := "leftFrom", desc := "(II)I" } : Jvm.MethodName) prog_11_method_14_code (7 : Nat) (Option.some Jvm.ClassFile.FieldType.int), Jvm.Cond.code ({ cls := "com/example/monarc/monarc/Domains", name := "lowerUpper", desc := "(II)V" } : Jvm.MethodName) prog_11_method_24_code (5 : Nat) (Option.none : Option Jvm.ClassFile.FieldType), Jvm.Cond.code ({ cls := "com/example/monarc/monarc/Domains", name := "leftUpTo", desc := "(II)I" } : Jvm.MethodName) prog_11_method_15_code (7 : Nat) (Option.some Jvm.ClassFile.FieldType.int)]
set_option maxRecDepth 65536 in
theorem codes_eq : words1.filter isCode = codes1 := rfl
theorem w_codes : ∀ c ∈ words1.filter isCode, c.before args0 about1 = true := by
  rw [codes_eq]
  intro c hc
  simp only [codes1, List.mem_cons, List.not_mem_nil, or_false] at hc
  rcases hc with rfl | rfl | rfl | rfl | rfl | rfl | rfl | rfl | rfl | rfl | rfl | rfl | rfl | rfl | rfl | rfl | rfl | rfl | rfl | rfl | rfl | rfl | rfl | rfl | rfl | rfl | rfl | rfl | rfl | rfl | rfl | rfl | rfl | rfl
  · exact w_c0
  · exact w_c1
  · exact w_c2
  · exact w_c3
  · exact w_c4
  · exact w_c5
  · exact w_c6
  · exact w_c7
  · exact w_c8
  · exact w_c9
  · exact w_c10
  · exact w_c11
  · exact w_c12
  · exact w_c13
  · exact w_c14
  · exact w_c15
  · exact w_c16
  · exact w_c17
  · exact w_c18
  · exact w_c19
  · exact w_c20
  · exact w_c21
  · exact w_c22
  · exact w_c23
  · exact w_c24
  · exact w_c25
  · exact w_c26
  · exact w_c27
  · exact w_c28
  · exact w_c29
  · exact w_c30
  · exact w_c31
  · exact w_c32
  · exact w_c33
set_option maxRecDepth 65536 in
theorem w_t1 : (words1.take 24).all (fun c => isCode c || c.before args0 about1) = true := by decide +kernel
set_option maxRecDepth 65536 in
theorem w_t2 : ((words1.drop 24).take 24).all (fun c => isCode c || c.before args0 about1) = true := by decide +kernel
set_option maxRecDepth 65536 in
theorem w_t3 : (((words1.drop 24).drop 24).take 24).all (fun c => isCode c || c.before args0 about1) = true := by decide +kernel
set_option maxRecDepth 65536 in
theorem w_t4 : ((((words1.drop 24).drop 24).drop 24).take 24).all (fun c => isCode c || c.before args0 about1) = true := by decide +kernel
set_option maxRecDepth 65536 in
theorem w_t5 : (((((words1.drop 24).drop 24).drop 24).drop 24).take 24).all (fun c => isCode c || c.before args0 about1) = true := by decide +kernel
set_option maxRecDepth 65536 in
theorem w_t6 : ((((((words1.drop 24).drop 24).drop 24).drop 24).drop 24).take 24).all (fun c => isCode c || c.before args0 about1) = true := by decide +kernel
set_option maxRecDepth 65536 in
theorem w_t7 : (((((((words1.drop 24).drop 24).drop 24).drop 24).drop 24).drop 24).take 24).all (fun c => isCode c || c.before args0 about1) = true := by decide +kernel
set_option maxRecDepth 65536 in
theorem w_t8 : ((((((((words1.drop 24).drop 24).drop 24).drop 24).drop 24).drop 24).drop 24).take 24).all (fun c => isCode c || c.before args0 about1) = true := by decide +kernel
set_option maxRecDepth 65536 in
theorem w_t9 : (((((((((words1.drop 24).drop 24).drop 24).drop 24).drop 24).drop 24).drop 24).drop 24).take 24).all (fun c => isCode c || c.before args0 about1) = true := by decide +kernel
set_option maxRecDepth 65536 in
theorem w_t10 : (((((((((words1.drop 24).drop 24).drop 24).drop 24).drop 24).drop 24).drop 24).drop 24).drop 24).all (fun c => isCode c || c.before args0 about1) = true := by decide +kernel
theorem w_tables : (allAtoms (Jvm.Cond.code x code maxLocals ret :: tables_1)).before args0 about1 = true := by
  rw [allAtoms_all]
  show words1.all (fun c => c.before args0 about1) = true
  refine all_split ?_ w_codes
  rw [← List.take_append_drop 24 words1, List.all_append, w_t1, ← List.take_append_drop 24 (words1.drop 24), List.all_append, w_t2, ← List.take_append_drop 24 ((words1.drop 24).drop 24), List.all_append, w_t3, ← List.take_append_drop 24 (((words1.drop 24).drop 24).drop 24), List.all_append, w_t4, ← List.take_append_drop 24 ((((words1.drop 24).drop 24).drop 24).drop 24), List.all_append, w_t5, ← List.take_append_drop 24 (((((words1.drop 24).drop 24).drop 24).drop 24).drop 24), List.all_append, w_t6, ← List.take_append_drop 24 ((((((words1.drop 24).drop 24).drop 24).drop 24).drop 24).drop 24), List.all_append, w_t7, ← List.take_append_drop 24 (((((((words1.drop 24).drop 24).drop 24).drop 24).drop 24).drop 24).drop 24), List.all_append, w_t8, ← List.take_append_drop 24 ((((((((words1.drop 24).drop 24).drop 24).drop 24).drop 24).drop 24).drop 24).drop 24), List.all_append, w_t9, w_t10]
  rfl
set_option maxRecDepth 65536 in
theorem w_rest : rest_1_c.before args0 about1 = true := by decide +kernel
set_option maxRecDepth 65536 in
theorem w_case : (Jvm.Cond.and given_1 narrow_1).before args0 about1 = true := by decide +kernel
theorem w_applies : (headSpec (Jvm.Cond.code x code maxLocals ret :: tables_1) room_1).applies x e0.platform about1 = true :=
  (Spec.applies_iff w_frames).mpr ⟨w_running, w_runnable, w_alone, w_named, w_hears, w_ripe, w_room, w_tables⟩
theorem atStart : AtStart classFile x code maxLocals ret World_1 tables_1 room_1 Calls_1 rest_1 Pre_1 launch0 p0 e0 about1 theMethod args0 below0 :=
  ⟨lists_1, trivial, launch0.admits_env _ _ _, launch0.least_env, fairChoices_fair.cas, fairChoices_fair.clock, w_frames, w_args, w_heap, w_applies, trivial, w_rest, w_case⟩
end start1
theorem witness_1 : WitnessClaimed_1 := ⟨start1.p0, start1.e0, start1.about1, start1.theMethod, start1.args0, start1.below0, start1.atStart⟩
end Jvm.Pilot.@@N@@
