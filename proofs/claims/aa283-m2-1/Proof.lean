import JvmDerived
import JvmDerived.Pilot.@@N@@Statement
import JvmDerived.Pilot.@@N@@Code
set_option linter.unusedVariables false
set_option linter.unusedSimpArgs false
namespace Jvm.Pilot.@@N@@
open Jvm Jvm.ClassFile Sem Op Lib Jvm.Free Jvm.Stand Jvm.LawKit Jvm.RoadKit Bundle Jvm.Pilot.@@N@@.Jvm.D
section Own
variable {p : Program} {l : Launch} {e : Env} {R : Room} {s : State} {m : MethodId} {args : Array Value} {below : List Frame} {meth : Method} {c : Code} {T T' : State} {locs : List Loc} {cells slots C N : Nat} {Z : State} {h h' : Heap} {n0 : Nat}
/-- from the frame g over T the run comes to a state of which P holds -/
def own_Rch (p : Program) (e : Env) (below : List Frame) (P : State → Prop) (T : State) (g : JFrame) : Prop := ∃ U, Steps p.tables e below (T.setTop g) U ∧ P U
/-- the body has ended as Q says -/
def own_End (s : State) (below : List Frame) (Q : Option Value → Heap → List Loc → Prop) (C N : Nat) (U : State) : Prop := U.status = .running ∧ ∃ v L, Ended U below (.returned v) ∧ Q v U.heap L ∧ FrameEnd s (.returned v) U L C N
theorem own_st {P : State → Prop} {g g' : JFrame} (h : ∀ t, Steps p.tables e below (T'.setTop g') t → Steps p.tables e below (T.setTop g) t) (k : own_Rch p e below P T' g') : own_Rch p e below P T g := by
  obtain ⟨U, h1, h2⟩ := k
  exact ⟨U, h U h1, h2⟩
theorem own_close {Q : Option Value → Heap → List Loc → Prop} {g : JFrame} (k : own_Rch p e below (own_End s below Q C N) T g) : ∃ U o, Steps p.tables e below (T.setTop g) U ∧ U.status = .running ∧ Ended U below o ∧ ∃ v L, o = .returned v ∧ Q v U.heap L ∧ FrameEnd s o U L C N := by
  obtain ⟨U, h1, h2, v, L, h3, h4, h5⟩ := k
  exact ⟨U, _, h1, h2, h3, v, L, rfl, h4, h5⟩
theorem own_retN {Q : Option Value → Heap → List Loc → Prop} {pc : Nat} {Ls : Array Slot} {z : Int32} {t : FieldType} {rest : List Value} (ht : t = .boolean ∨ t = .byte ∨ t = .char ∨ t = .short) (X : Stand p l e R s m args below meth c T locs cells slots) (hx : p.tables.exec = Jvm.exec) (hlk : meth.locks = false) (hret : meth.sig.returnType = some t) (hd : decode c.code pc = .ok (.ireturn, 1)) (hc : cells ≤ C) (hn : slots ≤ N)
    (hq : Q (some (.int (nar t z))) T.heap locs) : own_Rch p e below (own_End s below Q C N) T (mkF m pc Ls (.int z :: rest)) := by
  obtain ⟨fs, hr, hrun, hended, hW, hsame⟩ := X.leave (v := some (.int (nar t z))) (fun h => by rw [hret] at h; cases h) hlk
  exact ⟨_, retN X hx hret ht hd hr, hrun, _, _, hended, hq, ⟨_, rfl⟩, hW, hsame.mono hc hn⟩
theorem own_retI {Q : Option Value → Heap → List Loc → Prop} {pc : Nat} {Ls : Array Slot} {z : Int32} {rest : List Value} (X : Stand p l e R s m args below meth c T locs cells slots) (hx : p.tables.exec = Jvm.exec) (hlk : meth.locks = false) (hret : meth.sig.returnType = some .int) (hd : decode c.code pc = .ok (.ireturn, 1)) (hc : cells ≤ C) (hn : slots ≤ N)
    (hq : Q (some (.int z)) T.heap locs) : own_Rch p e below (own_End s below Q C N) T (mkF m pc Ls (.int z :: rest)) := by
  obtain ⟨fs, hr, hrun, hended, hW, hsame⟩ := X.leave (v := some (.int z)) (fun h => by rw [hret] at h; cases h) hlk
  exact ⟨_, retOut X hx hret rfl (Or.inl ⟨rfl, Or.inl rfl, z, rfl⟩) hd hr, hrun, _, _, hended, hq, ⟨_, rfl⟩, hW, hsame.mono hc hn⟩
theorem own_retL {Q : Option Value → Heap → List Loc → Prop} {pc : Nat} {Ls : Array Slot} {z : Int64} {rest : List Value} (X : Stand p l e R s m args below meth c T locs cells slots) (hx : p.tables.exec = Jvm.exec) (hlk : meth.locks = false) (hret : meth.sig.returnType = some .long) (hd : decode c.code pc = .ok (.lreturn, 1)) (hc : cells ≤ C) (hn : slots ≤ N)
    (hq : Q (some (.long z)) T.heap locs) : own_Rch p e below (own_End s below Q C N) T (mkF m pc Ls (.long z :: rest)) := by
  obtain ⟨fs, hr, hrun, hended, hW, hsame⟩ := X.leave (v := some (.long z)) (fun h => by rw [hret] at h; cases h) hlk
  exact ⟨_, retOut X hx hret rfl (Or.inr (Or.inl ⟨rfl, rfl, z, rfl⟩)) hd hr, hrun, _, _, hended, hq, ⟨_, rfl⟩, hW, hsame.mono hc hn⟩
theorem own_narref {t : FieldType} {w : Value} (ht : t.isReference = true) : narrow t w = w := by cases t <;> first | rfl | (cases ht; done)
theorem own_retA {Q : Option Value → Heap → List Loc → Prop} {pc : Nat} {Ls : Array Slot} {w : Value} {t : FieldType} {rest : List Value} (ht : t.isReference = true) (hw : w.isRef = true) (X : Stand p l e R s m args below meth c T locs cells slots) (hx : p.tables.exec = Jvm.exec) (hlk : meth.locks = false) (hret : meth.sig.returnType = some t) (hd : decode c.code pc = .ok (.areturn, 1)) (hc : cells ≤ C) (hn : slots ≤ N)
    (hq : Q (some w) T.heap locs) : own_Rch p e below (own_End s below Q C N) T (mkF m pc Ls (w :: rest)) := by
  obtain ⟨fs, hr, hrun, hended, hW, hsame⟩ := X.leave (v := some w) (fun h => by rw [hret] at h; cases h) hlk
  exact ⟨_, retOut X hx hret (own_narref ht) (Or.inr (Or.inr (Or.inr (Or.inr ⟨rfl, ht, hw⟩)))) hd hr, hrun, _, _, hended, hq, ⟨_, rfl⟩, hW, hsame.mono hc hn⟩
theorem own_retV {Q : Option Value → Heap → List Loc → Prop} {pc : Nat} {Ls : Array Slot} (X : Stand p l e R s m args below meth c T locs cells slots) (hx : p.tables.exec = Jvm.exec) (hlk : meth.locks = false) (hret : meth.sig.returnType = none) (hd : decode c.code pc = .ok (.return_, 1)) (hc : cells ≤ C) (hn : slots ≤ N)
    (hq : Q none T.heap locs) : own_Rch p e below (own_End s below Q C N) T (mkF m pc Ls []) := by
  obtain ⟨fs, hr, hrun, hended, hW, hsame⟩ := X.leave (v := none) (fun _ => rfl) hlk
  exact ⟨_, X.returnOut hx hret hd hr, hrun, _, _, hended, hq, ⟨_, rfl⟩, hW, hsame.mono hc hn⟩
theorem own_psel {y : MethodName} {n : Nat} (hins : (Jvm.Cond.instantiable y.cls n).before args s = true) (hpriv : (Jvm.Cond.privateMethod y).before args s = true) (hinst : (Jvm.Cond.instanceMethod y).before args s = true) (hy : y.cls ≠ "java/lang/invoke/MethodHandle" ∧ y.cls ≠ "java/lang/invoke/VarHandle" := by decide) : (Jvm.Cond.selects y.cls y y).before args s = true := by
  obtain ⟨c, k, hc, hk, -, hniab, -, -⟩ := Cond.instantiable_spec hins
  have hni : k.isInterface = false := (Bool.or_eq_false_iff.mp hniab).1
  obtain ⟨mk, methM, hnamed, hmethM, -, -⟩ := Cond.instanceMethod_spec hinst
  have hfound : s.methodFound? y.cls y.name y.desc = some mk := State.methodFound?_of_named hnamed hy
  have hcls : mk.cls = c := Option.some.inj ((findClass_of_methodNamed hnamed).symm.trans hc)
  have hsel : selectMethod {} s.vm c mk = .method mk := selectMethod_private hmethM (Cond.privateMethod_at hpriv mk methM hnamed hmethM)
  simp only [Cond.before, Cond.holds, Cond.value, hc, hfound, hnamed, hsel, hcls, hk]
  simp; exact hni
theorem own_mvMN {a0 : Array Value} {own host : String} {y : MethodName} {index : Nat} (hZ : Z.Warmed39 s.vm) (w : (Jvm.Cond.methodLinkNest own index y host).before a0 Z = true) : (Jvm.Cond.methodLinkNest own index y host).before args s = true := (Cond.methodLinkNest_wide hZ w :)
theorem own_since (s : State) : s.Since s.vm 0 := (State.WarmedH.refl s).since 0
def own_EndW (s : State) (below : List Frame) (Q : Option Value → Heap → List Loc → Prop) (C N : Nat) (U : State) : Prop := U.status = .running ∧ ∃ v L, Ended U below (.returned v) ∧ Q v U.heap L ∧ ReturnedEndW s (.returned v) U L C N
theorem own_closeW {Q : Option Value → Heap → List Loc → Prop} {g : JFrame} (k : own_Rch p e below (own_EndW s below Q C N) T g) : ∃ U o, Steps p.tables e below (T.setTop g) U ∧ U.status = .running ∧ Ended U below o ∧ ∃ v L, o = .returned v ∧ Q v U.heap L ∧ ReturnedEndW s o U L C N := by
  obtain ⟨U, h1, h2, v, L, h3, h4, h5⟩ := k
  exact ⟨U, _, h1, h2, h3, v, L, rfl, h4, h5⟩
theorem own_retNW {vm0 : Vm} {k0 : Nat} {Q : Option Value → Heap → List Loc → Prop} {pc : Nat} {Ls : Array Slot} {z : Int32} {t : FieldType} {rest : List Value} (ht : t = .boolean ∨ t = .byte ∨ t = .char ∨ t = .short) (hS : s.Since vm0 k0) (hk : k0 ≤ T.heap.size) (X : Stand p l e R (s.setVm vm0) m args below meth c T locs cells slots) (hx : p.tables.exec = Jvm.exec) (hlk : meth.locks = false) (hret : meth.sig.returnType = some t) (hd : decode c.code pc = .ok (.ireturn, 1)) (hc : cells ≤ C) (hn : slots ≤ N)
    (hq : Q (some (.int (nar t z))) T.heap locs) : own_Rch p e below (own_EndW s below Q C N) T (mkF m pc Ls (.int z :: rest)) := by
  obtain ⟨fs, hr, hrun, hended, h1, h2, h3, h4⟩ := X.leaveW hS hk (v := some (.int (nar t z))) (fun h => by rw [hret] at h; cases h) hlk
  exact ⟨_, retN X hx hret ht hd hr, hrun, _, _, hended, hq, h1, h2, h3, h4.mono hc hn⟩
theorem own_retIW {vm0 : Vm} {k0 : Nat} {Q : Option Value → Heap → List Loc → Prop} {pc : Nat} {Ls : Array Slot} {z : Int32} {rest : List Value} (hS : s.Since vm0 k0) (hk : k0 ≤ T.heap.size) (X : Stand p l e R (s.setVm vm0) m args below meth c T locs cells slots) (hx : p.tables.exec = Jvm.exec) (hlk : meth.locks = false) (hret : meth.sig.returnType = some .int) (hd : decode c.code pc = .ok (.ireturn, 1)) (hc : cells ≤ C) (hn : slots ≤ N)
    (hq : Q (some (.int z)) T.heap locs) : own_Rch p e below (own_EndW s below Q C N) T (mkF m pc Ls (.int z :: rest)) := by
  obtain ⟨fs, hr, hrun, hended, h1, h2, h3, h4⟩ := X.leaveW hS hk (v := some (.int z)) (fun h => by rw [hret] at h; cases h) hlk
  exact ⟨_, retOut X hx hret rfl (Or.inl ⟨rfl, Or.inl rfl, z, rfl⟩) hd hr, hrun, _, _, hended, hq, h1, h2, h3, h4.mono hc hn⟩
theorem own_retAW {vm0 : Vm} {k0 : Nat} {Q : Option Value → Heap → List Loc → Prop} {pc : Nat} {Ls : Array Slot} {w : Value} {t : FieldType} {rest : List Value} (ht : t.isReference = true) (hw : w.isRef = true) (hS : s.Since vm0 k0) (hk : k0 ≤ T.heap.size) (X : Stand p l e R (s.setVm vm0) m args below meth c T locs cells slots) (hx : p.tables.exec = Jvm.exec) (hlk : meth.locks = false) (hret : meth.sig.returnType = some t) (hd : decode c.code pc = .ok (.areturn, 1)) (hc : cells ≤ C) (hn : slots ≤ N)
    (hq : Q (some w) T.heap locs) : own_Rch p e below (own_EndW s below Q C N) T (mkF m pc Ls (w :: rest)) := by
  obtain ⟨fs, hr, hrun, hended, h1, h2, h3, h4⟩ := X.leaveW hS hk (v := some w) (fun h => by rw [hret] at h; cases h) hlk
  exact ⟨_, retOut X hx hret (own_narref ht) (Or.inr (Or.inr (Or.inr (Or.inr ⟨rfl, ht, hw⟩)))) hd hr, hrun, _, _, hended, hq, h1, h2, h3, h4.mono hc hn⟩
theorem own_retVW {vm0 : Vm} {k0 : Nat} {Q : Option Value → Heap → List Loc → Prop} {pc : Nat} {Ls : Array Slot} (hS : s.Since vm0 k0) (hk : k0 ≤ T.heap.size) (X : Stand p l e R (s.setVm vm0) m args below meth c T locs cells slots) (hx : p.tables.exec = Jvm.exec) (hlk : meth.locks = false) (hret : meth.sig.returnType = none) (hd : decode c.code pc = .ok (.return_, 1)) (hc : cells ≤ C) (hn : slots ≤ N)
    (hq : Q none T.heap locs) : own_Rch p e below (own_EndW s below Q C N) T (mkF m pc Ls []) := by
  obtain ⟨fs, hr, hrun, hended, h1, h2, h3, h4⟩ := X.leaveW hS hk (v := none) (fun _ => rfl) hlk
  exact ⟨_, X.returnOut hx hret hd hr, hrun, _, _, hended, hq, h1, h2, h3, h4.mono hc hn⟩
def own_EndH (Z : State) (EL : List (String × Nat)) (s : State) (below : List Frame) (Q : Option Value → Heap → List Loc → Prop) (C N : Nat) (U : State) : Prop := U.status = .running ∧ ∃ v L, Ended U below (.returned v) ∧ Q v U.heap L ∧ CHr Z EL s.vm s.heap U.vm U.heap ∧ ReturnedEndW s (.returned v) U L C N
theorem own_closeH {EL : List (String × Nat)} {Q : Option Value → Heap → List Loc → Prop} {g : JFrame} (k : own_Rch p e below (own_EndH Z EL s below Q C N) T g) : ∃ U o, Steps p.tables e below (T.setTop g) U ∧ U.status = .running ∧ Ended U below o ∧ ∃ v L, o = .returned v ∧ Q v U.heap L ∧ CHr Z EL s.vm s.heap U.vm U.heap ∧ ReturnedEndW s o U L C N := by
  obtain ⟨U, h1, h2, v, L, h3, h4, h5⟩ := k
  exact ⟨U, _, h1, h2, h3, v, L, rfl, h4, h5⟩
theorem own_retNH {EL : List (String × Nat)} {vm0 : Vm} {k0 : Nat} {Q : Option Value → Heap → List Loc → Prop} {pc : Nat} {Ls : Array Slot} {z : Int32} {t : FieldType} {rest : List Value} (ht : t = .boolean ∨ t = .byte ∨ t = .char ∨ t = .short) (hcr : CHr Z EL s.vm s.heap T.vm T.heap) (hS : s.Since vm0 k0) (hk : k0 ≤ T.heap.size) (X : Stand p l e R (s.setVm vm0) m args below meth c T locs cells slots) (hx : p.tables.exec = Jvm.exec) (hlk : meth.locks = false) (hret : meth.sig.returnType = some t) (hd : decode c.code pc = .ok (.ireturn, 1)) (hc : cells ≤ C) (hn : slots ≤ N)
    (hq : Q (some (.int (nar t z))) T.heap locs) : own_Rch p e below (own_EndH Z EL s below Q C N) T (mkF m pc Ls (.int z :: rest)) := by
  obtain ⟨fs, hr, hrun, hended, h1, h2, h3, h4⟩ := X.leaveW hS hk (v := some (.int (nar t z))) (fun h => by rw [hret] at h; cases h) hlk
  exact ⟨_, retN X hx hret ht hd hr, hrun, _, _, hended, hq, hcr, h1, h2, h3, h4.mono hc hn⟩
theorem own_retIH {EL : List (String × Nat)} {vm0 : Vm} {k0 : Nat} {Q : Option Value → Heap → List Loc → Prop} {pc : Nat} {Ls : Array Slot} {z : Int32} {rest : List Value} (hcr : CHr Z EL s.vm s.heap T.vm T.heap) (hS : s.Since vm0 k0) (hk : k0 ≤ T.heap.size) (X : Stand p l e R (s.setVm vm0) m args below meth c T locs cells slots) (hx : p.tables.exec = Jvm.exec) (hlk : meth.locks = false) (hret : meth.sig.returnType = some .int) (hd : decode c.code pc = .ok (.ireturn, 1)) (hc : cells ≤ C) (hn : slots ≤ N)
    (hq : Q (some (.int z)) T.heap locs) : own_Rch p e below (own_EndH Z EL s below Q C N) T (mkF m pc Ls (.int z :: rest)) := by
  obtain ⟨fs, hr, hrun, hended, h1, h2, h3, h4⟩ := X.leaveW hS hk (v := some (.int z)) (fun h => by rw [hret] at h; cases h) hlk
  exact ⟨_, retOut X hx hret rfl (Or.inl ⟨rfl, Or.inl rfl, z, rfl⟩) hd hr, hrun, _, _, hended, hq, hcr, h1, h2, h3, h4.mono hc hn⟩
theorem own_retAH {EL : List (String × Nat)} {vm0 : Vm} {k0 : Nat} {Q : Option Value → Heap → List Loc → Prop} {pc : Nat} {Ls : Array Slot} {w : Value} {t : FieldType} {rest : List Value} (ht : t.isReference = true) (hw : w.isRef = true) (hcr : CHr Z EL s.vm s.heap T.vm T.heap) (hS : s.Since vm0 k0) (hk : k0 ≤ T.heap.size) (X : Stand p l e R (s.setVm vm0) m args below meth c T locs cells slots) (hx : p.tables.exec = Jvm.exec) (hlk : meth.locks = false) (hret : meth.sig.returnType = some t) (hd : decode c.code pc = .ok (.areturn, 1)) (hc : cells ≤ C) (hn : slots ≤ N)
    (hq : Q (some w) T.heap locs) : own_Rch p e below (own_EndH Z EL s below Q C N) T (mkF m pc Ls (w :: rest)) := by
  obtain ⟨fs, hr, hrun, hended, h1, h2, h3, h4⟩ := X.leaveW hS hk (v := some w) (fun h => by rw [hret] at h; cases h) hlk
  exact ⟨_, retOut X hx hret (own_narref ht) (Or.inr (Or.inr (Or.inr (Or.inr ⟨rfl, ht, hw⟩)))) hd hr, hrun, _, _, hended, hq, hcr, h1, h2, h3, h4.mono hc hn⟩
theorem own_retVH {EL : List (String × Nat)} {vm0 : Vm} {k0 : Nat} {Q : Option Value → Heap → List Loc → Prop} {pc : Nat} {Ls : Array Slot} (hcr : CHr Z EL s.vm s.heap T.vm T.heap) (hS : s.Since vm0 k0) (hk : k0 ≤ T.heap.size) (X : Stand p l e R (s.setVm vm0) m args below meth c T locs cells slots) (hx : p.tables.exec = Jvm.exec) (hlk : meth.locks = false) (hret : meth.sig.returnType = none) (hd : decode c.code pc = .ok (.return_, 1)) (hc : cells ≤ C) (hn : slots ≤ N)
    (hq : Q none T.heap locs) : own_Rch p e below (own_EndH Z EL s below Q C N) T (mkF m pc Ls []) := by
  obtain ⟨fs, hr, hrun, hended, h1, h2, h3, h4⟩ := X.leaveW hS hk (v := none) (fun _ => rfl) hlk
  exact ⟨_, X.returnOut hx hret hd hr, hrun, _, _, hended, hq, hcr, h1, h2, h3, h4.mono hc hn⟩
theorem own_old_le (O : Old Z n0 h) : n0 ≤ h.size := O.1 ▸ O.2.1
end Own
theorem own_found {Z : State} {a0 : Array Value} {K : String} {n : Nat} (wk : (Jvm.Cond.instantiable K n).before a0 Z = true) : ∃ t k, Z.vm.findClass K = some t ∧ Z.vm.classes[t]? = some k ∧ k.kind = .ordinary ∧ k.isInterface = false := by
  obtain ⟨c, k, hc, hk, ho, hniab, -, -⟩ := Cond.instantiable_spec wk
  exact ⟨c, k, hc, hk, ho, (Bool.or_eq_false_iff.mp hniab).1⟩
theorem own_nsroot {Z : State} {a0 : Array Value} {O K : String} {n : Nat} (w : (Jvm.Cond.noSuperclass O).before a0 Z = true) (wk : (Jvm.Cond.instantiable K n).before a0 Z = true) (hn : O ≠ K) : NS Z O K := by
  obtain ⟨c, k, h1, h2, h3, -, -⟩ := Cond.noSuperclass_spec w
  obtain ⟨t, -, g1, -⟩ := own_found wk
  have ne := ids_ne h1 g1 hn
  refine ⟨c, t, h1, g1, fun fuel => ?_⟩
  cases fuel with
  | zero => rfl
  | succ f => simp [Vm.isSubclassAux, ne, h2, h3]
theorem own_nsno {Z : State} {a0 : Array Value} {C S K : String} {n : Nat} (w : (Jvm.Cond.superclass C S).before a0 Z = true) (wk : (Jvm.Cond.instantiable K n).before a0 Z = true) (ns : NS Z C K) (hn : C ≠ K) : ∃ c t, Z.vm.findClass C = some c ∧ Z.vm.findClass K = some t ∧ Z.vm.assignable c t = false := by
  obtain ⟨c, t, h0, g0, n3⟩ := ns
  obtain ⟨q, k, kp, h1, h2, h3, h4, h5, -, h7⟩ := Cond.superclass_spec h0 w
  obtain ⟨t', k', g1, g2, g5, g7⟩ := own_found wk
  cases g0.symm.trans g1
  have ne := ids_ne h0 g0 hn
  refine ⟨c, t, h0, g0, ?_⟩
  show Z.vm.assignableAux (255 + 1) c t = false
  simp [Vm.assignableAux, ne, h2, g2, h5, g5, g7, Vm.isSubclass, n3]
theorem own_cmp0 {args : Array Value} {Z : State} {t : Term} {c : Int32} (ht : t.eval args Z none [] Z = some (.int c)) (h : (Jvm.Cond.not (.eq t (.int 0))).value args Z none Z [] = some true) : ¬ c = 0 := by
  simp [Cond.value, ht, Term.eval] at h
  exact h
theorem own_char (p : Int32) : ¬ ((255 : Int32) < ((p &&& (255 : Int32)).toUInt32.toUInt16.toUInt32.toInt32)) := by
  have h1 := c_i2c (p &&& (255 : Int32))
  have h2 := c_and p (255 : Int32) (by decide)
  have h3 : (255 : Int32).toInt = 255 := by decide
  rw [Int32.lt_iff_toInt_lt]
  omega
theorem own_char0 (p : Int32) : ¬ (((p &&& (255 : Int32)).toUInt32.toUInt16.toUInt32.toInt32) < 0) := by
  have h1 := c_i2c (p &&& (255 : Int32))
  have h3 : (0 : Int32).toInt = 0 := by decide
  rw [Int32.lt_iff_toInt_lt]
  omega
def own_b (c : Int32) : Int32 := nar .byte ((nar .char c).toInt8.toInt32)
def own_len : List Int32 → Int32
  | [] => 0
  | [_] => 1
  | [_, _] => 2
  | _ => 3
def own_ls (n c d : Int32) : List Int32 := if n = 0 then [] else if n = 1 then [own_b c] else [own_b c, own_b d]
def own_eqs (l r : List Int32) : Int32 := if l = r then 1 else 0
def own_ch (c : Int32) : Prop := 0 ≤ c.toInt ∧ c.toInt ≤ 255
theorem own_chc (p : Int32) : own_ch ((p &&& (255 : Int32)).toUInt32.toUInt16.toUInt32.toInt32) := by
  have h1 := c_i2c (p &&& (255 : Int32))
  have h2 := c_and p (255 : Int32) (by decide)
  have h3 : (255 : Int32).toInt = 255 := by decide
  unfold own_ch
  omega
theorem own_narc {c : Int32} (h : own_ch c) : (nar .char c).toInt = c.toInt := by
  have h1 := c_i2c c
  unfold own_ch at h
  show (c.toUInt32.toUInt16.toUInt32.toInt32).toInt = _
  omega
theorem own_big {c : Int32} (h : own_ch c) : ¬ ((255 : Int32) < nar .char c) := by
  rw [Int32.lt_iff_toInt_lt, own_narc h]
  have h3 : (255 : Int32).toInt = 255 := by decide
  unfold own_ch at h
  omega
theorem own_bmod {c : Int32} (h : own_ch c) : ((own_b c).toInt - c.toInt) % 256 = 0 := by
  have h1 := own_narc h
  have h2 := c_i2b (nar .char c)
  have h3 := c_i2b ((nar .char c).toInt8.toInt32)
  show (((nar .char c).toInt8.toInt32).toInt8.toInt32.toInt - c.toInt) % 256 = 0
  omega
theorem own_binj {c d : Int32} (hc : own_ch c) (hd : own_ch d) : own_b c = own_b d ↔ c = d := by
  refine ⟨fun q => ?_, fun q => by rw [q]⟩
  have h1 := own_bmod hc
  have h2 := own_bmod hd
  rw [q] at h1
  unfold own_ch at hc hd
  apply Int32.toInt_inj.mp
  omega
theorem own_eqiff {n k c d x y : Int32} (hn : n = 0 ∨ n = 1 ∨ n = 2) (hk : k = 0 ∨ k = 1 ∨ k = 2) (hc : own_ch c) (hd : own_ch d) (hx : own_ch x) (hy : own_ch y) : own_ls n c d = own_ls k x y ↔ n = k ∧ (n < 1 ∨ c = x) ∧ (n < 2 ∨ d = y) := by
  rcases hn with rfl | rfl | rfl <;> rcases hk with rfl | rfl | rfl <;> simp [own_ls, own_binj hc hx, own_binj hd hy] <;> decide
theorem own_eq1 {l r : List Int32} (h : l = r) : own_eqs l r = 1 := if_pos h
theorem own_eq0 {l r : List Int32} (h : ¬ l = r) : own_eqs l r = 0 := if_neg h
theorem own_eqc (l r : List Int32) : own_eqs l r = own_eqs r l := by simp [own_eqs, eq_comm]
theorem own_and3 (p : Int32) : (p &&& (3 : Int32)) = 0 ∨ (p &&& (3 : Int32)) = 1 ∨ (p &&& (3 : Int32)) = 2 ∨ (p &&& (3 : Int32)) = 3 := by
  have h := c_and p (3 : Int32) (by decide)
  have e3 : (3 : Int32).toInt = 3 := by decide
  have e0 : (0 : Int32).toInt = 0 := by decide
  have e1 : (1 : Int32).toInt = 1 := by decide
  have e2 : (2 : Int32).toInt = 2 := by decide
  simp only [← Int32.toInt_inj]
  omega
theorem own_le2 {p : Int32} (h : ¬ (p &&& (3 : Int32)) = 3) : (p &&& (3 : Int32)) = 0 ∨ (p &&& (3 : Int32)) = 1 ∨ (p &&& (3 : Int32)) = 2 := by
  rcases own_and3 p with q | q | q | q
  · exact Or.inl q
  · exact Or.inr (Or.inl q)
  · exact Or.inr (Or.inr q)
  · exact absurd q h
theorem own_lenok (n c d : Int32) : (own_ls n c d).length ≤ 2 := by
  unfold own_ls; split <;> (try split) <;> simp
theorem own_safe_null {Z : State} {h : Heap} {x : Addr} {EL : List (String × Nat)} {vm : Vm} (hal : Z.vm.Alike vm) (E : Exa Z h x "java/lang/String") (F : Fld Z h x "java/lang/String" "value" "[B" .null) : Safe Z EL vm h x := fun B => by
  obtain ⟨p, -, u, a, -, q, -, G, rfl | rfl⟩ := B
  · obtain ⟨cell, cf, k, i, f, e1, e2, -, -, -, -, e7⟩ := F
    cases (show h[q.sa]? = some q.sC from G.ha).symm.trans e1
    obtain ⟨cS, ⟨⟨-, -, -, ⟨c1, k1, i1, f1, -⟩, -, -, -, v1, -⟩, -⟩, -⟩ := G
    obtain ⟨k3, e3, -⟩ := State.fieldFound?_setVm (s := Z) hal e2
    have e4 := (show (Wst Z vm h).fieldFound? _ _ _ = _ from e3).symm.trans f1
    simp only [Option.some.injEq, Prod.mk.injEq] at e4
    rw [← e4.2.2.2, e7] at v1
    simp at v1
  · obtain ⟨cell, k, e1, e2, e3, -, -⟩ := E
    cases (show h[q.sd]? = some q.SA from G.hd).symm.trans e1
    obtain ⟨cS, -, -, f, -⟩ := G
    have f' : vm.findClass "[B" = some q.SA.cls := f
    rw [hal.findClass] at f'
    exact absurd rfl (ids_ne (Z := Z) f' e2 (by decide))
theorem own_wS {Z : State} {a0 : Array Value} (hw : ∀ d ∈ tables_1, d.before a0 Z = true) : ∀ a ∈ Bundle.stringAtoms, a.before a0 Z = true := by
  intro a ha
  simp only [Bundle.stringAtoms, List.mem_cons, List.not_mem_nil, or_false] at ha
  rcases ha with rfl | rfl | rfl | rfl | rfl | rfl | rfl
  · exact (hw _ (List.mem_of_getElem? (i := 6) rfl))
  · exact (hw _ (List.mem_of_getElem? (i := 5) rfl))
  · exact (hw _ (List.mem_of_getElem? (i := 19) rfl))
  · exact (hw _ (List.mem_of_getElem? (i := 20) rfl))
  · exact (hw _ (List.mem_of_getElem? (i := 21) rfl))
  · exact (hw _ (List.mem_of_getElem? (i := 22) rfl))
  · exact (hw _ (List.mem_of_getElem? (i := 23) rfl))
theorem own_hEL {Z : State} {a0 : Array Value} (hw : ∀ d ∈ tables_1, d.before a0 Z = true) : EW Z a0 consts_1 := EW.cons (hw _ (List.mem_of_getElem? (i := 18) rfl)) (by decide) EW.nil
theorem own_pn0 : plainName "java/lang/StringLatin1" = true := by first | (simp [plainName, overriddenIn]; done) | decide +kernel
theorem own_ef8 (m : MethodId) (x0 : Addr) (x1 : Addr) : entryFrame m #[(.ref x0), (.ref x1)] 3 = mkF m 0 #[.val (.ref x0), .val (.ref x1), .unset] [] := by first | (simp [entryFrame, mkF, argsToLocals, Value.category]; done) | rfl
theorem own_d8_0 : decode jdk_43_method_13_code 0 = .ok (.aload_n 0, 1) := by decide +kernel
theorem own_d8_1 : decode jdk_43_method_13_code 1 = .ok (.arraylength, 1) := by decide +kernel
theorem own_d8_2 : decode jdk_43_method_13_code 2 = .ok (.aload_n 1, 1) := by decide +kernel
theorem own_d8_3 : decode jdk_43_method_13_code 3 = .ok (.arraylength, 1) := by decide +kernel
theorem own_d8_4 : decode jdk_43_method_13_code 4 = .ok (.if_icmp .ne 30, 3) := by decide +kernel
theorem own_d8_7 : decode jdk_43_method_13_code 7 = .ok (.iconst 0, 1) := by decide +kernel
theorem own_d8_8 : decode jdk_43_method_13_code 8 = .ok (.istore_n 2, 1) := by decide +kernel
theorem own_d8_9 : decode jdk_43_method_13_code 9 = .ok (.iload_n 2, 1) := by decide +kernel
theorem own_d8_10 : decode jdk_43_method_13_code 10 = .ok (.aload_n 0, 1) := by decide +kernel
theorem own_d8_11 : decode jdk_43_method_13_code 11 = .ok (.arraylength, 1) := by decide +kernel
theorem own_d8_12 : decode jdk_43_method_13_code 12 = .ok (.if_icmp .ge 20, 3) := by decide +kernel
theorem own_d8_32 : decode jdk_43_method_13_code 32 = .ok (.iconst 1, 1) := by decide +kernel
theorem own_d8_33 : decode jdk_43_method_13_code 33 = .ok (.ireturn, 1) := by decide +kernel
def own_Q_own_leq0 (Z : State) (a : Addr) (b : Addr) (ka : ClassId) (kb : ClassId) (h0 : Heap) (n0 : Nat) (v : Option Value) (h : Heap) (L : List Loc) : Prop := v = some (.int (own_eqs [] [])) ∧ Fr n0 L ∧ h = h0
set_option maxRecDepth 65536 in
set_option maxHeartbeats 40000000 in
theorem own_leq0 (l : Launch) (Z : State) (a0 : Array Value) (hw : ∀ d ∈ tables_1, d.before a0 Z = true) (ws : List Jvm.Cond) (a : Addr) (b : Addr) (ka : ClassId) (kb : ClassId) (h0 : Heap) (n0 : Nat) (O0 : Old Z n0 h0) (VA : Arv Z h0 a ka .byte (0 : Int32) [] (.int (0 : Int32))) (VB : Arv Z h0 b kb .byte (0 : Int32) [] (.int (0 : Int32))) :
    MetFree l (⟨"java/lang/StringLatin1", "equals", "([B[B)Z"⟩ : MethodName) (head1 (Jvm.Cond.code (⟨"java/lang/StringLatin1", "equals", "([B[B)Z"⟩ : MethodName) jdk_43_method_13_code 3 (some .boolean) :: ws) ({ frames := 0, cells := 0, slots := 0, locals := 0 } : Room)) (fun args_ U => args_ = #[(.ref a), (.ref b)] ∧ Z.Warmed39 U.vm ∧ U.heap = h0) (fun _ _ _ _ _ => True) (fun _ U o U' => ∃ v L, o = .returned v ∧ (own_Q_own_leq0 Z a b ka kb h0 n0) v U'.heap L ∧ FrameEnd U o U' L ({ frames := 0, cells := 0, slots := 0, locals := 0 } : Room).cells ({ frames := 0, cells := 0, slots := 0, locals := 0 } : Room).slots) := by
  refine MetFree.of_bodySF (plainFor_of_name own_pn0) hisR ?_
  intro p e s m args below meth c s₁ Bd hml0 hP hK
  obtain ⟨rfl, hZ, hh⟩ := hP
  have hx := Bd.exec
  have hby := Bd.bytes
  have hml : c.maxLocals = 3 := hml0
  have hown : s.vm.findClass "java/lang/StringLatin1" = some m.cls := findClass_of_methodNamed Bd.named
  have hnm := (name_of_methodNamed Bd.named Bd.method).1
  have X0 : Stand p l e ({ frames := 0, cells := 0, slots := 0, locals := 0 } : Room) s m #[(.ref a), (.ref b)] below meth c s₁ [] 0 0 := Stand.of_body Bd
  have e0 : s₁.heap = h0 := by rw [← hh, Bd.state]; rfl
  have N0 := Fr.nil n0
  refine own_close (s := s) (Q := (own_Q_own_leq0 Z a b ka kb h0 n0)) (C := (({ frames := 0, cells := 0, slots := 0, locals := 0 } : Room)).cells) (N := (({ frames := 0, cells := 0, slots := 0, locals := 0 } : Room)).slots) (own_st (fun _ kt => castTop (own_ef8 m a b) kt) ?_)
  show own_Rch p e below _ s₁ (mkF m 0 #[.val (.ref a), .val (.ref b), .unset] [])
  refine own_st (fun _ kt => XS.aloadN X0.here hx rfl (hb hby own_d8_0) rfl rfl  kt) ?_
  show own_Rch p e below _ s₁ (mkF m 1 #[.val (.ref a), .val (.ref b), .unset] [(.ref a)])
  obtain ⟨cl1, Ar1, -, S1, M1, -, -⟩ := id VA
  refine own_st (X0.arraylength hx (by rw [e0]; exact Ar1.1) (State.isArrayOf_alike (hZ).alike Ar1.2.1) (g := (mkF m 1 #[.val (.ref a), .val (.ref b), .unset] [(.ref a)])) rfl rfl (hb hby own_d8_1)) ?_
  rw [len_of S1 M1]
  show own_Rch p e below _ s₁ (mkF m 2 #[.val (.ref a), .val (.ref b), .unset] [(.int (0 : Int32))])
  refine own_st (fun _ kt => XS.aloadN X0.here hx rfl (hb hby own_d8_2) rfl rfl  kt) ?_
  show own_Rch p e below _ s₁ (mkF m 3 #[.val (.ref a), .val (.ref b), .unset] [(.ref b), (.int (0 : Int32))])
  obtain ⟨cl2, Ar2, -, S2, M2, -, -⟩ := id VB
  refine own_st (X0.arraylength hx (by rw [e0]; exact Ar2.1) (State.isArrayOf_alike (hZ).alike Ar2.2.1) (g := (mkF m 3 #[.val (.ref a), .val (.ref b), .unset] [(.ref b), (.int (0 : Int32))])) rfl rfl (hb hby own_d8_3)) ?_
  rw [len_of S2 M2]
  show own_Rch p e below _ s₁ (mkF m 4 #[.val (.ref a), .val (.ref b), .unset] [(.int (0 : Int32)), (.int (0 : Int32))])
  refine own_st (fun _ kt => XS.icmpNo X0.here hx rfl (hb hby own_d8_4) rfl (teq (rfl : (0 : Int32) = (0 : Int32))).2 kt) ?_
  show own_Rch p e below _ s₁ (mkF m 7 #[.val (.ref a), .val (.ref b), .unset] [])
  refine own_st (fun _ kt => XS.iconst X0.here hx rfl (hb hby own_d8_7) kt) ?_
  show own_Rch p e below _ s₁ (mkF m 8 #[.val (.ref a), .val (.ref b), .unset] [(.int (0 : Int32))])
  refine own_st (fun _ kt => XS.istoreN X0.here hx rfl (hb hby own_d8_8) rfl (l' := #[.val (.ref a), .val (.ref b), .val (.int (0 : Int32))]) rfl kt) ?_
  show own_Rch p e below _ s₁ (mkF m 9 #[.val (.ref a), .val (.ref b), .val (.int (0 : Int32))] [])
  refine own_st (fun _ kt => XS.iloadN X0.here hx rfl (hb hby own_d8_9) rfl  kt) ?_
  show own_Rch p e below _ s₁ (mkF m 10 #[.val (.ref a), .val (.ref b), .val (.int (0 : Int32))] [(.int (0 : Int32))])
  refine own_st (fun _ kt => XS.aloadN X0.here hx rfl (hb hby own_d8_10) rfl rfl  kt) ?_
  show own_Rch p e below _ s₁ (mkF m 11 #[.val (.ref a), .val (.ref b), .val (.int (0 : Int32))] [(.ref a), (.int (0 : Int32))])
  obtain ⟨cl3, Ar3, -, S3, M3, -, -⟩ := id VA
  refine own_st (X0.arraylength hx (by rw [e0]; exact Ar3.1) (State.isArrayOf_alike (hZ).alike Ar3.2.1) (g := (mkF m 11 #[.val (.ref a), .val (.ref b), .val (.int (0 : Int32))] [(.ref a), (.int (0 : Int32))])) rfl rfl (hb hby own_d8_11)) ?_
  rw [len_of S3 M3]
  show own_Rch p e below _ s₁ (mkF m 12 #[.val (.ref a), .val (.ref b), .val (.int (0 : Int32))] [(.int (0 : Int32)), (.int (0 : Int32))])
  refine own_st (fun _ kt => XS.icmpYes X0.here hx rfl (pc0 := 12) (pc' := 32) rfl (hb hby own_d8_12) rfl (flt ((by decide) : ¬ ((0 : Int32) < (0 : Int32)))).2.1 (by decide) (by decide) kt) ?_
  show own_Rch p e below _ s₁ (mkF m 32 #[.val (.ref a), .val (.ref b), .val (.int (0 : Int32))] [])
  refine own_st (fun _ kt => XS.iconst X0.here hx rfl (hb hby own_d8_32) kt) ?_
  show own_Rch p e below _ s₁ (mkF m 33 #[.val (.ref a), .val (.ref b), .val (.int (0 : Int32))] [(.int (1 : Int32))])
  refine own_retN (t := .boolean) (by simp) X0 hx Bd.notSynchronized Bd.returns (hb hby own_d8_33) (by decide) (by decide) ?_
  rw [e0]
  exact ⟨by simp [own_eqs, nar], N0, rfl⟩
theorem own_d8_15 : decode jdk_43_method_13_code 15 = .ok (.aload_n 0, 1) := by decide +kernel
theorem own_d8_16 : decode jdk_43_method_13_code 16 = .ok (.iload_n 2, 1) := by decide +kernel
theorem own_d8_17 : decode jdk_43_method_13_code 17 = .ok (.baload, 1) := by decide +kernel
theorem own_d8_18 : decode jdk_43_method_13_code 18 = .ok (.aload_n 1, 1) := by decide +kernel
theorem own_d8_19 : decode jdk_43_method_13_code 19 = .ok (.iload_n 2, 1) := by decide +kernel
theorem own_d8_20 : decode jdk_43_method_13_code 20 = .ok (.baload, 1) := by decide +kernel
theorem own_d8_21 : decode jdk_43_method_13_code 21 = .ok (.if_icmp .eq 5, 3) := by decide +kernel
theorem own_d8_26 : decode jdk_43_method_13_code 26 = .ok (.iinc 2 1, 3) := by decide +kernel
theorem own_d8_29 : decode jdk_43_method_13_code 29 = .ok (.goto (-20), 3) := by decide +kernel
theorem own_d8_24 : decode jdk_43_method_13_code 24 = .ok (.iconst 0, 1) := by decide +kernel
theorem own_d8_25 : decode jdk_43_method_13_code 25 = .ok (.ireturn, 1) := by decide +kernel
def own_Q_own_leq1 (Z : State) (a : Addr) (b : Addr) (ka : ClassId) (kb : ClassId) (x0 : Int32) (y0 : Int32) (h0 : Heap) (n0 : Nat) (v : Option Value) (h : Heap) (L : List Loc) : Prop := v = some (.int (own_eqs [x0] [y0])) ∧ Fr n0 L ∧ h = h0
set_option maxRecDepth 65536 in
set_option maxHeartbeats 40000000 in
theorem own_leq1 (l : Launch) (Z : State) (a0 : Array Value) (hw : ∀ d ∈ tables_1, d.before a0 Z = true) (ws : List Jvm.Cond) (a : Addr) (b : Addr) (ka : ClassId) (kb : ClassId) (x0 : Int32) (y0 : Int32) (h0 : Heap) (n0 : Nat) (O0 : Old Z n0 h0) (VA : Arv Z h0 a ka .byte (1 : Int32) [(.int x0)] (.int (0 : Int32))) (VB : Arv Z h0 b kb .byte (1 : Int32) [(.int y0)] (.int (0 : Int32))) :
    MetFree l (⟨"java/lang/StringLatin1", "equals", "([B[B)Z"⟩ : MethodName) (head1 (Jvm.Cond.code (⟨"java/lang/StringLatin1", "equals", "([B[B)Z"⟩ : MethodName) jdk_43_method_13_code 3 (some .boolean) :: ws) ({ frames := 0, cells := 0, slots := 0, locals := 0 } : Room)) (fun args_ U => args_ = #[(.ref a), (.ref b)] ∧ Z.Warmed39 U.vm ∧ U.heap = h0) (fun _ _ _ _ _ => True) (fun _ U o U' => ∃ v L, o = .returned v ∧ (own_Q_own_leq1 Z a b ka kb x0 y0 h0 n0) v U'.heap L ∧ FrameEnd U o U' L ({ frames := 0, cells := 0, slots := 0, locals := 0 } : Room).cells ({ frames := 0, cells := 0, slots := 0, locals := 0 } : Room).slots) := by
  refine MetFree.of_bodySF (plainFor_of_name own_pn0) hisR ?_
  intro p e s m args below meth c s₁ Bd hml0 hP hK
  obtain ⟨rfl, hZ, hh⟩ := hP
  have hx := Bd.exec
  have hby := Bd.bytes
  have hml : c.maxLocals = 3 := hml0
  have hown : s.vm.findClass "java/lang/StringLatin1" = some m.cls := findClass_of_methodNamed Bd.named
  have hnm := (name_of_methodNamed Bd.named Bd.method).1
  have X0 : Stand p l e ({ frames := 0, cells := 0, slots := 0, locals := 0 } : Room) s m #[(.ref a), (.ref b)] below meth c s₁ [] 0 0 := Stand.of_body Bd
  have e0 : s₁.heap = h0 := by rw [← hh, Bd.state]; rfl
  have N0 := Fr.nil n0
  refine own_close (s := s) (Q := (own_Q_own_leq1 Z a b ka kb x0 y0 h0 n0)) (C := (({ frames := 0, cells := 0, slots := 0, locals := 0 } : Room)).cells) (N := (({ frames := 0, cells := 0, slots := 0, locals := 0 } : Room)).slots) (own_st (fun _ kt => castTop (own_ef8 m a b) kt) ?_)
  show own_Rch p e below _ s₁ (mkF m 0 #[.val (.ref a), .val (.ref b), .unset] [])
  refine own_st (fun _ kt => XS.aloadN X0.here hx rfl (hb hby own_d8_0) rfl rfl  kt) ?_
  show own_Rch p e below _ s₁ (mkF m 1 #[.val (.ref a), .val (.ref b), .unset] [(.ref a)])
  obtain ⟨cl1, Ar1, -, S1, M1, -, -⟩ := id VA
  refine own_st (X0.arraylength hx (by rw [e0]; exact Ar1.1) (State.isArrayOf_alike (hZ).alike Ar1.2.1) (g := (mkF m 1 #[.val (.ref a), .val (.ref b), .unset] [(.ref a)])) rfl rfl (hb hby own_d8_1)) ?_
  rw [len_of S1 M1]
  show own_Rch p e below _ s₁ (mkF m 2 #[.val (.ref a), .val (.ref b), .unset] [(.int (1 : Int32))])
  refine own_st (fun _ kt => XS.aloadN X0.here hx rfl (hb hby own_d8_2) rfl rfl  kt) ?_
  show own_Rch p e below _ s₁ (mkF m 3 #[.val (.ref a), .val (.ref b), .unset] [(.ref b), (.int (1 : Int32))])
  obtain ⟨cl2, Ar2, -, S2, M2, -, -⟩ := id VB
  refine own_st (X0.arraylength hx (by rw [e0]; exact Ar2.1) (State.isArrayOf_alike (hZ).alike Ar2.2.1) (g := (mkF m 3 #[.val (.ref a), .val (.ref b), .unset] [(.ref b), (.int (1 : Int32))])) rfl rfl (hb hby own_d8_3)) ?_
  rw [len_of S2 M2]
  show own_Rch p e below _ s₁ (mkF m 4 #[.val (.ref a), .val (.ref b), .unset] [(.int (1 : Int32)), (.int (1 : Int32))])
  refine own_st (fun _ kt => XS.icmpNo X0.here hx rfl (hb hby own_d8_4) rfl (teq (rfl : (1 : Int32) = (1 : Int32))).2 kt) ?_
  show own_Rch p e below _ s₁ (mkF m 7 #[.val (.ref a), .val (.ref b), .unset] [])
  refine own_st (fun _ kt => XS.iconst X0.here hx rfl (hb hby own_d8_7) kt) ?_
  show own_Rch p e below _ s₁ (mkF m 8 #[.val (.ref a), .val (.ref b), .unset] [(.int (0 : Int32))])
  refine own_st (fun _ kt => XS.istoreN X0.here hx rfl (hb hby own_d8_8) rfl (l' := #[.val (.ref a), .val (.ref b), .val (.int (0 : Int32))]) rfl kt) ?_
  show own_Rch p e below _ s₁ (mkF m 9 #[.val (.ref a), .val (.ref b), .val (.int (0 : Int32))] [])
  refine own_st (fun _ kt => XS.iloadN X0.here hx rfl (hb hby own_d8_9) rfl  kt) ?_
  show own_Rch p e below _ s₁ (mkF m 10 #[.val (.ref a), .val (.ref b), .val (.int (0 : Int32))] [(.int (0 : Int32))])
  refine own_st (fun _ kt => XS.aloadN X0.here hx rfl (hb hby own_d8_10) rfl rfl  kt) ?_
  show own_Rch p e below _ s₁ (mkF m 11 #[.val (.ref a), .val (.ref b), .val (.int (0 : Int32))] [(.ref a), (.int (0 : Int32))])
  obtain ⟨cl3, Ar3, -, S3, M3, -, -⟩ := id VA
  refine own_st (X0.arraylength hx (by rw [e0]; exact Ar3.1) (State.isArrayOf_alike (hZ).alike Ar3.2.1) (g := (mkF m 11 #[.val (.ref a), .val (.ref b), .val (.int (0 : Int32))] [(.ref a), (.int (0 : Int32))])) rfl rfl (hb hby own_d8_11)) ?_
  rw [len_of S3 M3]
  show own_Rch p e below _ s₁ (mkF m 12 #[.val (.ref a), .val (.ref b), .val (.int (0 : Int32))] [(.int (1 : Int32)), (.int (0 : Int32))])
  refine own_st (fun _ kt => XS.icmpNo X0.here hx rfl (hb hby own_d8_12) rfl (tlt ((by decide) : (0 : Int32) < (1 : Int32))).2.1 kt) ?_
  show own_Rch p e below _ s₁ (mkF m 15 #[.val (.ref a), .val (.ref b), .val (.int (0 : Int32))] [])
  refine own_st (fun _ kt => XS.aloadN X0.here hx rfl (hb hby own_d8_15) rfl rfl  kt) ?_
  show own_Rch p e below _ s₁ (mkF m 16 #[.val (.ref a), .val (.ref b), .val (.int (0 : Int32))] [(.ref a)])
  refine own_st (fun _ kt => XS.iloadN X0.here hx rfl (hb hby own_d8_16) rfl  kt) ?_
  show own_Rch p e below _ s₁ (mkF m 17 #[.val (.ref a), .val (.ref b), .val (.int (0 : Int32))] [(.int (0 : Int32)), (.ref a)])
  obtain ⟨cl4, Ar4, q4, S4, M4, H4, G4⟩ := id VA
  have hin4 : ¬ ((0 : Int32) < 0 ∨ cl4.slots.size ≤ ((0 : Int32)).toNatClampNeg) := inb_of S4 ⟨by decide, by decide⟩
  refine own_st (X0.baloadBytes hx (j := (0 : Int32)) (v := (.int x0)) (by rw [e0]; exact Ar4.1) (State.isArrayOf_alike (hZ).alike Ar4.2.1) Ar4.2.2 hin4 (H4.at hin4 rfl) (g := (mkF m 17 #[.val (.ref a), .val (.ref b), .val (.int (0 : Int32))] [(.int (0 : Int32)), (.ref a)])) rfl rfl (hb hby own_d8_17)) ?_
  show own_Rch p e below _ s₁ (mkF m 18 #[.val (.ref a), .val (.ref b), .val (.int (0 : Int32))] [(.int x0)])
  refine own_st (fun _ kt => XS.aloadN X0.here hx rfl (hb hby own_d8_18) rfl rfl  kt) ?_
  show own_Rch p e below _ s₁ (mkF m 19 #[.val (.ref a), .val (.ref b), .val (.int (0 : Int32))] [(.ref b), (.int x0)])
  refine own_st (fun _ kt => XS.iloadN X0.here hx rfl (hb hby own_d8_19) rfl  kt) ?_
  show own_Rch p e below _ s₁ (mkF m 20 #[.val (.ref a), .val (.ref b), .val (.int (0 : Int32))] [(.int (0 : Int32)), (.ref b), (.int x0)])
  obtain ⟨cl5, Ar5, q5, S5, M5, H5, G5⟩ := id VB
  have hin5 : ¬ ((0 : Int32) < 0 ∨ cl5.slots.size ≤ ((0 : Int32)).toNatClampNeg) := inb_of S5 ⟨by decide, by decide⟩
  refine own_st (X0.baloadBytes hx (j := (0 : Int32)) (v := (.int y0)) (by rw [e0]; exact Ar5.1) (State.isArrayOf_alike (hZ).alike Ar5.2.1) Ar5.2.2 hin5 (H5.at hin5 rfl) (g := (mkF m 20 #[.val (.ref a), .val (.ref b), .val (.int (0 : Int32))] [(.int (0 : Int32)), (.ref b), (.int x0)])) rfl rfl (hb hby own_d8_20)) ?_
  show own_Rch p e below _ s₁ (mkF m 21 #[.val (.ref a), .val (.ref b), .val (.int (0 : Int32))] [(.int y0), (.int x0)])
  by_cases hc21_6 : x0 = y0
  · -- pc 21: True
    refine own_st (fun _ kt => XS.icmpYes X0.here hx rfl (pc0 := 21) (pc' := 26) rfl (hb hby own_d8_21) rfl (teq hc21_6).1 (by decide) (by decide) kt) ?_
    show own_Rch p e below _ s₁ (mkF m 26 #[.val (.ref a), .val (.ref b), .val (.int (0 : Int32))] [])
    refine own_st (fun _ kt => XS.iinc X0.here hx rfl (hb hby own_d8_26) rfl (l' := #[.val (.ref a), .val (.ref b), .val (.int (1 : Int32))]) rfl kt) ?_
    show own_Rch p e below _ s₁ (mkF m 29 #[.val (.ref a), .val (.ref b), .val (.int (1 : Int32))] [])
    refine own_st (fun _ kt => XS.goto X0.here hx rfl (pc0 := 29) (pc' := 9) rfl (hb hby own_d8_29) (by decide) (by decide) kt) ?_
    show own_Rch p e below _ s₁ (mkF m 9 #[.val (.ref a), .val (.ref b), .val (.int (1 : Int32))] [])
    refine own_st (fun _ kt => XS.iloadN X0.here hx rfl (hb hby own_d8_9) rfl  kt) ?_
    show own_Rch p e below _ s₁ (mkF m 10 #[.val (.ref a), .val (.ref b), .val (.int (1 : Int32))] [(.int (1 : Int32))])
    refine own_st (fun _ kt => XS.aloadN X0.here hx rfl (hb hby own_d8_10) rfl rfl  kt) ?_
    show own_Rch p e below _ s₁ (mkF m 11 #[.val (.ref a), .val (.ref b), .val (.int (1 : Int32))] [(.ref a), (.int (1 : Int32))])
    obtain ⟨cl7, Ar7, -, S7, M7, -, -⟩ := id VA
    refine own_st (X0.arraylength hx (by rw [e0]; exact Ar7.1) (State.isArrayOf_alike (hZ).alike Ar7.2.1) (g := (mkF m 11 #[.val (.ref a), .val (.ref b), .val (.int (1 : Int32))] [(.ref a), (.int (1 : Int32))])) rfl rfl (hb hby own_d8_11)) ?_
    rw [len_of S7 M7]
    show own_Rch p e below _ s₁ (mkF m 12 #[.val (.ref a), .val (.ref b), .val (.int (1 : Int32))] [(.int (1 : Int32)), (.int (1 : Int32))])
    refine own_st (fun _ kt => XS.icmpYes X0.here hx rfl (pc0 := 12) (pc' := 32) rfl (hb hby own_d8_12) rfl (flt ((by decide) : ¬ ((1 : Int32) < (1 : Int32)))).2.1 (by decide) (by decide) kt) ?_
    show own_Rch p e below _ s₁ (mkF m 32 #[.val (.ref a), .val (.ref b), .val (.int (1 : Int32))] [])
    refine own_st (fun _ kt => XS.iconst X0.here hx rfl (hb hby own_d8_32) kt) ?_
    show own_Rch p e below _ s₁ (mkF m 33 #[.val (.ref a), .val (.ref b), .val (.int (1 : Int32))] [(.int (1 : Int32))])
    refine own_retN (t := .boolean) (by simp) X0 hx Bd.notSynchronized Bd.returns (hb hby own_d8_33) (by decide) (by decide) ?_
    rw [e0]
    exact ⟨by simp [own_eqs, nar, hc21_6], N0, rfl⟩
  · -- pc 21: False
    refine own_st (fun _ kt => XS.icmpNo X0.here hx rfl (hb hby own_d8_21) rfl (feq hc21_6).1 kt) ?_
    show own_Rch p e below _ s₁ (mkF m 24 #[.val (.ref a), .val (.ref b), .val (.int (0 : Int32))] [])
    refine own_st (fun _ kt => XS.iconst X0.here hx rfl (hb hby own_d8_24) kt) ?_
    show own_Rch p e below _ s₁ (mkF m 25 #[.val (.ref a), .val (.ref b), .val (.int (0 : Int32))] [(.int (0 : Int32))])
    refine own_retN (t := .boolean) (by simp) X0 hx Bd.notSynchronized Bd.returns (hb hby own_d8_25) (by decide) (by decide) ?_
    rw [e0]
    exact ⟨by simp [own_eqs, nar, hc21_6], N0, rfl⟩
def own_Q_own_leq2 (Z : State) (a : Addr) (b : Addr) (ka : ClassId) (kb : ClassId) (x0 : Int32) (x1 : Int32) (y0 : Int32) (y1 : Int32) (h0 : Heap) (n0 : Nat) (v : Option Value) (h : Heap) (L : List Loc) : Prop := v = some (.int (own_eqs [x0, x1] [y0, y1])) ∧ Fr n0 L ∧ h = h0
set_option maxRecDepth 65536 in
set_option maxHeartbeats 40000000 in
theorem own_leq2 (l : Launch) (Z : State) (a0 : Array Value) (hw : ∀ d ∈ tables_1, d.before a0 Z = true) (ws : List Jvm.Cond) (a : Addr) (b : Addr) (ka : ClassId) (kb : ClassId) (x0 : Int32) (x1 : Int32) (y0 : Int32) (y1 : Int32) (h0 : Heap) (n0 : Nat) (O0 : Old Z n0 h0) (VA : Arv Z h0 a ka .byte (2 : Int32) [(.int x0), (.int x1)] (.int (0 : Int32))) (VB : Arv Z h0 b kb .byte (2 : Int32) [(.int y0), (.int y1)] (.int (0 : Int32))) :
    MetFree l (⟨"java/lang/StringLatin1", "equals", "([B[B)Z"⟩ : MethodName) (head1 (Jvm.Cond.code (⟨"java/lang/StringLatin1", "equals", "([B[B)Z"⟩ : MethodName) jdk_43_method_13_code 3 (some .boolean) :: ws) ({ frames := 0, cells := 0, slots := 0, locals := 0 } : Room)) (fun args_ U => args_ = #[(.ref a), (.ref b)] ∧ Z.Warmed39 U.vm ∧ U.heap = h0) (fun _ _ _ _ _ => True) (fun _ U o U' => ∃ v L, o = .returned v ∧ (own_Q_own_leq2 Z a b ka kb x0 x1 y0 y1 h0 n0) v U'.heap L ∧ FrameEnd U o U' L ({ frames := 0, cells := 0, slots := 0, locals := 0 } : Room).cells ({ frames := 0, cells := 0, slots := 0, locals := 0 } : Room).slots) := by
  refine MetFree.of_bodySF (plainFor_of_name own_pn0) hisR ?_
  intro p e s m args below meth c s₁ Bd hml0 hP hK
  obtain ⟨rfl, hZ, hh⟩ := hP
  have hx := Bd.exec
  have hby := Bd.bytes
  have hml : c.maxLocals = 3 := hml0
  have hown : s.vm.findClass "java/lang/StringLatin1" = some m.cls := findClass_of_methodNamed Bd.named
  have hnm := (name_of_methodNamed Bd.named Bd.method).1
  have X0 : Stand p l e ({ frames := 0, cells := 0, slots := 0, locals := 0 } : Room) s m #[(.ref a), (.ref b)] below meth c s₁ [] 0 0 := Stand.of_body Bd
  have e0 : s₁.heap = h0 := by rw [← hh, Bd.state]; rfl
  have N0 := Fr.nil n0
  refine own_close (s := s) (Q := (own_Q_own_leq2 Z a b ka kb x0 x1 y0 y1 h0 n0)) (C := (({ frames := 0, cells := 0, slots := 0, locals := 0 } : Room)).cells) (N := (({ frames := 0, cells := 0, slots := 0, locals := 0 } : Room)).slots) (own_st (fun _ kt => castTop (own_ef8 m a b) kt) ?_)
  show own_Rch p e below _ s₁ (mkF m 0 #[.val (.ref a), .val (.ref b), .unset] [])
  refine own_st (fun _ kt => XS.aloadN X0.here hx rfl (hb hby own_d8_0) rfl rfl  kt) ?_
  show own_Rch p e below _ s₁ (mkF m 1 #[.val (.ref a), .val (.ref b), .unset] [(.ref a)])
  obtain ⟨cl1, Ar1, -, S1, M1, -, -⟩ := id VA
  refine own_st (X0.arraylength hx (by rw [e0]; exact Ar1.1) (State.isArrayOf_alike (hZ).alike Ar1.2.1) (g := (mkF m 1 #[.val (.ref a), .val (.ref b), .unset] [(.ref a)])) rfl rfl (hb hby own_d8_1)) ?_
  rw [len_of S1 M1]
  show own_Rch p e below _ s₁ (mkF m 2 #[.val (.ref a), .val (.ref b), .unset] [(.int (2 : Int32))])
  refine own_st (fun _ kt => XS.aloadN X0.here hx rfl (hb hby own_d8_2) rfl rfl  kt) ?_
  show own_Rch p e below _ s₁ (mkF m 3 #[.val (.ref a), .val (.ref b), .unset] [(.ref b), (.int (2 : Int32))])
  obtain ⟨cl2, Ar2, -, S2, M2, -, -⟩ := id VB
  refine own_st (X0.arraylength hx (by rw [e0]; exact Ar2.1) (State.isArrayOf_alike (hZ).alike Ar2.2.1) (g := (mkF m 3 #[.val (.ref a), .val (.ref b), .unset] [(.ref b), (.int (2 : Int32))])) rfl rfl (hb hby own_d8_3)) ?_
  rw [len_of S2 M2]
  show own_Rch p e below _ s₁ (mkF m 4 #[.val (.ref a), .val (.ref b), .unset] [(.int (2 : Int32)), (.int (2 : Int32))])
  refine own_st (fun _ kt => XS.icmpNo X0.here hx rfl (hb hby own_d8_4) rfl (teq (rfl : (2 : Int32) = (2 : Int32))).2 kt) ?_
  show own_Rch p e below _ s₁ (mkF m 7 #[.val (.ref a), .val (.ref b), .unset] [])
  refine own_st (fun _ kt => XS.iconst X0.here hx rfl (hb hby own_d8_7) kt) ?_
  show own_Rch p e below _ s₁ (mkF m 8 #[.val (.ref a), .val (.ref b), .unset] [(.int (0 : Int32))])
  refine own_st (fun _ kt => XS.istoreN X0.here hx rfl (hb hby own_d8_8) rfl (l' := #[.val (.ref a), .val (.ref b), .val (.int (0 : Int32))]) rfl kt) ?_
  show own_Rch p e below _ s₁ (mkF m 9 #[.val (.ref a), .val (.ref b), .val (.int (0 : Int32))] [])
  refine own_st (fun _ kt => XS.iloadN X0.here hx rfl (hb hby own_d8_9) rfl  kt) ?_
  show own_Rch p e below _ s₁ (mkF m 10 #[.val (.ref a), .val (.ref b), .val (.int (0 : Int32))] [(.int (0 : Int32))])
  refine own_st (fun _ kt => XS.aloadN X0.here hx rfl (hb hby own_d8_10) rfl rfl  kt) ?_
  show own_Rch p e below _ s₁ (mkF m 11 #[.val (.ref a), .val (.ref b), .val (.int (0 : Int32))] [(.ref a), (.int (0 : Int32))])
  obtain ⟨cl3, Ar3, -, S3, M3, -, -⟩ := id VA
  refine own_st (X0.arraylength hx (by rw [e0]; exact Ar3.1) (State.isArrayOf_alike (hZ).alike Ar3.2.1) (g := (mkF m 11 #[.val (.ref a), .val (.ref b), .val (.int (0 : Int32))] [(.ref a), (.int (0 : Int32))])) rfl rfl (hb hby own_d8_11)) ?_
  rw [len_of S3 M3]
  show own_Rch p e below _ s₁ (mkF m 12 #[.val (.ref a), .val (.ref b), .val (.int (0 : Int32))] [(.int (2 : Int32)), (.int (0 : Int32))])
  refine own_st (fun _ kt => XS.icmpNo X0.here hx rfl (hb hby own_d8_12) rfl (tlt ((by decide) : (0 : Int32) < (2 : Int32))).2.1 kt) ?_
  show own_Rch p e below _ s₁ (mkF m 15 #[.val (.ref a), .val (.ref b), .val (.int (0 : Int32))] [])
  refine own_st (fun _ kt => XS.aloadN X0.here hx rfl (hb hby own_d8_15) rfl rfl  kt) ?_
  show own_Rch p e below _ s₁ (mkF m 16 #[.val (.ref a), .val (.ref b), .val (.int (0 : Int32))] [(.ref a)])
  refine own_st (fun _ kt => XS.iloadN X0.here hx rfl (hb hby own_d8_16) rfl  kt) ?_
  show own_Rch p e below _ s₁ (mkF m 17 #[.val (.ref a), .val (.ref b), .val (.int (0 : Int32))] [(.int (0 : Int32)), (.ref a)])
  obtain ⟨cl4, Ar4, q4, S4, M4, H4, G4⟩ := id VA
  have hin4 : ¬ ((0 : Int32) < 0 ∨ cl4.slots.size ≤ ((0 : Int32)).toNatClampNeg) := inb_of S4 ⟨by decide, by decide⟩
  refine own_st (X0.baloadBytes hx (j := (0 : Int32)) (v := (.int x0)) (by rw [e0]; exact Ar4.1) (State.isArrayOf_alike (hZ).alike Ar4.2.1) Ar4.2.2 hin4 (H4.at hin4 rfl) (g := (mkF m 17 #[.val (.ref a), .val (.ref b), .val (.int (0 : Int32))] [(.int (0 : Int32)), (.ref a)])) rfl rfl (hb hby own_d8_17)) ?_
  show own_Rch p e below _ s₁ (mkF m 18 #[.val (.ref a), .val (.ref b), .val (.int (0 : Int32))] [(.int x0)])
  refine own_st (fun _ kt => XS.aloadN X0.here hx rfl (hb hby own_d8_18) rfl rfl  kt) ?_
  show own_Rch p e below _ s₁ (mkF m 19 #[.val (.ref a), .val (.ref b), .val (.int (0 : Int32))] [(.ref b), (.int x0)])
  refine own_st (fun _ kt => XS.iloadN X0.here hx rfl (hb hby own_d8_19) rfl  kt) ?_
  show own_Rch p e below _ s₁ (mkF m 20 #[.val (.ref a), .val (.ref b), .val (.int (0 : Int32))] [(.int (0 : Int32)), (.ref b), (.int x0)])
  obtain ⟨cl5, Ar5, q5, S5, M5, H5, G5⟩ := id VB
  have hin5 : ¬ ((0 : Int32) < 0 ∨ cl5.slots.size ≤ ((0 : Int32)).toNatClampNeg) := inb_of S5 ⟨by decide, by decide⟩
  refine own_st (X0.baloadBytes hx (j := (0 : Int32)) (v := (.int y0)) (by rw [e0]; exact Ar5.1) (State.isArrayOf_alike (hZ).alike Ar5.2.1) Ar5.2.2 hin5 (H5.at hin5 rfl) (g := (mkF m 20 #[.val (.ref a), .val (.ref b), .val (.int (0 : Int32))] [(.int (0 : Int32)), (.ref b), (.int x0)])) rfl rfl (hb hby own_d8_20)) ?_
  show own_Rch p e below _ s₁ (mkF m 21 #[.val (.ref a), .val (.ref b), .val (.int (0 : Int32))] [(.int y0), (.int x0)])
  by_cases hc21_6 : x0 = y0
  · -- pc 21: True
    refine own_st (fun _ kt => XS.icmpYes X0.here hx rfl (pc0 := 21) (pc' := 26) rfl (hb hby own_d8_21) rfl (teq hc21_6).1 (by decide) (by decide) kt) ?_
    show own_Rch p e below _ s₁ (mkF m 26 #[.val (.ref a), .val (.ref b), .val (.int (0 : Int32))] [])
    refine own_st (fun _ kt => XS.iinc X0.here hx rfl (hb hby own_d8_26) rfl (l' := #[.val (.ref a), .val (.ref b), .val (.int (1 : Int32))]) rfl kt) ?_
    show own_Rch p e below _ s₁ (mkF m 29 #[.val (.ref a), .val (.ref b), .val (.int (1 : Int32))] [])
    refine own_st (fun _ kt => XS.goto X0.here hx rfl (pc0 := 29) (pc' := 9) rfl (hb hby own_d8_29) (by decide) (by decide) kt) ?_
    show own_Rch p e below _ s₁ (mkF m 9 #[.val (.ref a), .val (.ref b), .val (.int (1 : Int32))] [])
    refine own_st (fun _ kt => XS.iloadN X0.here hx rfl (hb hby own_d8_9) rfl  kt) ?_
    show own_Rch p e below _ s₁ (mkF m 10 #[.val (.ref a), .val (.ref b), .val (.int (1 : Int32))] [(.int (1 : Int32))])
    refine own_st (fun _ kt => XS.aloadN X0.here hx rfl (hb hby own_d8_10) rfl rfl  kt) ?_
    show own_Rch p e below _ s₁ (mkF m 11 #[.val (.ref a), .val (.ref b), .val (.int (1 : Int32))] [(.ref a), (.int (1 : Int32))])
    obtain ⟨cl7, Ar7, -, S7, M7, -, -⟩ := id VA
    refine own_st (X0.arraylength hx (by rw [e0]; exact Ar7.1) (State.isArrayOf_alike (hZ).alike Ar7.2.1) (g := (mkF m 11 #[.val (.ref a), .val (.ref b), .val (.int (1 : Int32))] [(.ref a), (.int (1 : Int32))])) rfl rfl (hb hby own_d8_11)) ?_
    rw [len_of S7 M7]
    show own_Rch p e below _ s₁ (mkF m 12 #[.val (.ref a), .val (.ref b), .val (.int (1 : Int32))] [(.int (2 : Int32)), (.int (1 : Int32))])
    refine own_st (fun _ kt => XS.icmpNo X0.here hx rfl (hb hby own_d8_12) rfl (tlt ((by decide) : (1 : Int32) < (2 : Int32))).2.1 kt) ?_
    show own_Rch p e below _ s₁ (mkF m 15 #[.val (.ref a), .val (.ref b), .val (.int (1 : Int32))] [])
    refine own_st (fun _ kt => XS.aloadN X0.here hx rfl (hb hby own_d8_15) rfl rfl  kt) ?_
    show own_Rch p e below _ s₁ (mkF m 16 #[.val (.ref a), .val (.ref b), .val (.int (1 : Int32))] [(.ref a)])
    refine own_st (fun _ kt => XS.iloadN X0.here hx rfl (hb hby own_d8_16) rfl  kt) ?_
    show own_Rch p e below _ s₁ (mkF m 17 #[.val (.ref a), .val (.ref b), .val (.int (1 : Int32))] [(.int (1 : Int32)), (.ref a)])
    obtain ⟨cl8, Ar8, q8, S8, M8, H8, G8⟩ := id VA
    have hin8 : ¬ ((1 : Int32) < 0 ∨ cl8.slots.size ≤ ((1 : Int32)).toNatClampNeg) := inb_of S8 ⟨by decide, by decide⟩
    refine own_st (X0.baloadBytes hx (j := (1 : Int32)) (v := (.int x1)) (by rw [e0]; exact Ar8.1) (State.isArrayOf_alike (hZ).alike Ar8.2.1) Ar8.2.2 hin8 (H8.at hin8 rfl) (g := (mkF m 17 #[.val (.ref a), .val (.ref b), .val (.int (1 : Int32))] [(.int (1 : Int32)), (.ref a)])) rfl rfl (hb hby own_d8_17)) ?_
    show own_Rch p e below _ s₁ (mkF m 18 #[.val (.ref a), .val (.ref b), .val (.int (1 : Int32))] [(.int x1)])
    refine own_st (fun _ kt => XS.aloadN X0.here hx rfl (hb hby own_d8_18) rfl rfl  kt) ?_
    show own_Rch p e below _ s₁ (mkF m 19 #[.val (.ref a), .val (.ref b), .val (.int (1 : Int32))] [(.ref b), (.int x1)])
    refine own_st (fun _ kt => XS.iloadN X0.here hx rfl (hb hby own_d8_19) rfl  kt) ?_
    show own_Rch p e below _ s₁ (mkF m 20 #[.val (.ref a), .val (.ref b), .val (.int (1 : Int32))] [(.int (1 : Int32)), (.ref b), (.int x1)])
    obtain ⟨cl9, Ar9, q9, S9, M9, H9, G9⟩ := id VB
    have hin9 : ¬ ((1 : Int32) < 0 ∨ cl9.slots.size ≤ ((1 : Int32)).toNatClampNeg) := inb_of S9 ⟨by decide, by decide⟩
    refine own_st (X0.baloadBytes hx (j := (1 : Int32)) (v := (.int y1)) (by rw [e0]; exact Ar9.1) (State.isArrayOf_alike (hZ).alike Ar9.2.1) Ar9.2.2 hin9 (H9.at hin9 rfl) (g := (mkF m 20 #[.val (.ref a), .val (.ref b), .val (.int (1 : Int32))] [(.int (1 : Int32)), (.ref b), (.int x1)])) rfl rfl (hb hby own_d8_20)) ?_
    show own_Rch p e below _ s₁ (mkF m 21 #[.val (.ref a), .val (.ref b), .val (.int (1 : Int32))] [(.int y1), (.int x1)])
    by_cases hc21_10 : x1 = y1
    · -- pc 21: True
      refine own_st (fun _ kt => XS.icmpYes X0.here hx rfl (pc0 := 21) (pc' := 26) rfl (hb hby own_d8_21) rfl (teq hc21_10).1 (by decide) (by decide) kt) ?_
      show own_Rch p e below _ s₁ (mkF m 26 #[.val (.ref a), .val (.ref b), .val (.int (1 : Int32))] [])
      refine own_st (fun _ kt => XS.iinc X0.here hx rfl (hb hby own_d8_26) rfl (l' := #[.val (.ref a), .val (.ref b), .val (.int (2 : Int32))]) rfl kt) ?_
      show own_Rch p e below _ s₁ (mkF m 29 #[.val (.ref a), .val (.ref b), .val (.int (2 : Int32))] [])
      refine own_st (fun _ kt => XS.goto X0.here hx rfl (pc0 := 29) (pc' := 9) rfl (hb hby own_d8_29) (by decide) (by decide) kt) ?_
      show own_Rch p e below _ s₁ (mkF m 9 #[.val (.ref a), .val (.ref b), .val (.int (2 : Int32))] [])
      refine own_st (fun _ kt => XS.iloadN X0.here hx rfl (hb hby own_d8_9) rfl  kt) ?_
      show own_Rch p e below _ s₁ (mkF m 10 #[.val (.ref a), .val (.ref b), .val (.int (2 : Int32))] [(.int (2 : Int32))])
      refine own_st (fun _ kt => XS.aloadN X0.here hx rfl (hb hby own_d8_10) rfl rfl  kt) ?_
      show own_Rch p e below _ s₁ (mkF m 11 #[.val (.ref a), .val (.ref b), .val (.int (2 : Int32))] [(.ref a), (.int (2 : Int32))])
      obtain ⟨cl11, Ar11, -, S11, M11, -, -⟩ := id VA
      refine own_st (X0.arraylength hx (by rw [e0]; exact Ar11.1) (State.isArrayOf_alike (hZ).alike Ar11.2.1) (g := (mkF m 11 #[.val (.ref a), .val (.ref b), .val (.int (2 : Int32))] [(.ref a), (.int (2 : Int32))])) rfl rfl (hb hby own_d8_11)) ?_
      rw [len_of S11 M11]
      show own_Rch p e below _ s₁ (mkF m 12 #[.val (.ref a), .val (.ref b), .val (.int (2 : Int32))] [(.int (2 : Int32)), (.int (2 : Int32))])
      refine own_st (fun _ kt => XS.icmpYes X0.here hx rfl (pc0 := 12) (pc' := 32) rfl (hb hby own_d8_12) rfl (flt ((by decide) : ¬ ((2 : Int32) < (2 : Int32)))).2.1 (by decide) (by decide) kt) ?_
      show own_Rch p e below _ s₁ (mkF m 32 #[.val (.ref a), .val (.ref b), .val (.int (2 : Int32))] [])
      refine own_st (fun _ kt => XS.iconst X0.here hx rfl (hb hby own_d8_32) kt) ?_
      show own_Rch p e below _ s₁ (mkF m 33 #[.val (.ref a), .val (.ref b), .val (.int (2 : Int32))] [(.int (1 : Int32))])
      refine own_retN (t := .boolean) (by simp) X0 hx Bd.notSynchronized Bd.returns (hb hby own_d8_33) (by decide) (by decide) ?_
      rw [e0]
      exact ⟨by simp [own_eqs, nar, hc21_6, hc21_10], N0, rfl⟩
    · -- pc 21: False
      refine own_st (fun _ kt => XS.icmpNo X0.here hx rfl (hb hby own_d8_21) rfl (feq hc21_10).1 kt) ?_
      show own_Rch p e below _ s₁ (mkF m 24 #[.val (.ref a), .val (.ref b), .val (.int (1 : Int32))] [])
      refine own_st (fun _ kt => XS.iconst X0.here hx rfl (hb hby own_d8_24) kt) ?_
      show own_Rch p e below _ s₁ (mkF m 25 #[.val (.ref a), .val (.ref b), .val (.int (1 : Int32))] [(.int (0 : Int32))])
      refine own_retN (t := .boolean) (by simp) X0 hx Bd.notSynchronized Bd.returns (hb hby own_d8_25) (by decide) (by decide) ?_
      rw [e0]
      exact ⟨by simp [own_eqs, nar, hc21_6, hc21_10], N0, rfl⟩
  · -- pc 21: False
    refine own_st (fun _ kt => XS.icmpNo X0.here hx rfl (hb hby own_d8_21) rfl (feq hc21_6).1 kt) ?_
    show own_Rch p e below _ s₁ (mkF m 24 #[.val (.ref a), .val (.ref b), .val (.int (0 : Int32))] [])
    refine own_st (fun _ kt => XS.iconst X0.here hx rfl (hb hby own_d8_24) kt) ?_
    show own_Rch p e below _ s₁ (mkF m 25 #[.val (.ref a), .val (.ref b), .val (.int (0 : Int32))] [(.int (0 : Int32))])
    refine own_retN (t := .boolean) (by simp) X0 hx Bd.notSynchronized Bd.returns (hb hby own_d8_25) (by decide) (by decide) ?_
    rw [e0]
    exact ⟨by simp [own_eqs, nar, hc21_6], N0, rfl⟩
def own_Q_own_leq (Z : State) (l1 l2 : List Int32) (h0 : Heap) (n0 : Nat) (v : Option Value) (h : Heap) (L : List Loc) : Prop := v = some (.int (own_eqs l1 l2)) ∧ Fr n0 L ∧ h = h0
theorem own_d8_34 : decode jdk_43_method_13_code 34 = .ok (.iconst 0, 1) := by decide +kernel
theorem own_d8_35 : decode jdk_43_method_13_code 35 = .ok (.ireturn, 1) := by decide +kernel
set_option maxRecDepth 65536 in
set_option maxHeartbeats 40000000 in
theorem own_leqn (l : Launch) (Z : State) (a0 : Array Value) (hw : ∀ d ∈ tables_1, d.before a0 Z = true) (ws : List Jvm.Cond) (a : Addr) (b : Addr) (ka : ClassId) (kb : ClassId) (l1 : List Int32) (l2 : List Int32) (h0 : Heap) (n0 : Nat) (O0 : Old Z n0 h0) (VA : Arv Z h0 a ka .byte (own_len l1) (l1.map Value.int) (.int (0 : Int32))) (VB : Arv Z h0 b kb .byte (own_len l2) (l2.map Value.int) (.int (0 : Int32))) (hz : ¬ own_len l1 = own_len l2) :
    MetFree l (⟨"java/lang/StringLatin1", "equals", "([B[B)Z"⟩ : MethodName) (head1 (Jvm.Cond.code (⟨"java/lang/StringLatin1", "equals", "([B[B)Z"⟩ : MethodName) jdk_43_method_13_code 3 (some .boolean) :: ws) ({ frames := 0, cells := 0, slots := 0, locals := 0 } : Room)) (fun args_ U => args_ = #[(.ref a), (.ref b)] ∧ Z.Warmed39 U.vm ∧ U.heap = h0) (fun _ _ _ _ _ => True) (fun _ U o U' => ∃ v L, o = .returned v ∧ (own_Q_own_leq Z l1 l2 h0 n0) v U'.heap L ∧ FrameEnd U o U' L ({ frames := 0, cells := 0, slots := 0, locals := 0 } : Room).cells ({ frames := 0, cells := 0, slots := 0, locals := 0 } : Room).slots) := by
  refine MetFree.of_bodySF (plainFor_of_name own_pn0) hisR ?_
  intro p e s m args below meth c s₁ Bd hml0 hP hK
  obtain ⟨rfl, hZ, hh⟩ := hP
  have hx := Bd.exec
  have hby := Bd.bytes
  have hml : c.maxLocals = 3 := hml0
  have hown : s.vm.findClass "java/lang/StringLatin1" = some m.cls := findClass_of_methodNamed Bd.named
  have hnm := (name_of_methodNamed Bd.named Bd.method).1
  have X0 : Stand p l e ({ frames := 0, cells := 0, slots := 0, locals := 0 } : Room) s m #[(.ref a), (.ref b)] below meth c s₁ [] 0 0 := Stand.of_body Bd
  have e0 : s₁.heap = h0 := by rw [← hh, Bd.state]; rfl
  have N0 := Fr.nil n0
  refine own_close (s := s) (Q := (own_Q_own_leq Z l1 l2 h0 n0)) (C := (({ frames := 0, cells := 0, slots := 0, locals := 0 } : Room)).cells) (N := (({ frames := 0, cells := 0, slots := 0, locals := 0 } : Room)).slots) (own_st (fun _ kt => castTop (own_ef8 m a b) kt) ?_)
  show own_Rch p e below _ s₁ (mkF m 0 #[.val (.ref a), .val (.ref b), .unset] [])
  refine own_st (fun _ kt => XS.aloadN X0.here hx rfl (hb hby own_d8_0) rfl rfl  kt) ?_
  show own_Rch p e below _ s₁ (mkF m 1 #[.val (.ref a), .val (.ref b), .unset] [(.ref a)])
  obtain ⟨cl1, Ar1, -, S1, M1, -, -⟩ := id VA
  refine own_st (X0.arraylength hx (by rw [e0]; exact Ar1.1) (State.isArrayOf_alike (hZ).alike Ar1.2.1) (g := (mkF m 1 #[.val (.ref a), .val (.ref b), .unset] [(.ref a)])) rfl rfl (hb hby own_d8_1)) ?_
  rw [len_of S1 M1]
  show own_Rch p e below _ s₁ (mkF m 2 #[.val (.ref a), .val (.ref b), .unset] [(.int (own_len l1))])
  refine own_st (fun _ kt => XS.aloadN X0.here hx rfl (hb hby own_d8_2) rfl rfl  kt) ?_
  show own_Rch p e below _ s₁ (mkF m 3 #[.val (.ref a), .val (.ref b), .unset] [(.ref b), (.int (own_len l1))])
  obtain ⟨cl2, Ar2, -, S2, M2, -, -⟩ := id VB
  refine own_st (X0.arraylength hx (by rw [e0]; exact Ar2.1) (State.isArrayOf_alike (hZ).alike Ar2.2.1) (g := (mkF m 3 #[.val (.ref a), .val (.ref b), .unset] [(.ref b), (.int (own_len l1))])) rfl rfl (hb hby own_d8_3)) ?_
  rw [len_of S2 M2]
  show own_Rch p e below _ s₁ (mkF m 4 #[.val (.ref a), .val (.ref b), .unset] [(.int (own_len l2)), (.int (own_len l1))])
  refine own_st (fun _ kt => XS.icmpYes X0.here hx rfl (pc0 := 4) (pc' := 34) rfl (hb hby own_d8_4) rfl (feq (hz : ¬ ((own_len l1) = (own_len l2)))).2 (by decide) (by decide) kt) ?_
  show own_Rch p e below _ s₁ (mkF m 34 #[.val (.ref a), .val (.ref b), .unset] [])
  refine own_st (fun _ kt => XS.iconst X0.here hx rfl (hb hby own_d8_34) kt) ?_
  show own_Rch p e below _ s₁ (mkF m 35 #[.val (.ref a), .val (.ref b), .unset] [(.int (0 : Int32))])
  refine own_retN (t := .boolean) (by simp) X0 hx Bd.notSynchronized Bd.returns (hb hby own_d8_35) (by decide) (by decide) ?_
  rw [e0]
  exact ⟨by rw [own_eq0 fun q => hz (by rw [q])]; rfl, N0, rfl⟩
theorem own_leq (l : Launch) (Z : State) (a0 : Array Value) (hw : ∀ d ∈ tables_1, d.before a0 Z = true) (ws : List Jvm.Cond) (a b : Addr) (ka kb : ClassId) (l1 l2 : List Int32) (h0 : Heap) (n0 : Nat) (O0 : Old Z n0 h0) (VA : Arv Z h0 a ka .byte (own_len l1) (l1.map Value.int) (.int (0 : Int32))) (VB : Arv Z h0 b kb .byte (own_len l2) (l2.map Value.int) (.int (0 : Int32))) (g1 : l1.length ≤ 2) (g2 : l2.length ≤ 2) :
    MetFree l (⟨"java/lang/StringLatin1", "equals", "([B[B)Z"⟩ : MethodName) (head1 (Jvm.Cond.code (⟨"java/lang/StringLatin1", "equals", "([B[B)Z"⟩ : MethodName) jdk_43_method_13_code 3 (some .boolean) :: ws) ({ frames := 0, cells := 0, slots := 0, locals := 0 } : Room)) (fun args_ U => args_ = #[(.ref a), (.ref b)] ∧ Z.Warmed39 U.vm ∧ U.heap = h0) (fun _ _ _ _ _ => True) (fun _ U o U' => ∃ v L, o = .returned v ∧ (own_Q_own_leq Z l1 l2 h0 n0) v U'.heap L ∧ FrameEnd U o U' L ({ frames := 0, cells := 0, slots := 0, locals := 0 } : Room).cells ({ frames := 0, cells := 0, slots := 0, locals := 0 } : Room).slots) := by
  match l1, l2, g1, g2, VA, VB with
  | [], [], _, _, VA, VB => exact own_leq0 l Z a0 hw ws a b ka kb  h0 n0 O0 VA VB
  | [], [y0], _, _, VA, VB => exact own_leqn l Z a0 hw ws a b ka kb _ _ h0 n0 O0 VA VB (by simp [own_len])
  | [], [y0, y1], _, _, VA, VB => exact own_leqn l Z a0 hw ws a b ka kb _ _ h0 n0 O0 VA VB (by simp [own_len])
  | [x0], [], _, _, VA, VB => exact own_leqn l Z a0 hw ws a b ka kb _ _ h0 n0 O0 VA VB (by simp [own_len])
  | [x0], [y0], _, _, VA, VB => exact own_leq1 l Z a0 hw ws a b ka kb x0 y0 h0 n0 O0 VA VB
  | [x0], [y0, y1], _, _, VA, VB => exact own_leqn l Z a0 hw ws a b ka kb _ _ h0 n0 O0 VA VB (by simp [own_len])
  | [x0, x1], [], _, _, VA, VB => exact own_leqn l Z a0 hw ws a b ka kb _ _ h0 n0 O0 VA VB (by simp [own_len])
  | [x0, x1], [y0], _, _, VA, VB => exact own_leqn l Z a0 hw ws a b ka kb _ _ h0 n0 O0 VA VB (by simp [own_len])
  | [x0, x1], [y0, y1], _, _, VA, VB => exact own_leq2 l Z a0 hw ws a b ka kb x0 x1 y0 y1 h0 n0 O0 VA VB
  | _ :: _ :: _ :: _, _, g, _, _, _ => exact absurd g (by simp)
  | [], _ :: _ :: _ :: _, _, g, _, _ => exact absurd g (by simp)
  | [_], _ :: _ :: _ :: _, _, g, _, _ => exact absurd g (by simp)
  | [_, _], _ :: _ :: _ :: _, _, g, _, _ => exact absurd g (by simp)
theorem own_pn1 : plainName "java/lang/String" = true := by first | (simp [plainName, overriddenIn]; done) | decide +kernel
theorem own_ef7 (m : MethodId) (x0 : Addr) (x1 : Addr) : entryFrame m #[(.ref x0), (.ref x1)] 3 = mkF m 0 #[.val (.ref x0), .val (.ref x1), .unset] [] := by first | (simp [entryFrame, mkF, argsToLocals, Value.category]; done) | rfl
theorem own_d7_0 : decode jdk_42_method_66_code 0 = .ok (.aload_n 0, 1) := by decide +kernel
theorem own_d7_1 : decode jdk_42_method_66_code 1 = .ok (.aload_n 1, 1) := by decide +kernel
theorem own_d7_2 : decode jdk_42_method_66_code 2 = .ok (.if_acmp .ne 5, 3) := by decide +kernel
theorem own_d7_5 : decode jdk_42_method_66_code 5 = .ok (.iconst 1, 1) := by decide +kernel
theorem own_d7_6 : decode jdk_42_method_66_code 6 = .ok (.ireturn, 1) := by decide +kernel
def own_Q_own_seqs (Z : State) (a : Addr) (h0 : Heap) (n0 : Nat) (v : Option Value) (h : Heap) (L : List Loc) : Prop := v = some (.int (1 : Int32)) ∧ Fr n0 L ∧ h = h0
set_option maxRecDepth 65536 in
set_option maxHeartbeats 40000000 in
theorem own_seqs (l : Launch) (Z : State) (a0 : Array Value) (hw : ∀ d ∈ tables_1, d.before a0 Z = true) (ws : List Jvm.Cond) (a : Addr) (h0 : Heap) (n0 : Nat) (O0 : Old Z n0 h0) :
    MetFree l (⟨"java/lang/String", "equals", "(Ljava/lang/Object;)Z"⟩ : MethodName) (head1 (Jvm.Cond.code (⟨"java/lang/String", "equals", "(Ljava/lang/Object;)Z"⟩ : MethodName) jdk_42_method_66_code 3 (some .boolean) :: ws) ({ frames := 0, cells := 0, slots := 0, locals := 0 } : Room)) (fun args_ U => args_ = #[(.ref a), (.ref a)] ∧ Z.Warmed39 U.vm ∧ U.heap = h0) (fun _ _ _ _ _ => True) (fun _ U o U' => ∃ v L, o = .returned v ∧ (own_Q_own_seqs Z a h0 n0) v U'.heap L ∧ FrameEnd U o U' L ({ frames := 0, cells := 0, slots := 0, locals := 0 } : Room).cells ({ frames := 0, cells := 0, slots := 0, locals := 0 } : Room).slots) := by
  refine MetFree.of_bodySF (plainFor_of_name own_pn1) hisR ?_
  intro p e s m args below meth c s₁ Bd hml0 hP hK
  obtain ⟨rfl, hZ, hh⟩ := hP
  have hx := Bd.exec
  have hby := Bd.bytes
  have hml : c.maxLocals = 3 := hml0
  have hown : s.vm.findClass "java/lang/String" = some m.cls := findClass_of_methodNamed Bd.named
  have hnm := (name_of_methodNamed Bd.named Bd.method).1
  have X0 : Stand p l e ({ frames := 0, cells := 0, slots := 0, locals := 0 } : Room) s m #[(.ref a), (.ref a)] below meth c s₁ [] 0 0 := Stand.of_body Bd
  have e0 : s₁.heap = h0 := by rw [← hh, Bd.state]; rfl
  have N0 := Fr.nil n0
  refine own_close (s := s) (Q := (own_Q_own_seqs Z a h0 n0)) (C := (({ frames := 0, cells := 0, slots := 0, locals := 0 } : Room)).cells) (N := (({ frames := 0, cells := 0, slots := 0, locals := 0 } : Room)).slots) (own_st (fun _ kt => castTop (own_ef7 m a a) kt) ?_)
  show own_Rch p e below _ s₁ (mkF m 0 #[.val (.ref a), .val (.ref a), .unset] [])
  refine own_st (fun _ kt => XS.aloadN X0.here hx rfl (hb hby own_d7_0) rfl rfl  kt) ?_
  show own_Rch p e below _ s₁ (mkF m 1 #[.val (.ref a), .val (.ref a), .unset] [(.ref a)])
  refine own_st (fun _ kt => XS.aloadN X0.here hx rfl (hb hby own_d7_1) rfl rfl  kt) ?_
  show own_Rch p e below _ s₁ (mkF m 2 #[.val (.ref a), .val (.ref a), .unset] [(.ref a), (.ref a)])
  refine own_st (fun _ kt => Jvm.RoadKit.acmp (g := (mkF m 2 #[.val (.ref a), .val (.ref a), .unset] [(.ref a), (.ref a)])) X0 hx rfl rfl rfl (pc0 := 2) (pc' := 5) (same := true) rfl (hb hby own_d7_2) rfl (decide_eq_true rfl) (by decide) (by decide) kt) ?_
  show own_Rch p e below _ s₁ (mkF m 5 #[.val (.ref a), .val (.ref a), .unset] [])
  refine own_st (fun _ kt => XS.iconst X0.here hx rfl (hb hby own_d7_5) kt) ?_
  show own_Rch p e below _ s₁ (mkF m 6 #[.val (.ref a), .val (.ref a), .unset] [(.int (1 : Int32))])
  refine own_retN (t := .boolean) (by simp) X0 hx Bd.notSynchronized Bd.returns (hb hby own_d7_6) (by decide) (by decide) ?_
  rw [e0]
  exact ⟨rfl, N0, rfl⟩
theorem own_d7_7 : decode jdk_42_method_66_code 7 = .ok (.aload_n 1, 1) := by decide +kernel
theorem own_d7_8 : decode jdk_42_method_66_code 8 = .ok (.instanceof 10, 3) := by decide +kernel
theorem own_d7_11 : decode jdk_42_method_66_code 11 = .ok (.ifCond .eq 43, 3) := by decide +kernel
theorem own_d7_14 : decode jdk_42_method_66_code 14 = .ok (.aload_n 1, 1) := by decide +kernel
theorem own_d7_15 : decode jdk_42_method_66_code 15 = .ok (.checkcast 10, 3) := by decide +kernel
theorem own_d7_18 : decode jdk_42_method_66_code 18 = .ok (.astore_n 2, 1) := by decide +kernel
theorem own_d7_19 : decode jdk_42_method_66_code 19 = .ok (.getstatic 38, 3) := by decide +kernel
theorem own_d7_22 : decode jdk_42_method_66_code 22 = .ok (.ifCond .eq 14, 3) := by decide +kernel
theorem own_d7_25 : decode jdk_42_method_66_code 25 = .ok (.aload_n 0, 1) := by decide +kernel
theorem own_d7_26 : decode jdk_42_method_66_code 26 = .ok (.getfield 15, 3) := by decide +kernel
theorem own_d7_29 : decode jdk_42_method_66_code 29 = .ok (.aload_n 2, 1) := by decide +kernel
theorem own_d7_30 : decode jdk_42_method_66_code 30 = .ok (.getfield 15, 3) := by decide +kernel
theorem own_d7_33 : decode jdk_42_method_66_code 33 = .ok (.if_icmp .ne 21, 3) := by decide +kernel
theorem own_d7_36 : decode jdk_42_method_66_code 36 = .ok (.aload_n 0, 1) := by decide +kernel
theorem own_d7_37 : decode jdk_42_method_66_code 37 = .ok (.getfield 9, 3) := by decide +kernel
theorem own_d7_40 : decode jdk_42_method_66_code 40 = .ok (.aload_n 2, 1) := by decide +kernel
theorem own_d7_41 : decode jdk_42_method_66_code 41 = .ok (.getfield 9, 3) := by decide +kernel
theorem own_d7_44 : decode jdk_42_method_66_code 44 = .ok (.invokestatic 541, 3) := by decide +kernel
theorem own_pd0 : parseMethodDescriptor "([B[B)Z" = some ⟨[(.array .byte), (.array .byte)], some .boolean⟩ := by decide +kernel
theorem own_d7_47 : decode jdk_42_method_66_code 47 = .ok (.ifCond .eq 7, 3) := by decide +kernel
theorem own_d7_54 : decode jdk_42_method_66_code 54 = .ok (.iconst 0, 1) := by decide +kernel
theorem own_d7_55 : decode jdk_42_method_66_code 55 = .ok (.ireturn, 1) := by decide +kernel
theorem own_d7_50 : decode jdk_42_method_66_code 50 = .ok (.iconst 1, 1) := by decide +kernel
theorem own_d7_51 : decode jdk_42_method_66_code 51 = .ok (.goto 4, 3) := by decide +kernel
def own_Q_own_seq (Z : State) (a : Addr) (b : Addr) (ya : Addr) (yb : Addr) (ka : ClassId) (kb : ClassId) (l1 : List Int32) (l2 : List Int32) (cs : Int32) (h0 : Heap) (n0 : Nat) (v : Option Value) (h : Heap) (L : List Loc) : Prop := v = some (.int (own_eqs l1 l2)) ∧ Fr n0 L ∧ h = h0
set_option maxRecDepth 65536 in
set_option maxHeartbeats 40000000 in
theorem own_seq (l : Launch) (Z : State) (a0 : Array Value) (hw : ∀ d ∈ tables_1, d.before a0 Z = true) (ws : List Jvm.Cond) (a : Addr) (b : Addr) (ya : Addr) (yb : Addr) (ka : ClassId) (kb : ClassId) (l1 : List Int32) (l2 : List Int32) (cs : Int32) (h0 : Heap) (n0 : Nat) (O0 : Old Z n0 h0) (SC : Sta Z Z.heap "java/lang/String" "COMPACT_STRINGS" "Z" (.int cs)) (hcs : ¬ cs = 0) (E1 : Exa Z h0 a "java/lang/String") (F1 : Fld Z h0 a "java/lang/String" "value" "[B" (.ref ya)) (G1 : Fld Z h0 a "java/lang/String" "coder" "B" (.int (0 : Int32))) (V1 : Arv Z h0 ya ka .byte (own_len l1) (l1.map Value.int) (.int (0 : Int32))) (g1 : l1.length ≤ 2) (E2 : Exa Z h0 b "java/lang/String") (F2 : Fld Z h0 b "java/lang/String" "value" "[B" (.ref yb)) (G2 : Fld Z h0 b "java/lang/String" "coder" "B" (.int (0 : Int32))) (V2 : Arv Z h0 yb kb .byte (own_len l2) (l2.map Value.int) (.int (0 : Int32))) (g2 : l2.length ≤ 2) (hab : a ≠ b) :
    MetFree l (⟨"java/lang/String", "equals", "(Ljava/lang/Object;)Z"⟩ : MethodName) (head1 (Jvm.Cond.code (⟨"java/lang/String", "equals", "(Ljava/lang/Object;)Z"⟩ : MethodName) jdk_42_method_66_code 3 (some .boolean) :: ws) ({ frames := 1, cells := 0, slots := 0, locals := 14 } : Room)) (fun args_ U => args_ = #[(.ref a), (.ref b)] ∧ Z.Warmed39 U.vm ∧ U.heap = h0) (fun _ _ _ _ _ => True) (fun _ U o U' => ∃ v L, o = .returned v ∧ (own_Q_own_seq Z a b ya yb ka kb l1 l2 cs h0 n0) v U'.heap L ∧ FrameEnd U o U' L ({ frames := 1, cells := 0, slots := 0, locals := 14 } : Room).cells ({ frames := 1, cells := 0, slots := 0, locals := 14 } : Room).slots) := by
  refine MetFree.of_bodySF (plainFor_of_name own_pn1) hisR ?_
  intro p e s m args below meth c s₁ Bd hml0 hP hK
  obtain ⟨rfl, hZ, hh⟩ := hP
  have hx := Bd.exec
  have hby := Bd.bytes
  have hml : c.maxLocals = 3 := hml0
  have hown : s.vm.findClass "java/lang/String" = some m.cls := findClass_of_methodNamed Bd.named
  have hnm := (name_of_methodNamed Bd.named Bd.method).1
  have X0 : Stand p l e ({ frames := 1, cells := 0, slots := 0, locals := 14 } : Room) s m #[(.ref a), (.ref b)] below meth c s₁ [] 0 0 := Stand.of_body Bd
  have e0 : s₁.heap = h0 := by rw [← hh, Bd.state]; rfl
  have N0 := Fr.nil n0
  refine own_close (s := s) (Q := (own_Q_own_seq Z a b ya yb ka kb l1 l2 cs h0 n0)) (C := (({ frames := 1, cells := 0, slots := 0, locals := 14 } : Room)).cells) (N := (({ frames := 1, cells := 0, slots := 0, locals := 14 } : Room)).slots) (own_st (fun _ kt => castTop (own_ef7 m a b) kt) ?_)
  show own_Rch p e below _ s₁ (mkF m 0 #[.val (.ref a), .val (.ref b), .unset] [])
  refine own_st (fun _ kt => XS.aloadN X0.here hx rfl (hb hby own_d7_0) rfl rfl  kt) ?_
  show own_Rch p e below _ s₁ (mkF m 1 #[.val (.ref a), .val (.ref b), .unset] [(.ref a)])
  refine own_st (fun _ kt => XS.aloadN X0.here hx rfl (hb hby own_d7_1) rfl rfl  kt) ?_
  show own_Rch p e below _ s₁ (mkF m 2 #[.val (.ref a), .val (.ref b), .unset] [(.ref b), (.ref a)])
  refine own_st (fun _ kt => Jvm.RoadKit.acmp (g := (mkF m 2 #[.val (.ref a), .val (.ref b), .unset] [(.ref b), (.ref a)])) X0 hx rfl rfl rfl (pc0 := 2) (pc' := 7) (same := false) rfl (hb hby own_d7_2) rfl (decide_eq_false fun q => hab (Value.ref.inj q)) (by decide) (by decide) kt) ?_
  show own_Rch p e below _ s₁ (mkF m 7 #[.val (.ref a), .val (.ref b), .unset] [])
  refine own_st (fun _ kt => XS.aloadN X0.here hx rfl (hb hby own_d7_7) rfl rfl  kt) ?_
  show own_Rch p e below _ s₁ (mkF m 8 #[.val (.ref a), .val (.ref b), .unset] [(.ref b)])
  obtain ⟨T1, X1, e1, st1⟩ := instY X0 hx hZ hown (hw _ (List.mem_of_getElem? (i := 47) rfl)) e0 (Ins.self E2) (g := (mkF m 8 #[.val (.ref a), .val (.ref b), .unset] [(.ref b)])) rfl rfl (hb hby own_d7_8)
  refine own_st st1 ?_
  show own_Rch p e below _ T1 (mkF m 11 #[.val (.ref a), .val (.ref b), .unset] [(.int (1 : Int32))])
  refine own_st (fun _ kt => XS.ifNo X1.here hx rfl (hb hby own_d7_11) rfl ((if0 _ _).trans (feq ((by decide) : ¬ ((1 : Int32) = (0 : Int32)))).1) kt) ?_
  show own_Rch p e below _ T1 (mkF m 14 #[.val (.ref a), .val (.ref b), .unset] [])
  refine own_st (fun _ kt => XS.aloadN X1.here hx rfl (hb hby own_d7_14) rfl rfl  kt) ?_
  show own_Rch p e below _ T1 (mkF m 15 #[.val (.ref a), .val (.ref b), .unset] [(.ref b)])
  obtain ⟨T2, X2, e2, st2⟩ := castY X1 hx hZ hown (hw _ (List.mem_of_getElem? (i := 47) rfl)) e1 (Ins.self E2) (g := (mkF m 15 #[.val (.ref a), .val (.ref b), .unset] [(.ref b)])) rfl rfl (hb hby own_d7_15)
  refine own_st st2 ?_
  show own_Rch p e below _ T2 (mkF m 18 #[.val (.ref a), .val (.ref b), .unset] [(.ref b)])
  refine own_st (fun _ kt => XS.astoreN X2.here hx rfl (hb hby own_d7_18) rfl rfl (l' := #[.val (.ref a), .val (.ref b), .val (.ref b)]) rfl kt) ?_
  show own_Rch p e below _ T2 (mkF m 19 #[.val (.ref a), .val (.ref b), .val (.ref b)] [])
  obtain ⟨T3, X3, e3, st3⟩ := getS2 X2 hx hZ hown (host := "") (Or.inl (hw _ (List.mem_of_getElem? (i := 48) rfl))) Via.refl e2 (SC.ext O0.2) (g := (mkF m 19 #[.val (.ref a), .val (.ref b), .val (.ref b)] [])) rfl (hb hby own_d7_19)
  refine own_st st3 ?_
  show own_Rch p e below _ T3 (mkF m 22 #[.val (.ref a), .val (.ref b), .val (.ref b)] [(.int cs)])
  refine own_st (fun _ kt => XS.ifNo X3.here hx rfl (hb hby own_d7_22) rfl ((if0 _ _).trans (feq (hcs : ¬ (cs = (0 : Int32)))).1) kt) ?_
  show own_Rch p e below _ T3 (mkF m 25 #[.val (.ref a), .val (.ref b), .val (.ref b)] [])
  refine own_st (fun _ kt => XS.aloadN X3.here hx rfl (hb hby own_d7_25) rfl rfl  kt) ?_
  show own_Rch p e below _ T3 (mkF m 26 #[.val (.ref a), .val (.ref b), .val (.ref b)] [(.ref a)])
  obtain ⟨T4, X4, e4, st4⟩ := getF X3 hx hZ hown (host := "") (Or.inl (hw _ (List.mem_of_getElem? (i := 25) rfl))) Via.refl e3 G1 (g := (mkF m 26 #[.val (.ref a), .val (.ref b), .val (.ref b)] [(.ref a)])) rfl rfl (hb hby own_d7_26)
  refine own_st st4 ?_
  show own_Rch p e below _ T4 (mkF m 29 #[.val (.ref a), .val (.ref b), .val (.ref b)] [(.int (0 : Int32))])
  refine own_st (fun _ kt => XS.aloadN X4.here hx rfl (hb hby own_d7_29) rfl rfl  kt) ?_
  show own_Rch p e below _ T4 (mkF m 30 #[.val (.ref a), .val (.ref b), .val (.ref b)] [(.ref b), (.int (0 : Int32))])
  obtain ⟨T5, X5, e5, st5⟩ := getF X4 hx hZ hown (host := "") (Or.inl (hw _ (List.mem_of_getElem? (i := 25) rfl))) Via.refl e4 G2 (g := (mkF m 30 #[.val (.ref a), .val (.ref b), .val (.ref b)] [(.ref b), (.int (0 : Int32))])) rfl rfl (hb hby own_d7_30)
  refine own_st st5 ?_
  show own_Rch p e below _ T5 (mkF m 33 #[.val (.ref a), .val (.ref b), .val (.ref b)] [(.int (0 : Int32)), (.int (0 : Int32))])
  refine own_st (fun _ kt => XS.icmpNo X5.here hx rfl (hb hby own_d7_33) rfl (teq (rfl : (0 : Int32) = (0 : Int32))).2 kt) ?_
  show own_Rch p e below _ T5 (mkF m 36 #[.val (.ref a), .val (.ref b), .val (.ref b)] [])
  refine own_st (fun _ kt => XS.aloadN X5.here hx rfl (hb hby own_d7_36) rfl rfl  kt) ?_
  show own_Rch p e below _ T5 (mkF m 37 #[.val (.ref a), .val (.ref b), .val (.ref b)] [(.ref a)])
  obtain ⟨T6, X6, e6, st6⟩ := getF X5 hx hZ hown (host := "") (Or.inl (hw _ (List.mem_of_getElem? (i := 24) rfl))) Via.refl e5 F1 (g := (mkF m 37 #[.val (.ref a), .val (.ref b), .val (.ref b)] [(.ref a)])) rfl rfl (hb hby own_d7_37)
  refine own_st st6 ?_
  show own_Rch p e below _ T6 (mkF m 40 #[.val (.ref a), .val (.ref b), .val (.ref b)] [(.ref ya)])
  refine own_st (fun _ kt => XS.aloadN X6.here hx rfl (hb hby own_d7_40) rfl rfl  kt) ?_
  show own_Rch p e below _ T6 (mkF m 41 #[.val (.ref a), .val (.ref b), .val (.ref b)] [(.ref b), (.ref ya)])
  obtain ⟨T7, X7, e7, st7⟩ := getF X6 hx hZ hown (host := "") (Or.inl (hw _ (List.mem_of_getElem? (i := 24) rfl))) Via.refl e6 F2 (g := (mkF m 41 #[.val (.ref a), .val (.ref b), .val (.ref b)] [(.ref b), (.ref ya)])) rfl rfl (hb hby own_d7_41)
  refine own_st st7 ?_
  show own_Rch p e below _ T7 (mkF m 44 #[.val (.ref a), .val (.ref b), .val (.ref b)] [(.ref yb), (.ref ya)])
  obtain ⟨_, _, ⟨T8, L8, k8, n8⟩, -, X8, ⟨Lc8, hQ8, l8, y8, z8⟩, st8⟩ := Jvm.LawKit.callS X7 hx (y := (⟨"java/lang/StringLatin1", "equals", "([B[B)Z"⟩ : MethodName)) hown (mvT hZ (hw _ (List.mem_of_getElem? (i := 49) rfl))) (mvT hZ (hw _ (List.mem_of_getElem? (i := 50) rfl))) (mvT hZ (hw _ (List.mem_of_getElem? (i := 51) rfl))) (mvT hZ (hw _ (List.mem_of_getElem? (i := 52) rfl))) (by decide) (backOf (W := 0) (own_leq l Z a0 hw [] ya yb ka kb l1 l2 h0 n0 O0 V1 V2 g1 g2) hZ (hw _ (List.mem_of_getElem? (i := 52) rfl)) (hw _ (List.mem_of_getElem? (i := 51) rfl)) (by decide) (by decide)) (g := (mkF m 44 #[.val (.ref a), .val (.ref b), .val (.ref b)] [(.ref yb), (.ref ya)])) rfl (by rw [hml]; rfl) (argsL := [(.ref ya), (.ref yb)]) (rest := []) (lenOf own_pd0 rfl) rfl (by show 2 * 0 + _ ≤ _; exact Nat.le_of_eq rfl) (hb hby own_d7_44) (fun _ _ => ⟨rfl, e7, (by decide : 0 + 0 ≤ _), (by decide : 0 + 0 ≤ _)⟩)
  dsimp only [Pt.U, Pt.locs, Pt.cells, Pt.slots] at X8 l8 y8 z8 st8 hQ8
  subst l8 y8 z8
  obtain ⟨rfl, N8q, hh8⟩ := hQ8
  have N8 := Fr.app N0 N8q
  refine own_st st8 ?_
  show own_Rch p e below _ T8 (mkF m 47 #[.val (.ref a), .val (.ref b), .val (.ref b)] [(.int (own_eqs l1 l2))])
  by_cases hc47_9 : (own_eqs l1 l2) = (0 : Int32)
  · -- pc 47: True
    refine own_st (fun _ kt => XS.ifYes X8.here hx rfl (pc0 := 47) (pc' := 54) rfl (hb hby own_d7_47) rfl ((if0 _ _).trans (teq hc47_9).1) (by decide) (by decide) kt) ?_
    show own_Rch p e below _ T8 (mkF m 54 #[.val (.ref a), .val (.ref b), .val (.ref b)] [])
    refine own_st (fun _ kt => XS.iconst X8.here hx rfl (hb hby own_d7_54) kt) ?_
    show own_Rch p e below _ T8 (mkF m 55 #[.val (.ref a), .val (.ref b), .val (.ref b)] [(.int (0 : Int32))])
    refine own_retN (t := .boolean) (by simp) X8 hx Bd.notSynchronized Bd.returns (hb hby own_d7_55) (by decide) (by decide) ?_
    rw [hh8]
    exact ⟨by simp only [own_eqs] at hc47_9 ⊢; simp only [nar]; split at hc47_9 <;> simp_all, N8, rfl⟩
  · -- pc 47: False
    refine own_st (fun _ kt => XS.ifNo X8.here hx rfl (hb hby own_d7_47) rfl ((if0 _ _).trans (feq hc47_9).1) kt) ?_
    show own_Rch p e below _ T8 (mkF m 50 #[.val (.ref a), .val (.ref b), .val (.ref b)] [])
    refine own_st (fun _ kt => XS.iconst X8.here hx rfl (hb hby own_d7_50) kt) ?_
    show own_Rch p e below _ T8 (mkF m 51 #[.val (.ref a), .val (.ref b), .val (.ref b)] [(.int (1 : Int32))])
    refine own_st (fun _ kt => XS.goto X8.here hx rfl (pc0 := 51) (pc' := 55) rfl (hb hby own_d7_51) (by decide) (by decide) kt) ?_
    show own_Rch p e below _ T8 (mkF m 55 #[.val (.ref a), .val (.ref b), .val (.ref b)] [(.int (1 : Int32))])
    refine own_retN (t := .boolean) (by simp) X8 hx Bd.notSynchronized Bd.returns (hb hby own_d7_55) (by decide) (by decide) ?_
    rw [hh8]
    exact ⟨by simp only [own_eqs] at hc47_9 ⊢; simp only [nar]; split at hc47_9 <;> simp_all, N8, rfl⟩
theorem own_pn2 : plainName "com/example/drawdown/drawdown/input/TomlFloat" = true := by first | (simp [plainName, overriddenIn]; done) | decide +kernel
theorem own_ef5 (m : MethodId) (x0 : Addr) (x1 : Addr) : entryFrame m #[(.ref x0), (.ref x1)] 2 = mkF m 0 #[.val (.ref x0), .val (.ref x1)] [] := by first | (simp [entryFrame, mkF, argsToLocals, Value.category]; done) | rfl
theorem own_d5_0 : decode prog_30_method_1_code 0 = .ok (.aload_n 0, 1) := by decide +kernel
theorem own_d5_1 : decode prog_30_method_1_code 1 = .ok (.invokespecial 1, 3) := by decide +kernel
theorem own_d5_4 : decode prog_30_method_1_code 4 = .ok (.aload_n 0, 1) := by decide +kernel
theorem own_d5_5 : decode prog_30_method_1_code 5 = .ok (.aload_n 1, 1) := by decide +kernel
theorem own_d5_6 : decode prog_30_method_1_code 6 = .ok (.putfield 7, 3) := by decide +kernel
theorem own_d5_9 : decode prog_30_method_1_code 9 = .ok (.return_, 1) := by decide +kernel
def own_Q_own_tinit (Z : State) (a : Addr) (x : Addr) (h0 : Heap) (n0 : Nat) (v : Option Value) (h : Heap) (L : List Loc) : Prop := v = none ∧ Fr n0 L ∧ Keep h0 h [a] ∧ Exa Z h a "com/example/drawdown/drawdown/input/TomlFloat" ∧ Fld Z h a "com/example/drawdown/drawdown/input/TomlFloat" "text" "Ljava/lang/String;" (.ref x)
set_option maxRecDepth 65536 in
set_option maxHeartbeats 40000000 in
theorem own_tinit (l : Launch) (Z : State) (a0 : Array Value) (hw : ∀ d ∈ tables_1, d.before a0 Z = true) (ws : List Jvm.Cond) (a : Addr) (x : Addr) (h0 : Heap) (n0 : Nat) (O0 : Old Z n0 h0) (EA : Exa Z h0 a "com/example/drawdown/drawdown/input/TomlFloat") (FT : Fld Z h0 a "com/example/drawdown/drawdown/input/TomlFloat" "text" "Ljava/lang/String;" .null) (ga : n0 ≤ a) :
    MetFree l (⟨"com/example/drawdown/drawdown/input/TomlFloat", "<init>", "(Ljava/lang/String;)V"⟩ : MethodName) (head1 (Jvm.Cond.code (⟨"com/example/drawdown/drawdown/input/TomlFloat", "<init>", "(Ljava/lang/String;)V"⟩ : MethodName) prog_30_method_1_code 2 none :: ws) ({ frames := 1, cells := 0, slots := 0, locals := 12 } : Room)) (fun args_ U => args_ = #[(.ref a), (.ref x)] ∧ Z.Warmed39 U.vm ∧ U.heap = h0) (fun _ _ _ _ _ => True) (fun _ U o U' => ∃ v L, o = .returned v ∧ (own_Q_own_tinit Z a x h0 n0) v U'.heap L ∧ FrameEnd U o U' L ({ frames := 1, cells := 0, slots := 0, locals := 12 } : Room).cells ({ frames := 1, cells := 0, slots := 0, locals := 12 } : Room).slots) := by
  refine MetFree.of_bodySF (plainFor_of_name own_pn2) hisR ?_
  intro p e s m args below meth c s₁ Bd hml0 hP hK
  obtain ⟨rfl, hZ, hh⟩ := hP
  have hx := Bd.exec
  have hby := Bd.bytes
  have hml : c.maxLocals = 2 := hml0
  have hown : s.vm.findClass "com/example/drawdown/drawdown/input/TomlFloat" = some m.cls := findClass_of_methodNamed Bd.named
  have hnm := (name_of_methodNamed Bd.named Bd.method).1
  have X0 : Stand p l e ({ frames := 1, cells := 0, slots := 0, locals := 12 } : Room) s m #[(.ref a), (.ref x)] below meth c s₁ [] 0 0 := Stand.of_body Bd
  have e0 : s₁.heap = h0 := by rw [← hh, Bd.state]; rfl
  have N0 := Fr.nil n0
  refine own_close (s := s) (Q := (own_Q_own_tinit Z a x h0 n0)) (C := (({ frames := 1, cells := 0, slots := 0, locals := 12 } : Room)).cells) (N := (({ frames := 1, cells := 0, slots := 0, locals := 12 } : Room)).slots) (own_st (fun _ kt => castTop (own_ef5 m a x) kt) ?_)
  have K0 := Keep.refl h0 [a]
  show own_Rch p e below _ s₁ (mkF m 0 #[.val (.ref a), .val (.ref x)] [])
  refine own_st (fun _ kt => XS.aloadN X0.here hx rfl (hb hby own_d5_0) rfl rfl  kt) ?_
  show own_Rch p e below _ s₁ (mkF m 1 #[.val (.ref a), .val (.ref x)] [(.ref a)])
  obtain ⟨T1, X1, e1, st1⟩ := initO X0 hx hZ hown (hw _ (List.mem_of_getElem? (i := 32) rfl)) (hw _ (List.mem_of_getElem? (i := 16) rfl)) (hw _ (List.mem_of_getElem? (i := 17) rfl)) e0 (g := (mkF m 1 #[.val (.ref a), .val (.ref x)] [(.ref a)])) rfl (by rw [hml]; rfl) rfl (hb hby own_d5_1) (by decide) (W := 0) (by show 2 * 0 + _ ≤ _; exact Nat.le_of_eq rfl) (by decide)
  refine own_st st1 ?_
  show own_Rch p e below _ T1 (mkF m 4 #[.val (.ref a), .val (.ref x)] [])
  refine own_st (fun _ kt => XS.aloadN X1.here hx rfl (hb hby own_d5_4) rfl rfl  kt) ?_
  show own_Rch p e below _ T1 (mkF m 5 #[.val (.ref a), .val (.ref x)] [(.ref a)])
  refine own_st (fun _ kt => XS.aloadN X1.here hx rfl (hb hby own_d5_5) rfl rfl  kt) ?_
  show own_Rch p e below _ T1 (mkF m 6 #[.val (.ref a), .val (.ref x)] [(.ref x), (.ref a)])
  obtain ⟨T2, h2, X2, e2, W2, st2⟩ := putF X1 hx hZ hown (host := "") (Or.inl (hw _ (List.mem_of_getElem? (i := 33) rfl))) Via.refl e1 FT EA (Or.inr ⟨(hw _ (List.mem_of_getElem? (i := 34) rfl)), rfl, hnm⟩) (hw _ (List.mem_of_getElem? (i := 27) rfl)) (ty := (.object "java/lang/String")) (by decide) rfl rfl (g := (mkF m 6 #[.val (.ref a), .val (.ref x)] [(.ref x), (.ref a)])) rfl rfl (hb hby own_d5_6)
  refine own_st st2 ?_
  have Fw2 := FT.same W2
  have N2 := Fr.snoc X2 N0 ga
  have O0_x2 := O0.wr W2 ga
  have EA_x2 := EA.wr W2
  have K0_x2 := K0.wr W2 (Or.inl (List.mem_of_getElem? (i := 0) rfl))
  show own_Rch p e below _ T2 (mkF m 9 #[.val (.ref a), .val (.ref x)] [])
  refine own_retV X2 hx Bd.notSynchronized Bd.returns (hb hby own_d5_9) (by decide) (by decide) ?_
  rw [e2]
  exact ⟨rfl, N2, K0_x2, EA_x2, Fw2⟩
theorem own_ef6 (m : MethodId) (x0 : Addr) (x1 : Addr) : entryFrame m #[(.ref x0), (.ref x1)] 3 = mkF m 0 #[.val (.ref x0), .val (.ref x1), .unset] [] := by first | (simp [entryFrame, mkF, argsToLocals, Value.category]; done) | rfl
theorem own_d6_0 : decode prog_30_method_2_code 0 = .ok (.aload_n 1, 1) := by decide +kernel
theorem own_d6_1 : decode prog_30_method_2_code 1 = .ok (.instanceof 8, 3) := by decide +kernel
theorem own_d6_4 : decode prog_30_method_2_code 4 = .ok (.ifCond .eq 26, 3) := by decide +kernel
theorem own_d6_7 : decode prog_30_method_2_code 7 = .ok (.aload_n 1, 1) := by decide +kernel
theorem own_d6_8 : decode prog_30_method_2_code 8 = .ok (.checkcast 8, 3) := by decide +kernel
theorem own_d6_11 : decode prog_30_method_2_code 11 = .ok (.astore_n 2, 1) := by decide +kernel
theorem own_d6_12 : decode prog_30_method_2_code 12 = .ok (.aload_n 2, 1) := by decide +kernel
theorem own_d6_13 : decode prog_30_method_2_code 13 = .ok (.getfield 7, 3) := by decide +kernel
theorem own_d6_16 : decode prog_30_method_2_code 16 = .ok (.aload_n 0, 1) := by decide +kernel
theorem own_d6_17 : decode prog_30_method_2_code 17 = .ok (.getfield 7, 3) := by decide +kernel
theorem own_d6_20 : decode prog_30_method_2_code 20 = .ok (.invokevirtual 13, 3) := by decide +kernel
theorem own_pd1 : parseMethodDescriptor "(Ljava/lang/Object;)Z" = some ⟨[(.object "java/lang/Object")], some .boolean⟩ := by decide +kernel
theorem own_d6_23 : decode prog_30_method_2_code 23 = .ok (.ifCond .eq 7, 3) := by decide +kernel
theorem own_d6_30 : decode prog_30_method_2_code 30 = .ok (.iconst 0, 1) := by decide +kernel
theorem own_d6_31 : decode prog_30_method_2_code 31 = .ok (.ireturn, 1) := by decide +kernel
theorem own_d6_26 : decode prog_30_method_2_code 26 = .ok (.iconst 1, 1) := by decide +kernel
theorem own_d6_27 : decode prog_30_method_2_code 27 = .ok (.goto 4, 3) := by decide +kernel
def own_Q_own_teq (Z : State) (x : Addr) (y : Addr) (a : Addr) (b : Addr) (ya : Addr) (yb : Addr) (ka : ClassId) (kb : ClassId) (l1 : List Int32) (l2 : List Int32) (cs : Int32) (h0 : Heap) (n0 : Nat) (v : Option Value) (h : Heap) (L : List Loc) : Prop := v = some (.int (own_eqs l2 l1)) ∧ Fr n0 L ∧ h = h0
set_option maxRecDepth 65536 in
set_option maxHeartbeats 40000000 in
theorem own_teq (l : Launch) (Z : State) (a0 : Array Value) (hw : ∀ d ∈ tables_1, d.before a0 Z = true) (ws : List Jvm.Cond) (x : Addr) (y : Addr) (a : Addr) (b : Addr) (ya : Addr) (yb : Addr) (ka : ClassId) (kb : ClassId) (l1 : List Int32) (l2 : List Int32) (cs : Int32) (h0 : Heap) (n0 : Nat) (O0 : Old Z n0 h0) (SC : Sta Z Z.heap "java/lang/String" "COMPACT_STRINGS" "Z" (.int cs)) (hcs : ¬ cs = 0) (TE1 : Exa Z h0 x "com/example/drawdown/drawdown/input/TomlFloat") (TU1 : Fld Z h0 x "com/example/drawdown/drawdown/input/TomlFloat" "text" "Ljava/lang/String;" (.ref a)) (TE2 : Exa Z h0 y "com/example/drawdown/drawdown/input/TomlFloat") (TU2 : Fld Z h0 y "com/example/drawdown/drawdown/input/TomlFloat" "text" "Ljava/lang/String;" (.ref b)) (E1 : Exa Z h0 a "java/lang/String") (F1 : Fld Z h0 a "java/lang/String" "value" "[B" (.ref ya)) (G1 : Fld Z h0 a "java/lang/String" "coder" "B" (.int (0 : Int32))) (V1 : Arv Z h0 ya ka .byte (own_len l1) (l1.map Value.int) (.int (0 : Int32))) (g1 : l1.length ≤ 2) (E2 : Exa Z h0 b "java/lang/String") (F2 : Fld Z h0 b "java/lang/String" "value" "[B" (.ref yb)) (G2 : Fld Z h0 b "java/lang/String" "coder" "B" (.int (0 : Int32))) (V2 : Arv Z h0 yb kb .byte (own_len l2) (l2.map Value.int) (.int (0 : Int32))) (g2 : l2.length ≤ 2) (hab : a ≠ b) :
    MetFree l (⟨"com/example/drawdown/drawdown/input/TomlFloat", "equals", "(Ljava/lang/Object;)Z"⟩ : MethodName) (head1 (Jvm.Cond.code (⟨"com/example/drawdown/drawdown/input/TomlFloat", "equals", "(Ljava/lang/Object;)Z"⟩ : MethodName) prog_30_method_2_code 3 (some .boolean) :: ws) ({ frames := 2, cells := 0, slots := 0, locals := 28 } : Room)) (fun args_ U => args_ = #[(.ref x), (.ref y)] ∧ Z.Warmed39 U.vm ∧ U.heap = h0) (fun _ _ _ _ _ => True) (fun _ U o U' => ∃ v L, o = .returned v ∧ (own_Q_own_teq Z x y a b ya yb ka kb l1 l2 cs h0 n0) v U'.heap L ∧ FrameEnd U o U' L ({ frames := 2, cells := 0, slots := 0, locals := 28 } : Room).cells ({ frames := 2, cells := 0, slots := 0, locals := 28 } : Room).slots) := by
  refine MetFree.of_bodySF (plainFor_of_name own_pn2) hisR ?_
  intro p e s m args below meth c s₁ Bd hml0 hP hK
  obtain ⟨rfl, hZ, hh⟩ := hP
  have hx := Bd.exec
  have hby := Bd.bytes
  have hml : c.maxLocals = 3 := hml0
  have hown : s.vm.findClass "com/example/drawdown/drawdown/input/TomlFloat" = some m.cls := findClass_of_methodNamed Bd.named
  have hnm := (name_of_methodNamed Bd.named Bd.method).1
  have X0 : Stand p l e ({ frames := 2, cells := 0, slots := 0, locals := 28 } : Room) s m #[(.ref x), (.ref y)] below meth c s₁ [] 0 0 := Stand.of_body Bd
  have e0 : s₁.heap = h0 := by rw [← hh, Bd.state]; rfl
  have N0 := Fr.nil n0
  refine own_close (s := s) (Q := (own_Q_own_teq Z x y a b ya yb ka kb l1 l2 cs h0 n0)) (C := (({ frames := 2, cells := 0, slots := 0, locals := 28 } : Room)).cells) (N := (({ frames := 2, cells := 0, slots := 0, locals := 28 } : Room)).slots) (own_st (fun _ kt => castTop (own_ef6 m x y) kt) ?_)
  show own_Rch p e below _ s₁ (mkF m 0 #[.val (.ref x), .val (.ref y), .unset] [])
  refine own_st (fun _ kt => XS.aloadN X0.here hx rfl (hb hby own_d6_0) rfl rfl  kt) ?_
  show own_Rch p e below _ s₁ (mkF m 1 #[.val (.ref x), .val (.ref y), .unset] [(.ref y)])
  obtain ⟨T1, X1, e1, st1⟩ := instY X0 hx hZ hown (hw _ (List.mem_of_getElem? (i := 40) rfl)) e0 (Ins.self TE2) (g := (mkF m 1 #[.val (.ref x), .val (.ref y), .unset] [(.ref y)])) rfl rfl (hb hby own_d6_1)
  refine own_st st1 ?_
  show own_Rch p e below _ T1 (mkF m 4 #[.val (.ref x), .val (.ref y), .unset] [(.int (1 : Int32))])
  refine own_st (fun _ kt => XS.ifNo X1.here hx rfl (hb hby own_d6_4) rfl ((if0 _ _).trans (feq ((by decide) : ¬ ((1 : Int32) = (0 : Int32)))).1) kt) ?_
  show own_Rch p e below _ T1 (mkF m 7 #[.val (.ref x), .val (.ref y), .unset] [])
  refine own_st (fun _ kt => XS.aloadN X1.here hx rfl (hb hby own_d6_7) rfl rfl  kt) ?_
  show own_Rch p e below _ T1 (mkF m 8 #[.val (.ref x), .val (.ref y), .unset] [(.ref y)])
  obtain ⟨T2, X2, e2, st2⟩ := castY X1 hx hZ hown (hw _ (List.mem_of_getElem? (i := 40) rfl)) e1 (Ins.self TE2) (g := (mkF m 8 #[.val (.ref x), .val (.ref y), .unset] [(.ref y)])) rfl rfl (hb hby own_d6_8)
  refine own_st st2 ?_
  show own_Rch p e below _ T2 (mkF m 11 #[.val (.ref x), .val (.ref y), .unset] [(.ref y)])
  refine own_st (fun _ kt => XS.astoreN X2.here hx rfl (hb hby own_d6_11) rfl rfl (l' := #[.val (.ref x), .val (.ref y), .val (.ref y)]) rfl kt) ?_
  show own_Rch p e below _ T2 (mkF m 12 #[.val (.ref x), .val (.ref y), .val (.ref y)] [])
  refine own_st (fun _ kt => XS.aloadN X2.here hx rfl (hb hby own_d6_12) rfl rfl  kt) ?_
  show own_Rch p e below _ T2 (mkF m 13 #[.val (.ref x), .val (.ref y), .val (.ref y)] [(.ref y)])
  obtain ⟨T3, X3, e3, st3⟩ := getF X2 hx hZ hown (host := "") (Or.inl (hw _ (List.mem_of_getElem? (i := 33) rfl))) Via.refl e2 TU2 (g := (mkF m 13 #[.val (.ref x), .val (.ref y), .val (.ref y)] [(.ref y)])) rfl rfl (hb hby own_d6_13)
  refine own_st st3 ?_
  show own_Rch p e below _ T3 (mkF m 16 #[.val (.ref x), .val (.ref y), .val (.ref y)] [(.ref b)])
  refine own_st (fun _ kt => XS.aloadN X3.here hx rfl (hb hby own_d6_16) rfl rfl  kt) ?_
  show own_Rch p e below _ T3 (mkF m 17 #[.val (.ref x), .val (.ref y), .val (.ref y)] [(.ref x), (.ref b)])
  obtain ⟨T4, X4, e4, st4⟩ := getF X3 hx hZ hown (host := "") (Or.inl (hw _ (List.mem_of_getElem? (i := 33) rfl))) Via.refl e3 TU1 (g := (mkF m 17 #[.val (.ref x), .val (.ref y), .val (.ref y)] [(.ref x), (.ref b)])) rfl rfl (hb hby own_d6_17)
  refine own_st st4 ?_
  show own_Rch p e below _ T4 (mkF m 20 #[.val (.ref x), .val (.ref y), .val (.ref y)] [(.ref a), (.ref b)])
  obtain ⟨cq5, kq5, q5a, q5b, q5c⟩ := isOf hZ e4 E2
  obtain ⟨_, _, ⟨T5, L5, k5, n5⟩, -, X5, ⟨Lc5, hQ5, l5, y5, z5⟩, st5⟩ := X4.virtualBack hx (y := (⟨"java/lang/String", "equals", "(Ljava/lang/Object;)Z"⟩ : MethodName)) (z := (⟨"java/lang/String", "equals", "(Ljava/lang/Object;)Z"⟩ : MethodName)) hown (mvT hZ (hw _ (List.mem_of_getElem? (i := 42) rfl))) (mvT hZ (hw _ (List.mem_of_getElem? (i := 43) rfl))) (notFace_of_selects (args := #[]) (mvT hZ (hw _ (List.mem_of_getElem? (i := 45) rfl)))) (mvT hZ (hw _ (List.mem_of_getElem? (i := 45) rfl))) (mvT hZ (hw _ (List.mem_of_getElem? (i := 44) rfl))) (by decide) (backOf (W := 0) (own_seq l Z a0 hw [] b a yb ya kb ka l2 l1 cs h0 n0 O0 SC hcs E2 F2 G2 V2 g2 E1 F1 G1 V1 g1 (Ne.symm hab)) hZ (hw _ (List.mem_of_getElem? (i := 46) rfl)) (hw _ (List.mem_of_getElem? (i := 6) rfl)) (by decide) (by decide)) q5a q5c (g := (mkF m 20 #[.val (.ref x), .val (.ref y), .val (.ref y)] [(.ref a), (.ref b)])) rfl (by rw [hml]; rfl) (Steps.refl _) (argsL := [(.ref a)]) (rest := []) (lenOf own_pd1 rfl) rfl (by show 2 * 0 + _ ≤ _; exact Nat.le_of_eq rfl) (hb hby own_d6_20) (fun _ _ => ⟨rfl, e4, (by decide : 0 + 0 ≤ _), (by decide : 0 + 0 ≤ _)⟩)
  dsimp only [Pt.U, Pt.locs, Pt.cells, Pt.slots] at X5 l5 y5 z5 st5 hQ5
  subst l5 y5 z5
  obtain ⟨rfl, N5q, hh5⟩ := hQ5
  have N5 := Fr.app N0 N5q
  refine own_st (fun _ kt => st5.trans kt) ?_
  show own_Rch p e below _ T5 (mkF m 23 #[.val (.ref x), .val (.ref y), .val (.ref y)] [(.int (own_eqs l2 l1))])
  by_cases hc23_6 : (own_eqs l2 l1) = (0 : Int32)
  · -- pc 23: True
    refine own_st (fun _ kt => XS.ifYes X5.here hx rfl (pc0 := 23) (pc' := 30) rfl (hb hby own_d6_23) rfl ((if0 _ _).trans (teq hc23_6).1) (by decide) (by decide) kt) ?_
    show own_Rch p e below _ T5 (mkF m 30 #[.val (.ref x), .val (.ref y), .val (.ref y)] [])
    refine own_st (fun _ kt => XS.iconst X5.here hx rfl (hb hby own_d6_30) kt) ?_
    show own_Rch p e below _ T5 (mkF m 31 #[.val (.ref x), .val (.ref y), .val (.ref y)] [(.int (0 : Int32))])
    refine own_retN (t := .boolean) (by simp) X5 hx Bd.notSynchronized Bd.returns (hb hby own_d6_31) (by decide) (by decide) ?_
    rw [hh5]
    exact ⟨by simp only [own_eqs] at hc23_6 ⊢; simp only [nar]; split at hc23_6 <;> simp_all, N5, rfl⟩
  · -- pc 23: False
    refine own_st (fun _ kt => XS.ifNo X5.here hx rfl (hb hby own_d6_23) rfl ((if0 _ _).trans (feq hc23_6).1) kt) ?_
    show own_Rch p e below _ T5 (mkF m 26 #[.val (.ref x), .val (.ref y), .val (.ref y)] [])
    refine own_st (fun _ kt => XS.iconst X5.here hx rfl (hb hby own_d6_26) kt) ?_
    show own_Rch p e below _ T5 (mkF m 27 #[.val (.ref x), .val (.ref y), .val (.ref y)] [(.int (1 : Int32))])
    refine own_st (fun _ kt => XS.goto X5.here hx rfl (pc0 := 27) (pc' := 31) rfl (hb hby own_d6_27) (by decide) (by decide) kt) ?_
    show own_Rch p e below _ T5 (mkF m 31 #[.val (.ref x), .val (.ref y), .val (.ref y)] [(.int (1 : Int32))])
    refine own_retN (t := .boolean) (by simp) X5 hx Bd.notSynchronized Bd.returns (hb hby own_d6_31) (by decide) (by decide) ?_
    rw [hh5]
    exact ⟨by simp only [own_eqs] at hc23_6 ⊢; simp only [nar]; split at hc23_6 <;> simp_all, N5, rfl⟩
theorem own_ef6n1 (m : MethodId) (x0 : Addr) : entryFrame m #[(.ref x0), .null] 3 = mkF m 0 #[.val (.ref x0), .val .null, .unset] [] := by first | (simp [entryFrame, mkF, argsToLocals, Value.category]; done) | rfl
def own_Q_own_tnull (Z : State) (x : Addr) (h0 : Heap) (n0 : Nat) (v : Option Value) (h : Heap) (L : List Loc) : Prop := v = some (.int (0 : Int32)) ∧ Fr n0 L ∧ h = h0
set_option maxRecDepth 65536 in
set_option maxHeartbeats 40000000 in
theorem own_tnull (l : Launch) (Z : State) (a0 : Array Value) (hw : ∀ d ∈ tables_1, d.before a0 Z = true) (ws : List Jvm.Cond) (x : Addr) (h0 : Heap) (n0 : Nat) (O0 : Old Z n0 h0) :
    MetFree l (⟨"com/example/drawdown/drawdown/input/TomlFloat", "equals", "(Ljava/lang/Object;)Z"⟩ : MethodName) (head1 (Jvm.Cond.code (⟨"com/example/drawdown/drawdown/input/TomlFloat", "equals", "(Ljava/lang/Object;)Z"⟩ : MethodName) prog_30_method_2_code 3 (some .boolean) :: ws) ({ frames := 0, cells := 0, slots := 0, locals := 0 } : Room)) (fun args_ U => args_ = #[(.ref x), .null] ∧ Z.Warmed39 U.vm ∧ U.heap = h0) (fun _ _ _ _ _ => True) (fun _ U o U' => ∃ v L, o = .returned v ∧ (own_Q_own_tnull Z x h0 n0) v U'.heap L ∧ FrameEnd U o U' L ({ frames := 0, cells := 0, slots := 0, locals := 0 } : Room).cells ({ frames := 0, cells := 0, slots := 0, locals := 0 } : Room).slots) := by
  refine MetFree.of_bodySF (plainFor_of_name own_pn2) hisR ?_
  intro p e s m args below meth c s₁ Bd hml0 hP hK
  obtain ⟨rfl, hZ, hh⟩ := hP
  have hx := Bd.exec
  have hby := Bd.bytes
  have hml : c.maxLocals = 3 := hml0
  have hown : s.vm.findClass "com/example/drawdown/drawdown/input/TomlFloat" = some m.cls := findClass_of_methodNamed Bd.named
  have hnm := (name_of_methodNamed Bd.named Bd.method).1
  have X0 : Stand p l e ({ frames := 0, cells := 0, slots := 0, locals := 0 } : Room) s m #[(.ref x), .null] below meth c s₁ [] 0 0 := Stand.of_body Bd
  have e0 : s₁.heap = h0 := by rw [← hh, Bd.state]; rfl
  have N0 := Fr.nil n0
  refine own_close (s := s) (Q := (own_Q_own_tnull Z x h0 n0)) (C := (({ frames := 0, cells := 0, slots := 0, locals := 0 } : Room)).cells) (N := (({ frames := 0, cells := 0, slots := 0, locals := 0 } : Room)).slots) (own_st (fun _ kt => castTop (own_ef6n1 m x) kt) ?_)
  show own_Rch p e below _ s₁ (mkF m 0 #[.val (.ref x), .val .null, .unset] [])
  refine own_st (fun _ kt => XS.aloadN X0.here hx rfl (hb hby own_d6_0) rfl rfl  kt) ?_
  show own_Rch p e below _ s₁ (mkF m 1 #[.val (.ref x), .val .null, .unset] [.null])
  refine own_st (X0.instanceofNull hx (g := (mkF m 1 #[.val (.ref x), .val .null, .unset] [.null])) rfl rfl (hb hby own_d6_1)) ?_
  show own_Rch p e below _ s₁ (mkF m 4 #[.val (.ref x), .val .null, .unset] [(.int (0 : Int32))])
  refine own_st (fun _ kt => XS.ifYes X0.here hx rfl (pc0 := 4) (pc' := 30) rfl (hb hby own_d6_4) rfl ((if0 _ _).trans (teq (rfl : (0 : Int32) = (0 : Int32))).1) (by decide) (by decide) kt) ?_
  show own_Rch p e below _ s₁ (mkF m 30 #[.val (.ref x), .val .null, .unset] [])
  refine own_st (fun _ kt => XS.iconst X0.here hx rfl (hb hby own_d6_30) kt) ?_
  show own_Rch p e below _ s₁ (mkF m 31 #[.val (.ref x), .val .null, .unset] [(.int (0 : Int32))])
  refine own_retN (t := .boolean) (by simp) X0 hx Bd.notSynchronized Bd.returns (hb hby own_d6_31) (by decide) (by decide) ?_
  rw [e0]
  exact ⟨rfl, N0, rfl⟩
def own_Q_own_tstr (Z : State) (x : Addr) (b : Addr) (h0 : Heap) (n0 : Nat) (v : Option Value) (h : Heap) (L : List Loc) : Prop := v = some (.int (0 : Int32)) ∧ Fr n0 L ∧ h = h0
set_option maxRecDepth 65536 in
set_option maxHeartbeats 40000000 in
theorem own_tstr (l : Launch) (Z : State) (a0 : Array Value) (hw : ∀ d ∈ tables_1, d.before a0 Z = true) (ws : List Jvm.Cond) (x : Addr) (b : Addr) (h0 : Heap) (n0 : Nat) (O0 : Old Z n0 h0) (E2 : Exa Z h0 b "java/lang/String") :
    MetFree l (⟨"com/example/drawdown/drawdown/input/TomlFloat", "equals", "(Ljava/lang/Object;)Z"⟩ : MethodName) (head1 (Jvm.Cond.code (⟨"com/example/drawdown/drawdown/input/TomlFloat", "equals", "(Ljava/lang/Object;)Z"⟩ : MethodName) prog_30_method_2_code 3 (some .boolean) :: ws) ({ frames := 0, cells := 0, slots := 0, locals := 0 } : Room)) (fun args_ U => args_ = #[(.ref x), (.ref b)] ∧ Z.Warmed39 U.vm ∧ U.heap = h0) (fun _ _ _ _ _ => True) (fun _ U o U' => ∃ v L, o = .returned v ∧ (own_Q_own_tstr Z x b h0 n0) v U'.heap L ∧ FrameEnd U o U' L ({ frames := 0, cells := 0, slots := 0, locals := 0 } : Room).cells ({ frames := 0, cells := 0, slots := 0, locals := 0 } : Room).slots) := by
  refine MetFree.of_bodySF (plainFor_of_name own_pn2) hisR ?_
  intro p e s m args below meth c s₁ Bd hml0 hP hK
  obtain ⟨rfl, hZ, hh⟩ := hP
  have hx := Bd.exec
  have hby := Bd.bytes
  have hml : c.maxLocals = 3 := hml0
  have hown : s.vm.findClass "com/example/drawdown/drawdown/input/TomlFloat" = some m.cls := findClass_of_methodNamed Bd.named
  have hnm := (name_of_methodNamed Bd.named Bd.method).1
  have X0 : Stand p l e ({ frames := 0, cells := 0, slots := 0, locals := 0 } : Room) s m #[(.ref x), (.ref b)] below meth c s₁ [] 0 0 := Stand.of_body Bd
  have e0 : s₁.heap = h0 := by rw [← hh, Bd.state]; rfl
  have N0 := Fr.nil n0
  refine own_close (s := s) (Q := (own_Q_own_tstr Z x b h0 n0)) (C := (({ frames := 0, cells := 0, slots := 0, locals := 0 } : Room)).cells) (N := (({ frames := 0, cells := 0, slots := 0, locals := 0 } : Room)).slots) (own_st (fun _ kt => castTop (own_ef6 m x b) kt) ?_)
  show own_Rch p e below _ s₁ (mkF m 0 #[.val (.ref x), .val (.ref b), .unset] [])
  refine own_st (fun _ kt => XS.aloadN X0.here hx rfl (hb hby own_d6_0) rfl rfl  kt) ?_
  show own_Rch p e below _ s₁ (mkF m 1 #[.val (.ref x), .val (.ref b), .unset] [(.ref b)])
  obtain ⟨T1, X1, e1, st1⟩ := instNo X0 hx hZ hown (hw _ (List.mem_of_getElem? (i := 40) rfl)) e0 E2 (own_nsno (hw _ (List.mem_of_getElem? (i := 63) rfl)) (hw _ (List.mem_of_getElem? (i := 27) rfl)) (NS.step (hw _ (List.mem_of_getElem? (i := 63) rfl)) (own_nsroot (hw _ (List.mem_of_getElem? (i := 64) rfl)) (hw _ (List.mem_of_getElem? (i := 27) rfl)) (by decide)) (by decide)) (by decide)) (g := (mkF m 1 #[.val (.ref x), .val (.ref b), .unset] [(.ref b)])) rfl rfl (hb hby own_d6_1)
  refine own_st st1 ?_
  show own_Rch p e below _ T1 (mkF m 4 #[.val (.ref x), .val (.ref b), .unset] [(.int (0 : Int32))])
  refine own_st (fun _ kt => XS.ifYes X1.here hx rfl (pc0 := 4) (pc' := 30) rfl (hb hby own_d6_4) rfl ((if0 _ _).trans (teq (rfl : (0 : Int32) = (0 : Int32))).1) (by decide) (by decide) kt) ?_
  show own_Rch p e below _ T1 (mkF m 30 #[.val (.ref x), .val (.ref b), .unset] [])
  refine own_st (fun _ kt => XS.iconst X1.here hx rfl (hb hby own_d6_30) kt) ?_
  show own_Rch p e below _ T1 (mkF m 31 #[.val (.ref x), .val (.ref b), .unset] [(.int (0 : Int32))])
  refine own_retN (t := .boolean) (by simp) X1 hx Bd.notSynchronized Bd.returns (hb hby own_d6_31) (by decide) (by decide) ?_
  rw [e1]
  exact ⟨rfl, N0, rfl⟩
def own_Q_own_tself (Z : State) (x : Addr) (a : Addr) (h0 : Heap) (n0 : Nat) (v : Option Value) (h : Heap) (L : List Loc) : Prop := v = some (.int (1 : Int32)) ∧ Fr n0 L ∧ h = h0
set_option maxRecDepth 65536 in
set_option maxHeartbeats 40000000 in
theorem own_tself (l : Launch) (Z : State) (a0 : Array Value) (hw : ∀ d ∈ tables_1, d.before a0 Z = true) (ws : List Jvm.Cond) (x : Addr) (a : Addr) (h0 : Heap) (n0 : Nat) (O0 : Old Z n0 h0) (TE1 : Exa Z h0 x "com/example/drawdown/drawdown/input/TomlFloat") (TU1 : Fld Z h0 x "com/example/drawdown/drawdown/input/TomlFloat" "text" "Ljava/lang/String;" (.ref a)) (E1 : Exa Z h0 a "java/lang/String") :
    MetFree l (⟨"com/example/drawdown/drawdown/input/TomlFloat", "equals", "(Ljava/lang/Object;)Z"⟩ : MethodName) (head1 (Jvm.Cond.code (⟨"com/example/drawdown/drawdown/input/TomlFloat", "equals", "(Ljava/lang/Object;)Z"⟩ : MethodName) prog_30_method_2_code 3 (some .boolean) :: ws) ({ frames := 1, cells := 0, slots := 0, locals := 14 } : Room)) (fun args_ U => args_ = #[(.ref x), (.ref x)] ∧ Z.Warmed39 U.vm ∧ U.heap = h0) (fun _ _ _ _ _ => True) (fun _ U o U' => ∃ v L, o = .returned v ∧ (own_Q_own_tself Z x a h0 n0) v U'.heap L ∧ FrameEnd U o U' L ({ frames := 1, cells := 0, slots := 0, locals := 14 } : Room).cells ({ frames := 1, cells := 0, slots := 0, locals := 14 } : Room).slots) := by
  refine MetFree.of_bodySF (plainFor_of_name own_pn2) hisR ?_
  intro p e s m args below meth c s₁ Bd hml0 hP hK
  obtain ⟨rfl, hZ, hh⟩ := hP
  have hx := Bd.exec
  have hby := Bd.bytes
  have hml : c.maxLocals = 3 := hml0
  have hown : s.vm.findClass "com/example/drawdown/drawdown/input/TomlFloat" = some m.cls := findClass_of_methodNamed Bd.named
  have hnm := (name_of_methodNamed Bd.named Bd.method).1
  have X0 : Stand p l e ({ frames := 1, cells := 0, slots := 0, locals := 14 } : Room) s m #[(.ref x), (.ref x)] below meth c s₁ [] 0 0 := Stand.of_body Bd
  have e0 : s₁.heap = h0 := by rw [← hh, Bd.state]; rfl
  have N0 := Fr.nil n0
  refine own_close (s := s) (Q := (own_Q_own_tself Z x a h0 n0)) (C := (({ frames := 1, cells := 0, slots := 0, locals := 14 } : Room)).cells) (N := (({ frames := 1, cells := 0, slots := 0, locals := 14 } : Room)).slots) (own_st (fun _ kt => castTop (own_ef6 m x x) kt) ?_)
  show own_Rch p e below _ s₁ (mkF m 0 #[.val (.ref x), .val (.ref x), .unset] [])
  refine own_st (fun _ kt => XS.aloadN X0.here hx rfl (hb hby own_d6_0) rfl rfl  kt) ?_
  show own_Rch p e below _ s₁ (mkF m 1 #[.val (.ref x), .val (.ref x), .unset] [(.ref x)])
  obtain ⟨T1, X1, e1, st1⟩ := instY X0 hx hZ hown (hw _ (List.mem_of_getElem? (i := 40) rfl)) e0 (Ins.self TE1) (g := (mkF m 1 #[.val (.ref x), .val (.ref x), .unset] [(.ref x)])) rfl rfl (hb hby own_d6_1)
  refine own_st st1 ?_
  show own_Rch p e below _ T1 (mkF m 4 #[.val (.ref x), .val (.ref x), .unset] [(.int (1 : Int32))])
  refine own_st (fun _ kt => XS.ifNo X1.here hx rfl (hb hby own_d6_4) rfl ((if0 _ _).trans (feq ((by decide) : ¬ ((1 : Int32) = (0 : Int32)))).1) kt) ?_
  show own_Rch p e below _ T1 (mkF m 7 #[.val (.ref x), .val (.ref x), .unset] [])
  refine own_st (fun _ kt => XS.aloadN X1.here hx rfl (hb hby own_d6_7) rfl rfl  kt) ?_
  show own_Rch p e below _ T1 (mkF m 8 #[.val (.ref x), .val (.ref x), .unset] [(.ref x)])
  obtain ⟨T2, X2, e2, st2⟩ := castY X1 hx hZ hown (hw _ (List.mem_of_getElem? (i := 40) rfl)) e1 (Ins.self TE1) (g := (mkF m 8 #[.val (.ref x), .val (.ref x), .unset] [(.ref x)])) rfl rfl (hb hby own_d6_8)
  refine own_st st2 ?_
  show own_Rch p e below _ T2 (mkF m 11 #[.val (.ref x), .val (.ref x), .unset] [(.ref x)])
  refine own_st (fun _ kt => XS.astoreN X2.here hx rfl (hb hby own_d6_11) rfl rfl (l' := #[.val (.ref x), .val (.ref x), .val (.ref x)]) rfl kt) ?_
  show own_Rch p e below _ T2 (mkF m 12 #[.val (.ref x), .val (.ref x), .val (.ref x)] [])
  refine own_st (fun _ kt => XS.aloadN X2.here hx rfl (hb hby own_d6_12) rfl rfl  kt) ?_
  show own_Rch p e below _ T2 (mkF m 13 #[.val (.ref x), .val (.ref x), .val (.ref x)] [(.ref x)])
  obtain ⟨T3, X3, e3, st3⟩ := getF X2 hx hZ hown (host := "") (Or.inl (hw _ (List.mem_of_getElem? (i := 33) rfl))) Via.refl e2 TU1 (g := (mkF m 13 #[.val (.ref x), .val (.ref x), .val (.ref x)] [(.ref x)])) rfl rfl (hb hby own_d6_13)
  refine own_st st3 ?_
  show own_Rch p e below _ T3 (mkF m 16 #[.val (.ref x), .val (.ref x), .val (.ref x)] [(.ref a)])
  refine own_st (fun _ kt => XS.aloadN X3.here hx rfl (hb hby own_d6_16) rfl rfl  kt) ?_
  show own_Rch p e below _ T3 (mkF m 17 #[.val (.ref x), .val (.ref x), .val (.ref x)] [(.ref x), (.ref a)])
  obtain ⟨T4, X4, e4, st4⟩ := getF X3 hx hZ hown (host := "") (Or.inl (hw _ (List.mem_of_getElem? (i := 33) rfl))) Via.refl e3 TU1 (g := (mkF m 17 #[.val (.ref x), .val (.ref x), .val (.ref x)] [(.ref x), (.ref a)])) rfl rfl (hb hby own_d6_17)
  refine own_st st4 ?_
  show own_Rch p e below _ T4 (mkF m 20 #[.val (.ref x), .val (.ref x), .val (.ref x)] [(.ref a), (.ref a)])
  obtain ⟨cq5, kq5, q5a, q5b, q5c⟩ := isOf hZ e4 E1
  obtain ⟨_, _, ⟨T5, L5, k5, n5⟩, -, X5, ⟨Lc5, hQ5, l5, y5, z5⟩, st5⟩ := X4.virtualBack hx (y := (⟨"java/lang/String", "equals", "(Ljava/lang/Object;)Z"⟩ : MethodName)) (z := (⟨"java/lang/String", "equals", "(Ljava/lang/Object;)Z"⟩ : MethodName)) hown (mvT hZ (hw _ (List.mem_of_getElem? (i := 42) rfl))) (mvT hZ (hw _ (List.mem_of_getElem? (i := 43) rfl))) (notFace_of_selects (args := #[]) (mvT hZ (hw _ (List.mem_of_getElem? (i := 45) rfl)))) (mvT hZ (hw _ (List.mem_of_getElem? (i := 45) rfl))) (mvT hZ (hw _ (List.mem_of_getElem? (i := 44) rfl))) (by decide) (backOf (W := 0) (own_seqs l Z a0 hw [] a h0 n0 O0 ) hZ (hw _ (List.mem_of_getElem? (i := 46) rfl)) (hw _ (List.mem_of_getElem? (i := 6) rfl)) (by decide) (by decide)) q5a q5c (g := (mkF m 20 #[.val (.ref x), .val (.ref x), .val (.ref x)] [(.ref a), (.ref a)])) rfl (by rw [hml]; rfl) (Steps.refl _) (argsL := [(.ref a)]) (rest := []) (lenOf own_pd1 rfl) rfl (by show 2 * 0 + _ ≤ _; exact Nat.le_of_eq rfl) (hb hby own_d6_20) (fun _ _ => ⟨rfl, e4, (by decide : 0 + 0 ≤ _), (by decide : 0 + 0 ≤ _)⟩)
  dsimp only [Pt.U, Pt.locs, Pt.cells, Pt.slots] at X5 l5 y5 z5 st5 hQ5
  subst l5 y5 z5
  obtain ⟨rfl, N5q, hh5⟩ := hQ5
  have N5 := Fr.app N0 N5q
  refine own_st (fun _ kt => st5.trans kt) ?_
  show own_Rch p e below _ T5 (mkF m 23 #[.val (.ref x), .val (.ref x), .val (.ref x)] [(.int (1 : Int32))])
  refine own_st (fun _ kt => XS.ifNo X5.here hx rfl (hb hby own_d6_23) rfl ((if0 _ _).trans (feq ((by decide) : ¬ ((1 : Int32) = (0 : Int32)))).1) kt) ?_
  show own_Rch p e below _ T5 (mkF m 26 #[.val (.ref x), .val (.ref x), .val (.ref x)] [])
  refine own_st (fun _ kt => XS.iconst X5.here hx rfl (hb hby own_d6_26) kt) ?_
  show own_Rch p e below _ T5 (mkF m 27 #[.val (.ref x), .val (.ref x), .val (.ref x)] [(.int (1 : Int32))])
  refine own_st (fun _ kt => XS.goto X5.here hx rfl (pc0 := 27) (pc' := 31) rfl (hb hby own_d6_27) (by decide) (by decide) kt) ?_
  show own_Rch p e below _ T5 (mkF m 31 #[.val (.ref x), .val (.ref x), .val (.ref x)] [(.int (1 : Int32))])
  refine own_retN (t := .boolean) (by simp) X5 hx Bd.notSynchronized Bd.returns (hb hby own_d6_31) (by decide) (by decide) ?_
  rw [hh5]
  exact ⟨rfl, N5, rfl⟩
theorem own_pn3 : plainName "java/lang/StringUTF16" = true := by first | (simp [plainName, overriddenIn]; done) | decide +kernel
theorem own_ef10 (m : MethodId) (x0 : Addr) (x1 : Int32) (x2 : Addr) (x3 : Int32) (x4 : Int32) : entryFrame m #[(.ref x0), (.int x1), (.ref x2), (.int x3), (.int x4)] 7 = mkF m 0 #[.val (.ref x0), .val (.int x1), .val (.ref x2), .val (.int x3), .val (.int x4), .unset, .unset] [] := by first | (simp [entryFrame, mkF, argsToLocals, Value.category]; done) | rfl
theorem own_d10_0 : decode jdk_52_method_21_code 0 = .ok (.iconst 0, 1) := by decide +kernel
theorem own_d10_1 : decode jdk_52_method_21_code 1 = .ok (.istore 5, 2) := by decide +kernel
theorem own_d10_3 : decode jdk_52_method_21_code 3 = .ok (.iload 5, 2) := by decide +kernel
theorem own_d10_5 : decode jdk_52_method_21_code 5 = .ok (.iload 4, 2) := by decide +kernel
theorem own_d10_7 : decode jdk_52_method_21_code 7 = .ok (.if_icmp .ge 37, 3) := by decide +kernel
theorem own_d10_10 : decode jdk_52_method_21_code 10 = .ok (.aload_n 0, 1) := by decide +kernel
theorem own_d10_11 : decode jdk_52_method_21_code 11 = .ok (.iload_n 1, 1) := by decide +kernel
theorem own_d10_12 : decode jdk_52_method_21_code 12 = .ok (.caload, 1) := by decide +kernel
theorem own_d10_13 : decode jdk_52_method_21_code 13 = .ok (.istore 6, 2) := by decide +kernel
theorem own_d10_15 : decode jdk_52_method_21_code 15 = .ok (.iload 6, 2) := by decide +kernel
theorem own_d10_17 : decode jdk_52_method_21_code 17 = .ok (.sipush 255, 3) := by decide +kernel
theorem own_d10_20 : decode jdk_52_method_21_code 20 = .ok (.if_icmp .le 6, 3) := by decide +kernel
theorem own_d10_26 : decode jdk_52_method_21_code 26 = .ok (.aload_n 2, 1) := by decide +kernel
theorem own_d10_27 : decode jdk_52_method_21_code 27 = .ok (.iload_n 3, 1) := by decide +kernel
theorem own_d10_28 : decode jdk_52_method_21_code 28 = .ok (.iload 6, 2) := by decide +kernel
theorem own_d10_30 : decode jdk_52_method_21_code 30 = .ok (.i2b, 1) := by decide +kernel
theorem own_d10_31 : decode jdk_52_method_21_code 31 = .ok (.bastore, 1) := by decide +kernel
theorem own_d10_32 : decode jdk_52_method_21_code 32 = .ok (.iinc 1 1, 3) := by decide +kernel
theorem own_d10_35 : decode jdk_52_method_21_code 35 = .ok (.iinc 3 1, 3) := by decide +kernel
theorem own_d10_38 : decode jdk_52_method_21_code 38 = .ok (.iinc 5 1, 3) := by decide +kernel
theorem own_d10_41 : decode jdk_52_method_21_code 41 = .ok (.goto (-38), 3) := by decide +kernel
theorem own_d10_44 : decode jdk_52_method_21_code 44 = .ok (.iload 4, 2) := by decide +kernel
theorem own_d10_46 : decode jdk_52_method_21_code 46 = .ok (.ireturn, 1) := by decide +kernel
def own_Q_own_c5_1 (Z : State) (r : Addr) (kr : ClassId) (b : Addr) (kb : ClassId) (c0 : Int32) (c1 : Int32) (h0 : Heap) (n0 : Nat) (v : Option Value) (h : Heap) (L : List Loc) : Prop := v = some (.int (1 : Int32)) ∧ Fr n0 L ∧ Keep h0 h [b] ∧ Arv Z h b kb .byte (1 : Int32) [(.int (own_b c0))] (.int (0 : Int32))
set_option maxRecDepth 65536 in
set_option maxHeartbeats 40000000 in
theorem own_c5_1 (l : Launch) (Z : State) (a0 : Array Value) (hw : ∀ d ∈ tables_1, d.before a0 Z = true) (ws : List Jvm.Cond) (r : Addr) (kr : ClassId) (b : Addr) (kb : ClassId) (c0 : Int32) (c1 : Int32) (h0 : Heap) (n0 : Nat) (O0 : Old Z n0 h0) (VR : Arv Z h0 r kr .char (1 : Int32) [(.int (nar .char c0))] (.int (0 : Int32))) (VB : Arv Z h0 b kb .byte (1 : Int32) [(.int (0 : Int32))] (.int (0 : Int32))) (gb : n0 ≤ b) (hrb : r ≠ b) (hc0 : own_ch c0) (hc1 : own_ch c1) :
    MetFree l (⟨"java/lang/StringUTF16", "compress", "([CI[BII)I"⟩ : MethodName) (head1 (Jvm.Cond.code (⟨"java/lang/StringUTF16", "compress", "([CI[BII)I"⟩ : MethodName) jdk_52_method_21_code 7 (some .int) :: ws) ({ frames := 0, cells := 0, slots := 0, locals := 0 } : Room)) (fun args_ U => args_ = #[(.ref r), (.int (0 : Int32)), (.ref b), (.int (0 : Int32)), (.int (1 : Int32))] ∧ Z.Warmed39 U.vm ∧ U.heap = h0) (fun _ _ _ _ _ => True) (fun _ U o U' => ∃ v L, o = .returned v ∧ (own_Q_own_c5_1 Z r kr b kb c0 c1 h0 n0) v U'.heap L ∧ FrameEnd U o U' L ({ frames := 0, cells := 0, slots := 0, locals := 0 } : Room).cells ({ frames := 0, cells := 0, slots := 0, locals := 0 } : Room).slots) := by
  refine MetFree.of_bodySF (plainFor_of_name own_pn3) hisR ?_
  intro p e s m args below meth c s₁ Bd hml0 hP hK
  obtain ⟨rfl, hZ, hh⟩ := hP
  have hx := Bd.exec
  have hby := Bd.bytes
  have hml : c.maxLocals = 7 := hml0
  have hown : s.vm.findClass "java/lang/StringUTF16" = some m.cls := findClass_of_methodNamed Bd.named
  have hnm := (name_of_methodNamed Bd.named Bd.method).1
  have X0 : Stand p l e ({ frames := 0, cells := 0, slots := 0, locals := 0 } : Room) s m #[(.ref r), (.int (0 : Int32)), (.ref b), (.int (0 : Int32)), (.int (1 : Int32))] below meth c s₁ [] 0 0 := Stand.of_body Bd
  have e0 : s₁.heap = h0 := by rw [← hh, Bd.state]; rfl
  have N0 := Fr.nil n0
  refine own_close (s := s) (Q := (own_Q_own_c5_1 Z r kr b kb c0 c1 h0 n0)) (C := (({ frames := 0, cells := 0, slots := 0, locals := 0 } : Room)).cells) (N := (({ frames := 0, cells := 0, slots := 0, locals := 0 } : Room)).slots) (own_st (fun _ kt => castTop (own_ef10 m r (0 : Int32) b (0 : Int32) (1 : Int32)) kt) ?_)
  have K0 := Keep.refl h0 [b]
  show own_Rch p e below _ s₁ (mkF m 0 #[.val (.ref r), .val (.int (0 : Int32)), .val (.ref b), .val (.int (0 : Int32)), .val (.int (1 : Int32)), .unset, .unset] [])
  refine own_st (fun _ kt => XS.iconst X0.here hx rfl (hb hby own_d10_0) kt) ?_
  show own_Rch p e below _ s₁ (mkF m 1 #[.val (.ref r), .val (.int (0 : Int32)), .val (.ref b), .val (.int (0 : Int32)), .val (.int (1 : Int32)), .unset, .unset] [(.int (0 : Int32))])
  refine own_st (fun _ kt => XS.istore X0.here hx rfl (hb hby own_d10_1) rfl (l' := #[.val (.ref r), .val (.int (0 : Int32)), .val (.ref b), .val (.int (0 : Int32)), .val (.int (1 : Int32)), .val (.int (0 : Int32)), .unset]) rfl kt) ?_
  show own_Rch p e below _ s₁ (mkF m 3 #[.val (.ref r), .val (.int (0 : Int32)), .val (.ref b), .val (.int (0 : Int32)), .val (.int (1 : Int32)), .val (.int (0 : Int32)), .unset] [])
  refine own_st (fun _ kt => XS.iload X0.here hx rfl (hb hby own_d10_3) rfl  kt) ?_
  show own_Rch p e below _ s₁ (mkF m 5 #[.val (.ref r), .val (.int (0 : Int32)), .val (.ref b), .val (.int (0 : Int32)), .val (.int (1 : Int32)), .val (.int (0 : Int32)), .unset] [(.int (0 : Int32))])
  refine own_st (fun _ kt => XS.iload X0.here hx rfl (hb hby own_d10_5) rfl  kt) ?_
  show own_Rch p e below _ s₁ (mkF m 7 #[.val (.ref r), .val (.int (0 : Int32)), .val (.ref b), .val (.int (0 : Int32)), .val (.int (1 : Int32)), .val (.int (0 : Int32)), .unset] [(.int (1 : Int32)), (.int (0 : Int32))])
  refine own_st (fun _ kt => XS.icmpNo X0.here hx rfl (hb hby own_d10_7) rfl (tlt ((by decide) : (0 : Int32) < (1 : Int32))).2.1 kt) ?_
  show own_Rch p e below _ s₁ (mkF m 10 #[.val (.ref r), .val (.int (0 : Int32)), .val (.ref b), .val (.int (0 : Int32)), .val (.int (1 : Int32)), .val (.int (0 : Int32)), .unset] [])
  refine own_st (fun _ kt => XS.aloadN X0.here hx rfl (hb hby own_d10_10) rfl rfl  kt) ?_
  show own_Rch p e below _ s₁ (mkF m 11 #[.val (.ref r), .val (.int (0 : Int32)), .val (.ref b), .val (.int (0 : Int32)), .val (.int (1 : Int32)), .val (.int (0 : Int32)), .unset] [(.ref r)])
  refine own_st (fun _ kt => XS.iloadN X0.here hx rfl (hb hby own_d10_11) rfl  kt) ?_
  show own_Rch p e below _ s₁ (mkF m 12 #[.val (.ref r), .val (.int (0 : Int32)), .val (.ref b), .val (.int (0 : Int32)), .val (.int (1 : Int32)), .val (.int (0 : Int32)), .unset] [(.int (0 : Int32)), (.ref r)])
  obtain ⟨cl1, Ar1, q1, S1, M1, H1, G1⟩ := id VR
  have hin1 : ¬ ((0 : Int32) < 0 ∨ cl1.slots.size ≤ ((0 : Int32)).toNatClampNeg) := inb_of S1 ⟨by decide, by decide⟩
  refine own_st (X0.caload hx (j := (0 : Int32)) (v := (.int (nar .char c0))) (by rw [e0]; exact Ar1.1) (State.isArrayOf_alike (hZ).alike Ar1.2.1) Ar1.2.2 hin1 (H1.at hin1 rfl) (g := (mkF m 12 #[.val (.ref r), .val (.int (0 : Int32)), .val (.ref b), .val (.int (0 : Int32)), .val (.int (1 : Int32)), .val (.int (0 : Int32)), .unset] [(.int (0 : Int32)), (.ref r)])) rfl rfl (hb hby own_d10_12)) ?_
  show own_Rch p e below _ s₁ (mkF m 13 #[.val (.ref r), .val (.int (0 : Int32)), .val (.ref b), .val (.int (0 : Int32)), .val (.int (1 : Int32)), .val (.int (0 : Int32)), .unset] [(.int (nar .char c0))])
  refine own_st (fun _ kt => XS.istore X0.here hx rfl (hb hby own_d10_13) rfl (l' := #[.val (.ref r), .val (.int (0 : Int32)), .val (.ref b), .val (.int (0 : Int32)), .val (.int (1 : Int32)), .val (.int (0 : Int32)), .val (.int (nar .char c0))]) rfl kt) ?_
  show own_Rch p e below _ s₁ (mkF m 15 #[.val (.ref r), .val (.int (0 : Int32)), .val (.ref b), .val (.int (0 : Int32)), .val (.int (1 : Int32)), .val (.int (0 : Int32)), .val (.int (nar .char c0))] [])
  refine own_st (fun _ kt => XS.iload X0.here hx rfl (hb hby own_d10_15) rfl  kt) ?_
  show own_Rch p e below _ s₁ (mkF m 17 #[.val (.ref r), .val (.int (0 : Int32)), .val (.ref b), .val (.int (0 : Int32)), .val (.int (1 : Int32)), .val (.int (0 : Int32)), .val (.int (nar .char c0))] [(.int (nar .char c0))])
  refine own_st (fun _ kt => XS.sipush X0.here hx rfl (hb hby own_d10_17) kt) ?_
  show own_Rch p e below _ s₁ (mkF m 20 #[.val (.ref r), .val (.int (0 : Int32)), .val (.ref b), .val (.int (0 : Int32)), .val (.int (1 : Int32)), .val (.int (0 : Int32)), .val (.int (nar .char c0))] [(.int (255 : Int32)), (.int (nar .char c0))])
  refine own_st (fun _ kt => XS.icmpYes X0.here hx rfl (pc0 := 20) (pc' := 26) rfl (hb hby own_d10_20) rfl (flt (own_big hc0 : ¬ ((255 : Int32) < (nar .char c0)))).2.2.2 (by decide) (by decide) kt) ?_
  show own_Rch p e below _ s₁ (mkF m 26 #[.val (.ref r), .val (.int (0 : Int32)), .val (.ref b), .val (.int (0 : Int32)), .val (.int (1 : Int32)), .val (.int (0 : Int32)), .val (.int (nar .char c0))] [])
  refine own_st (fun _ kt => XS.aloadN X0.here hx rfl (hb hby own_d10_26) rfl rfl  kt) ?_
  show own_Rch p e below _ s₁ (mkF m 27 #[.val (.ref r), .val (.int (0 : Int32)), .val (.ref b), .val (.int (0 : Int32)), .val (.int (1 : Int32)), .val (.int (0 : Int32)), .val (.int (nar .char c0))] [(.ref b)])
  refine own_st (fun _ kt => XS.iloadN X0.here hx rfl (hb hby own_d10_27) rfl  kt) ?_
  show own_Rch p e below _ s₁ (mkF m 28 #[.val (.ref r), .val (.int (0 : Int32)), .val (.ref b), .val (.int (0 : Int32)), .val (.int (1 : Int32)), .val (.int (0 : Int32)), .val (.int (nar .char c0))] [(.int (0 : Int32)), (.ref b)])
  refine own_st (fun _ kt => XS.iload X0.here hx rfl (hb hby own_d10_28) rfl  kt) ?_
  show own_Rch p e below _ s₁ (mkF m 30 #[.val (.ref r), .val (.int (0 : Int32)), .val (.ref b), .val (.int (0 : Int32)), .val (.int (1 : Int32)), .val (.int (0 : Int32)), .val (.int (nar .char c0))] [(.int (nar .char c0)), (.int (0 : Int32)), (.ref b)])
  refine own_st (fun _ kt => XS.i2b X0.here hx rfl (hb hby own_d10_30) rfl kt) ?_
  show own_Rch p e below _ s₁ (mkF m 31 #[.val (.ref r), .val (.int (0 : Int32)), .val (.ref b), .val (.int (0 : Int32)), .val (.int (1 : Int32)), .val (.int (0 : Int32)), .val (.int (nar .char c0))] [(.int ((nar .char c0).toInt8.toInt32)), (.int (0 : Int32)), (.ref b)])
  obtain ⟨cl2, Ar2, q2, S2, M2, H2, G2⟩ := id VB
  have hin2 : ¬ ((0 : Int32) < 0 ∨ cl2.slots.size ≤ ((0 : Int32)).toNatClampNeg) := inb_of S2 ⟨by decide, by decide⟩
  obtain ⟨T2, h2, X2, e2, W2, st2⟩ := stB X0 hx hZ e0 Ar2 (j := (0 : Int32)) hin2 (g := (mkF m 31 #[.val (.ref r), .val (.int (0 : Int32)), .val (.ref b), .val (.int (0 : Int32)), .val (.int (1 : Int32)), .val (.int (0 : Int32)), .val (.int (nar .char c0))] [(.int ((nar .char c0).toInt8.toInt32)), (.int (0 : Int32)), (.ref b)])) rfl rfl (hb hby own_d10_31)
  have V2 := Arv.set Ar2 q2 S2 M2 H2 G2 (fits_nar_byte _) W2 0 rfl (Nat.le_of_ble_eq_true rfl)
  have V2s : Arv Z h2 b kb .byte (1 : Int32) [(.int (nar .byte ((nar .char c0).toInt8.toInt32)))] (.int (0 : Int32)) := V2
  have N2 := Fr.snoc X2 N0 gb
  refine own_st st2 ?_
  have O0_x2 := O0.wr W2 gb
  have VR_x2 := VR.other W2 hrb
  have K0_x2 := K0.wr W2 (Or.inl (List.mem_of_getElem? (i := 0) rfl))
  show own_Rch p e below _ T2 (mkF m 32 #[.val (.ref r), .val (.int (0 : Int32)), .val (.ref b), .val (.int (0 : Int32)), .val (.int (1 : Int32)), .val (.int (0 : Int32)), .val (.int (nar .char c0))] [])
  refine own_st (fun _ kt => XS.iinc X2.here hx rfl (hb hby own_d10_32) rfl (l' := #[.val (.ref r), .val (.int (1 : Int32)), .val (.ref b), .val (.int (0 : Int32)), .val (.int (1 : Int32)), .val (.int (0 : Int32)), .val (.int (nar .char c0))]) rfl kt) ?_
  show own_Rch p e below _ T2 (mkF m 35 #[.val (.ref r), .val (.int (1 : Int32)), .val (.ref b), .val (.int (0 : Int32)), .val (.int (1 : Int32)), .val (.int (0 : Int32)), .val (.int (nar .char c0))] [])
  refine own_st (fun _ kt => XS.iinc X2.here hx rfl (hb hby own_d10_35) rfl (l' := #[.val (.ref r), .val (.int (1 : Int32)), .val (.ref b), .val (.int (1 : Int32)), .val (.int (1 : Int32)), .val (.int (0 : Int32)), .val (.int (nar .char c0))]) rfl kt) ?_
  show own_Rch p e below _ T2 (mkF m 38 #[.val (.ref r), .val (.int (1 : Int32)), .val (.ref b), .val (.int (1 : Int32)), .val (.int (1 : Int32)), .val (.int (0 : Int32)), .val (.int (nar .char c0))] [])
  refine own_st (fun _ kt => XS.iinc X2.here hx rfl (hb hby own_d10_38) rfl (l' := #[.val (.ref r), .val (.int (1 : Int32)), .val (.ref b), .val (.int (1 : Int32)), .val (.int (1 : Int32)), .val (.int (1 : Int32)), .val (.int (nar .char c0))]) rfl kt) ?_
  show own_Rch p e below _ T2 (mkF m 41 #[.val (.ref r), .val (.int (1 : Int32)), .val (.ref b), .val (.int (1 : Int32)), .val (.int (1 : Int32)), .val (.int (1 : Int32)), .val (.int (nar .char c0))] [])
  refine own_st (fun _ kt => XS.goto X2.here hx rfl (pc0 := 41) (pc' := 3) rfl (hb hby own_d10_41) (by decide) (by decide) kt) ?_
  show own_Rch p e below _ T2 (mkF m 3 #[.val (.ref r), .val (.int (1 : Int32)), .val (.ref b), .val (.int (1 : Int32)), .val (.int (1 : Int32)), .val (.int (1 : Int32)), .val (.int (nar .char c0))] [])
  refine own_st (fun _ kt => XS.iload X2.here hx rfl (hb hby own_d10_3) rfl  kt) ?_
  show own_Rch p e below _ T2 (mkF m 5 #[.val (.ref r), .val (.int (1 : Int32)), .val (.ref b), .val (.int (1 : Int32)), .val (.int (1 : Int32)), .val (.int (1 : Int32)), .val (.int (nar .char c0))] [(.int (1 : Int32))])
  refine own_st (fun _ kt => XS.iload X2.here hx rfl (hb hby own_d10_5) rfl  kt) ?_
  show own_Rch p e below _ T2 (mkF m 7 #[.val (.ref r), .val (.int (1 : Int32)), .val (.ref b), .val (.int (1 : Int32)), .val (.int (1 : Int32)), .val (.int (1 : Int32)), .val (.int (nar .char c0))] [(.int (1 : Int32)), (.int (1 : Int32))])
  refine own_st (fun _ kt => XS.icmpYes X2.here hx rfl (pc0 := 7) (pc' := 44) rfl (hb hby own_d10_7) rfl (flt ((by decide) : ¬ ((1 : Int32) < (1 : Int32)))).2.1 (by decide) (by decide) kt) ?_
  show own_Rch p e below _ T2 (mkF m 44 #[.val (.ref r), .val (.int (1 : Int32)), .val (.ref b), .val (.int (1 : Int32)), .val (.int (1 : Int32)), .val (.int (1 : Int32)), .val (.int (nar .char c0))] [])
  refine own_st (fun _ kt => XS.iload X2.here hx rfl (hb hby own_d10_44) rfl  kt) ?_
  show own_Rch p e below _ T2 (mkF m 46 #[.val (.ref r), .val (.int (1 : Int32)), .val (.ref b), .val (.int (1 : Int32)), .val (.int (1 : Int32)), .val (.int (1 : Int32)), .val (.int (nar .char c0))] [(.int (1 : Int32))])
  refine own_retI X2 hx Bd.notSynchronized Bd.returns (hb hby own_d10_46) (by decide) (by decide) ?_
  rw [e2]
  exact ⟨rfl, N2, K0_x2, V2s⟩
theorem own_ef9 (m : MethodId) (x0 : Addr) (x1 : Int32) (x2 : Int32) : entryFrame m #[(.ref x0), (.int x1), (.int x2)] 6 = mkF m 0 #[.val (.ref x0), .val (.int x1), .val (.int x2), .unset, .unset, .unset] [] := by first | (simp [entryFrame, mkF, argsToLocals, Value.category]; done) | rfl
theorem own_d9_0 : decode jdk_52_method_16_code 0 = .ok (.iload_n 2, 1) := by decide +kernel
theorem own_d9_1 : decode jdk_52_method_16_code 1 = .ok (.newarray .byte, 2) := by decide +kernel
theorem own_d9_3 : decode jdk_52_method_16_code 3 = .ok (.astore_n 3, 1) := by decide +kernel
theorem own_d9_4 : decode jdk_52_method_16_code 4 = .ok (.aload_n 0, 1) := by decide +kernel
theorem own_d9_5 : decode jdk_52_method_16_code 5 = .ok (.iload_n 1, 1) := by decide +kernel
theorem own_d9_6 : decode jdk_52_method_16_code 6 = .ok (.aload_n 3, 1) := by decide +kernel
theorem own_d9_7 : decode jdk_52_method_16_code 7 = .ok (.iconst 0, 1) := by decide +kernel
theorem own_d9_8 : decode jdk_52_method_16_code 8 = .ok (.iload_n 2, 1) := by decide +kernel
theorem own_d9_9 : decode jdk_52_method_16_code 9 = .ok (.invokestatic 115, 3) := by decide +kernel
theorem own_pd2 : parseMethodDescriptor "([CI[BII)I" = some ⟨[(.array .char), .int, (.array .byte), .int, .int], some .int⟩ := by decide +kernel
theorem own_d9_12 : decode jdk_52_method_16_code 12 = .ok (.istore 4, 2) := by decide +kernel
theorem own_d9_14 : decode jdk_52_method_16_code 14 = .ok (.iload 4, 2) := by decide +kernel
theorem own_d9_16 : decode jdk_52_method_16_code 16 = .ok (.iload_n 2, 1) := by decide +kernel
theorem own_d9_17 : decode jdk_52_method_16_code 17 = .ok (.if_icmp .eq 40, 3) := by decide +kernel
theorem own_d9_57 : decode jdk_52_method_16_code 57 = .ok (.aload_n 3, 1) := by decide +kernel
theorem own_d9_58 : decode jdk_52_method_16_code 58 = .ok (.areturn, 1) := by decide +kernel
def own_Q_own_c3_1 (Z : State) (r : Addr) (kr : ClassId) (c0 : Int32) (c1 : Int32) (h0 : Heap) (n0 : Nat) (v : Option Value) (h : Heap) (L : List Loc) : Prop := ∃ (b : Addr) (kb : ClassId), v = some (.ref b) ∧ Fr n0 L ∧ Keep h0 h [] ∧ h0.size ≤ b ∧ Arv Z h b kb .byte (1 : Int32) [(.int (own_b c0))] (.int (0 : Int32))
set_option maxRecDepth 65536 in
set_option maxHeartbeats 40000000 in
theorem own_c3_1 (l : Launch) (Z : State) (a0 : Array Value) (hw : ∀ d ∈ tables_1, d.before a0 Z = true) (ws : List Jvm.Cond) (r : Addr) (kr : ClassId) (c0 : Int32) (c1 : Int32) (h0 : Heap) (n0 : Nat) (O0 : Old Z n0 h0) (VR : Arv Z h0 r kr .char (1 : Int32) [(.int (nar .char c0))] (.int (0 : Int32))) (hc0 : own_ch c0) (hc1 : own_ch c1) :
    MetFree l (⟨"java/lang/StringUTF16", "compress", "([CII)[B"⟩ : MethodName) (head1 (Jvm.Cond.code (⟨"java/lang/StringUTF16", "compress", "([CII)[B"⟩ : MethodName) jdk_52_method_16_code 6 (some (.array .byte)) :: ws) ({ frames := 1, cells := 1, slots := 1, locals := 18 } : Room)) (fun args_ U => args_ = #[(.ref r), (.int (0 : Int32)), (.int (1 : Int32))] ∧ Z.Warmed39 U.vm ∧ U.heap = h0) (fun _ _ _ _ _ => True) (fun _ U o U' => ∃ v L, o = .returned v ∧ (own_Q_own_c3_1 Z r kr c0 c1 h0 n0) v U'.heap L ∧ FrameEnd U o U' L ({ frames := 1, cells := 1, slots := 1, locals := 18 } : Room).cells ({ frames := 1, cells := 1, slots := 1, locals := 18 } : Room).slots) := by
  refine MetFree.of_bodySF (plainFor_of_name own_pn3) hisR ?_
  intro p e s m args below meth c s₁ Bd hml0 hP hK
  obtain ⟨rfl, hZ, hh⟩ := hP
  have hx := Bd.exec
  have hby := Bd.bytes
  have hml : c.maxLocals = 6 := hml0
  have hown : s.vm.findClass "java/lang/StringUTF16" = some m.cls := findClass_of_methodNamed Bd.named
  have hnm := (name_of_methodNamed Bd.named Bd.method).1
  have X0 : Stand p l e ({ frames := 1, cells := 1, slots := 1, locals := 18 } : Room) s m #[(.ref r), (.int (0 : Int32)), (.int (1 : Int32))] below meth c s₁ [] 0 0 := Stand.of_body Bd
  have e0 : s₁.heap = h0 := by rw [← hh, Bd.state]; rfl
  have N0 := Fr.nil n0
  refine own_close (s := s) (Q := (own_Q_own_c3_1 Z r kr c0 c1 h0 n0)) (C := (({ frames := 1, cells := 1, slots := 1, locals := 18 } : Room)).cells) (N := (({ frames := 1, cells := 1, slots := 1, locals := 18 } : Room)).slots) (own_st (fun _ kt => castTop (own_ef9 m r (0 : Int32) (1 : Int32)) kt) ?_)
  have K0 := Keep.refl h0 []
  show own_Rch p e below _ s₁ (mkF m 0 #[.val (.ref r), .val (.int (0 : Int32)), .val (.int (1 : Int32)), .unset, .unset, .unset] [])
  refine own_st (fun _ kt => XS.iloadN X0.here hx rfl (hb hby own_d9_0) rfl  kt) ?_
  show own_Rch p e below _ s₁ (mkF m 1 #[.val (.ref r), .val (.int (0 : Int32)), .val (.int (1 : Int32)), .unset, .unset, .unset] [(.int (1 : Int32))])
  obtain ⟨T1, h1, k1, X1, e1, E1, A1, st1⟩ := newP X0 hx hZ (hw _ (List.mem_of_getElem? (i := 19) rfl)) e0 (g := (mkF m 1 #[.val (.ref r), .val (.int (0 : Int32)), .val (.int (1 : Int32)), .unset, .unset, .unset] [(.int (1 : Int32))])) rfl (hb hby own_d9_1) rfl (by decide) (cap := 1) (by decide) (by decide) (by decide) (by decide)
  obtain ⟨b1, g1⟩ : ∃ z, z = h0.size := ⟨_, rfl⟩
  rw [← g1] at A1 st1
  have ge1 : n0 ≤ b1 := by rw [g1]; exact own_old_le O0
  have ne1_r : r ≠ b1 := by rw [g1]; exact Nat.ne_of_lt VR.lt
  have sz1 : h0.size ≤ b1 := by rw [g1]; exact K0.1
  have O0_x1 := O0.ext E1
  have VR_x1 := VR.ext E1
  have K0_x1 := K0.ext E1
  refine own_st st1 ?_
  have V1 := Arv.new A1 (by decide)
  have V1p : Arv Z h1 b1 k1 .byte (1 : Int32) [(.int (0 : Int32))] (.int (0 : Int32)) := V1.pad (pad_rep [] (.int (0 : Int32)) 1)
  show own_Rch p e below _ T1 (mkF m 3 #[.val (.ref r), .val (.int (0 : Int32)), .val (.int (1 : Int32)), .unset, .unset, .unset] [(.ref b1)])
  refine own_st (fun _ kt => XS.astoreN X1.here hx rfl (hb hby own_d9_3) rfl rfl (l' := #[.val (.ref r), .val (.int (0 : Int32)), .val (.int (1 : Int32)), .val (.ref b1), .unset, .unset]) rfl kt) ?_
  show own_Rch p e below _ T1 (mkF m 4 #[.val (.ref r), .val (.int (0 : Int32)), .val (.int (1 : Int32)), .val (.ref b1), .unset, .unset] [])
  refine own_st (fun _ kt => XS.aloadN X1.here hx rfl (hb hby own_d9_4) rfl rfl  kt) ?_
  show own_Rch p e below _ T1 (mkF m 5 #[.val (.ref r), .val (.int (0 : Int32)), .val (.int (1 : Int32)), .val (.ref b1), .unset, .unset] [(.ref r)])
  refine own_st (fun _ kt => XS.iloadN X1.here hx rfl (hb hby own_d9_5) rfl  kt) ?_
  show own_Rch p e below _ T1 (mkF m 6 #[.val (.ref r), .val (.int (0 : Int32)), .val (.int (1 : Int32)), .val (.ref b1), .unset, .unset] [(.int (0 : Int32)), (.ref r)])
  refine own_st (fun _ kt => XS.aloadN X1.here hx rfl (hb hby own_d9_6) rfl rfl  kt) ?_
  show own_Rch p e below _ T1 (mkF m 7 #[.val (.ref r), .val (.int (0 : Int32)), .val (.int (1 : Int32)), .val (.ref b1), .unset, .unset] [(.ref b1), (.int (0 : Int32)), (.ref r)])
  refine own_st (fun _ kt => XS.iconst X1.here hx rfl (hb hby own_d9_7) kt) ?_
  show own_Rch p e below _ T1 (mkF m 8 #[.val (.ref r), .val (.int (0 : Int32)), .val (.int (1 : Int32)), .val (.ref b1), .unset, .unset] [(.int (0 : Int32)), (.ref b1), (.int (0 : Int32)), (.ref r)])
  refine own_st (fun _ kt => XS.iloadN X1.here hx rfl (hb hby own_d9_8) rfl  kt) ?_
  show own_Rch p e below _ T1 (mkF m 9 #[.val (.ref r), .val (.int (0 : Int32)), .val (.int (1 : Int32)), .val (.ref b1), .unset, .unset] [(.int (1 : Int32)), (.int (0 : Int32)), (.ref b1), (.int (0 : Int32)), (.ref r)])
  obtain ⟨_, _, ⟨T2, L2, k2, n2⟩, -, X2, ⟨Lc2, hQ2, l2, y2, z2⟩, st2⟩ := Jvm.LawKit.callS X1 hx (y := (⟨"java/lang/StringUTF16", "compress", "([CI[BII)I"⟩ : MethodName)) hown (mvT hZ (hw _ (List.mem_of_getElem? (i := 57) rfl))) (mvT hZ (hw _ (List.mem_of_getElem? (i := 58) rfl))) (mvT hZ (hw _ (List.mem_of_getElem? (i := 55) rfl))) (mvT hZ (hw _ (List.mem_of_getElem? (i := 59) rfl))) (by decide) (backOf (W := 0) (own_c5_1 l Z a0 hw [] r kr b1 k1 c0 c1 h1 n0 O0_x1 VR_x1 V1p ge1 ne1_r hc0 hc1) hZ (hw _ (List.mem_of_getElem? (i := 59) rfl)) (hw _ (List.mem_of_getElem? (i := 55) rfl)) (by decide) (by decide)) (g := (mkF m 9 #[.val (.ref r), .val (.int (0 : Int32)), .val (.int (1 : Int32)), .val (.ref b1), .unset, .unset] [(.int (1 : Int32)), (.int (0 : Int32)), (.ref b1), (.int (0 : Int32)), (.ref r)])) rfl (by rw [hml]; rfl) (argsL := [(.ref r), (.int (0 : Int32)), (.ref b1), (.int (0 : Int32)), (.int (1 : Int32))]) (rest := []) (lenOf own_pd2 rfl) rfl (by show 2 * 0 + _ ≤ _; exact Nat.le_of_eq rfl) (hb hby own_d9_9) (fun _ _ => ⟨rfl, e1, (by decide : 1 + 0 ≤ _), (by decide : 1 + 0 ≤ _)⟩)
  dsimp only [Pt.U, Pt.locs, Pt.cells, Pt.slots] at X2 l2 y2 z2 st2 hQ2
  subst l2 y2 z2
  obtain ⟨rfl, N2q, K2, Vb2⟩ := hQ2
  have N2 := Fr.app N0 N2q
  refine own_st st2 ?_
  have O0_x2 := O0_x1.keep K2 (allS ge1 all0)
  have VR_x2 := VR_x1.keep K2 (ninS ne1_r nin0)
  have K0_x2 := K0_x1.trans K2 (allS (Or.inr sz1) all0)
  show own_Rch p e below _ T2 (mkF m 12 #[.val (.ref r), .val (.int (0 : Int32)), .val (.int (1 : Int32)), .val (.ref b1), .unset, .unset] [(.int (1 : Int32))])
  refine own_st (fun _ kt => XS.istore X2.here hx rfl (hb hby own_d9_12) rfl (l' := #[.val (.ref r), .val (.int (0 : Int32)), .val (.int (1 : Int32)), .val (.ref b1), .val (.int (1 : Int32)), .unset]) rfl kt) ?_
  show own_Rch p e below _ T2 (mkF m 14 #[.val (.ref r), .val (.int (0 : Int32)), .val (.int (1 : Int32)), .val (.ref b1), .val (.int (1 : Int32)), .unset] [])
  refine own_st (fun _ kt => XS.iload X2.here hx rfl (hb hby own_d9_14) rfl  kt) ?_
  show own_Rch p e below _ T2 (mkF m 16 #[.val (.ref r), .val (.int (0 : Int32)), .val (.int (1 : Int32)), .val (.ref b1), .val (.int (1 : Int32)), .unset] [(.int (1 : Int32))])
  refine own_st (fun _ kt => XS.iloadN X2.here hx rfl (hb hby own_d9_16) rfl  kt) ?_
  show own_Rch p e below _ T2 (mkF m 17 #[.val (.ref r), .val (.int (0 : Int32)), .val (.int (1 : Int32)), .val (.ref b1), .val (.int (1 : Int32)), .unset] [(.int (1 : Int32)), (.int (1 : Int32))])
  refine own_st (fun _ kt => XS.icmpYes X2.here hx rfl (pc0 := 17) (pc' := 57) rfl (hb hby own_d9_17) rfl (teq (rfl : (1 : Int32) = (1 : Int32))).1 (by decide) (by decide) kt) ?_
  show own_Rch p e below _ T2 (mkF m 57 #[.val (.ref r), .val (.int (0 : Int32)), .val (.int (1 : Int32)), .val (.ref b1), .val (.int (1 : Int32)), .unset] [])
  refine own_st (fun _ kt => XS.aloadN X2.here hx rfl (hb hby own_d9_57) rfl rfl  kt) ?_
  show own_Rch p e below _ T2 (mkF m 58 #[.val (.ref r), .val (.int (0 : Int32)), .val (.int (1 : Int32)), .val (.ref b1), .val (.int (1 : Int32)), .unset] [(.ref b1)])
  refine own_retA rfl rfl X2 hx Bd.notSynchronized Bd.returns (hb hby own_d9_58) (by decide) (by decide) ?_
  exact ⟨_, _, rfl, N2, K0_x2, sz1, Vb2⟩
theorem own_ef11 (m : MethodId) (x0 : Addr) (x1 : Int32) : entryFrame m #[(.ref x0), (.int x1)] 2 = mkF m 0 #[.val (.ref x0), .val (.int x1)] [] := by first | (simp [entryFrame, mkF, argsToLocals, Value.category]; done) | rfl
theorem own_d11_0 : decode jdk_52_method_15_code 0 = .ok (.iload_n 1, 1) := by decide +kernel
theorem own_d11_1 : decode jdk_52_method_15_code 1 = .ok (.aload_n 0, 1) := by decide +kernel
theorem own_d11_2 : decode jdk_52_method_15_code 2 = .ok (.arraylength, 1) := by decide +kernel
theorem own_d11_3 : decode jdk_52_method_15_code 3 = .ok (.isub, 1) := by decide +kernel
theorem own_d11_4 : decode jdk_52_method_15_code 4 = .ok (.bipush 31, 2) := by decide +kernel
theorem own_d11_6 : decode jdk_52_method_15_code 6 = .ok (.iushr, 1) := by decide +kernel
theorem own_d11_7 : decode jdk_52_method_15_code 7 = .ok (.i2b, 1) := by decide +kernel
theorem own_d11_8 : decode jdk_52_method_15_code 8 = .ok (.ireturn, 1) := by decide +kernel
def own_Q_own_cf_1 (Z : State) (b : Addr) (kb : ClassId) (vs : List Value) (h0 : Heap) (n0 : Nat) (v : Option Value) (h : Heap) (L : List Loc) : Prop := v = some (.int (0 : Int32)) ∧ Fr n0 L ∧ h = h0
set_option maxRecDepth 65536 in
set_option maxHeartbeats 40000000 in
theorem own_cf_1 (l : Launch) (Z : State) (a0 : Array Value) (hw : ∀ d ∈ tables_1, d.before a0 Z = true) (ws : List Jvm.Cond) (b : Addr) (kb : ClassId) (vs : List Value) (h0 : Heap) (n0 : Nat) (O0 : Old Z n0 h0) (VB : Arv Z h0 b kb .byte (1 : Int32) vs (.int (0 : Int32))) :
    MetFree l (⟨"java/lang/StringUTF16", "coderFromArrayLen", "([BI)B"⟩ : MethodName) (head1 (Jvm.Cond.code (⟨"java/lang/StringUTF16", "coderFromArrayLen", "([BI)B"⟩ : MethodName) jdk_52_method_15_code 2 (some .byte) :: ws) ({ frames := 0, cells := 0, slots := 0, locals := 0 } : Room)) (fun args_ U => args_ = #[(.ref b), (.int (1 : Int32))] ∧ Z.Warmed39 U.vm ∧ U.heap = h0) (fun _ _ _ _ _ => True) (fun _ U o U' => ∃ v L, o = .returned v ∧ (own_Q_own_cf_1 Z b kb vs h0 n0) v U'.heap L ∧ FrameEnd U o U' L ({ frames := 0, cells := 0, slots := 0, locals := 0 } : Room).cells ({ frames := 0, cells := 0, slots := 0, locals := 0 } : Room).slots) := by
  refine MetFree.of_bodySF (plainFor_of_name own_pn3) hisR ?_
  intro p e s m args below meth c s₁ Bd hml0 hP hK
  obtain ⟨rfl, hZ, hh⟩ := hP
  have hx := Bd.exec
  have hby := Bd.bytes
  have hml : c.maxLocals = 2 := hml0
  have hown : s.vm.findClass "java/lang/StringUTF16" = some m.cls := findClass_of_methodNamed Bd.named
  have hnm := (name_of_methodNamed Bd.named Bd.method).1
  have X0 : Stand p l e ({ frames := 0, cells := 0, slots := 0, locals := 0 } : Room) s m #[(.ref b), (.int (1 : Int32))] below meth c s₁ [] 0 0 := Stand.of_body Bd
  have e0 : s₁.heap = h0 := by rw [← hh, Bd.state]; rfl
  have N0 := Fr.nil n0
  refine own_close (s := s) (Q := (own_Q_own_cf_1 Z b kb vs h0 n0)) (C := (({ frames := 0, cells := 0, slots := 0, locals := 0 } : Room)).cells) (N := (({ frames := 0, cells := 0, slots := 0, locals := 0 } : Room)).slots) (own_st (fun _ kt => castTop (own_ef11 m b (1 : Int32)) kt) ?_)
  show own_Rch p e below _ s₁ (mkF m 0 #[.val (.ref b), .val (.int (1 : Int32))] [])
  refine own_st (fun _ kt => XS.iloadN X0.here hx rfl (hb hby own_d11_0) rfl  kt) ?_
  show own_Rch p e below _ s₁ (mkF m 1 #[.val (.ref b), .val (.int (1 : Int32))] [(.int (1 : Int32))])
  refine own_st (fun _ kt => XS.aloadN X0.here hx rfl (hb hby own_d11_1) rfl rfl  kt) ?_
  show own_Rch p e below _ s₁ (mkF m 2 #[.val (.ref b), .val (.int (1 : Int32))] [(.ref b), (.int (1 : Int32))])
  obtain ⟨cl1, Ar1, -, S1, M1, -, -⟩ := id VB
  refine own_st (X0.arraylength hx (by rw [e0]; exact Ar1.1) (State.isArrayOf_alike (hZ).alike Ar1.2.1) (g := (mkF m 2 #[.val (.ref b), .val (.int (1 : Int32))] [(.ref b), (.int (1 : Int32))])) rfl rfl (hb hby own_d11_2)) ?_
  rw [len_of S1 M1]
  show own_Rch p e below _ s₁ (mkF m 3 #[.val (.ref b), .val (.int (1 : Int32))] [(.int (1 : Int32)), (.int (1 : Int32))])
  refine own_st (fun _ kt => XS.isub X0.here hx rfl (hb hby own_d11_3) rfl kt) ?_
  show own_Rch p e below _ s₁ (mkF m 4 #[.val (.ref b), .val (.int (1 : Int32))] [(.int (0 : Int32))])
  refine own_st (fun _ kt => XS.bipush X0.here hx rfl (hb hby own_d11_4) kt) ?_
  show own_Rch p e below _ s₁ (mkF m 6 #[.val (.ref b), .val (.int (1 : Int32))] [(.int (31 : Int32)), (.int (0 : Int32))])
  refine own_st (fun _ kt => XS.iushr X0.here hx rfl (hb hby own_d11_6) rfl kt) ?_
  show own_Rch p e below _ s₁ (mkF m 7 #[.val (.ref b), .val (.int (1 : Int32))] [(.int (((0 : Int32).toUInt32 >>> ((31 : Int32) &&& 31).toUInt32).toInt32))])
  refine own_st (fun _ kt => XS.i2b X0.here hx rfl (hb hby own_d11_7) rfl kt) ?_
  show own_Rch p e below _ s₁ (mkF m 8 #[.val (.ref b), .val (.int (1 : Int32))] [(.int ((((0 : Int32).toUInt32 >>> ((31 : Int32) &&& 31).toUInt32).toInt32).toInt8.toInt32))])
  refine own_retN (t := .byte) (by simp) X0 hx Bd.notSynchronized Bd.returns (hb hby own_d11_8) (by decide) (by decide) ?_
  rw [e0]
  exact ⟨by decide, N0, rfl⟩
theorem own_ef3n4 (m : MethodId) (x0 : Addr) (x1 : Addr) (x2 : Int32) (x3 : Int32) : entryFrame m #[(.ref x0), (.ref x1), (.int x2), (.int x3), .null] 6 = mkF m 0 #[.val (.ref x0), .val (.ref x1), .val (.int x2), .val (.int x3), .val .null, .unset] [] := by first | (simp [entryFrame, mkF, argsToLocals, Value.category]; done) | rfl
theorem own_d3_0 : decode jdk_42_method_149_code 0 = .ok (.aload_n 0, 1) := by decide +kernel
theorem own_d3_1 : decode jdk_42_method_149_code 1 = .ok (.invokespecial 1, 3) := by decide +kernel
theorem own_d3_4 : decode jdk_42_method_149_code 4 = .ok (.iload_n 3, 1) := by decide +kernel
theorem own_d3_5 : decode jdk_42_method_149_code 5 = .ok (.ifCond .ne 22, 3) := by decide +kernel
theorem own_d3_27 : decode jdk_42_method_149_code 27 = .ok (.getstatic 38, 3) := by decide +kernel
theorem own_d3_30 : decode jdk_42_method_149_code 30 = .ok (.ifCond .eq 28, 3) := by decide +kernel
theorem own_d3_33 : decode jdk_42_method_149_code 33 = .ok (.aload_n 1, 1) := by decide +kernel
theorem own_d3_34 : decode jdk_42_method_149_code 34 = .ok (.iload_n 2, 1) := by decide +kernel
theorem own_d3_35 : decode jdk_42_method_149_code 35 = .ok (.iload_n 3, 1) := by decide +kernel
theorem own_d3_36 : decode jdk_42_method_149_code 36 = .ok (.invokestatic 177, 3) := by decide +kernel
theorem own_pd3 : parseMethodDescriptor "([CII)[B" = some ⟨[(.array .char), .int, .int], some (.array .byte)⟩ := by decide +kernel
theorem own_d3_39 : decode jdk_42_method_149_code 39 = .ok (.astore 5, 2) := by decide +kernel
theorem own_d3_41 : decode jdk_42_method_149_code 41 = .ok (.aload_n 0, 1) := by decide +kernel
theorem own_d3_42 : decode jdk_42_method_149_code 42 = .ok (.aload 5, 2) := by decide +kernel
theorem own_d3_44 : decode jdk_42_method_149_code 44 = .ok (.iload_n 3, 1) := by decide +kernel
theorem own_d3_45 : decode jdk_42_method_149_code 45 = .ok (.invokestatic 47, 3) := by decide +kernel
theorem own_pd4 : parseMethodDescriptor "([BI)B" = some ⟨[(.array .byte), .int], some .byte⟩ := by decide +kernel
theorem own_d3_48 : decode jdk_42_method_149_code 48 = .ok (.putfield 15, 3) := by decide +kernel
theorem own_d3_51 : decode jdk_42_method_149_code 51 = .ok (.aload_n 0, 1) := by decide +kernel
theorem own_d3_52 : decode jdk_42_method_149_code 52 = .ok (.aload 5, 2) := by decide +kernel
theorem own_d3_54 : decode jdk_42_method_149_code 54 = .ok (.putfield 9, 3) := by decide +kernel
theorem own_d3_57 : decode jdk_42_method_149_code 57 = .ok (.return_, 1) := by decide +kernel
def own_Q_own_i5_1 (Z : State) (a : Addr) (r : Addr) (kr : ClassId) (c0 : Int32) (c1 : Int32) (cs : Int32) (h0 : Heap) (n0 : Nat) (v : Option Value) (h : Heap) (L : List Loc) : Prop := v = none ∧ Fr n0 L ∧ Keep h0 h [a] ∧ ∃ (y : Addr) (ky : ClassId), Exa Z h a "java/lang/String" ∧ Fld Z h a "java/lang/String" "value" "[B" (.ref y) ∧ Fld Z h a "java/lang/String" "coder" "B" (.int (0 : Int32)) ∧ Arv Z h y ky .byte (1 : Int32) [(.int (own_b c0))] (.int (0 : Int32))
set_option maxRecDepth 65536 in
set_option maxHeartbeats 40000000 in
theorem own_i5_1 (l : Launch) (Z : State) (a0 : Array Value) (hw : ∀ d ∈ tables_1, d.before a0 Z = true) (ws : List Jvm.Cond) (a : Addr) (r : Addr) (kr : ClassId) (c0 : Int32) (c1 : Int32) (cs : Int32) (h0 : Heap) (n0 : Nat) (O0 : Old Z n0 h0) (SC : Sta Z Z.heap "java/lang/String" "COMPACT_STRINGS" "Z" (.int cs)) (hcs : ¬ cs = 0) (VR : Arv Z h0 r kr .char (1 : Int32) [(.int (nar .char c0))] (.int (0 : Int32))) (EA : Exa Z h0 a "java/lang/String") (FV : Fld Z h0 a "java/lang/String" "value" "[B" .null) (FC : Fld Z h0 a "java/lang/String" "coder" "B" (.int (0 : Int32))) (ga : n0 ≤ a) (hc0 : own_ch c0) (hc1 : own_ch c1) :
    MetFree l (⟨"java/lang/String", "<init>", "([CIILjava/lang/Void;)V"⟩ : MethodName) (head1 (Jvm.Cond.code (⟨"java/lang/String", "<init>", "([CIILjava/lang/Void;)V"⟩ : MethodName) jdk_42_method_149_code 6 none :: ws) ({ frames := 2, cells := 1, slots := 1, locals := 35 } : Room)) (fun args_ U => args_ = #[(.ref a), (.ref r), (.int (0 : Int32)), (.int (1 : Int32)), .null] ∧ Z.Warmed39 U.vm ∧ U.heap = h0) (fun _ _ _ _ _ => True) (fun _ U o U' => ∃ v L, o = .returned v ∧ (own_Q_own_i5_1 Z a r kr c0 c1 cs h0 n0) v U'.heap L ∧ FrameEnd U o U' L ({ frames := 2, cells := 1, slots := 1, locals := 35 } : Room).cells ({ frames := 2, cells := 1, slots := 1, locals := 35 } : Room).slots) := by
  refine MetFree.of_bodySF (plainFor_of_name own_pn1) hisR ?_
  intro p e s m args below meth c s₁ Bd hml0 hP hK
  obtain ⟨rfl, hZ, hh⟩ := hP
  have hx := Bd.exec
  have hby := Bd.bytes
  have hml : c.maxLocals = 6 := hml0
  have hown : s.vm.findClass "java/lang/String" = some m.cls := findClass_of_methodNamed Bd.named
  have hnm := (name_of_methodNamed Bd.named Bd.method).1
  have X0 : Stand p l e ({ frames := 2, cells := 1, slots := 1, locals := 35 } : Room) s m #[(.ref a), (.ref r), (.int (0 : Int32)), (.int (1 : Int32)), .null] below meth c s₁ [] 0 0 := Stand.of_body Bd
  have e0 : s₁.heap = h0 := by rw [← hh, Bd.state]; rfl
  have N0 := Fr.nil n0
  refine own_close (s := s) (Q := (own_Q_own_i5_1 Z a r kr c0 c1 cs h0 n0)) (C := (({ frames := 2, cells := 1, slots := 1, locals := 35 } : Room)).cells) (N := (({ frames := 2, cells := 1, slots := 1, locals := 35 } : Room)).slots) (own_st (fun _ kt => castTop (own_ef3n4 m a r (0 : Int32) (1 : Int32)) kt) ?_)
  have K0 := Keep.refl h0 [a]
  show own_Rch p e below _ s₁ (mkF m 0 #[.val (.ref a), .val (.ref r), .val (.int (0 : Int32)), .val (.int (1 : Int32)), .val .null, .unset] [])
  refine own_st (fun _ kt => XS.aloadN X0.here hx rfl (hb hby own_d3_0) rfl rfl  kt) ?_
  show own_Rch p e below _ s₁ (mkF m 1 #[.val (.ref a), .val (.ref r), .val (.int (0 : Int32)), .val (.int (1 : Int32)), .val .null, .unset] [(.ref a)])
  obtain ⟨T1, X1, e1, st1⟩ := initO X0 hx hZ hown (hw _ (List.mem_of_getElem? (i := 15) rfl)) (hw _ (List.mem_of_getElem? (i := 16) rfl)) (hw _ (List.mem_of_getElem? (i := 17) rfl)) e0 (g := (mkF m 1 #[.val (.ref a), .val (.ref r), .val (.int (0 : Int32)), .val (.int (1 : Int32)), .val .null, .unset] [(.ref a)])) rfl (by rw [hml]; rfl) rfl (hb hby own_d3_1) (by decide) (W := 0) (by show 2 * 0 + _ ≤ _; exact Nat.le_of_eq rfl) (by decide)
  refine own_st st1 ?_
  show own_Rch p e below _ T1 (mkF m 4 #[.val (.ref a), .val (.ref r), .val (.int (0 : Int32)), .val (.int (1 : Int32)), .val .null, .unset] [])
  refine own_st (fun _ kt => XS.iloadN X1.here hx rfl (hb hby own_d3_4) rfl  kt) ?_
  show own_Rch p e below _ T1 (mkF m 5 #[.val (.ref a), .val (.ref r), .val (.int (0 : Int32)), .val (.int (1 : Int32)), .val .null, .unset] [(.int (1 : Int32))])
  refine own_st (fun _ kt => XS.ifYes X1.here hx rfl (pc0 := 5) (pc' := 27) rfl (hb hby own_d3_5) rfl ((if0 _ _).trans (feq ((by decide) : ¬ ((1 : Int32) = (0 : Int32)))).2) (by decide) (by decide) kt) ?_
  show own_Rch p e below _ T1 (mkF m 27 #[.val (.ref a), .val (.ref r), .val (.int (0 : Int32)), .val (.int (1 : Int32)), .val .null, .unset] [])
  obtain ⟨T2, X2, e2, st2⟩ := getS2 X1 hx hZ hown (host := "") (Or.inl (hw _ (List.mem_of_getElem? (i := 48) rfl))) Via.refl e1 (SC.ext O0.2) (g := (mkF m 27 #[.val (.ref a), .val (.ref r), .val (.int (0 : Int32)), .val (.int (1 : Int32)), .val .null, .unset] [])) rfl (hb hby own_d3_27)
  refine own_st st2 ?_
  show own_Rch p e below _ T2 (mkF m 30 #[.val (.ref a), .val (.ref r), .val (.int (0 : Int32)), .val (.int (1 : Int32)), .val .null, .unset] [(.int cs)])
  refine own_st (fun _ kt => XS.ifNo X2.here hx rfl (hb hby own_d3_30) rfl ((if0 _ _).trans (feq (hcs : ¬ (cs = (0 : Int32)))).1) kt) ?_
  show own_Rch p e below _ T2 (mkF m 33 #[.val (.ref a), .val (.ref r), .val (.int (0 : Int32)), .val (.int (1 : Int32)), .val .null, .unset] [])
  refine own_st (fun _ kt => XS.aloadN X2.here hx rfl (hb hby own_d3_33) rfl rfl  kt) ?_
  show own_Rch p e below _ T2 (mkF m 34 #[.val (.ref a), .val (.ref r), .val (.int (0 : Int32)), .val (.int (1 : Int32)), .val .null, .unset] [(.ref r)])
  refine own_st (fun _ kt => XS.iloadN X2.here hx rfl (hb hby own_d3_34) rfl  kt) ?_
  show own_Rch p e below _ T2 (mkF m 35 #[.val (.ref a), .val (.ref r), .val (.int (0 : Int32)), .val (.int (1 : Int32)), .val .null, .unset] [(.int (0 : Int32)), (.ref r)])
  refine own_st (fun _ kt => XS.iloadN X2.here hx rfl (hb hby own_d3_35) rfl  kt) ?_
  show own_Rch p e below _ T2 (mkF m 36 #[.val (.ref a), .val (.ref r), .val (.int (0 : Int32)), .val (.int (1 : Int32)), .val .null, .unset] [(.int (1 : Int32)), (.int (0 : Int32)), (.ref r)])
  obtain ⟨_, _, ⟨T3, L3, k3, n3⟩, -, X3, ⟨Lc3, hQ3, l3, y3, z3⟩, st3⟩ := Jvm.LawKit.callS X2 hx (y := (⟨"java/lang/StringUTF16", "compress", "([CII)[B"⟩ : MethodName)) hown (mvT hZ (hw _ (List.mem_of_getElem? (i := 53) rfl))) (mvT hZ (hw _ (List.mem_of_getElem? (i := 54) rfl))) (mvT hZ (hw _ (List.mem_of_getElem? (i := 55) rfl))) (mvT hZ (hw _ (List.mem_of_getElem? (i := 56) rfl))) (by decide) (backOf (W := 0) (own_c3_1 l Z a0 hw [] r kr c0 c1 h0 n0 O0 VR hc0 hc1) hZ (hw _ (List.mem_of_getElem? (i := 56) rfl)) (hw _ (List.mem_of_getElem? (i := 55) rfl)) (by decide) (by decide)) (g := (mkF m 36 #[.val (.ref a), .val (.ref r), .val (.int (0 : Int32)), .val (.int (1 : Int32)), .val .null, .unset] [(.int (1 : Int32)), (.int (0 : Int32)), (.ref r)])) rfl (by rw [hml]; rfl) (argsL := [(.ref r), (.int (0 : Int32)), (.int (1 : Int32))]) (rest := []) (lenOf own_pd3 rfl) rfl (by show 2 * 0 + _ ≤ _; exact Nat.le_of_eq rfl) (hb hby own_d3_36) (fun _ _ => ⟨rfl, e2, (by decide : 0 + 1 ≤ _), (by decide : 0 + 1 ≤ _)⟩)
  dsimp only [Pt.U, Pt.locs, Pt.cells, Pt.slots] at X3 l3 y3 z3 st3 hQ3
  subst l3 y3 z3
  obtain ⟨by3, kb3, rfl, N3q, K3, hb3, Vb3⟩ := hQ3
  have N3 := Fr.app N0 N3q
  refine own_st st3 ?_
  have ne3_r_by3 : r ≠ by3 := Nat.ne_of_lt (Nat.lt_of_lt_of_le VR.lt hb3)
  have ne3_a_by3 : a ≠ by3 := Nat.ne_of_lt (Nat.lt_of_lt_of_le EA.lt hb3)
  have ge3_by3 : n0 ≤ by3 := Nat.le_trans (own_old_le O0) hb3
  have sz3_by3 : h0.size ≤ by3 := Nat.le_trans K0.1 hb3
  have O0_x3 := O0.keep K3 all0
  have VR_x3 := VR.keep K3 nin0
  have EA_x3 := EA.keep K3
  have FV_x3 := FV.keep K3 nin0
  have FC_x3 := FC.keep K3 nin0
  have K0_x3 := K0.trans K3 all0
  show own_Rch p e below _ T3 (mkF m 39 #[.val (.ref a), .val (.ref r), .val (.int (0 : Int32)), .val (.int (1 : Int32)), .val .null, .unset] [(.ref by3)])
  refine own_st (fun _ kt => XS.astore X3.here hx rfl (hb hby own_d3_39) rfl rfl (l' := #[.val (.ref a), .val (.ref r), .val (.int (0 : Int32)), .val (.int (1 : Int32)), .val .null, .val (.ref by3)]) rfl kt) ?_
  show own_Rch p e below _ T3 (mkF m 41 #[.val (.ref a), .val (.ref r), .val (.int (0 : Int32)), .val (.int (1 : Int32)), .val .null, .val (.ref by3)] [])
  refine own_st (fun _ kt => XS.aloadN X3.here hx rfl (hb hby own_d3_41) rfl rfl  kt) ?_
  show own_Rch p e below _ T3 (mkF m 42 #[.val (.ref a), .val (.ref r), .val (.int (0 : Int32)), .val (.int (1 : Int32)), .val .null, .val (.ref by3)] [(.ref a)])
  refine own_st (fun _ kt => XS.aload X3.here hx rfl (hb hby own_d3_42) rfl rfl  kt) ?_
  show own_Rch p e below _ T3 (mkF m 44 #[.val (.ref a), .val (.ref r), .val (.int (0 : Int32)), .val (.int (1 : Int32)), .val .null, .val (.ref by3)] [(.ref by3), (.ref a)])
  refine own_st (fun _ kt => XS.iloadN X3.here hx rfl (hb hby own_d3_44) rfl  kt) ?_
  show own_Rch p e below _ T3 (mkF m 45 #[.val (.ref a), .val (.ref r), .val (.int (0 : Int32)), .val (.int (1 : Int32)), .val .null, .val (.ref by3)] [(.int (1 : Int32)), (.ref by3), (.ref a)])
  obtain ⟨_, _, ⟨T4, L4, k4, n4⟩, -, X4, ⟨Lc4, hQ4, l4, y4, z4⟩, st4⟩ := Jvm.LawKit.callS X3 hx (y := (⟨"java/lang/StringUTF16", "coderFromArrayLen", "([BI)B"⟩ : MethodName)) hown (mvT hZ (hw _ (List.mem_of_getElem? (i := 60) rfl))) (mvT hZ (hw _ (List.mem_of_getElem? (i := 61) rfl))) (mvT hZ (hw _ (List.mem_of_getElem? (i := 55) rfl))) (mvT hZ (hw _ (List.mem_of_getElem? (i := 62) rfl))) (by decide) (backOf (W := 1) (own_cf_1 l Z a0 hw [] by3 kb3 _ T3.heap n0 O0_x3 Vb3) hZ (hw _ (List.mem_of_getElem? (i := 62) rfl)) (hw _ (List.mem_of_getElem? (i := 55) rfl)) (by decide) (by decide)) (g := (mkF m 45 #[.val (.ref a), .val (.ref r), .val (.int (0 : Int32)), .val (.int (1 : Int32)), .val .null, .val (.ref by3)] [(.int (1 : Int32)), (.ref by3), (.ref a)])) rfl (by rw [hml]; rfl) (argsL := [(.ref by3), (.int (1 : Int32))]) (rest := [(.ref a)]) (lenOf own_pd4 rfl) rfl (by show 2 * 0 + _ ≤ _; exact Nat.le_of_eq rfl) (hb hby own_d3_45) (fun _ _ => ⟨rfl, rfl, (by decide : 1 + 0 ≤ _), (by decide : 1 + 0 ≤ _)⟩)
  dsimp only [Pt.U, Pt.locs, Pt.cells, Pt.slots] at X4 l4 y4 z4 st4 hQ4
  subst l4 y4 z4
  obtain ⟨rfl, N4q, hh4⟩ := hQ4
  have N4 := Fr.app N3 N4q
  refine own_st st4 ?_
  show own_Rch p e below _ T4 (mkF m 48 #[.val (.ref a), .val (.ref r), .val (.int (0 : Int32)), .val (.int (1 : Int32)), .val .null, .val (.ref by3)] [(.int (0 : Int32)), (.ref a)])
  obtain ⟨T5, h5, X5, e5, W5, st5⟩ := putFN X4 hx hZ hown (hw _ (List.mem_of_getElem? (i := 25) rfl)) Via.refl hh4 FC_x3 EA_x3 (Or.inr ⟨(hw _ (List.mem_of_getElem? (i := 21) rfl)), rfl, hnm⟩) (hw _ (List.mem_of_getElem? (i := 5) rfl)) (ty := .byte) (v' := (.int (0 : Int32))) (by decide) rfl (by decide) (g := (mkF m 48 #[.val (.ref a), .val (.ref r), .val (.int (0 : Int32)), .val (.int (1 : Int32)), .val .null, .val (.ref by3)] [(.int (0 : Int32)), (.ref a)])) rfl rfl (hb hby own_d3_48)
  refine own_st st5 ?_
  have Fw5 := FC_x3.same W5
  have N5 := Fr.snoc X5 N4 ga
  have O0_x5 := O0_x3.wr W5 ga
  have VR_x5 := VR_x3.other W5 (Ne.symm (Exa.neArv EA VR (hw _ (List.mem_of_getElem? (i := 5) rfl))))
  have EA_x5 := EA_x3.wr W5
  have FV_x5 := FV_x3.other W5 (Or.inr (slot_ne (Or.inr (hw _ (List.mem_of_getElem? (i := 20) rfl))) (Or.inr (hw _ (List.mem_of_getElem? (i := 21) rfl))) (by decide) (t := (.array .byte)) (t' := .byte) (by decide) (by decide)))
  have K0_x5 := K0_x3.wr W5 (Or.inl (List.mem_of_getElem? (i := 0) rfl))
  have Vb3_x5 := Vb3.other W5 (Ne.symm ne3_a_by3)
  show own_Rch p e below _ T5 (mkF m 51 #[.val (.ref a), .val (.ref r), .val (.int (0 : Int32)), .val (.int (1 : Int32)), .val .null, .val (.ref by3)] [])
  refine own_st (fun _ kt => XS.aloadN X5.here hx rfl (hb hby own_d3_51) rfl rfl  kt) ?_
  show own_Rch p e below _ T5 (mkF m 52 #[.val (.ref a), .val (.ref r), .val (.int (0 : Int32)), .val (.int (1 : Int32)), .val .null, .val (.ref by3)] [(.ref a)])
  refine own_st (fun _ kt => XS.aload X5.here hx rfl (hb hby own_d3_52) rfl rfl  kt) ?_
  show own_Rch p e below _ T5 (mkF m 54 #[.val (.ref a), .val (.ref r), .val (.int (0 : Int32)), .val (.int (1 : Int32)), .val .null, .val (.ref by3)] [(.ref by3), (.ref a)])
  obtain ⟨T6, h6, X6, e6, W6, st6⟩ := putF X5 hx hZ hown (host := "") (Or.inl (hw _ (List.mem_of_getElem? (i := 24) rfl))) Via.refl e5 FV_x5 EA_x5 (Or.inr ⟨(hw _ (List.mem_of_getElem? (i := 20) rfl)), rfl, hnm⟩) (hw _ (List.mem_of_getElem? (i := 5) rfl)) (ty := (.array .byte)) (by decide) rfl rfl (g := (mkF m 54 #[.val (.ref a), .val (.ref r), .val (.int (0 : Int32)), .val (.int (1 : Int32)), .val .null, .val (.ref by3)] [(.ref by3), (.ref a)])) rfl rfl (hb hby own_d3_54)
  refine own_st st6 ?_
  have Fw6 := FV_x5.same W6
  have N6 := Fr.snoc X6 N5 ga
  have O0_x6 := O0_x5.wr W6 ga
  have VR_x6 := VR_x5.other W6 (Ne.symm (Exa.neArv EA VR (hw _ (List.mem_of_getElem? (i := 5) rfl))))
  have EA_x6 := EA_x5.wr W6
  have Fw5_x6 := Fw5.other W6 (Or.inr (slot_ne (Or.inr (hw _ (List.mem_of_getElem? (i := 21) rfl))) (Or.inr (hw _ (List.mem_of_getElem? (i := 20) rfl))) (by decide) (t := .byte) (t' := (.array .byte)) (by decide) (by decide)))
  have K0_x6 := K0_x5.wr W6 (Or.inl (List.mem_of_getElem? (i := 0) rfl))
  have Vb3_x6 := Vb3_x5.other W6 (Ne.symm ne3_a_by3)
  show own_Rch p e below _ T6 (mkF m 57 #[.val (.ref a), .val (.ref r), .val (.int (0 : Int32)), .val (.int (1 : Int32)), .val .null, .val (.ref by3)] [])
  refine own_retV X6 hx Bd.notSynchronized Bd.returns (hb hby own_d3_57) (by decide) (by decide) ?_
  rw [e6]
  exact ⟨rfl, N6, K0_x6, _, _, EA_x6, Fw6, Fw5_x6, Vb3_x6⟩
theorem own_ef2 (m : MethodId) (x0 : Addr) (x1 : Addr) : entryFrame m #[(.ref x0), (.ref x1)] 2 = mkF m 0 #[.val (.ref x0), .val (.ref x1)] [] := by first | (simp [entryFrame, mkF, argsToLocals, Value.category]; done) | rfl
theorem own_d2_0 : decode jdk_42_method_3_code 0 = .ok (.aload_n 0, 1) := by decide +kernel
theorem own_d2_1 : decode jdk_42_method_3_code 1 = .ok (.aload_n 1, 1) := by decide +kernel
theorem own_d2_2 : decode jdk_42_method_3_code 2 = .ok (.iconst 0, 1) := by decide +kernel
theorem own_d2_3 : decode jdk_42_method_3_code 3 = .ok (.aload_n 1, 1) := by decide +kernel
theorem own_d2_4 : decode jdk_42_method_3_code 4 = .ok (.arraylength, 1) := by decide +kernel
theorem own_d2_5 : decode jdk_42_method_3_code 5 = .ok (.aconst_null, 1) := by decide +kernel
theorem own_d2_6 : decode jdk_42_method_3_code 6 = .ok (.invokespecial 27, 3) := by decide +kernel
theorem own_pd5 : parseMethodDescriptor "([CIILjava/lang/Void;)V" = some ⟨[(.array .char), .int, .int, (.object "java/lang/Void")], none⟩ := by decide +kernel
theorem own_d2_9 : decode jdk_42_method_3_code 9 = .ok (.return_, 1) := by decide +kernel
def own_Q_own_i1_1 (Z : State) (a : Addr) (r : Addr) (kr : ClassId) (c0 : Int32) (c1 : Int32) (cs : Int32) (h0 : Heap) (n0 : Nat) (v : Option Value) (h : Heap) (L : List Loc) : Prop := v = none ∧ Fr n0 L ∧ Keep h0 h [a] ∧ ∃ (y : Addr) (ky : ClassId), Exa Z h a "java/lang/String" ∧ Fld Z h a "java/lang/String" "value" "[B" (.ref y) ∧ Fld Z h a "java/lang/String" "coder" "B" (.int (0 : Int32)) ∧ Arv Z h y ky .byte (1 : Int32) [(.int (own_b c0))] (.int (0 : Int32))
set_option maxRecDepth 65536 in
set_option maxHeartbeats 40000000 in
theorem own_i1_1 (l : Launch) (Z : State) (a0 : Array Value) (hw : ∀ d ∈ tables_1, d.before a0 Z = true) (ws : List Jvm.Cond) (a : Addr) (r : Addr) (kr : ClassId) (c0 : Int32) (c1 : Int32) (cs : Int32) (h0 : Heap) (n0 : Nat) (O0 : Old Z n0 h0) (SC : Sta Z Z.heap "java/lang/String" "COMPACT_STRINGS" "Z" (.int cs)) (hcs : ¬ cs = 0) (VR : Arv Z h0 r kr .char (1 : Int32) [(.int (nar .char c0))] (.int (0 : Int32))) (EA : Exa Z h0 a "java/lang/String") (FV : Fld Z h0 a "java/lang/String" "value" "[B" .null) (FC : Fld Z h0 a "java/lang/String" "coder" "B" (.int (0 : Int32))) (ga : n0 ≤ a) (hc0 : own_ch c0) (hc1 : own_ch c1) :
    MetFree l (⟨"java/lang/String", "<init>", "([C)V"⟩ : MethodName) (head1 (Jvm.Cond.code (⟨"java/lang/String", "<init>", "([C)V"⟩ : MethodName) jdk_42_method_3_code 2 none :: ws) ({ frames := 3, cells := 1, slots := 1, locals := 52 } : Room)) (fun args_ U => args_ = #[(.ref a), (.ref r)] ∧ Z.Warmed39 U.vm ∧ U.heap = h0) (fun _ _ _ _ _ => True) (fun _ U o U' => ∃ v L, o = .returned v ∧ (own_Q_own_i1_1 Z a r kr c0 c1 cs h0 n0) v U'.heap L ∧ FrameEnd U o U' L ({ frames := 3, cells := 1, slots := 1, locals := 52 } : Room).cells ({ frames := 3, cells := 1, slots := 1, locals := 52 } : Room).slots) := by
  refine MetFree.of_bodySF (plainFor_of_name own_pn1) hisR ?_
  intro p e s m args below meth c s₁ Bd hml0 hP hK
  obtain ⟨rfl, hZ, hh⟩ := hP
  have hx := Bd.exec
  have hby := Bd.bytes
  have hml : c.maxLocals = 2 := hml0
  have hown : s.vm.findClass "java/lang/String" = some m.cls := findClass_of_methodNamed Bd.named
  have hnm := (name_of_methodNamed Bd.named Bd.method).1
  have X0 : Stand p l e ({ frames := 3, cells := 1, slots := 1, locals := 52 } : Room) s m #[(.ref a), (.ref r)] below meth c s₁ [] 0 0 := Stand.of_body Bd
  have e0 : s₁.heap = h0 := by rw [← hh, Bd.state]; rfl
  have N0 := Fr.nil n0
  refine own_close (s := s) (Q := (own_Q_own_i1_1 Z a r kr c0 c1 cs h0 n0)) (C := (({ frames := 3, cells := 1, slots := 1, locals := 52 } : Room)).cells) (N := (({ frames := 3, cells := 1, slots := 1, locals := 52 } : Room)).slots) (own_st (fun _ kt => castTop (own_ef2 m a r) kt) ?_)
  have K0 := Keep.refl h0 [a]
  show own_Rch p e below _ s₁ (mkF m 0 #[.val (.ref a), .val (.ref r)] [])
  refine own_st (fun _ kt => XS.aloadN X0.here hx rfl (hb hby own_d2_0) rfl rfl  kt) ?_
  show own_Rch p e below _ s₁ (mkF m 1 #[.val (.ref a), .val (.ref r)] [(.ref a)])
  refine own_st (fun _ kt => XS.aloadN X0.here hx rfl (hb hby own_d2_1) rfl rfl  kt) ?_
  show own_Rch p e below _ s₁ (mkF m 2 #[.val (.ref a), .val (.ref r)] [(.ref r), (.ref a)])
  refine own_st (fun _ kt => XS.iconst X0.here hx rfl (hb hby own_d2_2) kt) ?_
  show own_Rch p e below _ s₁ (mkF m 3 #[.val (.ref a), .val (.ref r)] [(.int (0 : Int32)), (.ref r), (.ref a)])
  refine own_st (fun _ kt => XS.aloadN X0.here hx rfl (hb hby own_d2_3) rfl rfl  kt) ?_
  show own_Rch p e below _ s₁ (mkF m 4 #[.val (.ref a), .val (.ref r)] [(.ref r), (.int (0 : Int32)), (.ref r), (.ref a)])
  obtain ⟨cl1, Ar1, -, S1, M1, -, -⟩ := id VR
  refine own_st (X0.arraylength hx (by rw [e0]; exact Ar1.1) (State.isArrayOf_alike (hZ).alike Ar1.2.1) (g := (mkF m 4 #[.val (.ref a), .val (.ref r)] [(.ref r), (.int (0 : Int32)), (.ref r), (.ref a)])) rfl rfl (hb hby own_d2_4)) ?_
  rw [len_of S1 M1]
  show own_Rch p e below _ s₁ (mkF m 5 #[.val (.ref a), .val (.ref r)] [(.int (1 : Int32)), (.int (0 : Int32)), (.ref r), (.ref a)])
  refine own_st (fun _ kt => XS.aconstNull X0.here hx rfl (hb hby own_d2_5) kt) ?_
  show own_Rch p e below _ s₁ (mkF m 6 #[.val (.ref a), .val (.ref r)] [.null, (.int (1 : Int32)), (.int (0 : Int32)), (.ref r), (.ref a)])
  obtain ⟨_, _, ⟨T2, L2, k2, n2⟩, -, X2, ⟨Lc2, hQ2, l2, y2, z2⟩, st2⟩ := X0.specialBack hx (y := (⟨"java/lang/String", "<init>", "([CIILjava/lang/Void;)V"⟩ : MethodName)) rfl hown (mvT hZ (hw _ (List.mem_of_getElem? (i := 11) rfl))) (mvT hZ (hw _ (List.mem_of_getElem? (i := 12) rfl))) (mvT hZ (hw _ (List.mem_of_getElem? (i := 14) rfl))) (by decide) (backOf (W := 0) (own_i5_1 l Z a0 hw [] a r kr c0 c1 cs h0 n0 O0 SC hcs VR EA FV FC ga hc0 hc1) hZ (hw _ (List.mem_of_getElem? (i := 14) rfl)) (hw _ (List.mem_of_getElem? (i := 6) rfl)) (by decide) (by decide)) (g := (mkF m 6 #[.val (.ref a), .val (.ref r)] [.null, (.int (1 : Int32)), (.int (0 : Int32)), (.ref r), (.ref a)])) rfl (by rw [hml]; rfl) (Steps.refl _) (a := a) (argsL := [(.ref r), (.int (0 : Int32)), (.int (1 : Int32)), .null]) (rest := []) (lenOf own_pd5 rfl) rfl (by show 2 * 0 + _ ≤ _; exact Nat.le_of_eq rfl) (hb hby own_d2_6) (fun _ _ => ⟨rfl, e0, (by decide : 0 + 1 ≤ _), (by decide : 0 + 1 ≤ _)⟩)
  dsimp only [Pt.U, Pt.locs, Pt.cells, Pt.slots] at X2 l2 y2 z2 st2 hQ2
  subst l2 y2 z2
  obtain ⟨rfl, N2q, K2, yy2, ky2, Ea2, Fv2, Fc2, Vy2⟩ := hQ2
  have N2 := Fr.app N0 N2q
  refine own_st (fun _ kt => st2.trans kt) ?_
  have O0_x2 := O0.keep K2 (allS ga all0)
  have VR_x2 := VR.keep K2 (ninS (Ne.symm (Exa.neArv EA VR (hw _ (List.mem_of_getElem? (i := 5) rfl)))) nin0)
  have EA_x2 := EA.keep K2
  have K0_x2 := K0.trans K2 (allS (Or.inl (List.mem_of_getElem? (i := 0) rfl)) all0)
  show own_Rch p e below _ T2 (mkF m 9 #[.val (.ref a), .val (.ref r)] [])
  refine own_retV X2 hx Bd.notSynchronized Bd.returns (hb hby own_d2_9) (by decide) (by decide) ?_
  exact ⟨rfl, N2, K0_x2, _, _, Ea2, Fv2, Fc2, Vy2⟩
def own_Q_own_c5_2 (Z : State) (r : Addr) (kr : ClassId) (b : Addr) (kb : ClassId) (c0 : Int32) (c1 : Int32) (h0 : Heap) (n0 : Nat) (v : Option Value) (h : Heap) (L : List Loc) : Prop := v = some (.int (2 : Int32)) ∧ Fr n0 L ∧ Keep h0 h [b] ∧ Arv Z h b kb .byte (2 : Int32) [(.int (own_b c0)), (.int (own_b c1))] (.int (0 : Int32))
set_option maxRecDepth 65536 in
set_option maxHeartbeats 40000000 in
theorem own_c5_2 (l : Launch) (Z : State) (a0 : Array Value) (hw : ∀ d ∈ tables_1, d.before a0 Z = true) (ws : List Jvm.Cond) (r : Addr) (kr : ClassId) (b : Addr) (kb : ClassId) (c0 : Int32) (c1 : Int32) (h0 : Heap) (n0 : Nat) (O0 : Old Z n0 h0) (VR : Arv Z h0 r kr .char (2 : Int32) [(.int (nar .char c0)), (.int (nar .char c1))] (.int (0 : Int32))) (VB : Arv Z h0 b kb .byte (2 : Int32) [(.int (0 : Int32)), (.int (0 : Int32))] (.int (0 : Int32))) (gb : n0 ≤ b) (hrb : r ≠ b) (hc0 : own_ch c0) (hc1 : own_ch c1) :
    MetFree l (⟨"java/lang/StringUTF16", "compress", "([CI[BII)I"⟩ : MethodName) (head1 (Jvm.Cond.code (⟨"java/lang/StringUTF16", "compress", "([CI[BII)I"⟩ : MethodName) jdk_52_method_21_code 7 (some .int) :: ws) ({ frames := 0, cells := 0, slots := 0, locals := 0 } : Room)) (fun args_ U => args_ = #[(.ref r), (.int (0 : Int32)), (.ref b), (.int (0 : Int32)), (.int (2 : Int32))] ∧ Z.Warmed39 U.vm ∧ U.heap = h0) (fun _ _ _ _ _ => True) (fun _ U o U' => ∃ v L, o = .returned v ∧ (own_Q_own_c5_2 Z r kr b kb c0 c1 h0 n0) v U'.heap L ∧ FrameEnd U o U' L ({ frames := 0, cells := 0, slots := 0, locals := 0 } : Room).cells ({ frames := 0, cells := 0, slots := 0, locals := 0 } : Room).slots) := by
  refine MetFree.of_bodySF (plainFor_of_name own_pn3) hisR ?_
  intro p e s m args below meth c s₁ Bd hml0 hP hK
  obtain ⟨rfl, hZ, hh⟩ := hP
  have hx := Bd.exec
  have hby := Bd.bytes
  have hml : c.maxLocals = 7 := hml0
  have hown : s.vm.findClass "java/lang/StringUTF16" = some m.cls := findClass_of_methodNamed Bd.named
  have hnm := (name_of_methodNamed Bd.named Bd.method).1
  have X0 : Stand p l e ({ frames := 0, cells := 0, slots := 0, locals := 0 } : Room) s m #[(.ref r), (.int (0 : Int32)), (.ref b), (.int (0 : Int32)), (.int (2 : Int32))] below meth c s₁ [] 0 0 := Stand.of_body Bd
  have e0 : s₁.heap = h0 := by rw [← hh, Bd.state]; rfl
  have N0 := Fr.nil n0
  refine own_close (s := s) (Q := (own_Q_own_c5_2 Z r kr b kb c0 c1 h0 n0)) (C := (({ frames := 0, cells := 0, slots := 0, locals := 0 } : Room)).cells) (N := (({ frames := 0, cells := 0, slots := 0, locals := 0 } : Room)).slots) (own_st (fun _ kt => castTop (own_ef10 m r (0 : Int32) b (0 : Int32) (2 : Int32)) kt) ?_)
  have K0 := Keep.refl h0 [b]
  show own_Rch p e below _ s₁ (mkF m 0 #[.val (.ref r), .val (.int (0 : Int32)), .val (.ref b), .val (.int (0 : Int32)), .val (.int (2 : Int32)), .unset, .unset] [])
  refine own_st (fun _ kt => XS.iconst X0.here hx rfl (hb hby own_d10_0) kt) ?_
  show own_Rch p e below _ s₁ (mkF m 1 #[.val (.ref r), .val (.int (0 : Int32)), .val (.ref b), .val (.int (0 : Int32)), .val (.int (2 : Int32)), .unset, .unset] [(.int (0 : Int32))])
  refine own_st (fun _ kt => XS.istore X0.here hx rfl (hb hby own_d10_1) rfl (l' := #[.val (.ref r), .val (.int (0 : Int32)), .val (.ref b), .val (.int (0 : Int32)), .val (.int (2 : Int32)), .val (.int (0 : Int32)), .unset]) rfl kt) ?_
  show own_Rch p e below _ s₁ (mkF m 3 #[.val (.ref r), .val (.int (0 : Int32)), .val (.ref b), .val (.int (0 : Int32)), .val (.int (2 : Int32)), .val (.int (0 : Int32)), .unset] [])
  refine own_st (fun _ kt => XS.iload X0.here hx rfl (hb hby own_d10_3) rfl  kt) ?_
  show own_Rch p e below _ s₁ (mkF m 5 #[.val (.ref r), .val (.int (0 : Int32)), .val (.ref b), .val (.int (0 : Int32)), .val (.int (2 : Int32)), .val (.int (0 : Int32)), .unset] [(.int (0 : Int32))])
  refine own_st (fun _ kt => XS.iload X0.here hx rfl (hb hby own_d10_5) rfl  kt) ?_
  show own_Rch p e below _ s₁ (mkF m 7 #[.val (.ref r), .val (.int (0 : Int32)), .val (.ref b), .val (.int (0 : Int32)), .val (.int (2 : Int32)), .val (.int (0 : Int32)), .unset] [(.int (2 : Int32)), (.int (0 : Int32))])
  refine own_st (fun _ kt => XS.icmpNo X0.here hx rfl (hb hby own_d10_7) rfl (tlt ((by decide) : (0 : Int32) < (2 : Int32))).2.1 kt) ?_
  show own_Rch p e below _ s₁ (mkF m 10 #[.val (.ref r), .val (.int (0 : Int32)), .val (.ref b), .val (.int (0 : Int32)), .val (.int (2 : Int32)), .val (.int (0 : Int32)), .unset] [])
  refine own_st (fun _ kt => XS.aloadN X0.here hx rfl (hb hby own_d10_10) rfl rfl  kt) ?_
  show own_Rch p e below _ s₁ (mkF m 11 #[.val (.ref r), .val (.int (0 : Int32)), .val (.ref b), .val (.int (0 : Int32)), .val (.int (2 : Int32)), .val (.int (0 : Int32)), .unset] [(.ref r)])
  refine own_st (fun _ kt => XS.iloadN X0.here hx rfl (hb hby own_d10_11) rfl  kt) ?_
  show own_Rch p e below _ s₁ (mkF m 12 #[.val (.ref r), .val (.int (0 : Int32)), .val (.ref b), .val (.int (0 : Int32)), .val (.int (2 : Int32)), .val (.int (0 : Int32)), .unset] [(.int (0 : Int32)), (.ref r)])
  obtain ⟨cl1, Ar1, q1, S1, M1, H1, G1⟩ := id VR
  have hin1 : ¬ ((0 : Int32) < 0 ∨ cl1.slots.size ≤ ((0 : Int32)).toNatClampNeg) := inb_of S1 ⟨by decide, by decide⟩
  refine own_st (X0.caload hx (j := (0 : Int32)) (v := (.int (nar .char c0))) (by rw [e0]; exact Ar1.1) (State.isArrayOf_alike (hZ).alike Ar1.2.1) Ar1.2.2 hin1 (H1.at hin1 rfl) (g := (mkF m 12 #[.val (.ref r), .val (.int (0 : Int32)), .val (.ref b), .val (.int (0 : Int32)), .val (.int (2 : Int32)), .val (.int (0 : Int32)), .unset] [(.int (0 : Int32)), (.ref r)])) rfl rfl (hb hby own_d10_12)) ?_
  show own_Rch p e below _ s₁ (mkF m 13 #[.val (.ref r), .val (.int (0 : Int32)), .val (.ref b), .val (.int (0 : Int32)), .val (.int (2 : Int32)), .val (.int (0 : Int32)), .unset] [(.int (nar .char c0))])
  refine own_st (fun _ kt => XS.istore X0.here hx rfl (hb hby own_d10_13) rfl (l' := #[.val (.ref r), .val (.int (0 : Int32)), .val (.ref b), .val (.int (0 : Int32)), .val (.int (2 : Int32)), .val (.int (0 : Int32)), .val (.int (nar .char c0))]) rfl kt) ?_
  show own_Rch p e below _ s₁ (mkF m 15 #[.val (.ref r), .val (.int (0 : Int32)), .val (.ref b), .val (.int (0 : Int32)), .val (.int (2 : Int32)), .val (.int (0 : Int32)), .val (.int (nar .char c0))] [])
  refine own_st (fun _ kt => XS.iload X0.here hx rfl (hb hby own_d10_15) rfl  kt) ?_
  show own_Rch p e below _ s₁ (mkF m 17 #[.val (.ref r), .val (.int (0 : Int32)), .val (.ref b), .val (.int (0 : Int32)), .val (.int (2 : Int32)), .val (.int (0 : Int32)), .val (.int (nar .char c0))] [(.int (nar .char c0))])
  refine own_st (fun _ kt => XS.sipush X0.here hx rfl (hb hby own_d10_17) kt) ?_
  show own_Rch p e below _ s₁ (mkF m 20 #[.val (.ref r), .val (.int (0 : Int32)), .val (.ref b), .val (.int (0 : Int32)), .val (.int (2 : Int32)), .val (.int (0 : Int32)), .val (.int (nar .char c0))] [(.int (255 : Int32)), (.int (nar .char c0))])
  refine own_st (fun _ kt => XS.icmpYes X0.here hx rfl (pc0 := 20) (pc' := 26) rfl (hb hby own_d10_20) rfl (flt (own_big hc0 : ¬ ((255 : Int32) < (nar .char c0)))).2.2.2 (by decide) (by decide) kt) ?_
  show own_Rch p e below _ s₁ (mkF m 26 #[.val (.ref r), .val (.int (0 : Int32)), .val (.ref b), .val (.int (0 : Int32)), .val (.int (2 : Int32)), .val (.int (0 : Int32)), .val (.int (nar .char c0))] [])
  refine own_st (fun _ kt => XS.aloadN X0.here hx rfl (hb hby own_d10_26) rfl rfl  kt) ?_
  show own_Rch p e below _ s₁ (mkF m 27 #[.val (.ref r), .val (.int (0 : Int32)), .val (.ref b), .val (.int (0 : Int32)), .val (.int (2 : Int32)), .val (.int (0 : Int32)), .val (.int (nar .char c0))] [(.ref b)])
  refine own_st (fun _ kt => XS.iloadN X0.here hx rfl (hb hby own_d10_27) rfl  kt) ?_
  show own_Rch p e below _ s₁ (mkF m 28 #[.val (.ref r), .val (.int (0 : Int32)), .val (.ref b), .val (.int (0 : Int32)), .val (.int (2 : Int32)), .val (.int (0 : Int32)), .val (.int (nar .char c0))] [(.int (0 : Int32)), (.ref b)])
  refine own_st (fun _ kt => XS.iload X0.here hx rfl (hb hby own_d10_28) rfl  kt) ?_
  show own_Rch p e below _ s₁ (mkF m 30 #[.val (.ref r), .val (.int (0 : Int32)), .val (.ref b), .val (.int (0 : Int32)), .val (.int (2 : Int32)), .val (.int (0 : Int32)), .val (.int (nar .char c0))] [(.int (nar .char c0)), (.int (0 : Int32)), (.ref b)])
  refine own_st (fun _ kt => XS.i2b X0.here hx rfl (hb hby own_d10_30) rfl kt) ?_
  show own_Rch p e below _ s₁ (mkF m 31 #[.val (.ref r), .val (.int (0 : Int32)), .val (.ref b), .val (.int (0 : Int32)), .val (.int (2 : Int32)), .val (.int (0 : Int32)), .val (.int (nar .char c0))] [(.int ((nar .char c0).toInt8.toInt32)), (.int (0 : Int32)), (.ref b)])
  obtain ⟨cl2, Ar2, q2, S2, M2, H2, G2⟩ := id VB
  have hin2 : ¬ ((0 : Int32) < 0 ∨ cl2.slots.size ≤ ((0 : Int32)).toNatClampNeg) := inb_of S2 ⟨by decide, by decide⟩
  obtain ⟨T2, h2, X2, e2, W2, st2⟩ := stB X0 hx hZ e0 Ar2 (j := (0 : Int32)) hin2 (g := (mkF m 31 #[.val (.ref r), .val (.int (0 : Int32)), .val (.ref b), .val (.int (0 : Int32)), .val (.int (2 : Int32)), .val (.int (0 : Int32)), .val (.int (nar .char c0))] [(.int ((nar .char c0).toInt8.toInt32)), (.int (0 : Int32)), (.ref b)])) rfl rfl (hb hby own_d10_31)
  have V2 := Arv.set Ar2 q2 S2 M2 H2 G2 (fits_nar_byte _) W2 0 rfl (Nat.le_of_ble_eq_true rfl)
  have V2s : Arv Z h2 b kb .byte (2 : Int32) [(.int (nar .byte ((nar .char c0).toInt8.toInt32))), (.int (0 : Int32))] (.int (0 : Int32)) := V2
  have N2 := Fr.snoc X2 N0 gb
  refine own_st st2 ?_
  have O0_x2 := O0.wr W2 gb
  have VR_x2 := VR.other W2 hrb
  have K0_x2 := K0.wr W2 (Or.inl (List.mem_of_getElem? (i := 0) rfl))
  show own_Rch p e below _ T2 (mkF m 32 #[.val (.ref r), .val (.int (0 : Int32)), .val (.ref b), .val (.int (0 : Int32)), .val (.int (2 : Int32)), .val (.int (0 : Int32)), .val (.int (nar .char c0))] [])
  refine own_st (fun _ kt => XS.iinc X2.here hx rfl (hb hby own_d10_32) rfl (l' := #[.val (.ref r), .val (.int (1 : Int32)), .val (.ref b), .val (.int (0 : Int32)), .val (.int (2 : Int32)), .val (.int (0 : Int32)), .val (.int (nar .char c0))]) rfl kt) ?_
  show own_Rch p e below _ T2 (mkF m 35 #[.val (.ref r), .val (.int (1 : Int32)), .val (.ref b), .val (.int (0 : Int32)), .val (.int (2 : Int32)), .val (.int (0 : Int32)), .val (.int (nar .char c0))] [])
  refine own_st (fun _ kt => XS.iinc X2.here hx rfl (hb hby own_d10_35) rfl (l' := #[.val (.ref r), .val (.int (1 : Int32)), .val (.ref b), .val (.int (1 : Int32)), .val (.int (2 : Int32)), .val (.int (0 : Int32)), .val (.int (nar .char c0))]) rfl kt) ?_
  show own_Rch p e below _ T2 (mkF m 38 #[.val (.ref r), .val (.int (1 : Int32)), .val (.ref b), .val (.int (1 : Int32)), .val (.int (2 : Int32)), .val (.int (0 : Int32)), .val (.int (nar .char c0))] [])
  refine own_st (fun _ kt => XS.iinc X2.here hx rfl (hb hby own_d10_38) rfl (l' := #[.val (.ref r), .val (.int (1 : Int32)), .val (.ref b), .val (.int (1 : Int32)), .val (.int (2 : Int32)), .val (.int (1 : Int32)), .val (.int (nar .char c0))]) rfl kt) ?_
  show own_Rch p e below _ T2 (mkF m 41 #[.val (.ref r), .val (.int (1 : Int32)), .val (.ref b), .val (.int (1 : Int32)), .val (.int (2 : Int32)), .val (.int (1 : Int32)), .val (.int (nar .char c0))] [])
  refine own_st (fun _ kt => XS.goto X2.here hx rfl (pc0 := 41) (pc' := 3) rfl (hb hby own_d10_41) (by decide) (by decide) kt) ?_
  show own_Rch p e below _ T2 (mkF m 3 #[.val (.ref r), .val (.int (1 : Int32)), .val (.ref b), .val (.int (1 : Int32)), .val (.int (2 : Int32)), .val (.int (1 : Int32)), .val (.int (nar .char c0))] [])
  refine own_st (fun _ kt => XS.iload X2.here hx rfl (hb hby own_d10_3) rfl  kt) ?_
  show own_Rch p e below _ T2 (mkF m 5 #[.val (.ref r), .val (.int (1 : Int32)), .val (.ref b), .val (.int (1 : Int32)), .val (.int (2 : Int32)), .val (.int (1 : Int32)), .val (.int (nar .char c0))] [(.int (1 : Int32))])
  refine own_st (fun _ kt => XS.iload X2.here hx rfl (hb hby own_d10_5) rfl  kt) ?_
  show own_Rch p e below _ T2 (mkF m 7 #[.val (.ref r), .val (.int (1 : Int32)), .val (.ref b), .val (.int (1 : Int32)), .val (.int (2 : Int32)), .val (.int (1 : Int32)), .val (.int (nar .char c0))] [(.int (2 : Int32)), (.int (1 : Int32))])
  refine own_st (fun _ kt => XS.icmpNo X2.here hx rfl (hb hby own_d10_7) rfl (tlt ((by decide) : (1 : Int32) < (2 : Int32))).2.1 kt) ?_
  show own_Rch p e below _ T2 (mkF m 10 #[.val (.ref r), .val (.int (1 : Int32)), .val (.ref b), .val (.int (1 : Int32)), .val (.int (2 : Int32)), .val (.int (1 : Int32)), .val (.int (nar .char c0))] [])
  refine own_st (fun _ kt => XS.aloadN X2.here hx rfl (hb hby own_d10_10) rfl rfl  kt) ?_
  show own_Rch p e below _ T2 (mkF m 11 #[.val (.ref r), .val (.int (1 : Int32)), .val (.ref b), .val (.int (1 : Int32)), .val (.int (2 : Int32)), .val (.int (1 : Int32)), .val (.int (nar .char c0))] [(.ref r)])
  refine own_st (fun _ kt => XS.iloadN X2.here hx rfl (hb hby own_d10_11) rfl  kt) ?_
  show own_Rch p e below _ T2 (mkF m 12 #[.val (.ref r), .val (.int (1 : Int32)), .val (.ref b), .val (.int (1 : Int32)), .val (.int (2 : Int32)), .val (.int (1 : Int32)), .val (.int (nar .char c0))] [(.int (1 : Int32)), (.ref r)])
  obtain ⟨cl3, Ar3, q3, S3, M3, H3, G3⟩ := id VR_x2
  have hin3 : ¬ ((1 : Int32) < 0 ∨ cl3.slots.size ≤ ((1 : Int32)).toNatClampNeg) := inb_of S3 ⟨by decide, by decide⟩
  refine own_st (X2.caload hx (j := (1 : Int32)) (v := (.int (nar .char c1))) (by rw [e2]; exact Ar3.1) (State.isArrayOf_alike (hZ).alike Ar3.2.1) Ar3.2.2 hin3 (H3.at hin3 rfl) (g := (mkF m 12 #[.val (.ref r), .val (.int (1 : Int32)), .val (.ref b), .val (.int (1 : Int32)), .val (.int (2 : Int32)), .val (.int (1 : Int32)), .val (.int (nar .char c0))] [(.int (1 : Int32)), (.ref r)])) rfl rfl (hb hby own_d10_12)) ?_
  show own_Rch p e below _ T2 (mkF m 13 #[.val (.ref r), .val (.int (1 : Int32)), .val (.ref b), .val (.int (1 : Int32)), .val (.int (2 : Int32)), .val (.int (1 : Int32)), .val (.int (nar .char c0))] [(.int (nar .char c1))])
  refine own_st (fun _ kt => XS.istore X2.here hx rfl (hb hby own_d10_13) rfl (l' := #[.val (.ref r), .val (.int (1 : Int32)), .val (.ref b), .val (.int (1 : Int32)), .val (.int (2 : Int32)), .val (.int (1 : Int32)), .val (.int (nar .char c1))]) rfl kt) ?_
  show own_Rch p e below _ T2 (mkF m 15 #[.val (.ref r), .val (.int (1 : Int32)), .val (.ref b), .val (.int (1 : Int32)), .val (.int (2 : Int32)), .val (.int (1 : Int32)), .val (.int (nar .char c1))] [])
  refine own_st (fun _ kt => XS.iload X2.here hx rfl (hb hby own_d10_15) rfl  kt) ?_
  show own_Rch p e below _ T2 (mkF m 17 #[.val (.ref r), .val (.int (1 : Int32)), .val (.ref b), .val (.int (1 : Int32)), .val (.int (2 : Int32)), .val (.int (1 : Int32)), .val (.int (nar .char c1))] [(.int (nar .char c1))])
  refine own_st (fun _ kt => XS.sipush X2.here hx rfl (hb hby own_d10_17) kt) ?_
  show own_Rch p e below _ T2 (mkF m 20 #[.val (.ref r), .val (.int (1 : Int32)), .val (.ref b), .val (.int (1 : Int32)), .val (.int (2 : Int32)), .val (.int (1 : Int32)), .val (.int (nar .char c1))] [(.int (255 : Int32)), (.int (nar .char c1))])
  refine own_st (fun _ kt => XS.icmpYes X2.here hx rfl (pc0 := 20) (pc' := 26) rfl (hb hby own_d10_20) rfl (flt (own_big hc1 : ¬ ((255 : Int32) < (nar .char c1)))).2.2.2 (by decide) (by decide) kt) ?_
  show own_Rch p e below _ T2 (mkF m 26 #[.val (.ref r), .val (.int (1 : Int32)), .val (.ref b), .val (.int (1 : Int32)), .val (.int (2 : Int32)), .val (.int (1 : Int32)), .val (.int (nar .char c1))] [])
  refine own_st (fun _ kt => XS.aloadN X2.here hx rfl (hb hby own_d10_26) rfl rfl  kt) ?_
  show own_Rch p e below _ T2 (mkF m 27 #[.val (.ref r), .val (.int (1 : Int32)), .val (.ref b), .val (.int (1 : Int32)), .val (.int (2 : Int32)), .val (.int (1 : Int32)), .val (.int (nar .char c1))] [(.ref b)])
  refine own_st (fun _ kt => XS.iloadN X2.here hx rfl (hb hby own_d10_27) rfl  kt) ?_
  show own_Rch p e below _ T2 (mkF m 28 #[.val (.ref r), .val (.int (1 : Int32)), .val (.ref b), .val (.int (1 : Int32)), .val (.int (2 : Int32)), .val (.int (1 : Int32)), .val (.int (nar .char c1))] [(.int (1 : Int32)), (.ref b)])
  refine own_st (fun _ kt => XS.iload X2.here hx rfl (hb hby own_d10_28) rfl  kt) ?_
  show own_Rch p e below _ T2 (mkF m 30 #[.val (.ref r), .val (.int (1 : Int32)), .val (.ref b), .val (.int (1 : Int32)), .val (.int (2 : Int32)), .val (.int (1 : Int32)), .val (.int (nar .char c1))] [(.int (nar .char c1)), (.int (1 : Int32)), (.ref b)])
  refine own_st (fun _ kt => XS.i2b X2.here hx rfl (hb hby own_d10_30) rfl kt) ?_
  show own_Rch p e below _ T2 (mkF m 31 #[.val (.ref r), .val (.int (1 : Int32)), .val (.ref b), .val (.int (1 : Int32)), .val (.int (2 : Int32)), .val (.int (1 : Int32)), .val (.int (nar .char c1))] [(.int ((nar .char c1).toInt8.toInt32)), (.int (1 : Int32)), (.ref b)])
  obtain ⟨cl4, Ar4, q4, S4, M4, H4, G4⟩ := id V2s
  have hin4 : ¬ ((1 : Int32) < 0 ∨ cl4.slots.size ≤ ((1 : Int32)).toNatClampNeg) := inb_of S4 ⟨by decide, by decide⟩
  obtain ⟨T4, h4, X4, e4, W4, st4⟩ := stB X2 hx hZ e2 Ar4 (j := (1 : Int32)) hin4 (g := (mkF m 31 #[.val (.ref r), .val (.int (1 : Int32)), .val (.ref b), .val (.int (1 : Int32)), .val (.int (2 : Int32)), .val (.int (1 : Int32)), .val (.int (nar .char c1))] [(.int ((nar .char c1).toInt8.toInt32)), (.int (1 : Int32)), (.ref b)])) rfl rfl (hb hby own_d10_31)
  have V4 := Arv.set Ar4 q4 S4 M4 H4 G4 (fits_nar_byte _) W4 1 rfl (Nat.le_of_ble_eq_true rfl)
  have V4s : Arv Z h4 b kb .byte (2 : Int32) [(.int (nar .byte ((nar .char c0).toInt8.toInt32))), (.int (nar .byte ((nar .char c1).toInt8.toInt32)))] (.int (0 : Int32)) := V4
  have N4 := Fr.snoc X4 N2 gb
  refine own_st st4 ?_
  have O0_x4 := O0_x2.wr W4 gb
  have VR_x4 := VR_x2.other W4 hrb
  have K0_x4 := K0_x2.wr W4 (Or.inl (List.mem_of_getElem? (i := 0) rfl))
  show own_Rch p e below _ T4 (mkF m 32 #[.val (.ref r), .val (.int (1 : Int32)), .val (.ref b), .val (.int (1 : Int32)), .val (.int (2 : Int32)), .val (.int (1 : Int32)), .val (.int (nar .char c1))] [])
  refine own_st (fun _ kt => XS.iinc X4.here hx rfl (hb hby own_d10_32) rfl (l' := #[.val (.ref r), .val (.int (2 : Int32)), .val (.ref b), .val (.int (1 : Int32)), .val (.int (2 : Int32)), .val (.int (1 : Int32)), .val (.int (nar .char c1))]) rfl kt) ?_
  show own_Rch p e below _ T4 (mkF m 35 #[.val (.ref r), .val (.int (2 : Int32)), .val (.ref b), .val (.int (1 : Int32)), .val (.int (2 : Int32)), .val (.int (1 : Int32)), .val (.int (nar .char c1))] [])
  refine own_st (fun _ kt => XS.iinc X4.here hx rfl (hb hby own_d10_35) rfl (l' := #[.val (.ref r), .val (.int (2 : Int32)), .val (.ref b), .val (.int (2 : Int32)), .val (.int (2 : Int32)), .val (.int (1 : Int32)), .val (.int (nar .char c1))]) rfl kt) ?_
  show own_Rch p e below _ T4 (mkF m 38 #[.val (.ref r), .val (.int (2 : Int32)), .val (.ref b), .val (.int (2 : Int32)), .val (.int (2 : Int32)), .val (.int (1 : Int32)), .val (.int (nar .char c1))] [])
  refine own_st (fun _ kt => XS.iinc X4.here hx rfl (hb hby own_d10_38) rfl (l' := #[.val (.ref r), .val (.int (2 : Int32)), .val (.ref b), .val (.int (2 : Int32)), .val (.int (2 : Int32)), .val (.int (2 : Int32)), .val (.int (nar .char c1))]) rfl kt) ?_
  show own_Rch p e below _ T4 (mkF m 41 #[.val (.ref r), .val (.int (2 : Int32)), .val (.ref b), .val (.int (2 : Int32)), .val (.int (2 : Int32)), .val (.int (2 : Int32)), .val (.int (nar .char c1))] [])
  refine own_st (fun _ kt => XS.goto X4.here hx rfl (pc0 := 41) (pc' := 3) rfl (hb hby own_d10_41) (by decide) (by decide) kt) ?_
  show own_Rch p e below _ T4 (mkF m 3 #[.val (.ref r), .val (.int (2 : Int32)), .val (.ref b), .val (.int (2 : Int32)), .val (.int (2 : Int32)), .val (.int (2 : Int32)), .val (.int (nar .char c1))] [])
  refine own_st (fun _ kt => XS.iload X4.here hx rfl (hb hby own_d10_3) rfl  kt) ?_
  show own_Rch p e below _ T4 (mkF m 5 #[.val (.ref r), .val (.int (2 : Int32)), .val (.ref b), .val (.int (2 : Int32)), .val (.int (2 : Int32)), .val (.int (2 : Int32)), .val (.int (nar .char c1))] [(.int (2 : Int32))])
  refine own_st (fun _ kt => XS.iload X4.here hx rfl (hb hby own_d10_5) rfl  kt) ?_
  show own_Rch p e below _ T4 (mkF m 7 #[.val (.ref r), .val (.int (2 : Int32)), .val (.ref b), .val (.int (2 : Int32)), .val (.int (2 : Int32)), .val (.int (2 : Int32)), .val (.int (nar .char c1))] [(.int (2 : Int32)), (.int (2 : Int32))])
  refine own_st (fun _ kt => XS.icmpYes X4.here hx rfl (pc0 := 7) (pc' := 44) rfl (hb hby own_d10_7) rfl (flt ((by decide) : ¬ ((2 : Int32) < (2 : Int32)))).2.1 (by decide) (by decide) kt) ?_
  show own_Rch p e below _ T4 (mkF m 44 #[.val (.ref r), .val (.int (2 : Int32)), .val (.ref b), .val (.int (2 : Int32)), .val (.int (2 : Int32)), .val (.int (2 : Int32)), .val (.int (nar .char c1))] [])
  refine own_st (fun _ kt => XS.iload X4.here hx rfl (hb hby own_d10_44) rfl  kt) ?_
  show own_Rch p e below _ T4 (mkF m 46 #[.val (.ref r), .val (.int (2 : Int32)), .val (.ref b), .val (.int (2 : Int32)), .val (.int (2 : Int32)), .val (.int (2 : Int32)), .val (.int (nar .char c1))] [(.int (2 : Int32))])
  refine own_retI X4 hx Bd.notSynchronized Bd.returns (hb hby own_d10_46) (by decide) (by decide) ?_
  rw [e4]
  exact ⟨rfl, N4, K0_x4, V4s⟩
def own_Q_own_c3_2 (Z : State) (r : Addr) (kr : ClassId) (c0 : Int32) (c1 : Int32) (h0 : Heap) (n0 : Nat) (v : Option Value) (h : Heap) (L : List Loc) : Prop := ∃ (b : Addr) (kb : ClassId), v = some (.ref b) ∧ Fr n0 L ∧ Keep h0 h [] ∧ h0.size ≤ b ∧ Arv Z h b kb .byte (2 : Int32) [(.int (own_b c0)), (.int (own_b c1))] (.int (0 : Int32))
set_option maxRecDepth 65536 in
set_option maxHeartbeats 40000000 in
theorem own_c3_2 (l : Launch) (Z : State) (a0 : Array Value) (hw : ∀ d ∈ tables_1, d.before a0 Z = true) (ws : List Jvm.Cond) (r : Addr) (kr : ClassId) (c0 : Int32) (c1 : Int32) (h0 : Heap) (n0 : Nat) (O0 : Old Z n0 h0) (VR : Arv Z h0 r kr .char (2 : Int32) [(.int (nar .char c0)), (.int (nar .char c1))] (.int (0 : Int32))) (hc0 : own_ch c0) (hc1 : own_ch c1) :
    MetFree l (⟨"java/lang/StringUTF16", "compress", "([CII)[B"⟩ : MethodName) (head1 (Jvm.Cond.code (⟨"java/lang/StringUTF16", "compress", "([CII)[B"⟩ : MethodName) jdk_52_method_16_code 6 (some (.array .byte)) :: ws) ({ frames := 1, cells := 1, slots := 2, locals := 18 } : Room)) (fun args_ U => args_ = #[(.ref r), (.int (0 : Int32)), (.int (2 : Int32))] ∧ Z.Warmed39 U.vm ∧ U.heap = h0) (fun _ _ _ _ _ => True) (fun _ U o U' => ∃ v L, o = .returned v ∧ (own_Q_own_c3_2 Z r kr c0 c1 h0 n0) v U'.heap L ∧ FrameEnd U o U' L ({ frames := 1, cells := 1, slots := 2, locals := 18 } : Room).cells ({ frames := 1, cells := 1, slots := 2, locals := 18 } : Room).slots) := by
  refine MetFree.of_bodySF (plainFor_of_name own_pn3) hisR ?_
  intro p e s m args below meth c s₁ Bd hml0 hP hK
  obtain ⟨rfl, hZ, hh⟩ := hP
  have hx := Bd.exec
  have hby := Bd.bytes
  have hml : c.maxLocals = 6 := hml0
  have hown : s.vm.findClass "java/lang/StringUTF16" = some m.cls := findClass_of_methodNamed Bd.named
  have hnm := (name_of_methodNamed Bd.named Bd.method).1
  have X0 : Stand p l e ({ frames := 1, cells := 1, slots := 2, locals := 18 } : Room) s m #[(.ref r), (.int (0 : Int32)), (.int (2 : Int32))] below meth c s₁ [] 0 0 := Stand.of_body Bd
  have e0 : s₁.heap = h0 := by rw [← hh, Bd.state]; rfl
  have N0 := Fr.nil n0
  refine own_close (s := s) (Q := (own_Q_own_c3_2 Z r kr c0 c1 h0 n0)) (C := (({ frames := 1, cells := 1, slots := 2, locals := 18 } : Room)).cells) (N := (({ frames := 1, cells := 1, slots := 2, locals := 18 } : Room)).slots) (own_st (fun _ kt => castTop (own_ef9 m r (0 : Int32) (2 : Int32)) kt) ?_)
  have K0 := Keep.refl h0 []
  show own_Rch p e below _ s₁ (mkF m 0 #[.val (.ref r), .val (.int (0 : Int32)), .val (.int (2 : Int32)), .unset, .unset, .unset] [])
  refine own_st (fun _ kt => XS.iloadN X0.here hx rfl (hb hby own_d9_0) rfl  kt) ?_
  show own_Rch p e below _ s₁ (mkF m 1 #[.val (.ref r), .val (.int (0 : Int32)), .val (.int (2 : Int32)), .unset, .unset, .unset] [(.int (2 : Int32))])
  obtain ⟨T1, h1, k1, X1, e1, E1, A1, st1⟩ := newP X0 hx hZ (hw _ (List.mem_of_getElem? (i := 19) rfl)) e0 (g := (mkF m 1 #[.val (.ref r), .val (.int (0 : Int32)), .val (.int (2 : Int32)), .unset, .unset, .unset] [(.int (2 : Int32))])) rfl (hb hby own_d9_1) rfl (by decide) (cap := 2) (by decide) (by decide) (by decide) (by decide)
  obtain ⟨b1, g1⟩ : ∃ z, z = h0.size := ⟨_, rfl⟩
  rw [← g1] at A1 st1
  have ge1 : n0 ≤ b1 := by rw [g1]; exact own_old_le O0
  have ne1_r : r ≠ b1 := by rw [g1]; exact Nat.ne_of_lt VR.lt
  have sz1 : h0.size ≤ b1 := by rw [g1]; exact K0.1
  have O0_x1 := O0.ext E1
  have VR_x1 := VR.ext E1
  have K0_x1 := K0.ext E1
  refine own_st st1 ?_
  have V1 := Arv.new A1 (by decide)
  have V1p : Arv Z h1 b1 k1 .byte (2 : Int32) [(.int (0 : Int32)), (.int (0 : Int32))] (.int (0 : Int32)) := V1.pad (pad_rep [] (.int (0 : Int32)) 2)
  show own_Rch p e below _ T1 (mkF m 3 #[.val (.ref r), .val (.int (0 : Int32)), .val (.int (2 : Int32)), .unset, .unset, .unset] [(.ref b1)])
  refine own_st (fun _ kt => XS.astoreN X1.here hx rfl (hb hby own_d9_3) rfl rfl (l' := #[.val (.ref r), .val (.int (0 : Int32)), .val (.int (2 : Int32)), .val (.ref b1), .unset, .unset]) rfl kt) ?_
  show own_Rch p e below _ T1 (mkF m 4 #[.val (.ref r), .val (.int (0 : Int32)), .val (.int (2 : Int32)), .val (.ref b1), .unset, .unset] [])
  refine own_st (fun _ kt => XS.aloadN X1.here hx rfl (hb hby own_d9_4) rfl rfl  kt) ?_
  show own_Rch p e below _ T1 (mkF m 5 #[.val (.ref r), .val (.int (0 : Int32)), .val (.int (2 : Int32)), .val (.ref b1), .unset, .unset] [(.ref r)])
  refine own_st (fun _ kt => XS.iloadN X1.here hx rfl (hb hby own_d9_5) rfl  kt) ?_
  show own_Rch p e below _ T1 (mkF m 6 #[.val (.ref r), .val (.int (0 : Int32)), .val (.int (2 : Int32)), .val (.ref b1), .unset, .unset] [(.int (0 : Int32)), (.ref r)])
  refine own_st (fun _ kt => XS.aloadN X1.here hx rfl (hb hby own_d9_6) rfl rfl  kt) ?_
  show own_Rch p e below _ T1 (mkF m 7 #[.val (.ref r), .val (.int (0 : Int32)), .val (.int (2 : Int32)), .val (.ref b1), .unset, .unset] [(.ref b1), (.int (0 : Int32)), (.ref r)])
  refine own_st (fun _ kt => XS.iconst X1.here hx rfl (hb hby own_d9_7) kt) ?_
  show own_Rch p e below _ T1 (mkF m 8 #[.val (.ref r), .val (.int (0 : Int32)), .val (.int (2 : Int32)), .val (.ref b1), .unset, .unset] [(.int (0 : Int32)), (.ref b1), (.int (0 : Int32)), (.ref r)])
  refine own_st (fun _ kt => XS.iloadN X1.here hx rfl (hb hby own_d9_8) rfl  kt) ?_
  show own_Rch p e below _ T1 (mkF m 9 #[.val (.ref r), .val (.int (0 : Int32)), .val (.int (2 : Int32)), .val (.ref b1), .unset, .unset] [(.int (2 : Int32)), (.int (0 : Int32)), (.ref b1), (.int (0 : Int32)), (.ref r)])
  obtain ⟨_, _, ⟨T2, L2, k2, n2⟩, -, X2, ⟨Lc2, hQ2, l2, y2, z2⟩, st2⟩ := Jvm.LawKit.callS X1 hx (y := (⟨"java/lang/StringUTF16", "compress", "([CI[BII)I"⟩ : MethodName)) hown (mvT hZ (hw _ (List.mem_of_getElem? (i := 57) rfl))) (mvT hZ (hw _ (List.mem_of_getElem? (i := 58) rfl))) (mvT hZ (hw _ (List.mem_of_getElem? (i := 55) rfl))) (mvT hZ (hw _ (List.mem_of_getElem? (i := 59) rfl))) (by decide) (backOf (W := 0) (own_c5_2 l Z a0 hw [] r kr b1 k1 c0 c1 h1 n0 O0_x1 VR_x1 V1p ge1 ne1_r hc0 hc1) hZ (hw _ (List.mem_of_getElem? (i := 59) rfl)) (hw _ (List.mem_of_getElem? (i := 55) rfl)) (by decide) (by decide)) (g := (mkF m 9 #[.val (.ref r), .val (.int (0 : Int32)), .val (.int (2 : Int32)), .val (.ref b1), .unset, .unset] [(.int (2 : Int32)), (.int (0 : Int32)), (.ref b1), (.int (0 : Int32)), (.ref r)])) rfl (by rw [hml]; rfl) (argsL := [(.ref r), (.int (0 : Int32)), (.ref b1), (.int (0 : Int32)), (.int (2 : Int32))]) (rest := []) (lenOf own_pd2 rfl) rfl (by show 2 * 0 + _ ≤ _; exact Nat.le_of_eq rfl) (hb hby own_d9_9) (fun _ _ => ⟨rfl, e1, (by decide : 1 + 0 ≤ _), (by decide : 2 + 0 ≤ _)⟩)
  dsimp only [Pt.U, Pt.locs, Pt.cells, Pt.slots] at X2 l2 y2 z2 st2 hQ2
  subst l2 y2 z2
  obtain ⟨rfl, N2q, K2, Vb2⟩ := hQ2
  have N2 := Fr.app N0 N2q
  refine own_st st2 ?_
  have O0_x2 := O0_x1.keep K2 (allS ge1 all0)
  have VR_x2 := VR_x1.keep K2 (ninS ne1_r nin0)
  have K0_x2 := K0_x1.trans K2 (allS (Or.inr sz1) all0)
  show own_Rch p e below _ T2 (mkF m 12 #[.val (.ref r), .val (.int (0 : Int32)), .val (.int (2 : Int32)), .val (.ref b1), .unset, .unset] [(.int (2 : Int32))])
  refine own_st (fun _ kt => XS.istore X2.here hx rfl (hb hby own_d9_12) rfl (l' := #[.val (.ref r), .val (.int (0 : Int32)), .val (.int (2 : Int32)), .val (.ref b1), .val (.int (2 : Int32)), .unset]) rfl kt) ?_
  show own_Rch p e below _ T2 (mkF m 14 #[.val (.ref r), .val (.int (0 : Int32)), .val (.int (2 : Int32)), .val (.ref b1), .val (.int (2 : Int32)), .unset] [])
  refine own_st (fun _ kt => XS.iload X2.here hx rfl (hb hby own_d9_14) rfl  kt) ?_
  show own_Rch p e below _ T2 (mkF m 16 #[.val (.ref r), .val (.int (0 : Int32)), .val (.int (2 : Int32)), .val (.ref b1), .val (.int (2 : Int32)), .unset] [(.int (2 : Int32))])
  refine own_st (fun _ kt => XS.iloadN X2.here hx rfl (hb hby own_d9_16) rfl  kt) ?_
  show own_Rch p e below _ T2 (mkF m 17 #[.val (.ref r), .val (.int (0 : Int32)), .val (.int (2 : Int32)), .val (.ref b1), .val (.int (2 : Int32)), .unset] [(.int (2 : Int32)), (.int (2 : Int32))])
  refine own_st (fun _ kt => XS.icmpYes X2.here hx rfl (pc0 := 17) (pc' := 57) rfl (hb hby own_d9_17) rfl (teq (rfl : (2 : Int32) = (2 : Int32))).1 (by decide) (by decide) kt) ?_
  show own_Rch p e below _ T2 (mkF m 57 #[.val (.ref r), .val (.int (0 : Int32)), .val (.int (2 : Int32)), .val (.ref b1), .val (.int (2 : Int32)), .unset] [])
  refine own_st (fun _ kt => XS.aloadN X2.here hx rfl (hb hby own_d9_57) rfl rfl  kt) ?_
  show own_Rch p e below _ T2 (mkF m 58 #[.val (.ref r), .val (.int (0 : Int32)), .val (.int (2 : Int32)), .val (.ref b1), .val (.int (2 : Int32)), .unset] [(.ref b1)])
  refine own_retA rfl rfl X2 hx Bd.notSynchronized Bd.returns (hb hby own_d9_58) (by decide) (by decide) ?_
  exact ⟨_, _, rfl, N2, K0_x2, sz1, Vb2⟩
def own_Q_own_cf_2 (Z : State) (b : Addr) (kb : ClassId) (vs : List Value) (h0 : Heap) (n0 : Nat) (v : Option Value) (h : Heap) (L : List Loc) : Prop := v = some (.int (0 : Int32)) ∧ Fr n0 L ∧ h = h0
set_option maxRecDepth 65536 in
set_option maxHeartbeats 40000000 in
theorem own_cf_2 (l : Launch) (Z : State) (a0 : Array Value) (hw : ∀ d ∈ tables_1, d.before a0 Z = true) (ws : List Jvm.Cond) (b : Addr) (kb : ClassId) (vs : List Value) (h0 : Heap) (n0 : Nat) (O0 : Old Z n0 h0) (VB : Arv Z h0 b kb .byte (2 : Int32) vs (.int (0 : Int32))) :
    MetFree l (⟨"java/lang/StringUTF16", "coderFromArrayLen", "([BI)B"⟩ : MethodName) (head1 (Jvm.Cond.code (⟨"java/lang/StringUTF16", "coderFromArrayLen", "([BI)B"⟩ : MethodName) jdk_52_method_15_code 2 (some .byte) :: ws) ({ frames := 0, cells := 0, slots := 0, locals := 0 } : Room)) (fun args_ U => args_ = #[(.ref b), (.int (2 : Int32))] ∧ Z.Warmed39 U.vm ∧ U.heap = h0) (fun _ _ _ _ _ => True) (fun _ U o U' => ∃ v L, o = .returned v ∧ (own_Q_own_cf_2 Z b kb vs h0 n0) v U'.heap L ∧ FrameEnd U o U' L ({ frames := 0, cells := 0, slots := 0, locals := 0 } : Room).cells ({ frames := 0, cells := 0, slots := 0, locals := 0 } : Room).slots) := by
  refine MetFree.of_bodySF (plainFor_of_name own_pn3) hisR ?_
  intro p e s m args below meth c s₁ Bd hml0 hP hK
  obtain ⟨rfl, hZ, hh⟩ := hP
  have hx := Bd.exec
  have hby := Bd.bytes
  have hml : c.maxLocals = 2 := hml0
  have hown : s.vm.findClass "java/lang/StringUTF16" = some m.cls := findClass_of_methodNamed Bd.named
  have hnm := (name_of_methodNamed Bd.named Bd.method).1
  have X0 : Stand p l e ({ frames := 0, cells := 0, slots := 0, locals := 0 } : Room) s m #[(.ref b), (.int (2 : Int32))] below meth c s₁ [] 0 0 := Stand.of_body Bd
  have e0 : s₁.heap = h0 := by rw [← hh, Bd.state]; rfl
  have N0 := Fr.nil n0
  refine own_close (s := s) (Q := (own_Q_own_cf_2 Z b kb vs h0 n0)) (C := (({ frames := 0, cells := 0, slots := 0, locals := 0 } : Room)).cells) (N := (({ frames := 0, cells := 0, slots := 0, locals := 0 } : Room)).slots) (own_st (fun _ kt => castTop (own_ef11 m b (2 : Int32)) kt) ?_)
  show own_Rch p e below _ s₁ (mkF m 0 #[.val (.ref b), .val (.int (2 : Int32))] [])
  refine own_st (fun _ kt => XS.iloadN X0.here hx rfl (hb hby own_d11_0) rfl  kt) ?_
  show own_Rch p e below _ s₁ (mkF m 1 #[.val (.ref b), .val (.int (2 : Int32))] [(.int (2 : Int32))])
  refine own_st (fun _ kt => XS.aloadN X0.here hx rfl (hb hby own_d11_1) rfl rfl  kt) ?_
  show own_Rch p e below _ s₁ (mkF m 2 #[.val (.ref b), .val (.int (2 : Int32))] [(.ref b), (.int (2 : Int32))])
  obtain ⟨cl1, Ar1, -, S1, M1, -, -⟩ := id VB
  refine own_st (X0.arraylength hx (by rw [e0]; exact Ar1.1) (State.isArrayOf_alike (hZ).alike Ar1.2.1) (g := (mkF m 2 #[.val (.ref b), .val (.int (2 : Int32))] [(.ref b), (.int (2 : Int32))])) rfl rfl (hb hby own_d11_2)) ?_
  rw [len_of S1 M1]
  show own_Rch p e below _ s₁ (mkF m 3 #[.val (.ref b), .val (.int (2 : Int32))] [(.int (2 : Int32)), (.int (2 : Int32))])
  refine own_st (fun _ kt => XS.isub X0.here hx rfl (hb hby own_d11_3) rfl kt) ?_
  show own_Rch p e below _ s₁ (mkF m 4 #[.val (.ref b), .val (.int (2 : Int32))] [(.int (0 : Int32))])
  refine own_st (fun _ kt => XS.bipush X0.here hx rfl (hb hby own_d11_4) kt) ?_
  show own_Rch p e below _ s₁ (mkF m 6 #[.val (.ref b), .val (.int (2 : Int32))] [(.int (31 : Int32)), (.int (0 : Int32))])
  refine own_st (fun _ kt => XS.iushr X0.here hx rfl (hb hby own_d11_6) rfl kt) ?_
  show own_Rch p e below _ s₁ (mkF m 7 #[.val (.ref b), .val (.int (2 : Int32))] [(.int (((0 : Int32).toUInt32 >>> ((31 : Int32) &&& 31).toUInt32).toInt32))])
  refine own_st (fun _ kt => XS.i2b X0.here hx rfl (hb hby own_d11_7) rfl kt) ?_
  show own_Rch p e below _ s₁ (mkF m 8 #[.val (.ref b), .val (.int (2 : Int32))] [(.int ((((0 : Int32).toUInt32 >>> ((31 : Int32) &&& 31).toUInt32).toInt32).toInt8.toInt32))])
  refine own_retN (t := .byte) (by simp) X0 hx Bd.notSynchronized Bd.returns (hb hby own_d11_8) (by decide) (by decide) ?_
  rw [e0]
  exact ⟨by decide, N0, rfl⟩
def own_Q_own_i5_2 (Z : State) (a : Addr) (r : Addr) (kr : ClassId) (c0 : Int32) (c1 : Int32) (cs : Int32) (h0 : Heap) (n0 : Nat) (v : Option Value) (h : Heap) (L : List Loc) : Prop := v = none ∧ Fr n0 L ∧ Keep h0 h [a] ∧ ∃ (y : Addr) (ky : ClassId), Exa Z h a "java/lang/String" ∧ Fld Z h a "java/lang/String" "value" "[B" (.ref y) ∧ Fld Z h a "java/lang/String" "coder" "B" (.int (0 : Int32)) ∧ Arv Z h y ky .byte (2 : Int32) [(.int (own_b c0)), (.int (own_b c1))] (.int (0 : Int32))
set_option maxRecDepth 65536 in
set_option maxHeartbeats 40000000 in
theorem own_i5_2 (l : Launch) (Z : State) (a0 : Array Value) (hw : ∀ d ∈ tables_1, d.before a0 Z = true) (ws : List Jvm.Cond) (a : Addr) (r : Addr) (kr : ClassId) (c0 : Int32) (c1 : Int32) (cs : Int32) (h0 : Heap) (n0 : Nat) (O0 : Old Z n0 h0) (SC : Sta Z Z.heap "java/lang/String" "COMPACT_STRINGS" "Z" (.int cs)) (hcs : ¬ cs = 0) (VR : Arv Z h0 r kr .char (2 : Int32) [(.int (nar .char c0)), (.int (nar .char c1))] (.int (0 : Int32))) (EA : Exa Z h0 a "java/lang/String") (FV : Fld Z h0 a "java/lang/String" "value" "[B" .null) (FC : Fld Z h0 a "java/lang/String" "coder" "B" (.int (0 : Int32))) (ga : n0 ≤ a) (hc0 : own_ch c0) (hc1 : own_ch c1) :
    MetFree l (⟨"java/lang/String", "<init>", "([CIILjava/lang/Void;)V"⟩ : MethodName) (head1 (Jvm.Cond.code (⟨"java/lang/String", "<init>", "([CIILjava/lang/Void;)V"⟩ : MethodName) jdk_42_method_149_code 6 none :: ws) ({ frames := 2, cells := 1, slots := 2, locals := 35 } : Room)) (fun args_ U => args_ = #[(.ref a), (.ref r), (.int (0 : Int32)), (.int (2 : Int32)), .null] ∧ Z.Warmed39 U.vm ∧ U.heap = h0) (fun _ _ _ _ _ => True) (fun _ U o U' => ∃ v L, o = .returned v ∧ (own_Q_own_i5_2 Z a r kr c0 c1 cs h0 n0) v U'.heap L ∧ FrameEnd U o U' L ({ frames := 2, cells := 1, slots := 2, locals := 35 } : Room).cells ({ frames := 2, cells := 1, slots := 2, locals := 35 } : Room).slots) := by
  refine MetFree.of_bodySF (plainFor_of_name own_pn1) hisR ?_
  intro p e s m args below meth c s₁ Bd hml0 hP hK
  obtain ⟨rfl, hZ, hh⟩ := hP
  have hx := Bd.exec
  have hby := Bd.bytes
  have hml : c.maxLocals = 6 := hml0
  have hown : s.vm.findClass "java/lang/String" = some m.cls := findClass_of_methodNamed Bd.named
  have hnm := (name_of_methodNamed Bd.named Bd.method).1
  have X0 : Stand p l e ({ frames := 2, cells := 1, slots := 2, locals := 35 } : Room) s m #[(.ref a), (.ref r), (.int (0 : Int32)), (.int (2 : Int32)), .null] below meth c s₁ [] 0 0 := Stand.of_body Bd
  have e0 : s₁.heap = h0 := by rw [← hh, Bd.state]; rfl
  have N0 := Fr.nil n0
  refine own_close (s := s) (Q := (own_Q_own_i5_2 Z a r kr c0 c1 cs h0 n0)) (C := (({ frames := 2, cells := 1, slots := 2, locals := 35 } : Room)).cells) (N := (({ frames := 2, cells := 1, slots := 2, locals := 35 } : Room)).slots) (own_st (fun _ kt => castTop (own_ef3n4 m a r (0 : Int32) (2 : Int32)) kt) ?_)
  have K0 := Keep.refl h0 [a]
  show own_Rch p e below _ s₁ (mkF m 0 #[.val (.ref a), .val (.ref r), .val (.int (0 : Int32)), .val (.int (2 : Int32)), .val .null, .unset] [])
  refine own_st (fun _ kt => XS.aloadN X0.here hx rfl (hb hby own_d3_0) rfl rfl  kt) ?_
  show own_Rch p e below _ s₁ (mkF m 1 #[.val (.ref a), .val (.ref r), .val (.int (0 : Int32)), .val (.int (2 : Int32)), .val .null, .unset] [(.ref a)])
  obtain ⟨T1, X1, e1, st1⟩ := initO X0 hx hZ hown (hw _ (List.mem_of_getElem? (i := 15) rfl)) (hw _ (List.mem_of_getElem? (i := 16) rfl)) (hw _ (List.mem_of_getElem? (i := 17) rfl)) e0 (g := (mkF m 1 #[.val (.ref a), .val (.ref r), .val (.int (0 : Int32)), .val (.int (2 : Int32)), .val .null, .unset] [(.ref a)])) rfl (by rw [hml]; rfl) rfl (hb hby own_d3_1) (by decide) (W := 0) (by show 2 * 0 + _ ≤ _; exact Nat.le_of_eq rfl) (by decide)
  refine own_st st1 ?_
  show own_Rch p e below _ T1 (mkF m 4 #[.val (.ref a), .val (.ref r), .val (.int (0 : Int32)), .val (.int (2 : Int32)), .val .null, .unset] [])
  refine own_st (fun _ kt => XS.iloadN X1.here hx rfl (hb hby own_d3_4) rfl  kt) ?_
  show own_Rch p e below _ T1 (mkF m 5 #[.val (.ref a), .val (.ref r), .val (.int (0 : Int32)), .val (.int (2 : Int32)), .val .null, .unset] [(.int (2 : Int32))])
  refine own_st (fun _ kt => XS.ifYes X1.here hx rfl (pc0 := 5) (pc' := 27) rfl (hb hby own_d3_5) rfl ((if0 _ _).trans (feq ((by decide) : ¬ ((2 : Int32) = (0 : Int32)))).2) (by decide) (by decide) kt) ?_
  show own_Rch p e below _ T1 (mkF m 27 #[.val (.ref a), .val (.ref r), .val (.int (0 : Int32)), .val (.int (2 : Int32)), .val .null, .unset] [])
  obtain ⟨T2, X2, e2, st2⟩ := getS2 X1 hx hZ hown (host := "") (Or.inl (hw _ (List.mem_of_getElem? (i := 48) rfl))) Via.refl e1 (SC.ext O0.2) (g := (mkF m 27 #[.val (.ref a), .val (.ref r), .val (.int (0 : Int32)), .val (.int (2 : Int32)), .val .null, .unset] [])) rfl (hb hby own_d3_27)
  refine own_st st2 ?_
  show own_Rch p e below _ T2 (mkF m 30 #[.val (.ref a), .val (.ref r), .val (.int (0 : Int32)), .val (.int (2 : Int32)), .val .null, .unset] [(.int cs)])
  refine own_st (fun _ kt => XS.ifNo X2.here hx rfl (hb hby own_d3_30) rfl ((if0 _ _).trans (feq (hcs : ¬ (cs = (0 : Int32)))).1) kt) ?_
  show own_Rch p e below _ T2 (mkF m 33 #[.val (.ref a), .val (.ref r), .val (.int (0 : Int32)), .val (.int (2 : Int32)), .val .null, .unset] [])
  refine own_st (fun _ kt => XS.aloadN X2.here hx rfl (hb hby own_d3_33) rfl rfl  kt) ?_
  show own_Rch p e below _ T2 (mkF m 34 #[.val (.ref a), .val (.ref r), .val (.int (0 : Int32)), .val (.int (2 : Int32)), .val .null, .unset] [(.ref r)])
  refine own_st (fun _ kt => XS.iloadN X2.here hx rfl (hb hby own_d3_34) rfl  kt) ?_
  show own_Rch p e below _ T2 (mkF m 35 #[.val (.ref a), .val (.ref r), .val (.int (0 : Int32)), .val (.int (2 : Int32)), .val .null, .unset] [(.int (0 : Int32)), (.ref r)])
  refine own_st (fun _ kt => XS.iloadN X2.here hx rfl (hb hby own_d3_35) rfl  kt) ?_
  show own_Rch p e below _ T2 (mkF m 36 #[.val (.ref a), .val (.ref r), .val (.int (0 : Int32)), .val (.int (2 : Int32)), .val .null, .unset] [(.int (2 : Int32)), (.int (0 : Int32)), (.ref r)])
  obtain ⟨_, _, ⟨T3, L3, k3, n3⟩, -, X3, ⟨Lc3, hQ3, l3, y3, z3⟩, st3⟩ := Jvm.LawKit.callS X2 hx (y := (⟨"java/lang/StringUTF16", "compress", "([CII)[B"⟩ : MethodName)) hown (mvT hZ (hw _ (List.mem_of_getElem? (i := 53) rfl))) (mvT hZ (hw _ (List.mem_of_getElem? (i := 54) rfl))) (mvT hZ (hw _ (List.mem_of_getElem? (i := 55) rfl))) (mvT hZ (hw _ (List.mem_of_getElem? (i := 56) rfl))) (by decide) (backOf (W := 0) (own_c3_2 l Z a0 hw [] r kr c0 c1 h0 n0 O0 VR hc0 hc1) hZ (hw _ (List.mem_of_getElem? (i := 56) rfl)) (hw _ (List.mem_of_getElem? (i := 55) rfl)) (by decide) (by decide)) (g := (mkF m 36 #[.val (.ref a), .val (.ref r), .val (.int (0 : Int32)), .val (.int (2 : Int32)), .val .null, .unset] [(.int (2 : Int32)), (.int (0 : Int32)), (.ref r)])) rfl (by rw [hml]; rfl) (argsL := [(.ref r), (.int (0 : Int32)), (.int (2 : Int32))]) (rest := []) (lenOf own_pd3 rfl) rfl (by show 2 * 0 + _ ≤ _; exact Nat.le_of_eq rfl) (hb hby own_d3_36) (fun _ _ => ⟨rfl, e2, (by decide : 0 + 1 ≤ _), (by decide : 0 + 2 ≤ _)⟩)
  dsimp only [Pt.U, Pt.locs, Pt.cells, Pt.slots] at X3 l3 y3 z3 st3 hQ3
  subst l3 y3 z3
  obtain ⟨by3, kb3, rfl, N3q, K3, hb3, Vb3⟩ := hQ3
  have N3 := Fr.app N0 N3q
  refine own_st st3 ?_
  have ne3_r_by3 : r ≠ by3 := Nat.ne_of_lt (Nat.lt_of_lt_of_le VR.lt hb3)
  have ne3_a_by3 : a ≠ by3 := Nat.ne_of_lt (Nat.lt_of_lt_of_le EA.lt hb3)
  have ge3_by3 : n0 ≤ by3 := Nat.le_trans (own_old_le O0) hb3
  have sz3_by3 : h0.size ≤ by3 := Nat.le_trans K0.1 hb3
  have O0_x3 := O0.keep K3 all0
  have VR_x3 := VR.keep K3 nin0
  have EA_x3 := EA.keep K3
  have FV_x3 := FV.keep K3 nin0
  have FC_x3 := FC.keep K3 nin0
  have K0_x3 := K0.trans K3 all0
  show own_Rch p e below _ T3 (mkF m 39 #[.val (.ref a), .val (.ref r), .val (.int (0 : Int32)), .val (.int (2 : Int32)), .val .null, .unset] [(.ref by3)])
  refine own_st (fun _ kt => XS.astore X3.here hx rfl (hb hby own_d3_39) rfl rfl (l' := #[.val (.ref a), .val (.ref r), .val (.int (0 : Int32)), .val (.int (2 : Int32)), .val .null, .val (.ref by3)]) rfl kt) ?_
  show own_Rch p e below _ T3 (mkF m 41 #[.val (.ref a), .val (.ref r), .val (.int (0 : Int32)), .val (.int (2 : Int32)), .val .null, .val (.ref by3)] [])
  refine own_st (fun _ kt => XS.aloadN X3.here hx rfl (hb hby own_d3_41) rfl rfl  kt) ?_
  show own_Rch p e below _ T3 (mkF m 42 #[.val (.ref a), .val (.ref r), .val (.int (0 : Int32)), .val (.int (2 : Int32)), .val .null, .val (.ref by3)] [(.ref a)])
  refine own_st (fun _ kt => XS.aload X3.here hx rfl (hb hby own_d3_42) rfl rfl  kt) ?_
  show own_Rch p e below _ T3 (mkF m 44 #[.val (.ref a), .val (.ref r), .val (.int (0 : Int32)), .val (.int (2 : Int32)), .val .null, .val (.ref by3)] [(.ref by3), (.ref a)])
  refine own_st (fun _ kt => XS.iloadN X3.here hx rfl (hb hby own_d3_44) rfl  kt) ?_
  show own_Rch p e below _ T3 (mkF m 45 #[.val (.ref a), .val (.ref r), .val (.int (0 : Int32)), .val (.int (2 : Int32)), .val .null, .val (.ref by3)] [(.int (2 : Int32)), (.ref by3), (.ref a)])
  obtain ⟨_, _, ⟨T4, L4, k4, n4⟩, -, X4, ⟨Lc4, hQ4, l4, y4, z4⟩, st4⟩ := Jvm.LawKit.callS X3 hx (y := (⟨"java/lang/StringUTF16", "coderFromArrayLen", "([BI)B"⟩ : MethodName)) hown (mvT hZ (hw _ (List.mem_of_getElem? (i := 60) rfl))) (mvT hZ (hw _ (List.mem_of_getElem? (i := 61) rfl))) (mvT hZ (hw _ (List.mem_of_getElem? (i := 55) rfl))) (mvT hZ (hw _ (List.mem_of_getElem? (i := 62) rfl))) (by decide) (backOf (W := 1) (own_cf_2 l Z a0 hw [] by3 kb3 _ T3.heap n0 O0_x3 Vb3) hZ (hw _ (List.mem_of_getElem? (i := 62) rfl)) (hw _ (List.mem_of_getElem? (i := 55) rfl)) (by decide) (by decide)) (g := (mkF m 45 #[.val (.ref a), .val (.ref r), .val (.int (0 : Int32)), .val (.int (2 : Int32)), .val .null, .val (.ref by3)] [(.int (2 : Int32)), (.ref by3), (.ref a)])) rfl (by rw [hml]; rfl) (argsL := [(.ref by3), (.int (2 : Int32))]) (rest := [(.ref a)]) (lenOf own_pd4 rfl) rfl (by show 2 * 0 + _ ≤ _; exact Nat.le_of_eq rfl) (hb hby own_d3_45) (fun _ _ => ⟨rfl, rfl, (by decide : 1 + 0 ≤ _), (by decide : 2 + 0 ≤ _)⟩)
  dsimp only [Pt.U, Pt.locs, Pt.cells, Pt.slots] at X4 l4 y4 z4 st4 hQ4
  subst l4 y4 z4
  obtain ⟨rfl, N4q, hh4⟩ := hQ4
  have N4 := Fr.app N3 N4q
  refine own_st st4 ?_
  show own_Rch p e below _ T4 (mkF m 48 #[.val (.ref a), .val (.ref r), .val (.int (0 : Int32)), .val (.int (2 : Int32)), .val .null, .val (.ref by3)] [(.int (0 : Int32)), (.ref a)])
  obtain ⟨T5, h5, X5, e5, W5, st5⟩ := putFN X4 hx hZ hown (hw _ (List.mem_of_getElem? (i := 25) rfl)) Via.refl hh4 FC_x3 EA_x3 (Or.inr ⟨(hw _ (List.mem_of_getElem? (i := 21) rfl)), rfl, hnm⟩) (hw _ (List.mem_of_getElem? (i := 5) rfl)) (ty := .byte) (v' := (.int (0 : Int32))) (by decide) rfl (by decide) (g := (mkF m 48 #[.val (.ref a), .val (.ref r), .val (.int (0 : Int32)), .val (.int (2 : Int32)), .val .null, .val (.ref by3)] [(.int (0 : Int32)), (.ref a)])) rfl rfl (hb hby own_d3_48)
  refine own_st st5 ?_
  have Fw5 := FC_x3.same W5
  have N5 := Fr.snoc X5 N4 ga
  have O0_x5 := O0_x3.wr W5 ga
  have VR_x5 := VR_x3.other W5 (Ne.symm (Exa.neArv EA VR (hw _ (List.mem_of_getElem? (i := 5) rfl))))
  have EA_x5 := EA_x3.wr W5
  have FV_x5 := FV_x3.other W5 (Or.inr (slot_ne (Or.inr (hw _ (List.mem_of_getElem? (i := 20) rfl))) (Or.inr (hw _ (List.mem_of_getElem? (i := 21) rfl))) (by decide) (t := (.array .byte)) (t' := .byte) (by decide) (by decide)))
  have K0_x5 := K0_x3.wr W5 (Or.inl (List.mem_of_getElem? (i := 0) rfl))
  have Vb3_x5 := Vb3.other W5 (Ne.symm ne3_a_by3)
  show own_Rch p e below _ T5 (mkF m 51 #[.val (.ref a), .val (.ref r), .val (.int (0 : Int32)), .val (.int (2 : Int32)), .val .null, .val (.ref by3)] [])
  refine own_st (fun _ kt => XS.aloadN X5.here hx rfl (hb hby own_d3_51) rfl rfl  kt) ?_
  show own_Rch p e below _ T5 (mkF m 52 #[.val (.ref a), .val (.ref r), .val (.int (0 : Int32)), .val (.int (2 : Int32)), .val .null, .val (.ref by3)] [(.ref a)])
  refine own_st (fun _ kt => XS.aload X5.here hx rfl (hb hby own_d3_52) rfl rfl  kt) ?_
  show own_Rch p e below _ T5 (mkF m 54 #[.val (.ref a), .val (.ref r), .val (.int (0 : Int32)), .val (.int (2 : Int32)), .val .null, .val (.ref by3)] [(.ref by3), (.ref a)])
  obtain ⟨T6, h6, X6, e6, W6, st6⟩ := putF X5 hx hZ hown (host := "") (Or.inl (hw _ (List.mem_of_getElem? (i := 24) rfl))) Via.refl e5 FV_x5 EA_x5 (Or.inr ⟨(hw _ (List.mem_of_getElem? (i := 20) rfl)), rfl, hnm⟩) (hw _ (List.mem_of_getElem? (i := 5) rfl)) (ty := (.array .byte)) (by decide) rfl rfl (g := (mkF m 54 #[.val (.ref a), .val (.ref r), .val (.int (0 : Int32)), .val (.int (2 : Int32)), .val .null, .val (.ref by3)] [(.ref by3), (.ref a)])) rfl rfl (hb hby own_d3_54)
  refine own_st st6 ?_
  have Fw6 := FV_x5.same W6
  have N6 := Fr.snoc X6 N5 ga
  have O0_x6 := O0_x5.wr W6 ga
  have VR_x6 := VR_x5.other W6 (Ne.symm (Exa.neArv EA VR (hw _ (List.mem_of_getElem? (i := 5) rfl))))
  have EA_x6 := EA_x5.wr W6
  have Fw5_x6 := Fw5.other W6 (Or.inr (slot_ne (Or.inr (hw _ (List.mem_of_getElem? (i := 21) rfl))) (Or.inr (hw _ (List.mem_of_getElem? (i := 20) rfl))) (by decide) (t := .byte) (t' := (.array .byte)) (by decide) (by decide)))
  have K0_x6 := K0_x5.wr W6 (Or.inl (List.mem_of_getElem? (i := 0) rfl))
  have Vb3_x6 := Vb3_x5.other W6 (Ne.symm ne3_a_by3)
  show own_Rch p e below _ T6 (mkF m 57 #[.val (.ref a), .val (.ref r), .val (.int (0 : Int32)), .val (.int (2 : Int32)), .val .null, .val (.ref by3)] [])
  refine own_retV X6 hx Bd.notSynchronized Bd.returns (hb hby own_d3_57) (by decide) (by decide) ?_
  rw [e6]
  exact ⟨rfl, N6, K0_x6, _, _, EA_x6, Fw6, Fw5_x6, Vb3_x6⟩
def own_Q_own_i1_2 (Z : State) (a : Addr) (r : Addr) (kr : ClassId) (c0 : Int32) (c1 : Int32) (cs : Int32) (h0 : Heap) (n0 : Nat) (v : Option Value) (h : Heap) (L : List Loc) : Prop := v = none ∧ Fr n0 L ∧ Keep h0 h [a] ∧ ∃ (y : Addr) (ky : ClassId), Exa Z h a "java/lang/String" ∧ Fld Z h a "java/lang/String" "value" "[B" (.ref y) ∧ Fld Z h a "java/lang/String" "coder" "B" (.int (0 : Int32)) ∧ Arv Z h y ky .byte (2 : Int32) [(.int (own_b c0)), (.int (own_b c1))] (.int (0 : Int32))
set_option maxRecDepth 65536 in
set_option maxHeartbeats 40000000 in
theorem own_i1_2 (l : Launch) (Z : State) (a0 : Array Value) (hw : ∀ d ∈ tables_1, d.before a0 Z = true) (ws : List Jvm.Cond) (a : Addr) (r : Addr) (kr : ClassId) (c0 : Int32) (c1 : Int32) (cs : Int32) (h0 : Heap) (n0 : Nat) (O0 : Old Z n0 h0) (SC : Sta Z Z.heap "java/lang/String" "COMPACT_STRINGS" "Z" (.int cs)) (hcs : ¬ cs = 0) (VR : Arv Z h0 r kr .char (2 : Int32) [(.int (nar .char c0)), (.int (nar .char c1))] (.int (0 : Int32))) (EA : Exa Z h0 a "java/lang/String") (FV : Fld Z h0 a "java/lang/String" "value" "[B" .null) (FC : Fld Z h0 a "java/lang/String" "coder" "B" (.int (0 : Int32))) (ga : n0 ≤ a) (hc0 : own_ch c0) (hc1 : own_ch c1) :
    MetFree l (⟨"java/lang/String", "<init>", "([C)V"⟩ : MethodName) (head1 (Jvm.Cond.code (⟨"java/lang/String", "<init>", "([C)V"⟩ : MethodName) jdk_42_method_3_code 2 none :: ws) ({ frames := 3, cells := 1, slots := 2, locals := 52 } : Room)) (fun args_ U => args_ = #[(.ref a), (.ref r)] ∧ Z.Warmed39 U.vm ∧ U.heap = h0) (fun _ _ _ _ _ => True) (fun _ U o U' => ∃ v L, o = .returned v ∧ (own_Q_own_i1_2 Z a r kr c0 c1 cs h0 n0) v U'.heap L ∧ FrameEnd U o U' L ({ frames := 3, cells := 1, slots := 2, locals := 52 } : Room).cells ({ frames := 3, cells := 1, slots := 2, locals := 52 } : Room).slots) := by
  refine MetFree.of_bodySF (plainFor_of_name own_pn1) hisR ?_
  intro p e s m args below meth c s₁ Bd hml0 hP hK
  obtain ⟨rfl, hZ, hh⟩ := hP
  have hx := Bd.exec
  have hby := Bd.bytes
  have hml : c.maxLocals = 2 := hml0
  have hown : s.vm.findClass "java/lang/String" = some m.cls := findClass_of_methodNamed Bd.named
  have hnm := (name_of_methodNamed Bd.named Bd.method).1
  have X0 : Stand p l e ({ frames := 3, cells := 1, slots := 2, locals := 52 } : Room) s m #[(.ref a), (.ref r)] below meth c s₁ [] 0 0 := Stand.of_body Bd
  have e0 : s₁.heap = h0 := by rw [← hh, Bd.state]; rfl
  have N0 := Fr.nil n0
  refine own_close (s := s) (Q := (own_Q_own_i1_2 Z a r kr c0 c1 cs h0 n0)) (C := (({ frames := 3, cells := 1, slots := 2, locals := 52 } : Room)).cells) (N := (({ frames := 3, cells := 1, slots := 2, locals := 52 } : Room)).slots) (own_st (fun _ kt => castTop (own_ef2 m a r) kt) ?_)
  have K0 := Keep.refl h0 [a]
  show own_Rch p e below _ s₁ (mkF m 0 #[.val (.ref a), .val (.ref r)] [])
  refine own_st (fun _ kt => XS.aloadN X0.here hx rfl (hb hby own_d2_0) rfl rfl  kt) ?_
  show own_Rch p e below _ s₁ (mkF m 1 #[.val (.ref a), .val (.ref r)] [(.ref a)])
  refine own_st (fun _ kt => XS.aloadN X0.here hx rfl (hb hby own_d2_1) rfl rfl  kt) ?_
  show own_Rch p e below _ s₁ (mkF m 2 #[.val (.ref a), .val (.ref r)] [(.ref r), (.ref a)])
  refine own_st (fun _ kt => XS.iconst X0.here hx rfl (hb hby own_d2_2) kt) ?_
  show own_Rch p e below _ s₁ (mkF m 3 #[.val (.ref a), .val (.ref r)] [(.int (0 : Int32)), (.ref r), (.ref a)])
  refine own_st (fun _ kt => XS.aloadN X0.here hx rfl (hb hby own_d2_3) rfl rfl  kt) ?_
  show own_Rch p e below _ s₁ (mkF m 4 #[.val (.ref a), .val (.ref r)] [(.ref r), (.int (0 : Int32)), (.ref r), (.ref a)])
  obtain ⟨cl1, Ar1, -, S1, M1, -, -⟩ := id VR
  refine own_st (X0.arraylength hx (by rw [e0]; exact Ar1.1) (State.isArrayOf_alike (hZ).alike Ar1.2.1) (g := (mkF m 4 #[.val (.ref a), .val (.ref r)] [(.ref r), (.int (0 : Int32)), (.ref r), (.ref a)])) rfl rfl (hb hby own_d2_4)) ?_
  rw [len_of S1 M1]
  show own_Rch p e below _ s₁ (mkF m 5 #[.val (.ref a), .val (.ref r)] [(.int (2 : Int32)), (.int (0 : Int32)), (.ref r), (.ref a)])
  refine own_st (fun _ kt => XS.aconstNull X0.here hx rfl (hb hby own_d2_5) kt) ?_
  show own_Rch p e below _ s₁ (mkF m 6 #[.val (.ref a), .val (.ref r)] [.null, (.int (2 : Int32)), (.int (0 : Int32)), (.ref r), (.ref a)])
  obtain ⟨_, _, ⟨T2, L2, k2, n2⟩, -, X2, ⟨Lc2, hQ2, l2, y2, z2⟩, st2⟩ := X0.specialBack hx (y := (⟨"java/lang/String", "<init>", "([CIILjava/lang/Void;)V"⟩ : MethodName)) rfl hown (mvT hZ (hw _ (List.mem_of_getElem? (i := 11) rfl))) (mvT hZ (hw _ (List.mem_of_getElem? (i := 12) rfl))) (mvT hZ (hw _ (List.mem_of_getElem? (i := 14) rfl))) (by decide) (backOf (W := 0) (own_i5_2 l Z a0 hw [] a r kr c0 c1 cs h0 n0 O0 SC hcs VR EA FV FC ga hc0 hc1) hZ (hw _ (List.mem_of_getElem? (i := 14) rfl)) (hw _ (List.mem_of_getElem? (i := 6) rfl)) (by decide) (by decide)) (g := (mkF m 6 #[.val (.ref a), .val (.ref r)] [.null, (.int (2 : Int32)), (.int (0 : Int32)), (.ref r), (.ref a)])) rfl (by rw [hml]; rfl) (Steps.refl _) (a := a) (argsL := [(.ref r), (.int (0 : Int32)), (.int (2 : Int32)), .null]) (rest := []) (lenOf own_pd5 rfl) rfl (by show 2 * 0 + _ ≤ _; exact Nat.le_of_eq rfl) (hb hby own_d2_6) (fun _ _ => ⟨rfl, e0, (by decide : 0 + 1 ≤ _), (by decide : 0 + 2 ≤ _)⟩)
  dsimp only [Pt.U, Pt.locs, Pt.cells, Pt.slots] at X2 l2 y2 z2 st2 hQ2
  subst l2 y2 z2
  obtain ⟨rfl, N2q, K2, yy2, ky2, Ea2, Fv2, Fc2, Vy2⟩ := hQ2
  have N2 := Fr.app N0 N2q
  refine own_st (fun _ kt => st2.trans kt) ?_
  have O0_x2 := O0.keep K2 (allS ga all0)
  have VR_x2 := VR.keep K2 (ninS (Ne.symm (Exa.neArv EA VR (hw _ (List.mem_of_getElem? (i := 5) rfl)))) nin0)
  have EA_x2 := EA.keep K2
  have K0_x2 := K0.trans K2 (allS (Or.inl (List.mem_of_getElem? (i := 0) rfl)) all0)
  show own_Rch p e below _ T2 (mkF m 9 #[.val (.ref a), .val (.ref r)] [])
  refine own_retV X2 hx Bd.notSynchronized Bd.returns (hb hby own_d2_9) (by decide) (by decide) ?_
  exact ⟨rfl, N2, K0_x2, _, _, Ea2, Fv2, Fc2, Vy2⟩
theorem own_d3_8 : decode jdk_42_method_149_code 8 = .ok (.aload_n 0, 1) := by decide +kernel
theorem own_d3_9 : decode jdk_42_method_149_code 9 = .ok (.ldc 7, 2) := by decide +kernel
theorem own_d3_11 : decode jdk_42_method_149_code 11 = .ok (.getfield 9, 3) := by decide +kernel
theorem own_d3_14 : decode jdk_42_method_149_code 14 = .ok (.putfield 9, 3) := by decide +kernel
theorem own_d3_17 : decode jdk_42_method_149_code 17 = .ok (.aload_n 0, 1) := by decide +kernel
theorem own_d3_18 : decode jdk_42_method_149_code 18 = .ok (.ldc 7, 2) := by decide +kernel
theorem own_d3_20 : decode jdk_42_method_149_code 20 = .ok (.getfield 15, 3) := by decide +kernel
theorem own_d3_23 : decode jdk_42_method_149_code 23 = .ok (.putfield 15, 3) := by decide +kernel
theorem own_d3_26 : decode jdk_42_method_149_code 26 = .ok (.return_, 1) := by decide +kernel
def own_Q_own_i5_0 (Z : State) (a : Addr) (r : Addr) (kr : ClassId) (c0 : Int32) (c1 : Int32) (cs : Int32) (h0 : Heap) (n0 : Nat) (v : Option Value) (h : Heap) (L : List Loc) : Prop := v = none ∧ Fr n0 L ∧ Keep h0 h [a] ∧ ∃ (y : Addr) (ky : ClassId), Exa Z h a "java/lang/String" ∧ Fld Z h a "java/lang/String" "value" "[B" (.ref y) ∧ Fld Z h a "java/lang/String" "coder" "B" (.int (0 : Int32)) ∧ Arv Z h y ky .byte (0 : Int32) [] (.int (0 : Int32))
set_option maxRecDepth 65536 in
set_option maxHeartbeats 40000000 in
theorem own_i5_0 (l : Launch) (Z : State) (a0 : Array Value) (hw : ∀ d ∈ tables_1, d.before a0 Z = true) (ws : List Jvm.Cond) (a : Addr) (r : Addr) (kr : ClassId) (c0 : Int32) (c1 : Int32) (cs : Int32) (h0 : Heap) (n0 : Nat) (O0 : Old Z n0 h0) (SC : Sta Z Z.heap "java/lang/String" "COMPACT_STRINGS" "Z" (.int cs)) (hcs : ¬ cs = 0) (VR : Arv Z h0 r kr .char (0 : Int32) [] (.int (0 : Int32))) (EA : Exa Z h0 a "java/lang/String") (FV : Fld Z h0 a "java/lang/String" "value" "[B" .null) (FC : Fld Z h0 a "java/lang/String" "coder" "B" (.int (0 : Int32))) (ga : n0 ≤ a) (hc0 : own_ch c0) (hc1 : own_ch c1) :
    MetFree l (⟨"java/lang/String", "<init>", "([CIILjava/lang/Void;)V"⟩ : MethodName) (head1 (Jvm.Cond.code (⟨"java/lang/String", "<init>", "([CIILjava/lang/Void;)V"⟩ : MethodName) jdk_42_method_149_code 6 none :: ws) ({ frames := 1, cells := 4, slots := 8, locals := 12 } : Room)) (fun args_ U => args_ = #[(.ref a), (.ref r), (.int (0 : Int32)), (.int (0 : Int32)), .null] ∧ Z.Warmed39 U.vm ∧ U.heap = h0 ∧ CHv Z consts_1 U.vm h0) (fun _ _ _ _ _ => True) (fun _ U o U' => ∃ v L, o = .returned v ∧ (own_Q_own_i5_0 Z a r kr c0 c1 cs h0 n0) v U'.heap L ∧ CHr Z consts_1 U.vm U.heap U'.vm U'.heap ∧ ReturnedEndW U o U' L ({ frames := 1, cells := 4, slots := 8, locals := 12 } : Room).cells ({ frames := 1, cells := 4, slots := 8, locals := 12 } : Room).slots) := by
  refine MetFree.of_bodySF (plainFor_of_name own_pn1) hisR ?_
  intro p e s m args below meth c s₁ Bd hml0 hP hK
  obtain ⟨rfl, hZ, hh, hCH⟩ := hP
  have hx := Bd.exec
  have hby := Bd.bytes
  have hml : c.maxLocals = 6 := hml0
  have hown : s.vm.findClass "java/lang/String" = some m.cls := findClass_of_methodNamed Bd.named
  have hnm := (name_of_methodNamed Bd.named Bd.method).1
  have X0 : Stand p l e ({ frames := 1, cells := 4, slots := 8, locals := 12 } : Room) (s.setVm s.vm) m #[(.ref a), (.ref r), (.int (0 : Int32)), (.int (0 : Int32)), .null] below meth c s₁ [] 0 0 := Stand.of_body Bd
  have e0 : s₁.heap = h0 := by rw [← hh, Bd.state]; rfl
  have N0 := Fr.nil n0
  have hh0 : s.heap = h0 := hh
  have CR0 : CHr Z consts_1 s.vm h0 s.vm h0 := CHr.refl hCH
  have hS0 : s.Since s.vm 0 := own_since s
  have hk0 : 0 ≤ h0.size := Nat.zero_le _
  refine own_closeH (Z := Z) (EL := consts_1) (s := s) (Q := (own_Q_own_i5_0 Z a r kr c0 c1 cs h0 n0)) (C := (({ frames := 1, cells := 4, slots := 8, locals := 12 } : Room)).cells) (N := (({ frames := 1, cells := 4, slots := 8, locals := 12 } : Room)).slots) (own_st (fun _ kt => castTop (own_ef3n4 m a r (0 : Int32) (0 : Int32)) kt) ?_)
  have K0 := Keep.refl h0 [a]
  have YA := own_safe_null (EL := consts_1) hZ.alike EA FV
  show own_Rch p e below _ s₁ (mkF m 0 #[.val (.ref a), .val (.ref r), .val (.int (0 : Int32)), .val (.int (0 : Int32)), .val .null, .unset] [])
  refine own_st (fun _ kt => XS.aloadN X0.here hx rfl (hb hby own_d3_0) rfl rfl  kt) ?_
  show own_Rch p e below _ s₁ (mkF m 1 #[.val (.ref a), .val (.ref r), .val (.int (0 : Int32)), .val (.int (0 : Int32)), .val .null, .unset] [(.ref a)])
  obtain ⟨T1, X1, e1, st1⟩ := initO X0 hx hZ hown (hw _ (List.mem_of_getElem? (i := 15) rfl)) (hw _ (List.mem_of_getElem? (i := 16) rfl)) (hw _ (List.mem_of_getElem? (i := 17) rfl)) e0 (g := (mkF m 1 #[.val (.ref a), .val (.ref r), .val (.int (0 : Int32)), .val (.int (0 : Int32)), .val .null, .unset] [(.ref a)])) rfl (by rw [hml]; rfl) rfl (hb hby own_d3_1) (by decide) (W := 0) (by show 2 * 0 + _ ≤ _; exact Nat.le_of_eq rfl) (by decide)
  refine own_st st1 ?_
  show own_Rch p e below _ T1 (mkF m 4 #[.val (.ref a), .val (.ref r), .val (.int (0 : Int32)), .val (.int (0 : Int32)), .val .null, .unset] [])
  refine own_st (fun _ kt => XS.iloadN X1.here hx rfl (hb hby own_d3_4) rfl  kt) ?_
  show own_Rch p e below _ T1 (mkF m 5 #[.val (.ref a), .val (.ref r), .val (.int (0 : Int32)), .val (.int (0 : Int32)), .val .null, .unset] [(.int (0 : Int32))])
  refine own_st (fun _ kt => XS.ifNo X1.here hx rfl (hb hby own_d3_5) rfl ((if0 _ _).trans (teq (rfl : (0 : Int32) = (0 : Int32))).2) kt) ?_
  show own_Rch p e below _ T1 (mkF m 8 #[.val (.ref a), .val (.ref r), .val (.int (0 : Int32)), .val (.int (0 : Int32)), .val .null, .unset] [])
  refine own_st (fun _ kt => XS.aloadN X1.here hx rfl (hb hby own_d3_8) rfl rfl  kt) ?_
  show own_Rch p e below _ T1 (mkF m 9 #[.val (.ref a), .val (.ref r), .val (.int (0 : Int32)), .val (.int (0 : Int32)), .val .null, .unset] [(.ref a)])
  obtain ⟨sl2, T2, h2, ks2, sd2, kd2, X2, e2, E2, hS2, hk2, hZ2, hown2, Es2, Fc2, Fv2, Va2, -, -, CB2, -, hne2, st2⟩ := ldcCH (s := s) X1 hx hZ hown (hw _ (List.mem_of_getElem? (i := 18) rfl)) (own_wS hw) e1 hS0 hk0 (own_hEL hw) (List.mem_of_getElem? (i := 0) rfl) CR0.1 (vs := []) (z := (0 : Int32)) ⟨by decide, by decide⟩ (by decide) (by decide) (g := (mkF m 9 #[.val (.ref a), .val (.ref r), .val (.int (0 : Int32)), .val (.int (0 : Int32)), .val .null, .unset] [(.ref a)])) rfl (hb hby own_d3_9) (n := 0) (by decide) (by decide) (by decide) (by decide)
  have Yq2_a := CB2.safe EA.lt YA
  have O0_x2 := O0.ext E2
  have CR0_x2 := CR0.trans CB2
  have VR_x2 := VR.ext E2
  have EA_x2 := EA.ext E2
  have FV_x2 := FV.ext E2
  have FC_x2 := FC.ext E2
  have K0_x2 := K0.ext E2
  have nq2_a := hne2 a Yq2_a
  refine own_st st2 ?_
  show own_Rch p e below _ T2 (mkF m 11 #[.val (.ref a), .val (.ref r), .val (.int (0 : Int32)), .val (.int (0 : Int32)), .val .null, .unset] [(.ref sl2), (.ref a)])
  obtain ⟨T3, X3, e3, st3⟩ := getF X2 hx hZ2 hown2 (host := "") (Or.inl (hw _ (List.mem_of_getElem? (i := 24) rfl))) Via.refl e2 Fv2 (g := (mkF m 11 #[.val (.ref a), .val (.ref r), .val (.int (0 : Int32)), .val (.int (0 : Int32)), .val .null, .unset] [(.ref sl2), (.ref a)])) rfl rfl (hb hby own_d3_11)
  refine own_st st3 ?_
  show own_Rch p e below _ T3 (mkF m 14 #[.val (.ref a), .val (.ref r), .val (.int (0 : Int32)), .val (.int (0 : Int32)), .val .null, .unset] [(.ref sd2), (.ref a)])
  obtain ⟨T4, h4, X4, e4, W4, st4⟩ := putF X3 hx hZ2 hown2 (host := "") (Or.inl (hw _ (List.mem_of_getElem? (i := 24) rfl))) Via.refl e3 FV_x2 EA_x2 (Or.inr ⟨(hw _ (List.mem_of_getElem? (i := 20) rfl)), rfl, hnm⟩) (hw _ (List.mem_of_getElem? (i := 5) rfl)) (ty := (.array .byte)) (by decide) rfl rfl (g := (mkF m 14 #[.val (.ref a), .val (.ref r), .val (.int (0 : Int32)), .val (.int (0 : Int32)), .val .null, .unset] [(.ref sd2), (.ref a)])) rfl rfl (hb hby own_d3_14)
  refine own_st st4 ?_
  have Fw4 := FV_x2.same W4
  have N4 := Fr.snoc X4 N0 ga
  have hkk4 := Nat.le_trans hk2 (Nat.le_of_eq (Wr.size W4).symm)
  have O0_x4 := O0_x2.wr W4 ga
  have CR0_x4 := CR0_x2.trans (CHr.wr W4 Yq2_a CR0_x2.1)
  have VR_x4 := VR_x2.other W4 (Ne.symm (Exa.neArv EA VR (hw _ (List.mem_of_getElem? (i := 5) rfl))))
  have EA_x4 := EA_x2.wr W4
  have FC_x4 := FC_x2.other W4 (Or.inr (slot_ne (Or.inr (hw _ (List.mem_of_getElem? (i := 21) rfl))) (Or.inr (hw _ (List.mem_of_getElem? (i := 20) rfl))) (by decide) (t := .byte) (t' := (.array .byte)) (by decide) (by decide)))
  have K0_x4 := K0_x2.wr W4 (Or.inl (List.mem_of_getElem? (i := 0) rfl))
  have Yq2_a_x4 := Safe.wr W4 Yq2_a CR0_x2.1 Yq2_a
  have Es2_x4 := Es2.wr W4
  have Fc2_x4 := Fc2.other W4 (Or.inl (Ne.symm nq2_a.1))
  have Fv2_x4 := Fv2.other W4 (Or.inl (Ne.symm nq2_a.1))
  have Va2_x4 := Va2.other W4 (Ne.symm nq2_a.2)
  show own_Rch p e below _ T4 (mkF m 17 #[.val (.ref a), .val (.ref r), .val (.int (0 : Int32)), .val (.int (0 : Int32)), .val .null, .unset] [])
  refine own_st (fun _ kt => XS.aloadN X4.here hx rfl (hb hby own_d3_17) rfl rfl  kt) ?_
  show own_Rch p e below _ T4 (mkF m 18 #[.val (.ref a), .val (.ref r), .val (.int (0 : Int32)), .val (.int (0 : Int32)), .val .null, .unset] [(.ref a)])
  obtain ⟨sl5, T5, h5, ks5, sd5, kd5, X5, e5, E5, hS5, hk5, hZ5, hown5, Es5, Fc5, Fv5, Va5, -, -, CB5, -, hne5, st5⟩ := ldcCH (s := s) X4 hx hZ2 hown2 (hw _ (List.mem_of_getElem? (i := 18) rfl)) (own_wS hw) e4 hS2 hkk4 (own_hEL hw) (List.mem_of_getElem? (i := 0) rfl) CR0_x4.1 (vs := []) (z := (0 : Int32)) ⟨by decide, by decide⟩ (by decide) (by decide) (g := (mkF m 18 #[.val (.ref a), .val (.ref r), .val (.int (0 : Int32)), .val (.int (0 : Int32)), .val .null, .unset] [(.ref a)])) rfl (hb hby own_d3_18) (n := 0) (by decide) (by decide) (by decide) (by decide)
  have Yq5_a := CB5.safe EA_x4.lt Yq2_a_x4
  have O0_x5 := O0_x4.ext E5
  have CR0_x5 := CR0_x4.trans CB5
  have VR_x5 := VR_x4.ext E5
  have EA_x5 := EA_x4.ext E5
  have Fw4_x5 := Fw4.ext E5
  have FC_x5 := FC_x4.ext E5
  have K0_x5 := K0_x4.ext E5
  have Es2_x5 := Es2_x4.ext E5
  have Fc2_x5 := Fc2_x4.ext E5
  have Fv2_x5 := Fv2_x4.ext E5
  have Va2_x5 := Va2_x4.ext E5
  have nq5_a := hne5 a Yq5_a
  refine own_st st5 ?_
  show own_Rch p e below _ T5 (mkF m 20 #[.val (.ref a), .val (.ref r), .val (.int (0 : Int32)), .val (.int (0 : Int32)), .val .null, .unset] [(.ref sl5), (.ref a)])
  obtain ⟨T6, X6, e6, st6⟩ := getF X5 hx hZ5 hown5 (host := "") (Or.inl (hw _ (List.mem_of_getElem? (i := 25) rfl))) Via.refl e5 Fc5 (g := (mkF m 20 #[.val (.ref a), .val (.ref r), .val (.int (0 : Int32)), .val (.int (0 : Int32)), .val .null, .unset] [(.ref sl5), (.ref a)])) rfl rfl (hb hby own_d3_20)
  refine own_st st6 ?_
  show own_Rch p e below _ T6 (mkF m 23 #[.val (.ref a), .val (.ref r), .val (.int (0 : Int32)), .val (.int (0 : Int32)), .val .null, .unset] [(.int (0 : Int32)), (.ref a)])
  obtain ⟨T7, h7, X7, e7, W7, st7⟩ := putFN X6 hx hZ5 hown5 (hw _ (List.mem_of_getElem? (i := 25) rfl)) Via.refl e6 FC_x5 EA_x5 (Or.inr ⟨(hw _ (List.mem_of_getElem? (i := 21) rfl)), rfl, hnm⟩) (hw _ (List.mem_of_getElem? (i := 5) rfl)) (ty := .byte) (v' := (.int (0 : Int32))) (by decide) rfl (by decide) (g := (mkF m 23 #[.val (.ref a), .val (.ref r), .val (.int (0 : Int32)), .val (.int (0 : Int32)), .val .null, .unset] [(.int (0 : Int32)), (.ref a)])) rfl rfl (hb hby own_d3_23)
  refine own_st st7 ?_
  have Fw7 := FC_x5.same W7
  have N7 := Fr.snoc X7 N4 ga
  have hkk7 := Nat.le_trans hk5 (Nat.le_of_eq (Wr.size W7).symm)
  have O0_x7 := O0_x5.wr W7 ga
  have CR0_x7 := CR0_x5.trans (CHr.wr W7 Yq5_a CR0_x5.1)
  have VR_x7 := VR_x5.other W7 (Ne.symm (Exa.neArv EA VR (hw _ (List.mem_of_getElem? (i := 5) rfl))))
  have EA_x7 := EA_x5.wr W7
  have Fw4_x7 := Fw4_x5.other W7 (Or.inr (slot_ne (Or.inr (hw _ (List.mem_of_getElem? (i := 20) rfl))) (Or.inr (hw _ (List.mem_of_getElem? (i := 21) rfl))) (by decide) (t := (.array .byte)) (t' := .byte) (by decide) (by decide)))
  have K0_x7 := K0_x5.wr W7 (Or.inl (List.mem_of_getElem? (i := 0) rfl))
  have Es2_x7 := Es2_x5.wr W7
  have Fc2_x7 := Fc2_x5.other W7 (Or.inl (Ne.symm nq2_a.1))
  have Fv2_x7 := Fv2_x5.other W7 (Or.inl (Ne.symm nq2_a.1))
  have Va2_x7 := Va2_x5.other W7 (Ne.symm nq2_a.2)
  have Yq5_a_x7 := Safe.wr W7 Yq5_a CR0_x5.1 Yq5_a
  have Es5_x7 := Es5.wr W7
  have Fc5_x7 := Fc5.other W7 (Or.inl (Ne.symm nq5_a.1))
  have Fv5_x7 := Fv5.other W7 (Or.inl (Ne.symm nq5_a.1))
  have Va5_x7 := Va5.other W7 (Ne.symm nq5_a.2)
  show own_Rch p e below _ T7 (mkF m 26 #[.val (.ref a), .val (.ref r), .val (.int (0 : Int32)), .val (.int (0 : Int32)), .val .null, .unset] [])
  refine own_retVH (by rw [hh0, e7]; exact CR0_x7.trans (CHv.at (s := s) X7 hZ5 (own_hEL hw) CR0_x7.1)) (s := s) hS5 (by rw [e7]; exact hkk7) X7 hx Bd.notSynchronized Bd.returns (hb hby own_d3_26) (by decide) (by decide) ?_
  rw [e7]
  exact ⟨rfl, N7, K0_x7, _, _, EA_x7, Fw4_x7, Fw7, Va2_x7⟩
def own_Q_own_i1_0 (Z : State) (a : Addr) (r : Addr) (kr : ClassId) (c0 : Int32) (c1 : Int32) (cs : Int32) (h0 : Heap) (n0 : Nat) (v : Option Value) (h : Heap) (L : List Loc) : Prop := v = none ∧ Fr n0 L ∧ Keep h0 h [a] ∧ ∃ (y : Addr) (ky : ClassId), Exa Z h a "java/lang/String" ∧ Fld Z h a "java/lang/String" "value" "[B" (.ref y) ∧ Fld Z h a "java/lang/String" "coder" "B" (.int (0 : Int32)) ∧ Arv Z h y ky .byte (0 : Int32) [] (.int (0 : Int32))
set_option maxRecDepth 65536 in
set_option maxHeartbeats 40000000 in
theorem own_i1_0 (l : Launch) (Z : State) (a0 : Array Value) (hw : ∀ d ∈ tables_1, d.before a0 Z = true) (ws : List Jvm.Cond) (a : Addr) (r : Addr) (kr : ClassId) (c0 : Int32) (c1 : Int32) (cs : Int32) (h0 : Heap) (n0 : Nat) (O0 : Old Z n0 h0) (SC : Sta Z Z.heap "java/lang/String" "COMPACT_STRINGS" "Z" (.int cs)) (hcs : ¬ cs = 0) (VR : Arv Z h0 r kr .char (0 : Int32) [] (.int (0 : Int32))) (EA : Exa Z h0 a "java/lang/String") (FV : Fld Z h0 a "java/lang/String" "value" "[B" .null) (FC : Fld Z h0 a "java/lang/String" "coder" "B" (.int (0 : Int32))) (ga : n0 ≤ a) (hc0 : own_ch c0) (hc1 : own_ch c1) :
    MetFree l (⟨"java/lang/String", "<init>", "([C)V"⟩ : MethodName) (head1 (Jvm.Cond.code (⟨"java/lang/String", "<init>", "([C)V"⟩ : MethodName) jdk_42_method_3_code 2 none :: ws) ({ frames := 2, cells := 4, slots := 8, locals := 29 } : Room)) (fun args_ U => args_ = #[(.ref a), (.ref r)] ∧ Z.Warmed39 U.vm ∧ U.heap = h0 ∧ CHv Z consts_1 U.vm h0) (fun _ _ _ _ _ => True) (fun _ U o U' => ∃ v L, o = .returned v ∧ (own_Q_own_i1_0 Z a r kr c0 c1 cs h0 n0) v U'.heap L ∧ CHr Z consts_1 U.vm U.heap U'.vm U'.heap ∧ ReturnedEndW U o U' L ({ frames := 2, cells := 4, slots := 8, locals := 29 } : Room).cells ({ frames := 2, cells := 4, slots := 8, locals := 29 } : Room).slots) := by
  refine MetFree.of_bodySF (plainFor_of_name own_pn1) hisR ?_
  intro p e s m args below meth c s₁ Bd hml0 hP hK
  obtain ⟨rfl, hZ, hh, hCH⟩ := hP
  have hx := Bd.exec
  have hby := Bd.bytes
  have hml : c.maxLocals = 2 := hml0
  have hown : s.vm.findClass "java/lang/String" = some m.cls := findClass_of_methodNamed Bd.named
  have hnm := (name_of_methodNamed Bd.named Bd.method).1
  have X0 : Stand p l e ({ frames := 2, cells := 4, slots := 8, locals := 29 } : Room) (s.setVm s.vm) m #[(.ref a), (.ref r)] below meth c s₁ [] 0 0 := Stand.of_body Bd
  have e0 : s₁.heap = h0 := by rw [← hh, Bd.state]; rfl
  have N0 := Fr.nil n0
  have hh0 : s.heap = h0 := hh
  have CR0 : CHr Z consts_1 s.vm h0 s.vm h0 := CHr.refl hCH
  have hS0 : s.Since s.vm 0 := own_since s
  have hk0 : 0 ≤ h0.size := Nat.zero_le _
  refine own_closeH (Z := Z) (EL := consts_1) (s := s) (Q := (own_Q_own_i1_0 Z a r kr c0 c1 cs h0 n0)) (C := (({ frames := 2, cells := 4, slots := 8, locals := 29 } : Room)).cells) (N := (({ frames := 2, cells := 4, slots := 8, locals := 29 } : Room)).slots) (own_st (fun _ kt => castTop (own_ef2 m a r) kt) ?_)
  have K0 := Keep.refl h0 [a]
  have YA := own_safe_null (EL := consts_1) hZ.alike EA FV
  show own_Rch p e below _ s₁ (mkF m 0 #[.val (.ref a), .val (.ref r)] [])
  refine own_st (fun _ kt => XS.aloadN X0.here hx rfl (hb hby own_d2_0) rfl rfl  kt) ?_
  show own_Rch p e below _ s₁ (mkF m 1 #[.val (.ref a), .val (.ref r)] [(.ref a)])
  refine own_st (fun _ kt => XS.aloadN X0.here hx rfl (hb hby own_d2_1) rfl rfl  kt) ?_
  show own_Rch p e below _ s₁ (mkF m 2 #[.val (.ref a), .val (.ref r)] [(.ref r), (.ref a)])
  refine own_st (fun _ kt => XS.iconst X0.here hx rfl (hb hby own_d2_2) kt) ?_
  show own_Rch p e below _ s₁ (mkF m 3 #[.val (.ref a), .val (.ref r)] [(.int (0 : Int32)), (.ref r), (.ref a)])
  refine own_st (fun _ kt => XS.aloadN X0.here hx rfl (hb hby own_d2_3) rfl rfl  kt) ?_
  show own_Rch p e below _ s₁ (mkF m 4 #[.val (.ref a), .val (.ref r)] [(.ref r), (.int (0 : Int32)), (.ref r), (.ref a)])
  obtain ⟨cl1, Ar1, -, S1, M1, -, -⟩ := id VR
  refine own_st (X0.arraylength hx (by rw [e0]; exact Ar1.1) (State.isArrayOf_alike (hZ).alike Ar1.2.1) (g := (mkF m 4 #[.val (.ref a), .val (.ref r)] [(.ref r), (.int (0 : Int32)), (.ref r), (.ref a)])) rfl rfl (hb hby own_d2_4)) ?_
  rw [len_of S1 M1]
  show own_Rch p e below _ s₁ (mkF m 5 #[.val (.ref a), .val (.ref r)] [(.int (0 : Int32)), (.int (0 : Int32)), (.ref r), (.ref a)])
  refine own_st (fun _ kt => XS.aconstNull X0.here hx rfl (hb hby own_d2_5) kt) ?_
  show own_Rch p e below _ s₁ (mkF m 6 #[.val (.ref a), .val (.ref r)] [.null, (.int (0 : Int32)), (.int (0 : Int32)), (.ref r), (.ref a)])
  obtain ⟨_, _, ⟨T2, L2, k2, n2⟩, -, X2, hSq2, hg2, ⟨Lc2, hQ2, l2, y2, z2, CB2⟩, st2⟩ := X0.specialBackS hx (y := (⟨"java/lang/String", "<init>", "([CIILjava/lang/Void;)V"⟩ : MethodName)) rfl hown (mvT hZ (hw _ (List.mem_of_getElem? (i := 11) rfl))) (mvT hZ (hw _ (List.mem_of_getElem? (i := 12) rfl))) (mvT hZ (hw _ (List.mem_of_getElem? (i := 14) rfl))) (by decide) (backOfSH (s := s) (W := 0) (own_i5_0 l Z a0 hw [] a r kr c0 c1 cs h0 n0 O0 SC hcs VR EA FV FC ga hc0 hc1) hZ (hw _ (List.mem_of_getElem? (i := 14) rfl)) (hw _ (List.mem_of_getElem? (i := 6) rfl)) (by decide) (by decide) (own_hEL hw) CR0.1) (g := (mkF m 6 #[.val (.ref a), .val (.ref r)] [.null, (.int (0 : Int32)), (.int (0 : Int32)), (.ref r), (.ref a)])) rfl (by rw [hml]; rfl) (Steps.refl _) (a := a) (argsL := [(.ref r), (.int (0 : Int32)), (.int (0 : Int32)), .null]) (rest := []) (lenOf own_pd5 rfl) rfl (by show 2 * 0 + _ ≤ _; exact Nat.le_of_eq rfl) (hb hby own_d2_6) (fun _ _ => ⟨rfl, e0, (by decide : 0 + 4 ≤ _), (by decide : 0 + 8 ≤ _)⟩)
  dsimp only [Pt.U, Pt.locs, Pt.cells, Pt.slots] at X2 l2 y2 z2 st2 hQ2 hSq2 hg2 CB2
  subst l2 y2 z2
  obtain ⟨rfl, N2q, K2, yy2, ky2, Ea2, Fv2, Fc2, Vy2⟩ := hQ2
  have N2 := Fr.app N0 N2q
  have hS2 := foldS (s := s) hS0 (by rw [e0]; exact hk0) hSq2 hg2
  have hZ2 : Z.Warmed39 T2.vm := State.Warmed39.trans (t := s.setVm s.vm) hZ hSq2.1
  have hown2 : T2.vm.findClass "java/lang/String" = some m.cls := by rw [hSq2.1.alike.findClass]; exact hown
  refine own_st (fun _ kt => st2.trans kt) ?_
  have Yq2_a := CB2.safe EA.lt YA
  have O0_x2 := O0.keep K2 (allS ga all0)
  have CR0_x2 := CR0.trans CB2
  have VR_x2 := VR.keep K2 (ninS (Ne.symm (Exa.neArv EA VR (hw _ (List.mem_of_getElem? (i := 5) rfl)))) nin0)
  have EA_x2 := EA.keep K2
  have K0_x2 := K0.trans K2 (allS (Or.inl (List.mem_of_getElem? (i := 0) rfl)) all0)
  show own_Rch p e below _ T2 (mkF m 9 #[.val (.ref a), .val (.ref r)] [])
  refine own_retVH (by rw [hh0]; exact CR0_x2.trans (CHv.at (s := s) X2 hZ2 (own_hEL hw) CR0_x2.1)) (s := s) hS2 (Nat.le_refl T2.heap.size) X2 hx Bd.notSynchronized Bd.returns (hb hby own_d2_9) (by decide) (by decide) ?_
  exact ⟨rfl, N2, K0_x2, _, _, Ea2, Fv2, Fc2, Vy2⟩
def own_Q_mk (Z : State) (ls : List Int32) (h0 : Heap) (n0 : Nat) (v : Option Value) (h : Heap) (L : List Loc) : Prop := ∃ (b y : Addr) (ky : ClassId), v = some (.ref b) ∧ Fr n0 L ∧ Keep h0 h [] ∧ h0.size ≤ b ∧ Exa Z h b "java/lang/String" ∧ Fld Z h b "java/lang/String" "value" "[B" (.ref y) ∧ Fld Z h b "java/lang/String" "coder" "B" (.int (0 : Int32)) ∧ Arv Z h y ky .byte (own_len ls) (ls.map Value.int) (.int (0 : Int32))
theorem own_pn4 : plainName "com/example/drawdown/drawdown/input/TomlFloatEqualsPinLaw" = true := by first | (simp [plainName, overriddenIn]; done) | decide +kernel
theorem own_ef1 (m : MethodId) (x0 : Int32) (x1 : Int32) (x2 : Int32) : entryFrame m #[(.int x0), (.int x1), (.int x2)] 3 = mkF m 0 #[.val (.int x0), .val (.int x1), .val (.int x2)] [] := by first | (simp [entryFrame, mkF, argsToLocals, Value.category]; done) | rfl
theorem own_d1_0 : decode method_2_code 0 = .ok (.iload_n 0, 1) := by decide +kernel
theorem own_d1_1 : decode method_2_code 1 = .ok (.ifCond .ne 14, 3) := by decide +kernel
theorem own_d1_15 : decode method_2_code 15 = .ok (.iload_n 0, 1) := by decide +kernel
theorem own_d1_16 : decode method_2_code 16 = .ok (.iconst 1, 1) := by decide +kernel
theorem own_d1_17 : decode method_2_code 17 = .ok (.if_icmp .ne 18, 3) := by decide +kernel
theorem own_d1_20 : decode method_2_code 20 = .ok (.new 7, 3) := by decide +kernel
theorem own_d1_23 : decode method_2_code 23 = .ok (.dup, 1) := by decide +kernel
theorem own_d1_24 : decode method_2_code 24 = .ok (.iconst 1, 1) := by decide +kernel
theorem own_d1_25 : decode method_2_code 25 = .ok (.newarray .char, 2) := by decide +kernel
theorem own_d1_27 : decode method_2_code 27 = .ok (.dup, 1) := by decide +kernel
theorem own_d1_28 : decode method_2_code 28 = .ok (.iconst 0, 1) := by decide +kernel
theorem own_d1_29 : decode method_2_code 29 = .ok (.iload_n 1, 1) := by decide +kernel
theorem own_d1_30 : decode method_2_code 30 = .ok (.castore, 1) := by decide +kernel
theorem own_d1_31 : decode method_2_code 31 = .ok (.invokespecial 9, 3) := by decide +kernel
theorem own_pd6 : parseMethodDescriptor "([C)V" = some ⟨[(.array .char)], none⟩ := by decide +kernel
theorem own_d1_34 : decode method_2_code 34 = .ok (.areturn, 1) := by decide +kernel
set_option maxRecDepth 65536 in
set_option maxHeartbeats 40000000 in
theorem own_mk1 (l : Launch) (Z : State) (a0 : Array Value) (hw : ∀ d ∈ tables_1, d.before a0 Z = true) (ws : List Jvm.Cond) (c0 : Int32) (c1 : Int32) (cs : Int32) (h0 : Heap) (n0 : Nat) (O0 : Old Z n0 h0) (SC : Sta Z Z.heap "java/lang/String" "COMPACT_STRINGS" "Z" (.int cs)) (hcs : ¬ cs = 0) (hc0 : own_ch c0) (hc1 : own_ch c1) :
    MetFree l (⟨"com/example/drawdown/drawdown/input/TomlFloatEqualsPinLaw", "mk", "(ICC)Ljava/lang/String;"⟩ : MethodName) (head1 (Jvm.Cond.code (⟨"com/example/drawdown/drawdown/input/TomlFloatEqualsPinLaw", "mk", "(ICC)Ljava/lang/String;"⟩ : MethodName) method_2_code 3 (some (.object "java/lang/String")) :: ws) ({ frames := 5, cells := 8, slots := 16, locals := 110 } : Room)) (fun args_ U => args_ = #[(.int (1 : Int32)), (.int c0), (.int c1)] ∧ Z.Warmed39 U.vm ∧ U.heap = h0 ∧ CHv Z consts_1 U.vm h0) (fun _ _ _ _ _ => True) (fun _ U o U' => ∃ v L, o = .returned v ∧ (own_Q_mk Z [own_b c0] h0 n0) v U'.heap L ∧ CHr Z consts_1 U.vm U.heap U'.vm U'.heap ∧ ReturnedEndW U o U' L ({ frames := 5, cells := 8, slots := 16, locals := 110 } : Room).cells ({ frames := 5, cells := 8, slots := 16, locals := 110 } : Room).slots) := by
  refine MetFree.of_bodySF (plainFor_of_name own_pn4) hisR ?_
  intro p e s m args below meth c s₁ Bd hml0 hP hK
  obtain ⟨rfl, hZ, hh, hCH⟩ := hP
  have hx := Bd.exec
  have hby := Bd.bytes
  have hml : c.maxLocals = 3 := hml0
  have hown : s.vm.findClass "com/example/drawdown/drawdown/input/TomlFloatEqualsPinLaw" = some m.cls := findClass_of_methodNamed Bd.named
  have hnm := (name_of_methodNamed Bd.named Bd.method).1
  have X0 : Stand p l e ({ frames := 5, cells := 8, slots := 16, locals := 110 } : Room) (s.setVm s.vm) m #[(.int (1 : Int32)), (.int c0), (.int c1)] below meth c s₁ [] 0 0 := Stand.of_body Bd
  have e0 : s₁.heap = h0 := by rw [← hh, Bd.state]; rfl
  have N0 := Fr.nil n0
  have hh0 : s.heap = h0 := hh
  have CR0 : CHr Z consts_1 s.vm h0 s.vm h0 := CHr.refl hCH
  have hS0 : s.Since s.vm 0 := own_since s
  have hk0 : 0 ≤ h0.size := Nat.zero_le _
  refine own_closeH (Z := Z) (EL := consts_1) (s := s) (Q := (own_Q_mk Z [own_b c0] h0 n0)) (C := (({ frames := 5, cells := 8, slots := 16, locals := 110 } : Room)).cells) (N := (({ frames := 5, cells := 8, slots := 16, locals := 110 } : Room)).slots) (own_st (fun _ kt => castTop (own_ef1 m (1 : Int32) c0 c1) kt) ?_)
  have K0 := Keep.refl h0 []
  show own_Rch p e below _ s₁ (mkF m 0 #[.val (.int (1 : Int32)), .val (.int c0), .val (.int c1)] [])
  refine own_st (fun _ kt => XS.iloadN X0.here hx rfl (hb hby own_d1_0) rfl  kt) ?_
  show own_Rch p e below _ s₁ (mkF m 1 #[.val (.int (1 : Int32)), .val (.int c0), .val (.int c1)] [(.int (1 : Int32))])
  refine own_st (fun _ kt => XS.ifYes X0.here hx rfl (pc0 := 1) (pc' := 15) rfl (hb hby own_d1_1) rfl ((if0 _ _).trans (feq ((by decide) : ¬ ((1 : Int32) = (0 : Int32)))).2) (by decide) (by decide) kt) ?_
  show own_Rch p e below _ s₁ (mkF m 15 #[.val (.int (1 : Int32)), .val (.int c0), .val (.int c1)] [])
  refine own_st (fun _ kt => XS.iloadN X0.here hx rfl (hb hby own_d1_15) rfl  kt) ?_
  show own_Rch p e below _ s₁ (mkF m 16 #[.val (.int (1 : Int32)), .val (.int c0), .val (.int c1)] [(.int (1 : Int32))])
  refine own_st (fun _ kt => XS.iconst X0.here hx rfl (hb hby own_d1_16) kt) ?_
  show own_Rch p e below _ s₁ (mkF m 17 #[.val (.int (1 : Int32)), .val (.int c0), .val (.int c1)] [(.int (1 : Int32)), (.int (1 : Int32))])
  refine own_st (fun _ kt => XS.icmpNo X0.here hx rfl (hb hby own_d1_17) rfl (teq (rfl : (1 : Int32) = (1 : Int32))).2 kt) ?_
  show own_Rch p e below _ s₁ (mkF m 20 #[.val (.int (1 : Int32)), .val (.int c0), .val (.int c1)] [])
  obtain ⟨T1, h1, X1, e1, E1, A1, D1, U1, st1⟩ := newO X0 hx hZ hown (hw _ (List.mem_of_getElem? (i := 4) rfl)) (hw _ (List.mem_of_getElem? (i := 5) rfl)) (hw _ (List.mem_of_getElem? (i := 6) rfl)) e0 (g := (mkF m 20 #[.val (.int (1 : Int32)), .val (.int c0), .val (.int c1)] [])) rfl (hb hby own_d1_20) (by decide) (by decide)
  obtain ⟨b1, g1⟩ : ∃ z, z = h0.size := ⟨_, rfl⟩
  rw [← g1] at A1 D1 U1 st1
  have ge1 : n0 ≤ b1 := by rw [g1]; exact own_old_le O0
  have sz1 : h0.size ≤ b1 := by rw [g1]; exact K0.1
  have hkk1 := Nat.le_trans hk0 E1.1
  have O0_x1 := O0.ext E1
  have CR0_x1 := CR0.trans (CHr.ext E1 CR0.1)
  have K0_x1 := K0.ext E1
  have Y1 := Safe.ext E1 CR0.1 (Safe.new (Nat.le_of_eq g1.symm))
  refine own_st st1 ?_
  have F1_value : Fld Z h1 b1 "java/lang/String" "value" "[B" .null := D1 (Or.inr (hw _ (List.mem_of_getElem? (i := 20) rfl))) (ty := (.array .byte)) (by decide)
  have F1_coder : Fld Z h1 b1 "java/lang/String" "coder" "B" (.int (0 : Int32)) := D1 (Or.inr (hw _ (List.mem_of_getElem? (i := 21) rfl))) (ty := .byte) (by decide)
  show own_Rch p e below _ T1 (mkF m 23 #[.val (.int (1 : Int32)), .val (.int c0), .val (.int c1)] [(.ref b1)])
  refine own_st (fun _ kt => XS.dup X1.here hx rfl (hb hby own_d1_23) rfl rfl kt) ?_
  show own_Rch p e below _ T1 (mkF m 24 #[.val (.int (1 : Int32)), .val (.int c0), .val (.int c1)] [(.ref b1), (.ref b1)])
  refine own_st (fun _ kt => XS.iconst X1.here hx rfl (hb hby own_d1_24) kt) ?_
  show own_Rch p e below _ T1 (mkF m 25 #[.val (.int (1 : Int32)), .val (.int c0), .val (.int c1)] [(.int (1 : Int32)), (.ref b1), (.ref b1)])
  obtain ⟨T2, h2, k2, X2, e2, E2, A2, st2⟩ := newP X1 hx hZ (hw _ (List.mem_of_getElem? (i := 7) rfl)) e1 (g := (mkF m 25 #[.val (.int (1 : Int32)), .val (.int c0), .val (.int c1)] [(.int (1 : Int32)), (.ref b1), (.ref b1)])) rfl (hb hby own_d1_25) rfl (by decide) (cap := 1) (by decide) (by decide) (by decide) (by decide)
  obtain ⟨b2, g2⟩ : ∃ z, z = h1.size := ⟨_, rfl⟩
  rw [← g2] at A2 st2
  have ge2 : n0 ≤ b2 := by rw [g2]; exact own_old_le O0_x1
  have ne2_b1 : b1 ≠ b2 := by rw [g2]; exact Nat.ne_of_lt F1_value.lt
  have sz2 : h0.size ≤ b2 := by rw [g2]; exact K0_x1.1
  have hkk2 := Nat.le_trans hkk1 E2.1
  have O0_x2 := O0_x1.ext E2
  have CR0_x2 := CR0_x1.trans (CHr.ext E2 CR0_x1.1)
  have K0_x2 := K0_x1.ext E2
  have Y1_x2 := Safe.ext E2 CR0_x1.1 Y1
  have F1_value_x2 := F1_value.ext E2
  have F1_coder_x2 := F1_coder.ext E2
  have A1_x2 := A1.ext E2
  have Y2 := Safe.ext E2 CR0_x1.1 (Safe.new (Nat.le_of_eq g2.symm))
  refine own_st st2 ?_
  have V2 := Arv.new A2 (by decide)
  have V2p : Arv Z h2 b2 k2 .char (1 : Int32) [(.int (0 : Int32))] (.int (0 : Int32)) := V2.pad (pad_rep [] (.int (0 : Int32)) 1)
  show own_Rch p e below _ T2 (mkF m 27 #[.val (.int (1 : Int32)), .val (.int c0), .val (.int c1)] [(.ref b2), (.ref b1), (.ref b1)])
  refine own_st (fun _ kt => XS.dup X2.here hx rfl (hb hby own_d1_27) rfl rfl kt) ?_
  show own_Rch p e below _ T2 (mkF m 28 #[.val (.int (1 : Int32)), .val (.int c0), .val (.int c1)] [(.ref b2), (.ref b2), (.ref b1), (.ref b1)])
  refine own_st (fun _ kt => XS.iconst X2.here hx rfl (hb hby own_d1_28) kt) ?_
  show own_Rch p e below _ T2 (mkF m 29 #[.val (.int (1 : Int32)), .val (.int c0), .val (.int c1)] [(.int (0 : Int32)), (.ref b2), (.ref b2), (.ref b1), (.ref b1)])
  refine own_st (fun _ kt => XS.iloadN X2.here hx rfl (hb hby own_d1_29) rfl  kt) ?_
  show own_Rch p e below _ T2 (mkF m 30 #[.val (.int (1 : Int32)), .val (.int c0), .val (.int c1)] [(.int c0), (.int (0 : Int32)), (.ref b2), (.ref b2), (.ref b1), (.ref b1)])
  obtain ⟨cl3, Ar3, q3, S3, M3, H3, G3⟩ := id V2p
  have hin3 : ¬ ((0 : Int32) < 0 ∨ cl3.slots.size ≤ ((0 : Int32)).toNatClampNeg) := inb_of S3 ⟨by decide, by decide⟩
  obtain ⟨T3, h3, X3, e3, W3, st3⟩ := stC X2 hx hZ e2 Ar3 (j := (0 : Int32)) hin3 (g := (mkF m 30 #[.val (.int (1 : Int32)), .val (.int c0), .val (.int c1)] [(.int c0), (.int (0 : Int32)), (.ref b2), (.ref b2), (.ref b1), (.ref b1)])) rfl rfl (hb hby own_d1_30)
  have V3 := Arv.set Ar3 q3 S3 M3 H3 G3 (fits_nar_char _) W3 0 rfl (Nat.le_of_ble_eq_true rfl)
  have V3s : Arv Z h3 b2 k2 .char (1 : Int32) [(.int (nar .char c0))] (.int (0 : Int32)) := V3
  have N3 := Fr.snoc X3 N0 ge2
  refine own_st st3 ?_
  have hkk3 := Nat.le_trans hkk2 (Nat.le_of_eq (Wr.size W3).symm)
  have O0_x3 := O0_x2.wr W3 ge2
  have CR0_x3 := CR0_x2.trans (CHr.wr W3 Y2 CR0_x2.1)
  have K0_x3 := K0_x2.wr W3 (Or.inr sz2)
  have Y1_x3 := Safe.wr W3 Y2 CR0_x2.1 Y1_x2
  have F1_value_x3 := F1_value_x2.other W3 (Or.inl ne2_b1)
  have F1_coder_x3 := F1_coder_x2.other W3 (Or.inl ne2_b1)
  have A1_x3 := A1_x2.wr W3
  have Y2_x3 := Safe.wr W3 Y2 CR0_x2.1 Y2
  show own_Rch p e below _ T3 (mkF m 31 #[.val (.int (1 : Int32)), .val (.int c0), .val (.int c1)] [(.ref b2), (.ref b1), (.ref b1)])
  obtain ⟨_, _, ⟨T4, L4, k4, n4⟩, -, X4, ⟨Lc4, hQ4, l4, y4, z4⟩, st4⟩ := X3.specialBack hx (y := (⟨"java/lang/String", "<init>", "([C)V"⟩ : MethodName)) rfl hown (mvT hZ (hw _ (List.mem_of_getElem? (i := 8) rfl))) (mvT hZ (hw _ (List.mem_of_getElem? (i := 9) rfl))) (mvT hZ (hw _ (List.mem_of_getElem? (i := 10) rfl))) (by decide) (backOf (W := 1) (own_i1_1 l Z a0 hw [] b1 b2 k2 c0 c1 cs h3 n0 O0_x3 SC hcs V3s A1_x3 F1_value_x3 F1_coder_x3 ge1 hc0 hc1) hZ (hw _ (List.mem_of_getElem? (i := 10) rfl)) (hw _ (List.mem_of_getElem? (i := 6) rfl)) (by decide) (by decide)) (g := (mkF m 31 #[.val (.int (1 : Int32)), .val (.int c0), .val (.int c1)] [(.ref b2), (.ref b1), (.ref b1)])) rfl (by rw [hml]; rfl) (Steps.refl _) (a := b1) (argsL := [(.ref b2)]) (rest := [(.ref b1)]) (lenOf own_pd6 rfl) rfl (by show 2 * 0 + _ ≤ _; exact Nat.le_of_eq rfl) (hb hby own_d1_31) (fun _ _ => ⟨rfl, e3, (by decide : 2 + 1 ≤ _), (by decide : 5 + 1 ≤ _)⟩)
  dsimp only [Pt.U, Pt.locs, Pt.cells, Pt.slots] at X4 l4 y4 z4 st4 hQ4
  subst l4 y4 z4
  obtain ⟨rfl, N4q, K4, yy4, ky4, Ea4, Fv4, Fc4, Vy4⟩ := hQ4
  have N4 := Fr.app N3 N4q
  refine own_st (fun _ kt => st4.trans kt) ?_
  have hkk4 := Nat.le_trans hkk3 K4.1
  have O0_x4 := O0_x3.keep K4 (allS ge1 all0)
  have CR0_x4 := CR0_x3.trans (CHr.keep K4 (sfS Y1_x3 sf0) CR0_x3.1)
  have K0_x4 := K0_x3.trans K4 (allS (Or.inr sz1) all0)
  have Y1_x4 := Safe.keep K4 (sfS Y1_x3 sf0) CR0_x3.1 Y1_x3
  have A1_x4 := A1_x3.keep K4
  have Y2_x4 := Safe.keep K4 (sfS Y1_x3 sf0) CR0_x3.1 Y2_x3
  have V3s_x4 := V3s.keep K4 (ninS (Ne.symm ne2_b1) nin0)
  show own_Rch p e below _ T4 (mkF m 34 #[.val (.int (1 : Int32)), .val (.int c0), .val (.int c1)] [(.ref b1)])
  refine own_retAH rfl rfl (by rw [hh0]; exact CR0_x4.trans (CHv.at (s := s) X4 hZ (own_hEL hw) CR0_x4.1)) (s := s) hS0 hkk4 X4 hx Bd.notSynchronized Bd.returns (hb hby own_d1_34) (by decide) (by decide) ?_
  exact ⟨_, _, _, rfl, N4, K0_x4, sz1, Ea4, Fv4, Fc4, Vy4⟩
theorem own_d1_35 : decode method_2_code 35 = .ok (.new 7, 3) := by decide +kernel
theorem own_d1_38 : decode method_2_code 38 = .ok (.dup, 1) := by decide +kernel
theorem own_d1_39 : decode method_2_code 39 = .ok (.iconst 2, 1) := by decide +kernel
theorem own_d1_40 : decode method_2_code 40 = .ok (.newarray .char, 2) := by decide +kernel
theorem own_d1_42 : decode method_2_code 42 = .ok (.dup, 1) := by decide +kernel
theorem own_d1_43 : decode method_2_code 43 = .ok (.iconst 0, 1) := by decide +kernel
theorem own_d1_44 : decode method_2_code 44 = .ok (.iload_n 1, 1) := by decide +kernel
theorem own_d1_45 : decode method_2_code 45 = .ok (.castore, 1) := by decide +kernel
theorem own_d1_46 : decode method_2_code 46 = .ok (.dup, 1) := by decide +kernel
theorem own_d1_47 : decode method_2_code 47 = .ok (.iconst 1, 1) := by decide +kernel
theorem own_d1_48 : decode method_2_code 48 = .ok (.iload_n 2, 1) := by decide +kernel
theorem own_d1_49 : decode method_2_code 49 = .ok (.castore, 1) := by decide +kernel
theorem own_d1_50 : decode method_2_code 50 = .ok (.invokespecial 9, 3) := by decide +kernel
theorem own_d1_53 : decode method_2_code 53 = .ok (.areturn, 1) := by decide +kernel
set_option maxRecDepth 65536 in
set_option maxHeartbeats 40000000 in
theorem own_mk2 (l : Launch) (Z : State) (a0 : Array Value) (hw : ∀ d ∈ tables_1, d.before a0 Z = true) (ws : List Jvm.Cond) (c0 : Int32) (c1 : Int32) (cs : Int32) (h0 : Heap) (n0 : Nat) (O0 : Old Z n0 h0) (SC : Sta Z Z.heap "java/lang/String" "COMPACT_STRINGS" "Z" (.int cs)) (hcs : ¬ cs = 0) (hc0 : own_ch c0) (hc1 : own_ch c1) :
    MetFree l (⟨"com/example/drawdown/drawdown/input/TomlFloatEqualsPinLaw", "mk", "(ICC)Ljava/lang/String;"⟩ : MethodName) (head1 (Jvm.Cond.code (⟨"com/example/drawdown/drawdown/input/TomlFloatEqualsPinLaw", "mk", "(ICC)Ljava/lang/String;"⟩ : MethodName) method_2_code 3 (some (.object "java/lang/String")) :: ws) ({ frames := 5, cells := 8, slots := 16, locals := 110 } : Room)) (fun args_ U => args_ = #[(.int (2 : Int32)), (.int c0), (.int c1)] ∧ Z.Warmed39 U.vm ∧ U.heap = h0 ∧ CHv Z consts_1 U.vm h0) (fun _ _ _ _ _ => True) (fun _ U o U' => ∃ v L, o = .returned v ∧ (own_Q_mk Z [own_b c0, own_b c1] h0 n0) v U'.heap L ∧ CHr Z consts_1 U.vm U.heap U'.vm U'.heap ∧ ReturnedEndW U o U' L ({ frames := 5, cells := 8, slots := 16, locals := 110 } : Room).cells ({ frames := 5, cells := 8, slots := 16, locals := 110 } : Room).slots) := by
  refine MetFree.of_bodySF (plainFor_of_name own_pn4) hisR ?_
  intro p e s m args below meth c s₁ Bd hml0 hP hK
  obtain ⟨rfl, hZ, hh, hCH⟩ := hP
  have hx := Bd.exec
  have hby := Bd.bytes
  have hml : c.maxLocals = 3 := hml0
  have hown : s.vm.findClass "com/example/drawdown/drawdown/input/TomlFloatEqualsPinLaw" = some m.cls := findClass_of_methodNamed Bd.named
  have hnm := (name_of_methodNamed Bd.named Bd.method).1
  have X0 : Stand p l e ({ frames := 5, cells := 8, slots := 16, locals := 110 } : Room) (s.setVm s.vm) m #[(.int (2 : Int32)), (.int c0), (.int c1)] below meth c s₁ [] 0 0 := Stand.of_body Bd
  have e0 : s₁.heap = h0 := by rw [← hh, Bd.state]; rfl
  have N0 := Fr.nil n0
  have hh0 : s.heap = h0 := hh
  have CR0 : CHr Z consts_1 s.vm h0 s.vm h0 := CHr.refl hCH
  have hS0 : s.Since s.vm 0 := own_since s
  have hk0 : 0 ≤ h0.size := Nat.zero_le _
  refine own_closeH (Z := Z) (EL := consts_1) (s := s) (Q := (own_Q_mk Z [own_b c0, own_b c1] h0 n0)) (C := (({ frames := 5, cells := 8, slots := 16, locals := 110 } : Room)).cells) (N := (({ frames := 5, cells := 8, slots := 16, locals := 110 } : Room)).slots) (own_st (fun _ kt => castTop (own_ef1 m (2 : Int32) c0 c1) kt) ?_)
  have K0 := Keep.refl h0 []
  show own_Rch p e below _ s₁ (mkF m 0 #[.val (.int (2 : Int32)), .val (.int c0), .val (.int c1)] [])
  refine own_st (fun _ kt => XS.iloadN X0.here hx rfl (hb hby own_d1_0) rfl  kt) ?_
  show own_Rch p e below _ s₁ (mkF m 1 #[.val (.int (2 : Int32)), .val (.int c0), .val (.int c1)] [(.int (2 : Int32))])
  refine own_st (fun _ kt => XS.ifYes X0.here hx rfl (pc0 := 1) (pc' := 15) rfl (hb hby own_d1_1) rfl ((if0 _ _).trans (feq ((by decide) : ¬ ((2 : Int32) = (0 : Int32)))).2) (by decide) (by decide) kt) ?_
  show own_Rch p e below _ s₁ (mkF m 15 #[.val (.int (2 : Int32)), .val (.int c0), .val (.int c1)] [])
  refine own_st (fun _ kt => XS.iloadN X0.here hx rfl (hb hby own_d1_15) rfl  kt) ?_
  show own_Rch p e below _ s₁ (mkF m 16 #[.val (.int (2 : Int32)), .val (.int c0), .val (.int c1)] [(.int (2 : Int32))])
  refine own_st (fun _ kt => XS.iconst X0.here hx rfl (hb hby own_d1_16) kt) ?_
  show own_Rch p e below _ s₁ (mkF m 17 #[.val (.int (2 : Int32)), .val (.int c0), .val (.int c1)] [(.int (1 : Int32)), (.int (2 : Int32))])
  refine own_st (fun _ kt => XS.icmpYes X0.here hx rfl (pc0 := 17) (pc' := 35) rfl (hb hby own_d1_17) rfl (feq ((by decide) : ¬ ((2 : Int32) = (1 : Int32)))).2 (by decide) (by decide) kt) ?_
  show own_Rch p e below _ s₁ (mkF m 35 #[.val (.int (2 : Int32)), .val (.int c0), .val (.int c1)] [])
  obtain ⟨T1, h1, X1, e1, E1, A1, D1, U1, st1⟩ := newO X0 hx hZ hown (hw _ (List.mem_of_getElem? (i := 4) rfl)) (hw _ (List.mem_of_getElem? (i := 5) rfl)) (hw _ (List.mem_of_getElem? (i := 6) rfl)) e0 (g := (mkF m 35 #[.val (.int (2 : Int32)), .val (.int c0), .val (.int c1)] [])) rfl (hb hby own_d1_35) (by decide) (by decide)
  obtain ⟨b1, g1⟩ : ∃ z, z = h0.size := ⟨_, rfl⟩
  rw [← g1] at A1 D1 U1 st1
  have ge1 : n0 ≤ b1 := by rw [g1]; exact own_old_le O0
  have sz1 : h0.size ≤ b1 := by rw [g1]; exact K0.1
  have hkk1 := Nat.le_trans hk0 E1.1
  have O0_x1 := O0.ext E1
  have CR0_x1 := CR0.trans (CHr.ext E1 CR0.1)
  have K0_x1 := K0.ext E1
  have Y1 := Safe.ext E1 CR0.1 (Safe.new (Nat.le_of_eq g1.symm))
  refine own_st st1 ?_
  have F1_value : Fld Z h1 b1 "java/lang/String" "value" "[B" .null := D1 (Or.inr (hw _ (List.mem_of_getElem? (i := 20) rfl))) (ty := (.array .byte)) (by decide)
  have F1_coder : Fld Z h1 b1 "java/lang/String" "coder" "B" (.int (0 : Int32)) := D1 (Or.inr (hw _ (List.mem_of_getElem? (i := 21) rfl))) (ty := .byte) (by decide)
  show own_Rch p e below _ T1 (mkF m 38 #[.val (.int (2 : Int32)), .val (.int c0), .val (.int c1)] [(.ref b1)])
  refine own_st (fun _ kt => XS.dup X1.here hx rfl (hb hby own_d1_38) rfl rfl kt) ?_
  show own_Rch p e below _ T1 (mkF m 39 #[.val (.int (2 : Int32)), .val (.int c0), .val (.int c1)] [(.ref b1), (.ref b1)])
  refine own_st (fun _ kt => XS.iconst X1.here hx rfl (hb hby own_d1_39) kt) ?_
  show own_Rch p e below _ T1 (mkF m 40 #[.val (.int (2 : Int32)), .val (.int c0), .val (.int c1)] [(.int (2 : Int32)), (.ref b1), (.ref b1)])
  obtain ⟨T2, h2, k2, X2, e2, E2, A2, st2⟩ := newP X1 hx hZ (hw _ (List.mem_of_getElem? (i := 7) rfl)) e1 (g := (mkF m 40 #[.val (.int (2 : Int32)), .val (.int c0), .val (.int c1)] [(.int (2 : Int32)), (.ref b1), (.ref b1)])) rfl (hb hby own_d1_40) rfl (by decide) (cap := 2) (by decide) (by decide) (by decide) (by decide)
  obtain ⟨b2, g2⟩ : ∃ z, z = h1.size := ⟨_, rfl⟩
  rw [← g2] at A2 st2
  have ge2 : n0 ≤ b2 := by rw [g2]; exact own_old_le O0_x1
  have ne2_b1 : b1 ≠ b2 := by rw [g2]; exact Nat.ne_of_lt F1_value.lt
  have sz2 : h0.size ≤ b2 := by rw [g2]; exact K0_x1.1
  have hkk2 := Nat.le_trans hkk1 E2.1
  have O0_x2 := O0_x1.ext E2
  have CR0_x2 := CR0_x1.trans (CHr.ext E2 CR0_x1.1)
  have K0_x2 := K0_x1.ext E2
  have Y1_x2 := Safe.ext E2 CR0_x1.1 Y1
  have F1_value_x2 := F1_value.ext E2
  have F1_coder_x2 := F1_coder.ext E2
  have A1_x2 := A1.ext E2
  have Y2 := Safe.ext E2 CR0_x1.1 (Safe.new (Nat.le_of_eq g2.symm))
  refine own_st st2 ?_
  have V2 := Arv.new A2 (by decide)
  have V2p : Arv Z h2 b2 k2 .char (2 : Int32) [(.int (0 : Int32)), (.int (0 : Int32))] (.int (0 : Int32)) := V2.pad (pad_rep [] (.int (0 : Int32)) 2)
  show own_Rch p e below _ T2 (mkF m 42 #[.val (.int (2 : Int32)), .val (.int c0), .val (.int c1)] [(.ref b2), (.ref b1), (.ref b1)])
  refine own_st (fun _ kt => XS.dup X2.here hx rfl (hb hby own_d1_42) rfl rfl kt) ?_
  show own_Rch p e below _ T2 (mkF m 43 #[.val (.int (2 : Int32)), .val (.int c0), .val (.int c1)] [(.ref b2), (.ref b2), (.ref b1), (.ref b1)])
  refine own_st (fun _ kt => XS.iconst X2.here hx rfl (hb hby own_d1_43) kt) ?_
  show own_Rch p e below _ T2 (mkF m 44 #[.val (.int (2 : Int32)), .val (.int c0), .val (.int c1)] [(.int (0 : Int32)), (.ref b2), (.ref b2), (.ref b1), (.ref b1)])
  refine own_st (fun _ kt => XS.iloadN X2.here hx rfl (hb hby own_d1_44) rfl  kt) ?_
  show own_Rch p e below _ T2 (mkF m 45 #[.val (.int (2 : Int32)), .val (.int c0), .val (.int c1)] [(.int c0), (.int (0 : Int32)), (.ref b2), (.ref b2), (.ref b1), (.ref b1)])
  obtain ⟨cl3, Ar3, q3, S3, M3, H3, G3⟩ := id V2p
  have hin3 : ¬ ((0 : Int32) < 0 ∨ cl3.slots.size ≤ ((0 : Int32)).toNatClampNeg) := inb_of S3 ⟨by decide, by decide⟩
  obtain ⟨T3, h3, X3, e3, W3, st3⟩ := stC X2 hx hZ e2 Ar3 (j := (0 : Int32)) hin3 (g := (mkF m 45 #[.val (.int (2 : Int32)), .val (.int c0), .val (.int c1)] [(.int c0), (.int (0 : Int32)), (.ref b2), (.ref b2), (.ref b1), (.ref b1)])) rfl rfl (hb hby own_d1_45)
  have V3 := Arv.set Ar3 q3 S3 M3 H3 G3 (fits_nar_char _) W3 0 rfl (Nat.le_of_ble_eq_true rfl)
  have V3s : Arv Z h3 b2 k2 .char (2 : Int32) [(.int (nar .char c0)), (.int (0 : Int32))] (.int (0 : Int32)) := V3
  have N3 := Fr.snoc X3 N0 ge2
  refine own_st st3 ?_
  have hkk3 := Nat.le_trans hkk2 (Nat.le_of_eq (Wr.size W3).symm)
  have O0_x3 := O0_x2.wr W3 ge2
  have CR0_x3 := CR0_x2.trans (CHr.wr W3 Y2 CR0_x2.1)
  have K0_x3 := K0_x2.wr W3 (Or.inr sz2)
  have Y1_x3 := Safe.wr W3 Y2 CR0_x2.1 Y1_x2
  have F1_value_x3 := F1_value_x2.other W3 (Or.inl ne2_b1)
  have F1_coder_x3 := F1_coder_x2.other W3 (Or.inl ne2_b1)
  have A1_x3 := A1_x2.wr W3
  have Y2_x3 := Safe.wr W3 Y2 CR0_x2.1 Y2
  show own_Rch p e below _ T3 (mkF m 46 #[.val (.int (2 : Int32)), .val (.int c0), .val (.int c1)] [(.ref b2), (.ref b1), (.ref b1)])
  refine own_st (fun _ kt => XS.dup X3.here hx rfl (hb hby own_d1_46) rfl rfl kt) ?_
  show own_Rch p e below _ T3 (mkF m 47 #[.val (.int (2 : Int32)), .val (.int c0), .val (.int c1)] [(.ref b2), (.ref b2), (.ref b1), (.ref b1)])
  refine own_st (fun _ kt => XS.iconst X3.here hx rfl (hb hby own_d1_47) kt) ?_
  show own_Rch p e below _ T3 (mkF m 48 #[.val (.int (2 : Int32)), .val (.int c0), .val (.int c1)] [(.int (1 : Int32)), (.ref b2), (.ref b2), (.ref b1), (.ref b1)])
  refine own_st (fun _ kt => XS.iloadN X3.here hx rfl (hb hby own_d1_48) rfl  kt) ?_
  show own_Rch p e below _ T3 (mkF m 49 #[.val (.int (2 : Int32)), .val (.int c0), .val (.int c1)] [(.int c1), (.int (1 : Int32)), (.ref b2), (.ref b2), (.ref b1), (.ref b1)])
  obtain ⟨cl4, Ar4, q4, S4, M4, H4, G4⟩ := id V3s
  have hin4 : ¬ ((1 : Int32) < 0 ∨ cl4.slots.size ≤ ((1 : Int32)).toNatClampNeg) := inb_of S4 ⟨by decide, by decide⟩
  obtain ⟨T4, h4, X4, e4, W4, st4⟩ := stC X3 hx hZ e3 Ar4 (j := (1 : Int32)) hin4 (g := (mkF m 49 #[.val (.int (2 : Int32)), .val (.int c0), .val (.int c1)] [(.int c1), (.int (1 : Int32)), (.ref b2), (.ref b2), (.ref b1), (.ref b1)])) rfl rfl (hb hby own_d1_49)
  have V4 := Arv.set Ar4 q4 S4 M4 H4 G4 (fits_nar_char _) W4 1 rfl (Nat.le_of_ble_eq_true rfl)
  have V4s : Arv Z h4 b2 k2 .char (2 : Int32) [(.int (nar .char c0)), (.int (nar .char c1))] (.int (0 : Int32)) := V4
  have N4 := Fr.snoc X4 N3 ge2
  refine own_st st4 ?_
  have hkk4 := Nat.le_trans hkk3 (Nat.le_of_eq (Wr.size W4).symm)
  have O0_x4 := O0_x3.wr W4 ge2
  have CR0_x4 := CR0_x3.trans (CHr.wr W4 Y2_x3 CR0_x3.1)
  have K0_x4 := K0_x3.wr W4 (Or.inr sz2)
  have Y1_x4 := Safe.wr W4 Y2_x3 CR0_x3.1 Y1_x3
  have F1_value_x4 := F1_value_x3.other W4 (Or.inl ne2_b1)
  have F1_coder_x4 := F1_coder_x3.other W4 (Or.inl ne2_b1)
  have A1_x4 := A1_x3.wr W4
  have Y2_x4 := Safe.wr W4 Y2_x3 CR0_x3.1 Y2_x3
  show own_Rch p e below _ T4 (mkF m 50 #[.val (.int (2 : Int32)), .val (.int c0), .val (.int c1)] [(.ref b2), (.ref b1), (.ref b1)])
  obtain ⟨_, _, ⟨T5, L5, k5, n5⟩, -, X5, ⟨Lc5, hQ5, l5, y5, z5⟩, st5⟩ := X4.specialBack hx (y := (⟨"java/lang/String", "<init>", "([C)V"⟩ : MethodName)) rfl hown (mvT hZ (hw _ (List.mem_of_getElem? (i := 8) rfl))) (mvT hZ (hw _ (List.mem_of_getElem? (i := 9) rfl))) (mvT hZ (hw _ (List.mem_of_getElem? (i := 10) rfl))) (by decide) (backOf (W := 1) (own_i1_2 l Z a0 hw [] b1 b2 k2 c0 c1 cs h4 n0 O0_x4 SC hcs V4s A1_x4 F1_value_x4 F1_coder_x4 ge1 hc0 hc1) hZ (hw _ (List.mem_of_getElem? (i := 10) rfl)) (hw _ (List.mem_of_getElem? (i := 6) rfl)) (by decide) (by decide)) (g := (mkF m 50 #[.val (.int (2 : Int32)), .val (.int c0), .val (.int c1)] [(.ref b2), (.ref b1), (.ref b1)])) rfl (by rw [hml]; rfl) (Steps.refl _) (a := b1) (argsL := [(.ref b2)]) (rest := [(.ref b1)]) (lenOf own_pd6 rfl) rfl (by show 2 * 0 + _ ≤ _; exact Nat.le_of_eq rfl) (hb hby own_d1_50) (fun _ _ => ⟨rfl, e4, (by decide : 2 + 1 ≤ _), (by decide : 6 + 2 ≤ _)⟩)
  dsimp only [Pt.U, Pt.locs, Pt.cells, Pt.slots] at X5 l5 y5 z5 st5 hQ5
  subst l5 y5 z5
  obtain ⟨rfl, N5q, K5, yy5, ky5, Ea5, Fv5, Fc5, Vy5⟩ := hQ5
  have N5 := Fr.app N4 N5q
  refine own_st (fun _ kt => st5.trans kt) ?_
  have hkk5 := Nat.le_trans hkk4 K5.1
  have O0_x5 := O0_x4.keep K5 (allS ge1 all0)
  have CR0_x5 := CR0_x4.trans (CHr.keep K5 (sfS Y1_x4 sf0) CR0_x4.1)
  have K0_x5 := K0_x4.trans K5 (allS (Or.inr sz1) all0)
  have Y1_x5 := Safe.keep K5 (sfS Y1_x4 sf0) CR0_x4.1 Y1_x4
  have A1_x5 := A1_x4.keep K5
  have Y2_x5 := Safe.keep K5 (sfS Y1_x4 sf0) CR0_x4.1 Y2_x4
  have V4s_x5 := V4s.keep K5 (ninS (Ne.symm ne2_b1) nin0)
  show own_Rch p e below _ T5 (mkF m 53 #[.val (.int (2 : Int32)), .val (.int c0), .val (.int c1)] [(.ref b1)])
  refine own_retAH rfl rfl (by rw [hh0]; exact CR0_x5.trans (CHv.at (s := s) X5 hZ (own_hEL hw) CR0_x5.1)) (s := s) hS0 hkk5 X5 hx Bd.notSynchronized Bd.returns (hb hby own_d1_53) (by decide) (by decide) ?_
  exact ⟨_, _, _, rfl, N5, K0_x5, sz1, Ea5, Fv5, Fc5, Vy5⟩
theorem own_d1_4 : decode method_2_code 4 = .ok (.new 7, 3) := by decide +kernel
theorem own_d1_7 : decode method_2_code 7 = .ok (.dup, 1) := by decide +kernel
theorem own_d1_8 : decode method_2_code 8 = .ok (.iconst 0, 1) := by decide +kernel
theorem own_d1_9 : decode method_2_code 9 = .ok (.newarray .char, 2) := by decide +kernel
theorem own_d1_11 : decode method_2_code 11 = .ok (.invokespecial 9, 3) := by decide +kernel
theorem own_d1_14 : decode method_2_code 14 = .ok (.areturn, 1) := by decide +kernel
set_option maxRecDepth 65536 in
set_option maxHeartbeats 40000000 in
theorem own_mk0 (l : Launch) (Z : State) (a0 : Array Value) (hw : ∀ d ∈ tables_1, d.before a0 Z = true) (ws : List Jvm.Cond) (c0 : Int32) (c1 : Int32) (cs : Int32) (h0 : Heap) (n0 : Nat) (O0 : Old Z n0 h0) (SC : Sta Z Z.heap "java/lang/String" "COMPACT_STRINGS" "Z" (.int cs)) (hcs : ¬ cs = 0) (hc0 : own_ch c0) (hc1 : own_ch c1) :
    MetFree l (⟨"com/example/drawdown/drawdown/input/TomlFloatEqualsPinLaw", "mk", "(ICC)Ljava/lang/String;"⟩ : MethodName) (head1 (Jvm.Cond.code (⟨"com/example/drawdown/drawdown/input/TomlFloatEqualsPinLaw", "mk", "(ICC)Ljava/lang/String;"⟩ : MethodName) method_2_code 3 (some (.object "java/lang/String")) :: ws) ({ frames := 5, cells := 8, slots := 16, locals := 110 } : Room)) (fun args_ U => args_ = #[(.int (0 : Int32)), (.int c0), (.int c1)] ∧ Z.Warmed39 U.vm ∧ U.heap = h0 ∧ CHv Z consts_1 U.vm h0) (fun _ _ _ _ _ => True) (fun _ U o U' => ∃ v L, o = .returned v ∧ (own_Q_mk Z [] h0 n0) v U'.heap L ∧ CHr Z consts_1 U.vm U.heap U'.vm U'.heap ∧ ReturnedEndW U o U' L ({ frames := 5, cells := 8, slots := 16, locals := 110 } : Room).cells ({ frames := 5, cells := 8, slots := 16, locals := 110 } : Room).slots) := by
  refine MetFree.of_bodySF (plainFor_of_name own_pn4) hisR ?_
  intro p e s m args below meth c s₁ Bd hml0 hP hK
  obtain ⟨rfl, hZ, hh, hCH⟩ := hP
  have hx := Bd.exec
  have hby := Bd.bytes
  have hml : c.maxLocals = 3 := hml0
  have hown : s.vm.findClass "com/example/drawdown/drawdown/input/TomlFloatEqualsPinLaw" = some m.cls := findClass_of_methodNamed Bd.named
  have hnm := (name_of_methodNamed Bd.named Bd.method).1
  have X0 : Stand p l e ({ frames := 5, cells := 8, slots := 16, locals := 110 } : Room) (s.setVm s.vm) m #[(.int (0 : Int32)), (.int c0), (.int c1)] below meth c s₁ [] 0 0 := Stand.of_body Bd
  have e0 : s₁.heap = h0 := by rw [← hh, Bd.state]; rfl
  have N0 := Fr.nil n0
  have hh0 : s.heap = h0 := hh
  have CR0 : CHr Z consts_1 s.vm h0 s.vm h0 := CHr.refl hCH
  have hS0 : s.Since s.vm 0 := own_since s
  have hk0 : 0 ≤ h0.size := Nat.zero_le _
  refine own_closeH (Z := Z) (EL := consts_1) (s := s) (Q := (own_Q_mk Z [] h0 n0)) (C := (({ frames := 5, cells := 8, slots := 16, locals := 110 } : Room)).cells) (N := (({ frames := 5, cells := 8, slots := 16, locals := 110 } : Room)).slots) (own_st (fun _ kt => castTop (own_ef1 m (0 : Int32) c0 c1) kt) ?_)
  have K0 := Keep.refl h0 []
  show own_Rch p e below _ s₁ (mkF m 0 #[.val (.int (0 : Int32)), .val (.int c0), .val (.int c1)] [])
  refine own_st (fun _ kt => XS.iloadN X0.here hx rfl (hb hby own_d1_0) rfl  kt) ?_
  show own_Rch p e below _ s₁ (mkF m 1 #[.val (.int (0 : Int32)), .val (.int c0), .val (.int c1)] [(.int (0 : Int32))])
  refine own_st (fun _ kt => XS.ifNo X0.here hx rfl (hb hby own_d1_1) rfl ((if0 _ _).trans (teq (rfl : (0 : Int32) = (0 : Int32))).2) kt) ?_
  show own_Rch p e below _ s₁ (mkF m 4 #[.val (.int (0 : Int32)), .val (.int c0), .val (.int c1)] [])
  obtain ⟨T1, h1, X1, e1, E1, A1, D1, U1, st1⟩ := newO X0 hx hZ hown (hw _ (List.mem_of_getElem? (i := 4) rfl)) (hw _ (List.mem_of_getElem? (i := 5) rfl)) (hw _ (List.mem_of_getElem? (i := 6) rfl)) e0 (g := (mkF m 4 #[.val (.int (0 : Int32)), .val (.int c0), .val (.int c1)] [])) rfl (hb hby own_d1_4) (by decide) (by decide)
  obtain ⟨b1, g1⟩ : ∃ z, z = h0.size := ⟨_, rfl⟩
  rw [← g1] at A1 D1 U1 st1
  have ge1 : n0 ≤ b1 := by rw [g1]; exact own_old_le O0
  have sz1 : h0.size ≤ b1 := by rw [g1]; exact K0.1
  have hkk1 := Nat.le_trans hk0 E1.1
  have O0_x1 := O0.ext E1
  have CR0_x1 := CR0.trans (CHr.ext E1 CR0.1)
  have K0_x1 := K0.ext E1
  have Y1 := Safe.ext E1 CR0.1 (Safe.new (Nat.le_of_eq g1.symm))
  refine own_st st1 ?_
  have F1_value : Fld Z h1 b1 "java/lang/String" "value" "[B" .null := D1 (Or.inr (hw _ (List.mem_of_getElem? (i := 20) rfl))) (ty := (.array .byte)) (by decide)
  have F1_coder : Fld Z h1 b1 "java/lang/String" "coder" "B" (.int (0 : Int32)) := D1 (Or.inr (hw _ (List.mem_of_getElem? (i := 21) rfl))) (ty := .byte) (by decide)
  show own_Rch p e below _ T1 (mkF m 7 #[.val (.int (0 : Int32)), .val (.int c0), .val (.int c1)] [(.ref b1)])
  refine own_st (fun _ kt => XS.dup X1.here hx rfl (hb hby own_d1_7) rfl rfl kt) ?_
  show own_Rch p e below _ T1 (mkF m 8 #[.val (.int (0 : Int32)), .val (.int c0), .val (.int c1)] [(.ref b1), (.ref b1)])
  refine own_st (fun _ kt => XS.iconst X1.here hx rfl (hb hby own_d1_8) kt) ?_
  show own_Rch p e below _ T1 (mkF m 9 #[.val (.int (0 : Int32)), .val (.int c0), .val (.int c1)] [(.int (0 : Int32)), (.ref b1), (.ref b1)])
  obtain ⟨T2, h2, k2, X2, e2, E2, A2, st2⟩ := newP X1 hx hZ (hw _ (List.mem_of_getElem? (i := 7) rfl)) e1 (g := (mkF m 9 #[.val (.int (0 : Int32)), .val (.int c0), .val (.int c1)] [(.int (0 : Int32)), (.ref b1), (.ref b1)])) rfl (hb hby own_d1_9) rfl (by decide) (cap := 0) (by decide) (by decide) (by decide) (by decide)
  obtain ⟨b2, g2⟩ : ∃ z, z = h1.size := ⟨_, rfl⟩
  rw [← g2] at A2 st2
  have ge2 : n0 ≤ b2 := by rw [g2]; exact own_old_le O0_x1
  have ne2_b1 : b1 ≠ b2 := by rw [g2]; exact Nat.ne_of_lt F1_value.lt
  have sz2 : h0.size ≤ b2 := by rw [g2]; exact K0_x1.1
  have hkk2 := Nat.le_trans hkk1 E2.1
  have O0_x2 := O0_x1.ext E2
  have CR0_x2 := CR0_x1.trans (CHr.ext E2 CR0_x1.1)
  have K0_x2 := K0_x1.ext E2
  have Y1_x2 := Safe.ext E2 CR0_x1.1 Y1
  have F1_value_x2 := F1_value.ext E2
  have F1_coder_x2 := F1_coder.ext E2
  have A1_x2 := A1.ext E2
  have Y2 := Safe.ext E2 CR0_x1.1 (Safe.new (Nat.le_of_eq g2.symm))
  refine own_st st2 ?_
  have V2 := Arv.new A2 (by decide)
  have V2p : Arv Z h2 b2 k2 .char (0 : Int32) [] (.int (0 : Int32)) := V2.pad (pad_rep [] (.int (0 : Int32)) 0)
  show own_Rch p e below _ T2 (mkF m 11 #[.val (.int (0 : Int32)), .val (.int c0), .val (.int c1)] [(.ref b2), (.ref b1), (.ref b1)])
  obtain ⟨_, _, ⟨T3, L3, k3, n3⟩, -, X3, hSq3, hg3, ⟨Lc3, hQ3, l3, y3, z3, CB3⟩, st3⟩ := X2.specialBackS hx (y := (⟨"java/lang/String", "<init>", "([C)V"⟩ : MethodName)) rfl hown (mvT hZ (hw _ (List.mem_of_getElem? (i := 8) rfl))) (mvT hZ (hw _ (List.mem_of_getElem? (i := 9) rfl))) (mvT hZ (hw _ (List.mem_of_getElem? (i := 10) rfl))) (by decide) (backOfSH (s := s) (W := 1) (own_i1_0 l Z a0 hw [] b1 b2 k2 c0 c1 cs h2 n0 O0_x2 SC hcs V2p A1_x2 F1_value_x2 F1_coder_x2 ge1 hc0 hc1) hZ (hw _ (List.mem_of_getElem? (i := 10) rfl)) (hw _ (List.mem_of_getElem? (i := 6) rfl)) (by decide) (by decide) (own_hEL hw) CR0_x2.1) (g := (mkF m 11 #[.val (.int (0 : Int32)), .val (.int c0), .val (.int c1)] [(.ref b2), (.ref b1), (.ref b1)])) rfl (by rw [hml]; rfl) (Steps.refl _) (a := b1) (argsL := [(.ref b2)]) (rest := [(.ref b1)]) (lenOf own_pd6 rfl) rfl (by show 2 * 0 + _ ≤ _; exact Nat.le_of_eq rfl) (hb hby own_d1_11) (fun _ _ => ⟨rfl, e2, (by decide : 2 + 4 ≤ _), (by decide : 4 + 8 ≤ _)⟩)
  dsimp only [Pt.U, Pt.locs, Pt.cells, Pt.slots] at X3 l3 y3 z3 st3 hQ3 hSq3 hg3 CB3
  subst l3 y3 z3
  obtain ⟨rfl, N3q, K3, yy3, ky3, Ea3, Fv3, Fc3, Vy3⟩ := hQ3
  have N3 := Fr.app N0 N3q
  have hS3 := foldS (s := s) hS0 (by rw [e2]; exact hkk2) hSq3 hg3
  have hZ3 : Z.Warmed39 T3.vm := State.Warmed39.trans (t := s.setVm s.vm) hZ hSq3.1
  have hown3 : T3.vm.findClass "com/example/drawdown/drawdown/input/TomlFloatEqualsPinLaw" = some m.cls := by rw [hSq3.1.alike.findClass]; exact hown
  refine own_st (fun _ kt => st3.trans kt) ?_
  have Yq3_b1 := CB3.safe F1_value_x2.lt Y1_x2; have Yq3_b2 := CB3.safe V2p.lt Y2
  have O0_x3 := O0_x2.keep K3 (allS ge1 all0)
  have CR0_x3 := CR0_x2.trans CB3
  have K0_x3 := K0_x2.trans K3 (allS (Or.inr sz1) all0)
  have A1_x3 := A1_x2.keep K3
  have V2p_x3 := V2p.keep K3 (ninS (Ne.symm ne2_b1) nin0)
  show own_Rch p e below _ T3 (mkF m 14 #[.val (.int (0 : Int32)), .val (.int c0), .val (.int c1)] [(.ref b1)])
  refine own_retAH rfl rfl (by rw [hh0]; exact CR0_x3.trans (CHv.at (s := s) X3 hZ3 (own_hEL hw) CR0_x3.1)) (s := s) hS3 (Nat.le_refl T3.heap.size) X3 hx Bd.notSynchronized Bd.returns (hb hby own_d1_14) (by decide) (by decide) ?_
  exact ⟨_, _, _, rfl, N3, K0_x3, sz1, Ea3, Fv3, Fc3, Vy3⟩
theorem own_mk (l : Launch) (Z : State) (a0 : Array Value) (hw : ∀ d ∈ tables_1, d.before a0 Z = true) (ws : List Jvm.Cond) (n c0 c1 cs : Int32) (h0 : Heap) (n0 : Nat) (O0 : Old Z n0 h0) (SC : Sta Z Z.heap "java/lang/String" "COMPACT_STRINGS" "Z" (.int cs)) (hcs : ¬ cs = 0) (hc0 : own_ch c0) (hc1 : own_ch c1) (hn : n = 0 ∨ n = 1 ∨ n = 2) :
    MetFree l (⟨"com/example/drawdown/drawdown/input/TomlFloatEqualsPinLaw", "mk", "(ICC)Ljava/lang/String;"⟩ : MethodName) (head1 (Jvm.Cond.code (⟨"com/example/drawdown/drawdown/input/TomlFloatEqualsPinLaw", "mk", "(ICC)Ljava/lang/String;"⟩ : MethodName) method_2_code 3 (some (.object "java/lang/String")) :: ws) ({ frames := 5, cells := 8, slots := 16, locals := 110 } : Room)) (fun args_ U => args_ = #[(.int n), (.int c0), (.int c1)] ∧ Z.Warmed39 U.vm ∧ U.heap = h0 ∧ CHv Z consts_1 U.vm h0) (fun _ _ _ _ _ => True) (fun _ U o U' => ∃ v L, o = .returned v ∧ (own_Q_mk Z (own_ls n c0 c1) h0 n0) v U'.heap L ∧ CHr Z consts_1 U.vm U.heap U'.vm U'.heap ∧ ReturnedEndW U o U' L ({ frames := 5, cells := 8, slots := 16, locals := 110 } : Room).cells ({ frames := 5, cells := 8, slots := 16, locals := 110 } : Room).slots) := by
  rcases hn with rfl | rfl | rfl
  · rw [show own_ls (0 : Int32) c0 c1 = [] from by simp [own_ls]]; exact own_mk0 l Z a0 hw ws c0 c1 cs h0 n0 O0 SC hcs hc0 hc1
  · rw [show own_ls (1 : Int32) c0 c1 = [own_b c0] from by simp [own_ls]]; exact own_mk1 l Z a0 hw ws c0 c1 cs h0 n0 O0 SC hcs hc0 hc1
  · rw [show own_ls (2 : Int32) c0 c1 = [own_b c0, own_b c1] from by simp [own_ls]]; exact own_mk2 l Z a0 hw ws c0 c1 cs h0 n0 O0 SC hcs hc0 hc1
theorem own_ef0 (m : MethodId) (x0 : Int32) (x1 : Int32) (x2 : Int32) (x3 : Int32) (x4 : Int32) : entryFrame m #[(.int x0), (.int x1), (.int x2), (.int x3), (.int x4)] maxLocals = mkF m 0 #[.val (.int x0), .val (.int x1), .val (.int x2), .val (.int x3), .val (.int x4), .unset, .unset, .unset, .unset, .unset, .unset, .unset, .unset, .unset, .unset, .unset, .unset] [] := by first | (simp [entryFrame, mkF, argsToLocals, Value.category, maxLocals]; done) | rfl
theorem own_pd7 : parseMethodDescriptor "(ICC)Ljava/lang/String;" = some ⟨[.int, .char, .char], some (.object "java/lang/String")⟩ := by decide +kernel
theorem own_pd8 : parseMethodDescriptor "(Ljava/lang/String;)V" = some ⟨[(.object "java/lang/String")], none⟩ := by decide +kernel
def own_Q_own_rm0 (Z : State) (p0 : Int32) (p1 : Int32) (p2 : Int32) (p3 : Int32) (p4 : Int32) (cs : Int32) (h0 : Heap) (n0 : Nat) (v : Option Value) (h : Heap) (L : List Loc) : Prop := v = some (.int (1 : Int32)) ∧ Fr n0 L
set_option maxRecDepth 65536 in
set_option maxHeartbeats 40000000 in
theorem own_rm0 (l : Launch) (Z : State) (a0 : Array Value) (hw : ∀ d ∈ tables_1, d.before a0 Z = true) (ws : List Jvm.Cond) (p0 : Int32) (p1 : Int32) (p2 : Int32) (p3 : Int32) (p4 : Int32) (cs : Int32) (h0 : Heap) (n0 : Nat) (O0 : Old Z n0 h0) (SC : Sta Z Z.heap "java/lang/String" "COMPACT_STRINGS" "Z" (.int cs)) (hcs : ¬ cs = 0) :
    MetFree l x (head1 (Jvm.Cond.code x code maxLocals ret :: ws) room_1) (fun args_ U => args_ = #[(.int p0), (.int p1), (.int p2), (.int p3), (.int p4)] ∧ Z.Warmed39 U.vm ∧ U.heap = h0 ∧ CHv Z consts_1 U.vm h0) (fun _ _ _ _ _ => True) (fun _ U o U' => ∃ v L, o = .returned v ∧ (own_Q_own_rm0 Z p0 p1 p2 p3 p4 cs h0 n0) v U'.heap L ∧ CHr Z consts_1 U.vm U.heap U'.vm U'.heap ∧ ReturnedEndW U o U' L room_1.cells room_1.slots) := by
  refine MetFree.of_bodySF (plainFor_of_name own_pn4) hisR ?_
  intro p e s m args below meth c s₁ Bd hml0 hP hK
  obtain ⟨rfl, hZ, hh, hCH⟩ := hP
  have hx := Bd.exec
  have hby := Bd.bytes
  have hml : c.maxLocals = 17 := hml0
  have hown : s.vm.findClass "com/example/drawdown/drawdown/input/TomlFloatEqualsPinLaw" = some m.cls := findClass_of_methodNamed Bd.named
  have hnm := (name_of_methodNamed Bd.named Bd.method).1
  have X0 : Stand p l e room_1 (s.setVm s.vm) m #[(.int p0), (.int p1), (.int p2), (.int p3), (.int p4)] below meth c s₁ [] 0 0 := Stand.of_body Bd
  have e0 : s₁.heap = h0 := by rw [← hh, Bd.state]; rfl
  have N0 := Fr.nil n0
  have hh0 : s.heap = h0 := hh
  have CR0 : CHr Z consts_1 s.vm h0 s.vm h0 := CHr.refl hCH
  have hS0 : s.Since s.vm 0 := own_since s
  have hk0 : 0 ≤ h0.size := Nat.zero_le _
  refine own_closeH (Z := Z) (EL := consts_1) (s := s) (Q := (own_Q_own_rm0 Z p0 p1 p2 p3 p4 cs h0 n0)) (C := (room_1).cells) (N := (room_1).slots) (own_st (fun _ kt => castTop (own_ef0 m p0 p1 p2 p3 p4) kt) ?_)
  have c103 : ∀ (la lb cb0 cb1 : Int32) (hla : la = 0 ∨ la = 1 ∨ la = 2) (hlb : lb = 0 ∨ lb = 1 ∨ lb = 2) (hB0 : own_ch cb0) (hB1 : own_ch cb1), own_Rch p e below (own_EndH Z consts_1 s below (own_Q_own_rm0 Z p0 p1 p2 p3 p4 cs h0 n0) (room_1).cells (room_1).slots) s₁ (mkF m 103 #[.val (.int p0), .val (.int p1), .val (.int p2), .val (.int p3), .val (.int p4), .val (.int la), .val (.int lb), .val (.int ((p1 &&& (255 : Int32)).toUInt32.toUInt16.toUInt32.toInt32)), .val (.int ((p2 &&& (255 : Int32)).toUInt32.toUInt16.toUInt32.toInt32)), .val (.int cb0), .unset, .unset, .unset, .unset, .unset, .unset, .unset] [(.int cb1)]) := by
    intro la lb cb0 cb1 hla hlb hB0 hB1
    show own_Rch p e below _ s₁ (mkF m 103 #[.val (.int p0), .val (.int p1), .val (.int p2), .val (.int p3), .val (.int p4), .val (.int la), .val (.int lb), .val (.int ((p1 &&& (255 : Int32)).toUInt32.toUInt16.toUInt32.toInt32)), .val (.int ((p2 &&& (255 : Int32)).toUInt32.toUInt16.toUInt32.toInt32)), .val (.int cb0), .unset, .unset, .unset, .unset, .unset, .unset, .unset] [(.int cb1)])
    refine own_st (fun _ kt => XS.istore X0.here hx rfl (hb hby at_103) rfl (l' := #[.val (.int p0), .val (.int p1), .val (.int p2), .val (.int p3), .val (.int p4), .val (.int la), .val (.int lb), .val (.int ((p1 &&& (255 : Int32)).toUInt32.toUInt16.toUInt32.toInt32)), .val (.int ((p2 &&& (255 : Int32)).toUInt32.toUInt16.toUInt32.toInt32)), .val (.int cb0), .val (.int cb1), .unset, .unset, .unset, .unset, .unset, .unset]) rfl kt) ?_
    have hA0 : own_ch ((p1 &&& (255 : Int32)).toUInt32.toUInt16.toUInt32.toInt32) := own_chc _
    have hA1 : own_ch ((p2 &&& (255 : Int32)).toUInt32.toUInt16.toUInt32.toInt32) := own_chc _
    show own_Rch p e below _ s₁ (mkF m 105 #[.val (.int p0), .val (.int p1), .val (.int p2), .val (.int p3), .val (.int p4), .val (.int la), .val (.int lb), .val (.int ((p1 &&& (255 : Int32)).toUInt32.toUInt16.toUInt32.toInt32)), .val (.int ((p2 &&& (255 : Int32)).toUInt32.toUInt16.toUInt32.toInt32)), .val (.int cb0), .val (.int cb1), .unset, .unset, .unset, .unset, .unset, .unset] [])
    refine own_st (fun _ kt => XS.iload X0.here hx rfl (hb hby at_105) rfl  kt) ?_
    show own_Rch p e below _ s₁ (mkF m 107 #[.val (.int p0), .val (.int p1), .val (.int p2), .val (.int p3), .val (.int p4), .val (.int la), .val (.int lb), .val (.int ((p1 &&& (255 : Int32)).toUInt32.toUInt16.toUInt32.toInt32)), .val (.int ((p2 &&& (255 : Int32)).toUInt32.toUInt16.toUInt32.toInt32)), .val (.int cb0), .val (.int cb1), .unset, .unset, .unset, .unset, .unset, .unset] [(.int la)])
    refine own_st (fun _ kt => XS.iload X0.here hx rfl (hb hby at_107) rfl  kt) ?_
    show own_Rch p e below _ s₁ (mkF m 109 #[.val (.int p0), .val (.int p1), .val (.int p2), .val (.int p3), .val (.int p4), .val (.int la), .val (.int lb), .val (.int ((p1 &&& (255 : Int32)).toUInt32.toUInt16.toUInt32.toInt32)), .val (.int ((p2 &&& (255 : Int32)).toUInt32.toUInt16.toUInt32.toInt32)), .val (.int cb0), .val (.int cb1), .unset, .unset, .unset, .unset, .unset, .unset] [(.int ((p1 &&& (255 : Int32)).toUInt32.toUInt16.toUInt32.toInt32)), (.int la)])
    refine own_st (fun _ kt => XS.iload X0.here hx rfl (hb hby at_109) rfl  kt) ?_
    show own_Rch p e below _ s₁ (mkF m 111 #[.val (.int p0), .val (.int p1), .val (.int p2), .val (.int p3), .val (.int p4), .val (.int la), .val (.int lb), .val (.int ((p1 &&& (255 : Int32)).toUInt32.toUInt16.toUInt32.toInt32)), .val (.int ((p2 &&& (255 : Int32)).toUInt32.toUInt16.toUInt32.toInt32)), .val (.int cb0), .val (.int cb1), .unset, .unset, .unset, .unset, .unset, .unset] [(.int ((p2 &&& (255 : Int32)).toUInt32.toUInt16.toUInt32.toInt32)), (.int ((p1 &&& (255 : Int32)).toUInt32.toUInt16.toUInt32.toInt32)), (.int la)])
    obtain ⟨_, _, ⟨T1, L1, k1, n1⟩, -, X1, hSq1, hg1, ⟨Lc1, hQ1, l1, y1, z1, CB1⟩, st1⟩ := callSS X0 hx (y := (⟨"com/example/drawdown/drawdown/input/TomlFloatEqualsPinLaw", "mk", "(ICC)Ljava/lang/String;"⟩ : MethodName)) hown (mvT hZ (hw _ (List.mem_of_getElem? (i := 0) rfl))) (mvT hZ (hw _ (List.mem_of_getElem? (i := 1) rfl))) (mvT hZ (hw _ (List.mem_of_getElem? (i := 2) rfl))) (mvT hZ (hw _ (List.mem_of_getElem? (i := 3) rfl))) (by decide) (backOfSH (s := s) (W := 0) (own_mk l Z a0 hw [] la ((p1 &&& (255 : Int32)).toUInt32.toUInt16.toUInt32.toInt32) ((p2 &&& (255 : Int32)).toUInt32.toUInt16.toUInt32.toInt32) cs h0 n0 O0 SC hcs hA0 hA1 hla) hZ (hw _ (List.mem_of_getElem? (i := 3) rfl)) (hw _ (List.mem_of_getElem? (i := 2) rfl)) (by decide) (by decide) (own_hEL hw) CR0.1) (g := (mkF m 111 #[.val (.int p0), .val (.int p1), .val (.int p2), .val (.int p3), .val (.int p4), .val (.int la), .val (.int lb), .val (.int ((p1 &&& (255 : Int32)).toUInt32.toUInt16.toUInt32.toInt32)), .val (.int ((p2 &&& (255 : Int32)).toUInt32.toUInt16.toUInt32.toInt32)), .val (.int cb0), .val (.int cb1), .unset, .unset, .unset, .unset, .unset, .unset] [(.int ((p2 &&& (255 : Int32)).toUInt32.toUInt16.toUInt32.toInt32)), (.int ((p1 &&& (255 : Int32)).toUInt32.toUInt16.toUInt32.toInt32)), (.int la)])) rfl (by rw [hml]; rfl) (argsL := [(.int la), (.int ((p1 &&& (255 : Int32)).toUInt32.toUInt16.toUInt32.toInt32)), (.int ((p2 &&& (255 : Int32)).toUInt32.toUInt16.toUInt32.toInt32))]) (rest := []) (lenOf own_pd7 rfl) rfl (by show 2 * 0 + _ ≤ _; exact Nat.le_of_eq rfl) (hb hby at_111) (fun _ _ => ⟨rfl, e0, (by decide : 0 + 8 ≤ _), (by decide : 0 + 16 ≤ _)⟩)
    dsimp only [Pt.U, Pt.locs, Pt.cells, Pt.slots] at X1 l1 y1 z1 st1 hQ1 hSq1 hg1 CB1
    subst l1 y1 z1
    obtain ⟨sb1, sy1, ks1, rfl, N1q, K1, hb1, Es1, Fv1, Fc1, Vs1⟩ := hQ1
    have N1 := Fr.app N0 N1q
    have hS1 := foldS (s := s) hS0 (by rw [e0]; exact hk0) hSq1 hg1
    have hZ1 : Z.Warmed39 T1.vm := State.Warmed39.trans (t := s.setVm s.vm) hZ hSq1.1
    have hown1 : T1.vm.findClass "com/example/drawdown/drawdown/input/TomlFloatEqualsPinLaw" = some m.cls := by rw [hSq1.1.alike.findClass]; exact hown
    refine own_st (fun _ kt => st1.trans kt) ?_
    have ge1_sb1 : n0 ≤ sb1 := Nat.le_trans (own_old_le O0) hb1
    have O0_x1 := O0.keep K1 all0
    have CR0_x1 := CR0.trans CB1
    show own_Rch p e below _ T1 (mkF m 114 #[.val (.int p0), .val (.int p1), .val (.int p2), .val (.int p3), .val (.int p4), .val (.int la), .val (.int lb), .val (.int ((p1 &&& (255 : Int32)).toUInt32.toUInt16.toUInt32.toInt32)), .val (.int ((p2 &&& (255 : Int32)).toUInt32.toUInt16.toUInt32.toInt32)), .val (.int cb0), .val (.int cb1), .unset, .unset, .unset, .unset, .unset, .unset] [(.ref sb1)])
    refine own_st (fun _ kt => XS.astore X1.here hx rfl (hb hby at_114) rfl rfl (l' := #[.val (.int p0), .val (.int p1), .val (.int p2), .val (.int p3), .val (.int p4), .val (.int la), .val (.int lb), .val (.int ((p1 &&& (255 : Int32)).toUInt32.toUInt16.toUInt32.toInt32)), .val (.int ((p2 &&& (255 : Int32)).toUInt32.toUInt16.toUInt32.toInt32)), .val (.int cb0), .val (.int cb1), .val (.ref sb1), .unset, .unset, .unset, .unset, .unset]) rfl kt) ?_
    show own_Rch p e below _ T1 (mkF m 116 #[.val (.int p0), .val (.int p1), .val (.int p2), .val (.int p3), .val (.int p4), .val (.int la), .val (.int lb), .val (.int ((p1 &&& (255 : Int32)).toUInt32.toUInt16.toUInt32.toInt32)), .val (.int ((p2 &&& (255 : Int32)).toUInt32.toUInt16.toUInt32.toInt32)), .val (.int cb0), .val (.int cb1), .val (.ref sb1), .unset, .unset, .unset, .unset, .unset] [])
    refine own_st (fun _ kt => XS.iload X1.here hx rfl (hb hby at_116) rfl  kt) ?_
    show own_Rch p e below _ T1 (mkF m 118 #[.val (.int p0), .val (.int p1), .val (.int p2), .val (.int p3), .val (.int p4), .val (.int la), .val (.int lb), .val (.int ((p1 &&& (255 : Int32)).toUInt32.toUInt16.toUInt32.toInt32)), .val (.int ((p2 &&& (255 : Int32)).toUInt32.toUInt16.toUInt32.toInt32)), .val (.int cb0), .val (.int cb1), .val (.ref sb1), .unset, .unset, .unset, .unset, .unset] [(.int lb)])
    refine own_st (fun _ kt => XS.iload X1.here hx rfl (hb hby at_118) rfl  kt) ?_
    show own_Rch p e below _ T1 (mkF m 120 #[.val (.int p0), .val (.int p1), .val (.int p2), .val (.int p3), .val (.int p4), .val (.int la), .val (.int lb), .val (.int ((p1 &&& (255 : Int32)).toUInt32.toUInt16.toUInt32.toInt32)), .val (.int ((p2 &&& (255 : Int32)).toUInt32.toUInt16.toUInt32.toInt32)), .val (.int cb0), .val (.int cb1), .val (.ref sb1), .unset, .unset, .unset, .unset, .unset] [(.int cb0), (.int lb)])
    refine own_st (fun _ kt => XS.iload X1.here hx rfl (hb hby at_120) rfl  kt) ?_
    show own_Rch p e below _ T1 (mkF m 122 #[.val (.int p0), .val (.int p1), .val (.int p2), .val (.int p3), .val (.int p4), .val (.int la), .val (.int lb), .val (.int ((p1 &&& (255 : Int32)).toUInt32.toUInt16.toUInt32.toInt32)), .val (.int ((p2 &&& (255 : Int32)).toUInt32.toUInt16.toUInt32.toInt32)), .val (.int cb0), .val (.int cb1), .val (.ref sb1), .unset, .unset, .unset, .unset, .unset] [(.int cb1), (.int cb0), (.int lb)])
    obtain ⟨_, _, ⟨T2, L2, k2, n2⟩, -, X2, hSq2, hg2, ⟨Lc2, hQ2, l2, y2, z2, CB2⟩, st2⟩ := callSS X1 hx (y := (⟨"com/example/drawdown/drawdown/input/TomlFloatEqualsPinLaw", "mk", "(ICC)Ljava/lang/String;"⟩ : MethodName)) hown1 (mvT hZ1 (hw _ (List.mem_of_getElem? (i := 0) rfl))) (mvT hZ1 (hw _ (List.mem_of_getElem? (i := 1) rfl))) (mvT hZ1 (hw _ (List.mem_of_getElem? (i := 2) rfl))) (mvT hZ1 (hw _ (List.mem_of_getElem? (i := 3) rfl))) (by decide) (backOfSH (s := s) (W := 0) (own_mk l Z a0 hw [] lb cb0 cb1 cs T1.heap n0 O0_x1 SC hcs hB0 hB1 hlb) hZ1 (hw _ (List.mem_of_getElem? (i := 3) rfl)) (hw _ (List.mem_of_getElem? (i := 2) rfl)) (by decide) (by decide) (own_hEL hw) CR0_x1.1) (g := (mkF m 122 #[.val (.int p0), .val (.int p1), .val (.int p2), .val (.int p3), .val (.int p4), .val (.int la), .val (.int lb), .val (.int ((p1 &&& (255 : Int32)).toUInt32.toUInt16.toUInt32.toInt32)), .val (.int ((p2 &&& (255 : Int32)).toUInt32.toUInt16.toUInt32.toInt32)), .val (.int cb0), .val (.int cb1), .val (.ref sb1), .unset, .unset, .unset, .unset, .unset] [(.int cb1), (.int cb0), (.int lb)])) rfl (by rw [hml]; rfl) (argsL := [(.int lb), (.int cb0), (.int cb1)]) (rest := []) (lenOf own_pd7 rfl) rfl (by show 2 * 0 + _ ≤ _; exact Nat.le_of_eq rfl) (hb hby at_122) (fun _ _ => ⟨rfl, rfl, (by decide : 8 + 8 ≤ _), (by decide : 16 + 16 ≤ _)⟩)
    dsimp only [Pt.U, Pt.locs, Pt.cells, Pt.slots] at X2 l2 y2 z2 st2 hQ2 hSq2 hg2 CB2
    subst l2 y2 z2
    obtain ⟨sb2, sy2, ks2, rfl, N2q, K2, hb2, Es2, Fv2, Fc2, Vs2⟩ := hQ2
    have N2 := Fr.app N1 N2q
    have hS2 := foldS (s := s) hS1 (Nat.le_refl T1.heap.size) hSq2 hg2
    have hZ2 : Z.Warmed39 T2.vm := State.Warmed39.trans (t := s.setVm T1.vm) hZ1 hSq2.1
    have hown2 : T2.vm.findClass "com/example/drawdown/drawdown/input/TomlFloatEqualsPinLaw" = some m.cls := by rw [hSq2.1.alike.findClass]; exact hown1
    refine own_st (fun _ kt => st2.trans kt) ?_
    have ne2_sb1_sb2 : sb1 ≠ sb2 := Nat.ne_of_lt (Nat.lt_of_lt_of_le Es1.lt hb2)
    have ne2_sy1_sb2 : sy1 ≠ sb2 := Nat.ne_of_lt (Nat.lt_of_lt_of_le Vs1.lt hb2)
    have ge2_sb2 : n0 ≤ sb2 := Nat.le_trans (own_old_le O0_x1) hb2
    have O0_x2 := O0_x1.keep K2 all0
    have CR0_x2 := CR0_x1.trans CB2
    have Es1_x2 := Es1.keep K2
    have Fv1_x2 := Fv1.keep K2 nin0
    have Fc1_x2 := Fc1.keep K2 nin0
    have Vs1_x2 := Vs1.keep K2 nin0
    show own_Rch p e below _ T2 (mkF m 125 #[.val (.int p0), .val (.int p1), .val (.int p2), .val (.int p3), .val (.int p4), .val (.int la), .val (.int lb), .val (.int ((p1 &&& (255 : Int32)).toUInt32.toUInt16.toUInt32.toInt32)), .val (.int ((p2 &&& (255 : Int32)).toUInt32.toUInt16.toUInt32.toInt32)), .val (.int cb0), .val (.int cb1), .val (.ref sb1), .unset, .unset, .unset, .unset, .unset] [(.ref sb2)])
    refine own_st (fun _ kt => XS.astore X2.here hx rfl (hb hby at_125) rfl rfl (l' := #[.val (.int p0), .val (.int p1), .val (.int p2), .val (.int p3), .val (.int p4), .val (.int la), .val (.int lb), .val (.int ((p1 &&& (255 : Int32)).toUInt32.toUInt16.toUInt32.toInt32)), .val (.int ((p2 &&& (255 : Int32)).toUInt32.toUInt16.toUInt32.toInt32)), .val (.int cb0), .val (.int cb1), .val (.ref sb1), .val (.ref sb2), .unset, .unset, .unset, .unset]) rfl kt) ?_
    show own_Rch p e below _ T2 (mkF m 127 #[.val (.int p0), .val (.int p1), .val (.int p2), .val (.int p3), .val (.int p4), .val (.int la), .val (.int lb), .val (.int ((p1 &&& (255 : Int32)).toUInt32.toUInt16.toUInt32.toInt32)), .val (.int ((p2 &&& (255 : Int32)).toUInt32.toUInt16.toUInt32.toInt32)), .val (.int cb0), .val (.int cb1), .val (.ref sb1), .val (.ref sb2), .unset, .unset, .unset, .unset] [])
    refine own_st (fun _ kt => XS.iloadN X2.here hx rfl (hb hby at_127) rfl  kt) ?_
    show own_Rch p e below _ T2 (mkF m 128 #[.val (.int p0), .val (.int p1), .val (.int p2), .val (.int p3), .val (.int p4), .val (.int la), .val (.int lb), .val (.int ((p1 &&& (255 : Int32)).toUInt32.toUInt16.toUInt32.toInt32)), .val (.int ((p2 &&& (255 : Int32)).toUInt32.toUInt16.toUInt32.toInt32)), .val (.int cb0), .val (.int cb1), .val (.ref sb1), .val (.ref sb2), .unset, .unset, .unset, .unset] [(.int p0)])
    refine own_st (fun _ kt => XS.bipush X2.here hx rfl (hb hby at_128) kt) ?_
    show own_Rch p e below _ T2 (mkF m 130 #[.val (.int p0), .val (.int p1), .val (.int p2), .val (.int p3), .val (.int p4), .val (.int la), .val (.int lb), .val (.int ((p1 &&& (255 : Int32)).toUInt32.toUInt16.toUInt32.toInt32)), .val (.int ((p2 &&& (255 : Int32)).toUInt32.toUInt16.toUInt32.toInt32)), .val (.int cb0), .val (.int cb1), .val (.ref sb1), .val (.ref sb2), .unset, .unset, .unset, .unset] [(.int (7 : Int32)), (.int p0)])
    refine own_st (fun _ kt => XS.ishr X2.here hx rfl (hb hby at_130) rfl kt) ?_
    show own_Rch p e below _ T2 (mkF m 131 #[.val (.int p0), .val (.int p1), .val (.int p2), .val (.int p3), .val (.int p4), .val (.int la), .val (.int lb), .val (.int ((p1 &&& (255 : Int32)).toUInt32.toUInt16.toUInt32.toInt32)), .val (.int ((p2 &&& (255 : Int32)).toUInt32.toUInt16.toUInt32.toInt32)), .val (.int cb0), .val (.int cb1), .val (.ref sb1), .val (.ref sb2), .unset, .unset, .unset, .unset] [(.int (p0 >>> ((7 : Int32) &&& 31)))])
    refine own_st (fun _ kt => XS.iconst X2.here hx rfl (hb hby at_131) kt) ?_
    show own_Rch p e below _ T2 (mkF m 132 #[.val (.int p0), .val (.int p1), .val (.int p2), .val (.int p3), .val (.int p4), .val (.int la), .val (.int lb), .val (.int ((p1 &&& (255 : Int32)).toUInt32.toUInt16.toUInt32.toInt32)), .val (.int ((p2 &&& (255 : Int32)).toUInt32.toUInt16.toUInt32.toInt32)), .val (.int cb0), .val (.int cb1), .val (.ref sb1), .val (.ref sb2), .unset, .unset, .unset, .unset] [(.int (3 : Int32)), (.int (p0 >>> ((7 : Int32) &&& 31)))])
    refine own_st (fun _ kt => XS.iand X2.here hx rfl (hb hby at_132) rfl kt) ?_
    show own_Rch p e below _ T2 (mkF m 133 #[.val (.int p0), .val (.int p1), .val (.int p2), .val (.int p3), .val (.int p4), .val (.int la), .val (.int lb), .val (.int ((p1 &&& (255 : Int32)).toUInt32.toUInt16.toUInt32.toInt32)), .val (.int ((p2 &&& (255 : Int32)).toUInt32.toUInt16.toUInt32.toInt32)), .val (.int cb0), .val (.int cb1), .val (.ref sb1), .val (.ref sb2), .unset, .unset, .unset, .unset] [(.int ((p0 >>> ((7 : Int32) &&& 31)) &&& (3 : Int32)))])
    refine own_st (fun _ kt => XS.istore X2.here hx rfl (hb hby at_133) rfl (l' := #[.val (.int p0), .val (.int p1), .val (.int p2), .val (.int p3), .val (.int p4), .val (.int la), .val (.int lb), .val (.int ((p1 &&& (255 : Int32)).toUInt32.toUInt16.toUInt32.toInt32)), .val (.int ((p2 &&& (255 : Int32)).toUInt32.toUInt16.toUInt32.toInt32)), .val (.int cb0), .val (.int cb1), .val (.ref sb1), .val (.ref sb2), .val (.int ((p0 >>> ((7 : Int32) &&& 31)) &&& (3 : Int32))), .unset, .unset, .unset]) rfl kt) ?_
    show own_Rch p e below _ T2 (mkF m 135 #[.val (.int p0), .val (.int p1), .val (.int p2), .val (.int p3), .val (.int p4), .val (.int la), .val (.int lb), .val (.int ((p1 &&& (255 : Int32)).toUInt32.toUInt16.toUInt32.toInt32)), .val (.int ((p2 &&& (255 : Int32)).toUInt32.toUInt16.toUInt32.toInt32)), .val (.int cb0), .val (.int cb1), .val (.ref sb1), .val (.ref sb2), .val (.int ((p0 >>> ((7 : Int32) &&& 31)) &&& (3 : Int32))), .unset, .unset, .unset] [])
    obtain ⟨T3, h3, X3, e3, E3, A3, D3, U3, st3⟩ := newO X2 hx hZ2 hown2 (hw _ (List.mem_of_getElem? (i := 26) rfl)) (hw _ (List.mem_of_getElem? (i := 27) rfl)) (hw _ (List.mem_of_getElem? (i := 28) rfl)) rfl (g := (mkF m 135 #[.val (.int p0), .val (.int p1), .val (.int p2), .val (.int p3), .val (.int p4), .val (.int la), .val (.int lb), .val (.int ((p1 &&& (255 : Int32)).toUInt32.toUInt16.toUInt32.toInt32)), .val (.int ((p2 &&& (255 : Int32)).toUInt32.toUInt16.toUInt32.toInt32)), .val (.int cb0), .val (.int cb1), .val (.ref sb1), .val (.ref sb2), .val (.int ((p0 >>> ((7 : Int32) &&& 31)) &&& (3 : Int32))), .unset, .unset, .unset] [])) rfl (hb hby at_135) (by decide) (by decide)
    obtain ⟨b3, g3⟩ : ∃ z, z = T2.heap.size := ⟨_, rfl⟩
    rw [← g3] at A3 D3 U3 st3
    have ge3 : n0 ≤ b3 := by rw [g3]; exact own_old_le O0_x2
    have ne3_sb1 : sb1 ≠ b3 := by rw [g3]; exact Nat.ne_of_lt Es1_x2.lt
    have ne3_sy1 : sy1 ≠ b3 := by rw [g3]; exact Nat.ne_of_lt Vs1_x2.lt
    have ne3_sb2 : sb2 ≠ b3 := by rw [g3]; exact Nat.ne_of_lt Es2.lt
    have ne3_sy2 : sy2 ≠ b3 := by rw [g3]; exact Nat.ne_of_lt Vs2.lt
    have hkk3 := Nat.le_trans (Nat.le_refl T2.heap.size) E3.1
    have O0_x3 := O0_x2.ext E3
    have CR0_x3 := CR0_x2.trans (CHr.ext E3 CR0_x2.1)
    have Es1_x3 := Es1_x2.ext E3
    have Fv1_x3 := Fv1_x2.ext E3
    have Fc1_x3 := Fc1_x2.ext E3
    have Vs1_x3 := Vs1_x2.ext E3
    have Es2_x3 := Es2.ext E3
    have Fv2_x3 := Fv2.ext E3
    have Fc2_x3 := Fc2.ext E3
    have Vs2_x3 := Vs2.ext E3
    have Y3 := Safe.ext E3 CR0_x2.1 (Safe.new (Nat.le_of_eq g3.symm))
    refine own_st st3 ?_
    have F3_text : Fld Z h3 b3 "com/example/drawdown/drawdown/input/TomlFloat" "text" "Ljava/lang/String;" .null := D3 (Or.inr (hw _ (List.mem_of_getElem? (i := 34) rfl))) (ty := (.object "java/lang/String")) (by decide)
    show own_Rch p e below _ T3 (mkF m 138 #[.val (.int p0), .val (.int p1), .val (.int p2), .val (.int p3), .val (.int p4), .val (.int la), .val (.int lb), .val (.int ((p1 &&& (255 : Int32)).toUInt32.toUInt16.toUInt32.toInt32)), .val (.int ((p2 &&& (255 : Int32)).toUInt32.toUInt16.toUInt32.toInt32)), .val (.int cb0), .val (.int cb1), .val (.ref sb1), .val (.ref sb2), .val (.int ((p0 >>> ((7 : Int32) &&& 31)) &&& (3 : Int32))), .unset, .unset, .unset] [(.ref b3)])
    refine own_st (fun _ kt => XS.dup X3.here hx rfl (hb hby at_138) rfl rfl kt) ?_
    show own_Rch p e below _ T3 (mkF m 139 #[.val (.int p0), .val (.int p1), .val (.int p2), .val (.int p3), .val (.int p4), .val (.int la), .val (.int lb), .val (.int ((p1 &&& (255 : Int32)).toUInt32.toUInt16.toUInt32.toInt32)), .val (.int ((p2 &&& (255 : Int32)).toUInt32.toUInt16.toUInt32.toInt32)), .val (.int cb0), .val (.int cb1), .val (.ref sb1), .val (.ref sb2), .val (.int ((p0 >>> ((7 : Int32) &&& 31)) &&& (3 : Int32))), .unset, .unset, .unset] [(.ref b3), (.ref b3)])
    refine own_st (fun _ kt => XS.aload X3.here hx rfl (hb hby at_139) rfl rfl  kt) ?_
    show own_Rch p e below _ T3 (mkF m 141 #[.val (.int p0), .val (.int p1), .val (.int p2), .val (.int p3), .val (.int p4), .val (.int la), .val (.int lb), .val (.int ((p1 &&& (255 : Int32)).toUInt32.toUInt16.toUInt32.toInt32)), .val (.int ((p2 &&& (255 : Int32)).toUInt32.toUInt16.toUInt32.toInt32)), .val (.int cb0), .val (.int cb1), .val (.ref sb1), .val (.ref sb2), .val (.int ((p0 >>> ((7 : Int32) &&& 31)) &&& (3 : Int32))), .unset, .unset, .unset] [(.ref sb1), (.ref b3), (.ref b3)])
    obtain ⟨_, _, ⟨T4, L4, k4, n4⟩, -, X4, ⟨Lc4, hQ4, l4, y4, z4⟩, st4⟩ := X3.specialBack hx (y := (⟨"com/example/drawdown/drawdown/input/TomlFloat", "<init>", "(Ljava/lang/String;)V"⟩ : MethodName)) rfl hown2 (mvT hZ2 (hw _ (List.mem_of_getElem? (i := 29) rfl))) (mvT hZ2 (hw _ (List.mem_of_getElem? (i := 30) rfl))) (mvT hZ2 (hw _ (List.mem_of_getElem? (i := 31) rfl))) (by decide) (backOf (W := 1) (own_tinit l Z a0 hw [] b3 sb1 h3 n0 O0_x3 A3 F3_text ge3) hZ2 (hw _ (List.mem_of_getElem? (i := 31) rfl)) (hw _ (List.mem_of_getElem? (i := 28) rfl)) (by decide) (by decide)) (g := (mkF m 141 #[.val (.int p0), .val (.int p1), .val (.int p2), .val (.int p3), .val (.int p4), .val (.int la), .val (.int lb), .val (.int ((p1 &&& (255 : Int32)).toUInt32.toUInt16.toUInt32.toInt32)), .val (.int ((p2 &&& (255 : Int32)).toUInt32.toUInt16.toUInt32.toInt32)), .val (.int cb0), .val (.int cb1), .val (.ref sb1), .val (.ref sb2), .val (.int ((p0 >>> ((7 : Int32) &&& 31)) &&& (3 : Int32))), .unset, .unset, .unset] [(.ref sb1), (.ref b3), (.ref b3)])) rfl (by rw [hml]; rfl) (Steps.refl _) (a := b3) (argsL := [(.ref sb1)]) (rest := [(.ref b3)]) (lenOf own_pd8 rfl) rfl (by show 2 * 0 + _ ≤ _; exact Nat.le_of_eq rfl) (hb hby at_141) (fun _ _ => ⟨rfl, e3, (by decide : 17 + 0 ≤ _), (by decide : 33 + 0 ≤ _)⟩)
    dsimp only [Pt.U, Pt.locs, Pt.cells, Pt.slots] at X4 l4 y4 z4 st4 hQ4
    subst l4 y4 z4
    obtain ⟨rfl, N4q, K4, Ea4, Ft4⟩ := hQ4
    have N4 := Fr.app N2 N4q
    refine own_st (fun _ kt => st4.trans kt) ?_
    have hkk4 := Nat.le_trans hkk3 K4.1
    have O0_x4 := O0_x3.keep K4 (allS ge3 all0)
    have CR0_x4 := CR0_x3.trans (CHr.keep K4 (sfS Y3 sf0) CR0_x3.1)
    have Es1_x4 := Es1_x3.keep K4
    have Fv1_x4 := Fv1_x3.keep K4 (ninS ne3_sb1 nin0)
    have Fc1_x4 := Fc1_x3.keep K4 (ninS ne3_sb1 nin0)
    have Vs1_x4 := Vs1_x3.keep K4 (ninS ne3_sy1 nin0)
    have Es2_x4 := Es2_x3.keep K4
    have Fv2_x4 := Fv2_x3.keep K4 (ninS ne3_sb2 nin0)
    have Fc2_x4 := Fc2_x3.keep K4 (ninS ne3_sb2 nin0)
    have Vs2_x4 := Vs2_x3.keep K4 (ninS ne3_sy2 nin0)
    have Y3_x4 := Safe.keep K4 (sfS Y3 sf0) CR0_x3.1 Y3
    have A3_x4 := A3.keep K4
    show own_Rch p e below _ T4 (mkF m 144 #[.val (.int p0), .val (.int p1), .val (.int p2), .val (.int p3), .val (.int p4), .val (.int la), .val (.int lb), .val (.int ((p1 &&& (255 : Int32)).toUInt32.toUInt16.toUInt32.toInt32)), .val (.int ((p2 &&& (255 : Int32)).toUInt32.toUInt16.toUInt32.toInt32)), .val (.int cb0), .val (.int cb1), .val (.ref sb1), .val (.ref sb2), .val (.int ((p0 >>> ((7 : Int32) &&& 31)) &&& (3 : Int32))), .unset, .unset, .unset] [(.ref b3)])
    refine own_st (fun _ kt => XS.astore X4.here hx rfl (hb hby at_144) rfl rfl (l' := #[.val (.int p0), .val (.int p1), .val (.int p2), .val (.int p3), .val (.int p4), .val (.int la), .val (.int lb), .val (.int ((p1 &&& (255 : Int32)).toUInt32.toUInt16.toUInt32.toInt32)), .val (.int ((p2 &&& (255 : Int32)).toUInt32.toUInt16.toUInt32.toInt32)), .val (.int cb0), .val (.int cb1), .val (.ref sb1), .val (.ref sb2), .val (.int ((p0 >>> ((7 : Int32) &&& 31)) &&& (3 : Int32))), .val (.ref b3), .unset, .unset]) rfl kt) ?_
    show own_Rch p e below _ T4 (mkF m 146 #[.val (.int p0), .val (.int p1), .val (.int p2), .val (.int p3), .val (.int p4), .val (.int la), .val (.int lb), .val (.int ((p1 &&& (255 : Int32)).toUInt32.toUInt16.toUInt32.toInt32)), .val (.int ((p2 &&& (255 : Int32)).toUInt32.toUInt16.toUInt32.toInt32)), .val (.int cb0), .val (.int cb1), .val (.ref sb1), .val (.ref sb2), .val (.int ((p0 >>> ((7 : Int32) &&& 31)) &&& (3 : Int32))), .val (.ref b3), .unset, .unset] [])
    refine own_st (fun _ kt => XS.iload X4.here hx rfl (hb hby at_146) rfl  kt) ?_
    show own_Rch p e below _ T4 (mkF m 148 #[.val (.int p0), .val (.int p1), .val (.int p2), .val (.int p3), .val (.int p4), .val (.int la), .val (.int lb), .val (.int ((p1 &&& (255 : Int32)).toUInt32.toUInt16.toUInt32.toInt32)), .val (.int ((p2 &&& (255 : Int32)).toUInt32.toUInt16.toUInt32.toInt32)), .val (.int cb0), .val (.int cb1), .val (.ref sb1), .val (.ref sb2), .val (.int ((p0 >>> ((7 : Int32) &&& 31)) &&& (3 : Int32))), .val (.ref b3), .unset, .unset] [(.int ((p0 >>> ((7 : Int32) &&& 31)) &&& (3 : Int32)))])
    by_cases hc148_5 : ((p0 >>> ((7 : Int32) &&& 31)) &&& (3 : Int32)) = (0 : Int32)
    · -- pc 148: True
      refine own_st (fun _ kt => XS.ifNo X4.here hx rfl (hb hby at_148) rfl ((if0 _ _).trans (teq hc148_5).2) kt) ?_
      show own_Rch p e below _ T4 (mkF m 151 #[.val (.int p0), .val (.int p1), .val (.int p2), .val (.int p3), .val (.int p4), .val (.int la), .val (.int lb), .val (.int ((p1 &&& (255 : Int32)).toUInt32.toUInt16.toUInt32.toInt32)), .val (.int ((p2 &&& (255 : Int32)).toUInt32.toUInt16.toUInt32.toInt32)), .val (.int cb0), .val (.int cb1), .val (.ref sb1), .val (.ref sb2), .val (.int ((p0 >>> ((7 : Int32) &&& 31)) &&& (3 : Int32))), .val (.ref b3), .unset, .unset] [])
      obtain ⟨T6, h6, X6, e6, E6, A6, D6, U6, st6⟩ := newO X4 hx hZ2 hown2 (hw _ (List.mem_of_getElem? (i := 26) rfl)) (hw _ (List.mem_of_getElem? (i := 27) rfl)) (hw _ (List.mem_of_getElem? (i := 28) rfl)) rfl (g := (mkF m 151 #[.val (.int p0), .val (.int p1), .val (.int p2), .val (.int p3), .val (.int p4), .val (.int la), .val (.int lb), .val (.int ((p1 &&& (255 : Int32)).toUInt32.toUInt16.toUInt32.toInt32)), .val (.int ((p2 &&& (255 : Int32)).toUInt32.toUInt16.toUInt32.toInt32)), .val (.int cb0), .val (.int cb1), .val (.ref sb1), .val (.ref sb2), .val (.int ((p0 >>> ((7 : Int32) &&& 31)) &&& (3 : Int32))), .val (.ref b3), .unset, .unset] [])) rfl (hb hby at_151) (by decide) (by decide)
      obtain ⟨b6, g6⟩ : ∃ z, z = T4.heap.size := ⟨_, rfl⟩
      rw [← g6] at A6 D6 U6 st6
      have ge6 : n0 ≤ b6 := by rw [g6]; exact own_old_le O0_x4
      have ne6_sb1 : sb1 ≠ b6 := by rw [g6]; exact Nat.ne_of_lt Es1_x4.lt
      have ne6_sy1 : sy1 ≠ b6 := by rw [g6]; exact Nat.ne_of_lt Vs1_x4.lt
      have ne6_sb2 : sb2 ≠ b6 := by rw [g6]; exact Nat.ne_of_lt Es2_x4.lt
      have ne6_sy2 : sy2 ≠ b6 := by rw [g6]; exact Nat.ne_of_lt Vs2_x4.lt
      have ne6_b3 : b3 ≠ b6 := by rw [g6]; exact Nat.ne_of_lt Ea4.lt
      have hkk6 := Nat.le_trans hkk4 E6.1
      have O0_x6 := O0_x4.ext E6
      have CR0_x6 := CR0_x4.trans (CHr.ext E6 CR0_x4.1)
      have Es1_x6 := Es1_x4.ext E6
      have Fv1_x6 := Fv1_x4.ext E6
      have Fc1_x6 := Fc1_x4.ext E6
      have Vs1_x6 := Vs1_x4.ext E6
      have Es2_x6 := Es2_x4.ext E6
      have Fv2_x6 := Fv2_x4.ext E6
      have Fc2_x6 := Fc2_x4.ext E6
      have Vs2_x6 := Vs2_x4.ext E6
      have Y3_x6 := Safe.ext E6 CR0_x4.1 Y3_x4
      have Ea4_x6 := Ea4.ext E6
      have Ft4_x6 := Ft4.ext E6
      have Y6 := Safe.ext E6 CR0_x4.1 (Safe.new (Nat.le_of_eq g6.symm))
      refine own_st st6 ?_
      have F6_text : Fld Z h6 b6 "com/example/drawdown/drawdown/input/TomlFloat" "text" "Ljava/lang/String;" .null := D6 (Or.inr (hw _ (List.mem_of_getElem? (i := 34) rfl))) (ty := (.object "java/lang/String")) (by decide)
      show own_Rch p e below _ T6 (mkF m 154 #[.val (.int p0), .val (.int p1), .val (.int p2), .val (.int p3), .val (.int p4), .val (.int la), .val (.int lb), .val (.int ((p1 &&& (255 : Int32)).toUInt32.toUInt16.toUInt32.toInt32)), .val (.int ((p2 &&& (255 : Int32)).toUInt32.toUInt16.toUInt32.toInt32)), .val (.int cb0), .val (.int cb1), .val (.ref sb1), .val (.ref sb2), .val (.int ((p0 >>> ((7 : Int32) &&& 31)) &&& (3 : Int32))), .val (.ref b3), .unset, .unset] [(.ref b6)])
      refine own_st (fun _ kt => XS.dup X6.here hx rfl (hb hby at_154) rfl rfl kt) ?_
      show own_Rch p e below _ T6 (mkF m 155 #[.val (.int p0), .val (.int p1), .val (.int p2), .val (.int p3), .val (.int p4), .val (.int la), .val (.int lb), .val (.int ((p1 &&& (255 : Int32)).toUInt32.toUInt16.toUInt32.toInt32)), .val (.int ((p2 &&& (255 : Int32)).toUInt32.toUInt16.toUInt32.toInt32)), .val (.int cb0), .val (.int cb1), .val (.ref sb1), .val (.ref sb2), .val (.int ((p0 >>> ((7 : Int32) &&& 31)) &&& (3 : Int32))), .val (.ref b3), .unset, .unset] [(.ref b6), (.ref b6)])
      refine own_st (fun _ kt => XS.aload X6.here hx rfl (hb hby at_155) rfl rfl  kt) ?_
      show own_Rch p e below _ T6 (mkF m 157 #[.val (.int p0), .val (.int p1), .val (.int p2), .val (.int p3), .val (.int p4), .val (.int la), .val (.int lb), .val (.int ((p1 &&& (255 : Int32)).toUInt32.toUInt16.toUInt32.toInt32)), .val (.int ((p2 &&& (255 : Int32)).toUInt32.toUInt16.toUInt32.toInt32)), .val (.int cb0), .val (.int cb1), .val (.ref sb1), .val (.ref sb2), .val (.int ((p0 >>> ((7 : Int32) &&& 31)) &&& (3 : Int32))), .val (.ref b3), .unset, .unset] [(.ref sb2), (.ref b6), (.ref b6)])
      obtain ⟨_, _, ⟨T7, L7, k7, n7⟩, -, X7, ⟨Lc7, hQ7, l7, y7, z7⟩, st7⟩ := X6.specialBack hx (y := (⟨"com/example/drawdown/drawdown/input/TomlFloat", "<init>", "(Ljava/lang/String;)V"⟩ : MethodName)) rfl hown2 (mvT hZ2 (hw _ (List.mem_of_getElem? (i := 29) rfl))) (mvT hZ2 (hw _ (List.mem_of_getElem? (i := 30) rfl))) (mvT hZ2 (hw _ (List.mem_of_getElem? (i := 31) rfl))) (by decide) (backOf (W := 1) (own_tinit l Z a0 hw [] b6 sb2 h6 n0 O0_x6 A6 F6_text ge6) hZ2 (hw _ (List.mem_of_getElem? (i := 31) rfl)) (hw _ (List.mem_of_getElem? (i := 28) rfl)) (by decide) (by decide)) (g := (mkF m 157 #[.val (.int p0), .val (.int p1), .val (.int p2), .val (.int p3), .val (.int p4), .val (.int la), .val (.int lb), .val (.int ((p1 &&& (255 : Int32)).toUInt32.toUInt16.toUInt32.toInt32)), .val (.int ((p2 &&& (255 : Int32)).toUInt32.toUInt16.toUInt32.toInt32)), .val (.int cb0), .val (.int cb1), .val (.ref sb1), .val (.ref sb2), .val (.int ((p0 >>> ((7 : Int32) &&& 31)) &&& (3 : Int32))), .val (.ref b3), .unset, .unset] [(.ref sb2), (.ref b6), (.ref b6)])) rfl (by rw [hml]; rfl) (Steps.refl _) (a := b6) (argsL := [(.ref sb2)]) (rest := [(.ref b6)]) (lenOf own_pd8 rfl) rfl (by show 2 * 0 + _ ≤ _; exact Nat.le_of_eq rfl) (hb hby at_157) (fun _ _ => ⟨rfl, e6, (by decide : 18 + 0 ≤ _), (by decide : 34 + 0 ≤ _)⟩)
      dsimp only [Pt.U, Pt.locs, Pt.cells, Pt.slots] at X7 l7 y7 z7 st7 hQ7
      subst l7 y7 z7
      obtain ⟨rfl, N7q, K7, Ea7, Ft7⟩ := hQ7
      have N7 := Fr.app N4 N7q
      refine own_st (fun _ kt => st7.trans kt) ?_
      have hkk7 := Nat.le_trans hkk6 K7.1
      have O0_x7 := O0_x6.keep K7 (allS ge6 all0)
      have CR0_x7 := CR0_x6.trans (CHr.keep K7 (sfS Y6 sf0) CR0_x6.1)
      have Es1_x7 := Es1_x6.keep K7
      have Fv1_x7 := Fv1_x6.keep K7 (ninS ne6_sb1 nin0)
      have Fc1_x7 := Fc1_x6.keep K7 (ninS ne6_sb1 nin0)
      have Vs1_x7 := Vs1_x6.keep K7 (ninS ne6_sy1 nin0)
      have Es2_x7 := Es2_x6.keep K7
      have Fv2_x7 := Fv2_x6.keep K7 (ninS ne6_sb2 nin0)
      have Fc2_x7 := Fc2_x6.keep K7 (ninS ne6_sb2 nin0)
      have Vs2_x7 := Vs2_x6.keep K7 (ninS ne6_sy2 nin0)
      have Y3_x7 := Safe.keep K7 (sfS Y6 sf0) CR0_x6.1 Y3_x6
      have Ea4_x7 := Ea4_x6.keep K7
      have Ft4_x7 := Ft4_x6.keep K7 (ninS ne6_b3 nin0)
      have Y6_x7 := Safe.keep K7 (sfS Y6 sf0) CR0_x6.1 Y6
      have A6_x7 := A6.keep K7
      show own_Rch p e below _ T7 (mkF m 160 #[.val (.int p0), .val (.int p1), .val (.int p2), .val (.int p3), .val (.int p4), .val (.int la), .val (.int lb), .val (.int ((p1 &&& (255 : Int32)).toUInt32.toUInt16.toUInt32.toInt32)), .val (.int ((p2 &&& (255 : Int32)).toUInt32.toUInt16.toUInt32.toInt32)), .val (.int cb0), .val (.int cb1), .val (.ref sb1), .val (.ref sb2), .val (.int ((p0 >>> ((7 : Int32) &&& 31)) &&& (3 : Int32))), .val (.ref b3), .unset, .unset] [(.ref b6)])
      refine own_st (fun _ kt => XS.astore X7.here hx rfl (hb hby at_160) rfl rfl (l' := #[.val (.int p0), .val (.int p1), .val (.int p2), .val (.int p3), .val (.int p4), .val (.int la), .val (.int lb), .val (.int ((p1 &&& (255 : Int32)).toUInt32.toUInt16.toUInt32.toInt32)), .val (.int ((p2 &&& (255 : Int32)).toUInt32.toUInt16.toUInt32.toInt32)), .val (.int cb0), .val (.int cb1), .val (.ref sb1), .val (.ref sb2), .val (.int ((p0 >>> ((7 : Int32) &&& 31)) &&& (3 : Int32))), .val (.ref b3), .val (.ref b6), .unset]) rfl kt) ?_
      have c200 : ∀ (ex : Int32) (hex : own_eqs (own_ls la ((p1 &&& (255 : Int32)).toUInt32.toUInt16.toUInt32.toInt32) ((p2 &&& (255 : Int32)).toUInt32.toUInt16.toUInt32.toInt32)) (own_ls lb cb0 cb1) = ex), own_Rch p e below (own_EndH Z consts_1 s below (own_Q_own_rm0 Z p0 p1 p2 p3 p4 cs h0 n0) (room_1).cells (room_1).slots) T7 (mkF m 200 #[.val (.int p0), .val (.int p1), .val (.int p2), .val (.int p3), .val (.int p4), .val (.int la), .val (.int lb), .val (.int ((p1 &&& (255 : Int32)).toUInt32.toUInt16.toUInt32.toInt32)), .val (.int ((p2 &&& (255 : Int32)).toUInt32.toUInt16.toUInt32.toInt32)), .val (.int cb0), .val (.int cb1), .val (.ref sb1), .val (.ref sb2), .val (.int ((p0 >>> ((7 : Int32) &&& 31)) &&& (3 : Int32))), .val (.ref b3), .val (.ref b6), .unset] [(.int ex)]) := by
        intro ex hex
        show own_Rch p e below _ T7 (mkF m 200 #[.val (.int p0), .val (.int p1), .val (.int p2), .val (.int p3), .val (.int p4), .val (.int la), .val (.int lb), .val (.int ((p1 &&& (255 : Int32)).toUInt32.toUInt16.toUInt32.toInt32)), .val (.int ((p2 &&& (255 : Int32)).toUInt32.toUInt16.toUInt32.toInt32)), .val (.int cb0), .val (.int cb1), .val (.ref sb1), .val (.ref sb2), .val (.int ((p0 >>> ((7 : Int32) &&& 31)) &&& (3 : Int32))), .val (.ref b3), .val (.ref b6), .unset] [(.int ex)])
        refine own_st (fun _ kt => XS.istore X7.here hx rfl (hb hby at_200) rfl (l' := #[.val (.int p0), .val (.int p1), .val (.int p2), .val (.int p3), .val (.int p4), .val (.int la), .val (.int lb), .val (.int ((p1 &&& (255 : Int32)).toUInt32.toUInt16.toUInt32.toInt32)), .val (.int ((p2 &&& (255 : Int32)).toUInt32.toUInt16.toUInt32.toInt32)), .val (.int cb0), .val (.int cb1), .val (.ref sb1), .val (.ref sb2), .val (.int ((p0 >>> ((7 : Int32) &&& 31)) &&& (3 : Int32))), .val (.ref b3), .val (.ref b6), .val (.int ex)]) rfl kt) ?_
        show own_Rch p e below _ T7 (mkF m 202 #[.val (.int p0), .val (.int p1), .val (.int p2), .val (.int p3), .val (.int p4), .val (.int la), .val (.int lb), .val (.int ((p1 &&& (255 : Int32)).toUInt32.toUInt16.toUInt32.toInt32)), .val (.int ((p2 &&& (255 : Int32)).toUInt32.toUInt16.toUInt32.toInt32)), .val (.int cb0), .val (.int cb1), .val (.ref sb1), .val (.ref sb2), .val (.int ((p0 >>> ((7 : Int32) &&& 31)) &&& (3 : Int32))), .val (.ref b3), .val (.ref b6), .val (.int ex)] [])
        refine own_st (fun _ kt => XS.aload X7.here hx rfl (hb hby at_202) rfl rfl  kt) ?_
        show own_Rch p e below _ T7 (mkF m 204 #[.val (.int p0), .val (.int p1), .val (.int p2), .val (.int p3), .val (.int p4), .val (.int la), .val (.int lb), .val (.int ((p1 &&& (255 : Int32)).toUInt32.toUInt16.toUInt32.toInt32)), .val (.int ((p2 &&& (255 : Int32)).toUInt32.toUInt16.toUInt32.toInt32)), .val (.int cb0), .val (.int cb1), .val (.ref sb1), .val (.ref sb2), .val (.int ((p0 >>> ((7 : Int32) &&& 31)) &&& (3 : Int32))), .val (.ref b3), .val (.ref b6), .val (.int ex)] [(.ref b3)])
        refine own_st (fun _ kt => XS.aload X7.here hx rfl (hb hby at_204) rfl rfl  kt) ?_
        show own_Rch p e below _ T7 (mkF m 206 #[.val (.int p0), .val (.int p1), .val (.int p2), .val (.int p3), .val (.int p4), .val (.int la), .val (.int lb), .val (.int ((p1 &&& (255 : Int32)).toUInt32.toUInt16.toUInt32.toInt32)), .val (.int ((p2 &&& (255 : Int32)).toUInt32.toUInt16.toUInt32.toInt32)), .val (.int cb0), .val (.int cb1), .val (.ref sb1), .val (.ref sb2), .val (.int ((p0 >>> ((7 : Int32) &&& 31)) &&& (3 : Int32))), .val (.ref b3), .val (.ref b6), .val (.int ex)] [(.ref b6), (.ref b3)])
        obtain ⟨cq8, kq8, q8a, q8b, q8c⟩ := isOf hZ2 rfl Ea4_x7
        obtain ⟨_, _, ⟨T8, L8, k8, n8⟩, -, X8, ⟨Lc8, hQ8, l8, y8, z8⟩, st8⟩ := X7.virtualBack hx (y := (⟨"com/example/drawdown/drawdown/input/TomlFloat", "equals", "(Ljava/lang/Object;)Z"⟩ : MethodName)) (z := (⟨"com/example/drawdown/drawdown/input/TomlFloat", "equals", "(Ljava/lang/Object;)Z"⟩ : MethodName)) hown2 (mvT hZ2 (hw _ (List.mem_of_getElem? (i := 35) rfl))) (mvT hZ2 (hw _ (List.mem_of_getElem? (i := 36) rfl))) (notFace_of_selects (args := #[]) (mvT hZ2 (hw _ (List.mem_of_getElem? (i := 38) rfl)))) (mvT hZ2 (hw _ (List.mem_of_getElem? (i := 38) rfl))) (mvT hZ2 (hw _ (List.mem_of_getElem? (i := 37) rfl))) (by decide) (backOf (W := 0) (own_teq l Z a0 hw [] b3 b6 sb1 sb2 sy1 sy2 ks1 ks2 (own_ls la ((p1 &&& (255 : Int32)).toUInt32.toUInt16.toUInt32.toInt32) ((p2 &&& (255 : Int32)).toUInt32.toUInt16.toUInt32.toInt32)) (own_ls lb cb0 cb1) cs T7.heap n0 O0_x7 SC hcs Ea4_x7 Ft4_x7 Ea7 Ft7 Es1_x7 Fv1_x7 Fc1_x7 Vs1_x7 (own_lenok _ _ _) Es2_x7 Fv2_x7 Fc2_x7 Vs2_x7 (own_lenok _ _ _) ne2_sb1_sb2) hZ2 (hw _ (List.mem_of_getElem? (i := 39) rfl)) (hw _ (List.mem_of_getElem? (i := 28) rfl)) (by decide) (by decide)) q8a q8c (g := (mkF m 206 #[.val (.int p0), .val (.int p1), .val (.int p2), .val (.int p3), .val (.int p4), .val (.int la), .val (.int lb), .val (.int ((p1 &&& (255 : Int32)).toUInt32.toUInt16.toUInt32.toInt32)), .val (.int ((p2 &&& (255 : Int32)).toUInt32.toUInt16.toUInt32.toInt32)), .val (.int cb0), .val (.int cb1), .val (.ref sb1), .val (.ref sb2), .val (.int ((p0 >>> ((7 : Int32) &&& 31)) &&& (3 : Int32))), .val (.ref b3), .val (.ref b6), .val (.int ex)] [(.ref b6), (.ref b3)])) rfl (by rw [hml]; rfl) (Steps.refl _) (argsL := [(.ref b6)]) (rest := []) (lenOf own_pd1 rfl) rfl (by show 2 * 0 + _ ≤ _; exact Nat.le_of_eq rfl) (hb hby at_206) (fun _ _ => ⟨rfl, rfl, (by decide : 18 + 0 ≤ _), (by decide : 34 + 0 ≤ _)⟩)
        dsimp only [Pt.U, Pt.locs, Pt.cells, Pt.slots] at X8 l8 y8 z8 st8 hQ8
        subst l8 y8 z8
        obtain ⟨rfl, N8q, hh8⟩ := hQ8
        have N8 := Fr.app N7 N8q
        refine own_st (fun _ kt => st8.trans kt) ?_
        show own_Rch p e below _ T8 (mkF m 209 #[.val (.int p0), .val (.int p1), .val (.int p2), .val (.int p3), .val (.int p4), .val (.int la), .val (.int lb), .val (.int ((p1 &&& (255 : Int32)).toUInt32.toUInt16.toUInt32.toInt32)), .val (.int ((p2 &&& (255 : Int32)).toUInt32.toUInt16.toUInt32.toInt32)), .val (.int cb0), .val (.int cb1), .val (.ref sb1), .val (.ref sb2), .val (.int ((p0 >>> ((7 : Int32) &&& 31)) &&& (3 : Int32))), .val (.ref b3), .val (.ref b6), .val (.int ex)] [(.int (own_eqs (own_ls lb cb0 cb1) (own_ls la ((p1 &&& (255 : Int32)).toUInt32.toUInt16.toUInt32.toInt32) ((p2 &&& (255 : Int32)).toUInt32.toUInt16.toUInt32.toInt32))))])
        refine own_st (fun _ kt => XS.iload X8.here hx rfl (hb hby at_209) rfl  kt) ?_
        show own_Rch p e below _ T8 (mkF m 211 #[.val (.int p0), .val (.int p1), .val (.int p2), .val (.int p3), .val (.int p4), .val (.int la), .val (.int lb), .val (.int ((p1 &&& (255 : Int32)).toUInt32.toUInt16.toUInt32.toInt32)), .val (.int ((p2 &&& (255 : Int32)).toUInt32.toUInt16.toUInt32.toInt32)), .val (.int cb0), .val (.int cb1), .val (.ref sb1), .val (.ref sb2), .val (.int ((p0 >>> ((7 : Int32) &&& 31)) &&& (3 : Int32))), .val (.ref b3), .val (.ref b6), .val (.int ex)] [(.int ex), (.int (own_eqs (own_ls lb cb0 cb1) (own_ls la ((p1 &&& (255 : Int32)).toUInt32.toUInt16.toUInt32.toInt32) ((p2 &&& (255 : Int32)).toUInt32.toUInt16.toUInt32.toInt32))))])
        refine own_st (fun _ kt => XS.icmpNo X8.here hx rfl (hb hby at_211) rfl (teq ((own_eqc _ _).trans hex : (own_eqs (own_ls lb cb0 cb1) (own_ls la ((p1 &&& (255 : Int32)).toUInt32.toUInt16.toUInt32.toInt32) ((p2 &&& (255 : Int32)).toUInt32.toUInt16.toUInt32.toInt32))) = ex)).2 kt) ?_
        show own_Rch p e below _ T8 (mkF m 214 #[.val (.int p0), .val (.int p1), .val (.int p2), .val (.int p3), .val (.int p4), .val (.int la), .val (.int lb), .val (.int ((p1 &&& (255 : Int32)).toUInt32.toUInt16.toUInt32.toInt32)), .val (.int ((p2 &&& (255 : Int32)).toUInt32.toUInt16.toUInt32.toInt32)), .val (.int cb0), .val (.int cb1), .val (.ref sb1), .val (.ref sb2), .val (.int ((p0 >>> ((7 : Int32) &&& 31)) &&& (3 : Int32))), .val (.ref b3), .val (.ref b6), .val (.int ex)] [])
        refine own_st (fun _ kt => XS.aload X8.here hx rfl (hb hby at_214) rfl rfl  kt) ?_
        show own_Rch p e below _ T8 (mkF m 216 #[.val (.int p0), .val (.int p1), .val (.int p2), .val (.int p3), .val (.int p4), .val (.int la), .val (.int lb), .val (.int ((p1 &&& (255 : Int32)).toUInt32.toUInt16.toUInt32.toInt32)), .val (.int ((p2 &&& (255 : Int32)).toUInt32.toUInt16.toUInt32.toInt32)), .val (.int cb0), .val (.int cb1), .val (.ref sb1), .val (.ref sb2), .val (.int ((p0 >>> ((7 : Int32) &&& 31)) &&& (3 : Int32))), .val (.ref b3), .val (.ref b6), .val (.int ex)] [(.ref b6)])
        refine own_st (fun _ kt => XS.aload X8.here hx rfl (hb hby at_216) rfl rfl  kt) ?_
        show own_Rch p e below _ T8 (mkF m 218 #[.val (.int p0), .val (.int p1), .val (.int p2), .val (.int p3), .val (.int p4), .val (.int la), .val (.int lb), .val (.int ((p1 &&& (255 : Int32)).toUInt32.toUInt16.toUInt32.toInt32)), .val (.int ((p2 &&& (255 : Int32)).toUInt32.toUInt16.toUInt32.toInt32)), .val (.int cb0), .val (.int cb1), .val (.ref sb1), .val (.ref sb2), .val (.int ((p0 >>> ((7 : Int32) &&& 31)) &&& (3 : Int32))), .val (.ref b3), .val (.ref b6), .val (.int ex)] [(.ref b3), (.ref b6)])
        obtain ⟨cq9, kq9, q9a, q9b, q9c⟩ := isOf hZ2 hh8 Ea7
        obtain ⟨_, _, ⟨T9, L9, k9, n9⟩, -, X9, ⟨Lc9, hQ9, l9, y9, z9⟩, st9⟩ := X8.virtualBack hx (y := (⟨"com/example/drawdown/drawdown/input/TomlFloat", "equals", "(Ljava/lang/Object;)Z"⟩ : MethodName)) (z := (⟨"com/example/drawdown/drawdown/input/TomlFloat", "equals", "(Ljava/lang/Object;)Z"⟩ : MethodName)) hown2 (mvT hZ2 (hw _ (List.mem_of_getElem? (i := 35) rfl))) (mvT hZ2 (hw _ (List.mem_of_getElem? (i := 36) rfl))) (notFace_of_selects (args := #[]) (mvT hZ2 (hw _ (List.mem_of_getElem? (i := 38) rfl)))) (mvT hZ2 (hw _ (List.mem_of_getElem? (i := 38) rfl))) (mvT hZ2 (hw _ (List.mem_of_getElem? (i := 37) rfl))) (by decide) (backOf (W := 0) (own_teq l Z a0 hw [] b6 b3 sb2 sb1 sy2 sy1 ks2 ks1 (own_ls lb cb0 cb1) (own_ls la ((p1 &&& (255 : Int32)).toUInt32.toUInt16.toUInt32.toInt32) ((p2 &&& (255 : Int32)).toUInt32.toUInt16.toUInt32.toInt32)) cs T7.heap n0 O0_x7 SC hcs Ea7 Ft7 Ea4_x7 Ft4_x7 Es2_x7 Fv2_x7 Fc2_x7 Vs2_x7 (own_lenok _ _ _) Es1_x7 Fv1_x7 Fc1_x7 Vs1_x7 (own_lenok _ _ _) (Ne.symm ne2_sb1_sb2)) hZ2 (hw _ (List.mem_of_getElem? (i := 39) rfl)) (hw _ (List.mem_of_getElem? (i := 28) rfl)) (by decide) (by decide)) q9a q9c (g := (mkF m 218 #[.val (.int p0), .val (.int p1), .val (.int p2), .val (.int p3), .val (.int p4), .val (.int la), .val (.int lb), .val (.int ((p1 &&& (255 : Int32)).toUInt32.toUInt16.toUInt32.toInt32)), .val (.int ((p2 &&& (255 : Int32)).toUInt32.toUInt16.toUInt32.toInt32)), .val (.int cb0), .val (.int cb1), .val (.ref sb1), .val (.ref sb2), .val (.int ((p0 >>> ((7 : Int32) &&& 31)) &&& (3 : Int32))), .val (.ref b3), .val (.ref b6), .val (.int ex)] [(.ref b3), (.ref b6)])) rfl (by rw [hml]; rfl) (Steps.refl _) (argsL := [(.ref b3)]) (rest := []) (lenOf own_pd1 rfl) rfl (by show 2 * 0 + _ ≤ _; exact Nat.le_of_eq rfl) (hb hby at_218) (fun _ _ => ⟨rfl, hh8, (by decide : 18 + 0 ≤ _), (by decide : 34 + 0 ≤ _)⟩)
        dsimp only [Pt.U, Pt.locs, Pt.cells, Pt.slots] at X9 l9 y9 z9 st9 hQ9
        subst l9 y9 z9
        obtain ⟨rfl, N9q, hh9⟩ := hQ9
        have N9 := Fr.app N8 N9q
        refine own_st (fun _ kt => st9.trans kt) ?_
        show own_Rch p e below _ T9 (mkF m 221 #[.val (.int p0), .val (.int p1), .val (.int p2), .val (.int p3), .val (.int p4), .val (.int la), .val (.int lb), .val (.int ((p1 &&& (255 : Int32)).toUInt32.toUInt16.toUInt32.toInt32)), .val (.int ((p2 &&& (255 : Int32)).toUInt32.toUInt16.toUInt32.toInt32)), .val (.int cb0), .val (.int cb1), .val (.ref sb1), .val (.ref sb2), .val (.int ((p0 >>> ((7 : Int32) &&& 31)) &&& (3 : Int32))), .val (.ref b3), .val (.ref b6), .val (.int ex)] [(.int (own_eqs (own_ls la ((p1 &&& (255 : Int32)).toUInt32.toUInt16.toUInt32.toInt32) ((p2 &&& (255 : Int32)).toUInt32.toUInt16.toUInt32.toInt32)) (own_ls lb cb0 cb1)))])
        refine own_st (fun _ kt => XS.iload X9.here hx rfl (hb hby at_221) rfl  kt) ?_
        show own_Rch p e below _ T9 (mkF m 223 #[.val (.int p0), .val (.int p1), .val (.int p2), .val (.int p3), .val (.int p4), .val (.int la), .val (.int lb), .val (.int ((p1 &&& (255 : Int32)).toUInt32.toUInt16.toUInt32.toInt32)), .val (.int ((p2 &&& (255 : Int32)).toUInt32.toUInt16.toUInt32.toInt32)), .val (.int cb0), .val (.int cb1), .val (.ref sb1), .val (.ref sb2), .val (.int ((p0 >>> ((7 : Int32) &&& 31)) &&& (3 : Int32))), .val (.ref b3), .val (.ref b6), .val (.int ex)] [(.int ex), (.int (own_eqs (own_ls la ((p1 &&& (255 : Int32)).toUInt32.toUInt16.toUInt32.toInt32) ((p2 &&& (255 : Int32)).toUInt32.toUInt16.toUInt32.toInt32)) (own_ls lb cb0 cb1)))])
        refine own_st (fun _ kt => XS.icmpNo X9.here hx rfl (hb hby at_223) rfl (teq (hex : (own_eqs (own_ls la ((p1 &&& (255 : Int32)).toUInt32.toUInt16.toUInt32.toInt32) ((p2 &&& (255 : Int32)).toUInt32.toUInt16.toUInt32.toInt32)) (own_ls lb cb0 cb1)) = ex)).2 kt) ?_
        show own_Rch p e below _ T9 (mkF m 226 #[.val (.int p0), .val (.int p1), .val (.int p2), .val (.int p3), .val (.int p4), .val (.int la), .val (.int lb), .val (.int ((p1 &&& (255 : Int32)).toUInt32.toUInt16.toUInt32.toInt32)), .val (.int ((p2 &&& (255 : Int32)).toUInt32.toUInt16.toUInt32.toInt32)), .val (.int cb0), .val (.int cb1), .val (.ref sb1), .val (.ref sb2), .val (.int ((p0 >>> ((7 : Int32) &&& 31)) &&& (3 : Int32))), .val (.ref b3), .val (.ref b6), .val (.int ex)] [])
        refine own_st (fun _ kt => XS.iconst X9.here hx rfl (hb hby at_226) kt) ?_
        show own_Rch p e below _ T9 (mkF m 227 #[.val (.int p0), .val (.int p1), .val (.int p2), .val (.int p3), .val (.int p4), .val (.int la), .val (.int lb), .val (.int ((p1 &&& (255 : Int32)).toUInt32.toUInt16.toUInt32.toInt32)), .val (.int ((p2 &&& (255 : Int32)).toUInt32.toUInt16.toUInt32.toInt32)), .val (.int cb0), .val (.int cb1), .val (.ref sb1), .val (.ref sb2), .val (.int ((p0 >>> ((7 : Int32) &&& 31)) &&& (3 : Int32))), .val (.ref b3), .val (.ref b6), .val (.int ex)] [(.int (1 : Int32))])
        refine own_st (fun _ kt => XS.goto X9.here hx rfl (pc0 := 227) (pc' := 231) rfl (hb hby at_227) (by decide) (by decide) kt) ?_
        show own_Rch p e below _ T9 (mkF m 231 #[.val (.int p0), .val (.int p1), .val (.int p2), .val (.int p3), .val (.int p4), .val (.int la), .val (.int lb), .val (.int ((p1 &&& (255 : Int32)).toUInt32.toUInt16.toUInt32.toInt32)), .val (.int ((p2 &&& (255 : Int32)).toUInt32.toUInt16.toUInt32.toInt32)), .val (.int cb0), .val (.int cb1), .val (.ref sb1), .val (.ref sb2), .val (.int ((p0 >>> ((7 : Int32) &&& 31)) &&& (3 : Int32))), .val (.ref b3), .val (.ref b6), .val (.int ex)] [(.int (1 : Int32))])
        refine own_retNH (t := .boolean) (by simp) (by rw [hh0, hh9]; exact CR0_x7.trans (CHv.at (s := s) X9 hZ2 (own_hEL hw) CR0_x7.1)) (s := s) hS2 (by rw [hh9]; exact hkk7) X9 hx Bd.notSynchronized Bd.returns (hb hby at_231) (by decide) (by decide) ?_
        rw [hh9]
        exact ⟨rfl, N9⟩
      show own_Rch p e below _ T7 (mkF m 162 #[.val (.int p0), .val (.int p1), .val (.int p2), .val (.int p3), .val (.int p4), .val (.int la), .val (.int lb), .val (.int ((p1 &&& (255 : Int32)).toUInt32.toUInt16.toUInt32.toInt32)), .val (.int ((p2 &&& (255 : Int32)).toUInt32.toUInt16.toUInt32.toInt32)), .val (.int cb0), .val (.int cb1), .val (.ref sb1), .val (.ref sb2), .val (.int ((p0 >>> ((7 : Int32) &&& 31)) &&& (3 : Int32))), .val (.ref b3), .val (.ref b6), .unset] [])
      refine own_st (fun _ kt => XS.iload X7.here hx rfl (hb hby at_162) rfl  kt) ?_
      show own_Rch p e below _ T7 (mkF m 164 #[.val (.int p0), .val (.int p1), .val (.int p2), .val (.int p3), .val (.int p4), .val (.int la), .val (.int lb), .val (.int ((p1 &&& (255 : Int32)).toUInt32.toUInt16.toUInt32.toInt32)), .val (.int ((p2 &&& (255 : Int32)).toUInt32.toUInt16.toUInt32.toInt32)), .val (.int cb0), .val (.int cb1), .val (.ref sb1), .val (.ref sb2), .val (.int ((p0 >>> ((7 : Int32) &&& 31)) &&& (3 : Int32))), .val (.ref b3), .val (.ref b6), .unset] [(.int la)])
      refine own_st (fun _ kt => XS.iload X7.here hx rfl (hb hby at_164) rfl  kt) ?_
      show own_Rch p e below _ T7 (mkF m 166 #[.val (.int p0), .val (.int p1), .val (.int p2), .val (.int p3), .val (.int p4), .val (.int la), .val (.int lb), .val (.int ((p1 &&& (255 : Int32)).toUInt32.toUInt16.toUInt32.toInt32)), .val (.int ((p2 &&& (255 : Int32)).toUInt32.toUInt16.toUInt32.toInt32)), .val (.int cb0), .val (.int cb1), .val (.ref sb1), .val (.ref sb2), .val (.int ((p0 >>> ((7 : Int32) &&& 31)) &&& (3 : Int32))), .val (.ref b3), .val (.ref b6), .unset] [(.int lb), (.int la)])
      by_cases hc166_10 : la = lb
      · -- pc 166: True
        refine own_st (fun _ kt => XS.icmpNo X7.here hx rfl (hb hby at_166) rfl (teq hc166_10).2 kt) ?_
        show own_Rch p e below _ T7 (mkF m 169 #[.val (.int p0), .val (.int p1), .val (.int p2), .val (.int p3), .val (.int p4), .val (.int la), .val (.int lb), .val (.int ((p1 &&& (255 : Int32)).toUInt32.toUInt16.toUInt32.toInt32)), .val (.int ((p2 &&& (255 : Int32)).toUInt32.toUInt16.toUInt32.toInt32)), .val (.int cb0), .val (.int cb1), .val (.ref sb1), .val (.ref sb2), .val (.int ((p0 >>> ((7 : Int32) &&& 31)) &&& (3 : Int32))), .val (.ref b3), .val (.ref b6), .unset] [])
        refine own_st (fun _ kt => XS.iload X7.here hx rfl (hb hby at_169) rfl  kt) ?_
        show own_Rch p e below _ T7 (mkF m 171 #[.val (.int p0), .val (.int p1), .val (.int p2), .val (.int p3), .val (.int p4), .val (.int la), .val (.int lb), .val (.int ((p1 &&& (255 : Int32)).toUInt32.toUInt16.toUInt32.toInt32)), .val (.int ((p2 &&& (255 : Int32)).toUInt32.toUInt16.toUInt32.toInt32)), .val (.int cb0), .val (.int cb1), .val (.ref sb1), .val (.ref sb2), .val (.int ((p0 >>> ((7 : Int32) &&& 31)) &&& (3 : Int32))), .val (.ref b3), .val (.ref b6), .unset] [(.int la)])
        refine own_st (fun _ kt => XS.iconst X7.here hx rfl (hb hby at_171) kt) ?_
        show own_Rch p e below _ T7 (mkF m 172 #[.val (.int p0), .val (.int p1), .val (.int p2), .val (.int p3), .val (.int p4), .val (.int la), .val (.int lb), .val (.int ((p1 &&& (255 : Int32)).toUInt32.toUInt16.toUInt32.toInt32)), .val (.int ((p2 &&& (255 : Int32)).toUInt32.toUInt16.toUInt32.toInt32)), .val (.int cb0), .val (.int cb1), .val (.ref sb1), .val (.ref sb2), .val (.int ((p0 >>> ((7 : Int32) &&& 31)) &&& (3 : Int32))), .val (.ref b3), .val (.ref b6), .unset] [(.int (1 : Int32)), (.int la)])
        by_cases hc172_11 : la < (1 : Int32)
        · -- pc 172: True
          refine own_st (fun _ kt => XS.icmpYes X7.here hx rfl (pc0 := 172) (pc' := 182) rfl (hb hby at_172) rfl (tlt hc172_11).1 (by decide) (by decide) kt) ?_
          show own_Rch p e below _ T7 (mkF m 182 #[.val (.int p0), .val (.int p1), .val (.int p2), .val (.int p3), .val (.int p4), .val (.int la), .val (.int lb), .val (.int ((p1 &&& (255 : Int32)).toUInt32.toUInt16.toUInt32.toInt32)), .val (.int ((p2 &&& (255 : Int32)).toUInt32.toUInt16.toUInt32.toInt32)), .val (.int cb0), .val (.int cb1), .val (.ref sb1), .val (.ref sb2), .val (.int ((p0 >>> ((7 : Int32) &&& 31)) &&& (3 : Int32))), .val (.ref b3), .val (.ref b6), .unset] [])
          refine own_st (fun _ kt => XS.iload X7.here hx rfl (hb hby at_182) rfl  kt) ?_
          show own_Rch p e below _ T7 (mkF m 184 #[.val (.int p0), .val (.int p1), .val (.int p2), .val (.int p3), .val (.int p4), .val (.int la), .val (.int lb), .val (.int ((p1 &&& (255 : Int32)).toUInt32.toUInt16.toUInt32.toInt32)), .val (.int ((p2 &&& (255 : Int32)).toUInt32.toUInt16.toUInt32.toInt32)), .val (.int cb0), .val (.int cb1), .val (.ref sb1), .val (.ref sb2), .val (.int ((p0 >>> ((7 : Int32) &&& 31)) &&& (3 : Int32))), .val (.ref b3), .val (.ref b6), .unset] [(.int la)])
          refine own_st (fun _ kt => XS.iconst X7.here hx rfl (hb hby at_184) kt) ?_
          show own_Rch p e below _ T7 (mkF m 185 #[.val (.int p0), .val (.int p1), .val (.int p2), .val (.int p3), .val (.int p4), .val (.int la), .val (.int lb), .val (.int ((p1 &&& (255 : Int32)).toUInt32.toUInt16.toUInt32.toInt32)), .val (.int ((p2 &&& (255 : Int32)).toUInt32.toUInt16.toUInt32.toInt32)), .val (.int cb0), .val (.int cb1), .val (.ref sb1), .val (.ref sb2), .val (.int ((p0 >>> ((7 : Int32) &&& 31)) &&& (3 : Int32))), .val (.ref b3), .val (.ref b6), .unset] [(.int (2 : Int32)), (.int la)])
          by_cases hc185_12 : la < (2 : Int32)
          · -- pc 185: True
            refine own_st (fun _ kt => XS.icmpYes X7.here hx rfl (pc0 := 185) (pc' := 195) rfl (hb hby at_185) rfl (tlt hc185_12).1 (by decide) (by decide) kt) ?_
            show own_Rch p e below _ T7 (mkF m 195 #[.val (.int p0), .val (.int p1), .val (.int p2), .val (.int p3), .val (.int p4), .val (.int la), .val (.int lb), .val (.int ((p1 &&& (255 : Int32)).toUInt32.toUInt16.toUInt32.toInt32)), .val (.int ((p2 &&& (255 : Int32)).toUInt32.toUInt16.toUInt32.toInt32)), .val (.int cb0), .val (.int cb1), .val (.ref sb1), .val (.ref sb2), .val (.int ((p0 >>> ((7 : Int32) &&& 31)) &&& (3 : Int32))), .val (.ref b3), .val (.ref b6), .unset] [])
            refine own_st (fun _ kt => XS.iconst X7.here hx rfl (hb hby at_195) kt) ?_
            show own_Rch p e below _ T7 (mkF m 196 #[.val (.int p0), .val (.int p1), .val (.int p2), .val (.int p3), .val (.int p4), .val (.int la), .val (.int lb), .val (.int ((p1 &&& (255 : Int32)).toUInt32.toUInt16.toUInt32.toInt32)), .val (.int ((p2 &&& (255 : Int32)).toUInt32.toUInt16.toUInt32.toInt32)), .val (.int cb0), .val (.int cb1), .val (.ref sb1), .val (.ref sb2), .val (.int ((p0 >>> ((7 : Int32) &&& 31)) &&& (3 : Int32))), .val (.ref b3), .val (.ref b6), .unset] [(.int (1 : Int32))])
            refine own_st (fun _ kt => XS.goto X7.here hx rfl (pc0 := 196) (pc' := 200) rfl (hb hby at_196) (by decide) (by decide) kt) ?_
            exact c200 _ (own_eq1 ((own_eqiff hla hlb hA0 hA1 hB0 hB1).mpr ⟨hc166_10, Or.inl hc172_11, Or.inl hc185_12⟩))
          · -- pc 185: False
            refine own_st (fun _ kt => XS.icmpNo X7.here hx rfl (hb hby at_185) rfl (flt hc185_12).1 kt) ?_
            show own_Rch p e below _ T7 (mkF m 188 #[.val (.int p0), .val (.int p1), .val (.int p2), .val (.int p3), .val (.int p4), .val (.int la), .val (.int lb), .val (.int ((p1 &&& (255 : Int32)).toUInt32.toUInt16.toUInt32.toInt32)), .val (.int ((p2 &&& (255 : Int32)).toUInt32.toUInt16.toUInt32.toInt32)), .val (.int cb0), .val (.int cb1), .val (.ref sb1), .val (.ref sb2), .val (.int ((p0 >>> ((7 : Int32) &&& 31)) &&& (3 : Int32))), .val (.ref b3), .val (.ref b6), .unset] [])
            refine own_st (fun _ kt => XS.iload X7.here hx rfl (hb hby at_188) rfl  kt) ?_
            show own_Rch p e below _ T7 (mkF m 190 #[.val (.int p0), .val (.int p1), .val (.int p2), .val (.int p3), .val (.int p4), .val (.int la), .val (.int lb), .val (.int ((p1 &&& (255 : Int32)).toUInt32.toUInt16.toUInt32.toInt32)), .val (.int ((p2 &&& (255 : Int32)).toUInt32.toUInt16.toUInt32.toInt32)), .val (.int cb0), .val (.int cb1), .val (.ref sb1), .val (.ref sb2), .val (.int ((p0 >>> ((7 : Int32) &&& 31)) &&& (3 : Int32))), .val (.ref b3), .val (.ref b6), .unset] [(.int ((p2 &&& (255 : Int32)).toUInt32.toUInt16.toUInt32.toInt32))])
            refine own_st (fun _ kt => XS.iload X7.here hx rfl (hb hby at_190) rfl  kt) ?_
            show own_Rch p e below _ T7 (mkF m 192 #[.val (.int p0), .val (.int p1), .val (.int p2), .val (.int p3), .val (.int p4), .val (.int la), .val (.int lb), .val (.int ((p1 &&& (255 : Int32)).toUInt32.toUInt16.toUInt32.toInt32)), .val (.int ((p2 &&& (255 : Int32)).toUInt32.toUInt16.toUInt32.toInt32)), .val (.int cb0), .val (.int cb1), .val (.ref sb1), .val (.ref sb2), .val (.int ((p0 >>> ((7 : Int32) &&& 31)) &&& (3 : Int32))), .val (.ref b3), .val (.ref b6), .unset] [(.int cb1), (.int ((p2 &&& (255 : Int32)).toUInt32.toUInt16.toUInt32.toInt32))])
            by_cases hc192_13 : ((p2 &&& (255 : Int32)).toUInt32.toUInt16.toUInt32.toInt32) = cb1
            · -- pc 192: True
              refine own_st (fun _ kt => XS.icmpNo X7.here hx rfl (hb hby at_192) rfl (teq hc192_13).2 kt) ?_
              show own_Rch p e below _ T7 (mkF m 195 #[.val (.int p0), .val (.int p1), .val (.int p2), .val (.int p3), .val (.int p4), .val (.int la), .val (.int lb), .val (.int ((p1 &&& (255 : Int32)).toUInt32.toUInt16.toUInt32.toInt32)), .val (.int ((p2 &&& (255 : Int32)).toUInt32.toUInt16.toUInt32.toInt32)), .val (.int cb0), .val (.int cb1), .val (.ref sb1), .val (.ref sb2), .val (.int ((p0 >>> ((7 : Int32) &&& 31)) &&& (3 : Int32))), .val (.ref b3), .val (.ref b6), .unset] [])
              refine own_st (fun _ kt => XS.iconst X7.here hx rfl (hb hby at_195) kt) ?_
              show own_Rch p e below _ T7 (mkF m 196 #[.val (.int p0), .val (.int p1), .val (.int p2), .val (.int p3), .val (.int p4), .val (.int la), .val (.int lb), .val (.int ((p1 &&& (255 : Int32)).toUInt32.toUInt16.toUInt32.toInt32)), .val (.int ((p2 &&& (255 : Int32)).toUInt32.toUInt16.toUInt32.toInt32)), .val (.int cb0), .val (.int cb1), .val (.ref sb1), .val (.ref sb2), .val (.int ((p0 >>> ((7 : Int32) &&& 31)) &&& (3 : Int32))), .val (.ref b3), .val (.ref b6), .unset] [(.int (1 : Int32))])
              refine own_st (fun _ kt => XS.goto X7.here hx rfl (pc0 := 196) (pc' := 200) rfl (hb hby at_196) (by decide) (by decide) kt) ?_
              exact c200 _ (own_eq1 ((own_eqiff hla hlb hA0 hA1 hB0 hB1).mpr ⟨hc166_10, Or.inl hc172_11, Or.inr hc192_13⟩))
            · -- pc 192: False
              refine own_st (fun _ kt => XS.icmpYes X7.here hx rfl (pc0 := 192) (pc' := 199) rfl (hb hby at_192) rfl (feq hc192_13).2 (by decide) (by decide) kt) ?_
              show own_Rch p e below _ T7 (mkF m 199 #[.val (.int p0), .val (.int p1), .val (.int p2), .val (.int p3), .val (.int p4), .val (.int la), .val (.int lb), .val (.int ((p1 &&& (255 : Int32)).toUInt32.toUInt16.toUInt32.toInt32)), .val (.int ((p2 &&& (255 : Int32)).toUInt32.toUInt16.toUInt32.toInt32)), .val (.int cb0), .val (.int cb1), .val (.ref sb1), .val (.ref sb2), .val (.int ((p0 >>> ((7 : Int32) &&& 31)) &&& (3 : Int32))), .val (.ref b3), .val (.ref b6), .unset] [])
              refine own_st (fun _ kt => XS.iconst X7.here hx rfl (hb hby at_199) kt) ?_
              exact c200 _ (own_eq0 fun y => (((own_eqiff hla hlb hA0 hA1 hB0 hB1).mp y).2.2).elim hc185_12 hc192_13)
        · -- pc 172: False
          refine own_st (fun _ kt => XS.icmpNo X7.here hx rfl (hb hby at_172) rfl (flt hc172_11).1 kt) ?_
          show own_Rch p e below _ T7 (mkF m 175 #[.val (.int p0), .val (.int p1), .val (.int p2), .val (.int p3), .val (.int p4), .val (.int la), .val (.int lb), .val (.int ((p1 &&& (255 : Int32)).toUInt32.toUInt16.toUInt32.toInt32)), .val (.int ((p2 &&& (255 : Int32)).toUInt32.toUInt16.toUInt32.toInt32)), .val (.int cb0), .val (.int cb1), .val (.ref sb1), .val (.ref sb2), .val (.int ((p0 >>> ((7 : Int32) &&& 31)) &&& (3 : Int32))), .val (.ref b3), .val (.ref b6), .unset] [])
          refine own_st (fun _ kt => XS.iload X7.here hx rfl (hb hby at_175) rfl  kt) ?_
          show own_Rch p e below _ T7 (mkF m 177 #[.val (.int p0), .val (.int p1), .val (.int p2), .val (.int p3), .val (.int p4), .val (.int la), .val (.int lb), .val (.int ((p1 &&& (255 : Int32)).toUInt32.toUInt16.toUInt32.toInt32)), .val (.int ((p2 &&& (255 : Int32)).toUInt32.toUInt16.toUInt32.toInt32)), .val (.int cb0), .val (.int cb1), .val (.ref sb1), .val (.ref sb2), .val (.int ((p0 >>> ((7 : Int32) &&& 31)) &&& (3 : Int32))), .val (.ref b3), .val (.ref b6), .unset] [(.int ((p1 &&& (255 : Int32)).toUInt32.toUInt16.toUInt32.toInt32))])
          refine own_st (fun _ kt => XS.iload X7.here hx rfl (hb hby at_177) rfl  kt) ?_
          show own_Rch p e below _ T7 (mkF m 179 #[.val (.int p0), .val (.int p1), .val (.int p2), .val (.int p3), .val (.int p4), .val (.int la), .val (.int lb), .val (.int ((p1 &&& (255 : Int32)).toUInt32.toUInt16.toUInt32.toInt32)), .val (.int ((p2 &&& (255 : Int32)).toUInt32.toUInt16.toUInt32.toInt32)), .val (.int cb0), .val (.int cb1), .val (.ref sb1), .val (.ref sb2), .val (.int ((p0 >>> ((7 : Int32) &&& 31)) &&& (3 : Int32))), .val (.ref b3), .val (.ref b6), .unset] [(.int cb0), (.int ((p1 &&& (255 : Int32)).toUInt32.toUInt16.toUInt32.toInt32))])
          by_cases hc179_14 : ((p1 &&& (255 : Int32)).toUInt32.toUInt16.toUInt32.toInt32) = cb0
          · -- pc 179: True
            refine own_st (fun _ kt => XS.icmpNo X7.here hx rfl (hb hby at_179) rfl (teq hc179_14).2 kt) ?_
            show own_Rch p e below _ T7 (mkF m 182 #[.val (.int p0), .val (.int p1), .val (.int p2), .val (.int p3), .val (.int p4), .val (.int la), .val (.int lb), .val (.int ((p1 &&& (255 : Int32)).toUInt32.toUInt16.toUInt32.toInt32)), .val (.int ((p2 &&& (255 : Int32)).toUInt32.toUInt16.toUInt32.toInt32)), .val (.int cb0), .val (.int cb1), .val (.ref sb1), .val (.ref sb2), .val (.int ((p0 >>> ((7 : Int32) &&& 31)) &&& (3 : Int32))), .val (.ref b3), .val (.ref b6), .unset] [])
            refine own_st (fun _ kt => XS.iload X7.here hx rfl (hb hby at_182) rfl  kt) ?_
            show own_Rch p e below _ T7 (mkF m 184 #[.val (.int p0), .val (.int p1), .val (.int p2), .val (.int p3), .val (.int p4), .val (.int la), .val (.int lb), .val (.int ((p1 &&& (255 : Int32)).toUInt32.toUInt16.toUInt32.toInt32)), .val (.int ((p2 &&& (255 : Int32)).toUInt32.toUInt16.toUInt32.toInt32)), .val (.int cb0), .val (.int cb1), .val (.ref sb1), .val (.ref sb2), .val (.int ((p0 >>> ((7 : Int32) &&& 31)) &&& (3 : Int32))), .val (.ref b3), .val (.ref b6), .unset] [(.int la)])
            refine own_st (fun _ kt => XS.iconst X7.here hx rfl (hb hby at_184) kt) ?_
            show own_Rch p e below _ T7 (mkF m 185 #[.val (.int p0), .val (.int p1), .val (.int p2), .val (.int p3), .val (.int p4), .val (.int la), .val (.int lb), .val (.int ((p1 &&& (255 : Int32)).toUInt32.toUInt16.toUInt32.toInt32)), .val (.int ((p2 &&& (255 : Int32)).toUInt32.toUInt16.toUInt32.toInt32)), .val (.int cb0), .val (.int cb1), .val (.ref sb1), .val (.ref sb2), .val (.int ((p0 >>> ((7 : Int32) &&& 31)) &&& (3 : Int32))), .val (.ref b3), .val (.ref b6), .unset] [(.int (2 : Int32)), (.int la)])
            by_cases hc185_15 : la < (2 : Int32)
            · -- pc 185: True
              refine own_st (fun _ kt => XS.icmpYes X7.here hx rfl (pc0 := 185) (pc' := 195) rfl (hb hby at_185) rfl (tlt hc185_15).1 (by decide) (by decide) kt) ?_
              show own_Rch p e below _ T7 (mkF m 195 #[.val (.int p0), .val (.int p1), .val (.int p2), .val (.int p3), .val (.int p4), .val (.int la), .val (.int lb), .val (.int ((p1 &&& (255 : Int32)).toUInt32.toUInt16.toUInt32.toInt32)), .val (.int ((p2 &&& (255 : Int32)).toUInt32.toUInt16.toUInt32.toInt32)), .val (.int cb0), .val (.int cb1), .val (.ref sb1), .val (.ref sb2), .val (.int ((p0 >>> ((7 : Int32) &&& 31)) &&& (3 : Int32))), .val (.ref b3), .val (.ref b6), .unset] [])
              refine own_st (fun _ kt => XS.iconst X7.here hx rfl (hb hby at_195) kt) ?_
              show own_Rch p e below _ T7 (mkF m 196 #[.val (.int p0), .val (.int p1), .val (.int p2), .val (.int p3), .val (.int p4), .val (.int la), .val (.int lb), .val (.int ((p1 &&& (255 : Int32)).toUInt32.toUInt16.toUInt32.toInt32)), .val (.int ((p2 &&& (255 : Int32)).toUInt32.toUInt16.toUInt32.toInt32)), .val (.int cb0), .val (.int cb1), .val (.ref sb1), .val (.ref sb2), .val (.int ((p0 >>> ((7 : Int32) &&& 31)) &&& (3 : Int32))), .val (.ref b3), .val (.ref b6), .unset] [(.int (1 : Int32))])
              refine own_st (fun _ kt => XS.goto X7.here hx rfl (pc0 := 196) (pc' := 200) rfl (hb hby at_196) (by decide) (by decide) kt) ?_
              exact c200 _ (own_eq1 ((own_eqiff hla hlb hA0 hA1 hB0 hB1).mpr ⟨hc166_10, Or.inr hc179_14, Or.inl hc185_15⟩))
            · -- pc 185: False
              refine own_st (fun _ kt => XS.icmpNo X7.here hx rfl (hb hby at_185) rfl (flt hc185_15).1 kt) ?_
              show own_Rch p e below _ T7 (mkF m 188 #[.val (.int p0), .val (.int p1), .val (.int p2), .val (.int p3), .val (.int p4), .val (.int la), .val (.int lb), .val (.int ((p1 &&& (255 : Int32)).toUInt32.toUInt16.toUInt32.toInt32)), .val (.int ((p2 &&& (255 : Int32)).toUInt32.toUInt16.toUInt32.toInt32)), .val (.int cb0), .val (.int cb1), .val (.ref sb1), .val (.ref sb2), .val (.int ((p0 >>> ((7 : Int32) &&& 31)) &&& (3 : Int32))), .val (.ref b3), .val (.ref b6), .unset] [])
              refine own_st (fun _ kt => XS.iload X7.here hx rfl (hb hby at_188) rfl  kt) ?_
              show own_Rch p e below _ T7 (mkF m 190 #[.val (.int p0), .val (.int p1), .val (.int p2), .val (.int p3), .val (.int p4), .val (.int la), .val (.int lb), .val (.int ((p1 &&& (255 : Int32)).toUInt32.toUInt16.toUInt32.toInt32)), .val (.int ((p2 &&& (255 : Int32)).toUInt32.toUInt16.toUInt32.toInt32)), .val (.int cb0), .val (.int cb1), .val (.ref sb1), .val (.ref sb2), .val (.int ((p0 >>> ((7 : Int32) &&& 31)) &&& (3 : Int32))), .val (.ref b3), .val (.ref b6), .unset] [(.int ((p2 &&& (255 : Int32)).toUInt32.toUInt16.toUInt32.toInt32))])
              refine own_st (fun _ kt => XS.iload X7.here hx rfl (hb hby at_190) rfl  kt) ?_
              show own_Rch p e below _ T7 (mkF m 192 #[.val (.int p0), .val (.int p1), .val (.int p2), .val (.int p3), .val (.int p4), .val (.int la), .val (.int lb), .val (.int ((p1 &&& (255 : Int32)).toUInt32.toUInt16.toUInt32.toInt32)), .val (.int ((p2 &&& (255 : Int32)).toUInt32.toUInt16.toUInt32.toInt32)), .val (.int cb0), .val (.int cb1), .val (.ref sb1), .val (.ref sb2), .val (.int ((p0 >>> ((7 : Int32) &&& 31)) &&& (3 : Int32))), .val (.ref b3), .val (.ref b6), .unset] [(.int cb1), (.int ((p2 &&& (255 : Int32)).toUInt32.toUInt16.toUInt32.toInt32))])
              by_cases hc192_16 : ((p2 &&& (255 : Int32)).toUInt32.toUInt16.toUInt32.toInt32) = cb1
              · -- pc 192: True
                refine own_st (fun _ kt => XS.icmpNo X7.here hx rfl (hb hby at_192) rfl (teq hc192_16).2 kt) ?_
                show own_Rch p e below _ T7 (mkF m 195 #[.val (.int p0), .val (.int p1), .val (.int p2), .val (.int p3), .val (.int p4), .val (.int la), .val (.int lb), .val (.int ((p1 &&& (255 : Int32)).toUInt32.toUInt16.toUInt32.toInt32)), .val (.int ((p2 &&& (255 : Int32)).toUInt32.toUInt16.toUInt32.toInt32)), .val (.int cb0), .val (.int cb1), .val (.ref sb1), .val (.ref sb2), .val (.int ((p0 >>> ((7 : Int32) &&& 31)) &&& (3 : Int32))), .val (.ref b3), .val (.ref b6), .unset] [])
                refine own_st (fun _ kt => XS.iconst X7.here hx rfl (hb hby at_195) kt) ?_
                show own_Rch p e below _ T7 (mkF m 196 #[.val (.int p0), .val (.int p1), .val (.int p2), .val (.int p3), .val (.int p4), .val (.int la), .val (.int lb), .val (.int ((p1 &&& (255 : Int32)).toUInt32.toUInt16.toUInt32.toInt32)), .val (.int ((p2 &&& (255 : Int32)).toUInt32.toUInt16.toUInt32.toInt32)), .val (.int cb0), .val (.int cb1), .val (.ref sb1), .val (.ref sb2), .val (.int ((p0 >>> ((7 : Int32) &&& 31)) &&& (3 : Int32))), .val (.ref b3), .val (.ref b6), .unset] [(.int (1 : Int32))])
                refine own_st (fun _ kt => XS.goto X7.here hx rfl (pc0 := 196) (pc' := 200) rfl (hb hby at_196) (by decide) (by decide) kt) ?_
                exact c200 _ (own_eq1 ((own_eqiff hla hlb hA0 hA1 hB0 hB1).mpr ⟨hc166_10, Or.inr hc179_14, Or.inr hc192_16⟩))
              · -- pc 192: False
                refine own_st (fun _ kt => XS.icmpYes X7.here hx rfl (pc0 := 192) (pc' := 199) rfl (hb hby at_192) rfl (feq hc192_16).2 (by decide) (by decide) kt) ?_
                show own_Rch p e below _ T7 (mkF m 199 #[.val (.int p0), .val (.int p1), .val (.int p2), .val (.int p3), .val (.int p4), .val (.int la), .val (.int lb), .val (.int ((p1 &&& (255 : Int32)).toUInt32.toUInt16.toUInt32.toInt32)), .val (.int ((p2 &&& (255 : Int32)).toUInt32.toUInt16.toUInt32.toInt32)), .val (.int cb0), .val (.int cb1), .val (.ref sb1), .val (.ref sb2), .val (.int ((p0 >>> ((7 : Int32) &&& 31)) &&& (3 : Int32))), .val (.ref b3), .val (.ref b6), .unset] [])
                refine own_st (fun _ kt => XS.iconst X7.here hx rfl (hb hby at_199) kt) ?_
                exact c200 _ (own_eq0 fun y => (((own_eqiff hla hlb hA0 hA1 hB0 hB1).mp y).2.2).elim hc185_15 hc192_16)
          · -- pc 179: False
            refine own_st (fun _ kt => XS.icmpYes X7.here hx rfl (pc0 := 179) (pc' := 199) rfl (hb hby at_179) rfl (feq hc179_14).2 (by decide) (by decide) kt) ?_
            show own_Rch p e below _ T7 (mkF m 199 #[.val (.int p0), .val (.int p1), .val (.int p2), .val (.int p3), .val (.int p4), .val (.int la), .val (.int lb), .val (.int ((p1 &&& (255 : Int32)).toUInt32.toUInt16.toUInt32.toInt32)), .val (.int ((p2 &&& (255 : Int32)).toUInt32.toUInt16.toUInt32.toInt32)), .val (.int cb0), .val (.int cb1), .val (.ref sb1), .val (.ref sb2), .val (.int ((p0 >>> ((7 : Int32) &&& 31)) &&& (3 : Int32))), .val (.ref b3), .val (.ref b6), .unset] [])
            refine own_st (fun _ kt => XS.iconst X7.here hx rfl (hb hby at_199) kt) ?_
            exact c200 _ (own_eq0 fun y => (((own_eqiff hla hlb hA0 hA1 hB0 hB1).mp y).2.1).elim hc172_11 hc179_14)
      · -- pc 166: False
        refine own_st (fun _ kt => XS.icmpYes X7.here hx rfl (pc0 := 166) (pc' := 199) rfl (hb hby at_166) rfl (feq hc166_10).2 (by decide) (by decide) kt) ?_
        show own_Rch p e below _ T7 (mkF m 199 #[.val (.int p0), .val (.int p1), .val (.int p2), .val (.int p3), .val (.int p4), .val (.int la), .val (.int lb), .val (.int ((p1 &&& (255 : Int32)).toUInt32.toUInt16.toUInt32.toInt32)), .val (.int ((p2 &&& (255 : Int32)).toUInt32.toUInt16.toUInt32.toInt32)), .val (.int cb0), .val (.int cb1), .val (.ref sb1), .val (.ref sb2), .val (.int ((p0 >>> ((7 : Int32) &&& 31)) &&& (3 : Int32))), .val (.ref b3), .val (.ref b6), .unset] [])
        refine own_st (fun _ kt => XS.iconst X7.here hx rfl (hb hby at_199) kt) ?_
        exact c200 _ (own_eq0 fun y => hc166_10 ((own_eqiff hla hlb hA0 hA1 hB0 hB1).mp y).1)
    · -- pc 148: False
      refine own_st (fun _ kt => XS.ifYes X4.here hx rfl (pc0 := 148) (pc' := 232) rfl (hb hby at_148) rfl ((if0 _ _).trans (feq hc148_5).2) (by decide) (by decide) kt) ?_
      show own_Rch p e below _ T4 (mkF m 232 #[.val (.int p0), .val (.int p1), .val (.int p2), .val (.int p3), .val (.int p4), .val (.int la), .val (.int lb), .val (.int ((p1 &&& (255 : Int32)).toUInt32.toUInt16.toUInt32.toInt32)), .val (.int ((p2 &&& (255 : Int32)).toUInt32.toUInt16.toUInt32.toInt32)), .val (.int cb0), .val (.int cb1), .val (.ref sb1), .val (.ref sb2), .val (.int ((p0 >>> ((7 : Int32) &&& 31)) &&& (3 : Int32))), .val (.ref b3), .unset, .unset] [])
      refine own_st (fun _ kt => XS.iload X4.here hx rfl (hb hby at_232) rfl  kt) ?_
      show own_Rch p e below _ T4 (mkF m 234 #[.val (.int p0), .val (.int p1), .val (.int p2), .val (.int p3), .val (.int p4), .val (.int la), .val (.int lb), .val (.int ((p1 &&& (255 : Int32)).toUInt32.toUInt16.toUInt32.toInt32)), .val (.int ((p2 &&& (255 : Int32)).toUInt32.toUInt16.toUInt32.toInt32)), .val (.int cb0), .val (.int cb1), .val (.ref sb1), .val (.ref sb2), .val (.int ((p0 >>> ((7 : Int32) &&& 31)) &&& (3 : Int32))), .val (.ref b3), .unset, .unset] [(.int ((p0 >>> ((7 : Int32) &&& 31)) &&& (3 : Int32)))])
      refine own_st (fun _ kt => XS.iconst X4.here hx rfl (hb hby at_234) kt) ?_
      show own_Rch p e below _ T4 (mkF m 235 #[.val (.int p0), .val (.int p1), .val (.int p2), .val (.int p3), .val (.int p4), .val (.int la), .val (.int lb), .val (.int ((p1 &&& (255 : Int32)).toUInt32.toUInt16.toUInt32.toInt32)), .val (.int ((p2 &&& (255 : Int32)).toUInt32.toUInt16.toUInt32.toInt32)), .val (.int cb0), .val (.int cb1), .val (.ref sb1), .val (.ref sb2), .val (.int ((p0 >>> ((7 : Int32) &&& 31)) &&& (3 : Int32))), .val (.ref b3), .unset, .unset] [(.int (1 : Int32)), (.int ((p0 >>> ((7 : Int32) &&& 31)) &&& (3 : Int32)))])
      by_cases hc235_17 : ((p0 >>> ((7 : Int32) &&& 31)) &&& (3 : Int32)) = (1 : Int32)
      · -- pc 235: True
        refine own_st (fun _ kt => XS.icmpNo X4.here hx rfl (hb hby at_235) rfl (teq hc235_17).2 kt) ?_
        show own_Rch p e below _ T4 (mkF m 238 #[.val (.int p0), .val (.int p1), .val (.int p2), .val (.int p3), .val (.int p4), .val (.int la), .val (.int lb), .val (.int ((p1 &&& (255 : Int32)).toUInt32.toUInt16.toUInt32.toInt32)), .val (.int ((p2 &&& (255 : Int32)).toUInt32.toUInt16.toUInt32.toInt32)), .val (.int cb0), .val (.int cb1), .val (.ref sb1), .val (.ref sb2), .val (.int ((p0 >>> ((7 : Int32) &&& 31)) &&& (3 : Int32))), .val (.ref b3), .unset, .unset] [])
        refine own_st (fun _ kt => XS.aload X4.here hx rfl (hb hby at_238) rfl rfl  kt) ?_
        show own_Rch p e below _ T4 (mkF m 240 #[.val (.int p0), .val (.int p1), .val (.int p2), .val (.int p3), .val (.int p4), .val (.int la), .val (.int lb), .val (.int ((p1 &&& (255 : Int32)).toUInt32.toUInt16.toUInt32.toInt32)), .val (.int ((p2 &&& (255 : Int32)).toUInt32.toUInt16.toUInt32.toInt32)), .val (.int cb0), .val (.int cb1), .val (.ref sb1), .val (.ref sb2), .val (.int ((p0 >>> ((7 : Int32) &&& 31)) &&& (3 : Int32))), .val (.ref b3), .unset, .unset] [(.ref b3)])
        refine own_st (fun _ kt => XS.aconstNull X4.here hx rfl (hb hby at_240) kt) ?_
        show own_Rch p e below _ T4 (mkF m 241 #[.val (.int p0), .val (.int p1), .val (.int p2), .val (.int p3), .val (.int p4), .val (.int la), .val (.int lb), .val (.int ((p1 &&& (255 : Int32)).toUInt32.toUInt16.toUInt32.toInt32)), .val (.int ((p2 &&& (255 : Int32)).toUInt32.toUInt16.toUInt32.toInt32)), .val (.int cb0), .val (.int cb1), .val (.ref sb1), .val (.ref sb2), .val (.int ((p0 >>> ((7 : Int32) &&& 31)) &&& (3 : Int32))), .val (.ref b3), .unset, .unset] [.null, (.ref b3)])
        obtain ⟨cq18, kq18, q18a, q18b, q18c⟩ := isOf hZ2 rfl Ea4
        obtain ⟨_, _, ⟨T18, L18, k18, n18⟩, -, X18, ⟨Lc18, hQ18, l18, y18, z18⟩, st18⟩ := X4.virtualBack hx (y := (⟨"com/example/drawdown/drawdown/input/TomlFloat", "equals", "(Ljava/lang/Object;)Z"⟩ : MethodName)) (z := (⟨"com/example/drawdown/drawdown/input/TomlFloat", "equals", "(Ljava/lang/Object;)Z"⟩ : MethodName)) hown2 (mvT hZ2 (hw _ (List.mem_of_getElem? (i := 35) rfl))) (mvT hZ2 (hw _ (List.mem_of_getElem? (i := 36) rfl))) (notFace_of_selects (args := #[]) (mvT hZ2 (hw _ (List.mem_of_getElem? (i := 38) rfl)))) (mvT hZ2 (hw _ (List.mem_of_getElem? (i := 38) rfl))) (mvT hZ2 (hw _ (List.mem_of_getElem? (i := 37) rfl))) (by decide) (backOf (W := 0) (own_tnull l Z a0 hw [] b3 T4.heap n0 O0_x4 ) hZ2 (hw _ (List.mem_of_getElem? (i := 39) rfl)) (hw _ (List.mem_of_getElem? (i := 28) rfl)) (by decide) (by decide)) q18a q18c (g := (mkF m 241 #[.val (.int p0), .val (.int p1), .val (.int p2), .val (.int p3), .val (.int p4), .val (.int la), .val (.int lb), .val (.int ((p1 &&& (255 : Int32)).toUInt32.toUInt16.toUInt32.toInt32)), .val (.int ((p2 &&& (255 : Int32)).toUInt32.toUInt16.toUInt32.toInt32)), .val (.int cb0), .val (.int cb1), .val (.ref sb1), .val (.ref sb2), .val (.int ((p0 >>> ((7 : Int32) &&& 31)) &&& (3 : Int32))), .val (.ref b3), .unset, .unset] [.null, (.ref b3)])) rfl (by rw [hml]; rfl) (Steps.refl _) (argsL := [.null]) (rest := []) (lenOf own_pd1 rfl) rfl (by show 2 * 0 + _ ≤ _; exact Nat.le_of_eq rfl) (hb hby at_241) (fun _ _ => ⟨rfl, rfl, (by decide : 17 + 0 ≤ _), (by decide : 33 + 0 ≤ _)⟩)
        dsimp only [Pt.U, Pt.locs, Pt.cells, Pt.slots] at X18 l18 y18 z18 st18 hQ18
        subst l18 y18 z18
        obtain ⟨rfl, N18q, hh18⟩ := hQ18
        have N18 := Fr.app N4 N18q
        refine own_st (fun _ kt => st18.trans kt) ?_
        show own_Rch p e below _ T18 (mkF m 244 #[.val (.int p0), .val (.int p1), .val (.int p2), .val (.int p3), .val (.int p4), .val (.int la), .val (.int lb), .val (.int ((p1 &&& (255 : Int32)).toUInt32.toUInt16.toUInt32.toInt32)), .val (.int ((p2 &&& (255 : Int32)).toUInt32.toUInt16.toUInt32.toInt32)), .val (.int cb0), .val (.int cb1), .val (.ref sb1), .val (.ref sb2), .val (.int ((p0 >>> ((7 : Int32) &&& 31)) &&& (3 : Int32))), .val (.ref b3), .unset, .unset] [(.int (0 : Int32))])
        refine own_st (fun _ kt => XS.ifNo X18.here hx rfl (hb hby at_244) rfl ((if0 _ _).trans (teq (rfl : (0 : Int32) = (0 : Int32))).2) kt) ?_
        show own_Rch p e below _ T18 (mkF m 247 #[.val (.int p0), .val (.int p1), .val (.int p2), .val (.int p3), .val (.int p4), .val (.int la), .val (.int lb), .val (.int ((p1 &&& (255 : Int32)).toUInt32.toUInt16.toUInt32.toInt32)), .val (.int ((p2 &&& (255 : Int32)).toUInt32.toUInt16.toUInt32.toInt32)), .val (.int cb0), .val (.int cb1), .val (.ref sb1), .val (.ref sb2), .val (.int ((p0 >>> ((7 : Int32) &&& 31)) &&& (3 : Int32))), .val (.ref b3), .unset, .unset] [])
        refine own_st (fun _ kt => XS.iconst X18.here hx rfl (hb hby at_247) kt) ?_
        show own_Rch p e below _ T18 (mkF m 248 #[.val (.int p0), .val (.int p1), .val (.int p2), .val (.int p3), .val (.int p4), .val (.int la), .val (.int lb), .val (.int ((p1 &&& (255 : Int32)).toUInt32.toUInt16.toUInt32.toInt32)), .val (.int ((p2 &&& (255 : Int32)).toUInt32.toUInt16.toUInt32.toInt32)), .val (.int cb0), .val (.int cb1), .val (.ref sb1), .val (.ref sb2), .val (.int ((p0 >>> ((7 : Int32) &&& 31)) &&& (3 : Int32))), .val (.ref b3), .unset, .unset] [(.int (1 : Int32))])
        refine own_st (fun _ kt => XS.goto X18.here hx rfl (pc0 := 248) (pc' := 252) rfl (hb hby at_248) (by decide) (by decide) kt) ?_
        show own_Rch p e below _ T18 (mkF m 252 #[.val (.int p0), .val (.int p1), .val (.int p2), .val (.int p3), .val (.int p4), .val (.int la), .val (.int lb), .val (.int ((p1 &&& (255 : Int32)).toUInt32.toUInt16.toUInt32.toInt32)), .val (.int ((p2 &&& (255 : Int32)).toUInt32.toUInt16.toUInt32.toInt32)), .val (.int cb0), .val (.int cb1), .val (.ref sb1), .val (.ref sb2), .val (.int ((p0 >>> ((7 : Int32) &&& 31)) &&& (3 : Int32))), .val (.ref b3), .unset, .unset] [(.int (1 : Int32))])
        refine own_retNH (t := .boolean) (by simp) (by rw [hh0, hh18]; exact CR0_x4.trans (CHv.at (s := s) X18 hZ2 (own_hEL hw) CR0_x4.1)) (s := s) hS2 (by rw [hh18]; exact hkk4) X18 hx Bd.notSynchronized Bd.returns (hb hby at_252) (by decide) (by decide) ?_
        rw [hh18]
        exact ⟨rfl, N18⟩
      · -- pc 235: False
        refine own_st (fun _ kt => XS.icmpYes X4.here hx rfl (pc0 := 235) (pc' := 253) rfl (hb hby at_235) rfl (feq hc235_17).2 (by decide) (by decide) kt) ?_
        show own_Rch p e below _ T4 (mkF m 253 #[.val (.int p0), .val (.int p1), .val (.int p2), .val (.int p3), .val (.int p4), .val (.int la), .val (.int lb), .val (.int ((p1 &&& (255 : Int32)).toUInt32.toUInt16.toUInt32.toInt32)), .val (.int ((p2 &&& (255 : Int32)).toUInt32.toUInt16.toUInt32.toInt32)), .val (.int cb0), .val (.int cb1), .val (.ref sb1), .val (.ref sb2), .val (.int ((p0 >>> ((7 : Int32) &&& 31)) &&& (3 : Int32))), .val (.ref b3), .unset, .unset] [])
        refine own_st (fun _ kt => XS.iload X4.here hx rfl (hb hby at_253) rfl  kt) ?_
        show own_Rch p e below _ T4 (mkF m 255 #[.val (.int p0), .val (.int p1), .val (.int p2), .val (.int p3), .val (.int p4), .val (.int la), .val (.int lb), .val (.int ((p1 &&& (255 : Int32)).toUInt32.toUInt16.toUInt32.toInt32)), .val (.int ((p2 &&& (255 : Int32)).toUInt32.toUInt16.toUInt32.toInt32)), .val (.int cb0), .val (.int cb1), .val (.ref sb1), .val (.ref sb2), .val (.int ((p0 >>> ((7 : Int32) &&& 31)) &&& (3 : Int32))), .val (.ref b3), .unset, .unset] [(.int ((p0 >>> ((7 : Int32) &&& 31)) &&& (3 : Int32)))])
        refine own_st (fun _ kt => XS.iconst X4.here hx rfl (hb hby at_255) kt) ?_
        show own_Rch p e below _ T4 (mkF m 256 #[.val (.int p0), .val (.int p1), .val (.int p2), .val (.int p3), .val (.int p4), .val (.int la), .val (.int lb), .val (.int ((p1 &&& (255 : Int32)).toUInt32.toUInt16.toUInt32.toInt32)), .val (.int ((p2 &&& (255 : Int32)).toUInt32.toUInt16.toUInt32.toInt32)), .val (.int cb0), .val (.int cb1), .val (.ref sb1), .val (.ref sb2), .val (.int ((p0 >>> ((7 : Int32) &&& 31)) &&& (3 : Int32))), .val (.ref b3), .unset, .unset] [(.int (2 : Int32)), (.int ((p0 >>> ((7 : Int32) &&& 31)) &&& (3 : Int32)))])
        by_cases hc256_19 : ((p0 >>> ((7 : Int32) &&& 31)) &&& (3 : Int32)) = (2 : Int32)
        · -- pc 256: True
          refine own_st (fun _ kt => XS.icmpNo X4.here hx rfl (hb hby at_256) rfl (teq hc256_19).2 kt) ?_
          show own_Rch p e below _ T4 (mkF m 259 #[.val (.int p0), .val (.int p1), .val (.int p2), .val (.int p3), .val (.int p4), .val (.int la), .val (.int lb), .val (.int ((p1 &&& (255 : Int32)).toUInt32.toUInt16.toUInt32.toInt32)), .val (.int ((p2 &&& (255 : Int32)).toUInt32.toUInt16.toUInt32.toInt32)), .val (.int cb0), .val (.int cb1), .val (.ref sb1), .val (.ref sb2), .val (.int ((p0 >>> ((7 : Int32) &&& 31)) &&& (3 : Int32))), .val (.ref b3), .unset, .unset] [])
          refine own_st (fun _ kt => XS.aload X4.here hx rfl (hb hby at_259) rfl rfl  kt) ?_
          show own_Rch p e below _ T4 (mkF m 261 #[.val (.int p0), .val (.int p1), .val (.int p2), .val (.int p3), .val (.int p4), .val (.int la), .val (.int lb), .val (.int ((p1 &&& (255 : Int32)).toUInt32.toUInt16.toUInt32.toInt32)), .val (.int ((p2 &&& (255 : Int32)).toUInt32.toUInt16.toUInt32.toInt32)), .val (.int cb0), .val (.int cb1), .val (.ref sb1), .val (.ref sb2), .val (.int ((p0 >>> ((7 : Int32) &&& 31)) &&& (3 : Int32))), .val (.ref b3), .unset, .unset] [(.ref sb1)])
          refine own_st (fun _ kt => XS.astore X4.here hx rfl (hb hby at_261) rfl rfl (l' := #[.val (.int p0), .val (.int p1), .val (.int p2), .val (.int p3), .val (.int p4), .val (.int la), .val (.int lb), .val (.int ((p1 &&& (255 : Int32)).toUInt32.toUInt16.toUInt32.toInt32)), .val (.int ((p2 &&& (255 : Int32)).toUInt32.toUInt16.toUInt32.toInt32)), .val (.int cb0), .val (.int cb1), .val (.ref sb1), .val (.ref sb2), .val (.int ((p0 >>> ((7 : Int32) &&& 31)) &&& (3 : Int32))), .val (.ref b3), .val (.ref sb1), .unset]) rfl kt) ?_
          show own_Rch p e below _ T4 (mkF m 263 #[.val (.int p0), .val (.int p1), .val (.int p2), .val (.int p3), .val (.int p4), .val (.int la), .val (.int lb), .val (.int ((p1 &&& (255 : Int32)).toUInt32.toUInt16.toUInt32.toInt32)), .val (.int ((p2 &&& (255 : Int32)).toUInt32.toUInt16.toUInt32.toInt32)), .val (.int cb0), .val (.int cb1), .val (.ref sb1), .val (.ref sb2), .val (.int ((p0 >>> ((7 : Int32) &&& 31)) &&& (3 : Int32))), .val (.ref b3), .val (.ref sb1), .unset] [])
          refine own_st (fun _ kt => XS.aload X4.here hx rfl (hb hby at_263) rfl rfl  kt) ?_
          show own_Rch p e below _ T4 (mkF m 265 #[.val (.int p0), .val (.int p1), .val (.int p2), .val (.int p3), .val (.int p4), .val (.int la), .val (.int lb), .val (.int ((p1 &&& (255 : Int32)).toUInt32.toUInt16.toUInt32.toInt32)), .val (.int ((p2 &&& (255 : Int32)).toUInt32.toUInt16.toUInt32.toInt32)), .val (.int cb0), .val (.int cb1), .val (.ref sb1), .val (.ref sb2), .val (.int ((p0 >>> ((7 : Int32) &&& 31)) &&& (3 : Int32))), .val (.ref b3), .val (.ref sb1), .unset] [(.ref b3)])
          refine own_st (fun _ kt => XS.aload X4.here hx rfl (hb hby at_265) rfl rfl  kt) ?_
          show own_Rch p e below _ T4 (mkF m 267 #[.val (.int p0), .val (.int p1), .val (.int p2), .val (.int p3), .val (.int p4), .val (.int la), .val (.int lb), .val (.int ((p1 &&& (255 : Int32)).toUInt32.toUInt16.toUInt32.toInt32)), .val (.int ((p2 &&& (255 : Int32)).toUInt32.toUInt16.toUInt32.toInt32)), .val (.int cb0), .val (.int cb1), .val (.ref sb1), .val (.ref sb2), .val (.int ((p0 >>> ((7 : Int32) &&& 31)) &&& (3 : Int32))), .val (.ref b3), .val (.ref sb1), .unset] [(.ref sb1), (.ref b3)])
          obtain ⟨cq20, kq20, q20a, q20b, q20c⟩ := isOf hZ2 rfl Ea4
          obtain ⟨_, _, ⟨T20, L20, k20, n20⟩, -, X20, ⟨Lc20, hQ20, l20, y20, z20⟩, st20⟩ := X4.virtualBack hx (y := (⟨"com/example/drawdown/drawdown/input/TomlFloat", "equals", "(Ljava/lang/Object;)Z"⟩ : MethodName)) (z := (⟨"com/example/drawdown/drawdown/input/TomlFloat", "equals", "(Ljava/lang/Object;)Z"⟩ : MethodName)) hown2 (mvT hZ2 (hw _ (List.mem_of_getElem? (i := 35) rfl))) (mvT hZ2 (hw _ (List.mem_of_getElem? (i := 36) rfl))) (notFace_of_selects (args := #[]) (mvT hZ2 (hw _ (List.mem_of_getElem? (i := 38) rfl)))) (mvT hZ2 (hw _ (List.mem_of_getElem? (i := 38) rfl))) (mvT hZ2 (hw _ (List.mem_of_getElem? (i := 37) rfl))) (by decide) (backOf (W := 0) (own_tstr l Z a0 hw [] b3 sb1 T4.heap n0 O0_x4 Es1_x4) hZ2 (hw _ (List.mem_of_getElem? (i := 39) rfl)) (hw _ (List.mem_of_getElem? (i := 28) rfl)) (by decide) (by decide)) q20a q20c (g := (mkF m 267 #[.val (.int p0), .val (.int p1), .val (.int p2), .val (.int p3), .val (.int p4), .val (.int la), .val (.int lb), .val (.int ((p1 &&& (255 : Int32)).toUInt32.toUInt16.toUInt32.toInt32)), .val (.int ((p2 &&& (255 : Int32)).toUInt32.toUInt16.toUInt32.toInt32)), .val (.int cb0), .val (.int cb1), .val (.ref sb1), .val (.ref sb2), .val (.int ((p0 >>> ((7 : Int32) &&& 31)) &&& (3 : Int32))), .val (.ref b3), .val (.ref sb1), .unset] [(.ref sb1), (.ref b3)])) rfl (by rw [hml]; rfl) (Steps.refl _) (argsL := [(.ref sb1)]) (rest := []) (lenOf own_pd1 rfl) rfl (by show 2 * 0 + _ ≤ _; exact Nat.le_of_eq rfl) (hb hby at_267) (fun _ _ => ⟨rfl, rfl, (by decide : 17 + 0 ≤ _), (by decide : 33 + 0 ≤ _)⟩)
          dsimp only [Pt.U, Pt.locs, Pt.cells, Pt.slots] at X20 l20 y20 z20 st20 hQ20
          subst l20 y20 z20
          obtain ⟨rfl, N20q, hh20⟩ := hQ20
          have N20 := Fr.app N4 N20q
          refine own_st (fun _ kt => st20.trans kt) ?_
          show own_Rch p e below _ T20 (mkF m 270 #[.val (.int p0), .val (.int p1), .val (.int p2), .val (.int p3), .val (.int p4), .val (.int la), .val (.int lb), .val (.int ((p1 &&& (255 : Int32)).toUInt32.toUInt16.toUInt32.toInt32)), .val (.int ((p2 &&& (255 : Int32)).toUInt32.toUInt16.toUInt32.toInt32)), .val (.int cb0), .val (.int cb1), .val (.ref sb1), .val (.ref sb2), .val (.int ((p0 >>> ((7 : Int32) &&& 31)) &&& (3 : Int32))), .val (.ref b3), .val (.ref sb1), .unset] [(.int (0 : Int32))])
          refine own_st (fun _ kt => XS.ifNo X20.here hx rfl (hb hby at_270) rfl ((if0 _ _).trans (teq (rfl : (0 : Int32) = (0 : Int32))).2) kt) ?_
          show own_Rch p e below _ T20 (mkF m 273 #[.val (.int p0), .val (.int p1), .val (.int p2), .val (.int p3), .val (.int p4), .val (.int la), .val (.int lb), .val (.int ((p1 &&& (255 : Int32)).toUInt32.toUInt16.toUInt32.toInt32)), .val (.int ((p2 &&& (255 : Int32)).toUInt32.toUInt16.toUInt32.toInt32)), .val (.int cb0), .val (.int cb1), .val (.ref sb1), .val (.ref sb2), .val (.int ((p0 >>> ((7 : Int32) &&& 31)) &&& (3 : Int32))), .val (.ref b3), .val (.ref sb1), .unset] [])
          refine own_st (fun _ kt => XS.iconst X20.here hx rfl (hb hby at_273) kt) ?_
          show own_Rch p e below _ T20 (mkF m 274 #[.val (.int p0), .val (.int p1), .val (.int p2), .val (.int p3), .val (.int p4), .val (.int la), .val (.int lb), .val (.int ((p1 &&& (255 : Int32)).toUInt32.toUInt16.toUInt32.toInt32)), .val (.int ((p2 &&& (255 : Int32)).toUInt32.toUInt16.toUInt32.toInt32)), .val (.int cb0), .val (.int cb1), .val (.ref sb1), .val (.ref sb2), .val (.int ((p0 >>> ((7 : Int32) &&& 31)) &&& (3 : Int32))), .val (.ref b3), .val (.ref sb1), .unset] [(.int (1 : Int32))])
          refine own_st (fun _ kt => XS.goto X20.here hx rfl (pc0 := 274) (pc' := 278) rfl (hb hby at_274) (by decide) (by decide) kt) ?_
          show own_Rch p e below _ T20 (mkF m 278 #[.val (.int p0), .val (.int p1), .val (.int p2), .val (.int p3), .val (.int p4), .val (.int la), .val (.int lb), .val (.int ((p1 &&& (255 : Int32)).toUInt32.toUInt16.toUInt32.toInt32)), .val (.int ((p2 &&& (255 : Int32)).toUInt32.toUInt16.toUInt32.toInt32)), .val (.int cb0), .val (.int cb1), .val (.ref sb1), .val (.ref sb2), .val (.int ((p0 >>> ((7 : Int32) &&& 31)) &&& (3 : Int32))), .val (.ref b3), .val (.ref sb1), .unset] [(.int (1 : Int32))])
          refine own_retNH (t := .boolean) (by simp) (by rw [hh0, hh20]; exact CR0_x4.trans (CHv.at (s := s) X20 hZ2 (own_hEL hw) CR0_x4.1)) (s := s) hS2 (by rw [hh20]; exact hkk4) X20 hx Bd.notSynchronized Bd.returns (hb hby at_278) (by decide) (by decide) ?_
          rw [hh20]
          exact ⟨rfl, N20⟩
        · -- pc 256: False
          refine own_st (fun _ kt => XS.icmpYes X4.here hx rfl (pc0 := 256) (pc' := 279) rfl (hb hby at_256) rfl (feq hc256_19).2 (by decide) (by decide) kt) ?_
          show own_Rch p e below _ T4 (mkF m 279 #[.val (.int p0), .val (.int p1), .val (.int p2), .val (.int p3), .val (.int p4), .val (.int la), .val (.int lb), .val (.int ((p1 &&& (255 : Int32)).toUInt32.toUInt16.toUInt32.toInt32)), .val (.int ((p2 &&& (255 : Int32)).toUInt32.toUInt16.toUInt32.toInt32)), .val (.int cb0), .val (.int cb1), .val (.ref sb1), .val (.ref sb2), .val (.int ((p0 >>> ((7 : Int32) &&& 31)) &&& (3 : Int32))), .val (.ref b3), .unset, .unset] [])
          refine own_st (fun _ kt => XS.aload X4.here hx rfl (hb hby at_279) rfl rfl  kt) ?_
          show own_Rch p e below _ T4 (mkF m 281 #[.val (.int p0), .val (.int p1), .val (.int p2), .val (.int p3), .val (.int p4), .val (.int la), .val (.int lb), .val (.int ((p1 &&& (255 : Int32)).toUInt32.toUInt16.toUInt32.toInt32)), .val (.int ((p2 &&& (255 : Int32)).toUInt32.toUInt16.toUInt32.toInt32)), .val (.int cb0), .val (.int cb1), .val (.ref sb1), .val (.ref sb2), .val (.int ((p0 >>> ((7 : Int32) &&& 31)) &&& (3 : Int32))), .val (.ref b3), .unset, .unset] [(.ref b3)])
          refine own_st (fun _ kt => XS.aload X4.here hx rfl (hb hby at_281) rfl rfl  kt) ?_
          show own_Rch p e below _ T4 (mkF m 283 #[.val (.int p0), .val (.int p1), .val (.int p2), .val (.int p3), .val (.int p4), .val (.int la), .val (.int lb), .val (.int ((p1 &&& (255 : Int32)).toUInt32.toUInt16.toUInt32.toInt32)), .val (.int ((p2 &&& (255 : Int32)).toUInt32.toUInt16.toUInt32.toInt32)), .val (.int cb0), .val (.int cb1), .val (.ref sb1), .val (.ref sb2), .val (.int ((p0 >>> ((7 : Int32) &&& 31)) &&& (3 : Int32))), .val (.ref b3), .unset, .unset] [(.ref b3), (.ref b3)])
          obtain ⟨cq21, kq21, q21a, q21b, q21c⟩ := isOf hZ2 rfl Ea4
          obtain ⟨_, _, ⟨T21, L21, k21, n21⟩, -, X21, ⟨Lc21, hQ21, l21, y21, z21⟩, st21⟩ := X4.virtualBack hx (y := (⟨"com/example/drawdown/drawdown/input/TomlFloat", "equals", "(Ljava/lang/Object;)Z"⟩ : MethodName)) (z := (⟨"com/example/drawdown/drawdown/input/TomlFloat", "equals", "(Ljava/lang/Object;)Z"⟩ : MethodName)) hown2 (mvT hZ2 (hw _ (List.mem_of_getElem? (i := 35) rfl))) (mvT hZ2 (hw _ (List.mem_of_getElem? (i := 36) rfl))) (notFace_of_selects (args := #[]) (mvT hZ2 (hw _ (List.mem_of_getElem? (i := 38) rfl)))) (mvT hZ2 (hw _ (List.mem_of_getElem? (i := 38) rfl))) (mvT hZ2 (hw _ (List.mem_of_getElem? (i := 37) rfl))) (by decide) (backOf (W := 0) (own_tself l Z a0 hw [] b3 sb1 T4.heap n0 O0_x4 Ea4 Ft4 Es1_x4) hZ2 (hw _ (List.mem_of_getElem? (i := 39) rfl)) (hw _ (List.mem_of_getElem? (i := 28) rfl)) (by decide) (by decide)) q21a q21c (g := (mkF m 283 #[.val (.int p0), .val (.int p1), .val (.int p2), .val (.int p3), .val (.int p4), .val (.int la), .val (.int lb), .val (.int ((p1 &&& (255 : Int32)).toUInt32.toUInt16.toUInt32.toInt32)), .val (.int ((p2 &&& (255 : Int32)).toUInt32.toUInt16.toUInt32.toInt32)), .val (.int cb0), .val (.int cb1), .val (.ref sb1), .val (.ref sb2), .val (.int ((p0 >>> ((7 : Int32) &&& 31)) &&& (3 : Int32))), .val (.ref b3), .unset, .unset] [(.ref b3), (.ref b3)])) rfl (by rw [hml]; rfl) (Steps.refl _) (argsL := [(.ref b3)]) (rest := []) (lenOf own_pd1 rfl) rfl (by show 2 * 0 + _ ≤ _; exact Nat.le_of_eq rfl) (hb hby at_283) (fun _ _ => ⟨rfl, rfl, (by decide : 17 + 0 ≤ _), (by decide : 33 + 0 ≤ _)⟩)
          dsimp only [Pt.U, Pt.locs, Pt.cells, Pt.slots] at X21 l21 y21 z21 st21 hQ21
          subst l21 y21 z21
          obtain ⟨rfl, N21q, hh21⟩ := hQ21
          have N21 := Fr.app N4 N21q
          refine own_st (fun _ kt => st21.trans kt) ?_
          show own_Rch p e below _ T21 (mkF m 286 #[.val (.int p0), .val (.int p1), .val (.int p2), .val (.int p3), .val (.int p4), .val (.int la), .val (.int lb), .val (.int ((p1 &&& (255 : Int32)).toUInt32.toUInt16.toUInt32.toInt32)), .val (.int ((p2 &&& (255 : Int32)).toUInt32.toUInt16.toUInt32.toInt32)), .val (.int cb0), .val (.int cb1), .val (.ref sb1), .val (.ref sb2), .val (.int ((p0 >>> ((7 : Int32) &&& 31)) &&& (3 : Int32))), .val (.ref b3), .unset, .unset] [(.int (1 : Int32))])
          refine own_retNH (t := .boolean) (by simp) (by rw [hh0, hh21]; exact CR0_x4.trans (CHv.at (s := s) X21 hZ2 (own_hEL hw) CR0_x4.1)) (s := s) hS2 (by rw [hh21]; exact hkk4) X21 hx Bd.notSynchronized Bd.returns (hb hby at_286) (by decide) (by decide) ?_
          rw [hh21]
          exact ⟨rfl, N21⟩
  have c80 : ∀ (la lb cb0 : Int32) (hla : la = 0 ∨ la = 1 ∨ la = 2) (hlb : lb = 0 ∨ lb = 1 ∨ lb = 2) (hB0 : own_ch cb0), own_Rch p e below (own_EndH Z consts_1 s below (own_Q_own_rm0 Z p0 p1 p2 p3 p4 cs h0 n0) (room_1).cells (room_1).slots) s₁ (mkF m 80 #[.val (.int p0), .val (.int p1), .val (.int p2), .val (.int p3), .val (.int p4), .val (.int la), .val (.int lb), .val (.int ((p1 &&& (255 : Int32)).toUInt32.toUInt16.toUInt32.toInt32)), .val (.int ((p2 &&& (255 : Int32)).toUInt32.toUInt16.toUInt32.toInt32)), .unset, .unset, .unset, .unset, .unset, .unset, .unset, .unset] [(.int cb0)]) := by
    intro la lb cb0 hla hlb hB0
    show own_Rch p e below _ s₁ (mkF m 80 #[.val (.int p0), .val (.int p1), .val (.int p2), .val (.int p3), .val (.int p4), .val (.int la), .val (.int lb), .val (.int ((p1 &&& (255 : Int32)).toUInt32.toUInt16.toUInt32.toInt32)), .val (.int ((p2 &&& (255 : Int32)).toUInt32.toUInt16.toUInt32.toInt32)), .unset, .unset, .unset, .unset, .unset, .unset, .unset, .unset] [(.int cb0)])
    refine own_st (fun _ kt => XS.istore X0.here hx rfl (hb hby at_80) rfl (l' := #[.val (.int p0), .val (.int p1), .val (.int p2), .val (.int p3), .val (.int p4), .val (.int la), .val (.int lb), .val (.int ((p1 &&& (255 : Int32)).toUInt32.toUInt16.toUInt32.toInt32)), .val (.int ((p2 &&& (255 : Int32)).toUInt32.toUInt16.toUInt32.toInt32)), .val (.int cb0), .unset, .unset, .unset, .unset, .unset, .unset, .unset]) rfl kt) ?_
    show own_Rch p e below _ s₁ (mkF m 82 #[.val (.int p0), .val (.int p1), .val (.int p2), .val (.int p3), .val (.int p4), .val (.int la), .val (.int lb), .val (.int ((p1 &&& (255 : Int32)).toUInt32.toUInt16.toUInt32.toInt32)), .val (.int ((p2 &&& (255 : Int32)).toUInt32.toUInt16.toUInt32.toInt32)), .val (.int cb0), .unset, .unset, .unset, .unset, .unset, .unset, .unset] [])
    refine own_st (fun _ kt => XS.iloadN X0.here hx rfl (hb hby at_82) rfl  kt) ?_
    show own_Rch p e below _ s₁ (mkF m 83 #[.val (.int p0), .val (.int p1), .val (.int p2), .val (.int p3), .val (.int p4), .val (.int la), .val (.int lb), .val (.int ((p1 &&& (255 : Int32)).toUInt32.toUInt16.toUInt32.toInt32)), .val (.int ((p2 &&& (255 : Int32)).toUInt32.toUInt16.toUInt32.toInt32)), .val (.int cb0), .unset, .unset, .unset, .unset, .unset, .unset, .unset] [(.int p0)])
    refine own_st (fun _ kt => XS.bipush X0.here hx rfl (hb hby at_83) kt) ?_
    show own_Rch p e below _ s₁ (mkF m 85 #[.val (.int p0), .val (.int p1), .val (.int p2), .val (.int p3), .val (.int p4), .val (.int la), .val (.int lb), .val (.int ((p1 &&& (255 : Int32)).toUInt32.toUInt16.toUInt32.toInt32)), .val (.int ((p2 &&& (255 : Int32)).toUInt32.toUInt16.toUInt32.toInt32)), .val (.int cb0), .unset, .unset, .unset, .unset, .unset, .unset, .unset] [(.int (6 : Int32)), (.int p0)])
    refine own_st (fun _ kt => XS.ishr X0.here hx rfl (hb hby at_85) rfl kt) ?_
    show own_Rch p e below _ s₁ (mkF m 86 #[.val (.int p0), .val (.int p1), .val (.int p2), .val (.int p3), .val (.int p4), .val (.int la), .val (.int lb), .val (.int ((p1 &&& (255 : Int32)).toUInt32.toUInt16.toUInt32.toInt32)), .val (.int ((p2 &&& (255 : Int32)).toUInt32.toUInt16.toUInt32.toInt32)), .val (.int cb0), .unset, .unset, .unset, .unset, .unset, .unset, .unset] [(.int (p0 >>> ((6 : Int32) &&& 31)))])
    refine own_st (fun _ kt => XS.iconst X0.here hx rfl (hb hby at_86) kt) ?_
    show own_Rch p e below _ s₁ (mkF m 87 #[.val (.int p0), .val (.int p1), .val (.int p2), .val (.int p3), .val (.int p4), .val (.int la), .val (.int lb), .val (.int ((p1 &&& (255 : Int32)).toUInt32.toUInt16.toUInt32.toInt32)), .val (.int ((p2 &&& (255 : Int32)).toUInt32.toUInt16.toUInt32.toInt32)), .val (.int cb0), .unset, .unset, .unset, .unset, .unset, .unset, .unset] [(.int (1 : Int32)), (.int (p0 >>> ((6 : Int32) &&& 31)))])
    refine own_st (fun _ kt => XS.iand X0.here hx rfl (hb hby at_87) rfl kt) ?_
    show own_Rch p e below _ s₁ (mkF m 88 #[.val (.int p0), .val (.int p1), .val (.int p2), .val (.int p3), .val (.int p4), .val (.int la), .val (.int lb), .val (.int ((p1 &&& (255 : Int32)).toUInt32.toUInt16.toUInt32.toInt32)), .val (.int ((p2 &&& (255 : Int32)).toUInt32.toUInt16.toUInt32.toInt32)), .val (.int cb0), .unset, .unset, .unset, .unset, .unset, .unset, .unset] [(.int ((p0 >>> ((6 : Int32) &&& 31)) &&& (1 : Int32)))])
    by_cases hc88_22 : ((p0 >>> ((6 : Int32) &&& 31)) &&& (1 : Int32)) = (0 : Int32)
    · -- pc 88: True
      refine own_st (fun _ kt => XS.ifYes X0.here hx rfl (pc0 := 88) (pc' := 96) rfl (hb hby at_88) rfl ((if0 _ _).trans (teq hc88_22).1) (by decide) (by decide) kt) ?_
      show own_Rch p e below _ s₁ (mkF m 96 #[.val (.int p0), .val (.int p1), .val (.int p2), .val (.int p3), .val (.int p4), .val (.int la), .val (.int lb), .val (.int ((p1 &&& (255 : Int32)).toUInt32.toUInt16.toUInt32.toInt32)), .val (.int ((p2 &&& (255 : Int32)).toUInt32.toUInt16.toUInt32.toInt32)), .val (.int cb0), .unset, .unset, .unset, .unset, .unset, .unset, .unset] [])
      refine own_st (fun _ kt => XS.iload X0.here hx rfl (hb hby at_96) rfl  kt) ?_
      show own_Rch p e below _ s₁ (mkF m 98 #[.val (.int p0), .val (.int p1), .val (.int p2), .val (.int p3), .val (.int p4), .val (.int la), .val (.int lb), .val (.int ((p1 &&& (255 : Int32)).toUInt32.toUInt16.toUInt32.toInt32)), .val (.int ((p2 &&& (255 : Int32)).toUInt32.toUInt16.toUInt32.toInt32)), .val (.int cb0), .unset, .unset, .unset, .unset, .unset, .unset, .unset] [(.int p4)])
      refine own_st (fun _ kt => XS.sipush X0.here hx rfl (hb hby at_98) kt) ?_
      show own_Rch p e below _ s₁ (mkF m 101 #[.val (.int p0), .val (.int p1), .val (.int p2), .val (.int p3), .val (.int p4), .val (.int la), .val (.int lb), .val (.int ((p1 &&& (255 : Int32)).toUInt32.toUInt16.toUInt32.toInt32)), .val (.int ((p2 &&& (255 : Int32)).toUInt32.toUInt16.toUInt32.toInt32)), .val (.int cb0), .unset, .unset, .unset, .unset, .unset, .unset, .unset] [(.int (255 : Int32)), (.int p4)])
      refine own_st (fun _ kt => XS.iand X0.here hx rfl (hb hby at_101) rfl kt) ?_
      show own_Rch p e below _ s₁ (mkF m 102 #[.val (.int p0), .val (.int p1), .val (.int p2), .val (.int p3), .val (.int p4), .val (.int la), .val (.int lb), .val (.int ((p1 &&& (255 : Int32)).toUInt32.toUInt16.toUInt32.toInt32)), .val (.int ((p2 &&& (255 : Int32)).toUInt32.toUInt16.toUInt32.toInt32)), .val (.int cb0), .unset, .unset, .unset, .unset, .unset, .unset, .unset] [(.int (p4 &&& (255 : Int32)))])
      refine own_st (fun _ kt => XS.i2c X0.here hx rfl (hb hby at_102) rfl kt) ?_
      exact c103 _ _ _ _ hla hlb hB0 (own_chc _)
    · -- pc 88: False
      refine own_st (fun _ kt => XS.ifNo X0.here hx rfl (hb hby at_88) rfl ((if0 _ _).trans (feq hc88_22).1) kt) ?_
      show own_Rch p e below _ s₁ (mkF m 91 #[.val (.int p0), .val (.int p1), .val (.int p2), .val (.int p3), .val (.int p4), .val (.int la), .val (.int lb), .val (.int ((p1 &&& (255 : Int32)).toUInt32.toUInt16.toUInt32.toInt32)), .val (.int ((p2 &&& (255 : Int32)).toUInt32.toUInt16.toUInt32.toInt32)), .val (.int cb0), .unset, .unset, .unset, .unset, .unset, .unset, .unset] [])
      refine own_st (fun _ kt => XS.iload X0.here hx rfl (hb hby at_91) rfl  kt) ?_
      show own_Rch p e below _ s₁ (mkF m 93 #[.val (.int p0), .val (.int p1), .val (.int p2), .val (.int p3), .val (.int p4), .val (.int la), .val (.int lb), .val (.int ((p1 &&& (255 : Int32)).toUInt32.toUInt16.toUInt32.toInt32)), .val (.int ((p2 &&& (255 : Int32)).toUInt32.toUInt16.toUInt32.toInt32)), .val (.int cb0), .unset, .unset, .unset, .unset, .unset, .unset, .unset] [(.int ((p2 &&& (255 : Int32)).toUInt32.toUInt16.toUInt32.toInt32))])
      refine own_st (fun _ kt => XS.goto X0.here hx rfl (pc0 := 93) (pc' := 103) rfl (hb hby at_93) (by decide) (by decide) kt) ?_
      exact c103 _ _ _ _ hla hlb hB0 (own_chc _)
  have c45 : ∀ (la lb : Int32) (hla : la = 0 ∨ la = 1 ∨ la = 2) (hlb : lb = 0 ∨ lb = 1 ∨ lb = 2), own_Rch p e below (own_EndH Z consts_1 s below (own_Q_own_rm0 Z p0 p1 p2 p3 p4 cs h0 n0) (room_1).cells (room_1).slots) s₁ (mkF m 45 #[.val (.int p0), .val (.int p1), .val (.int p2), .val (.int p3), .val (.int p4), .val (.int la), .val (.int lb), .unset, .unset, .unset, .unset, .unset, .unset, .unset, .unset, .unset, .unset] []) := by
    intro la lb hla hlb
    show own_Rch p e below _ s₁ (mkF m 45 #[.val (.int p0), .val (.int p1), .val (.int p2), .val (.int p3), .val (.int p4), .val (.int la), .val (.int lb), .unset, .unset, .unset, .unset, .unset, .unset, .unset, .unset, .unset, .unset] [])
    refine own_st (fun _ kt => XS.iloadN X0.here hx rfl (hb hby at_45) rfl  kt) ?_
    show own_Rch p e below _ s₁ (mkF m 46 #[.val (.int p0), .val (.int p1), .val (.int p2), .val (.int p3), .val (.int p4), .val (.int la), .val (.int lb), .unset, .unset, .unset, .unset, .unset, .unset, .unset, .unset, .unset, .unset] [(.int p1)])
    refine own_st (fun _ kt => XS.sipush X0.here hx rfl (hb hby at_46) kt) ?_
    show own_Rch p e below _ s₁ (mkF m 49 #[.val (.int p0), .val (.int p1), .val (.int p2), .val (.int p3), .val (.int p4), .val (.int la), .val (.int lb), .unset, .unset, .unset, .unset, .unset, .unset, .unset, .unset, .unset, .unset] [(.int (255 : Int32)), (.int p1)])
    refine own_st (fun _ kt => XS.iand X0.here hx rfl (hb hby at_49) rfl kt) ?_
    show own_Rch p e below _ s₁ (mkF m 50 #[.val (.int p0), .val (.int p1), .val (.int p2), .val (.int p3), .val (.int p4), .val (.int la), .val (.int lb), .unset, .unset, .unset, .unset, .unset, .unset, .unset, .unset, .unset, .unset] [(.int (p1 &&& (255 : Int32)))])
    refine own_st (fun _ kt => XS.i2c X0.here hx rfl (hb hby at_50) rfl kt) ?_
    show own_Rch p e below _ s₁ (mkF m 51 #[.val (.int p0), .val (.int p1), .val (.int p2), .val (.int p3), .val (.int p4), .val (.int la), .val (.int lb), .unset, .unset, .unset, .unset, .unset, .unset, .unset, .unset, .unset, .unset] [(.int ((p1 &&& (255 : Int32)).toUInt32.toUInt16.toUInt32.toInt32))])
    refine own_st (fun _ kt => XS.istore X0.here hx rfl (hb hby at_51) rfl (l' := #[.val (.int p0), .val (.int p1), .val (.int p2), .val (.int p3), .val (.int p4), .val (.int la), .val (.int lb), .val (.int ((p1 &&& (255 : Int32)).toUInt32.toUInt16.toUInt32.toInt32)), .unset, .unset, .unset, .unset, .unset, .unset, .unset, .unset, .unset]) rfl kt) ?_
    show own_Rch p e below _ s₁ (mkF m 53 #[.val (.int p0), .val (.int p1), .val (.int p2), .val (.int p3), .val (.int p4), .val (.int la), .val (.int lb), .val (.int ((p1 &&& (255 : Int32)).toUInt32.toUInt16.toUInt32.toInt32)), .unset, .unset, .unset, .unset, .unset, .unset, .unset, .unset, .unset] [])
    refine own_st (fun _ kt => XS.iloadN X0.here hx rfl (hb hby at_53) rfl  kt) ?_
    show own_Rch p e below _ s₁ (mkF m 54 #[.val (.int p0), .val (.int p1), .val (.int p2), .val (.int p3), .val (.int p4), .val (.int la), .val (.int lb), .val (.int ((p1 &&& (255 : Int32)).toUInt32.toUInt16.toUInt32.toInt32)), .unset, .unset, .unset, .unset, .unset, .unset, .unset, .unset, .unset] [(.int p2)])
    refine own_st (fun _ kt => XS.sipush X0.here hx rfl (hb hby at_54) kt) ?_
    show own_Rch p e below _ s₁ (mkF m 57 #[.val (.int p0), .val (.int p1), .val (.int p2), .val (.int p3), .val (.int p4), .val (.int la), .val (.int lb), .val (.int ((p1 &&& (255 : Int32)).toUInt32.toUInt16.toUInt32.toInt32)), .unset, .unset, .unset, .unset, .unset, .unset, .unset, .unset, .unset] [(.int (255 : Int32)), (.int p2)])
    refine own_st (fun _ kt => XS.iand X0.here hx rfl (hb hby at_57) rfl kt) ?_
    show own_Rch p e below _ s₁ (mkF m 58 #[.val (.int p0), .val (.int p1), .val (.int p2), .val (.int p3), .val (.int p4), .val (.int la), .val (.int lb), .val (.int ((p1 &&& (255 : Int32)).toUInt32.toUInt16.toUInt32.toInt32)), .unset, .unset, .unset, .unset, .unset, .unset, .unset, .unset, .unset] [(.int (p2 &&& (255 : Int32)))])
    refine own_st (fun _ kt => XS.i2c X0.here hx rfl (hb hby at_58) rfl kt) ?_
    show own_Rch p e below _ s₁ (mkF m 59 #[.val (.int p0), .val (.int p1), .val (.int p2), .val (.int p3), .val (.int p4), .val (.int la), .val (.int lb), .val (.int ((p1 &&& (255 : Int32)).toUInt32.toUInt16.toUInt32.toInt32)), .unset, .unset, .unset, .unset, .unset, .unset, .unset, .unset, .unset] [(.int ((p2 &&& (255 : Int32)).toUInt32.toUInt16.toUInt32.toInt32))])
    refine own_st (fun _ kt => XS.istore X0.here hx rfl (hb hby at_59) rfl (l' := #[.val (.int p0), .val (.int p1), .val (.int p2), .val (.int p3), .val (.int p4), .val (.int la), .val (.int lb), .val (.int ((p1 &&& (255 : Int32)).toUInt32.toUInt16.toUInt32.toInt32)), .val (.int ((p2 &&& (255 : Int32)).toUInt32.toUInt16.toUInt32.toInt32)), .unset, .unset, .unset, .unset, .unset, .unset, .unset, .unset]) rfl kt) ?_
    show own_Rch p e below _ s₁ (mkF m 61 #[.val (.int p0), .val (.int p1), .val (.int p2), .val (.int p3), .val (.int p4), .val (.int la), .val (.int lb), .val (.int ((p1 &&& (255 : Int32)).toUInt32.toUInt16.toUInt32.toInt32)), .val (.int ((p2 &&& (255 : Int32)).toUInt32.toUInt16.toUInt32.toInt32)), .unset, .unset, .unset, .unset, .unset, .unset, .unset, .unset] [])
    refine own_st (fun _ kt => XS.iloadN X0.here hx rfl (hb hby at_61) rfl  kt) ?_
    show own_Rch p e below _ s₁ (mkF m 62 #[.val (.int p0), .val (.int p1), .val (.int p2), .val (.int p3), .val (.int p4), .val (.int la), .val (.int lb), .val (.int ((p1 &&& (255 : Int32)).toUInt32.toUInt16.toUInt32.toInt32)), .val (.int ((p2 &&& (255 : Int32)).toUInt32.toUInt16.toUInt32.toInt32)), .unset, .unset, .unset, .unset, .unset, .unset, .unset, .unset] [(.int p0)])
    refine own_st (fun _ kt => XS.iconst X0.here hx rfl (hb hby at_62) kt) ?_
    show own_Rch p e below _ s₁ (mkF m 63 #[.val (.int p0), .val (.int p1), .val (.int p2), .val (.int p3), .val (.int p4), .val (.int la), .val (.int lb), .val (.int ((p1 &&& (255 : Int32)).toUInt32.toUInt16.toUInt32.toInt32)), .val (.int ((p2 &&& (255 : Int32)).toUInt32.toUInt16.toUInt32.toInt32)), .unset, .unset, .unset, .unset, .unset, .unset, .unset, .unset] [(.int (5 : Int32)), (.int p0)])
    refine own_st (fun _ kt => XS.ishr X0.here hx rfl (hb hby at_63) rfl kt) ?_
    show own_Rch p e below _ s₁ (mkF m 64 #[.val (.int p0), .val (.int p1), .val (.int p2), .val (.int p3), .val (.int p4), .val (.int la), .val (.int lb), .val (.int ((p1 &&& (255 : Int32)).toUInt32.toUInt16.toUInt32.toInt32)), .val (.int ((p2 &&& (255 : Int32)).toUInt32.toUInt16.toUInt32.toInt32)), .unset, .unset, .unset, .unset, .unset, .unset, .unset, .unset] [(.int (p0 >>> ((5 : Int32) &&& 31)))])
    refine own_st (fun _ kt => XS.iconst X0.here hx rfl (hb hby at_64) kt) ?_
    show own_Rch p e below _ s₁ (mkF m 65 #[.val (.int p0), .val (.int p1), .val (.int p2), .val (.int p3), .val (.int p4), .val (.int la), .val (.int lb), .val (.int ((p1 &&& (255 : Int32)).toUInt32.toUInt16.toUInt32.toInt32)), .val (.int ((p2 &&& (255 : Int32)).toUInt32.toUInt16.toUInt32.toInt32)), .unset, .unset, .unset, .unset, .unset, .unset, .unset, .unset] [(.int (1 : Int32)), (.int (p0 >>> ((5 : Int32) &&& 31)))])
    refine own_st (fun _ kt => XS.iand X0.here hx rfl (hb hby at_65) rfl kt) ?_
    show own_Rch p e below _ s₁ (mkF m 66 #[.val (.int p0), .val (.int p1), .val (.int p2), .val (.int p3), .val (.int p4), .val (.int la), .val (.int lb), .val (.int ((p1 &&& (255 : Int32)).toUInt32.toUInt16.toUInt32.toInt32)), .val (.int ((p2 &&& (255 : Int32)).toUInt32.toUInt16.toUInt32.toInt32)), .unset, .unset, .unset, .unset, .unset, .unset, .unset, .unset] [(.int ((p0 >>> ((5 : Int32) &&& 31)) &&& (1 : Int32)))])
    by_cases hc66_23 : ((p0 >>> ((5 : Int32) &&& 31)) &&& (1 : Int32)) = (0 : Int32)
    · -- pc 66: True
      refine own_st (fun _ kt => XS.ifYes X0.here hx rfl (pc0 := 66) (pc' := 74) rfl (hb hby at_66) rfl ((if0 _ _).trans (teq hc66_23).1) (by decide) (by decide) kt) ?_
      show own_Rch p e below _ s₁ (mkF m 74 #[.val (.int p0), .val (.int p1), .val (.int p2), .val (.int p3), .val (.int p4), .val (.int la), .val (.int lb), .val (.int ((p1 &&& (255 : Int32)).toUInt32.toUInt16.toUInt32.toInt32)), .val (.int ((p2 &&& (255 : Int32)).toUInt32.toUInt16.toUInt32.toInt32)), .unset, .unset, .unset, .unset, .unset, .unset, .unset, .unset] [])
      refine own_st (fun _ kt => XS.iloadN X0.here hx rfl (hb hby at_74) rfl  kt) ?_
      show own_Rch p e below _ s₁ (mkF m 75 #[.val (.int p0), .val (.int p1), .val (.int p2), .val (.int p3), .val (.int p4), .val (.int la), .val (.int lb), .val (.int ((p1 &&& (255 : Int32)).toUInt32.toUInt16.toUInt32.toInt32)), .val (.int ((p2 &&& (255 : Int32)).toUInt32.toUInt16.toUInt32.toInt32)), .unset, .unset, .unset, .unset, .unset, .unset, .unset, .unset] [(.int p3)])
      refine own_st (fun _ kt => XS.sipush X0.here hx rfl (hb hby at_75) kt) ?_
      show own_Rch p e below _ s₁ (mkF m 78 #[.val (.int p0), .val (.int p1), .val (.int p2), .val (.int p3), .val (.int p4), .val (.int la), .val (.int lb), .val (.int ((p1 &&& (255 : Int32)).toUInt32.toUInt16.toUInt32.toInt32)), .val (.int ((p2 &&& (255 : Int32)).toUInt32.toUInt16.toUInt32.toInt32)), .unset, .unset, .unset, .unset, .unset, .unset, .unset, .unset] [(.int (255 : Int32)), (.int p3)])
      refine own_st (fun _ kt => XS.iand X0.here hx rfl (hb hby at_78) rfl kt) ?_
      show own_Rch p e below _ s₁ (mkF m 79 #[.val (.int p0), .val (.int p1), .val (.int p2), .val (.int p3), .val (.int p4), .val (.int la), .val (.int lb), .val (.int ((p1 &&& (255 : Int32)).toUInt32.toUInt16.toUInt32.toInt32)), .val (.int ((p2 &&& (255 : Int32)).toUInt32.toUInt16.toUInt32.toInt32)), .unset, .unset, .unset, .unset, .unset, .unset, .unset, .unset] [(.int (p3 &&& (255 : Int32)))])
      refine own_st (fun _ kt => XS.i2c X0.here hx rfl (hb hby at_79) rfl kt) ?_
      exact c80 _ _ _ hla hlb (own_chc _)
    · -- pc 66: False
      refine own_st (fun _ kt => XS.ifNo X0.here hx rfl (hb hby at_66) rfl ((if0 _ _).trans (feq hc66_23).1) kt) ?_
      show own_Rch p e below _ s₁ (mkF m 69 #[.val (.int p0), .val (.int p1), .val (.int p2), .val (.int p3), .val (.int p4), .val (.int la), .val (.int lb), .val (.int ((p1 &&& (255 : Int32)).toUInt32.toUInt16.toUInt32.toInt32)), .val (.int ((p2 &&& (255 : Int32)).toUInt32.toUInt16.toUInt32.toInt32)), .unset, .unset, .unset, .unset, .unset, .unset, .unset, .unset] [])
      refine own_st (fun _ kt => XS.iload X0.here hx rfl (hb hby at_69) rfl  kt) ?_
      show own_Rch p e below _ s₁ (mkF m 71 #[.val (.int p0), .val (.int p1), .val (.int p2), .val (.int p3), .val (.int p4), .val (.int la), .val (.int lb), .val (.int ((p1 &&& (255 : Int32)).toUInt32.toUInt16.toUInt32.toInt32)), .val (.int ((p2 &&& (255 : Int32)).toUInt32.toUInt16.toUInt32.toInt32)), .unset, .unset, .unset, .unset, .unset, .unset, .unset, .unset] [(.int ((p1 &&& (255 : Int32)).toUInt32.toUInt16.toUInt32.toInt32))])
      refine own_st (fun _ kt => XS.goto X0.here hx rfl (pc0 := 71) (pc' := 80) rfl (hb hby at_71) (by decide) (by decide) kt) ?_
      exact c80 _ _ _ hla hlb (own_chc _)
  have c14 : ∀ (la : Int32) (hla : la = 0 ∨ la = 1 ∨ la = 2), own_Rch p e below (own_EndH Z consts_1 s below (own_Q_own_rm0 Z p0 p1 p2 p3 p4 cs h0 n0) (room_1).cells (room_1).slots) s₁ (mkF m 14 #[.val (.int p0), .val (.int p1), .val (.int p2), .val (.int p3), .val (.int p4), .val (.int la), .unset, .unset, .unset, .unset, .unset, .unset, .unset, .unset, .unset, .unset, .unset] []) := by
    intro la hla
    show own_Rch p e below _ s₁ (mkF m 14 #[.val (.int p0), .val (.int p1), .val (.int p2), .val (.int p3), .val (.int p4), .val (.int la), .unset, .unset, .unset, .unset, .unset, .unset, .unset, .unset, .unset, .unset, .unset] [])
    refine own_st (fun _ kt => XS.iloadN X0.here hx rfl (hb hby at_14) rfl  kt) ?_
    show own_Rch p e below _ s₁ (mkF m 15 #[.val (.int p0), .val (.int p1), .val (.int p2), .val (.int p3), .val (.int p4), .val (.int la), .unset, .unset, .unset, .unset, .unset, .unset, .unset, .unset, .unset, .unset, .unset] [(.int p0)])
    refine own_st (fun _ kt => XS.iconst X0.here hx rfl (hb hby at_15) kt) ?_
    show own_Rch p e below _ s₁ (mkF m 16 #[.val (.int p0), .val (.int p1), .val (.int p2), .val (.int p3), .val (.int p4), .val (.int la), .unset, .unset, .unset, .unset, .unset, .unset, .unset, .unset, .unset, .unset, .unset] [(.int (2 : Int32)), (.int p0)])
    refine own_st (fun _ kt => XS.ishr X0.here hx rfl (hb hby at_16) rfl kt) ?_
    show own_Rch p e below _ s₁ (mkF m 17 #[.val (.int p0), .val (.int p1), .val (.int p2), .val (.int p3), .val (.int p4), .val (.int la), .unset, .unset, .unset, .unset, .unset, .unset, .unset, .unset, .unset, .unset, .unset] [(.int (p0 >>> ((2 : Int32) &&& 31)))])
    refine own_st (fun _ kt => XS.iconst X0.here hx rfl (hb hby at_17) kt) ?_
    show own_Rch p e below _ s₁ (mkF m 18 #[.val (.int p0), .val (.int p1), .val (.int p2), .val (.int p3), .val (.int p4), .val (.int la), .unset, .unset, .unset, .unset, .unset, .unset, .unset, .unset, .unset, .unset, .unset] [(.int (1 : Int32)), (.int (p0 >>> ((2 : Int32) &&& 31)))])
    refine own_st (fun _ kt => XS.iand X0.here hx rfl (hb hby at_18) rfl kt) ?_
    show own_Rch p e below _ s₁ (mkF m 19 #[.val (.int p0), .val (.int p1), .val (.int p2), .val (.int p3), .val (.int p4), .val (.int la), .unset, .unset, .unset, .unset, .unset, .unset, .unset, .unset, .unset, .unset, .unset] [(.int ((p0 >>> ((2 : Int32) &&& 31)) &&& (1 : Int32)))])
    by_cases hc19_24 : ((p0 >>> ((2 : Int32) &&& 31)) &&& (1 : Int32)) = (0 : Int32)
    · -- pc 19: True
      refine own_st (fun _ kt => XS.ifYes X0.here hx rfl (pc0 := 19) (pc' := 29) rfl (hb hby at_19) rfl ((if0 _ _).trans (teq hc19_24).1) (by decide) (by decide) kt) ?_
      show own_Rch p e below _ s₁ (mkF m 29 #[.val (.int p0), .val (.int p1), .val (.int p2), .val (.int p3), .val (.int p4), .val (.int la), .unset, .unset, .unset, .unset, .unset, .unset, .unset, .unset, .unset, .unset, .unset] [])
      refine own_st (fun _ kt => XS.iloadN X0.here hx rfl (hb hby at_29) rfl  kt) ?_
      show own_Rch p e below _ s₁ (mkF m 30 #[.val (.int p0), .val (.int p1), .val (.int p2), .val (.int p3), .val (.int p4), .val (.int la), .unset, .unset, .unset, .unset, .unset, .unset, .unset, .unset, .unset, .unset, .unset] [(.int p0)])
      refine own_st (fun _ kt => XS.iconst X0.here hx rfl (hb hby at_30) kt) ?_
      show own_Rch p e below _ s₁ (mkF m 31 #[.val (.int p0), .val (.int p1), .val (.int p2), .val (.int p3), .val (.int p4), .val (.int la), .unset, .unset, .unset, .unset, .unset, .unset, .unset, .unset, .unset, .unset, .unset] [(.int (3 : Int32)), (.int p0)])
      refine own_st (fun _ kt => XS.ishr X0.here hx rfl (hb hby at_31) rfl kt) ?_
      show own_Rch p e below _ s₁ (mkF m 32 #[.val (.int p0), .val (.int p1), .val (.int p2), .val (.int p3), .val (.int p4), .val (.int la), .unset, .unset, .unset, .unset, .unset, .unset, .unset, .unset, .unset, .unset, .unset] [(.int (p0 >>> ((3 : Int32) &&& 31)))])
      refine own_st (fun _ kt => XS.iconst X0.here hx rfl (hb hby at_32) kt) ?_
      show own_Rch p e below _ s₁ (mkF m 33 #[.val (.int p0), .val (.int p1), .val (.int p2), .val (.int p3), .val (.int p4), .val (.int la), .unset, .unset, .unset, .unset, .unset, .unset, .unset, .unset, .unset, .unset, .unset] [(.int (3 : Int32)), (.int (p0 >>> ((3 : Int32) &&& 31)))])
      refine own_st (fun _ kt => XS.iand X0.here hx rfl (hb hby at_33) rfl kt) ?_
      show own_Rch p e below _ s₁ (mkF m 34 #[.val (.int p0), .val (.int p1), .val (.int p2), .val (.int p3), .val (.int p4), .val (.int la), .unset, .unset, .unset, .unset, .unset, .unset, .unset, .unset, .unset, .unset, .unset] [(.int ((p0 >>> ((3 : Int32) &&& 31)) &&& (3 : Int32)))])
      refine own_st (fun _ kt => XS.istore X0.here hx rfl (hb hby at_34) rfl (l' := #[.val (.int p0), .val (.int p1), .val (.int p2), .val (.int p3), .val (.int p4), .val (.int la), .val (.int ((p0 >>> ((3 : Int32) &&& 31)) &&& (3 : Int32))), .unset, .unset, .unset, .unset, .unset, .unset, .unset, .unset, .unset, .unset]) rfl kt) ?_
      show own_Rch p e below _ s₁ (mkF m 36 #[.val (.int p0), .val (.int p1), .val (.int p2), .val (.int p3), .val (.int p4), .val (.int la), .val (.int ((p0 >>> ((3 : Int32) &&& 31)) &&& (3 : Int32))), .unset, .unset, .unset, .unset, .unset, .unset, .unset, .unset, .unset, .unset] [])
      refine own_st (fun _ kt => XS.iload X0.here hx rfl (hb hby at_36) rfl  kt) ?_
      show own_Rch p e below _ s₁ (mkF m 38 #[.val (.int p0), .val (.int p1), .val (.int p2), .val (.int p3), .val (.int p4), .val (.int la), .val (.int ((p0 >>> ((3 : Int32) &&& 31)) &&& (3 : Int32))), .unset, .unset, .unset, .unset, .unset, .unset, .unset, .unset, .unset, .unset] [(.int ((p0 >>> ((3 : Int32) &&& 31)) &&& (3 : Int32)))])
      refine own_st (fun _ kt => XS.iconst X0.here hx rfl (hb hby at_38) kt) ?_
      show own_Rch p e below _ s₁ (mkF m 39 #[.val (.int p0), .val (.int p1), .val (.int p2), .val (.int p3), .val (.int p4), .val (.int la), .val (.int ((p0 >>> ((3 : Int32) &&& 31)) &&& (3 : Int32))), .unset, .unset, .unset, .unset, .unset, .unset, .unset, .unset, .unset, .unset] [(.int (3 : Int32)), (.int ((p0 >>> ((3 : Int32) &&& 31)) &&& (3 : Int32)))])
      by_cases hc39_25 : ((p0 >>> ((3 : Int32) &&& 31)) &&& (3 : Int32)) = (3 : Int32)
      · -- pc 39: True
        refine own_st (fun _ kt => XS.icmpNo X0.here hx rfl (hb hby at_39) rfl (teq hc39_25).2 kt) ?_
        show own_Rch p e below _ s₁ (mkF m 42 #[.val (.int p0), .val (.int p1), .val (.int p2), .val (.int p3), .val (.int p4), .val (.int la), .val (.int ((p0 >>> ((3 : Int32) &&& 31)) &&& (3 : Int32))), .unset, .unset, .unset, .unset, .unset, .unset, .unset, .unset, .unset, .unset] [])
        refine own_st (fun _ kt => XS.iconst X0.here hx rfl (hb hby at_42) kt) ?_
        show own_Rch p e below _ s₁ (mkF m 43 #[.val (.int p0), .val (.int p1), .val (.int p2), .val (.int p3), .val (.int p4), .val (.int la), .val (.int ((p0 >>> ((3 : Int32) &&& 31)) &&& (3 : Int32))), .unset, .unset, .unset, .unset, .unset, .unset, .unset, .unset, .unset, .unset] [(.int (2 : Int32))])
        refine own_st (fun _ kt => XS.istore X0.here hx rfl (hb hby at_43) rfl (l' := #[.val (.int p0), .val (.int p1), .val (.int p2), .val (.int p3), .val (.int p4), .val (.int la), .val (.int (2 : Int32)), .unset, .unset, .unset, .unset, .unset, .unset, .unset, .unset, .unset, .unset]) rfl kt) ?_
        exact c45 _ _ hla (by decide)
      · -- pc 39: False
        refine own_st (fun _ kt => XS.icmpYes X0.here hx rfl (pc0 := 39) (pc' := 45) rfl (hb hby at_39) rfl (feq hc39_25).2 (by decide) (by decide) kt) ?_
        exact c45 _ _ hla (own_le2 hc39_25)
    · -- pc 19: False
      refine own_st (fun _ kt => XS.ifNo X0.here hx rfl (hb hby at_19) rfl ((if0 _ _).trans (feq hc19_24).1) kt) ?_
      show own_Rch p e below _ s₁ (mkF m 22 #[.val (.int p0), .val (.int p1), .val (.int p2), .val (.int p3), .val (.int p4), .val (.int la), .unset, .unset, .unset, .unset, .unset, .unset, .unset, .unset, .unset, .unset, .unset] [])
      refine own_st (fun _ kt => XS.iload X0.here hx rfl (hb hby at_22) rfl  kt) ?_
      show own_Rch p e below _ s₁ (mkF m 24 #[.val (.int p0), .val (.int p1), .val (.int p2), .val (.int p3), .val (.int p4), .val (.int la), .unset, .unset, .unset, .unset, .unset, .unset, .unset, .unset, .unset, .unset, .unset] [(.int la)])
      refine own_st (fun _ kt => XS.istore X0.here hx rfl (hb hby at_24) rfl (l' := #[.val (.int p0), .val (.int p1), .val (.int p2), .val (.int p3), .val (.int p4), .val (.int la), .val (.int la), .unset, .unset, .unset, .unset, .unset, .unset, .unset, .unset, .unset, .unset]) rfl kt) ?_
      show own_Rch p e below _ s₁ (mkF m 26 #[.val (.int p0), .val (.int p1), .val (.int p2), .val (.int p3), .val (.int p4), .val (.int la), .val (.int la), .unset, .unset, .unset, .unset, .unset, .unset, .unset, .unset, .unset, .unset] [])
      refine own_st (fun _ kt => XS.goto X0.here hx rfl (pc0 := 26) (pc' := 45) rfl (hb hby at_26) (by decide) (by decide) kt) ?_
      exact c45 _ _ hla (hla)
  show own_Rch p e below _ s₁ (mkF m 0 #[.val (.int p0), .val (.int p1), .val (.int p2), .val (.int p3), .val (.int p4), .unset, .unset, .unset, .unset, .unset, .unset, .unset, .unset, .unset, .unset, .unset, .unset] [])
  refine own_st (fun _ kt => XS.iloadN X0.here hx rfl (hb hby at_0) rfl  kt) ?_
  show own_Rch p e below _ s₁ (mkF m 1 #[.val (.int p0), .val (.int p1), .val (.int p2), .val (.int p3), .val (.int p4), .unset, .unset, .unset, .unset, .unset, .unset, .unset, .unset, .unset, .unset, .unset, .unset] [(.int p0)])
  refine own_st (fun _ kt => XS.iconst X0.here hx rfl (hb hby at_1) kt) ?_
  show own_Rch p e below _ s₁ (mkF m 2 #[.val (.int p0), .val (.int p1), .val (.int p2), .val (.int p3), .val (.int p4), .unset, .unset, .unset, .unset, .unset, .unset, .unset, .unset, .unset, .unset, .unset, .unset] [(.int (3 : Int32)), (.int p0)])
  refine own_st (fun _ kt => XS.iand X0.here hx rfl (hb hby at_2) rfl kt) ?_
  show own_Rch p e below _ s₁ (mkF m 3 #[.val (.int p0), .val (.int p1), .val (.int p2), .val (.int p3), .val (.int p4), .unset, .unset, .unset, .unset, .unset, .unset, .unset, .unset, .unset, .unset, .unset, .unset] [(.int (p0 &&& (3 : Int32)))])
  refine own_st (fun _ kt => XS.istore X0.here hx rfl (hb hby at_3) rfl (l' := #[.val (.int p0), .val (.int p1), .val (.int p2), .val (.int p3), .val (.int p4), .val (.int (p0 &&& (3 : Int32))), .unset, .unset, .unset, .unset, .unset, .unset, .unset, .unset, .unset, .unset, .unset]) rfl kt) ?_
  show own_Rch p e below _ s₁ (mkF m 5 #[.val (.int p0), .val (.int p1), .val (.int p2), .val (.int p3), .val (.int p4), .val (.int (p0 &&& (3 : Int32))), .unset, .unset, .unset, .unset, .unset, .unset, .unset, .unset, .unset, .unset, .unset] [])
  refine own_st (fun _ kt => XS.iload X0.here hx rfl (hb hby at_5) rfl  kt) ?_
  show own_Rch p e below _ s₁ (mkF m 7 #[.val (.int p0), .val (.int p1), .val (.int p2), .val (.int p3), .val (.int p4), .val (.int (p0 &&& (3 : Int32))), .unset, .unset, .unset, .unset, .unset, .unset, .unset, .unset, .unset, .unset, .unset] [(.int (p0 &&& (3 : Int32)))])
  refine own_st (fun _ kt => XS.iconst X0.here hx rfl (hb hby at_7) kt) ?_
  show own_Rch p e below _ s₁ (mkF m 8 #[.val (.int p0), .val (.int p1), .val (.int p2), .val (.int p3), .val (.int p4), .val (.int (p0 &&& (3 : Int32))), .unset, .unset, .unset, .unset, .unset, .unset, .unset, .unset, .unset, .unset, .unset] [(.int (3 : Int32)), (.int (p0 &&& (3 : Int32)))])
  by_cases hc8_26 : (p0 &&& (3 : Int32)) = (3 : Int32)
  · -- pc 8: True
    refine own_st (fun _ kt => XS.icmpNo X0.here hx rfl (hb hby at_8) rfl (teq hc8_26).2 kt) ?_
    show own_Rch p e below _ s₁ (mkF m 11 #[.val (.int p0), .val (.int p1), .val (.int p2), .val (.int p3), .val (.int p4), .val (.int (p0 &&& (3 : Int32))), .unset, .unset, .unset, .unset, .unset, .unset, .unset, .unset, .unset, .unset, .unset] [])
    refine own_st (fun _ kt => XS.iconst X0.here hx rfl (hb hby at_11) kt) ?_
    show own_Rch p e below _ s₁ (mkF m 12 #[.val (.int p0), .val (.int p1), .val (.int p2), .val (.int p3), .val (.int p4), .val (.int (p0 &&& (3 : Int32))), .unset, .unset, .unset, .unset, .unset, .unset, .unset, .unset, .unset, .unset, .unset] [(.int (2 : Int32))])
    refine own_st (fun _ kt => XS.istore X0.here hx rfl (hb hby at_12) rfl (l' := #[.val (.int p0), .val (.int p1), .val (.int p2), .val (.int p3), .val (.int p4), .val (.int (2 : Int32)), .unset, .unset, .unset, .unset, .unset, .unset, .unset, .unset, .unset, .unset, .unset]) rfl kt) ?_
    exact c14 _ (by decide)
  · -- pc 8: False
    refine own_st (fun _ kt => XS.icmpYes X0.here hx rfl (pc0 := 8) (pc' := 14) rfl (hb hby at_8) rfl (feq hc8_26).2 (by decide) (by decide) kt) ?_
    exact c14 _ (own_le2 hc8_26)
set_option maxRecDepth 65536 in
set_option maxHeartbeats 40000000 in
theorem own_comes {Post : Tables → Env → Array Value → State → Outcome → State → Prop} (hpost : ∀ tb e args s v u, (limb_1_1.after args s (.returned v) u = true ∧ limb_1_2.after args s (.returned v) u = true ∧ True) → ReturnedEndW s (.returned v) u (Jvm.fieldLocs frame_1_writes args s ++ Jvm.arrayLocs frame_1_arrays args s ++ Jvm.staticLocs frame_1_statics s) 32 1152 → Post tb e args s (.returned v) u) :
    ArmFor flags0 classFile x code maxLocals ret World_1 tables_1 room_1 Calls_1 rest_1 Pre_1 Post := by
  intro l hfl _ _ p e ha hc hk s m args below hf hA hF happ hP
  obtain ⟨hcalls, hrest, hpre⟩ := hP
  obtain ⟨-, -, -, hnamed, -, -, -, hat⟩ := (Spec.applies_iff hf).mp happ
  obtain ⟨hg, hn⟩ := and_e (Cond.before_iff.mp (show (Jvm.Cond.and given_1 narrow_1).before args s = true from hpre))
  obtain ⟨g0, g1⟩ := and_e hg
  obtain ⟨g2, g3⟩ := and_e g1
  obtain ⟨g4, g5⟩ := and_e g3
  obtain ⟨g6, g7⟩ := and_e g5
  obtain ⟨g8, g9⟩ := and_e g7
  obtain ⟨w0, w1, w2, w3, w4, rfl⟩ : ∃ w0 w1 w2 w3 w4 : Value, args = #[w0, w1, w2, w3, w4] := by
    have hs : args.size = 5 := by simpa [Cond.value, given_1] using g0
    obtain ⟨L⟩ := args
    match L, hs with
    | [w0, w1, w2, w3, w4], _ => exact ⟨w0, w1, w2, w3, w4, rfl⟩
  have hw := fun d (hd : d ∈ tables_1) => atoms_spec (ws := Jvm.Cond.code x code maxLocals ret :: tables_1) hat d (List.mem_cons_of_mem _ hd)
  have hfit : Fit s := fun {y c} hc i hi => by
    obtain ⟨ha, rfl⟩ := Array.getElem?_eq_some_iff.mp hc
    have q := List.all_eq_true.mp ((Array.all_eq_true_iff_forall_mem.mp hF) _ (Array.getElem_mem ha)) i (List.mem_range.mpr hi)
    simpa [Array.getElem?_eq_getElem hi] using q
  obtain ⟨hsets, hown0⟩ := atoms_of _ (rest_1_c_eq ▸ (show rest_1_c.before _ s = true from hrest))
  have hr0 := Cond.before_iff.mp hown0
  obtain ⟨i0, ei0⟩ := is_v g2
  obtain rfl : w0 = (.int i0) := Option.some.inj ei0
  obtain ⟨i1, ei1⟩ := is_v g4
  obtain rfl : w1 = (.int i1) := Option.some.inj ei1
  obtain ⟨i2, ei2⟩ := is_v g6
  obtain rfl : w2 = (.int i2) := Option.some.inj ei2
  obtain ⟨i3, ei3⟩ := is_v g8
  obtain rfl : w3 = (.int i3) := Option.some.inj ei3
  obtain ⟨i4, ei4⟩ := is_v g9
  obtain rfl : w4 = (.int i4) := Option.some.inj ei4
  obtain ⟨cs, evc⟩ := is_v (Cond.before_iff.mp (hsets _ (List.mem_of_getElem? (i := 1) rfl)))
  have SC := Sta.start evc (Or.inl (hsets _ (List.mem_of_getElem? (i := 0) rfl)))
  have hcs := own_cmp0 evc (Cond.before_iff.mp (hsets _ (List.mem_of_getElem? (i := 2) rfl)))
  have hCH := CHv.start (own_hEL hw) (fun q hq => hcalls.1 q hq) (hsets _ (List.mem_of_getElem? (i := 2) rfl)) (hw _ (List.mem_of_getElem? (i := 19) rfl)) (hw _ (List.mem_of_getElem? (i := 5) rfl))
  obtain ⟨n, o, h1, h2, h3, _, L, rfl, ⟨rfl, N⟩, -, hq⟩ := own_rm0 l s _ hw tables_1 i0 i1 i2 i3 i4 cs s.heap s.heap.size (Old.start s) SC hcs p e ha hc hk s m _ below hf ((Spec.applies_iff_loose hf).mp happ).1 ⟨rfl, State.Warmed39.refl s, rfl, hCH⟩ trivial
  refine ⟨n, _, h1, h2, h3, hpost _ _ _ _ _ _ ⟨Cond.after_iff.mpr rfl, Cond.after_iff.mpr (eq_i res_at (Term.int_eval (1)) rfl), trivial⟩ ⟨hq.1, hq.2.1, hq.2.2.1, (hq.2.2.2.sift fun y hy => Or.inr (N y hy)).mono (by decide) (by decide)⟩⟩
theorem main_1_1 : Claimed_1_1 := own_comes fun _ _ _ _ _ _ h hF => ⟨h.1, hF⟩
theorem main_1_2 : Claimed_1_2 := own_comes fun _ _ _ _ _ _ h hF => ⟨h.2.1, hF⟩
end Jvm.Pilot.@@N@@
namespace Jvm.Pilot.@@N@@
open Jvm Jvm.ClassFile Sem Op Lib Jvm.Free Jvm.Stand Jvm.Pilot.@@N@@.Jvm.D
/-! MADE BY PROGRAM (witnessworld.py) out of the Statement's table words and the real class files: 20 classes; the members and pool entries that the words name. The judged class is class 1, her method 2. -/
namespace start1
open Jvm.ClassFile
def u (s : String) : CpInfo := .utf8 (stringToUtf16 s)
/-- a pool by its gaps: so many unusable entries, then the entry; so many at the end -/
def gap : Nat → List CpInfo → List CpInfo
  | 0, r => r
  | n + 1, r => .unusable :: gap n r
def poolList (es : List (Nat × CpInfo)) (last : Nat) : List CpInfo := es.foldr (fun e r => gap e.1 (e.2 :: r)) (gap last [])
def pool (es : List (Nat × CpInfo)) (last : Nat) : Array CpInfo := ⟨poolList es last⟩
def fileOf (pool : Array CpInfo) (this : Nat) (attrs : Array Attribute := #[]) (ms : Array MethodInfo := #[]) (fl : Nat := 33) (sup : Nat := 0) (ifs : Array Nat := #[]) (fds : Array FieldInfo := #[]) : ClassFile where
  minorVersion := 0
  majorVersion := 65
  constantPool := pool
  accessFlags := fl
  thisClass := this
  superClass := sup
  interfaces := ifs
  fields := fds
  methods := ms
  attributes := attrs
def plain (name : String) (sup : Option ClassId) : Class where
  name := name
  kind := .ordinary
  loader := none
  accessFlags := 33
  super := sup
  interfaces := #[]
  cf := none
  fields := #[]
  methods := #[]
  instanceTypes := #[]
  staticTypes := #[]
  resolved := #[]
  callSites := []
  init := .initialized
  statics := none
  mirror := none

def pool0 : Array CpInfo := pool [(5, u "<init>"), (0, u "()V"), (1, .class_ 10), (1, u "java/lang/Object")] 113

def k0c0 : Code := { maxStack := 0, maxLocals := 1, code := object_method_1_code, exceptionTable := #[], attributes := #[] }
def k0m0 : Method := { name := "<init>", desc := "()V", sig := { parameters := [], returnType := none }, accessFlags := 1, code := some k0c0 }
/-- java/lang/Object -/
def k0 : Class := { plain "java/lang/Object" none with
  accessFlags := 33
  interfaces := #[]
  cf := some (fileOf pool0 8 #[] #[{ accessFlags := 1, nameIndex := 5, descriptorIndex := 6, attributes := #[] }] 33 0 #[] #[])
  fields := #[]
  methods := #[k0m0]
  instanceTypes := #[]
  staticTypes := #[]
  resolved := Array.replicate 124 none
  statics := none }

def pool1 : Array CpInfo := pool [(2, .class_ 4), (1, u "java/lang/Object"), (0, u "<init>"), (0, u "()V"), (0, .class_ 8), (0, u "java/lang/String"), (0, .methodref 7 10), (0, .nameAndType 5 11), (0, u "([C)V"), (0, .methodref 13 14), (0, .class_ 15), (0, .nameAndType 16 17), (0, u "com/example/drawdown/drawdown/input/TomlFloatEqualsPinLaw"), (0, u "mk"), (0, u "(ICC)Ljava/lang/String;"), (0, .class_ 19), (0, u "com/example/drawdown/drawdown/input/TomlFloat"), (0, .methodref 18 21), (0, .nameAndType 5 22), (0, u "(Ljava/lang/String;)V"), (0, .methodref 18 24), (0, .nameAndType 25 26), (0, u "equals"), (0, u "(Ljava/lang/Object;)Z"), (3, u "law"), (0, u "(IIIII)Z")] 2

def k1m0 : Method := { name := "<init>", desc := "()V", sig := { parameters := [], returnType := none }, accessFlags := 1, code := none }
def k1c1 : Code := { maxStack := 6, maxLocals := 3, code := method_2_code, exceptionTable := #[], attributes := #[] }
def k1m1 : Method := { name := "mk", desc := "(ICC)Ljava/lang/String;", sig := { parameters := [.int, .char, .char], returnType := some (.object "java/lang/String") }, accessFlags := 10, code := some k1c1 }
def k1c2 : Code := { maxStack := 3, maxLocals := 17, code := code, exceptionTable := #[], attributes := #[] }
def k1m2 : Method := { name := "law", desc := "(IIIII)Z", sig := { parameters := [.int, .int, .int, .int, .int], returnType := some .boolean }, accessFlags := 9, code := some k1c2 }
/-- com/example/drawdown/drawdown/input/TomlFloatEqualsPinLaw -/
def k1 : Class := { plain "com/example/drawdown/drawdown/input/TomlFloatEqualsPinLaw" (some 0) with
  accessFlags := 49
  interfaces := #[]
  cf := some (fileOf pool1 13 #[] #[{ accessFlags := 1, nameIndex := 5, descriptorIndex := 6, attributes := #[] }, { accessFlags := 10, nameIndex := 16, descriptorIndex := 17, attributes := #[] }, { accessFlags := 9, nameIndex := 30, descriptorIndex := 31, attributes := #[] }] 49 2 #[] #[])
  fields := #[]
  methods := #[k1m0, k1m1, k1m2]
  instanceTypes := #[]
  staticTypes := #[]
  resolved := Array.replicate 34 none
  statics := none }

def pool2 : Array CpInfo := pool [(1, .class_ 2), (0, u "java/io/Serializable"), (0, .class_ 4), (0, u "java/lang/Object")] 2

/-- java/io/Serializable -/
def k2 : Class := { plain "java/io/Serializable" (some 0) with
  accessFlags := 1537
  interfaces := #[]
  cf := some (fileOf pool2 1 #[] #[] 1537 3 #[] #[])
  fields := #[]
  methods := #[]
  instanceTypes := #[]
  staticTypes := #[]
  resolved := Array.replicate 7 none
  statics := none }

def pool3 : Array CpInfo := pool [(1, .class_ 2), (0, u "java/lang/Comparable"), (0, .class_ 4), (0, u "java/lang/Object")] 7

/-- java/lang/Comparable -/
def k3 : Class := { plain "java/lang/Comparable" (some 0) with
  accessFlags := 1537
  interfaces := #[]
  cf := some (fileOf pool3 1 #[] #[] 1537 3 #[] #[])
  fields := #[]
  methods := #[]
  instanceTypes := #[]
  staticTypes := #[]
  resolved := Array.replicate 12 none
  statics := none }

def pool4 : Array CpInfo := pool [(2, .class_ 4), (1, u "java/lang/CharSequence"), (42, .class_ 48), (0, u "java/lang/CharSequence$1CodePointIterator"), (10, .class_ 60), (0, u "java/lang/CharSequence$1CharIterator"), (5, .class_ 67), (0, u "java/lang/Object")] 63

/-- java/lang/CharSequence -/
def k4 : Class := { plain "java/lang/CharSequence" (some 0) with
  accessFlags := 1537
  interfaces := #[]
  cf := some (fileOf pool4 2 #[.nestMembers #[47, 59]] #[] 1537 66 #[] #[])
  fields := #[]
  methods := #[]
  instanceTypes := #[]
  staticTypes := #[]
  resolved := Array.replicate 131 none
  statics := none }

def pool5 : Array CpInfo := pool [(1, .class_ 2), (0, u "java/lang/constant/Constable"), (0, .class_ 4), (0, u "java/lang/Object")] 6

/-- java/lang/constant/Constable -/
def k5 : Class := { plain "java/lang/constant/Constable" (some 0) with
  accessFlags := 1537
  interfaces := #[]
  cf := some (fileOf pool5 1 #[] #[] 1537 3 #[] #[])
  fields := #[]
  methods := #[]
  instanceTypes := #[]
  staticTypes := #[]
  resolved := Array.replicate 11 none
  statics := none }

def pool6 : Array CpInfo := pool [(1, .class_ 2), (0, u "java/lang/constant/ConstantDesc"), (0, .class_ 4), (0, u "java/lang/Object")] 32

/-- java/lang/constant/ConstantDesc -/
def k6 : Class := { plain "java/lang/constant/ConstantDesc" (some 0) with
  accessFlags := 1537
  interfaces := #[]
  cf := some (fileOf pool6 1 #[] #[] 1537 3 #[] #[])
  fields := #[]
  methods := #[]
  instanceTypes := #[]
  staticTypes := #[]
  resolved := Array.replicate 37 none
  statics := none }

def pool7 : Array CpInfo := pool [(1, .methodref 2 3), (0, .class_ 4), (0, .nameAndType 5 6), (0, u "java/lang/Object"), (0, u "<init>"), (0, u "()V"), (0, .string 8), (0, u ""), (0, .fieldref 10 11), (0, .class_ 12), (0, .nameAndType 13 14), (0, u "java/lang/String"), (0, u "value"), (0, u "[B"), (0, .fieldref 10 16), (0, .nameAndType 17 18), (0, u "coder"), (0, u "B"), (2, u "hash"), (0, u "I"), (2, u "hashIsZero"), (0, u "Z"), (0, .methodref 10 28), (0, .nameAndType 5 29), (0, u "([CIILjava/lang/Void;)V"), (8, .fieldref 10 39), (0, .nameAndType 40 26), (0, u "COMPACT_STRINGS"), (1, .class_ 44), (1, u "java/lang/StringUTF16"), (0, u "compress"), (1, .methodref 42 48), (0, .nameAndType 49 50), (0, u "coderFromArrayLen"), (0, u "([BI)B"), (56, .class_ 109), (1, u "java/lang/StringLatin1"), (67, .methodref 42 178), (0, .nameAndType 45 179), (0, u "([CII)[B"), (361, .methodref 107 542), (0, .nameAndType 543 544), (0, u "equals"), (0, u "([B[B)Z"), (28, u "(Ljava/lang/Object;)Z"), (1, .class_ 576), (0, u "java/lang/CharSequence"), (22, u "CASE_INSENSITIVE_ORDER"), (0, u "Ljava/util/Comparator;"), (409, u "([C)V"), (90, u "serialPersistentFields"), (0, u "[Ljava/io/ObjectStreamField;"), (0, .class_ 1104), (0, u "java/lang/String$CaseInsensitiveComparator"), (1, .class_ 1107), (0, u "java/io/Serializable"), (0, .class_ 1109), (0, u "java/lang/Comparable"), (0, .class_ 1111), (0, u "java/lang/constant/Constable"), (0, .class_ 1113), (0, u "java/lang/constant/ConstantDesc"), (2, u "serialVersionUID"), (0, u "J"), (3, u "REPL"), (0, u "C"), (2, u "LATIN1"), (1, u "UTF16")] 323

def k7m0 : Method := { name := "<init>", desc := "()V", sig := { parameters := [], returnType := none }, accessFlags := 1, code := none }
def k7c1 : Code := { maxStack := 5, maxLocals := 2, code := jdk_42_method_3_code, exceptionTable := #[], attributes := #[] }
def k7m1 : Method := { name := "<init>", desc := "([C)V", sig := { parameters := [(.array .char)], returnType := none }, accessFlags := 1, code := some k7c1 }
def k7c2 : Code := { maxStack := 2, maxLocals := 3, code := jdk_42_method_66_code, exceptionTable := #[], attributes := #[] }
def k7m2 : Method := { name := "equals", desc := "(Ljava/lang/Object;)Z", sig := { parameters := [(.object "java/lang/Object")], returnType := some .boolean }, accessFlags := 1, code := some k7c2 }
def k7c3 : Code := { maxStack := 4, maxLocals := 6, code := jdk_42_method_149_code, exceptionTable := #[], attributes := #[] }
def k7m3 : Method := { name := "<init>", desc := "([CIILjava/lang/Void;)V", sig := { parameters := [(.array .char), .int, .int, (.object "java/lang/Void")], returnType := none }, accessFlags := 2, code := some k7c3 }
/-- java/lang/String -/
def k7 : Class := { plain "java/lang/String" (some 0) with
  accessFlags := 49
  interfaces := #[2, 3, 4, 5, 6]
  cf := some (fileOf pool7 10 #[.nestMembers #[1103]] #[{ accessFlags := 1, nameIndex := 5, descriptorIndex := 6, attributes := #[] }, { accessFlags := 1, nameIndex := 5, descriptorIndex := 1010, attributes := #[] }, { accessFlags := 1, nameIndex := 543, descriptorIndex := 573, attributes := #[] }, { accessFlags := 2, nameIndex := 5, descriptorIndex := 29, attributes := #[] }] 49 2 #[1106, 1108, 575, 1110, 1112] #[{ accessFlags := 18, nameIndex := 13, descriptorIndex := 14, attributes := #[] }, { accessFlags := 18, nameIndex := 17, descriptorIndex := 18, attributes := #[] }, { accessFlags := 2, nameIndex := 21, descriptorIndex := 22, attributes := #[] }, { accessFlags := 2, nameIndex := 25, descriptorIndex := 26, attributes := #[] }, { accessFlags := 26, nameIndex := 1116, descriptorIndex := 1117, attributes := #[] }, { accessFlags := 24, nameIndex := 40, descriptorIndex := 26, attributes := #[] }, { accessFlags := 26, nameIndex := 1101, descriptorIndex := 1102, attributes := #[] }, { accessFlags := 26, nameIndex := 1121, descriptorIndex := 1122, attributes := #[] }, { accessFlags := 25, nameIndex := 599, descriptorIndex := 600, attributes := #[] }, { accessFlags := 24, nameIndex := 1125, descriptorIndex := 18, attributes := #[] }, { accessFlags := 24, nameIndex := 1127, descriptorIndex := 18, attributes := #[] }])
  fields := #[{ name := "value", type := (.array .byte), accessFlags := 18, slot := 0, constantValue := 0 }, { name := "coder", type := .byte, accessFlags := 18, slot := 1, constantValue := 0 }, { name := "hash", type := .int, accessFlags := 2, slot := 2, constantValue := 0 }, { name := "hashIsZero", type := .boolean, accessFlags := 2, slot := 3, constantValue := 0 }, { name := "serialVersionUID", type := .long, accessFlags := 26, slot := 0, constantValue := 0 }, { name := "COMPACT_STRINGS", type := .boolean, accessFlags := 24, slot := 1, constantValue := 0 }, { name := "serialPersistentFields", type := (.array (.object "java/io/ObjectStreamField")), accessFlags := 26, slot := 2, constantValue := 0 }, { name := "REPL", type := .char, accessFlags := 26, slot := 3, constantValue := 0 }, { name := "CASE_INSENSITIVE_ORDER", type := (.object "java/util/Comparator"), accessFlags := 25, slot := 4, constantValue := 0 }, { name := "LATIN1", type := .byte, accessFlags := 24, slot := 5, constantValue := 0 }, { name := "UTF16", type := .byte, accessFlags := 24, slot := 6, constantValue := 0 }]
  methods := #[k7m0, k7m1, k7m2, k7m3]
  instanceTypes := #[(.array .byte), .byte, .int, .boolean]
  staticTypes := #[.long, .boolean, (.array (.object "java/io/ObjectStreamField")), .char, (.object "java/util/Comparator"), .byte, .byte]
  resolved := Array.replicate 1451 none
  statics := some 0 }

def pool8 : Array CpInfo := pool [(1, .methodref 2 3), (0, .class_ 4), (0, .nameAndType 5 6), (0, u "java/lang/Object"), (0, u "<init>"), (0, u "()V"), (0, .fieldref 8 9), (0, .class_ 10), (0, .nameAndType 11 12), (0, u "com/example/drawdown/drawdown/input/TomlFloat"), (0, u "text"), (0, u "Ljava/lang/String;"), (0, .methodref 14 15), (0, .class_ 16), (0, .nameAndType 17 18), (0, u "java/lang/String"), (0, u "equals"), (0, u "(Ljava/lang/Object;)Z"), (4, u "(Ljava/lang/String;)V")] 7

def k8c0 : Code := { maxStack := 2, maxLocals := 2, code := prog_30_method_1_code, exceptionTable := #[], attributes := #[] }
def k8m0 : Method := { name := "<init>", desc := "(Ljava/lang/String;)V", sig := { parameters := [(.object "java/lang/String")], returnType := none }, accessFlags := 0, code := some k8c0 }
def k8c1 : Code := { maxStack := 2, maxLocals := 3, code := prog_30_method_2_code, exceptionTable := #[], attributes := #[] }
def k8m1 : Method := { name := "equals", desc := "(Ljava/lang/Object;)Z", sig := { parameters := [(.object "java/lang/Object")], returnType := some .boolean }, accessFlags := 1, code := some k8c1 }
/-- com/example/drawdown/drawdown/input/TomlFloat -/
def k8 : Class := { plain "com/example/drawdown/drawdown/input/TomlFloat" (some 0) with
  accessFlags := 48
  interfaces := #[]
  cf := some (fileOf pool8 8 #[] #[{ accessFlags := 0, nameIndex := 5, descriptorIndex := 23, attributes := #[] }, { accessFlags := 1, nameIndex := 17, descriptorIndex := 18, attributes := #[] }] 48 2 #[] #[{ accessFlags := 18, nameIndex := 11, descriptorIndex := 12, attributes := #[] }])
  fields := #[{ name := "text", type := (.object "java/lang/String"), accessFlags := 18, slot := 0, constantValue := 0 }]
  methods := #[k8m0, k8m1]
  instanceTypes := #[(.object "java/lang/String")]
  staticTypes := #[]
  resolved := Array.replicate 31 none
  statics := none }

def pool9 : Array CpInfo := pool [(4, .class_ 6), (1, u "java/lang/Object"), (0, u "<init>"), (0, u "()V"), (5, .class_ 16), (1, u "java/lang/StringLatin1"), (104, u "$assertionsDisabled"), (0, u "Z"), (98, .class_ 223), (1, u "java/lang/StringLatin1$LinesSpliterator"), (57, u "equals"), (0, u "([B[B)Z"), (107, .class_ 391), (0, u "java/lang/StringLatin1$CharsSpliterator")] 3

def k9m0 : Method := { name := "<init>", desc := "()V", sig := { parameters := [], returnType := none }, accessFlags := 0, code := none }
def k9c1 : Code := { maxStack := 3, maxLocals := 3, code := jdk_43_method_13_code, exceptionTable := #[], attributes := #[] }
def k9m1 : Method := { name := "equals", desc := "([B[B)Z", sig := { parameters := [(.array .byte), (.array .byte)], returnType := some .boolean }, accessFlags := 9, code := some k9c1 }
/-- java/lang/StringLatin1 -/
def k9 : Class := { plain "java/lang/StringLatin1" (some 0) with
  accessFlags := 48
  interfaces := #[]
  cf := some (fileOf pool9 14 #[.nestMembers #[390, 221]] #[{ accessFlags := 0, nameIndex := 7, descriptorIndex := 8, attributes := #[] }, { accessFlags := 9, nameIndex := 281, descriptorIndex := 282, attributes := #[] }] 48 4 #[] #[{ accessFlags := 4120, nameIndex := 121, descriptorIndex := 122, attributes := #[] }])
  fields := #[{ name := "$assertionsDisabled", type := .boolean, accessFlags := 4120, slot := 0, constantValue := 0 }]
  methods := #[k9m0, k9m1]
  instanceTypes := #[]
  staticTypes := #[.boolean]
  resolved := Array.replicate 395 none
  statics := none }

def pool10 : Array CpInfo := pool [(6, .class_ 8), (1, u "java/lang/Object"), (0, u "<init>"), (0, u "()V"), (1, .class_ 14), (1, u "java/lang/StringUTF16"), (31, u "$assertionsDisabled"), (0, u "Z"), (13, u "HI_BYTE_SHIFT"), (0, u "I"), (2, u "LO_BYTE_SHIFT"), (49, .methodref 12 116), (0, .nameAndType 117 118), (0, u "compress"), (0, u "([CI[BII)I"), (3, u "([CII)[B"), (138, u "coderFromArrayLen"), (0, u "([BI)B"), (106, .class_ 371), (1, u "java/lang/StringUTF16$LinesSpliterator"), (58, u "MAX_LENGTH"), (196, .class_ 628), (0, u "java/lang/StringUTF16$CodePointsSpliterator"), (0, .class_ 630), (0, u "java/lang/StringUTF16$CharsSpliterator")] 4

def k10m0 : Method := { name := "<init>", desc := "()V", sig := { parameters := [], returnType := none }, accessFlags := 0, code := none }
def k10c1 : Code := { maxStack := 2, maxLocals := 2, code := jdk_52_method_15_code, exceptionTable := #[], attributes := #[] }
def k10m1 : Method := { name := "coderFromArrayLen", desc := "([BI)B", sig := { parameters := [(.array .byte), .int], returnType := some .byte }, accessFlags := 8, code := some k10c1 }
def k10c2 : Code := { maxStack := 5, maxLocals := 6, code := jdk_52_method_16_code, exceptionTable := #[], attributes := #[] }
def k10m2 : Method := { name := "compress", desc := "([CII)[B", sig := { parameters := [(.array .char), .int, .int], returnType := some (.array .byte) }, accessFlags := 9, code := some k10c2 }
def k10c3 : Code := { maxStack := 3, maxLocals := 7, code := jdk_52_method_21_code, exceptionTable := #[], attributes := #[] }
def k10m3 : Method := { name := "compress", desc := "([CI[BII)I", sig := { parameters := [(.array .char), .int, (.array .byte), .int, .int], returnType := some .int }, accessFlags := 9, code := some k10c3 }
/-- java/lang/StringUTF16 -/
def k10 : Class := { plain "java/lang/StringUTF16" (some 0) with
  accessFlags := 48
  interfaces := #[]
  cf := some (fileOf pool10 12 #[.nestMembers #[627, 629, 369]] #[{ accessFlags := 0, nameIndex := 9, descriptorIndex := 10, attributes := #[] }, { accessFlags := 8, nameIndex := 261, descriptorIndex := 262, attributes := #[] }, { accessFlags := 9, nameIndex := 117, descriptorIndex := 122, attributes := #[] }, { accessFlags := 9, nameIndex := 117, descriptorIndex := 118, attributes := #[] }] 48 6 #[] #[{ accessFlags := 26, nameIndex := 61, descriptorIndex := 62, attributes := #[] }, { accessFlags := 26, nameIndex := 65, descriptorIndex := 62, attributes := #[] }, { accessFlags := 24, nameIndex := 430, descriptorIndex := 62, attributes := #[] }, { accessFlags := 4120, nameIndex := 46, descriptorIndex := 47, attributes := #[] }])
  fields := #[{ name := "HI_BYTE_SHIFT", type := .int, accessFlags := 26, slot := 0, constantValue := 0 }, { name := "LO_BYTE_SHIFT", type := .int, accessFlags := 26, slot := 1, constantValue := 0 }, { name := "MAX_LENGTH", type := .int, accessFlags := 24, slot := 2, constantValue := 0 }, { name := "$assertionsDisabled", type := .boolean, accessFlags := 4120, slot := 3, constantValue := 0 }]
  methods := #[k10m0, k10m1, k10m2, k10m3]
  instanceTypes := #[]
  staticTypes := #[.int, .int, .int, .boolean]
  resolved := Array.replicate 635 none
  statics := none }

def pool11 : Array CpInfo := pool [(2, .class_ 4), (1, u "java/lang/Object"), (0, u "<init>"), (0, u "()V"), (17, .class_ 26), (1, u "jdk/internal/util/Preconditions"), (28, .class_ 56), (0, u "jdk/internal/util/Preconditions$4"), (57, .class_ 115), (0, u "jdk/internal/util/Preconditions$1"), (7, u "SIOOBE_FORMATTER"), (0, u "Ljava/util/function/BiFunction;"), (0, .class_ 126), (0, u "jdk/internal/util/Preconditions$2"), (3, u "AIOOBE_FORMATTER"), (0, .class_ 132), (0, u "jdk/internal/util/Preconditions$3"), (3, u "IOOBE_FORMATTER")] 57

def k11m0 : Method := { name := "<init>", desc := "()V", sig := { parameters := [], returnType := none }, accessFlags := 1, code := none }
/-- jdk/internal/util/Preconditions -/
def k11 : Class := { plain "jdk/internal/util/Preconditions" (some 0) with
  accessFlags := 33
  interfaces := #[]
  cf := some (fileOf pool11 24 #[.nestMembers #[55, 131, 125, 114]] #[{ accessFlags := 1, nameIndex := 5, descriptorIndex := 6, attributes := #[] }] 33 2 #[] #[{ accessFlags := 25, nameIndex := 123, descriptorIndex := 124, attributes := #[] }, { accessFlags := 25, nameIndex := 130, descriptorIndex := 124, attributes := #[] }, { accessFlags := 25, nameIndex := 136, descriptorIndex := 124, attributes := #[] }])
  fields := #[{ name := "SIOOBE_FORMATTER", type := (.object "java/util/function/BiFunction"), accessFlags := 25, slot := 0, constantValue := 0 }, { name := "AIOOBE_FORMATTER", type := (.object "java/util/function/BiFunction"), accessFlags := 25, slot := 1, constantValue := 0 }, { name := "IOOBE_FORMATTER", type := (.object "java/util/function/BiFunction"), accessFlags := 25, slot := 2, constantValue := 0 }]
  methods := #[k11m0]
  instanceTypes := #[]
  staticTypes := #[(.object "java/util/function/BiFunction"), (.object "java/util/function/BiFunction"), (.object "java/util/function/BiFunction")]
  resolved := Array.replicate 194 none
  statics := some 1 }

def pool12 : Array CpInfo := pool [(9, u "<init>"), (6, .class_ 18), (1, u "java/lang/Object"), (0, u "()V"), (1, .class_ 23), (1, u "jdk/internal/util/ArraysSupport"), (0, u "LOG2_ARRAY_LONG_INDEX_SCALE"), (0, u "I"), (2, u "U"), (0, u "Ljdk/internal/misc/Unsafe;"), (8, u "BIG_ENDIAN"), (0, u "Z"), (8, u "LOG2_BYTE_BIT_SIZE"), (4, u "LOG2_ARRAY_INT_INDEX_SCALE"), (54, u "JLA"), (0, u "Ljdk/internal/access/JavaLangAccess;"), (11, u "LOG2_ARRAY_BOOLEAN_INDEX_SCALE"), (9, u "LOG2_ARRAY_BYTE_INDEX_SCALE"), (5, u "LOG2_ARRAY_CHAR_INDEX_SCALE"), (5, u "LOG2_ARRAY_SHORT_INDEX_SCALE"), (18, u "LOG2_ARRAY_FLOAT_INDEX_SCALE"), (24, u "LOG2_ARRAY_DOUBLE_INDEX_SCALE"), (89, u "T_BOOLEAN"), (2, u "T_CHAR"), (1, u "T_FLOAT"), (1, u "T_DOUBLE"), (1, u "T_BYTE"), (1, u "T_SHORT"), (1, u "T_INT"), (1, u "T_LONG"), (1, u "SOFT_MAX_ARRAY_LENGTH")] 83

def k12m0 : Method := { name := "<init>", desc := "()V", sig := { parameters := [], returnType := none }, accessFlags := 2, code := none }
/-- jdk/internal/util/ArraysSupport -/
def k12 : Class := { plain "jdk/internal/util/ArraysSupport" (some 0) with
  accessFlags := 33
  interfaces := #[]
  cf := some (fileOf pool12 21 #[] #[{ accessFlags := 2, nameIndex := 9, descriptorIndex := 19, attributes := #[] }] 33 16 #[] #[{ accessFlags := 24, nameIndex := 28, descriptorIndex := 29, attributes := #[] }, { accessFlags := 26, nameIndex := 38, descriptorIndex := 39, attributes := #[] }, { accessFlags := 25, nameIndex := 121, descriptorIndex := 25, attributes := #[] }, { accessFlags := 25, nameIndex := 131, descriptorIndex := 25, attributes := #[] }, { accessFlags := 25, nameIndex := 137, descriptorIndex := 25, attributes := #[] }, { accessFlags := 25, nameIndex := 143, descriptorIndex := 25, attributes := #[] }, { accessFlags := 25, nameIndex := 53, descriptorIndex := 25, attributes := #[] }, { accessFlags := 25, nameIndex := 24, descriptorIndex := 25, attributes := #[] }, { accessFlags := 25, nameIndex := 162, descriptorIndex := 25, attributes := #[] }, { accessFlags := 25, nameIndex := 187, descriptorIndex := 25, attributes := #[] }, { accessFlags := 26, nameIndex := 48, descriptorIndex := 25, attributes := #[] }, { accessFlags := 25, nameIndex := 277, descriptorIndex := 25, attributes := #[] }, { accessFlags := 25, nameIndex := 280, descriptorIndex := 25, attributes := #[] }, { accessFlags := 25, nameIndex := 282, descriptorIndex := 25, attributes := #[] }, { accessFlags := 25, nameIndex := 284, descriptorIndex := 25, attributes := #[] }, { accessFlags := 25, nameIndex := 286, descriptorIndex := 25, attributes := #[] }, { accessFlags := 25, nameIndex := 288, descriptorIndex := 25, attributes := #[] }, { accessFlags := 25, nameIndex := 290, descriptorIndex := 25, attributes := #[] }, { accessFlags := 25, nameIndex := 292, descriptorIndex := 25, attributes := #[] }, { accessFlags := 26, nameIndex := 108, descriptorIndex := 109, attributes := #[] }, { accessFlags := 25, nameIndex := 294, descriptorIndex := 25, attributes := #[] }])
  fields := #[{ name := "U", type := (.object "jdk/internal/misc/Unsafe"), accessFlags := 24, slot := 0, constantValue := 0 }, { name := "BIG_ENDIAN", type := .boolean, accessFlags := 26, slot := 1, constantValue := 0 }, { name := "LOG2_ARRAY_BOOLEAN_INDEX_SCALE", type := .int, accessFlags := 25, slot := 2, constantValue := 0 }, { name := "LOG2_ARRAY_BYTE_INDEX_SCALE", type := .int, accessFlags := 25, slot := 3, constantValue := 0 }, { name := "LOG2_ARRAY_CHAR_INDEX_SCALE", type := .int, accessFlags := 25, slot := 4, constantValue := 0 }, { name := "LOG2_ARRAY_SHORT_INDEX_SCALE", type := .int, accessFlags := 25, slot := 5, constantValue := 0 }, { name := "LOG2_ARRAY_INT_INDEX_SCALE", type := .int, accessFlags := 25, slot := 6, constantValue := 0 }, { name := "LOG2_ARRAY_LONG_INDEX_SCALE", type := .int, accessFlags := 25, slot := 7, constantValue := 0 }, { name := "LOG2_ARRAY_FLOAT_INDEX_SCALE", type := .int, accessFlags := 25, slot := 8, constantValue := 0 }, { name := "LOG2_ARRAY_DOUBLE_INDEX_SCALE", type := .int, accessFlags := 25, slot := 9, constantValue := 0 }, { name := "LOG2_BYTE_BIT_SIZE", type := .int, accessFlags := 26, slot := 10, constantValue := 0 }, { name := "T_BOOLEAN", type := .int, accessFlags := 25, slot := 11, constantValue := 0 }, { name := "T_CHAR", type := .int, accessFlags := 25, slot := 12, constantValue := 0 }, { name := "T_FLOAT", type := .int, accessFlags := 25, slot := 13, constantValue := 0 }, { name := "T_DOUBLE", type := .int, accessFlags := 25, slot := 14, constantValue := 0 }, { name := "T_BYTE", type := .int, accessFlags := 25, slot := 15, constantValue := 0 }, { name := "T_SHORT", type := .int, accessFlags := 25, slot := 16, constantValue := 0 }, { name := "T_INT", type := .int, accessFlags := 25, slot := 17, constantValue := 0 }, { name := "T_LONG", type := .int, accessFlags := 25, slot := 18, constantValue := 0 }, { name := "JLA", type := (.object "jdk/internal/access/JavaLangAccess"), accessFlags := 26, slot := 19, constantValue := 0 }, { name := "SOFT_MAX_ARRAY_LENGTH", type := .int, accessFlags := 25, slot := 20, constantValue := 0 }]
  methods := #[k12m0]
  instanceTypes := #[]
  staticTypes := #[(.object "jdk/internal/misc/Unsafe"), .boolean, .int, .int, .int, .int, .int, .int, .int, .int, .int, .int, .int, .int, .int, .int, .int, .int, .int, (.object "jdk/internal/access/JavaLangAccess"), .int]
  resolved := Array.replicate 378 none
  statics := none }

def pool13 : Array CpInfo := pool [(1, u "java/lang/Cloneable"), (0, .class_ 1), (0, u "java/lang/Object"), (0, .class_ 3)] 3

/-- java/lang/Cloneable -/
def k13 : Class := { plain "java/lang/Cloneable" (some 0) with
  accessFlags := 1537
  interfaces := #[]
  cf := some (fileOf pool13 2 #[] #[] 1537 4 #[] #[])
  fields := #[]
  methods := #[]
  instanceTypes := #[]
  staticTypes := #[]
  resolved := Array.replicate 8 none
  statics := none }

/-- the primitive byte -/
def k14 : Class := { plain "byte" none with kind := .primitive 'B', accessFlags := 0x411 }
/-- [B -/
def k15 : Class := { plain "[B" (some 0) with kind := .array 14 .byte, interfaces := #[13, 2], accessFlags := 1041 }

/-- the primitive char -/
def k16 : Class := { plain "char" none with kind := .primitive 'C', accessFlags := 0x411 }
/-- [C -/
def k17 : Class := { plain "[C" (some 0) with kind := .array 16 .char, interfaces := #[13, 2], accessFlags := 1041 }

/-- the primitive int -/
def k18 : Class := { plain "int" none with kind := .primitive 'I', accessFlags := 0x411 }
/-- [I -/
def k19 : Class := { plain "[I" (some 0) with kind := .array 18 .int, interfaces := #[13, 2], accessFlags := 1041 }

def heap : Heap := #[{ cls := 7, slots := #[.long 0, .int 1, .null, .int 0, .null, .int 0, .int 0], vm := .statics 7 },
  { cls := 11, slots := #[.null, .null, .null], vm := .statics 11 }]
def classes : Array Class := #[k0, k1, k2, k3, k4, k5, k6, k7, k8, k9, k10, k11, k12, k13, k14, k15, k16, k17, k18, k19]
def interned : List (Array UInt16 × Addr) := []
def slotsUsed : Nat := 10
def theMethod : MethodId := ⟨1, 2⟩
def args0 : Array Value := #[.int 5, .int 66, .int 67, .int 68, .int 69]
def aboutOver (below : List Frame) : State where
  vm := { classes := classes, interned := interned.toArray }
  heap := heap
  slotsUsed := slotsUsed
  threads := #[{ frames := .invoking theMethod args0 :: below }]
def below0 : List Frame := [.native { method := ⟨0, 0⟩, args := #[] }]
def about1 : State := aboutOver below0
def p0 : Program := .bare "" "" ""
def e0 : Env := launch0.env 0 0 0
theorem w_frames : about1.frames = Frame.invoking theMethod args0 :: below0 := rfl
set_option maxRecDepth 65536 in
theorem w_args : argsFit about1.vm theMethod args0 = true := by decide +kernel
set_option maxRecDepth 65536 in
theorem w_heap : heapFits about1 = true := by decide +kernel
set_option maxRecDepth 65536 in
theorem w_runnable : about1.curStatus? = some .runnable := by decide +kernel
set_option maxRecDepth 65536 in
theorem w_alone : about1.alone = true := by decide +kernel
set_option maxRecDepth 65536 in
theorem w_named : about1.methodNamed? x = some theMethod := by decide +kernel
set_option maxRecDepth 65536 in
theorem w_hears : about1.hears theMethod below0 = true := by decide +kernel
set_option maxRecDepth 65536 in
theorem w_ripe : about1.ripe theMethod args0 below0 = true := by decide +kernel
theorem w_running : about1.status = .running := rfl
set_option maxRecDepth 65536 in
theorem w_room : about1.hasRoom e0.platform room_1 = true :=
  launch0.hasRoom_least _ room_1 (by decide +kernel) (by decide +kernel) (by decide +kernel) (by decide +kernel) (by decide +kernel) (by decide +kernel)
theorem allAtoms_all (ts : List Jvm.Cond) (a : Array Jvm.Value) (st : Jvm.State) : (allAtoms ts).before a st = ts.all (fun c => c.before a st) := by
  induction ts with
  | nil => rfl
  | cons c t ih =>
    show (Jvm.Cond.and c (allAtoms t)).before a st = _
    rw [Jvm.Cond.before_and, ih, List.all_cons]
def words1 : List Jvm.Cond := Jvm.Cond.code x code maxLocals ret :: tables_1
/-- a 'code' word, met by the world's own term for the bytes: nothing is compared byte by byte -/
theorem code_word {y : MethodName} {bytes : ByteArray} {mx : Nat} {rt : Option FieldType} {a : Array Value} {s : State} {m : MethodId} {meth : Method} {c : Code} (h1 : s.methodNamed? y = some m) (h2 : s.vm.method? m = some meth) (h3 : meth.code = some c) (h4 : c.code = bytes)
    (h5 : (c.maxLocals == mx && c.exceptionTable.isEmpty && decide (c.maxStack ≤ mostOperands) && decide (meth.sig.returnType = rt) && !meth.locks && decide (parseMethodDescriptor y.desc = some meth.sig)) = true) : (Jvm.Cond.code y bytes mx rt).before a s = true := by
  simp only [Bool.and_eq_true, beq_iff_eq, Bool.not_eq_true', decide_eq_true_eq] at h5
  obtain ⟨⟨⟨⟨⟨g1, g2⟩, g3⟩, g4⟩, g5⟩, g6⟩ := h5
  simp [Cond.before, Cond.holds, Cond.value, h1, h2, h3, h4, g1, g2, g3, g4, g5, g6]
def isCode : Jvm.Cond → Bool
  | .code _ _ _ _ => true
  | _ => false
theorem all_split {L : List Jvm.Cond} {P : Jvm.Cond → Bool} (h1 : L.all (fun c => isCode c || P c) = true) (h2 : ∀ c ∈ L.filter isCode, P c = true) : L.all P = true := by
  refine List.all_eq_true.mpr fun c hc => ?_
  have h := List.all_eq_true.mp h1 c hc
  rcases Bool.eq_false_or_eq_true (isCode c) with hi | hi
  · exact h2 c (List.mem_filter.mpr ⟨hc, hi⟩)
  · simpa [hi] using h
set_option maxRecDepth 65536 in
theorem w_c0 : (Jvm.Cond.code x code maxLocals ret).before args0 about1 = true := code_word (m := ⟨1, 2⟩) (meth := k1m2) (c := k1c2) (by decide +kernel) rfl rfl rfl (by decide +kernel)
set_option maxRecDepth 65536 in
theorem w_c1 : (Jvm.Cond.code ({ cls := "com/example/drawdown/drawdown/input/TomlFloatEqualsPinLaw", name := "mk", desc := "(ICC)Ljava/lang/String;" } : Jvm.MethodName) method_2_code (3 : Nat) (Option.some (Jvm.ClassFile.FieldType.object "java/lang/String"))).before args0 about1 = true := code_word (m := ⟨1, 1⟩) (meth := k1m1) (c := k1c1) (by decide +kernel) rfl rfl rfl (by decide +kernel)
set_option maxRecDepth 65536 in
theorem w_c2 : (Jvm.Cond.code ({ cls := "java/lang/String", name := "<init>", desc := "([C)V" } : Jvm.MethodName) jdk_42_method_3_code (2 : Nat) (Option.none : Option Jvm.ClassFile.FieldType)).before args0 about1 = true := code_word (m := ⟨7, 1⟩) (meth := k7m1) (c := k7c1) (by decide +kernel) rfl rfl rfl (by decide +kernel)
set_option maxRecDepth 65536 in
theorem w_c3 : (Jvm.Cond.code ({ cls := "java/lang/String", name := "<init>", desc := "([CIILjava/lang/Void;)V" } : Jvm.MethodName) jdk_42_method_149_code (6 : Nat) (Option.none : Option Jvm.ClassFile.FieldType)).before args0 about1 = true := code_word (m := ⟨7, 3⟩) (meth := k7m3) (c := k7c3) (by decide +kernel) rfl rfl rfl (by decide +kernel)
set_option maxRecDepth 65536 in
theorem w_c4 : (Jvm.Cond.code ({ cls := "java/lang/Object", name := "<init>", desc := "()V" } : Jvm.MethodName) object_method_1_code (1 : Nat) (Option.none : Option Jvm.ClassFile.FieldType)).before args0 about1 = true := code_word (m := ⟨0, 0⟩) (meth := k0m0) (c := k0c0) (by decide +kernel) rfl rfl rfl (by decide +kernel)
set_option maxRecDepth 65536 in
theorem w_c5 : (Jvm.Cond.code ({ cls := "com/example/drawdown/drawdown/input/TomlFloat", name := "<init>", desc := "(Ljava/lang/String;)V" } : Jvm.MethodName) prog_30_method_1_code (2 : Nat) (Option.none : Option Jvm.ClassFile.FieldType)).before args0 about1 = true := code_word (m := ⟨8, 0⟩) (meth := k8m0) (c := k8c0) (by decide +kernel) rfl rfl rfl (by decide +kernel)
set_option maxRecDepth 65536 in
theorem w_c6 : (Jvm.Cond.code ({ cls := "com/example/drawdown/drawdown/input/TomlFloat", name := "equals", desc := "(Ljava/lang/Object;)Z" } : Jvm.MethodName) prog_30_method_2_code (3 : Nat) (Option.some Jvm.ClassFile.FieldType.boolean)).before args0 about1 = true := code_word (m := ⟨8, 1⟩) (meth := k8m1) (c := k8c1) (by decide +kernel) rfl rfl rfl (by decide +kernel)
set_option maxRecDepth 65536 in
theorem w_c7 : (Jvm.Cond.code ({ cls := "java/lang/String", name := "equals", desc := "(Ljava/lang/Object;)Z" } : Jvm.MethodName) jdk_42_method_66_code (3 : Nat) (Option.some Jvm.ClassFile.FieldType.boolean)).before args0 about1 = true := code_word (m := ⟨7, 2⟩) (meth := k7m2) (c := k7c2) (by decide +kernel) rfl rfl rfl (by decide +kernel)
set_option maxRecDepth 65536 in
theorem w_c8 : (Jvm.Cond.code ({ cls := "java/lang/StringLatin1", name := "equals", desc := "([B[B)Z" } : Jvm.MethodName) jdk_43_method_13_code (3 : Nat) (Option.some Jvm.ClassFile.FieldType.boolean)).before args0 about1 = true := code_word (m := ⟨9, 1⟩) (meth := k9m1) (c := k9c1) (by decide +kernel) rfl rfl rfl (by decide +kernel)
set_option maxRecDepth 65536 in
theorem w_c9 : (Jvm.Cond.code ({ cls := "java/lang/StringUTF16", name := "compress", desc := "([CII)[B" } : Jvm.MethodName) jdk_52_method_16_code (6 : Nat) (Option.some (Jvm.ClassFile.FieldType.array Jvm.ClassFile.FieldType.byte))).before args0 about1 = true := code_word (m := ⟨10, 2⟩) (meth := k10m2) (c := k10c2) (by decide +kernel) rfl rfl rfl (by decide +kernel)
set_option maxRecDepth 65536 in
theorem w_c10 : (Jvm.Cond.code ({ cls := "java/lang/StringUTF16", name := "compress", desc := "([CI[BII)I" } : Jvm.MethodName) jdk_52_method_21_code (7 : Nat) (Option.some Jvm.ClassFile.FieldType.int)).before args0 about1 = true := code_word (m := ⟨10, 3⟩) (meth := k10m3) (c := k10c3) (by decide +kernel) rfl rfl rfl (by decide +kernel)
set_option maxRecDepth 65536 in
theorem w_c11 : (Jvm.Cond.code ({ cls := "java/lang/StringUTF16", name := "coderFromArrayLen", desc := "([BI)B" } : Jvm.MethodName) jdk_52_method_15_code (2 : Nat) (Option.some Jvm.ClassFile.FieldType.byte)).before args0 about1 = true := code_word (m := ⟨10, 1⟩) (meth := k10m1) (c := k10c1) (by decide +kernel) rfl rfl rfl (by decide +kernel)
def codes1 : List Jvm.Cond := [Jvm.Cond.code x code maxLocals ret, Jvm.Cond.code ({ cls := "com/example/drawdown/drawdown/input/TomlFloatEqualsPinLaw", name := "mk", desc := "(ICC)Ljava/lang/String;" } : Jvm.MethodName) method_2_code (3 : Nat) (Option.some (Jvm.ClassFile.FieldType.object "java/lang/String")), Jvm.Cond.code ({ cls := "java/lang/String", name := "<init>", desc := "([C)V" } : Jvm.MethodName) jdk_42_method_3_code (2 : Nat) (Option.none : Option Jvm.ClassFile.FieldType), Jvm.Cond.code ({ cls := "java/lang/String", name := "<init>", desc := "([CIILjava/lang/Void;)V" } : Jvm.MethodName) jdk_42_method_149_code (6 : Nat) (Option.none : Option Jvm.ClassFile.FieldType), Jvm.Cond.code ({ cls := "java/lang/Object", name := "<init>", desc := "()V" } : Jvm.MethodName) object_method_1_code (1 : Nat) (Option.none : Option Jvm.ClassFile.FieldType), Jvm.Cond.code ({ cls := "com/example/drawdown/drawdown/input/TomlFloat", name := "<init>", desc := "(Ljava/lang/String;)V" } : Jvm.MethodName) prog_30_method_1_code (2 : Nat) (Option.none : Option Jvm.ClassFile.FieldType), Jvm.Cond.code ({ cls := "com/example/drawdown/drawdown/input/TomlFloat", name := "equals", desc := "(Ljava/lang/Object;)Z" } : Jvm.MethodName) prog_30_method_2_code (3 : Nat) (Option.some Jvm.ClassFile.FieldType.boolean), Jvm.Cond.code ({ cls := "java/lang/String", name := "equals", desc := "(Ljava/lang/Object;)Z" } : Jvm.MethodName) jdk_42_method_66_code (3 : Nat) (Option.some Jvm.ClassFile.FieldType.boolean), Jvm.Cond.code ({ cls := "java/lang/StringLatin1", name := "equals", desc := "([B[B)Z" } : Jvm.MethodName) jdk_43_method_13_code (3 : Nat) (Option.some Jvm.ClassFile.FieldType.boolean), Jvm.Cond.code ({ cls := "java/lang/StringUTF16", name := "compress", desc := "([CII)[B" } : Jvm.MethodName) jdk_52_method_16_code (6 : Nat) (Option.some (Jvm.ClassFile.FieldType.array Jvm.ClassFile.FieldType.byte)), Jvm.Cond.code ({ cls := "java/lang/StringUTF16", name := "compress", desc := "([CI[BII)I" } : Jvm.MethodName) jdk_52_method_21_code (7 : Nat) (Option.some Jvm.ClassFile.FieldType.int), Jvm.Cond.code ({ cls := "java/lang/StringUTF16", name := "coderFromArrayLen", desc := "([BI)B" } : Jvm.MethodName) jdk_52_method_15_code (2 : Nat) (Option.some Jvm.ClassFile.FieldType.byte)]
set_option maxRecDepth 65536 in
theorem codes_eq : words1.filter isCode = codes1 := rfl
theorem w_codes : ∀ c ∈ words1.filter isCode, c.before args0 about1 = true := by
  rw [codes_eq]
  intro c hc
  simp only [codes1, List.mem_cons, List.not_mem_nil, or_false] at hc
  rcases hc with rfl | rfl | rfl | rfl | rfl | rfl | rfl | rfl | rfl | rfl | rfl | rfl
  · exact w_c0
  · exact w_c1
  · exact w_c2
  · exact w_c3
  · exact w_c4
  · exact w_c5
  · exact w_c6
  · exact w_c7
  · exact w_c8
  · exact w_c9
  · exact w_c10
  · exact w_c11
set_option maxRecDepth 65536 in
theorem w_t1 : (words1.take 24).all (fun c => isCode c || c.before args0 about1) = true := by decide +kernel
set_option maxRecDepth 65536 in
theorem w_t2 : ((words1.drop 24).take 24).all (fun c => isCode c || c.before args0 about1) = true := by decide +kernel
set_option maxRecDepth 65536 in
theorem w_t3 : ((words1.drop 24).drop 24).all (fun c => isCode c || c.before args0 about1) = true := by decide +kernel
theorem w_tables : (allAtoms (Jvm.Cond.code x code maxLocals ret :: tables_1)).before args0 about1 = true := by
  rw [allAtoms_all]
  show words1.all (fun c => c.before args0 about1) = true
  refine all_split ?_ w_codes
  rw [← List.take_append_drop 24 words1, List.all_append, w_t1, ← List.take_append_drop 24 (words1.drop 24), List.all_append, w_t2, w_t3]
  rfl
set_option maxRecDepth 65536 in
theorem w_rest : rest_1_c.before args0 about1 = true := by decide +kernel
set_option maxRecDepth 65536 in
theorem w_case : (Jvm.Cond.and given_1 narrow_1).before args0 about1 = true := by decide +kernel
set_option maxRecDepth 65536 in
theorem w_consts : constsHeld consts_1 about1 := Jvm.Lit.constsHeldB_iff.mp (by decide +kernel)
theorem w_applies : (headSpec (Jvm.Cond.code x code maxLocals ret :: tables_1) room_1).applies x e0.platform about1 = true :=
  (Spec.applies_iff w_frames).mpr ⟨w_running, w_runnable, w_alone, w_named, w_hears, w_ripe, w_room, w_tables⟩
theorem atStart : AtStart classFile x code maxLocals ret World_1 tables_1 room_1 Calls_1 rest_1 Pre_1 launch0 p0 e0 about1 theMethod args0 below0 :=
  ⟨lists_1, trivial, launch0.admits_env _ _ _, launch0.least_env, fairChoices_fair.cas, fairChoices_fair.clock, w_frames, w_args, w_heap, w_applies, ⟨w_consts, trivial⟩, w_rest, w_case⟩
end start1
theorem witness_1 : WitnessClaimed_1 := ⟨start1.p0, start1.e0, start1.about1, start1.theMethod, start1.args0, start1.below0, start1.atStart⟩
end Jvm.Pilot.@@N@@
