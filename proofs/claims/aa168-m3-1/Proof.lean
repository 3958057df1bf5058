import JvmDerived
import JvmDerived.Pilot.@@N@@Statement
import JvmDerived.Pilot.@@N@@Code
set_option linter.unusedVariables false
set_option linter.unusedSimpArgs false
namespace Jvm.Pilot.@@N@@
open Jvm Jvm.ClassFile Sem Op Lib Jvm.Free Jvm.Stand Jvm.LawKit Jvm.RoadKit Bundle Jvm.Pilot.@@N@@.Jvm.D
theorem own_m {α : Type} {L : List α} {d : α} (i : Nat) (h : L[i]? = some d) : d ∈ L := List.mem_of_getElem? h
abbrev oI (x : Int32) : Slot := .val (.int x)
abbrev oL (x : Int64) : Slot := .val (.long x)
abbrev oR (x : Addr) : Slot := .val (.ref x)
section Own
variable {p : Program} {l : Launch} {e : Env} {R : Room} {s : State} {m : MethodId} {args : Array Value} {below : List Frame} {meth : Method} {c : Code} {T T' : State} {locs : List Loc} {cells slots C N : Nat} {Z : State} {h h' : Heap} {n0 : Nat}
/-- from the frame g over T the run comes to a state of which P holds -/
def own_Rch (p : Program) (e : Env) (below : List Frame) (P : State → Prop) (T : State) (g : JFrame) : Prop := ∃ U, Steps p.tables e below (T.setTop g) U ∧ P U
/-- the body has ended as Q says -/
def own_End (s : State) (below : List Frame) (Q : Option Value → Heap → List Loc → Prop) (C N : Nat) (U : State) : Prop := U.status = .running ∧ ∃ v L, Ended U below (.returned v) ∧ Q v U.heap L ∧ FrameEnd s (.returned v) U L C N
theorem own_st {P : State → Prop} {g g' : JFrame} (h : ∀ t, Steps p.tables e below (T'.setTop g') t → Steps p.tables e below (T.setTop g) t) (k : own_Rch p e below P T' g') : own_Rch p e below P T g := by
  obtain ⟨U, h1, h2⟩ := k
  exact ⟨U, h U h1, h2⟩
theorem own_close {Q : Option Value → Heap → List Loc → Prop} {g : JFrame} (k : own_Rch p e below (own_End s below Q C N) T g) : ∃ U o, Steps p.tables e below (T.setTop g) U ∧ U.status = .running ∧ Ended U below o ∧ ∃ v L, o = .returned v ∧ Q v U.heap L ∧ FrameEnd s o U L C N := by
  obtain ⟨U, h1, h2, v, L, h3, h4, h5⟩ := k
  exact ⟨U, _, h1, h2, h3, v, L, rfl, h4, h5⟩
theorem own_retN {Q : Option Value → Heap → List Loc → Prop} {pc : Nat} {Ls : Array Slot} {z : Int32} {t : FieldType} {rest : List Value} (ht : t = .boolean ∨ t = .byte ∨ t = .char ∨ t = .short) (X : Stand p l e R s m args below meth c T locs cells slots) (hx : p.tables.exec = Jvm.exec) (hlk : meth.locks = false) (hret : meth.sig.returnType = some t) (hd : decode c.code pc = .ok (.ireturn, 1)) (hc : cells ≤ C) (hn : slots ≤ N)
    (hq : Q (some (.int (nar t z))) T.heap locs) : own_Rch p e below (own_End s below Q C N) T (mkF m pc Ls (.int z :: rest)) := by
  obtain ⟨fs, hr, hrun, hended, hW, hsame⟩ := X.leave (v := some (.int (nar t z))) (fun h => by rw [hret] at h; cases h) hlk
  exact ⟨_, retN X hx hret ht hd hr, hrun, _, _, hended, hq, ⟨_, rfl⟩, hW, hsame.mono hc hn⟩
theorem own_retI {Q : Option Value → Heap → List Loc → Prop} {pc : Nat} {Ls : Array Slot} {z : Int32} {rest : List Value} (X : Stand p l e R s m args below meth c T locs cells slots) (hx : p.tables.exec = Jvm.exec) (hlk : meth.locks = false) (hret : meth.sig.returnType = some .int) (hd : decode c.code pc = .ok (.ireturn, 1)) (hc : cells ≤ C) (hn : slots ≤ N)
    (hq : Q (some (.int z)) T.heap locs) : own_Rch p e below (own_End s below Q C N) T (mkF m pc Ls (.int z :: rest)) := by
  obtain ⟨fs, hr, hrun, hended, hW, hsame⟩ := X.leave (v := some (.int z)) (fun h => by rw [hret] at h; cases h) hlk
  exact ⟨_, retOut X hx hret rfl (Or.inl ⟨rfl, Or.inl rfl, z, rfl⟩) hd hr, hrun, _, _, hended, hq, ⟨_, rfl⟩, hW, hsame.mono hc hn⟩
theorem own_retL {Q : Option Value → Heap → List Loc → Prop} {pc : Nat} {Ls : Array Slot} {z : Int64} {rest : List Value} (X : Stand p l e R s m args below meth c T locs cells slots) (hx : p.tables.exec = Jvm.exec) (hlk : meth.locks = false) (hret : meth.sig.returnType = some .long) (hd : decode c.code pc = .ok (.lreturn, 1)) (hc : cells ≤ C) (hn : slots ≤ N)
    (hq : Q (some (.long z)) T.heap locs) : own_Rch p e below (own_End s below Q C N) T (mkF m pc Ls (.long z :: rest)) := by
  obtain ⟨fs, hr, hrun, hended, hW, hsame⟩ := X.leave (v := some (.long z)) (fun h => by rw [hret] at h; cases h) hlk
  exact ⟨_, retOut X hx hret rfl (Or.inr (Or.inl ⟨rfl, rfl, z, rfl⟩)) hd hr, hrun, _, _, hended, hq, ⟨_, rfl⟩, hW, hsame.mono hc hn⟩
theorem own_narref {t : FieldType} {w : Value} (ht : t.isReference = true) : narrow t w = w := by cases t <;> first | rfl | (cases ht; done)
theorem own_retA {Q : Option Value → Heap → List Loc → Prop} {pc : Nat} {Ls : Array Slot} {w : Value} {t : FieldType} {rest : List Value} (ht : t.isReference = true) (hw : w.isRef = true) (X : Stand p l e R s m args below meth c T locs cells slots) (hx : p.tables.exec = Jvm.exec) (hlk : meth.locks = false) (hret : meth.sig.returnType = some t) (hd : decode c.code pc = .ok (.areturn, 1)) (hc : cells ≤ C) (hn : slots ≤ N)
    (hq : Q (some w) T.heap locs) : own_Rch p e below (own_End s below Q C N) T (mkF m pc Ls (w :: rest)) := by
  obtain ⟨fs, hr, hrun, hended, hW, hsame⟩ := X.leave (v := some w) (fun h => by rw [hret] at h; cases h) hlk
  exact ⟨_, retOut X hx hret (own_narref ht) (Or.inr (Or.inr (Or.inr (Or.inr ⟨rfl, ht, hw⟩)))) hd hr, hrun, _, _, hended, hq, ⟨_, rfl⟩, hW, hsame.mono hc hn⟩
theorem own_retV {Q : Option Value → Heap → List Loc → Prop} {pc : Nat} {Ls : Array Slot} (X : Stand p l e R s m args below meth c T locs cells slots) (hx : p.tables.exec = Jvm.exec) (hlk : meth.locks = false) (hret : meth.sig.returnType = none) (hd : decode c.code pc = .ok (.return_, 1)) (hc : cells ≤ C) (hn : slots ≤ N)
    (hq : Q none T.heap locs) : own_Rch p e below (own_End s below Q C N) T (mkF m pc Ls []) := by
  obtain ⟨fs, hr, hrun, hended, hW, hsame⟩ := X.leave (v := none) (fun _ => rfl) hlk
  exact ⟨_, X.returnOut hx hret hd hr, hrun, _, _, hended, hq, ⟨_, rfl⟩, hW, hsame.mono hc hn⟩
theorem own_psel {y : MethodName} {n : Nat} (hins : (Jvm.Cond.instantiable y.cls n).before args s = true) (hpriv : (Jvm.Cond.privateMethod y).before args s = true) (hinst : (Jvm.Cond.instanceMethod y).before args s = true) (hy : y.cls ≠ "java/lang/invoke/MethodHandle" ∧ y.cls ≠ "java/lang/invoke/VarHandle" := by decide) : (Jvm.Cond.selects y.cls y y).before args s = true := by
  obtain ⟨c, k, hc, hk, -, hniab, -, -⟩ := Cond.instantiable_spec hins
  have hni : k.isInterface = false := (Bool.or_eq_false_iff.mp hniab).1
  obtain ⟨mk, methM, hnamed, hmethM, -, -⟩ := Cond.instanceMethod_spec hinst
  have hfound : s.methodFound? y.cls y.name y.desc = some mk := State.methodFound?_of_named hnamed hy
  have hcls : mk.cls = c := Option.some.inj ((findClass_of_methodNamed hnamed).symm.trans hc)
  have hsel : selectMethod {} s.vm c mk = .method mk := selectMethod_private hmethM (Cond.privateMethod_at hpriv mk methM hnamed hmethM)
  simp only [Cond.before, Cond.holds, Cond.value, hc, hfound, hnamed, hsel, hcls, hk]
  simp; exact hni
theorem own_mvMN {a0 : Array Value} {own host : String} {y : MethodName} {index : Nat} (hZ : Z.Warmed39 s.vm) (w : (Jvm.Cond.methodLinkNest own index y host).before a0 Z = true) : (Jvm.Cond.methodLinkNest own index y host).before args s = true := (Cond.methodLinkNest_wide hZ w :)
theorem own_cat {v : Value} (h : v.isRef = true) : v.category = 1 := by cases v <;> first | rfl | (cases h; done)
theorem own_since (s : State) : s.Since s.vm 0 := (State.WarmedH.refl s).since 0
def own_EndW (s : State) (below : List Frame) (Q : Option Value → Heap → List Loc → Prop) (C N : Nat) (U : State) : Prop := U.status = .running ∧ ∃ v L, Ended U below (.returned v) ∧ Q v U.heap L ∧ ReturnedEndW s (.returned v) U L C N
theorem own_closeW {Q : Option Value → Heap → List Loc → Prop} {g : JFrame} (k : own_Rch p e below (own_EndW s below Q C N) T g) : ∃ U o, Steps p.tables e below (T.setTop g) U ∧ U.status = .running ∧ Ended U below o ∧ ∃ v L, o = .returned v ∧ Q v U.heap L ∧ ReturnedEndW s o U L C N := by
  obtain ⟨U, h1, h2, v, L, h3, h4, h5⟩ := k
  exact ⟨U, _, h1, h2, h3, v, L, rfl, h4, h5⟩
theorem own_retNW {vm0 : Vm} {k0 : Nat} {Q : Option Value → Heap → List Loc → Prop} {pc : Nat} {Ls : Array Slot} {z : Int32} {t : FieldType} {rest : List Value} (ht : t = .boolean ∨ t = .byte ∨ t = .char ∨ t = .short) (hS : s.Since vm0 k0) (hk : k0 ≤ T.heap.size) (X : Stand p l e R (s.setVm vm0) m args below meth c T locs cells slots) (hx : p.tables.exec = Jvm.exec) (hlk : meth.locks = false) (hret : meth.sig.returnType = some t) (hd : decode c.code pc = .ok (.ireturn, 1)) (hc : cells ≤ C) (hn : slots ≤ N)
    (hq : Q (some (.int (nar t z))) T.heap locs) : own_Rch p e below (own_EndW s below Q C N) T (mkF m pc Ls (.int z :: rest)) := by
  obtain ⟨fs, hr, hrun, hended, h1, h2, h3, h4⟩ := X.leaveW hS hk (v := some (.int (nar t z))) (fun h => by rw [hret] at h; cases h) hlk
  exact ⟨_, retN X hx hret ht hd hr, hrun, _, _, hended, hq, h1, h2, h3, h4.mono hc hn⟩
theorem own_retIW {vm0 : Vm} {k0 : Nat} {Q : Option Value → Heap → List Loc → Prop} {pc : Nat} {Ls : Array Slot} {z : Int32} {rest : List Value} (hS : s.Since vm0 k0) (hk : k0 ≤ T.heap.size) (X : Stand p l e R (s.setVm vm0) m args below meth c T locs cells slots) (hx : p.tables.exec = Jvm.exec) (hlk : meth.locks = false) (hret : meth.sig.returnType = some .int) (hd : decode c.code pc = .ok (.ireturn, 1)) (hc : cells ≤ C) (hn : slots ≤ N)
    (hq : Q (some (.int z)) T.heap locs) : own_Rch p e below (own_EndW s below Q C N) T (mkF m pc Ls (.int z :: rest)) := by
  obtain ⟨fs, hr, hrun, hended, h1, h2, h3, h4⟩ := X.leaveW hS hk (v := some (.int z)) (fun h => by rw [hret] at h; cases h) hlk
  exact ⟨_, retOut X hx hret rfl (Or.inl ⟨rfl, Or.inl rfl, z, rfl⟩) hd hr, hrun, _, _, hended, hq, h1, h2, h3, h4.mono hc hn⟩
theorem own_retAW {vm0 : Vm} {k0 : Nat} {Q : Option Value → Heap → List Loc → Prop} {pc : Nat} {Ls : Array Slot} {w : Value} {t : FieldType} {rest : List Value} (ht : t.isReference = true) (hw : w.isRef = true) (hS : s.Since vm0 k0) (hk : k0 ≤ T.heap.size) (X : Stand p l e R (s.setVm vm0) m args below meth c T locs cells slots) (hx : p.tables.exec = Jvm.exec) (hlk : meth.locks = false) (hret : meth.sig.returnType = some t) (hd : decode c.code pc = .ok (.areturn, 1)) (hc : cells ≤ C) (hn : slots ≤ N)
    (hq : Q (some w) T.heap locs) : own_Rch p e below (own_EndW s below Q C N) T (mkF m pc Ls (w :: rest)) := by
  obtain ⟨fs, hr, hrun, hended, h1, h2, h3, h4⟩ := X.leaveW hS hk (v := some w) (fun h => by rw [hret] at h; cases h) hlk
  exact ⟨_, retOut X hx hret (own_narref ht) (Or.inr (Or.inr (Or.inr (Or.inr ⟨rfl, ht, hw⟩)))) hd hr, hrun, _, _, hended, hq, h1, h2, h3, h4.mono hc hn⟩
theorem own_retVW {vm0 : Vm} {k0 : Nat} {Q : Option Value → Heap → List Loc → Prop} {pc : Nat} {Ls : Array Slot} (hS : s.Since vm0 k0) (hk : k0 ≤ T.heap.size) (X : Stand p l e R (s.setVm vm0) m args below meth c T locs cells slots) (hx : p.tables.exec = Jvm.exec) (hlk : meth.locks = false) (hret : meth.sig.returnType = none) (hd : decode c.code pc = .ok (.return_, 1)) (hc : cells ≤ C) (hn : slots ≤ N)
    (hq : Q none T.heap locs) : own_Rch p e below (own_EndW s below Q C N) T (mkF m pc Ls []) := by
  obtain ⟨fs, hr, hrun, hended, h1, h2, h3, h4⟩ := X.leaveW hS hk (v := none) (fun _ => rfl) hlk
  exact ⟨_, X.returnOut hx hret hd hr, hrun, _, _, hended, hq, h1, h2, h3, h4.mono hc hn⟩
def own_EndH (Z : State) (EL : List (String × Nat)) (s : State) (below : List Frame) (Q : Option Value → Heap → List Loc → Prop) (C N : Nat) (U : State) : Prop := U.status = .running ∧ ∃ v L, Ended U below (.returned v) ∧ Q v U.heap L ∧ CHr Z EL s.vm s.heap U.vm U.heap ∧ ReturnedEndW s (.returned v) U L C N
theorem own_closeH {EL : List (String × Nat)} {Q : Option Value → Heap → List Loc → Prop} {g : JFrame} (k : own_Rch p e below (own_EndH Z EL s below Q C N) T g) : ∃ U o, Steps p.tables e below (T.setTop g) U ∧ U.status = .running ∧ Ended U below o ∧ ∃ v L, o = .returned v ∧ Q v U.heap L ∧ CHr Z EL s.vm s.heap U.vm U.heap ∧ ReturnedEndW s o U L C N := by
  obtain ⟨U, h1, h2, v, L, h3, h4, h5⟩ := k
  exact ⟨U, _, h1, h2, h3, v, L, rfl, h4, h5⟩
theorem own_retNH {EL : List (String × Nat)} {vm0 : Vm} {k0 : Nat} {Q : Option Value → Heap → List Loc → Prop} {pc : Nat} {Ls : Array Slot} {z : Int32} {t : FieldType} {rest : List Value} (ht : t = .boolean ∨ t = .byte ∨ t = .char ∨ t = .short) (hcr : CHr Z EL s.vm s.heap T.vm T.heap) (hS : s.Since vm0 k0) (hk : k0 ≤ T.heap.size) (X : Stand p l e R (s.setVm vm0) m args below meth c T locs cells slots) (hx : p.tables.exec = Jvm.exec) (hlk : meth.locks = false) (hret : meth.sig.returnType = some t) (hd : decode c.code pc = .ok (.ireturn, 1)) (hc : cells ≤ C) (hn : slots ≤ N)
    (hq : Q (some (.int (nar t z))) T.heap locs) : own_Rch p e below (own_EndH Z EL s below Q C N) T (mkF m pc Ls (.int z :: rest)) := by
  obtain ⟨fs, hr, hrun, hended, h1, h2, h3, h4⟩ := X.leaveW hS hk (v := some (.int (nar t z))) (fun h => by rw [hret] at h; cases h) hlk
  exact ⟨_, retN X hx hret ht hd hr, hrun, _, _, hended, hq, hcr, h1, h2, h3, h4.mono hc hn⟩
theorem own_retIH {EL : List (String × Nat)} {vm0 : Vm} {k0 : Nat} {Q : Option Value → Heap → List Loc → Prop} {pc : Nat} {Ls : Array Slot} {z : Int32} {rest : List Value} (hcr : CHr Z EL s.vm s.heap T.vm T.heap) (hS : s.Since vm0 k0) (hk : k0 ≤ T.heap.size) (X : Stand p l e R (s.setVm vm0) m args below meth c T locs cells slots) (hx : p.tables.exec = Jvm.exec) (hlk : meth.locks = false) (hret : meth.sig.returnType = some .int) (hd : decode c.code pc = .ok (.ireturn, 1)) (hc : cells ≤ C) (hn : slots ≤ N)
    (hq : Q (some (.int z)) T.heap locs) : own_Rch p e below (own_EndH Z EL s below Q C N) T (mkF m pc Ls (.int z :: rest)) := by
  obtain ⟨fs, hr, hrun, hended, h1, h2, h3, h4⟩ := X.leaveW hS hk (v := some (.int z)) (fun h => by rw [hret] at h; cases h) hlk
  exact ⟨_, retOut X hx hret rfl (Or.inl ⟨rfl, Or.inl rfl, z, rfl⟩) hd hr, hrun, _, _, hended, hq, hcr, h1, h2, h3, h4.mono hc hn⟩
theorem own_retAH {EL : List (String × Nat)} {vm0 : Vm} {k0 : Nat} {Q : Option Value → Heap → List Loc → Prop} {pc : Nat} {Ls : Array Slot} {w : Value} {t : FieldType} {rest : List Value} (ht : t.isReference = true) (hw : w.isRef = true) (hcr : CHr Z EL s.vm s.heap T.vm T.heap) (hS : s.Since vm0 k0) (hk : k0 ≤ T.heap.size) (X : Stand p l e R (s.setVm vm0) m args below meth c T locs cells slots) (hx : p.tables.exec = Jvm.exec) (hlk : meth.locks = false) (hret : meth.sig.returnType = some t) (hd : decode c.code pc = .ok (.areturn, 1)) (hc : cells ≤ C) (hn : slots ≤ N)
    (hq : Q (some w) T.heap locs) : own_Rch p e below (own_EndH Z EL s below Q C N) T (mkF m pc Ls (w :: rest)) := by
  obtain ⟨fs, hr, hrun, hended, h1, h2, h3, h4⟩ := X.leaveW hS hk (v := some w) (fun h => by rw [hret] at h; cases h) hlk
  exact ⟨_, retOut X hx hret (own_narref ht) (Or.inr (Or.inr (Or.inr (Or.inr ⟨rfl, ht, hw⟩)))) hd hr, hrun, _, _, hended, hq, hcr, h1, h2, h3, h4.mono hc hn⟩
theorem own_retVH {EL : List (String × Nat)} {vm0 : Vm} {k0 : Nat} {Q : Option Value → Heap → List Loc → Prop} {pc : Nat} {Ls : Array Slot} (hcr : CHr Z EL s.vm s.heap T.vm T.heap) (hS : s.Since vm0 k0) (hk : k0 ≤ T.heap.size) (X : Stand p l e R (s.setVm vm0) m args below meth c T locs cells slots) (hx : p.tables.exec = Jvm.exec) (hlk : meth.locks = false) (hret : meth.sig.returnType = none) (hd : decode c.code pc = .ok (.return_, 1)) (hc : cells ≤ C) (hn : slots ≤ N)
    (hq : Q none T.heap locs) : own_Rch p e below (own_EndH Z EL s below Q C N) T (mkF m pc Ls []) := by
  obtain ⟨fs, hr, hrun, hended, h1, h2, h3, h4⟩ := X.leaveW hS hk (v := none) (fun _ => rfl) hlk
  exact ⟨_, X.returnOut hx hret hd hr, hrun, _, _, hended, hq, hcr, h1, h2, h3, h4.mono hc hn⟩
theorem own_old_le (O : Old Z n0 h) : n0 ≤ h.size := O.1 ▸ O.2.1
end Own
def own_bit (x : Int64) (j : Nat) : Prop := x.toBitVec.getLsbD j = true
theorem own_amt (i : Int32) (k : Nat) (hk : i.toInt % 64 = k) : (i &&& 0x3f).toInt64 = Int64.ofNat k := by
  have h := c_mask i (0x3f : Int32) 6 (by decide) (by decide)
  rw [← Int64.toInt_inj, Int32.toInt_toInt64, h, Int64.toInt_ofNat']
  have : ((2 ^ 6 : Nat) : Int) = 64 := by decide
  rw [this, hk]
  have k64 : k < 64 := by omega
  exact (Int.bmod_eq_of_le (by rw [show Int64.size = 18446744073709551616 from rfl]; omega) (by rw [show Int64.size = 18446744073709551616 from rfl]; omega)).symm
theorem own_hi0 : ∀ k : Fin 64, ∀ j : Fin 64, ((((-1 : Int64) <<< Int64.ofNat k.val).toBitVec.getLsbD j.val = true) ↔ k.val ≤ j.val) := by decide +kernel
theorem own_lo0 : ∀ k : Fin 64, ∀ j : Fin 64, (((((-1 : Int64).toUInt64 >>> (Int64.ofNat k.val).toUInt64).toInt64).toBitVec.getLsbD j.val = true) ↔ j.val + k.val < 64) := by decide +kernel
theorem own_hi {i : Int32} {k j : Nat} (hk : i.toInt % 64 = k) (hj : j < 64) : own_bit ((-1 : Int64) <<< (i &&& 0x3f).toInt64) j ↔ k ≤ j := by
  rw [own_amt i k hk]; exact own_hi0 ⟨k, by omega⟩ ⟨j, hj⟩
theorem own_lo {i : Int32} {k j : Nat} (hk : i.toInt % 64 = k) (hj : j < 64) : own_bit (((-1 : Int64).toUInt64 >>> (i &&& 0x3f).toInt64.toUInt64).toInt64) j ↔ j + k < 64 := by
  rw [own_amt i k hk]; exact own_lo0 ⟨k, by omega⟩ ⟨j, hj⟩
theorem own_bit_and {x y : Int64} {j : Nat} : own_bit (x &&& y) j ↔ own_bit x j ∧ own_bit y j := by simp [own_bit]
theorem own_bit_or {x y : Int64} {j : Nat} : own_bit (x ||| y) j ↔ own_bit x j ∨ own_bit y j := by simp [own_bit]
theorem own_bit_not {x : Int64} {j : Nat} (hj : j < 64) : own_bit (x ^^^ (-1 : Int64)) j ↔ ¬ own_bit x j := by
  have h : (-1 : Int64).toBitVec.getLsbD j = true := by
    have : (-1 : Int64).toBitVec = BitVec.allOnes 64 := by decide
    rw [this, BitVec.getLsbD_allOnes]; exact decide_eq_true hj
  unfold own_bit
  rw [Int64.toBitVec_xor, BitVec.getLsbD_xor, h]
  cases x.toBitVec.getLsbD j <;> simp
theorem own_bit_zero (j : Nat) : ¬ own_bit 0 j := by simp [own_bit]
theorem own_bit_ge {x : Int64} {j : Nat} (h : 64 ≤ j) : ¬ own_bit x j := by
  unfold own_bit; rw [BitVec.getLsbD_of_ge _ _ h]; decide
theorem own_X {x : Int64} {j : Nat} : own_bit x j ↔ x.toBitVec.toNat.testBit j = true := by
  unfold own_bit; rw [BitVec.getLsbD]
theorem own_top {x : Int64} {k : Nat} (h1 : 2 ^ k ≤ x.toBitVec.toNat) (h2 : x.toBitVec.toNat < 2 ^ (k + 1)) : own_bit x k ∧ ∀ j, k < j → ¬ own_bit x j := by
  constructor
  · rw [own_X, Nat.testBit_eq_decide_div_mod_eq]
    have : x.toBitVec.toNat / 2 ^ k = 1 := by
      rw [Nat.pow_succ] at h2
      exact Nat.div_eq_of_lt_le (by omega) (by omega)
    rw [this]; decide
  · intro j hj
    rw [own_X, Nat.testBit_lt_two_pow (Nat.lt_of_lt_of_le h2 (Nat.pow_le_pow_right (by decide) hj))]
    decide
theorem own_bot {x : Int64} {k : Nat} (h1 : x.toBitVec.toNat % 2 ^ (k + 1) = 2 ^ k) : own_bit x k ∧ ∀ j, j < k → ¬ own_bit x j := by
  have t : ∀ j, j < k + 1 → x.toBitVec.toNat.testBit j = (2 ^ k).testBit j := by
    intro j hj
    rw [← h1, Nat.testBit_mod_two_pow]; simp [hj]
  constructor
  · rw [own_X, t k (by omega)]; simp
  · intro j hj
    rw [own_X, t j (by omega), Nat.testBit_two_pow]; simp; omega
theorem own_lo32 (x : Int64) : x.toInt32.toBitVec.toNat = x.toBitVec.toNat % 4294967296 := by
  rw [Int64.toBitVec_toInt32, BitVec.signExtend_eq_setWidth_of_le _ (by decide), BitVec.toNat_setWidth]
theorem own_hi32 (x : Int64) : ((x.toUInt64 >>> ((32 : Int32) &&& 0x3f).toInt64.toUInt64).toInt64).toInt32.toBitVec.toNat = x.toBitVec.toNat / 4294967296 := by
  have e : ((32 : Int32) &&& 0x3f).toInt64.toUInt64 = 32 := by decide
  rw [e, own_lo32]
  have : ((x.toUInt64 >>> 32).toInt64).toBitVec.toNat = x.toBitVec.toNat / 4294967296 := by
    simp [Nat.shiftRight_eq_div_pow]
  rw [this]
  have := x.toBitVec.isLt
  omega
theorem own_zero32 {x : Int32} : x = 0 ↔ x.toBitVec.toNat = 0 := by
  constructor
  · rintro rfl; decide
  · intro h; apply Int32.toBitVec_inj.mp; apply BitVec.eq_of_toNat_eq; rw [h]; decide
theorem own_zero64 {x : Int64} : x = 0 ↔ x.toBitVec.toNat = 0 := by
  constructor
  · rintro rfl; decide
  · intro h; apply Int64.toBitVec_inj.mp; apply BitVec.eq_of_toNat_eq; rw [h]; decide
theorem own_u32 (x : Int32) : (0 ≤ x.toInt → (x.toBitVec.toNat : Int) = x.toInt) ∧ (x.toInt < 0 → (x.toBitVec.toNat : Int) = x.toInt + 4294967296) := by
  have h := BitVec.toInt_eq_toNat_cond x.toBitVec
  have e : x.toInt = x.toBitVec.toInt := rfl
  rw [e, h]
  have := x.toBitVec.isLt
  split <;> constructor <;> omega
/-- the number of leading zeros -/
def own_nlz32 (i r : Int32) : Prop := ∃ k : Nat, k ≤ 31 ∧ r.toInt = 31 - k ∧ 2 ^ k ≤ i.toBitVec.toNat ∧ i.toBitVec.toNat < 2 ^ (k + 1)
def own_nlz64 (x : Int64) (r : Int32) : Prop := ∃ k : Nat, k ≤ 63 ∧ r.toInt = 63 - k ∧ own_bit x k ∧ ∀ j, k < j → ¬ own_bit x j
def own_ntz32 (i r : Int32) : Prop := ∃ k : Nat, k ≤ 31 ∧ r.toInt = k ∧ i.toBitVec.toNat % 2 ^ (k + 1) = 2 ^ k
def own_ntz64 (x : Int64) (r : Int32) : Prop := ∃ k : Nat, k ≤ 63 ∧ r.toInt = k ∧ own_bit x k ∧ ∀ j, j < k → ¬ own_bit x j
theorem own_sm {x y : Int32} {a b : Int} (hx : x.toInt = a) (hy : y.toInt = b) (h1 : -2147483648 ≤ a + b) (h2 : a + b < 2147483648) : (x + y).toInt = a + b := by
  rw [Int32.toInt_add, hx, hy]; exact Int.bmod_eq_of_le (by omega) (by omega)
theorem own_sb {x y : Int32} {a b : Int} (hx : x.toInt = a) (hy : y.toInt = b) (h1 : -2147483648 ≤ a - b) (h2 : a - b < 2147483648) : (x - y).toInt = a - b := by
  rw [Int32.toInt_sub, hx, hy]; exact Int.bmod_eq_of_le (by omega) (by omega)
theorem own_nlz_hi {x : Int64} {r : Int32} (h : own_nlz32 ((x.toUInt64 >>> ((32 : Int32) &&& 0x3f).toInt64.toUInt64).toInt64).toInt32 r) : own_nlz64 x r := by
  obtain ⟨k, hk, hr, h1, h2⟩ := h
  rw [own_hi32] at h1 h2
  refine ⟨k + 32, by omega, by omega, own_top ?_ ?_⟩
  · rw [Nat.pow_add]; omega
  · rw [show k + 32 + 1 = k + 1 + 32 by omega, Nat.pow_add _ (k + 1)]; omega
theorem own_nlz_lo {x : Int64} {r : Int32} (hz : ((x.toUInt64 >>> ((32 : Int32) &&& 0x3f).toInt64.toUInt64).toInt64).toInt32 = 0) (h : own_nlz32 x.toInt32 r) : own_nlz64 x ((32 : Int32) + r) := by
  obtain ⟨k, hk, hr, h1, h2⟩ := h
  rw [own_zero32, own_hi32] at hz
  rw [own_lo32] at h1 h2
  refine ⟨k, by omega, ?_, own_top (by omega) (by omega)⟩
  rw [own_sm (a := 32) (b := 31 - k) (by decide) hr (by omega) (by omega)]; omega
theorem own_ntz_lo {x : Int64} {r : Int32} (h : own_ntz32 x.toInt32 r) : own_ntz64 x r := by
  obtain ⟨k, hk, hr, h1⟩ := h
  rw [own_lo32] at h1
  refine ⟨k, by omega, hr, own_bot ?_⟩
  rw [← h1]
  exact (Nat.mod_mod_of_dvd _ (show 2 ^ (k + 1) ∣ 4294967296 from Nat.pow_dvd_pow 2 (show k + 1 ≤ 32 by omega))).symm
theorem own_ntz_hi {x : Int64} {r : Int32} (hz : x.toInt32 = 0) (h : own_ntz32 ((x.toUInt64 >>> ((32 : Int32) &&& 0x3f).toInt64.toUInt64).toInt64).toInt32 r) : own_ntz64 x ((32 : Int32) + r) := by
  obtain ⟨k, hk, hr, h1⟩ := h
  rw [own_zero32, own_lo32] at hz
  rw [own_hi32] at h1
  refine ⟨k + 32, by omega, ?_, own_bot ?_⟩
  · rw [own_sm (a := 32) (b := k) (by decide) hr (by omega) (by omega)]; omega
  · have e : x.toBitVec.toNat = 2 ^ 32 * (x.toBitVec.toNat / 4294967296) := by omega
    rw [e, show k + 32 + 1 = 32 + (k + 1) by omega, Nat.pow_add, Nat.mul_mod_mul_left, h1, ← Nat.pow_add, Nat.add_comm]
theorem own_nlz_leaf {i r : Int32} (s : Nat) (hs : s ≤ 30) (P : Nat) (hP : P = 2 ^ s) (h1 : (P : Int) ≤ i.toInt) (h2 : i.toInt < 4 * P) (hr : r.toInt = 31 - s - i.toInt / P / 2) : own_nlz32 i r := by
  have e := (own_u32 i).1 (by omega)
  have hp : 0 < P := by rw [hP]; exact Nat.two_pow_pos s
  by_cases h : i.toInt < 2 * P
  · refine ⟨s, by omega, ?_, by rw [← hP]; omega, by rw [Nat.pow_succ, ← hP]; omega⟩
    have : i.toInt / P = 1 := by
      rw [Int.ediv_eq_iff_of_pos (by omega)]; omega
    rw [hr, this]; omega
  · have : i.toInt / P / 2 = 1 := by
      rw [Int.ediv_ediv_of_nonneg (by omega), Int.ediv_eq_iff_of_pos (by omega)]; omega
    refine ⟨s + 1, by omega, ?_, by rw [Nat.pow_succ, ← hP]; omega, by rw [Nat.pow_succ, Nat.pow_succ, ← hP]; omega⟩
    rw [hr, this]; omega
theorem own_nlz_neg {i : Int32} (h1 : ¬ 0 < i) (h2 : ¬ i = 0) : own_nlz32 i (0 : Int32) := by
  have : i.toInt < 0 := by
    rw [Int32.lt_iff_toInt_lt] at h1
    rw [← Int32.toInt_inj] at h2
    have : (0 : Int32).toInt = 0 := by decide
    omega
  have e := (own_u32 i).2 this
  have := Int32.le_toInt i
  refine ⟨31, by omega, by decide, ?_, ?_⟩
  · omega
  · omega
theorem own_nat_tz (N : Nat) : 0 < N → ∃ k q, N = 2 ^ (k + 1) * q + 2 ^ k := by
  induction N using Nat.strongRecOn with
  | ind N ih =>
    intro h
    by_cases ho : N % 2 = 1
    · exact ⟨0, N / 2, by simp; omega⟩
    · obtain ⟨k, q, e⟩ := ih (N / 2) (by omega) (by omega)
      refine ⟨k + 1, q, ?_⟩
      have e1 : 2 ^ (k + 1 + 1) * q = 2 * (2 ^ (k + 1) * q) := by rw [Nat.pow_succ 2 (k + 1)]; ac_rfl
      have e2 : 2 ^ (k + 1) = 2 * 2 ^ k := by rw [Nat.pow_succ]; ac_rfl
      rw [e1, e2]
      rw [e2] at e
      omega
theorem own_tz {i : Int32} (hi : ¬ i = 0) : ∃ k : Nat, k ≤ 31 ∧ i.toBitVec.toNat % 2 ^ (k + 1) = 2 ^ k ∧ ((i ^^^ (-1 : Int32)) &&& (i - (1 : Int32))).toInt = (2 ^ k - 1 : Nat) := by
  have hN : 0 < i.toBitVec.toNat := by rw [own_zero32] at hi; omega
  obtain ⟨k, q, e⟩ := own_nat_tz _ hN
  have hl := i.toBitVec.isLt
  have k31 : k ≤ 31 := by
    apply Nat.le_of_not_lt; intro h
    have : 2 ^ 32 ≤ 2 ^ k := Nat.pow_le_pow_right (by decide) h
    omega
  have hk : 2 ^ k < 2 ^ (k + 1) := Nat.pow_lt_pow_right (by decide) (by omega)
  have kp : 0 < 2 ^ k := Nat.two_pow_pos k
  have k32 : 2 ^ k ≤ 2147483648 := Nat.pow_le_pow_right (by decide) k31
  refine ⟨k, k31, by rw [e, Nat.mul_add_mod, Nat.mod_eq_of_lt hk], ?_⟩
  have hm1 : (i - (1 : Int32)).toBitVec.toNat = 2 ^ (k + 1) * q + (2 ^ k - 1) := by
    have : (i - (1 : Int32)).toBitVec = i.toBitVec - 1#32 := rfl
    rw [this, BitVec.toNat_sub]
    simp only [BitVec.toNat_ofNat]
    omega
  have hb : ((i ^^^ (-1 : Int32)) &&& (i - (1 : Int32))).toBitVec = BitVec.ofNat 32 (2 ^ k - 1) := by
    apply BitVec.eq_of_getLsbD_eq
    intro j hj
    have ho : (-1 : Int32).toBitVec = BitVec.allOnes 32 := by decide
    rw [Int32.toBitVec_and, Int32.toBitVec_xor, BitVec.getLsbD_and, BitVec.getLsbD_xor, ho, BitVec.getLsbD_allOnes, BitVec.getLsbD_ofNat, Nat.testBit_two_pow_sub_one]
    rw [BitVec.getLsbD, BitVec.getLsbD, hm1, e, Nat.testBit_two_pow_mul_add _ hk, Nat.testBit_two_pow_mul_add _ (Nat.lt_of_le_of_lt (Nat.sub_le _ _) hk)]
    by_cases h : j < k + 1
    · simp only [h, if_true, Nat.testBit_two_pow, Nat.testBit_two_pow_sub_one, hj, decide_true]
      by_cases h2 : j < k
      · have : ¬ k = j := by omega
        simp [h2, this]
      · simp [h2]
    · have : ¬ j < k := by omega
      simp only [h, if_false, hj, decide_true, this, decide_false]
      cases q.testBit (j - (k + 1)) <;> rfl
  have : ((i ^^^ (-1 : Int32)) &&& (i - (1 : Int32))).toInt = (BitVec.ofNat 32 (2 ^ k - 1)).toInt := by rw [← hb]; rfl
  rw [this, BitVec.toInt_eq_toNat_cond, BitVec.toNat_ofNat]
  rw [Nat.mod_eq_of_lt (by omega), if_pos (by omega)]
theorem own_ntz_dec : ∀ s : Fin 31, ∀ k : Fin 32, 1 ≤ (2 ^ k.val - 1) / 2 ^ s.val → (2 ^ k.val - 1) / 2 ^ s.val ≤ 4 → 1 + s.val + (2 ^ k.val - 1) / 2 ^ s.val / 2 = k.val := by decide +kernel
theorem own_ntz_leaf {i r : Int32} {k : Nat} (k31 : k ≤ 31) (hk : i.toBitVec.toNat % 2 ^ (k + 1) = 2 ^ k) {V y : Int} (hV : V = (2 ^ k - 1 : Nat)) (s : Nat) (hs : s ≤ 30) (P : Nat) (hP : P = 2 ^ s) (hy : y = V / P) (h1 : 1 ≤ y) (h2 : y ≤ 4) (hr : r.toInt = 1 + s + y / 2) : own_ntz32 i r := by
  refine ⟨k, k31, ?_, hk⟩
  have e : y = ((2 ^ k - 1) / 2 ^ s : Nat) := by rw [hy, hV, hP]; rfl
  have := own_ntz_dec ⟨s, by omega⟩ ⟨k, by omega⟩ (by simp only; omega) (by simp only; omega)
  simp only at this
  rw [hr, e]
  omega
theorem own_ntz_zero {i V : Int32} {k : Nat} (k31 : k ≤ 31) (hk : i.toBitVec.toNat % 2 ^ (k + 1) = 2 ^ k) (hV : V.toInt = (2 ^ k - 1 : Nat)) (h : ¬ 0 < V) : own_ntz32 i (V &&& (32 : Int32)) := by
  have h0 : V.toInt ≤ 0 := by
    rw [Int32.lt_iff_toInt_lt] at h
    have : (0 : Int32).toInt = 0 := by decide
    omega
  have : V = 0 := by rw [← Int32.toInt_inj]; have : (0 : Int32).toInt = 0 := by decide
                     omega
  subst this
  refine ⟨k, k31, ?_, hk⟩
  have e : ((0 : Int32) &&& 32).toInt = 0 := by decide
  rw [e]
  cases k with
  | zero => rfl
  | succ k => rw [Nat.pow_succ] at hV; have := Nat.two_pow_pos k; have : (0 : Int32).toInt = 0 := by decide
              omega
theorem own_ush {x q : Int32} {k : Nat} (hk : q.toBitVec.toNat % 32 = k) (h0 : 0 < k) (P : Nat) (hP : P = 2 ^ k) (hx : 0 ≤ x.toInt) : ((x.toUInt32 >>> (q &&& 31).toUInt32).toInt32).toInt = x.toInt / P := by
  rw [c_iushr x q k hk h0, ← hP]
  have := Int32.toInt_lt x
  rw [Int.emod_eq_of_lt hx (by omega)]
/-! words -/
def own_w (w0 w1 w2 w3 : Int64) (q : Nat) : Int64 := match q with | 0 => w0 | 1 => w1 | 2 => w2 | 3 => w3 | _ => 0
def own_B (W : Nat → Int64) (j : Nat) : Prop := own_bit (W (j / 64)) (j % 64)
def own_prevP (W : Nat → Int64) (i r : Int) : Prop := (r = -1 ∧ ∀ j : Nat, (j : Int) ≤ i → ¬ own_B W j) ∨ (∃ t : Nat, r = t ∧ (t : Int) ≤ i ∧ own_B W t ∧ ∀ j : Nat, t < j → (j : Int) ≤ i → ¬ own_B W j)
def own_nextP (W : Nat → Int64) (i r : Int) : Prop := ∃ t : Nat, r = t ∧ i ≤ t ∧ (∀ j : Nat, i ≤ j → j < t → own_B W j) ∧ ¬ own_B W t
def own_topP (W : Nat → Int64) (r : Int) : Prop := (r = 0 ∧ ∀ j, ¬ own_B W j) ∨ (∃ t : Nat, r = t + 1 ∧ own_B W t ∧ ∀ j, t < j → ¬ own_B W j)
def own_setP (W W' : Nat → Int64) (f t : Int) : Prop := ∀ j : Nat, own_B W' j ↔ own_B W j ∨ (f ≤ j ∧ (j : Int) < t)
def own_Wd (W : Nat → Int64) (n : Int) : Prop := (0 ≤ n ∧ n ≤ 4) ∧ (∀ j : Nat, n ≤ (j / 64 : Nat) → ¬ own_B W j) ∧ (n = 0 ∨ ∃ j : Nat, ((j / 64 : Nat) : Int) = n - 1 ∧ own_B W j)
theorem own_ext0 {x : Int64} (h : ∀ j, j < 64 → ¬ own_bit x j) : x = 0 := by
  apply Int64.toBitVec_inj.mp
  apply BitVec.eq_of_getLsbD_eq
  intro j hj
  have := h j hj
  unfold own_bit at this
  simpa using this
theorem own_W0 {W : Nat → Int64} {n : Int} (h : own_Wd W n) {q : Nat} (hq : n ≤ q) : W q = 0 := by
  apply own_ext0
  intro j hj
  have := h.2.1 (64 * q + j) (by omega)
  unfold own_B at this
  rwa [show (64 * q + j) / 64 = q by omega, show (64 * q + j) % 64 = j by omega] at this
theorem own_Wn {W : Nat → Int64} {n : Int} (h : own_Wd W n) {q : Nat} (hq : n = q + 1) : ¬ W q = 0 := by
  intro e
  rcases h.2.2 with h | ⟨j, h1, h2⟩
  · omega
  · unfold own_B at h2
    rw [show j / 64 = q by omega, e] at h2
    exact own_bit_zero _ h2
theorem own_prevA {W : Nat → Int64} {i : Int} {q : Nat} {M : Int64} (h0 : 0 ≤ i) (hq : i / 64 = q) (hM : ∀ j : Nat, j < 64 → (own_bit M j ↔ own_bit (W q) j ∧ (j : Int) ≤ i % 64)) {r R : Int32} (hn : own_nlz64 M r) (hR : R.toInt = 64 * q + 63 - r.toInt) : own_prevP W i R.toInt := by
  obtain ⟨k, k63, hr, h1, h2⟩ := hn
  have h3 := (hM k (by omega)).mp h1
  refine Or.inr ⟨64 * q + k, by omega, by omega, ?_, ?_⟩
  · unfold own_B; rw [show (64 * q + k) / 64 = q by omega, show (64 * q + k) % 64 = k by omega]; exact h3.1
  · intro j hj hi hB
    unfold own_B at hB
    rw [show j / 64 = q by omega] at hB
    exact h2 (j % 64) (by omega) ((hM _ (by omega)).mpr ⟨hB, by omega⟩)
theorem own_prevB {W : Nat → Int64} {i : Int} {q : Nat} {M : Int64} (h0 : 0 ≤ i) (hq : i / 64 = q) (hM : ∀ j : Nat, j < 64 → (own_bit M j ↔ own_bit (W q) j ∧ (j : Int) ≤ i % 64)) {r R : Int32} {u : Nat} (hu : u < q) (hz : M = 0) (hv : ∀ v, u < v → v < q → W v = 0) (hn : own_nlz64 (W u) r) (hR : R.toInt = 64 * u + 63 - r.toInt) : own_prevP W i R.toInt := by
  obtain ⟨k, k63, hr, h1, h2⟩ := hn
  refine Or.inr ⟨64 * u + k, by omega, by omega, ?_, ?_⟩
  · unfold own_B; rw [show (64 * u + k) / 64 = u by omega, show (64 * u + k) % 64 = k by omega]; exact h1
  · intro j hj hi hB
    unfold own_B at hB
    by_cases e1 : j / 64 = q
    · rw [e1] at hB
      have := (hM (j % 64) (by omega)).mpr ⟨hB, by omega⟩
      rw [hz] at this; exact own_bit_zero _ this
    · by_cases e2 : j / 64 = u
      · rw [e2] at hB; exact h2 _ (by omega) hB
      · rw [hv (j / 64) (by omega) (by omega)] at hB; exact own_bit_zero _ hB
theorem own_prevC {W : Nat → Int64} {i : Int} {q : Nat} {M : Int64} (h0 : 0 ≤ i) (hq : i / 64 = q) (hM : ∀ j : Nat, j < 64 → (own_bit M j ↔ own_bit (W q) j ∧ (j : Int) ≤ i % 64)) (hz : M = 0) (hv : ∀ v, v < q → W v = 0) : own_prevP W i (-1) := by
  refine Or.inl ⟨rfl, ?_⟩
  intro j hi hB
  unfold own_B at hB
  by_cases e1 : j / 64 = q
  · rw [e1] at hB
    have := (hM (j % 64) (by omega)).mpr ⟨hB, by omega⟩
    rw [hz] at this; exact own_bit_zero _ this
  · rw [hv (j / 64) (by omega)] at hB; exact own_bit_zero _ hB
theorem own_prevD {W : Nat → Int64} {i n r : Int} (hW : own_Wd W n) (hi : 64 * n ≤ i) (h : own_topP W r) : own_prevP W i (r - 1) := by
  rcases h with ⟨h1, h2⟩ | ⟨t, h1, h2, h3⟩
  · exact Or.inl ⟨by omega, fun j _ => h2 j⟩
  · refine Or.inr ⟨t, by omega, ?_, h2, fun j hj _ => h3 j hj⟩
    apply Int.not_lt.mp; intro h
    exact hW.2.1 t (by omega) h2
theorem own_nextA {W : Nat → Int64} {i : Int} {q : Nat} {M : Int64} (h0 : 0 ≤ i) (hq : i / 64 = q) (hM : ∀ j : Nat, j < 64 → (own_bit M j ↔ ¬ own_bit (W q) j ∧ i % 64 ≤ j)) {r R : Int32} (hn : own_ntz64 M r) (hR : R.toInt = 64 * q + r.toInt) : own_nextP W i R.toInt := by
  obtain ⟨k, k63, hr, h1, h2⟩ := hn
  have h3 := (hM k (by omega)).mp h1
  refine ⟨64 * q + k, by omega, by omega, ?_, ?_⟩
  · intro j hi hj
    unfold own_B
    rw [show j / 64 = q by omega]
    apply Classical.byContradiction; intro hB
    exact h2 (j % 64) (by omega) ((hM _ (by omega)).mpr ⟨hB, by omega⟩)
  · unfold own_B; rw [show (64 * q + k) / 64 = q by omega, show (64 * q + k) % 64 = k by omega]; exact h3.1
theorem own_nextF {W : Nat → Int64} {i : Int} {q : Nat} {M : Int64} (h0 : 0 ≤ i) (hq : i / 64 = q) (hM : ∀ j : Nat, j < 64 → (own_bit M j ↔ ¬ own_bit (W q) j ∧ i % 64 ≤ j)) {u : Nat} (hz : M = 0) (hv : ∀ v, q < v → v < u → W v ^^^ (-1 : Int64) = 0) (j : Nat) (hi : i ≤ j) (hj : j / 64 < u) : own_B W j := by
  unfold own_B
  apply Classical.byContradiction; intro hB
  by_cases e1 : j / 64 = q
  · rw [e1] at hB
    have := (hM (j % 64) (by omega)).mpr ⟨hB, by omega⟩
    rw [hz] at this; exact own_bit_zero _ this
  · have := (own_bit_not (x := W (j / 64)) (j := j % 64) (by omega)).mpr hB
    rw [hv (j / 64) (by omega) hj] at this; exact own_bit_zero _ this
theorem own_nextB {W : Nat → Int64} {i : Int} {q : Nat} {M : Int64} (h0 : 0 ≤ i) (hq : i / 64 = q) (hM : ∀ j : Nat, j < 64 → (own_bit M j ↔ ¬ own_bit (W q) j ∧ i % 64 ≤ j)) {r R : Int32} {u : Nat} (hu : q < u) (hz : M = 0) (hv : ∀ v, q < v → v < u → W v ^^^ (-1 : Int64) = 0) (hn : own_ntz64 (W u ^^^ (-1 : Int64)) r) (hR : R.toInt = 64 * u + r.toInt) : own_nextP W i R.toInt := by
  obtain ⟨k, k63, hr, h1, h2⟩ := hn
  refine ⟨64 * u + k, by omega, by omega, ?_, ?_⟩
  · intro j hi hj
    by_cases e : j / 64 < u
    · exact own_nextF h0 hq hM hz hv j hi e
    · unfold own_B
      rw [show j / 64 = u by omega]
      apply Classical.byContradiction; intro hB
      exact h2 (j % 64) (by omega) ((own_bit_not (by omega)).mpr hB)
  · unfold own_B; rw [show (64 * u + k) / 64 = u by omega, show (64 * u + k) % 64 = k by omega]; exact (own_bit_not (by omega)).mp h1
theorem own_nextC {W : Nat → Int64} {i : Int} {q : Nat} {M : Int64} (h0 : 0 ≤ i) (hq : i / 64 = q) (hM : ∀ j : Nat, j < 64 → (own_bit M j ↔ ¬ own_bit (W q) j ∧ i % 64 ≤ j)) {R : Int32} {u : Nat} (hu : q < u) (hz : M = 0) (hv : ∀ v, q < v → v < u → W v ^^^ (-1 : Int64) = 0) (hw : W u = 0) (hR : R.toInt = 64 * u) : own_nextP W i R.toInt := by
  refine ⟨64 * u, by omega, by omega, ?_, ?_⟩
  · intro j hi hj
    exact own_nextF h0 hq hM hz hv j hi (by omega)
  · unfold own_B; rw [show (64 * u) / 64 = u by omega, hw]; exact own_bit_zero _
theorem own_nextD {W : Nat → Int64} {i : Int} {q : Nat} (h0 : 0 ≤ i) (hq : i / 64 = q) (hw : W q = 0) : own_nextP W i i := by
  refine ⟨i.toNat, by omega, by omega, fun j h1 h2 => by omega, ?_⟩
  unfold own_B; rw [show i.toNat / 64 = q by omega, hw]; exact own_bit_zero _
theorem own_topA {W : Nat → Int64} {n : Int} {q : Nat} {r R : Int32} (hW : own_Wd W n) (hq : n = q + 1) (hn : own_nlz64 (W q) r) (hR : R.toInt = 64 * q + 64 - r.toInt) : own_topP W R.toInt := by
  obtain ⟨k, k63, hr, h1, h2⟩ := hn
  refine Or.inr ⟨64 * q + k, by omega, ?_, ?_⟩
  · unfold own_B; rw [show (64 * q + k) / 64 = q by omega, show (64 * q + k) % 64 = k by omega]; exact h1
  · intro j hj hB
    by_cases e : j / 64 = q
    · unfold own_B at hB; rw [e] at hB; exact h2 _ (by omega) hB
    · exact hW.2.1 j (by omega) hB
theorem own_set1 {W W' : Nat → Int64} {f t : Int32} {q : Nat} (f0 : 0 ≤ f.toInt) (ht : f.toInt < t.toInt) (hf : f.toInt / 64 = q) (hq : (t.toInt - 1) / 64 = q) (hW : ∀ v, v ≠ q → W' v = W v)
    (e : W' q = W q ||| (((-1 : Int64) <<< (f &&& 0x3f).toInt64) &&& (((-1 : Int64).toUInt64 >>> ((-t) &&& 0x3f).toInt64.toUInt64).toInt64))) : own_setP W W' f.toInt t.toInt := by
  intro j
  unfold own_B
  by_cases ej : j / 64 = q
  · rw [ej, e, own_bit_or, own_bit_and, own_hi (k := (f.toInt % 64).toNat) (by omega) (by omega), own_lo (k := ((-t).toInt % 64).toNat) (by omega) (by omega)]
    have := c_ineg t
    constructor
    · rintro (h | ⟨h1, h2⟩)
      · exact Or.inl h
      · exact Or.inr (by omega)
    · rintro (h | ⟨h1, h2⟩)
      · exact Or.inl h
      · exact Or.inr (by omega)
  · rw [hW _ ej]
    constructor
    · exact Or.inl
    · rintro (h | ⟨h1, h2⟩)
      · exact h
      · omega
theorem own_set2 {W W' : Nat → Int64} {f t : Int32} {q : Nat} (f0 : 0 ≤ f.toInt) (hf : f.toInt / 64 = q) (hq : (t.toInt - 1) / 64 = q + 1) (hW : ∀ v, v ≠ q → v ≠ q + 1 → W' v = W v)
    (e1 : W' q = W q ||| ((-1 : Int64) <<< (f &&& 0x3f).toInt64)) (e2 : W' (q + 1) = W (q + 1) ||| (((-1 : Int64).toUInt64 >>> ((-t) &&& 0x3f).toInt64.toUInt64).toInt64)) : own_setP W W' f.toInt t.toInt := by
  intro j
  unfold own_B
  have := c_ineg t
  by_cases ej : j / 64 = q
  · rw [ej, e1, own_bit_or, own_hi (k := (f.toInt % 64).toNat) (by omega) (by omega)]
    constructor
    · rintro (h | h)
      · exact Or.inl h
      · exact Or.inr (by omega)
    · rintro (h | ⟨h1, h2⟩)
      · exact Or.inl h
      · exact Or.inr (by omega)
  · by_cases ek : j / 64 = q + 1
    · rw [ek, e2, own_bit_or, own_lo (k := ((-t).toInt % 64).toNat) (by omega) (by omega)]
      constructor
      · rintro (h | h)
        · exact Or.inl h
        · exact Or.inr (by omega)
      · rintro (h | ⟨h1, h2⟩)
        · exact Or.inl h
        · exact Or.inr (by omega)
    · rw [hW _ ej ek]
      constructor
      · exact Or.inl
      · rintro (h | ⟨h1, h2⟩)
        · exact h
        · omega
theorem own_Wd_set {W W' : Nat → Int64} {f t n n' : Int} (h : own_Wd W n) (S : own_setP W W' f t) (f0 : 0 ≤ f) (ft : f < t) (hq : (t - 1) / 64 < 4) (hn : (n < (t - 1) / 64 + 1 ∧ n' = (t - 1) / 64 + 1) ∨ (¬ n < (t - 1) / 64 + 1 ∧ n' = n)) : own_Wd W' n' := by
  obtain ⟨⟨h1, h2⟩, h3, h4⟩ := h
  refine ⟨⟨by omega, by omega⟩, ?_, ?_⟩
  · intro j hj hB
    rcases (S j).mp hB with h | ⟨h5, h6⟩
    · exact h3 j (by omega) h
    · omega
  · rcases hn with ⟨h5, h6⟩ | ⟨h5, h6⟩
    · exact Or.inr ⟨(t - 1).toNat, by omega, (S _).mpr (Or.inr ⟨by omega, by omega⟩)⟩
    · rcases h4 with h4 | ⟨j, h7, h8⟩
      · omega
      · exact Or.inr ⟨j, by omega, (S j).mpr (Or.inl h8)⟩
theorem own_mlo {W : Nat → Int64} {q : Nat} {i : Int32} (h0 : 0 ≤ i.toInt) (h1 : i.toInt < 1000) (j : Nat) (hj : j < 64) : own_bit (W q &&& (((-1 : Int64).toUInt64 >>> ((-(i + (1 : Int32))) &&& 0x3f).toInt64.toUInt64).toInt64)) j ↔ own_bit (W q) j ∧ (j : Int) ≤ i.toInt % 64 := by
  have e : (i + (1 : Int32)).toInt = i.toInt + 1 := own_sm rfl (by decide) (by omega) (by omega)
  have := c_ineg (i + (1 : Int32))
  rw [own_bit_and, own_lo (k := ((-(i + (1 : Int32))).toInt % 64).toNat) (by omega) hj]
  constructor <;> rintro ⟨h, h2⟩ <;> exact ⟨h, by omega⟩
theorem own_mhi {W : Nat → Int64} {q : Nat} {i : Int32} (h0 : 0 ≤ i.toInt) (j : Nat) (hj : j < 64) : own_bit ((W q ^^^ (-1 : Int64)) &&& ((-1 : Int64) <<< (i &&& 0x3f).toInt64)) j ↔ ¬ own_bit (W q) j ∧ i.toInt % 64 ≤ j := by
  rw [own_bit_and, own_bit_not hj, own_hi (k := (i.toInt % 64).toNat) (by omega) hj]
  constructor <;> rintro ⟨h, h2⟩ <;> exact ⟨h, by omega⟩

theorem own_nneg {i : Int32} (h : 0 ≤ i.toInt) : ¬ i < 0 := by rw [Int32.lt_iff_toInt_lt]; have : (0 : Int32).toInt = 0 := by decide
                                                               omega
theorem own_wi {i q : Int32} {a : Nat} (h : (i >>> ((6 : Int32) &&& 31)) = q) (hq : q.toInt = a) : i.toInt / 64 = a := by
  have := c_ishr i (6 : Int32) 6 (by decide)
  rw [h, hq] at this
  exact this.symm
theorem own_wi' {i q : Int32} (h : i.toInt / 64 = q.toInt) : (i >>> ((6 : Int32) &&& 31)) = q := by
  rw [← Int32.toInt_inj, c_ishr i (6 : Int32) 6 (by decide), ← h]; rfl
theorem own_lo_ne {x : Int64} (hx : ¬ x = 0) (hz : ((x.toUInt64 >>> ((32 : Int32) &&& 0x3f).toInt64.toUInt64).toInt64).toInt32 = 0) : ¬ x.toInt32 = 0 := by
  rw [own_zero32, own_hi32] at hz
  rw [own_zero32, own_lo32]
  rw [own_zero64] at hx
  omega
theorem own_hi_ne {x : Int64} (hx : ¬ x = 0) (hz : x.toInt32 = 0) : ¬ ((x.toUInt64 >>> ((32 : Int32) &&& 0x3f).toInt64.toUInt64).toInt64).toInt32 = 0 := by
  rw [own_zero32, own_lo32] at hz
  rw [own_zero32, own_hi32]
  rw [own_zero64] at hx
  omega
theorem own_prevC' {W : Nat → Int64} {i : Int} {q : Nat} {M : Int64} (h0 : 0 ≤ i) (hq : i / 64 = q) (hM : ∀ j : Nat, j < 64 → (own_bit M j ↔ own_bit (W q) j ∧ (j : Int) ≤ i % 64)) (hz : M = 0) (hv : ∀ v, v < q → W v = 0) : own_prevP W i (-1 : Int32).toInt := by
  rw [show (-1 : Int32).toInt = -1 by decide]; exact own_prevC h0 hq hM hz hv
theorem own_top0 {W : Nat → Int64} {r : Int} (h : own_topP W r) : 0 ≤ r := by
  rcases h with ⟨h, -⟩ | ⟨t, h, -⟩ <;> omega
theorem own_prevD' {W : Nat → Int64} {i n : Int} {r : Int32} (hW : own_Wd W n) (hi : 64 * n ≤ i) (h : own_topP W r.toInt) : own_prevP W i (r - (1 : Int32)).toInt := by
  have := own_top0 h
  have := Int32.toInt_lt r
  rw [own_sb (x := r) (y := (1 : Int32)) rfl (show _ = 1 by decide) (by omega) (by omega)]
  exact own_prevD hW hi h
theorem own_5 {n : Int32} (h : 0 ≤ n.toInt ∧ n.toInt ≤ 4) : n = 0 ∨ n = 1 ∨ n = 2 ∨ n = 3 ∨ n = 4 := by
  simp only [← Int32.toInt_inj]
  have c0 : (0 : Int32).toInt = 0 := by decide
  have c1 : (1 : Int32).toInt = 1 := by decide
  have c2 : (2 : Int32).toInt = 2 := by decide
  have c3 : (3 : Int32).toInt = 3 := by decide
  have c4 : (4 : Int32).toInt = 4 := by decide
  omega
theorem own_4 {i : Int32} (h0 : 0 ≤ i.toInt) (h1 : i.toInt < 256) : (i >>> ((6 : Int32) &&& 31)) = 0 ∨ (i >>> ((6 : Int32) &&& 31)) = 1 ∨ (i >>> ((6 : Int32) &&& 31)) = 2 ∨ (i >>> ((6 : Int32) &&& 31)) = 3 := by
  rcases (by omega : i.toInt / 64 = 0 ∨ i.toInt / 64 = 1 ∨ i.toInt / 64 = 2 ∨ i.toInt / 64 = 3) with h | h | h | h
  · exact Or.inl (own_wi' (by rw [h]; decide))
  · exact Or.inr (Or.inl (own_wi' (by rw [h]; decide)))
  · exact Or.inr (Or.inr (Or.inl (own_wi' (by rw [h]; decide))))
  · exact Or.inr (Or.inr (Or.inr (own_wi' (by rw [h]; decide))))
theorem own_nx {n n' c : Int32} {a : Int} (hc : c.toInt = a) (h : (n < c ∧ n' = c) ∨ (¬ n < c ∧ n' = n)) : (n.toInt < a ∧ n'.toInt = a) ∨ (¬ n.toInt < a ∧ n'.toInt = n.toInt) := by
  rw [Int32.lt_iff_toInt_lt, hc] at h
  rcases h with ⟨h, rfl⟩ | ⟨h, rfl⟩
  · exact Or.inl ⟨h, hc⟩
  · exact Or.inr ⟨h, rfl⟩
def own_cls (f t : Int32) : Prop := 0 ≤ f.toInt ∧ f.toInt < t.toInt ∧ ((t.toInt ≤ 192 ∧ t.toInt ≤ f.toInt + 64) ∨ (192 ≤ f.toInt ∧ t.toInt ≤ 256))
theorem own_clsq {f t : Int32} (h : own_cls f t) : (t - (1 : Int32)).toInt = t.toInt - 1 := own_sb rfl (by decide) (by have := h.1; have := h.2.1; omega) (by have := Int32.toInt_lt t; omega)
theorem own_cls6 {f t : Int32} (h : own_cls f t) : ((f >>> ((6 : Int32) &&& 31)) = (0 : Int32) ∧ ((t - (1 : Int32)) >>> ((6 : Int32) &&& 31)) = (0 : Int32)) ∨ ((f >>> ((6 : Int32) &&& 31)) = (0 : Int32) ∧ ((t - (1 : Int32)) >>> ((6 : Int32) &&& 31)) = (1 : Int32)) ∨ ((f >>> ((6 : Int32) &&& 31)) = (1 : Int32) ∧ ((t - (1 : Int32)) >>> ((6 : Int32) &&& 31)) = (1 : Int32)) ∨ ((f >>> ((6 : Int32) &&& 31)) = (1 : Int32) ∧ ((t - (1 : Int32)) >>> ((6 : Int32) &&& 31)) = (2 : Int32)) ∨ ((f >>> ((6 : Int32) &&& 31)) = (2 : Int32) ∧ ((t - (1 : Int32)) >>> ((6 : Int32) &&& 31)) = (2 : Int32)) ∨ ((f >>> ((6 : Int32) &&& 31)) = (3 : Int32) ∧ ((t - (1 : Int32)) >>> ((6 : Int32) &&& 31)) = (3 : Int32)) := by
  have e := own_clsq h
  obtain ⟨h0, h1, h2⟩ := h
  rcases (by omega : (f.toInt / 64 = 0 ∧ (t.toInt - 1) / 64 = 0) ∨ (f.toInt / 64 = 0 ∧ (t.toInt - 1) / 64 = 1) ∨ (f.toInt / 64 = 1 ∧ (t.toInt - 1) / 64 = 1) ∨ (f.toInt / 64 = 1 ∧ (t.toInt - 1) / 64 = 2) ∨ (f.toInt / 64 = 2 ∧ (t.toInt - 1) / 64 = 2) ∨ (f.toInt / 64 = 3 ∧ (t.toInt - 1) / 64 = 3)) with ⟨h, h'⟩ | ⟨h, h'⟩ | ⟨h, h'⟩ | ⟨h, h'⟩ | ⟨h, h'⟩ | ⟨h, h'⟩
  · exact Or.inl ⟨own_wi' (by rw [h]; decide), own_wi' (by rw [e, h']; decide)⟩
  · exact Or.inr (Or.inl ⟨own_wi' (by rw [h]; decide), own_wi' (by rw [e, h']; decide)⟩)
  · exact Or.inr (Or.inr (Or.inl ⟨own_wi' (by rw [h]; decide), own_wi' (by rw [e, h']; decide)⟩))
  · exact Or.inr (Or.inr (Or.inr (Or.inl ⟨own_wi' (by rw [h]; decide), own_wi' (by rw [e, h']; decide)⟩)))
  · exact Or.inr (Or.inr (Or.inr (Or.inr (Or.inl ⟨own_wi' (by rw [h]; decide), own_wi' (by rw [e, h']; decide)⟩))))
  · exact Or.inr (Or.inr (Or.inr (Or.inr (Or.inr (⟨own_wi' (by rw [h]; decide), own_wi' (by rw [e, h']; decide)⟩)))))
def own_busyP (W : Nat → Int64) (a b r : Int) : Prop := ∃ p, own_prevP W b p ∧ ((p < a ∧ r = 0) ∨ (¬ p < a ∧ ∃ t, own_nextP W p t ∧ r = t - 1))
theorem own_busy_hit {W : Nat → Int64} {a b r : Int} (h0 : 0 ≤ a) (hab : a ≤ b) (h1 : ∀ j : Nat, a ≤ j → (j : Int) ≤ b → own_B W j) (h2 : ∀ j : Nat, (j : Int) = b + 1 → ¬ own_B W j) (h : own_busyP W a a r) : r = b := by
  obtain ⟨p, hp, h⟩ := h
  have ep : p = a := by
    rcases hp with ⟨-, hp⟩ | ⟨t, rfl, ht, -, hp⟩
    · exact absurd (h1 a.toNat (by omega) (by omega)) (hp a.toNat (by omega))
    · apply Classical.byContradiction; intro hne
      exact hp a.toNat (by omega) (by omega) (h1 a.toNat (by omega) (by omega))
  rcases h with ⟨h, -⟩ | ⟨-, t, ⟨x, rfl, hx, hy, hz⟩, e⟩
  · omega
  · have : ¬ (x : Int) ≤ b := fun q => hz (h1 x (by omega) q)
    have : ¬ b + 1 < x := fun q => h2 (b + 1).toNat (by omega) (hy (b + 1).toNat (by omega) (by omega))
    omega
theorem own_busy_none {W : Nat → Int64} {a b r : Int} (h0 : 0 ≤ a) (h1 : ∀ j : Nat, a ≤ j → (j : Int) ≤ b → ¬ own_B W j) (h : own_busyP W a b r) : r = 0 := by
  obtain ⟨p, hp, h⟩ := h
  have : p < a := by
    rcases hp with ⟨hp, -⟩ | ⟨t, rfl, ht, hB, -⟩
    · omega
    · apply Classical.byContradiction; intro hn
      exact h1 t (by omega) ht hB
  rcases h with ⟨-, h⟩ | ⟨h, -⟩
  · exact h
  · exact absurd this h
theorem own_nextnn {W : Nat → Int64} {i r : Int} (h : own_nextP W i r) : 0 ≤ r := by obtain ⟨t, h, -⟩ := h; omega
theorem own_busyN {W : Nat → Int64} {a b pr : Int32} {t : Int32} (hp : own_prevP W b.toInt pr.toInt) (h : ¬ pr < a) (hn : own_nextP W pr.toInt t.toInt) : own_busyP W a.toInt b.toInt (t - (1 : Int32)).toInt := by
  have := own_nextnn hn
  have := Int32.toInt_lt t
  rw [own_sb (x := t) (y := (1 : Int32)) rfl (show _ = 1 by decide) (by omega) (by omega)]
  exact ⟨_, hp, Or.inr ⟨fun q => h (Int32.lt_iff_toInt_lt.mpr q), _, hn, rfl⟩⟩
theorem own_busyZ {W : Nat → Int64} {a b pr : Int32} (hp : own_prevP W b.toInt pr.toInt) (h : pr < a) : own_busyP W a.toInt b.toInt (0 : Int32).toInt := ⟨_, hp, Or.inl ⟨Int32.lt_iff_toInt_lt.mp h, by decide⟩⟩
theorem own_prevlt {W : Nat → Int64} {i r : Int} (h : own_prevP W i r) (h0 : 0 ≤ i) : r ≤ i := by
  rcases h with ⟨h, -⟩ | ⟨t, h, h', -⟩ <;> omega
theorem own_gele {a x : Int32} (h : ¬ x < a) (ha : 0 ≤ a.toInt) : 0 ≤ x.toInt := by rw [Int32.lt_iff_toInt_lt] at h; omega
def own_maxP (W : Nat → Int64) (r : Int) : Prop := ∃ x, own_topP W x ∧ ((x ≤ 1 ∧ r = 0) ∨ (1 < x ∧ r = x - 1))
theorem own_maxA {W : Nat → Int64} {x r : Int32} (h : own_topP W x.toInt) (h1 : (0 : Int32) < x - (1 : Int32) → r = x - (1 : Int32)) (h2 : ¬ (0 : Int32) < x - (1 : Int32) → r = 0) : own_maxP W r.toInt := by
  have := own_top0 h
  have := Int32.toInt_lt x
  have e := own_sb (x := x) (y := (1 : Int32)) rfl (show _ = 1 by decide) (by omega) (by omega)
  rw [Int32.lt_iff_toInt_lt, e, show (0 : Int32).toInt = 0 by decide] at h1 h2
  refine ⟨_, h, ?_⟩
  by_cases q : 0 < x.toInt - 1
  · rw [h1 q, e]; exact Or.inr ⟨by omega, rfl⟩
  · rw [h2 q]; exact Or.inl ⟨by omega, by decide⟩
theorem own_max_val {W : Nat → Int64} {a r : Int} (h0 : 0 < a) (h1 : ∀ j : Nat, (j : Int) = a → own_B W j) (h2 : ∀ j : Nat, a < j → ¬ own_B W j) (h : own_maxP W r) : r = a := by
  obtain ⟨x, hx, h⟩ := h
  have hB := h1 a.toNat (by omega)
  rcases hx with ⟨-, hx⟩ | ⟨t, rfl, ht, hx⟩
  · exact absurd hB (hx _)
  · have : ¬ (t : Int) < a := fun q => hx a.toNat (by omega) hB
    have : ¬ a < (t : Int) := fun q => h2 t q ht
    omega
theorem own_B0 (j : Nat) : ¬ own_B (own_w 0 0 0 0) j := by
  have : own_w 0 0 0 0 (j / 64) = 0 := by
    generalize j / 64 = q
    rcases q with _ | _ | _ | _ | q <;> rfl
  unfold own_B; rw [this]; exact own_bit_zero _
theorem own_Wd0 : own_Wd (own_w 0 0 0 0) (0 : Int32).toInt := ⟨by decide, fun j _ => own_B0 j, Or.inl (by decide)⟩
theorem own_rf (a : Int32) : 1 ≤ ((1 : Int32) + (a &&& (127 : Int32))).toInt ∧ ((1 : Int32) + (a &&& (127 : Int32))).toInt ≤ 128 := by
  have := c_and a (127 : Int32) (by decide)
  have e : (127 : Int32).toInt = 127 := by decide
  rw [own_sm (x := (1 : Int32)) (show _ = 1 by decide) rfl (by omega) (by omega)]; omega
theorem own_rl (f a q : Int32) {b : Int} (hb : q.toInt = b) (h0 : 0 ≤ b) (h1 : b ≤ 1000) (f0 : 0 ≤ f.toInt) (f1 : f.toInt ≤ 1000) : f.toInt ≤ (f + (a &&& q)).toInt ∧ (f + (a &&& q)).toInt ≤ f.toInt + b := by
  have := c_and a q (by omega)
  rw [own_sm (x := f) rfl rfl (by omega) (by omega)]; omega

theorem own_clsA {f l : Int32} (h0 : 0 ≤ f.toInt) (h1 : f.toInt ≤ l.toInt) (h2 : (l.toInt ≤ 191 ∧ l.toInt ≤ f.toInt + 63) ∨ (192 ≤ f.toInt ∧ l.toInt ≤ 255)) : own_cls f (l + (1 : Int32)) := by
  have e := own_sm (x := l) (y := (1 : Int32)) rfl (show _ = 1 by decide) (by omega) (by omega)
  unfold own_cls
  rw [e]
  omega
theorem own_HB1 {W : Nat → Int64} {f l : Int32} (e : (l + (1 : Int32)).toInt = l.toInt + 1) (S : own_setP (own_w 0 0 0 0) W f.toInt (l + (1 : Int32)).toInt) (j : Nat) : own_B W j ↔ (f.toInt ≤ j ∧ (j : Int) ≤ l.toInt) := by
  have h := S j
  have h0 := own_B0 j
  rw [e] at h
  constructor
  · intro q
    rcases h.mp q with q | q
    · exact absurd q h0
    · omega
  · intro q; exact h.mpr (Or.inr (by omega))
theorem own_HB2 {W W' : Nat → Int64} {f l f' l' : Int32} (e : (l + (1 : Int32)).toInt = l.toInt + 1) (e' : (l' + (1 : Int32)).toInt = l'.toInt + 1) (S : own_setP (own_w 0 0 0 0) W f.toInt (l + (1 : Int32)).toInt) (S' : own_setP W W' f'.toInt (l' + (1 : Int32)).toInt) (j : Nat) : own_B W' j ↔ (f.toInt ≤ j ∧ (j : Int) ≤ l.toInt) ∨ (f'.toInt ≤ j ∧ (j : Int) ≤ l'.toInt) := by
  have h := S' j
  rw [own_HB1 e S j, e'] at h
  rw [h]
  constructor <;> rintro (q | q)
  · exact Or.inl q
  · exact Or.inr (by omega)
  · exact Or.inl q
  · exact Or.inr (by omega)
theorem own_steq {args : Array Value} {Z : State} {t : Term} {q : Int32} (h : (Jvm.Cond.eq t (.int q)).value args Z none Z [] = some true) : t.eval args Z none [] Z = some (.int q) := by
  obtain ⟨x, y, h1, h2, -, k2⟩ := cmp_v (Or.inl h)
  cases (Term.int_eval q).symm.trans h2
  obtain ⟨z, rfl⟩ := k2
  simp only [Cond.value, h1, h2] at h
  have h3 : z = q := by simpa using h
  subst h3
  exact h1
theorem own_pn0 : plainName "java/util/BitSet" = true := by first | (simp [plainName, overriddenIn]; done) | decide +kernel
theorem own_ef5 (m : MethodId) (x0 : Int32) : entryFrame m #[(.int x0)] 1 = mkF m 0 #[.val (.int x0)] [] := by first | (simp [entryFrame, mkF, argsToLocals, Value.category]; done) | rfl
theorem own_d5_0 : decode jdk_92_method_1_code 0 = .ok (.iload_n 0, 1) := by decide +kernel
theorem own_d5_1 : decode jdk_92_method_1_code 1 = .ok (.bipush 6, 2) := by decide +kernel
theorem own_d5_3 : decode jdk_92_method_1_code 3 = .ok (.ishr, 1) := by decide +kernel
theorem own_d5_4 : decode jdk_92_method_1_code 4 = .ok (.ireturn, 1) := by decide +kernel
def own_Q_own_wordIndex (Z : State) (i : Int32) (q : Int32) (h0 : Heap) (n0 : Nat) (v : Option Value) (h : Heap) (L : List Loc) : Prop := v = some (.int q) ∧ Fr n0 L ∧ h = h0
set_option maxRecDepth 65536 in
set_option maxHeartbeats 40000000 in
theorem own_wordIndex (l : Launch) (Z : State) (a0 : Array Value) (hw : ∀ d ∈ tables_1, d.before a0 Z = true) (ws : List Jvm.Cond) (i : Int32) (q : Int32) (h0 : Heap) (n0 : Nat) (O0 : Old Z n0 h0) (hq : (i >>> ((6 : Int32) &&& 31)) = q) :
    MetFree l (⟨"java/util/BitSet", "wordIndex", "(I)I"⟩ : MethodName) (head1 (Jvm.Cond.code (⟨"java/util/BitSet", "wordIndex", "(I)I"⟩ : MethodName) jdk_92_method_1_code 1 (some .int) :: ws) ({ frames := 0, cells := 0, slots := 0, locals := 0 } : Room)) (fun args_ U => args_ = #[(.int i)] ∧ Z.Warmed39 U.vm ∧ U.heap = h0) (fun _ _ _ _ _ => True) (fun _ U o U' => ∃ v L, o = .returned v ∧ (own_Q_own_wordIndex Z i q h0 n0) v U'.heap L ∧ FrameEnd U o U' L ({ frames := 0, cells := 0, slots := 0, locals := 0 } : Room).cells ({ frames := 0, cells := 0, slots := 0, locals := 0 } : Room).slots) := by
 refine MetFree.of_bodySF (plainFor_of_name own_pn0) hisR ?_
 intro p e s m args below meth c s₁ Bd hml0 hP hK
 obtain ⟨rfl, hZ, hh⟩ := hP
 have hx := Bd.exec
 have hby := Bd.bytes
 have hml : c.maxLocals = 1 := hml0
 have hown : s.vm.findClass "java/util/BitSet" = some m.cls := findClass_of_methodNamed Bd.named
 have hnm := (name_of_methodNamed Bd.named Bd.method).1
 have X0 : Stand p l e ({ frames := 0, cells := 0, slots := 0, locals := 0 } : Room) s m #[(.int i)] below meth c s₁ [] 0 0 := Stand.of_body Bd
 have e0 : s₁.heap = h0 := by rw [← hh, Bd.state]; rfl
 have N0 := Fr.nil n0
 refine own_close (s := s) (Q := (own_Q_own_wordIndex Z i q h0 n0)) (C := (({ frames := 0, cells := 0, slots := 0, locals := 0 } : Room)).cells) (N := (({ frames := 0, cells := 0, slots := 0, locals := 0 } : Room)).slots) (own_st (fun _ kt => castTop (own_ef5 m i) kt) ?_)
 show own_Rch _ _ _ _ s₁ (mkF m 0 #[oI i] [])
 refine own_st (fun _ => XS.iloadN X0.here hx rfl (hb hby own_d5_0) rfl) ?_
 show own_Rch _ _ _ _ s₁ (mkF m 1 #[oI i] [(.int i)])
 refine own_st (fun _ => XS.bipush X0.here hx rfl (hb hby own_d5_1)) ?_
 show own_Rch _ _ _ _ s₁ (mkF m 3 #[oI i] [(.int (6 : Int32)), (.int i)])
 refine own_st (fun _ => XS.ishr X0.here hx rfl (hb hby own_d5_3) rfl) ?_
 show own_Rch _ _ _ _ s₁ (mkF m 4 #[oI i] [(.int (i >>> ((6 : Int32) &&& 31)))])
 refine own_retI X0 hx Bd.notSynchronized Bd.returns (hb hby own_d5_4) (by decide) (by decide) ?_
 rw [e0]
 exact ⟨by rw [hq], N0, rfl⟩
theorem own_pn1 : plainName "java/lang/Integer" = true := by first | (simp [plainName, overriddenIn]; done) | decide +kernel
theorem own_ef15 (m : MethodId) (x0 : Int32) : entryFrame m #[(.int x0)] 2 = mkF m 0 #[.val (.int x0), .unset] [] := by first | (simp [entryFrame, mkF, argsToLocals, Value.category]; done) | rfl
theorem own_d15_0 : decode jdk_33_method_47_code 0 = .ok (.iload_n 0, 1) := by decide +kernel
theorem own_d15_1 : decode jdk_33_method_47_code 1 = .ok (.ifCond .gt 14, 3) := by decide +kernel
theorem own_d15_15 : decode jdk_33_method_47_code 15 = .ok (.bipush 31, 2) := by decide +kernel
theorem own_d15_17 : decode jdk_33_method_47_code 17 = .ok (.istore_n 1, 1) := by decide +kernel
theorem own_d15_18 : decode jdk_33_method_47_code 18 = .ok (.iload_n 0, 1) := by decide +kernel
theorem own_d15_19 : decode jdk_33_method_47_code 19 = .ok (.ldc_w 264, 3) := by decide +kernel
theorem own_d15_22 : decode jdk_33_method_47_code 22 = .ok (.if_icmp .lt 11, 3) := by decide +kernel
theorem own_d15_33 : decode jdk_33_method_47_code 33 = .ok (.iload_n 0, 1) := by decide +kernel
theorem own_d15_34 : decode jdk_33_method_47_code 34 = .ok (.sipush 256, 3) := by decide +kernel
theorem own_d15_37 : decode jdk_33_method_47_code 37 = .ok (.if_icmp .lt 11, 3) := by decide +kernel
theorem own_d15_48 : decode jdk_33_method_47_code 48 = .ok (.iload_n 0, 1) := by decide +kernel
theorem own_d15_49 : decode jdk_33_method_47_code 49 = .ok (.bipush 16, 2) := by decide +kernel
theorem own_d15_51 : decode jdk_33_method_47_code 51 = .ok (.if_icmp .lt 10, 3) := by decide +kernel
theorem own_d15_61 : decode jdk_33_method_47_code 61 = .ok (.iload_n 0, 1) := by decide +kernel
theorem own_d15_62 : decode jdk_33_method_47_code 62 = .ok (.iconst 4, 1) := by decide +kernel
theorem own_d15_63 : decode jdk_33_method_47_code 63 = .ok (.if_icmp .lt 10, 3) := by decide +kernel
theorem own_d15_73 : decode jdk_33_method_47_code 73 = .ok (.iload_n 1, 1) := by decide +kernel
theorem own_d15_74 : decode jdk_33_method_47_code 74 = .ok (.iload_n 0, 1) := by decide +kernel
theorem own_d15_75 : decode jdk_33_method_47_code 75 = .ok (.iconst 1, 1) := by decide +kernel
theorem own_d15_76 : decode jdk_33_method_47_code 76 = .ok (.iushr, 1) := by decide +kernel
theorem own_d15_77 : decode jdk_33_method_47_code 77 = .ok (.isub, 1) := by decide +kernel
theorem own_d15_78 : decode jdk_33_method_47_code 78 = .ok (.ireturn, 1) := by decide +kernel
theorem own_d15_66 : decode jdk_33_method_47_code 66 = .ok (.iinc 1 (-2), 3) := by decide +kernel
theorem own_d15_69 : decode jdk_33_method_47_code 69 = .ok (.iload_n 0, 1) := by decide +kernel
theorem own_d15_70 : decode jdk_33_method_47_code 70 = .ok (.iconst 2, 1) := by decide +kernel
theorem own_d15_71 : decode jdk_33_method_47_code 71 = .ok (.iushr, 1) := by decide +kernel
theorem own_d15_72 : decode jdk_33_method_47_code 72 = .ok (.istore_n 0, 1) := by decide +kernel
theorem own_d15_54 : decode jdk_33_method_47_code 54 = .ok (.iinc 1 (-4), 3) := by decide +kernel
theorem own_d15_57 : decode jdk_33_method_47_code 57 = .ok (.iload_n 0, 1) := by decide +kernel
theorem own_d15_58 : decode jdk_33_method_47_code 58 = .ok (.iconst 4, 1) := by decide +kernel
theorem own_d15_59 : decode jdk_33_method_47_code 59 = .ok (.iushr, 1) := by decide +kernel
theorem own_d15_60 : decode jdk_33_method_47_code 60 = .ok (.istore_n 0, 1) := by decide +kernel
theorem own_d15_40 : decode jdk_33_method_47_code 40 = .ok (.iinc 1 (-8), 3) := by decide +kernel
theorem own_d15_43 : decode jdk_33_method_47_code 43 = .ok (.iload_n 0, 1) := by decide +kernel
theorem own_d15_44 : decode jdk_33_method_47_code 44 = .ok (.bipush 8, 2) := by decide +kernel
theorem own_d15_46 : decode jdk_33_method_47_code 46 = .ok (.iushr, 1) := by decide +kernel
theorem own_d15_47 : decode jdk_33_method_47_code 47 = .ok (.istore_n 0, 1) := by decide +kernel
theorem own_d15_25 : decode jdk_33_method_47_code 25 = .ok (.iinc 1 (-16), 3) := by decide +kernel
theorem own_d15_28 : decode jdk_33_method_47_code 28 = .ok (.iload_n 0, 1) := by decide +kernel
theorem own_d15_29 : decode jdk_33_method_47_code 29 = .ok (.bipush 16, 2) := by decide +kernel
theorem own_d15_31 : decode jdk_33_method_47_code 31 = .ok (.iushr, 1) := by decide +kernel
theorem own_d15_32 : decode jdk_33_method_47_code 32 = .ok (.istore_n 0, 1) := by decide +kernel
theorem own_d15_4 : decode jdk_33_method_47_code 4 = .ok (.iload_n 0, 1) := by decide +kernel
theorem own_d15_5 : decode jdk_33_method_47_code 5 = .ok (.ifCond .ne 8, 3) := by decide +kernel
theorem own_d15_13 : decode jdk_33_method_47_code 13 = .ok (.iconst 0, 1) := by decide +kernel
theorem own_d15_14 : decode jdk_33_method_47_code 14 = .ok (.ireturn, 1) := by decide +kernel
def own_Q_own_nlzI (Z : State) (i : Int32) (h0 : Heap) (n0 : Nat) (v : Option Value) (h : Heap) (L : List Loc) : Prop := ∃ r : Int32, v = some (.int r) ∧ Fr n0 L ∧ h = h0 ∧ own_nlz32 i r
set_option maxRecDepth 65536 in
set_option maxHeartbeats 40000000 in
theorem own_nlzI (l : Launch) (Z : State) (a0 : Array Value) (hw : ∀ d ∈ tables_1, d.before a0 Z = true) (ws : List Jvm.Cond) (i : Int32) (h0 : Heap) (n0 : Nat) (O0 : Old Z n0 h0) (hz : ¬ i = 0) :
    MetFree l (⟨"java/lang/Integer", "numberOfLeadingZeros", "(I)I"⟩ : MethodName) (head1 (Jvm.Cond.code (⟨"java/lang/Integer", "numberOfLeadingZeros", "(I)I"⟩ : MethodName) jdk_33_method_47_code 2 (some .int) :: ws) ({ frames := 0, cells := 0, slots := 0, locals := 0 } : Room)) (fun args_ U => args_ = #[(.int i)] ∧ Z.Warmed39 U.vm ∧ U.heap = h0) (fun _ _ _ _ _ => True) (fun _ U o U' => ∃ v L, o = .returned v ∧ (own_Q_own_nlzI Z i h0 n0) v U'.heap L ∧ FrameEnd U o U' L ({ frames := 0, cells := 0, slots := 0, locals := 0 } : Room).cells ({ frames := 0, cells := 0, slots := 0, locals := 0 } : Room).slots) := by
 refine MetFree.of_bodySF (plainFor_of_name own_pn1) hisR ?_
 intro p e s m args below meth c s₁ Bd hml0 hP hK
 obtain ⟨rfl, hZ, hh⟩ := hP
 have hx := Bd.exec
 have hby := Bd.bytes
 have hml : c.maxLocals = 2 := hml0
 have hown : s.vm.findClass "java/lang/Integer" = some m.cls := findClass_of_methodNamed Bd.named
 have hnm := (name_of_methodNamed Bd.named Bd.method).1
 have X0 : Stand p l e ({ frames := 0, cells := 0, slots := 0, locals := 0 } : Room) s m #[(.int i)] below meth c s₁ [] 0 0 := Stand.of_body Bd
 have e0 : s₁.heap = h0 := by rw [← hh, Bd.state]; rfl
 have N0 := Fr.nil n0
 have ci0 : (0 : Int32).toInt = 0 := by decide
 have ci1 : (1 : Int32).toInt = 1 := by decide
 have ci2 : (2 : Int32).toInt = 2 := by decide
 have ci3 : (3 : Int32).toInt = 3 := by decide
 have ci4 : (4 : Int32).toInt = 4 := by decide
 have ci16 : (16 : Int32).toInt = 16 := by decide
 have ci256 : (256 : Int32).toInt = 256 := by decide
 have ci65536 : (65536 : Int32).toInt = 65536 := by decide
 refine own_close (s := s) (Q := (own_Q_own_nlzI Z i h0 n0)) (C := (({ frames := 0, cells := 0, slots := 0, locals := 0 } : Room)).cells) (N := (({ frames := 0, cells := 0, slots := 0, locals := 0 } : Room)).slots) (own_st (fun _ kt => castTop (own_ef15 m i) kt) ?_)
 show own_Rch _ _ _ _ s₁ (mkF m 0 #[oI i, .unset] [])
 refine own_st (fun _ => XS.iloadN X0.here hx rfl (hb hby own_d15_0) rfl) ?_
 show own_Rch _ _ _ _ s₁ (mkF m 1 #[oI i, .unset] [(.int i)])
 by_cases hc1_1 : (0 : Int32) < i
 · -- pc 1: True
  refine own_st (fun _ => XS.ifYes X0.here hx rfl (pc0 := 1) (pc' := 15) rfl (hb hby own_d15_1) rfl ((if0 _ _).trans (tlt hc1_1).2.2.1) (by decide) (by decide)) ?_
  have hpp := Int32.lt_iff_toInt_lt.mp hc1_1
  have hp0 : 0 ≤ i.toInt := by omega
  have hub := Int32.toInt_lt i
  show own_Rch _ _ _ _ s₁ (mkF m 15 #[oI i, .unset] [])
  refine own_st (fun _ => XS.bipush X0.here hx rfl (hb hby own_d15_15)) ?_
  show own_Rch _ _ _ _ s₁ (mkF m 17 #[oI i, .unset] [(.int (31 : Int32))])
  refine own_st (fun _ => XS.istoreN X0.here hx rfl (hb hby own_d15_17) rfl (l' := #[oI i, oI (31 : Int32)]) rfl) ?_
  show own_Rch _ _ _ _ s₁ (mkF m 18 #[oI i, oI (31 : Int32)] [])
  refine own_st (fun _ => XS.iloadN X0.here hx rfl (hb hby own_d15_18) rfl) ?_
  show own_Rch _ _ _ _ s₁ (mkF m 19 #[oI i, oI (31 : Int32)] [(.int i)])
  refine own_st (X0.ldcwInt hx hown (mvT hZ (hw _ (own_m 81 rfl))) (g := (mkF m 19 #[oI i, oI (31 : Int32)] [(.int i)])) rfl (hb hby own_d15_19)) ?_
  show own_Rch _ _ _ _ s₁ (mkF m 22 #[oI i, oI (31 : Int32)] [(.int (65536 : Int32)), (.int i)])
  by_cases hc22_2 : i < (65536 : Int32)
  · -- pc 22: True
   refine own_st (fun _ => XS.icmpYes X0.here hx rfl (pc0 := 22) (pc' := 33) rfl (hb hby own_d15_22) rfl (tlt hc22_2).1 (by decide) (by decide)) ?_
   show own_Rch _ _ _ _ s₁ (mkF m 33 #[oI i, oI (31 : Int32)] [])
   refine own_st (fun _ => XS.iloadN X0.here hx rfl (hb hby own_d15_33) rfl) ?_
   show own_Rch _ _ _ _ s₁ (mkF m 34 #[oI i, oI (31 : Int32)] [(.int i)])
   refine own_st (fun _ => XS.sipush X0.here hx rfl (hb hby own_d15_34)) ?_
   show own_Rch _ _ _ _ s₁ (mkF m 37 #[oI i, oI (31 : Int32)] [(.int (256 : Int32)), (.int i)])
   by_cases hc37_3 : i < (256 : Int32)
   · -- pc 37: True
    refine own_st (fun _ => XS.icmpYes X0.here hx rfl (pc0 := 37) (pc' := 48) rfl (hb hby own_d15_37) rfl (tlt hc37_3).1 (by decide) (by decide)) ?_
    show own_Rch _ _ _ _ s₁ (mkF m 48 #[oI i, oI (31 : Int32)] [])
    refine own_st (fun _ => XS.iloadN X0.here hx rfl (hb hby own_d15_48) rfl) ?_
    show own_Rch _ _ _ _ s₁ (mkF m 49 #[oI i, oI (31 : Int32)] [(.int i)])
    refine own_st (fun _ => XS.bipush X0.here hx rfl (hb hby own_d15_49)) ?_
    show own_Rch _ _ _ _ s₁ (mkF m 51 #[oI i, oI (31 : Int32)] [(.int (16 : Int32)), (.int i)])
    by_cases hc51_4 : i < (16 : Int32)
    · -- pc 51: True
     refine own_st (fun _ => XS.icmpYes X0.here hx rfl (pc0 := 51) (pc' := 61) rfl (hb hby own_d15_51) rfl (tlt hc51_4).1 (by decide) (by decide)) ?_
     show own_Rch _ _ _ _ s₁ (mkF m 61 #[oI i, oI (31 : Int32)] [])
     refine own_st (fun _ => XS.iloadN X0.here hx rfl (hb hby own_d15_61) rfl) ?_
     show own_Rch _ _ _ _ s₁ (mkF m 62 #[oI i, oI (31 : Int32)] [(.int i)])
     refine own_st (fun _ => XS.iconst X0.here hx rfl (hb hby own_d15_62)) ?_
     show own_Rch _ _ _ _ s₁ (mkF m 63 #[oI i, oI (31 : Int32)] [(.int (4 : Int32)), (.int i)])
     by_cases hc63_5 : i < (4 : Int32)
     · -- pc 63: True
      refine own_st (fun _ => XS.icmpYes X0.here hx rfl (pc0 := 63) (pc' := 73) rfl (hb hby own_d15_63) rfl (tlt hc63_5).1 (by decide) (by decide)) ?_
      show own_Rch _ _ _ _ s₁ (mkF m 73 #[oI i, oI (31 : Int32)] [])
      refine own_st (fun _ => XS.iloadN X0.here hx rfl (hb hby own_d15_73) rfl) ?_
      show own_Rch _ _ _ _ s₁ (mkF m 74 #[oI i, oI (31 : Int32)] [(.int (31 : Int32))])
      refine own_st (fun _ => XS.iloadN X0.here hx rfl (hb hby own_d15_74) rfl) ?_
      show own_Rch _ _ _ _ s₁ (mkF m 75 #[oI i, oI (31 : Int32)] [(.int i), (.int (31 : Int32))])
      refine own_st (fun _ => XS.iconst X0.here hx rfl (hb hby own_d15_75)) ?_
      show own_Rch _ _ _ _ s₁ (mkF m 76 #[oI i, oI (31 : Int32)] [(.int (1 : Int32)), (.int i), (.int (31 : Int32))])
      refine own_st (fun _ => XS.iushr X0.here hx rfl (hb hby own_d15_76) rfl) ?_
      show own_Rch _ _ _ _ s₁ (mkF m 77 #[oI i, oI (31 : Int32)] [(.int ((i.toUInt32 >>> ((1 : Int32) &&& 31).toUInt32).toInt32)), (.int (31 : Int32))])
      refine own_st (fun _ => XS.isub X0.here hx rfl (hb hby own_d15_77) rfl) ?_
      show own_Rch _ _ _ _ s₁ (mkF m 78 #[oI i, oI (31 : Int32)] [(.int ((31 : Int32) - ((i.toUInt32 >>> ((1 : Int32) &&& 31).toUInt32).toInt32)))])
      refine own_retI X0 hx Bd.notSynchronized Bd.returns (hb hby own_d15_78) (by decide) (by decide) ?_
      rw [e0]
      rw [Int32.lt_iff_toInt_lt] at hc22_2 hc37_3 hc51_4 hc63_5
      have sr := own_ush (x := i) (q := (1 : Int32)) (k := 1) (by decide) (by decide) 2 (by decide) hp0
      have rr := own_sb (x := (31 : Int32)) (y := ((i.toUInt32 >>> ((1 : Int32) &&& 31).toUInt32).toInt32)) (a := 31) (b := i.toInt / 2) (by decide) sr (by omega) (by omega)
      exact ⟨_, rfl, N0, rfl, own_nlz_leaf 0 (by decide) 1 (by decide) (by omega) (by omega) (by rw [rr]; omega)⟩
     · -- pc 63: False
      refine own_st (fun _ => XS.icmpNo X0.here hx rfl (hb hby own_d15_63) rfl (flt hc63_5).1) ?_
      show own_Rch _ _ _ _ s₁ (mkF m 66 #[oI i, oI (31 : Int32)] [])
      refine own_st (fun _ => XS.iinc X0.here hx rfl (hb hby own_d15_66) rfl (l' := #[oI i, oI (29 : Int32)]) rfl) ?_
      show own_Rch _ _ _ _ s₁ (mkF m 69 #[oI i, oI (29 : Int32)] [])
      refine own_st (fun _ => XS.iloadN X0.here hx rfl (hb hby own_d15_69) rfl) ?_
      show own_Rch _ _ _ _ s₁ (mkF m 70 #[oI i, oI (29 : Int32)] [(.int i)])
      refine own_st (fun _ => XS.iconst X0.here hx rfl (hb hby own_d15_70)) ?_
      show own_Rch _ _ _ _ s₁ (mkF m 71 #[oI i, oI (29 : Int32)] [(.int (2 : Int32)), (.int i)])
      refine own_st (fun _ => XS.iushr X0.here hx rfl (hb hby own_d15_71) rfl) ?_
      show own_Rch _ _ _ _ s₁ (mkF m 72 #[oI i, oI (29 : Int32)] [(.int ((i.toUInt32 >>> ((2 : Int32) &&& 31).toUInt32).toInt32))])
      refine own_st (fun _ => XS.istoreN X0.here hx rfl (hb hby own_d15_72) rfl (l' := #[oI ((i.toUInt32 >>> ((2 : Int32) &&& 31).toUInt32).toInt32), oI (29 : Int32)]) rfl) ?_
      have sy6 := own_ush (x := i) (q := (2 : Int32)) (k := 2) (by decide) (by decide) 4 (by decide) hp0
      have py6 : 0 ≤ (((i.toUInt32 >>> ((2 : Int32) &&& 31).toUInt32).toInt32)).toInt := by omega
      show own_Rch _ _ _ _ s₁ (mkF m 73 #[oI ((i.toUInt32 >>> ((2 : Int32) &&& 31).toUInt32).toInt32), oI (29 : Int32)] [])
      generalize ((i.toUInt32 >>> ((2 : Int32) &&& 31).toUInt32).toInt32) = y6 at sy6 py6 ⊢
      show own_Rch _ _ _ _ s₁ (mkF m 73 #[oI y6, oI (29 : Int32)] [])
      refine own_st (fun _ => XS.iloadN X0.here hx rfl (hb hby own_d15_73) rfl) ?_
      show own_Rch _ _ _ _ s₁ (mkF m 74 #[oI y6, oI (29 : Int32)] [(.int (29 : Int32))])
      refine own_st (fun _ => XS.iloadN X0.here hx rfl (hb hby own_d15_74) rfl) ?_
      show own_Rch _ _ _ _ s₁ (mkF m 75 #[oI y6, oI (29 : Int32)] [(.int y6), (.int (29 : Int32))])
      refine own_st (fun _ => XS.iconst X0.here hx rfl (hb hby own_d15_75)) ?_
      show own_Rch _ _ _ _ s₁ (mkF m 76 #[oI y6, oI (29 : Int32)] [(.int (1 : Int32)), (.int y6), (.int (29 : Int32))])
      refine own_st (fun _ => XS.iushr X0.here hx rfl (hb hby own_d15_76) rfl) ?_
      show own_Rch _ _ _ _ s₁ (mkF m 77 #[oI y6, oI (29 : Int32)] [(.int ((y6.toUInt32 >>> ((1 : Int32) &&& 31).toUInt32).toInt32)), (.int (29 : Int32))])
      refine own_st (fun _ => XS.isub X0.here hx rfl (hb hby own_d15_77) rfl) ?_
      show own_Rch _ _ _ _ s₁ (mkF m 78 #[oI y6, oI (29 : Int32)] [(.int ((29 : Int32) - ((y6.toUInt32 >>> ((1 : Int32) &&& 31).toUInt32).toInt32)))])
      refine own_retI X0 hx Bd.notSynchronized Bd.returns (hb hby own_d15_78) (by decide) (by decide) ?_
      rw [e0]
      rw [Int32.lt_iff_toInt_lt] at hc22_2 hc37_3 hc51_4 hc63_5
      have sr := own_ush (x := y6) (q := (1 : Int32)) (k := 1) (by decide) (by decide) 2 (by decide) py6
      have rr := own_sb (x := (29 : Int32)) (y := ((y6.toUInt32 >>> ((1 : Int32) &&& 31).toUInt32).toInt32)) (a := 29) (b := y6.toInt / 2) (by decide) sr (by omega) (by omega)
      exact ⟨_, rfl, N0, rfl, own_nlz_leaf 2 (by decide) 4 (by decide) (by omega) (by omega) (by rw [rr]; omega)⟩
    · -- pc 51: False
     refine own_st (fun _ => XS.icmpNo X0.here hx rfl (hb hby own_d15_51) rfl (flt hc51_4).1) ?_
     show own_Rch _ _ _ _ s₁ (mkF m 54 #[oI i, oI (31 : Int32)] [])
     refine own_st (fun _ => XS.iinc X0.here hx rfl (hb hby own_d15_54) rfl (l' := #[oI i, oI (27 : Int32)]) rfl) ?_
     show own_Rch _ _ _ _ s₁ (mkF m 57 #[oI i, oI (27 : Int32)] [])
     refine own_st (fun _ => XS.iloadN X0.here hx rfl (hb hby own_d15_57) rfl) ?_
     show own_Rch _ _ _ _ s₁ (mkF m 58 #[oI i, oI (27 : Int32)] [(.int i)])
     refine own_st (fun _ => XS.iconst X0.here hx rfl (hb hby own_d15_58)) ?_
     show own_Rch _ _ _ _ s₁ (mkF m 59 #[oI i, oI (27 : Int32)] [(.int (4 : Int32)), (.int i)])
     refine own_st (fun _ => XS.iushr X0.here hx rfl (hb hby own_d15_59) rfl) ?_
     show own_Rch _ _ _ _ s₁ (mkF m 60 #[oI i, oI (27 : Int32)] [(.int ((i.toUInt32 >>> ((4 : Int32) &&& 31).toUInt32).toInt32))])
     refine own_st (fun _ => XS.istoreN X0.here hx rfl (hb hby own_d15_60) rfl (l' := #[oI ((i.toUInt32 >>> ((4 : Int32) &&& 31).toUInt32).toInt32), oI (27 : Int32)]) rfl) ?_
     have sy7 := own_ush (x := i) (q := (4 : Int32)) (k := 4) (by decide) (by decide) 16 (by decide) hp0
     have py7 : 0 ≤ (((i.toUInt32 >>> ((4 : Int32) &&& 31).toUInt32).toInt32)).toInt := by omega
     show own_Rch _ _ _ _ s₁ (mkF m 61 #[oI ((i.toUInt32 >>> ((4 : Int32) &&& 31).toUInt32).toInt32), oI (27 : Int32)] [])
     generalize ((i.toUInt32 >>> ((4 : Int32) &&& 31).toUInt32).toInt32) = y7 at sy7 py7 ⊢
     show own_Rch _ _ _ _ s₁ (mkF m 61 #[oI y7, oI (27 : Int32)] [])
     refine own_st (fun _ => XS.iloadN X0.here hx rfl (hb hby own_d15_61) rfl) ?_
     show own_Rch _ _ _ _ s₁ (mkF m 62 #[oI y7, oI (27 : Int32)] [(.int y7)])
     refine own_st (fun _ => XS.iconst X0.here hx rfl (hb hby own_d15_62)) ?_
     show own_Rch _ _ _ _ s₁ (mkF m 63 #[oI y7, oI (27 : Int32)] [(.int (4 : Int32)), (.int y7)])
     by_cases hc63_8 : y7 < (4 : Int32)
     · -- pc 63: True
      refine own_st (fun _ => XS.icmpYes X0.here hx rfl (pc0 := 63) (pc' := 73) rfl (hb hby own_d15_63) rfl (tlt hc63_8).1 (by decide) (by decide)) ?_
      show own_Rch _ _ _ _ s₁ (mkF m 73 #[oI y7, oI (27 : Int32)] [])
      refine own_st (fun _ => XS.iloadN X0.here hx rfl (hb hby own_d15_73) rfl) ?_
      show own_Rch _ _ _ _ s₁ (mkF m 74 #[oI y7, oI (27 : Int32)] [(.int (27 : Int32))])
      refine own_st (fun _ => XS.iloadN X0.here hx rfl (hb hby own_d15_74) rfl) ?_
      show own_Rch _ _ _ _ s₁ (mkF m 75 #[oI y7, oI (27 : Int32)] [(.int y7), (.int (27 : Int32))])
      refine own_st (fun _ => XS.iconst X0.here hx rfl (hb hby own_d15_75)) ?_
      show own_Rch _ _ _ _ s₁ (mkF m 76 #[oI y7, oI (27 : Int32)] [(.int (1 : Int32)), (.int y7), (.int (27 : Int32))])
      refine own_st (fun _ => XS.iushr X0.here hx rfl (hb hby own_d15_76) rfl) ?_
      show own_Rch _ _ _ _ s₁ (mkF m 77 #[oI y7, oI (27 : Int32)] [(.int ((y7.toUInt32 >>> ((1 : Int32) &&& 31).toUInt32).toInt32)), (.int (27 : Int32))])
      refine own_st (fun _ => XS.isub X0.here hx rfl (hb hby own_d15_77) rfl) ?_
      show own_Rch _ _ _ _ s₁ (mkF m 78 #[oI y7, oI (27 : Int32)] [(.int ((27 : Int32) - ((y7.toUInt32 >>> ((1 : Int32) &&& 31).toUInt32).toInt32)))])
      refine own_retI X0 hx Bd.notSynchronized Bd.returns (hb hby own_d15_78) (by decide) (by decide) ?_
      rw [e0]
      rw [Int32.lt_iff_toInt_lt] at hc22_2 hc37_3 hc51_4 hc63_8
      have sr := own_ush (x := y7) (q := (1 : Int32)) (k := 1) (by decide) (by decide) 2 (by decide) py7
      have rr := own_sb (x := (27 : Int32)) (y := ((y7.toUInt32 >>> ((1 : Int32) &&& 31).toUInt32).toInt32)) (a := 27) (b := y7.toInt / 2) (by decide) sr (by omega) (by omega)
      exact ⟨_, rfl, N0, rfl, own_nlz_leaf 4 (by decide) 16 (by decide) (by omega) (by omega) (by rw [rr]; omega)⟩
     · -- pc 63: False
      refine own_st (fun _ => XS.icmpNo X0.here hx rfl (hb hby own_d15_63) rfl (flt hc63_8).1) ?_
      show own_Rch _ _ _ _ s₁ (mkF m 66 #[oI y7, oI (27 : Int32)] [])
      refine own_st (fun _ => XS.iinc X0.here hx rfl (hb hby own_d15_66) rfl (l' := #[oI y7, oI (25 : Int32)]) rfl) ?_
      show own_Rch _ _ _ _ s₁ (mkF m 69 #[oI y7, oI (25 : Int32)] [])
      refine own_st (fun _ => XS.iloadN X0.here hx rfl (hb hby own_d15_69) rfl) ?_
      show own_Rch _ _ _ _ s₁ (mkF m 70 #[oI y7, oI (25 : Int32)] [(.int y7)])
      refine own_st (fun _ => XS.iconst X0.here hx rfl (hb hby own_d15_70)) ?_
      show own_Rch _ _ _ _ s₁ (mkF m 71 #[oI y7, oI (25 : Int32)] [(.int (2 : Int32)), (.int y7)])
      refine own_st (fun _ => XS.iushr X0.here hx rfl (hb hby own_d15_71) rfl) ?_
      show own_Rch _ _ _ _ s₁ (mkF m 72 #[oI y7, oI (25 : Int32)] [(.int ((y7.toUInt32 >>> ((2 : Int32) &&& 31).toUInt32).toInt32))])
      refine own_st (fun _ => XS.istoreN X0.here hx rfl (hb hby own_d15_72) rfl (l' := #[oI ((y7.toUInt32 >>> ((2 : Int32) &&& 31).toUInt32).toInt32), oI (25 : Int32)]) rfl) ?_
      have sy9 := own_ush (x := y7) (q := (2 : Int32)) (k := 2) (by decide) (by decide) 4 (by decide) py7
      have py9 : 0 ≤ (((y7.toUInt32 >>> ((2 : Int32) &&& 31).toUInt32).toInt32)).toInt := by omega
      show own_Rch _ _ _ _ s₁ (mkF m 73 #[oI ((y7.toUInt32 >>> ((2 : Int32) &&& 31).toUInt32).toInt32), oI (25 : Int32)] [])
      generalize ((y7.toUInt32 >>> ((2 : Int32) &&& 31).toUInt32).toInt32) = y9 at sy9 py9 ⊢
      show own_Rch _ _ _ _ s₁ (mkF m 73 #[oI y9, oI (25 : Int32)] [])
      refine own_st (fun _ => XS.iloadN X0.here hx rfl (hb hby own_d15_73) rfl) ?_
      show own_Rch _ _ _ _ s₁ (mkF m 74 #[oI y9, oI (25 : Int32)] [(.int (25 : Int32))])
      refine own_st (fun _ => XS.iloadN X0.here hx rfl (hb hby own_d15_74) rfl) ?_
      show own_Rch _ _ _ _ s₁ (mkF m 75 #[oI y9, oI (25 : Int32)] [(.int y9), (.int (25 : Int32))])
      refine own_st (fun _ => XS.iconst X0.here hx rfl (hb hby own_d15_75)) ?_
      show own_Rch _ _ _ _ s₁ (mkF m 76 #[oI y9, oI (25 : Int32)] [(.int (1 : Int32)), (.int y9), (.int (25 : Int32))])
      refine own_st (fun _ => XS.iushr X0.here hx rfl (hb hby own_d15_76) rfl) ?_
      show own_Rch _ _ _ _ s₁ (mkF m 77 #[oI y9, oI (25 : Int32)] [(.int ((y9.toUInt32 >>> ((1 : Int32) &&& 31).toUInt32).toInt32)), (.int (25 : Int32))])
      refine own_st (fun _ => XS.isub X0.here hx rfl (hb hby own_d15_77) rfl) ?_
      show own_Rch _ _ _ _ s₁ (mkF m 78 #[oI y9, oI (25 : Int32)] [(.int ((25 : Int32) - ((y9.toUInt32 >>> ((1 : Int32) &&& 31).toUInt32).toInt32)))])
      refine own_retI X0 hx Bd.notSynchronized Bd.returns (hb hby own_d15_78) (by decide) (by decide) ?_
      rw [e0]
      rw [Int32.lt_iff_toInt_lt] at hc22_2 hc37_3 hc51_4 hc63_8
      have sr := own_ush (x := y9) (q := (1 : Int32)) (k := 1) (by decide) (by decide) 2 (by decide) py9
      have rr := own_sb (x := (25 : Int32)) (y := ((y9.toUInt32 >>> ((1 : Int32) &&& 31).toUInt32).toInt32)) (a := 25) (b := y9.toInt / 2) (by decide) sr (by omega) (by omega)
      exact ⟨_, rfl, N0, rfl, own_nlz_leaf 6 (by decide) 64 (by decide) (by omega) (by omega) (by rw [rr]; omega)⟩
   · -- pc 37: False
    refine own_st (fun _ => XS.icmpNo X0.here hx rfl (hb hby own_d15_37) rfl (flt hc37_3).1) ?_
    show own_Rch _ _ _ _ s₁ (mkF m 40 #[oI i, oI (31 : Int32)] [])
    refine own_st (fun _ => XS.iinc X0.here hx rfl (hb hby own_d15_40) rfl (l' := #[oI i, oI (23 : Int32)]) rfl) ?_
    show own_Rch _ _ _ _ s₁ (mkF m 43 #[oI i, oI (23 : Int32)] [])
    refine own_st (fun _ => XS.iloadN X0.here hx rfl (hb hby own_d15_43) rfl) ?_
    show own_Rch _ _ _ _ s₁ (mkF m 44 #[oI i, oI (23 : Int32)] [(.int i)])
    refine own_st (fun _ => XS.bipush X0.here hx rfl (hb hby own_d15_44)) ?_
    show own_Rch _ _ _ _ s₁ (mkF m 46 #[oI i, oI (23 : Int32)] [(.int (8 : Int32)), (.int i)])
    refine own_st (fun _ => XS.iushr X0.here hx rfl (hb hby own_d15_46) rfl) ?_
    show own_Rch _ _ _ _ s₁ (mkF m 47 #[oI i, oI (23 : Int32)] [(.int ((i.toUInt32 >>> ((8 : Int32) &&& 31).toUInt32).toInt32))])
    refine own_st (fun _ => XS.istoreN X0.here hx rfl (hb hby own_d15_47) rfl (l' := #[oI ((i.toUInt32 >>> ((8 : Int32) &&& 31).toUInt32).toInt32), oI (23 : Int32)]) rfl) ?_
    have sy10 := own_ush (x := i) (q := (8 : Int32)) (k := 8) (by decide) (by decide) 256 (by decide) hp0
    have py10 : 0 ≤ (((i.toUInt32 >>> ((8 : Int32) &&& 31).toUInt32).toInt32)).toInt := by omega
    show own_Rch _ _ _ _ s₁ (mkF m 48 #[oI ((i.toUInt32 >>> ((8 : Int32) &&& 31).toUInt32).toInt32), oI (23 : Int32)] [])
    generalize ((i.toUInt32 >>> ((8 : Int32) &&& 31).toUInt32).toInt32) = y10 at sy10 py10 ⊢
    show own_Rch _ _ _ _ s₁ (mkF m 48 #[oI y10, oI (23 : Int32)] [])
    refine own_st (fun _ => XS.iloadN X0.here hx rfl (hb hby own_d15_48) rfl) ?_
    show own_Rch _ _ _ _ s₁ (mkF m 49 #[oI y10, oI (23 : Int32)] [(.int y10)])
    refine own_st (fun _ => XS.bipush X0.here hx rfl (hb hby own_d15_49)) ?_
    show own_Rch _ _ _ _ s₁ (mkF m 51 #[oI y10, oI (23 : Int32)] [(.int (16 : Int32)), (.int y10)])
    by_cases hc51_11 : y10 < (16 : Int32)
    · -- pc 51: True
     refine own_st (fun _ => XS.icmpYes X0.here hx rfl (pc0 := 51) (pc' := 61) rfl (hb hby own_d15_51) rfl (tlt hc51_11).1 (by decide) (by decide)) ?_
     show own_Rch _ _ _ _ s₁ (mkF m 61 #[oI y10, oI (23 : Int32)] [])
     refine own_st (fun _ => XS.iloadN X0.here hx rfl (hb hby own_d15_61) rfl) ?_
     show own_Rch _ _ _ _ s₁ (mkF m 62 #[oI y10, oI (23 : Int32)] [(.int y10)])
     refine own_st (fun _ => XS.iconst X0.here hx rfl (hb hby own_d15_62)) ?_
     show own_Rch _ _ _ _ s₁ (mkF m 63 #[oI y10, oI (23 : Int32)] [(.int (4 : Int32)), (.int y10)])
     by_cases hc63_12 : y10 < (4 : Int32)
     · -- pc 63: True
      refine own_st (fun _ => XS.icmpYes X0.here hx rfl (pc0 := 63) (pc' := 73) rfl (hb hby own_d15_63) rfl (tlt hc63_12).1 (by decide) (by decide)) ?_
      show own_Rch _ _ _ _ s₁ (mkF m 73 #[oI y10, oI (23 : Int32)] [])
      refine own_st (fun _ => XS.iloadN X0.here hx rfl (hb hby own_d15_73) rfl) ?_
      show own_Rch _ _ _ _ s₁ (mkF m 74 #[oI y10, oI (23 : Int32)] [(.int (23 : Int32))])
      refine own_st (fun _ => XS.iloadN X0.here hx rfl (hb hby own_d15_74) rfl) ?_
      show own_Rch _ _ _ _ s₁ (mkF m 75 #[oI y10, oI (23 : Int32)] [(.int y10), (.int (23 : Int32))])
      refine own_st (fun _ => XS.iconst X0.here hx rfl (hb hby own_d15_75)) ?_
      show own_Rch _ _ _ _ s₁ (mkF m 76 #[oI y10, oI (23 : Int32)] [(.int (1 : Int32)), (.int y10), (.int (23 : Int32))])
      refine own_st (fun _ => XS.iushr X0.here hx rfl (hb hby own_d15_76) rfl) ?_
      show own_Rch _ _ _ _ s₁ (mkF m 77 #[oI y10, oI (23 : Int32)] [(.int ((y10.toUInt32 >>> ((1 : Int32) &&& 31).toUInt32).toInt32)), (.int (23 : Int32))])
      refine own_st (fun _ => XS.isub X0.here hx rfl (hb hby own_d15_77) rfl) ?_
      show own_Rch _ _ _ _ s₁ (mkF m 78 #[oI y10, oI (23 : Int32)] [(.int ((23 : Int32) - ((y10.toUInt32 >>> ((1 : Int32) &&& 31).toUInt32).toInt32)))])
      refine own_retI X0 hx Bd.notSynchronized Bd.returns (hb hby own_d15_78) (by decide) (by decide) ?_
      rw [e0]
      rw [Int32.lt_iff_toInt_lt] at hc22_2 hc37_3 hc51_11 hc63_12
      have sr := own_ush (x := y10) (q := (1 : Int32)) (k := 1) (by decide) (by decide) 2 (by decide) py10
      have rr := own_sb (x := (23 : Int32)) (y := ((y10.toUInt32 >>> ((1 : Int32) &&& 31).toUInt32).toInt32)) (a := 23) (b := y10.toInt / 2) (by decide) sr (by omega) (by omega)
      exact ⟨_, rfl, N0, rfl, own_nlz_leaf 8 (by decide) 256 (by decide) (by omega) (by omega) (by rw [rr]; omega)⟩
     · -- pc 63: False
      refine own_st (fun _ => XS.icmpNo X0.here hx rfl (hb hby own_d15_63) rfl (flt hc63_12).1) ?_
      show own_Rch _ _ _ _ s₁ (mkF m 66 #[oI y10, oI (23 : Int32)] [])
      refine own_st (fun _ => XS.iinc X0.here hx rfl (hb hby own_d15_66) rfl (l' := #[oI y10, oI (21 : Int32)]) rfl) ?_
      show own_Rch _ _ _ _ s₁ (mkF m 69 #[oI y10, oI (21 : Int32)] [])
      refine own_st (fun _ => XS.iloadN X0.here hx rfl (hb hby own_d15_69) rfl) ?_
      show own_Rch _ _ _ _ s₁ (mkF m 70 #[oI y10, oI (21 : Int32)] [(.int y10)])
      refine own_st (fun _ => XS.iconst X0.here hx rfl (hb hby own_d15_70)) ?_
      show own_Rch _ _ _ _ s₁ (mkF m 71 #[oI y10, oI (21 : Int32)] [(.int (2 : Int32)), (.int y10)])
      refine own_st (fun _ => XS.iushr X0.here hx rfl (hb hby own_d15_71) rfl) ?_
      show own_Rch _ _ _ _ s₁ (mkF m 72 #[oI y10, oI (21 : Int32)] [(.int ((y10.toUInt32 >>> ((2 : Int32) &&& 31).toUInt32).toInt32))])
      refine own_st (fun _ => XS.istoreN X0.here hx rfl (hb hby own_d15_72) rfl (l' := #[oI ((y10.toUInt32 >>> ((2 : Int32) &&& 31).toUInt32).toInt32), oI (21 : Int32)]) rfl) ?_
      have sy13 := own_ush (x := y10) (q := (2 : Int32)) (k := 2) (by decide) (by decide) 4 (by decide) py10
      have py13 : 0 ≤ (((y10.toUInt32 >>> ((2 : Int32) &&& 31).toUInt32).toInt32)).toInt := by omega
      show own_Rch _ _ _ _ s₁ (mkF m 73 #[oI ((y10.toUInt32 >>> ((2 : Int32) &&& 31).toUInt32).toInt32), oI (21 : Int32)] [])
      generalize ((y10.toUInt32 >>> ((2 : Int32) &&& 31).toUInt32).toInt32) = y13 at sy13 py13 ⊢
      show own_Rch _ _ _ _ s₁ (mkF m 73 #[oI y13, oI (21 : Int32)] [])
      refine own_st (fun _ => XS.iloadN X0.here hx rfl (hb hby own_d15_73) rfl) ?_
      show own_Rch _ _ _ _ s₁ (mkF m 74 #[oI y13, oI (21 : Int32)] [(.int (21 : Int32))])
      refine own_st (fun _ => XS.iloadN X0.here hx rfl (hb hby own_d15_74) rfl) ?_
      show own_Rch _ _ _ _ s₁ (mkF m 75 #[oI y13, oI (21 : Int32)] [(.int y13), (.int (21 : Int32))])
      refine own_st (fun _ => XS.iconst X0.here hx rfl (hb hby own_d15_75)) ?_
      show own_Rch _ _ _ _ s₁ (mkF m 76 #[oI y13, oI (21 : Int32)] [(.int (1 : Int32)), (.int y13), (.int (21 : Int32))])
      refine own_st (fun _ => XS.iushr X0.here hx rfl (hb hby own_d15_76) rfl) ?_
      show own_Rch _ _ _ _ s₁ (mkF m 77 #[oI y13, oI (21 : Int32)] [(.int ((y13.toUInt32 >>> ((1 : Int32) &&& 31).toUInt32).toInt32)), (.int (21 : Int32))])
      refine own_st (fun _ => XS.isub X0.here hx rfl (hb hby own_d15_77) rfl) ?_
      show own_Rch _ _ _ _ s₁ (mkF m 78 #[oI y13, oI (21 : Int32)] [(.int ((21 : Int32) - ((y13.toUInt32 >>> ((1 : Int32) &&& 31).toUInt32).toInt32)))])
      refine own_retI X0 hx Bd.notSynchronized Bd.returns (hb hby own_d15_78) (by decide) (by decide) ?_
      rw [e0]
      rw [Int32.lt_iff_toInt_lt] at hc22_2 hc37_3 hc51_11 hc63_12
      have sr := own_ush (x := y13) (q := (1 : Int32)) (k := 1) (by decide) (by decide) 2 (by decide) py13
      have rr := own_sb (x := (21 : Int32)) (y := ((y13.toUInt32 >>> ((1 : Int32) &&& 31).toUInt32).toInt32)) (a := 21) (b := y13.toInt / 2) (by decide) sr (by omega) (by omega)
      exact ⟨_, rfl, N0, rfl, own_nlz_leaf 10 (by decide) 1024 (by decide) (by omega) (by omega) (by rw [rr]; omega)⟩
    · -- pc 51: False
     refine own_st (fun _ => XS.icmpNo X0.here hx rfl (hb hby own_d15_51) rfl (flt hc51_11).1) ?_
     show own_Rch _ _ _ _ s₁ (mkF m 54 #[oI y10, oI (23 : Int32)] [])
     refine own_st (fun _ => XS.iinc X0.here hx rfl (hb hby own_d15_54) rfl (l' := #[oI y10, oI (19 : Int32)]) rfl) ?_
     show own_Rch _ _ _ _ s₁ (mkF m 57 #[oI y10, oI (19 : Int32)] [])
     refine own_st (fun _ => XS.iloadN X0.here hx rfl (hb hby own_d15_57) rfl) ?_
     show own_Rch _ _ _ _ s₁ (mkF m 58 #[oI y10, oI (19 : Int32)] [(.int y10)])
     refine own_st (fun _ => XS.iconst X0.here hx rfl (hb hby own_d15_58)) ?_
     show own_Rch _ _ _ _ s₁ (mkF m 59 #[oI y10, oI (19 : Int32)] [(.int (4 : Int32)), (.int y10)])
     refine own_st (fun _ => XS.iushr X0.here hx rfl (hb hby own_d15_59) rfl) ?_
     show own_Rch _ _ _ _ s₁ (mkF m 60 #[oI y10, oI (19 : Int32)] [(.int ((y10.toUInt32 >>> ((4 : Int32) &&& 31).toUInt32).toInt32))])
     refine own_st (fun _ => XS.istoreN X0.here hx rfl (hb hby own_d15_60) rfl (l' := #[oI ((y10.toUInt32 >>> ((4 : Int32) &&& 31).toUInt32).toInt32), oI (19 : Int32)]) rfl) ?_
     have sy14 := own_ush (x := y10) (q := (4 : Int32)) (k := 4) (by decide) (by decide) 16 (by decide) py10
     have py14 : 0 ≤ (((y10.toUInt32 >>> ((4 : Int32) &&& 31).toUInt32).toInt32)).toInt := by omega
     show own_Rch _ _ _ _ s₁ (mkF m 61 #[oI ((y10.toUInt32 >>> ((4 : Int32) &&& 31).toUInt32).toInt32), oI (19 : Int32)] [])
     generalize ((y10.toUInt32 >>> ((4 : Int32) &&& 31).toUInt32).toInt32) = y14 at sy14 py14 ⊢
     show own_Rch _ _ _ _ s₁ (mkF m 61 #[oI y14, oI (19 : Int32)] [])
     refine own_st (fun _ => XS.iloadN X0.here hx rfl (hb hby own_d15_61) rfl) ?_
     show own_Rch _ _ _ _ s₁ (mkF m 62 #[oI y14, oI (19 : Int32)] [(.int y14)])
     refine own_st (fun _ => XS.iconst X0.here hx rfl (hb hby own_d15_62)) ?_
     show own_Rch _ _ _ _ s₁ (mkF m 63 #[oI y14, oI (19 : Int32)] [(.int (4 : Int32)), (.int y14)])
     by_cases hc63_15 : y14 < (4 : Int32)
     · -- pc 63: True
      refine own_st (fun _ => XS.icmpYes X0.here hx rfl (pc0 := 63) (pc' := 73) rfl (hb hby own_d15_63) rfl (tlt hc63_15).1 (by decide) (by decide)) ?_
      show own_Rch _ _ _ _ s₁ (mkF m 73 #[oI y14, oI (19 : Int32)] [])
      refine own_st (fun _ => XS.iloadN X0.here hx rfl (hb hby own_d15_73) rfl) ?_
      show own_Rch _ _ _ _ s₁ (mkF m 74 #[oI y14, oI (19 : Int32)] [(.int (19 : Int32))])
      refine own_st (fun _ => XS.iloadN X0.here hx rfl (hb hby own_d15_74) rfl) ?_
      show own_Rch _ _ _ _ s₁ (mkF m 75 #[oI y14, oI (19 : Int32)] [(.int y14), (.int (19 : Int32))])
      refine own_st (fun _ => XS.iconst X0.here hx rfl (hb hby own_d15_75)) ?_
      show own_Rch _ _ _ _ s₁ (mkF m 76 #[oI y14, oI (19 : Int32)] [(.int (1 : Int32)), (.int y14), (.int (19 : Int32))])
      refine own_st (fun _ => XS.iushr X0.here hx rfl (hb hby own_d15_76) rfl) ?_
      show own_Rch _ _ _ _ s₁ (mkF m 77 #[oI y14, oI (19 : Int32)] [(.int ((y14.toUInt32 >>> ((1 : Int32) &&& 31).toUInt32).toInt32)), (.int (19 : Int32))])
      refine own_st (fun _ => XS.isub X0.here hx rfl (hb hby own_d15_77) rfl) ?_
      show own_Rch _ _ _ _ s₁ (mkF m 78 #[oI y14, oI (19 : Int32)] [(.int ((19 : Int32) - ((y14.toUInt32 >>> ((1 : Int32) &&& 31).toUInt32).toInt32)))])
      refine own_retI X0 hx Bd.notSynchronized Bd.returns (hb hby own_d15_78) (by decide) (by decide) ?_
      rw [e0]
      rw [Int32.lt_iff_toInt_lt] at hc22_2 hc37_3 hc51_11 hc63_15
      have sr := own_ush (x := y14) (q := (1 : Int32)) (k := 1) (by decide) (by decide) 2 (by decide) py14
      have rr := own_sb (x := (19 : Int32)) (y := ((y14.toUInt32 >>> ((1 : Int32) &&& 31).toUInt32).toInt32)) (a := 19) (b := y14.toInt / 2) (by decide) sr (by omega) (by omega)
      exact ⟨_, rfl, N0, rfl, own_nlz_leaf 12 (by decide) 4096 (by decide) (by omega) (by omega) (by rw [rr]; omega)⟩
     · -- pc 63: False
      refine own_st (fun _ => XS.icmpNo X0.here hx rfl (hb hby own_d15_63) rfl (flt hc63_15).1) ?_
      show own_Rch _ _ _ _ s₁ (mkF m 66 #[oI y14, oI (19 : Int32)] [])
      refine own_st (fun _ => XS.iinc X0.here hx rfl (hb hby own_d15_66) rfl (l' := #[oI y14, oI (17 : Int32)]) rfl) ?_
      show own_Rch _ _ _ _ s₁ (mkF m 69 #[oI y14, oI (17 : Int32)] [])
      refine own_st (fun _ => XS.iloadN X0.here hx rfl (hb hby own_d15_69) rfl) ?_
      show own_Rch _ _ _ _ s₁ (mkF m 70 #[oI y14, oI (17 : Int32)] [(.int y14)])
      refine own_st (fun _ => XS.iconst X0.here hx rfl (hb hby own_d15_70)) ?_
      show own_Rch _ _ _ _ s₁ (mkF m 71 #[oI y14, oI (17 : Int32)] [(.int (2 : Int32)), (.int y14)])
      refine own_st (fun _ => XS.iushr X0.here hx rfl (hb hby own_d15_71) rfl) ?_
      show own_Rch _ _ _ _ s₁ (mkF m 72 #[oI y14, oI (17 : Int32)] [(.int ((y14.toUInt32 >>> ((2 : Int32) &&& 31).toUInt32).toInt32))])
      refine own_st (fun _ => XS.istoreN X0.here hx rfl (hb hby own_d15_72) rfl (l' := #[oI ((y14.toUInt32 >>> ((2 : Int32) &&& 31).toUInt32).toInt32), oI (17 : Int32)]) rfl) ?_
      have sy16 := own_ush (x := y14) (q := (2 : Int32)) (k := 2) (by decide) (by decide) 4 (by decide) py14
      have py16 : 0 ≤ (((y14.toUInt32 >>> ((2 : Int32) &&& 31).toUInt32).toInt32)).toInt := by omega
      show own_Rch _ _ _ _ s₁ (mkF m 73 #[oI ((y14.toUInt32 >>> ((2 : Int32) &&& 31).toUInt32).toInt32), oI (17 : Int32)] [])
      generalize ((y14.toUInt32 >>> ((2 : Int32) &&& 31).toUInt32).toInt32) = y16 at sy16 py16 ⊢
      show own_Rch _ _ _ _ s₁ (mkF m 73 #[oI y16, oI (17 : Int32)] [])
      refine own_st (fun _ => XS.iloadN X0.here hx rfl (hb hby own_d15_73) rfl) ?_
      show own_Rch _ _ _ _ s₁ (mkF m 74 #[oI y16, oI (17 : Int32)] [(.int (17 : Int32))])
      refine own_st (fun _ => XS.iloadN X0.here hx rfl (hb hby own_d15_74) rfl) ?_
      show own_Rch _ _ _ _ s₁ (mkF m 75 #[oI y16, oI (17 : Int32)] [(.int y16), (.int (17 : Int32))])
      refine own_st (fun _ => XS.iconst X0.here hx rfl (hb hby own_d15_75)) ?_
      show own_Rch _ _ _ _ s₁ (mkF m 76 #[oI y16, oI (17 : Int32)] [(.int (1 : Int32)), (.int y16), (.int (17 : Int32))])
      refine own_st (fun _ => XS.iushr X0.here hx rfl (hb hby own_d15_76) rfl) ?_
      show own_Rch _ _ _ _ s₁ (mkF m 77 #[oI y16, oI (17 : Int32)] [(.int ((y16.toUInt32 >>> ((1 : Int32) &&& 31).toUInt32).toInt32)), (.int (17 : Int32))])
      refine own_st (fun _ => XS.isub X0.here hx rfl (hb hby own_d15_77) rfl) ?_
      show own_Rch _ _ _ _ s₁ (mkF m 78 #[oI y16, oI (17 : Int32)] [(.int ((17 : Int32) - ((y16.toUInt32 >>> ((1 : Int32) &&& 31).toUInt32).toInt32)))])
      refine own_retI X0 hx Bd.notSynchronized Bd.returns (hb hby own_d15_78) (by decide) (by decide) ?_
      rw [e0]
      rw [Int32.lt_iff_toInt_lt] at hc22_2 hc37_3 hc51_11 hc63_15
      have sr := own_ush (x := y16) (q := (1 : Int32)) (k := 1) (by decide) (by decide) 2 (by decide) py16
      have rr := own_sb (x := (17 : Int32)) (y := ((y16.toUInt32 >>> ((1 : Int32) &&& 31).toUInt32).toInt32)) (a := 17) (b := y16.toInt / 2) (by decide) sr (by omega) (by omega)
      exact ⟨_, rfl, N0, rfl, own_nlz_leaf 14 (by decide) 16384 (by decide) (by omega) (by omega) (by rw [rr]; omega)⟩
  · -- pc 22: False
   refine own_st (fun _ => XS.icmpNo X0.here hx rfl (hb hby own_d15_22) rfl (flt hc22_2).1) ?_
   show own_Rch _ _ _ _ s₁ (mkF m 25 #[oI i, oI (31 : Int32)] [])
   refine own_st (fun _ => XS.iinc X0.here hx rfl (hb hby own_d15_25) rfl (l' := #[oI i, oI (15 : Int32)]) rfl) ?_
   show own_Rch _ _ _ _ s₁ (mkF m 28 #[oI i, oI (15 : Int32)] [])
   refine own_st (fun _ => XS.iloadN X0.here hx rfl (hb hby own_d15_28) rfl) ?_
   show own_Rch _ _ _ _ s₁ (mkF m 29 #[oI i, oI (15 : Int32)] [(.int i)])
   refine own_st (fun _ => XS.bipush X0.here hx rfl (hb hby own_d15_29)) ?_
   show own_Rch _ _ _ _ s₁ (mkF m 31 #[oI i, oI (15 : Int32)] [(.int (16 : Int32)), (.int i)])
   refine own_st (fun _ => XS.iushr X0.here hx rfl (hb hby own_d15_31) rfl) ?_
   show own_Rch _ _ _ _ s₁ (mkF m 32 #[oI i, oI (15 : Int32)] [(.int ((i.toUInt32 >>> ((16 : Int32) &&& 31).toUInt32).toInt32))])
   refine own_st (fun _ => XS.istoreN X0.here hx rfl (hb hby own_d15_32) rfl (l' := #[oI ((i.toUInt32 >>> ((16 : Int32) &&& 31).toUInt32).toInt32), oI (15 : Int32)]) rfl) ?_
   have sy17 := own_ush (x := i) (q := (16 : Int32)) (k := 16) (by decide) (by decide) 65536 (by decide) hp0
   have py17 : 0 ≤ (((i.toUInt32 >>> ((16 : Int32) &&& 31).toUInt32).toInt32)).toInt := by omega
   show own_Rch _ _ _ _ s₁ (mkF m 33 #[oI ((i.toUInt32 >>> ((16 : Int32) &&& 31).toUInt32).toInt32), oI (15 : Int32)] [])
   generalize ((i.toUInt32 >>> ((16 : Int32) &&& 31).toUInt32).toInt32) = y17 at sy17 py17 ⊢
   show own_Rch _ _ _ _ s₁ (mkF m 33 #[oI y17, oI (15 : Int32)] [])
   refine own_st (fun _ => XS.iloadN X0.here hx rfl (hb hby own_d15_33) rfl) ?_
   show own_Rch _ _ _ _ s₁ (mkF m 34 #[oI y17, oI (15 : Int32)] [(.int y17)])
   refine own_st (fun _ => XS.sipush X0.here hx rfl (hb hby own_d15_34)) ?_
   show own_Rch _ _ _ _ s₁ (mkF m 37 #[oI y17, oI (15 : Int32)] [(.int (256 : Int32)), (.int y17)])
   by_cases hc37_18 : y17 < (256 : Int32)
   · -- pc 37: True
    refine own_st (fun _ => XS.icmpYes X0.here hx rfl (pc0 := 37) (pc' := 48) rfl (hb hby own_d15_37) rfl (tlt hc37_18).1 (by decide) (by decide)) ?_
    show own_Rch _ _ _ _ s₁ (mkF m 48 #[oI y17, oI (15 : Int32)] [])
    refine own_st (fun _ => XS.iloadN X0.here hx rfl (hb hby own_d15_48) rfl) ?_
    show own_Rch _ _ _ _ s₁ (mkF m 49 #[oI y17, oI (15 : Int32)] [(.int y17)])
    refine own_st (fun _ => XS.bipush X0.here hx rfl (hb hby own_d15_49)) ?_
    show own_Rch _ _ _ _ s₁ (mkF m 51 #[oI y17, oI (15 : Int32)] [(.int (16 : Int32)), (.int y17)])
    by_cases hc51_19 : y17 < (16 : Int32)
    · -- pc 51: True
     refine own_st (fun _ => XS.icmpYes X0.here hx rfl (pc0 := 51) (pc' := 61) rfl (hb hby own_d15_51) rfl (tlt hc51_19).1 (by decide) (by decide)) ?_
     show own_Rch _ _ _ _ s₁ (mkF m 61 #[oI y17, oI (15 : Int32)] [])
     refine own_st (fun _ => XS.iloadN X0.here hx rfl (hb hby own_d15_61) rfl) ?_
     show own_Rch _ _ _ _ s₁ (mkF m 62 #[oI y17, oI (15 : Int32)] [(.int y17)])
     refine own_st (fun _ => XS.iconst X0.here hx rfl (hb hby own_d15_62)) ?_
     show own_Rch _ _ _ _ s₁ (mkF m 63 #[oI y17, oI (15 : Int32)] [(.int (4 : Int32)), (.int y17)])
     by_cases hc63_20 : y17 < (4 : Int32)
     · -- pc 63: True
      refine own_st (fun _ => XS.icmpYes X0.here hx rfl (pc0 := 63) (pc' := 73) rfl (hb hby own_d15_63) rfl (tlt hc63_20).1 (by decide) (by decide)) ?_
      show own_Rch _ _ _ _ s₁ (mkF m 73 #[oI y17, oI (15 : Int32)] [])
      refine own_st (fun _ => XS.iloadN X0.here hx rfl (hb hby own_d15_73) rfl) ?_
      show own_Rch _ _ _ _ s₁ (mkF m 74 #[oI y17, oI (15 : Int32)] [(.int (15 : Int32))])
      refine own_st (fun _ => XS.iloadN X0.here hx rfl (hb hby own_d15_74) rfl) ?_
      show own_Rch _ _ _ _ s₁ (mkF m 75 #[oI y17, oI (15 : Int32)] [(.int y17), (.int (15 : Int32))])
      refine own_st (fun _ => XS.iconst X0.here hx rfl (hb hby own_d15_75)) ?_
      show own_Rch _ _ _ _ s₁ (mkF m 76 #[oI y17, oI (15 : Int32)] [(.int (1 : Int32)), (.int y17), (.int (15 : Int32))])
      refine own_st (fun _ => XS.iushr X0.here hx rfl (hb hby own_d15_76) rfl) ?_
      show own_Rch _ _ _ _ s₁ (mkF m 77 #[oI y17, oI (15 : Int32)] [(.int ((y17.toUInt32 >>> ((1 : Int32) &&& 31).toUInt32).toInt32)), (.int (15 : Int32))])
      refine own_st (fun _ => XS.isub X0.here hx rfl (hb hby own_d15_77) rfl) ?_
      show own_Rch _ _ _ _ s₁ (mkF m 78 #[oI y17, oI (15 : Int32)] [(.int ((15 : Int32) - ((y17.toUInt32 >>> ((1 : Int32) &&& 31).toUInt32).toInt32)))])
      refine own_retI X0 hx Bd.notSynchronized Bd.returns (hb hby own_d15_78) (by decide) (by decide) ?_
      rw [e0]
      rw [Int32.lt_iff_toInt_lt] at hc22_2 hc37_18 hc51_19 hc63_20
      have sr := own_ush (x := y17) (q := (1 : Int32)) (k := 1) (by decide) (by decide) 2 (by decide) py17
      have rr := own_sb (x := (15 : Int32)) (y := ((y17.toUInt32 >>> ((1 : Int32) &&& 31).toUInt32).toInt32)) (a := 15) (b := y17.toInt / 2) (by decide) sr (by omega) (by omega)
      exact ⟨_, rfl, N0, rfl, own_nlz_leaf 16 (by decide) 65536 (by decide) (by omega) (by omega) (by rw [rr]; omega)⟩
     · -- pc 63: False
      refine own_st (fun _ => XS.icmpNo X0.here hx rfl (hb hby own_d15_63) rfl (flt hc63_20).1) ?_
      show own_Rch _ _ _ _ s₁ (mkF m 66 #[oI y17, oI (15 : Int32)] [])
      refine own_st (fun _ => XS.iinc X0.here hx rfl (hb hby own_d15_66) rfl (l' := #[oI y17, oI (13 : Int32)]) rfl) ?_
      show own_Rch _ _ _ _ s₁ (mkF m 69 #[oI y17, oI (13 : Int32)] [])
      refine own_st (fun _ => XS.iloadN X0.here hx rfl (hb hby own_d15_69) rfl) ?_
      show own_Rch _ _ _ _ s₁ (mkF m 70 #[oI y17, oI (13 : Int32)] [(.int y17)])
      refine own_st (fun _ => XS.iconst X0.here hx rfl (hb hby own_d15_70)) ?_
      show own_Rch _ _ _ _ s₁ (mkF m 71 #[oI y17, oI (13 : Int32)] [(.int (2 : Int32)), (.int y17)])
      refine own_st (fun _ => XS.iushr X0.here hx rfl (hb hby own_d15_71) rfl) ?_
      show own_Rch _ _ _ _ s₁ (mkF m 72 #[oI y17, oI (13 : Int32)] [(.int ((y17.toUInt32 >>> ((2 : Int32) &&& 31).toUInt32).toInt32))])
      refine own_st (fun _ => XS.istoreN X0.here hx rfl (hb hby own_d15_72) rfl (l' := #[oI ((y17.toUInt32 >>> ((2 : Int32) &&& 31).toUInt32).toInt32), oI (13 : Int32)]) rfl) ?_
      have sy21 := own_ush (x := y17) (q := (2 : Int32)) (k := 2) (by decide) (by decide) 4 (by decide) py17
      have py21 : 0 ≤ (((y17.toUInt32 >>> ((2 : Int32) &&& 31).toUInt32).toInt32)).toInt := by omega
      show own_Rch _ _ _ _ s₁ (mkF m 73 #[oI ((y17.toUInt32 >>> ((2 : Int32) &&& 31).toUInt32).toInt32), oI (13 : Int32)] [])
      generalize ((y17.toUInt32 >>> ((2 : Int32) &&& 31).toUInt32).toInt32) = y21 at sy21 py21 ⊢
      show own_Rch _ _ _ _ s₁ (mkF m 73 #[oI y21, oI (13 : Int32)] [])
      refine own_st (fun _ => XS.iloadN X0.here hx rfl (hb hby own_d15_73) rfl) ?_
      show own_Rch _ _ _ _ s₁ (mkF m 74 #[oI y21, oI (13 : Int32)] [(.int (13 : Int32))])
      refine own_st (fun _ => XS.iloadN X0.here hx rfl (hb hby own_d15_74) rfl) ?_
      show own_Rch _ _ _ _ s₁ (mkF m 75 #[oI y21, oI (13 : Int32)] [(.int y21), (.int (13 : Int32))])
      refine own_st (fun _ => XS.iconst X0.here hx rfl (hb hby own_d15_75)) ?_
      show own_Rch _ _ _ _ s₁ (mkF m 76 #[oI y21, oI (13 : Int32)] [(.int (1 : Int32)), (.int y21), (.int (13 : Int32))])
      refine own_st (fun _ => XS.iushr X0.here hx rfl (hb hby own_d15_76) rfl) ?_
      show own_Rch _ _ _ _ s₁ (mkF m 77 #[oI y21, oI (13 : Int32)] [(.int ((y21.toUInt32 >>> ((1 : Int32) &&& 31).toUInt32).toInt32)), (.int (13 : Int32))])
      refine own_st (fun _ => XS.isub X0.here hx rfl (hb hby own_d15_77) rfl) ?_
      show own_Rch _ _ _ _ s₁ (mkF m 78 #[oI y21, oI (13 : Int32)] [(.int ((13 : Int32) - ((y21.toUInt32 >>> ((1 : Int32) &&& 31).toUInt32).toInt32)))])
      refine own_retI X0 hx Bd.notSynchronized Bd.returns (hb hby own_d15_78) (by decide) (by decide) ?_
      rw [e0]
      rw [Int32.lt_iff_toInt_lt] at hc22_2 hc37_18 hc51_19 hc63_20
      have sr := own_ush (x := y21) (q := (1 : Int32)) (k := 1) (by decide) (by decide) 2 (by decide) py21
      have rr := own_sb (x := (13 : Int32)) (y := ((y21.toUInt32 >>> ((1 : Int32) &&& 31).toUInt32).toInt32)) (a := 13) (b := y21.toInt / 2) (by decide) sr (by omega) (by omega)
      exact ⟨_, rfl, N0, rfl, own_nlz_leaf 18 (by decide) 262144 (by decide) (by omega) (by omega) (by rw [rr]; omega)⟩
    · -- pc 51: False
     refine own_st (fun _ => XS.icmpNo X0.here hx rfl (hb hby own_d15_51) rfl (flt hc51_19).1) ?_
     show own_Rch _ _ _ _ s₁ (mkF m 54 #[oI y17, oI (15 : Int32)] [])
     refine own_st (fun _ => XS.iinc X0.here hx rfl (hb hby own_d15_54) rfl (l' := #[oI y17, oI (11 : Int32)]) rfl) ?_
     show own_Rch _ _ _ _ s₁ (mkF m 57 #[oI y17, oI (11 : Int32)] [])
     refine own_st (fun _ => XS.iloadN X0.here hx rfl (hb hby own_d15_57) rfl) ?_
     show own_Rch _ _ _ _ s₁ (mkF m 58 #[oI y17, oI (11 : Int32)] [(.int y17)])
     refine own_st (fun _ => XS.iconst X0.here hx rfl (hb hby own_d15_58)) ?_
     show own_Rch _ _ _ _ s₁ (mkF m 59 #[oI y17, oI (11 : Int32)] [(.int (4 : Int32)), (.int y17)])
     refine own_st (fun _ => XS.iushr X0.here hx rfl (hb hby own_d15_59) rfl) ?_
     show own_Rch _ _ _ _ s₁ (mkF m 60 #[oI y17, oI (11 : Int32)] [(.int ((y17.toUInt32 >>> ((4 : Int32) &&& 31).toUInt32).toInt32))])
     refine own_st (fun _ => XS.istoreN X0.here hx rfl (hb hby own_d15_60) rfl (l' := #[oI ((y17.toUInt32 >>> ((4 : Int32) &&& 31).toUInt32).toInt32), oI (11 : Int32)]) rfl) ?_
     have sy22 := own_ush (x := y17) (q := (4 : Int32)) (k := 4) (by decide) (by decide) 16 (by decide) py17
     have py22 : 0 ≤ (((y17.toUInt32 >>> ((4 : Int32) &&& 31).toUInt32).toInt32)).toInt := by omega
     show own_Rch _ _ _ _ s₁ (mkF m 61 #[oI ((y17.toUInt32 >>> ((4 : Int32) &&& 31).toUInt32).toInt32), oI (11 : Int32)] [])
     generalize ((y17.toUInt32 >>> ((4 : Int32) &&& 31).toUInt32).toInt32) = y22 at sy22 py22 ⊢
     show own_Rch _ _ _ _ s₁ (mkF m 61 #[oI y22, oI (11 : Int32)] [])
     refine own_st (fun _ => XS.iloadN X0.here hx rfl (hb hby own_d15_61) rfl) ?_
     show own_Rch _ _ _ _ s₁ (mkF m 62 #[oI y22, oI (11 : Int32)] [(.int y22)])
     refine own_st (fun _ => XS.iconst X0.here hx rfl (hb hby own_d15_62)) ?_
     show own_Rch _ _ _ _ s₁ (mkF m 63 #[oI y22, oI (11 : Int32)] [(.int (4 : Int32)), (.int y22)])
     by_cases hc63_23 : y22 < (4 : Int32)
     · -- pc 63: True
      refine own_st (fun _ => XS.icmpYes X0.here hx rfl (pc0 := 63) (pc' := 73) rfl (hb hby own_d15_63) rfl (tlt hc63_23).1 (by decide) (by decide)) ?_
      show own_Rch _ _ _ _ s₁ (mkF m 73 #[oI y22, oI (11 : Int32)] [])
      refine own_st (fun _ => XS.iloadN X0.here hx rfl (hb hby own_d15_73) rfl) ?_
      show own_Rch _ _ _ _ s₁ (mkF m 74 #[oI y22, oI (11 : Int32)] [(.int (11 : Int32))])
      refine own_st (fun _ => XS.iloadN X0.here hx rfl (hb hby own_d15_74) rfl) ?_
      show own_Rch _ _ _ _ s₁ (mkF m 75 #[oI y22, oI (11 : Int32)] [(.int y22), (.int (11 : Int32))])
      refine own_st (fun _ => XS.iconst X0.here hx rfl (hb hby own_d15_75)) ?_
      show own_Rch _ _ _ _ s₁ (mkF m 76 #[oI y22, oI (11 : Int32)] [(.int (1 : Int32)), (.int y22), (.int (11 : Int32))])
      refine own_st (fun _ => XS.iushr X0.here hx rfl (hb hby own_d15_76) rfl) ?_
      show own_Rch _ _ _ _ s₁ (mkF m 77 #[oI y22, oI (11 : Int32)] [(.int ((y22.toUInt32 >>> ((1 : Int32) &&& 31).toUInt32).toInt32)), (.int (11 : Int32))])
      refine own_st (fun _ => XS.isub X0.here hx rfl (hb hby own_d15_77) rfl) ?_
      show own_Rch _ _ _ _ s₁ (mkF m 78 #[oI y22, oI (11 : Int32)] [(.int ((11 : Int32) - ((y22.toUInt32 >>> ((1 : Int32) &&& 31).toUInt32).toInt32)))])
      refine own_retI X0 hx Bd.notSynchronized Bd.returns (hb hby own_d15_78) (by decide) (by decide) ?_
      rw [e0]
      rw [Int32.lt_iff_toInt_lt] at hc22_2 hc37_18 hc51_19 hc63_23
      have sr := own_ush (x := y22) (q := (1 : Int32)) (k := 1) (by decide) (by decide) 2 (by decide) py22
      have rr := own_sb (x := (11 : Int32)) (y := ((y22.toUInt32 >>> ((1 : Int32) &&& 31).toUInt32).toInt32)) (a := 11) (b := y22.toInt / 2) (by decide) sr (by omega) (by omega)
      exact ⟨_, rfl, N0, rfl, own_nlz_leaf 20 (by decide) 1048576 (by decide) (by omega) (by omega) (by rw [rr]; omega)⟩
     · -- pc 63: False
      refine own_st (fun _ => XS.icmpNo X0.here hx rfl (hb hby own_d15_63) rfl (flt hc63_23).1) ?_
      show own_Rch _ _ _ _ s₁ (mkF m 66 #[oI y22, oI (11 : Int32)] [])
      refine own_st (fun _ => XS.iinc X0.here hx rfl (hb hby own_d15_66) rfl (l' := #[oI y22, oI (9 : Int32)]) rfl) ?_
      show own_Rch _ _ _ _ s₁ (mkF m 69 #[oI y22, oI (9 : Int32)] [])
      refine own_st (fun _ => XS.iloadN X0.here hx rfl (hb hby own_d15_69) rfl) ?_
      show own_Rch _ _ _ _ s₁ (mkF m 70 #[oI y22, oI (9 : Int32)] [(.int y22)])
      refine own_st (fun _ => XS.iconst X0.here hx rfl (hb hby own_d15_70)) ?_
      show own_Rch _ _ _ _ s₁ (mkF m 71 #[oI y22, oI (9 : Int32)] [(.int (2 : Int32)), (.int y22)])
      refine own_st (fun _ => XS.iushr X0.here hx rfl (hb hby own_d15_71) rfl) ?_
      show own_Rch _ _ _ _ s₁ (mkF m 72 #[oI y22, oI (9 : Int32)] [(.int ((y22.toUInt32 >>> ((2 : Int32) &&& 31).toUInt32).toInt32))])
      refine own_st (fun _ => XS.istoreN X0.here hx rfl (hb hby own_d15_72) rfl (l' := #[oI ((y22.toUInt32 >>> ((2 : Int32) &&& 31).toUInt32).toInt32), oI (9 : Int32)]) rfl) ?_
      have sy24 := own_ush (x := y22) (q := (2 : Int32)) (k := 2) (by decide) (by decide) 4 (by decide) py22
      have py24 : 0 ≤ (((y22.toUInt32 >>> ((2 : Int32) &&& 31).toUInt32).toInt32)).toInt := by omega
      show own_Rch _ _ _ _ s₁ (mkF m 73 #[oI ((y22.toUInt32 >>> ((2 : Int32) &&& 31).toUInt32).toInt32), oI (9 : Int32)] [])
      generalize ((y22.toUInt32 >>> ((2 : Int32) &&& 31).toUInt32).toInt32) = y24 at sy24 py24 ⊢
      show own_Rch _ _ _ _ s₁ (mkF m 73 #[oI y24, oI (9 : Int32)] [])
      refine own_st (fun _ => XS.iloadN X0.here hx rfl (hb hby own_d15_73) rfl) ?_
      show own_Rch _ _ _ _ s₁ (mkF m 74 #[oI y24, oI (9 : Int32)] [(.int (9 : Int32))])
      refine own_st (fun _ => XS.iloadN X0.here hx rfl (hb hby own_d15_74) rfl) ?_
      show own_Rch _ _ _ _ s₁ (mkF m 75 #[oI y24, oI (9 : Int32)] [(.int y24), (.int (9 : Int32))])
      refine own_st (fun _ => XS.iconst X0.here hx rfl (hb hby own_d15_75)) ?_
      show own_Rch _ _ _ _ s₁ (mkF m 76 #[oI y24, oI (9 : Int32)] [(.int (1 : Int32)), (.int y24), (.int (9 : Int32))])
      refine own_st (fun _ => XS.iushr X0.here hx rfl (hb hby own_d15_76) rfl) ?_
      show own_Rch _ _ _ _ s₁ (mkF m 77 #[oI y24, oI (9 : Int32)] [(.int ((y24.toUInt32 >>> ((1 : Int32) &&& 31).toUInt32).toInt32)), (.int (9 : Int32))])
      refine own_st (fun _ => XS.isub X0.here hx rfl (hb hby own_d15_77) rfl) ?_
      show own_Rch _ _ _ _ s₁ (mkF m 78 #[oI y24, oI (9 : Int32)] [(.int ((9 : Int32) - ((y24.toUInt32 >>> ((1 : Int32) &&& 31).toUInt32).toInt32)))])
      refine own_retI X0 hx Bd.notSynchronized Bd.returns (hb hby own_d15_78) (by decide) (by decide) ?_
      rw [e0]
      rw [Int32.lt_iff_toInt_lt] at hc22_2 hc37_18 hc51_19 hc63_23
      have sr := own_ush (x := y24) (q := (1 : Int32)) (k := 1) (by decide) (by decide) 2 (by decide) py24
      have rr := own_sb (x := (9 : Int32)) (y := ((y24.toUInt32 >>> ((1 : Int32) &&& 31).toUInt32).toInt32)) (a := 9) (b := y24.toInt / 2) (by decide) sr (by omega) (by omega)
      exact ⟨_, rfl, N0, rfl, own_nlz_leaf 22 (by decide) 4194304 (by decide) (by omega) (by omega) (by rw [rr]; omega)⟩
   · -- pc 37: False
    refine own_st (fun _ => XS.icmpNo X0.here hx rfl (hb hby own_d15_37) rfl (flt hc37_18).1) ?_
    show own_Rch _ _ _ _ s₁ (mkF m 40 #[oI y17, oI (15 : Int32)] [])
    refine own_st (fun _ => XS.iinc X0.here hx rfl (hb hby own_d15_40) rfl (l' := #[oI y17, oI (7 : Int32)]) rfl) ?_
    show own_Rch _ _ _ _ s₁ (mkF m 43 #[oI y17, oI (7 : Int32)] [])
    refine own_st (fun _ => XS.iloadN X0.here hx rfl (hb hby own_d15_43) rfl) ?_
    show own_Rch _ _ _ _ s₁ (mkF m 44 #[oI y17, oI (7 : Int32)] [(.int y17)])
    refine own_st (fun _ => XS.bipush X0.here hx rfl (hb hby own_d15_44)) ?_
    show own_Rch _ _ _ _ s₁ (mkF m 46 #[oI y17, oI (7 : Int32)] [(.int (8 : Int32)), (.int y17)])
    refine own_st (fun _ => XS.iushr X0.here hx rfl (hb hby own_d15_46) rfl) ?_
    show own_Rch _ _ _ _ s₁ (mkF m 47 #[oI y17, oI (7 : Int32)] [(.int ((y17.toUInt32 >>> ((8 : Int32) &&& 31).toUInt32).toInt32))])
    refine own_st (fun _ => XS.istoreN X0.here hx rfl (hb hby own_d15_47) rfl (l' := #[oI ((y17.toUInt32 >>> ((8 : Int32) &&& 31).toUInt32).toInt32), oI (7 : Int32)]) rfl) ?_
    have sy25 := own_ush (x := y17) (q := (8 : Int32)) (k := 8) (by decide) (by decide) 256 (by decide) py17
    have py25 : 0 ≤ (((y17.toUInt32 >>> ((8 : Int32) &&& 31).toUInt32).toInt32)).toInt := by omega
    show own_Rch _ _ _ _ s₁ (mkF m 48 #[oI ((y17.toUInt32 >>> ((8 : Int32) &&& 31).toUInt32).toInt32), oI (7 : Int32)] [])
    generalize ((y17.toUInt32 >>> ((8 : Int32) &&& 31).toUInt32).toInt32) = y25 at sy25 py25 ⊢
    show own_Rch _ _ _ _ s₁ (mkF m 48 #[oI y25, oI (7 : Int32)] [])
    refine own_st (fun _ => XS.iloadN X0.here hx rfl (hb hby own_d15_48) rfl) ?_
    show own_Rch _ _ _ _ s₁ (mkF m 49 #[oI y25, oI (7 : Int32)] [(.int y25)])
    refine own_st (fun _ => XS.bipush X0.here hx rfl (hb hby own_d15_49)) ?_
    show own_Rch _ _ _ _ s₁ (mkF m 51 #[oI y25, oI (7 : Int32)] [(.int (16 : Int32)), (.int y25)])
    by_cases hc51_26 : y25 < (16 : Int32)
    · -- pc 51: True
     refine own_st (fun _ => XS.icmpYes X0.here hx rfl (pc0 := 51) (pc' := 61) rfl (hb hby own_d15_51) rfl (tlt hc51_26).1 (by decide) (by decide)) ?_
     show own_Rch _ _ _ _ s₁ (mkF m 61 #[oI y25, oI (7 : Int32)] [])
     refine own_st (fun _ => XS.iloadN X0.here hx rfl (hb hby own_d15_61) rfl) ?_
     show own_Rch _ _ _ _ s₁ (mkF m 62 #[oI y25, oI (7 : Int32)] [(.int y25)])
     refine own_st (fun _ => XS.iconst X0.here hx rfl (hb hby own_d15_62)) ?_
     show own_Rch _ _ _ _ s₁ (mkF m 63 #[oI y25, oI (7 : Int32)] [(.int (4 : Int32)), (.int y25)])
     by_cases hc63_27 : y25 < (4 : Int32)
     · -- pc 63: True
      refine own_st (fun _ => XS.icmpYes X0.here hx rfl (pc0 := 63) (pc' := 73) rfl (hb hby own_d15_63) rfl (tlt hc63_27).1 (by decide) (by decide)) ?_
      show own_Rch _ _ _ _ s₁ (mkF m 73 #[oI y25, oI (7 : Int32)] [])
      refine own_st (fun _ => XS.iloadN X0.here hx rfl (hb hby own_d15_73) rfl) ?_
      show own_Rch _ _ _ _ s₁ (mkF m 74 #[oI y25, oI (7 : Int32)] [(.int (7 : Int32))])
      refine own_st (fun _ => XS.iloadN X0.here hx rfl (hb hby own_d15_74) rfl) ?_
      show own_Rch _ _ _ _ s₁ (mkF m 75 #[oI y25, oI (7 : Int32)] [(.int y25), (.int (7 : Int32))])
      refine own_st (fun _ => XS.iconst X0.here hx rfl (hb hby own_d15_75)) ?_
      show own_Rch _ _ _ _ s₁ (mkF m 76 #[oI y25, oI (7 : Int32)] [(.int (1 : Int32)), (.int y25), (.int (7 : Int32))])
      refine own_st (fun _ => XS.iushr X0.here hx rfl (hb hby own_d15_76) rfl) ?_
      show own_Rch _ _ _ _ s₁ (mkF m 77 #[oI y25, oI (7 : Int32)] [(.int ((y25.toUInt32 >>> ((1 : Int32) &&& 31).toUInt32).toInt32)), (.int (7 : Int32))])
      refine own_st (fun _ => XS.isub X0.here hx rfl (hb hby own_d15_77) rfl) ?_
      show own_Rch _ _ _ _ s₁ (mkF m 78 #[oI y25, oI (7 : Int32)] [(.int ((7 : Int32) - ((y25.toUInt32 >>> ((1 : Int32) &&& 31).toUInt32).toInt32)))])
      refine own_retI X0 hx Bd.notSynchronized Bd.returns (hb hby own_d15_78) (by decide) (by decide) ?_
      rw [e0]
      rw [Int32.lt_iff_toInt_lt] at hc22_2 hc37_18 hc51_26 hc63_27
      have sr := own_ush (x := y25) (q := (1 : Int32)) (k := 1) (by decide) (by decide) 2 (by decide) py25
      have rr := own_sb (x := (7 : Int32)) (y := ((y25.toUInt32 >>> ((1 : Int32) &&& 31).toUInt32).toInt32)) (a := 7) (b := y25.toInt / 2) (by decide) sr (by omega) (by omega)
      exact ⟨_, rfl, N0, rfl, own_nlz_leaf 24 (by decide) 16777216 (by decide) (by omega) (by omega) (by rw [rr]; omega)⟩
     · -- pc 63: False
      refine own_st (fun _ => XS.icmpNo X0.here hx rfl (hb hby own_d15_63) rfl (flt hc63_27).1) ?_
      show own_Rch _ _ _ _ s₁ (mkF m 66 #[oI y25, oI (7 : Int32)] [])
      refine own_st (fun _ => XS.iinc X0.here hx rfl (hb hby own_d15_66) rfl (l' := #[oI y25, oI (5 : Int32)]) rfl) ?_
      show own_Rch _ _ _ _ s₁ (mkF m 69 #[oI y25, oI (5 : Int32)] [])
      refine own_st (fun _ => XS.iloadN X0.here hx rfl (hb hby own_d15_69) rfl) ?_
      show own_Rch _ _ _ _ s₁ (mkF m 70 #[oI y25, oI (5 : Int32)] [(.int y25)])
      refine own_st (fun _ => XS.iconst X0.here hx rfl (hb hby own_d15_70)) ?_
      show own_Rch _ _ _ _ s₁ (mkF m 71 #[oI y25, oI (5 : Int32)] [(.int (2 : Int32)), (.int y25)])
      refine own_st (fun _ => XS.iushr X0.here hx rfl (hb hby own_d15_71) rfl) ?_
      show own_Rch _ _ _ _ s₁ (mkF m 72 #[oI y25, oI (5 : Int32)] [(.int ((y25.toUInt32 >>> ((2 : Int32) &&& 31).toUInt32).toInt32))])
      refine own_st (fun _ => XS.istoreN X0.here hx rfl (hb hby own_d15_72) rfl (l' := #[oI ((y25.toUInt32 >>> ((2 : Int32) &&& 31).toUInt32).toInt32), oI (5 : Int32)]) rfl) ?_
      have sy28 := own_ush (x := y25) (q := (2 : Int32)) (k := 2) (by decide) (by decide) 4 (by decide) py25
      have py28 : 0 ≤ (((y25.toUInt32 >>> ((2 : Int32) &&& 31).toUInt32).toInt32)).toInt := by omega
      show own_Rch _ _ _ _ s₁ (mkF m 73 #[oI ((y25.toUInt32 >>> ((2 : Int32) &&& 31).toUInt32).toInt32), oI (5 : Int32)] [])
      generalize ((y25.toUInt32 >>> ((2 : Int32) &&& 31).toUInt32).toInt32) = y28 at sy28 py28 ⊢
      show own_Rch _ _ _ _ s₁ (mkF m 73 #[oI y28, oI (5 : Int32)] [])
      refine own_st (fun _ => XS.iloadN X0.here hx rfl (hb hby own_d15_73) rfl) ?_
      show own_Rch _ _ _ _ s₁ (mkF m 74 #[oI y28, oI (5 : Int32)] [(.int (5 : Int32))])
      refine own_st (fun _ => XS.iloadN X0.here hx rfl (hb hby own_d15_74) rfl) ?_
      show own_Rch _ _ _ _ s₁ (mkF m 75 #[oI y28, oI (5 : Int32)] [(.int y28), (.int (5 : Int32))])
      refine own_st (fun _ => XS.iconst X0.here hx rfl (hb hby own_d15_75)) ?_
      show own_Rch _ _ _ _ s₁ (mkF m 76 #[oI y28, oI (5 : Int32)] [(.int (1 : Int32)), (.int y28), (.int (5 : Int32))])
      refine own_st (fun _ => XS.iushr X0.here hx rfl (hb hby own_d15_76) rfl) ?_
      show own_Rch _ _ _ _ s₁ (mkF m 77 #[oI y28, oI (5 : Int32)] [(.int ((y28.toUInt32 >>> ((1 : Int32) &&& 31).toUInt32).toInt32)), (.int (5 : Int32))])
      refine own_st (fun _ => XS.isub X0.here hx rfl (hb hby own_d15_77) rfl) ?_
      show own_Rch _ _ _ _ s₁ (mkF m 78 #[oI y28, oI (5 : Int32)] [(.int ((5 : Int32) - ((y28.toUInt32 >>> ((1 : Int32) &&& 31).toUInt32).toInt32)))])
      refine own_retI X0 hx Bd.notSynchronized Bd.returns (hb hby own_d15_78) (by decide) (by decide) ?_
      rw [e0]
      rw [Int32.lt_iff_toInt_lt] at hc22_2 hc37_18 hc51_26 hc63_27
      have sr := own_ush (x := y28) (q := (1 : Int32)) (k := 1) (by decide) (by decide) 2 (by decide) py28
      have rr := own_sb (x := (5 : Int32)) (y := ((y28.toUInt32 >>> ((1 : Int32) &&& 31).toUInt32).toInt32)) (a := 5) (b := y28.toInt / 2) (by decide) sr (by omega) (by omega)
      exact ⟨_, rfl, N0, rfl, own_nlz_leaf 26 (by decide) 67108864 (by decide) (by omega) (by omega) (by rw [rr]; omega)⟩
    · -- pc 51: False
     refine own_st (fun _ => XS.icmpNo X0.here hx rfl (hb hby own_d15_51) rfl (flt hc51_26).1) ?_
     show own_Rch _ _ _ _ s₁ (mkF m 54 #[oI y25, oI (7 : Int32)] [])
     refine own_st (fun _ => XS.iinc X0.here hx rfl (hb hby own_d15_54) rfl (l' := #[oI y25, oI (3 : Int32)]) rfl) ?_
     show own_Rch _ _ _ _ s₁ (mkF m 57 #[oI y25, oI (3 : Int32)] [])
     refine own_st (fun _ => XS.iloadN X0.here hx rfl (hb hby own_d15_57) rfl) ?_
     show own_Rch _ _ _ _ s₁ (mkF m 58 #[oI y25, oI (3 : Int32)] [(.int y25)])
     refine own_st (fun _ => XS.iconst X0.here hx rfl (hb hby own_d15_58)) ?_
     show own_Rch _ _ _ _ s₁ (mkF m 59 #[oI y25, oI (3 : Int32)] [(.int (4 : Int32)), (.int y25)])
     refine own_st (fun _ => XS.iushr X0.here hx rfl (hb hby own_d15_59) rfl) ?_
     show own_Rch _ _ _ _ s₁ (mkF m 60 #[oI y25, oI (3 : Int32)] [(.int ((y25.toUInt32 >>> ((4 : Int32) &&& 31).toUInt32).toInt32))])
     refine own_st (fun _ => XS.istoreN X0.here hx rfl (hb hby own_d15_60) rfl (l' := #[oI ((y25.toUInt32 >>> ((4 : Int32) &&& 31).toUInt32).toInt32), oI (3 : Int32)]) rfl) ?_
     have sy29 := own_ush (x := y25) (q := (4 : Int32)) (k := 4) (by decide) (by decide) 16 (by decide) py25
     have py29 : 0 ≤ (((y25.toUInt32 >>> ((4 : Int32) &&& 31).toUInt32).toInt32)).toInt := by omega
     show own_Rch _ _ _ _ s₁ (mkF m 61 #[oI ((y25.toUInt32 >>> ((4 : Int32) &&& 31).toUInt32).toInt32), oI (3 : Int32)] [])
     generalize ((y25.toUInt32 >>> ((4 : Int32) &&& 31).toUInt32).toInt32) = y29 at sy29 py29 ⊢
     show own_Rch _ _ _ _ s₁ (mkF m 61 #[oI y29, oI (3 : Int32)] [])
     refine own_st (fun _ => XS.iloadN X0.here hx rfl (hb hby own_d15_61) rfl) ?_
     show own_Rch _ _ _ _ s₁ (mkF m 62 #[oI y29, oI (3 : Int32)] [(.int y29)])
     refine own_st (fun _ => XS.iconst X0.here hx rfl (hb hby own_d15_62)) ?_
     show own_Rch _ _ _ _ s₁ (mkF m 63 #[oI y29, oI (3 : Int32)] [(.int (4 : Int32)), (.int y29)])
     by_cases hc63_30 : y29 < (4 : Int32)
     · -- pc 63: True
      refine own_st (fun _ => XS.icmpYes X0.here hx rfl (pc0 := 63) (pc' := 73) rfl (hb hby own_d15_63) rfl (tlt hc63_30).1 (by decide) (by decide)) ?_
      show own_Rch _ _ _ _ s₁ (mkF m 73 #[oI y29, oI (3 : Int32)] [])
      refine own_st (fun _ => XS.iloadN X0.here hx rfl (hb hby own_d15_73) rfl) ?_
      show own_Rch _ _ _ _ s₁ (mkF m 74 #[oI y29, oI (3 : Int32)] [(.int (3 : Int32))])
      refine own_st (fun _ => XS.iloadN X0.here hx rfl (hb hby own_d15_74) rfl) ?_
      show own_Rch _ _ _ _ s₁ (mkF m 75 #[oI y29, oI (3 : Int32)] [(.int y29), (.int (3 : Int32))])
      refine own_st (fun _ => XS.iconst X0.here hx rfl (hb hby own_d15_75)) ?_
      show own_Rch _ _ _ _ s₁ (mkF m 76 #[oI y29, oI (3 : Int32)] [(.int (1 : Int32)), (.int y29), (.int (3 : Int32))])
      refine own_st (fun _ => XS.iushr X0.here hx rfl (hb hby own_d15_76) rfl) ?_
      show own_Rch _ _ _ _ s₁ (mkF m 77 #[oI y29, oI (3 : Int32)] [(.int ((y29.toUInt32 >>> ((1 : Int32) &&& 31).toUInt32).toInt32)), (.int (3 : Int32))])
      refine own_st (fun _ => XS.isub X0.here hx rfl (hb hby own_d15_77) rfl) ?_
      show own_Rch _ _ _ _ s₁ (mkF m 78 #[oI y29, oI (3 : Int32)] [(.int ((3 : Int32) - ((y29.toUInt32 >>> ((1 : Int32) &&& 31).toUInt32).toInt32)))])
      refine own_retI X0 hx Bd.notSynchronized Bd.returns (hb hby own_d15_78) (by decide) (by decide) ?_
      rw [e0]
      rw [Int32.lt_iff_toInt_lt] at hc22_2 hc37_18 hc51_26 hc63_30
      have sr := own_ush (x := y29) (q := (1 : Int32)) (k := 1) (by decide) (by decide) 2 (by decide) py29
      have rr := own_sb (x := (3 : Int32)) (y := ((y29.toUInt32 >>> ((1 : Int32) &&& 31).toUInt32).toInt32)) (a := 3) (b := y29.toInt / 2) (by decide) sr (by omega) (by omega)
      exact ⟨_, rfl, N0, rfl, own_nlz_leaf 28 (by decide) 268435456 (by decide) (by omega) (by omega) (by rw [rr]; omega)⟩
     · -- pc 63: False
      refine own_st (fun _ => XS.icmpNo X0.here hx rfl (hb hby own_d15_63) rfl (flt hc63_30).1) ?_
      show own_Rch _ _ _ _ s₁ (mkF m 66 #[oI y29, oI (3 : Int32)] [])
      refine own_st (fun _ => XS.iinc X0.here hx rfl (hb hby own_d15_66) rfl (l' := #[oI y29, oI (1 : Int32)]) rfl) ?_
      show own_Rch _ _ _ _ s₁ (mkF m 69 #[oI y29, oI (1 : Int32)] [])
      refine own_st (fun _ => XS.iloadN X0.here hx rfl (hb hby own_d15_69) rfl) ?_
      show own_Rch _ _ _ _ s₁ (mkF m 70 #[oI y29, oI (1 : Int32)] [(.int y29)])
      refine own_st (fun _ => XS.iconst X0.here hx rfl (hb hby own_d15_70)) ?_
      show own_Rch _ _ _ _ s₁ (mkF m 71 #[oI y29, oI (1 : Int32)] [(.int (2 : Int32)), (.int y29)])
      refine own_st (fun _ => XS.iushr X0.here hx rfl (hb hby own_d15_71) rfl) ?_
      show own_Rch _ _ _ _ s₁ (mkF m 72 #[oI y29, oI (1 : Int32)] [(.int ((y29.toUInt32 >>> ((2 : Int32) &&& 31).toUInt32).toInt32))])
      refine own_st (fun _ => XS.istoreN X0.here hx rfl (hb hby own_d15_72) rfl (l' := #[oI ((y29.toUInt32 >>> ((2 : Int32) &&& 31).toUInt32).toInt32), oI (1 : Int32)]) rfl) ?_
      have sy31 := own_ush (x := y29) (q := (2 : Int32)) (k := 2) (by decide) (by decide) 4 (by decide) py29
      have py31 : 0 ≤ (((y29.toUInt32 >>> ((2 : Int32) &&& 31).toUInt32).toInt32)).toInt := by omega
      show own_Rch _ _ _ _ s₁ (mkF m 73 #[oI ((y29.toUInt32 >>> ((2 : Int32) &&& 31).toUInt32).toInt32), oI (1 : Int32)] [])
      generalize ((y29.toUInt32 >>> ((2 : Int32) &&& 31).toUInt32).toInt32) = y31 at sy31 py31 ⊢
      show own_Rch _ _ _ _ s₁ (mkF m 73 #[oI y31, oI (1 : Int32)] [])
      refine own_st (fun _ => XS.iloadN X0.here hx rfl (hb hby own_d15_73) rfl) ?_
      show own_Rch _ _ _ _ s₁ (mkF m 74 #[oI y31, oI (1 : Int32)] [(.int (1 : Int32))])
      refine own_st (fun _ => XS.iloadN X0.here hx rfl (hb hby own_d15_74) rfl) ?_
      show own_Rch _ _ _ _ s₁ (mkF m 75 #[oI y31, oI (1 : Int32)] [(.int y31), (.int (1 : Int32))])
      refine own_st (fun _ => XS.iconst X0.here hx rfl (hb hby own_d15_75)) ?_
      show own_Rch _ _ _ _ s₁ (mkF m 76 #[oI y31, oI (1 : Int32)] [(.int (1 : Int32)), (.int y31), (.int (1 : Int32))])
      refine own_st (fun _ => XS.iushr X0.here hx rfl (hb hby own_d15_76) rfl) ?_
      show own_Rch _ _ _ _ s₁ (mkF m 77 #[oI y31, oI (1 : Int32)] [(.int ((y31.toUInt32 >>> ((1 : Int32) &&& 31).toUInt32).toInt32)), (.int (1 : Int32))])
      refine own_st (fun _ => XS.isub X0.here hx rfl (hb hby own_d15_77) rfl) ?_
      show own_Rch _ _ _ _ s₁ (mkF m 78 #[oI y31, oI (1 : Int32)] [(.int ((1 : Int32) - ((y31.toUInt32 >>> ((1 : Int32) &&& 31).toUInt32).toInt32)))])
      refine own_retI X0 hx Bd.notSynchronized Bd.returns (hb hby own_d15_78) (by decide) (by decide) ?_
      rw [e0]
      rw [Int32.lt_iff_toInt_lt] at hc22_2 hc37_18 hc51_26 hc63_30
      have sr := own_ush (x := y31) (q := (1 : Int32)) (k := 1) (by decide) (by decide) 2 (by decide) py31
      have rr := own_sb (x := (1 : Int32)) (y := ((y31.toUInt32 >>> ((1 : Int32) &&& 31).toUInt32).toInt32)) (a := 1) (b := y31.toInt / 2) (by decide) sr (by omega) (by omega)
      exact ⟨_, rfl, N0, rfl, own_nlz_leaf 30 (by decide) 1073741824 (by decide) (by omega) (by omega) (by rw [rr]; omega)⟩
 · -- pc 1: False
  refine own_st (fun _ => XS.ifNo X0.here hx rfl (hb hby own_d15_1) rfl ((if0 _ _).trans (flt hc1_1).2.2.1)) ?_
  show own_Rch _ _ _ _ s₁ (mkF m 4 #[oI i, .unset] [])
  refine own_st (fun _ => XS.iloadN X0.here hx rfl (hb hby own_d15_4) rfl) ?_
  show own_Rch _ _ _ _ s₁ (mkF m 5 #[oI i, .unset] [(.int i)])
  refine own_st (fun _ => XS.ifYes X0.here hx rfl (pc0 := 5) (pc' := 13) rfl (hb hby own_d15_5) rfl ((if0 _ _).trans (feq (hz : ¬ (i = (0 : Int32)))).2) (by decide) (by decide)) ?_
  show own_Rch _ _ _ _ s₁ (mkF m 13 #[oI i, .unset] [])
  refine own_st (fun _ => XS.iconst X0.here hx rfl (hb hby own_d15_13)) ?_
  show own_Rch _ _ _ _ s₁ (mkF m 14 #[oI i, .unset] [(.int (0 : Int32))])
  refine own_retI X0 hx Bd.notSynchronized Bd.returns (hb hby own_d15_14) (by decide) (by decide) ?_
  rw [e0]
  exact ⟨_, rfl, N0, rfl, own_nlz_neg hc1_1 hz⟩
theorem own_pn2 : plainName "java/lang/Long" = true := by first | (simp [plainName, overriddenIn]; done) | decide +kernel
theorem own_ef14 (m : MethodId) (x0 : Int64) : entryFrame m #[(.long x0)] 3 = mkF m 0 #[.val (.long x0), .second, .unset] [] := by first | (simp [entryFrame, mkF, argsToLocals, Value.category]; done) | rfl
theorem own_d14_0 : decode jdk_35_method_48_code 0 = .ok (.lload_n 0, 1) := by decide +kernel
theorem own_d14_1 : decode jdk_35_method_48_code 1 = .ok (.bipush 32, 2) := by decide +kernel
theorem own_d14_3 : decode jdk_35_method_48_code 3 = .ok (.lushr, 1) := by decide +kernel
theorem own_d14_4 : decode jdk_35_method_48_code 4 = .ok (.l2i, 1) := by decide +kernel
theorem own_d14_5 : decode jdk_35_method_48_code 5 = .ok (.istore_n 2, 1) := by decide +kernel
theorem own_d14_6 : decode jdk_35_method_48_code 6 = .ok (.iload_n 2, 1) := by decide +kernel
theorem own_d14_7 : decode jdk_35_method_48_code 7 = .ok (.ifCond .ne 14, 3) := by decide +kernel
theorem own_d14_10 : decode jdk_35_method_48_code 10 = .ok (.bipush 32, 2) := by decide +kernel
theorem own_d14_12 : decode jdk_35_method_48_code 12 = .ok (.lload_n 0, 1) := by decide +kernel
theorem own_d14_13 : decode jdk_35_method_48_code 13 = .ok (.l2i, 1) := by decide +kernel
theorem own_d14_14 : decode jdk_35_method_48_code 14 = .ok (.invokestatic 308, 3) := by decide +kernel
theorem own_pd0 : parseMethodDescriptor "(I)I" = some ⟨[.int], some .int⟩ := by decide +kernel
theorem own_d14_17 : decode jdk_35_method_48_code 17 = .ok (.iadd, 1) := by decide +kernel
theorem own_d14_18 : decode jdk_35_method_48_code 18 = .ok (.goto 7, 3) := by decide +kernel
theorem own_d14_25 : decode jdk_35_method_48_code 25 = .ok (.ireturn, 1) := by decide +kernel
theorem own_d14_21 : decode jdk_35_method_48_code 21 = .ok (.iload_n 2, 1) := by decide +kernel
theorem own_d14_22 : decode jdk_35_method_48_code 22 = .ok (.invokestatic 308, 3) := by decide +kernel
def own_Q_own_nlzL (Z : State) (x : Int64) (h0 : Heap) (n0 : Nat) (v : Option Value) (h : Heap) (L : List Loc) : Prop := ∃ r : Int32, v = some (.int r) ∧ Fr n0 L ∧ h = h0 ∧ own_nlz64 x r
set_option maxRecDepth 65536 in
set_option maxHeartbeats 40000000 in
theorem own_nlzL (l : Launch) (Z : State) (a0 : Array Value) (hw : ∀ d ∈ tables_1, d.before a0 Z = true) (ws : List Jvm.Cond) (x : Int64) (h0 : Heap) (n0 : Nat) (O0 : Old Z n0 h0) (hxz : ¬ x = 0) :
    MetFree l (⟨"java/lang/Long", "numberOfLeadingZeros", "(J)I"⟩ : MethodName) (head1 (Jvm.Cond.code (⟨"java/lang/Long", "numberOfLeadingZeros", "(J)I"⟩ : MethodName) jdk_35_method_48_code 3 (some .int) :: ws) ({ frames := 1, cells := 0, slots := 0, locals := 14 } : Room)) (fun args_ U => args_ = #[(.long x)] ∧ Z.Warmed39 U.vm ∧ U.heap = h0) (fun _ _ _ _ _ => True) (fun _ U o U' => ∃ v L, o = .returned v ∧ (own_Q_own_nlzL Z x h0 n0) v U'.heap L ∧ FrameEnd U o U' L ({ frames := 1, cells := 0, slots := 0, locals := 14 } : Room).cells ({ frames := 1, cells := 0, slots := 0, locals := 14 } : Room).slots) := by
 refine MetFree.of_bodySF (plainFor_of_name own_pn2) hisR ?_
 intro p e s m args below meth c s₁ Bd hml0 hP hK
 obtain ⟨rfl, hZ, hh⟩ := hP
 have hx := Bd.exec
 have hby := Bd.bytes
 have hml : c.maxLocals = 3 := hml0
 have hown : s.vm.findClass "java/lang/Long" = some m.cls := findClass_of_methodNamed Bd.named
 have hnm := (name_of_methodNamed Bd.named Bd.method).1
 have X0 : Stand p l e ({ frames := 1, cells := 0, slots := 0, locals := 14 } : Room) s m #[(.long x)] below meth c s₁ [] 0 0 := Stand.of_body Bd
 have e0 : s₁.heap = h0 := by rw [← hh, Bd.state]; rfl
 have N0 := Fr.nil n0
 refine own_close (s := s) (Q := (own_Q_own_nlzL Z x h0 n0)) (C := (({ frames := 1, cells := 0, slots := 0, locals := 14 } : Room)).cells) (N := (({ frames := 1, cells := 0, slots := 0, locals := 14 } : Room)).slots) (own_st (fun _ kt => castTop (own_ef14 m x) kt) ?_)
 show own_Rch _ _ _ _ s₁ (mkF m 0 #[oL x, .second, .unset] [])
 refine own_st (fun _ => XS.lloadN X0.here hx rfl (hb hby own_d14_0) rfl) ?_
 show own_Rch _ _ _ _ s₁ (mkF m 1 #[oL x, .second, .unset] [(.long x)])
 refine own_st (fun _ => XS.bipush X0.here hx rfl (hb hby own_d14_1)) ?_
 show own_Rch _ _ _ _ s₁ (mkF m 3 #[oL x, .second, .unset] [(.int (32 : Int32)), (.long x)])
 refine own_st (fun _ => XS.lushr X0.here hx rfl (hb hby own_d14_3) rfl) ?_
 show own_Rch _ _ _ _ s₁ (mkF m 4 #[oL x, .second, .unset] [(.long ((x.toUInt64 >>> ((32 : Int32) &&& 0x3f).toInt64.toUInt64).toInt64))])
 refine own_st (fun _ => XS.l2i X0.here hx rfl (hb hby own_d14_4) rfl) ?_
 show own_Rch _ _ _ _ s₁ (mkF m 5 #[oL x, .second, .unset] [(.int (((x.toUInt64 >>> ((32 : Int32) &&& 0x3f).toInt64.toUInt64).toInt64).toInt32))])
 refine own_st (fun _ => XS.istoreN X0.here hx rfl (hb hby own_d14_5) rfl (l' := #[oL x, .second, oI (((x.toUInt64 >>> ((32 : Int32) &&& 0x3f).toInt64.toUInt64).toInt64).toInt32)]) rfl) ?_
 show own_Rch _ _ _ _ s₁ (mkF m 6 #[oL x, .second, oI (((x.toUInt64 >>> ((32 : Int32) &&& 0x3f).toInt64.toUInt64).toInt64).toInt32)] [])
 refine own_st (fun _ => XS.iloadN X0.here hx rfl (hb hby own_d14_6) rfl) ?_
 show own_Rch _ _ _ _ s₁ (mkF m 7 #[oL x, .second, oI (((x.toUInt64 >>> ((32 : Int32) &&& 0x3f).toInt64.toUInt64).toInt64).toInt32)] [(.int (((x.toUInt64 >>> ((32 : Int32) &&& 0x3f).toInt64.toUInt64).toInt64).toInt32))])
 by_cases hc7_1 : (((x.toUInt64 >>> ((32 : Int32) &&& 0x3f).toInt64.toUInt64).toInt64).toInt32) = (0 : Int32)
 · -- pc 7: True
  refine own_st (fun _ => XS.ifNo X0.here hx rfl (hb hby own_d14_7) rfl ((if0 _ _).trans (teq hc7_1).2)) ?_
  show own_Rch _ _ _ _ s₁ (mkF m 10 #[oL x, .second, oI (((x.toUInt64 >>> ((32 : Int32) &&& 0x3f).toInt64.toUInt64).toInt64).toInt32)] [])
  refine own_st (fun _ => XS.bipush X0.here hx rfl (hb hby own_d14_10)) ?_
  show own_Rch _ _ _ _ s₁ (mkF m 12 #[oL x, .second, oI (((x.toUInt64 >>> ((32 : Int32) &&& 0x3f).toInt64.toUInt64).toInt64).toInt32)] [(.int (32 : Int32))])
  refine own_st (fun _ => XS.lloadN X0.here hx rfl (hb hby own_d14_12) rfl) ?_
  show own_Rch _ _ _ _ s₁ (mkF m 13 #[oL x, .second, oI (((x.toUInt64 >>> ((32 : Int32) &&& 0x3f).toInt64.toUInt64).toInt64).toInt32)] [(.long x), (.int (32 : Int32))])
  refine own_st (fun _ => XS.l2i X0.here hx rfl (hb hby own_d14_13) rfl) ?_
  show own_Rch _ _ _ _ s₁ (mkF m 14 #[oL x, .second, oI (((x.toUInt64 >>> ((32 : Int32) &&& 0x3f).toInt64.toUInt64).toInt64).toInt32)] [(.int (x.toInt32)), (.int (32 : Int32))])
  obtain ⟨_, _, ⟨T2, L2, k2, n2⟩, -, X2, ⟨Lc2, hQ2, l2, y2, z2⟩, st2⟩ := Jvm.LawKit.callS X0 hx (y := (⟨"java/lang/Integer", "numberOfLeadingZeros", "(I)I"⟩ : MethodName)) hown (mvT hZ (hw _ (own_m 77 rfl))) (mvT hZ (hw _ (own_m 78 rfl))) (mvT hZ (hw _ (own_m 79 rfl))) (mvT hZ (hw _ (own_m 80 rfl))) (by decide) (backOf (W := 1) (own_nlzI l Z a0 hw [] (x.toInt32) h0 n0 O0 (own_lo_ne hxz hc7_1)) hZ (hw _ (own_m 80 rfl)) (hw _ (own_m 79 rfl)) (by decide) (by decide)) (g := (mkF m 14 #[oL x, .second, oI (((x.toUInt64 >>> ((32 : Int32) &&& 0x3f).toInt64.toUInt64).toInt64).toInt32)] [(.int (x.toInt32)), (.int (32 : Int32))])) rfl (by rw [hml]; rfl) (argsL := [(.int (x.toInt32))]) (rest := [(.int (32 : Int32))]) (lenOf own_pd0 rfl) rfl (by show 2 * 0 + _ ≤ _; exact Nat.le_of_eq rfl) (hb hby own_d14_14) (fun _ _ => ⟨rfl, e0, (by decide : 0 + 0 ≤ _), (by decide : 0 + 0 ≤ _)⟩)
  dsimp only [Pt.U, Pt.locs, Pt.cells, Pt.slots] at X2 l2 y2 z2 st2 hQ2
  subst l2 y2 z2
  obtain ⟨rr2, rfl, N2q, hh2, hn2⟩ := hQ2
  have N2 := Fr.app N0 N2q
  refine own_st st2 ?_
  show own_Rch _ _ _ _ T2 (mkF m 17 #[oL x, .second, oI (((x.toUInt64 >>> ((32 : Int32) &&& 0x3f).toInt64.toUInt64).toInt64).toInt32)] [(.int rr2), (.int (32 : Int32))])
  refine own_st (fun _ => XS.iadd X2.here hx rfl (hb hby own_d14_17) rfl) ?_
  show own_Rch _ _ _ _ T2 (mkF m 18 #[oL x, .second, oI (((x.toUInt64 >>> ((32 : Int32) &&& 0x3f).toInt64.toUInt64).toInt64).toInt32)] [(.int ((32 : Int32) + rr2))])
  refine own_st (fun _ => XS.goto X2.here hx rfl (pc0 := 18) (pc' := 25) rfl (hb hby own_d14_18) (by decide) (by decide)) ?_
  show own_Rch _ _ _ _ T2 (mkF m 25 #[oL x, .second, oI (((x.toUInt64 >>> ((32 : Int32) &&& 0x3f).toInt64.toUInt64).toInt64).toInt32)] [(.int ((32 : Int32) + rr2))])
  refine own_retI X2 hx Bd.notSynchronized Bd.returns (hb hby own_d14_25) (by decide) (by decide) ?_
  rw [hh2]
  exact ⟨_, rfl, N2, rfl, own_nlz_lo hc7_1 hn2⟩
 · -- pc 7: False
  refine own_st (fun _ => XS.ifYes X0.here hx rfl (pc0 := 7) (pc' := 21) rfl (hb hby own_d14_7) rfl ((if0 _ _).trans (feq hc7_1).2) (by decide) (by decide)) ?_
  show own_Rch _ _ _ _ s₁ (mkF m 21 #[oL x, .second, oI (((x.toUInt64 >>> ((32 : Int32) &&& 0x3f).toInt64.toUInt64).toInt64).toInt32)] [])
  refine own_st (fun _ => XS.iloadN X0.here hx rfl (hb hby own_d14_21) rfl) ?_
  show own_Rch _ _ _ _ s₁ (mkF m 22 #[oL x, .second, oI (((x.toUInt64 >>> ((32 : Int32) &&& 0x3f).toInt64.toUInt64).toInt64).toInt32)] [(.int (((x.toUInt64 >>> ((32 : Int32) &&& 0x3f).toInt64.toUInt64).toInt64).toInt32))])
  obtain ⟨_, _, ⟨T3, L3, k3, n3⟩, -, X3, ⟨Lc3, hQ3, l3, y3, z3⟩, st3⟩ := Jvm.LawKit.callS X0 hx (y := (⟨"java/lang/Integer", "numberOfLeadingZeros", "(I)I"⟩ : MethodName)) hown (mvT hZ (hw _ (own_m 77 rfl))) (mvT hZ (hw _ (own_m 78 rfl))) (mvT hZ (hw _ (own_m 79 rfl))) (mvT hZ (hw _ (own_m 80 rfl))) (by decide) (backOf (W := 0) (own_nlzI l Z a0 hw [] (((x.toUInt64 >>> ((32 : Int32) &&& 0x3f).toInt64.toUInt64).toInt64).toInt32) h0 n0 O0 hc7_1) hZ (hw _ (own_m 80 rfl)) (hw _ (own_m 79 rfl)) (by decide) (by decide)) (g := (mkF m 22 #[oL x, .second, oI (((x.toUInt64 >>> ((32 : Int32) &&& 0x3f).toInt64.toUInt64).toInt64).toInt32)] [(.int (((x.toUInt64 >>> ((32 : Int32) &&& 0x3f).toInt64.toUInt64).toInt64).toInt32))])) rfl (by rw [hml]; rfl) (argsL := [(.int (((x.toUInt64 >>> ((32 : Int32) &&& 0x3f).toInt64.toUInt64).toInt64).toInt32))]) (rest := []) (lenOf own_pd0 rfl) rfl (by show 2 * 0 + _ ≤ _; exact Nat.le_of_eq rfl) (hb hby own_d14_22) (fun _ _ => ⟨rfl, e0, (by decide : 0 + 0 ≤ _), (by decide : 0 + 0 ≤ _)⟩)
  dsimp only [Pt.U, Pt.locs, Pt.cells, Pt.slots] at X3 l3 y3 z3 st3 hQ3
  subst l3 y3 z3
  obtain ⟨rr3, rfl, N3q, hh3, hn3⟩ := hQ3
  have N3 := Fr.app N0 N3q
  refine own_st st3 ?_
  show own_Rch _ _ _ _ T3 (mkF m 25 #[oL x, .second, oI (((x.toUInt64 >>> ((32 : Int32) &&& 0x3f).toInt64.toUInt64).toInt64).toInt32)] [(.int rr3)])
  refine own_retI X3 hx Bd.notSynchronized Bd.returns (hb hby own_d14_25) (by decide) (by decide) ?_
  rw [hh3]
  exact ⟨_, rfl, N3, rfl, own_nlz_hi hn3⟩
theorem own_ef18 (m : MethodId) (x0 : Int32) : entryFrame m #[(.int x0)] 2 = mkF m 0 #[.val (.int x0), .unset] [] := by first | (simp [entryFrame, mkF, argsToLocals, Value.category]; done) | rfl
theorem own_d18_0 : decode jdk_33_method_48_code 0 = .ok (.iload_n 0, 1) := by decide +kernel
theorem own_d18_1 : decode jdk_33_method_48_code 1 = .ok (.iconst (-1), 1) := by decide +kernel
theorem own_d18_2 : decode jdk_33_method_48_code 2 = .ok (.ixor, 1) := by decide +kernel
theorem own_d18_3 : decode jdk_33_method_48_code 3 = .ok (.iload_n 0, 1) := by decide +kernel
theorem own_d18_4 : decode jdk_33_method_48_code 4 = .ok (.iconst 1, 1) := by decide +kernel
theorem own_d18_5 : decode jdk_33_method_48_code 5 = .ok (.isub, 1) := by decide +kernel
theorem own_d18_6 : decode jdk_33_method_48_code 6 = .ok (.iand, 1) := by decide +kernel
theorem own_d18_7 : decode jdk_33_method_48_code 7 = .ok (.istore_n 0, 1) := by decide +kernel
theorem own_d18_8 : decode jdk_33_method_48_code 8 = .ok (.iload_n 0, 1) := by decide +kernel
theorem own_d18_9 : decode jdk_33_method_48_code 9 = .ok (.ifCond .gt 8, 3) := by decide +kernel
theorem own_d18_17 : decode jdk_33_method_48_code 17 = .ok (.iconst 1, 1) := by decide +kernel
theorem own_d18_18 : decode jdk_33_method_48_code 18 = .ok (.istore_n 1, 1) := by decide +kernel
theorem own_d18_19 : decode jdk_33_method_48_code 19 = .ok (.iload_n 0, 1) := by decide +kernel
theorem own_d18_20 : decode jdk_33_method_48_code 20 = .ok (.ldc_w 264, 3) := by decide +kernel
theorem own_d18_23 : decode jdk_33_method_48_code 23 = .ok (.if_icmp .le 11, 3) := by decide +kernel
theorem own_d18_26 : decode jdk_33_method_48_code 26 = .ok (.iinc 1 16, 3) := by decide +kernel
theorem own_d18_29 : decode jdk_33_method_48_code 29 = .ok (.iload_n 0, 1) := by decide +kernel
theorem own_d18_30 : decode jdk_33_method_48_code 30 = .ok (.bipush 16, 2) := by decide +kernel
theorem own_d18_32 : decode jdk_33_method_48_code 32 = .ok (.iushr, 1) := by decide +kernel
theorem own_d18_33 : decode jdk_33_method_48_code 33 = .ok (.istore_n 0, 1) := by decide +kernel
theorem own_d18_34 : decode jdk_33_method_48_code 34 = .ok (.iload_n 0, 1) := by decide +kernel
theorem own_d18_35 : decode jdk_33_method_48_code 35 = .ok (.sipush 256, 3) := by decide +kernel
theorem own_d18_38 : decode jdk_33_method_48_code 38 = .ok (.if_icmp .le 11, 3) := by decide +kernel
theorem own_d18_41 : decode jdk_33_method_48_code 41 = .ok (.iinc 1 8, 3) := by decide +kernel
theorem own_d18_44 : decode jdk_33_method_48_code 44 = .ok (.iload_n 0, 1) := by decide +kernel
theorem own_d18_45 : decode jdk_33_method_48_code 45 = .ok (.bipush 8, 2) := by decide +kernel
theorem own_d18_47 : decode jdk_33_method_48_code 47 = .ok (.iushr, 1) := by decide +kernel
theorem own_d18_48 : decode jdk_33_method_48_code 48 = .ok (.istore_n 0, 1) := by decide +kernel
theorem own_d18_49 : decode jdk_33_method_48_code 49 = .ok (.iload_n 0, 1) := by decide +kernel
theorem own_d18_50 : decode jdk_33_method_48_code 50 = .ok (.bipush 16, 2) := by decide +kernel
theorem own_d18_52 : decode jdk_33_method_48_code 52 = .ok (.if_icmp .le 10, 3) := by decide +kernel
theorem own_d18_55 : decode jdk_33_method_48_code 55 = .ok (.iinc 1 4, 3) := by decide +kernel
theorem own_d18_58 : decode jdk_33_method_48_code 58 = .ok (.iload_n 0, 1) := by decide +kernel
theorem own_d18_59 : decode jdk_33_method_48_code 59 = .ok (.iconst 4, 1) := by decide +kernel
theorem own_d18_60 : decode jdk_33_method_48_code 60 = .ok (.iushr, 1) := by decide +kernel
theorem own_d18_61 : decode jdk_33_method_48_code 61 = .ok (.istore_n 0, 1) := by decide +kernel
theorem own_d18_62 : decode jdk_33_method_48_code 62 = .ok (.iload_n 0, 1) := by decide +kernel
theorem own_d18_63 : decode jdk_33_method_48_code 63 = .ok (.iconst 4, 1) := by decide +kernel
theorem own_d18_64 : decode jdk_33_method_48_code 64 = .ok (.if_icmp .le 10, 3) := by decide +kernel
theorem own_d18_67 : decode jdk_33_method_48_code 67 = .ok (.iinc 1 2, 3) := by decide +kernel
theorem own_d18_70 : decode jdk_33_method_48_code 70 = .ok (.iload_n 0, 1) := by decide +kernel
theorem own_d18_71 : decode jdk_33_method_48_code 71 = .ok (.iconst 2, 1) := by decide +kernel
theorem own_d18_72 : decode jdk_33_method_48_code 72 = .ok (.iushr, 1) := by decide +kernel
theorem own_d18_73 : decode jdk_33_method_48_code 73 = .ok (.istore_n 0, 1) := by decide +kernel
theorem own_d18_74 : decode jdk_33_method_48_code 74 = .ok (.iload_n 1, 1) := by decide +kernel
theorem own_d18_75 : decode jdk_33_method_48_code 75 = .ok (.iload_n 0, 1) := by decide +kernel
theorem own_d18_76 : decode jdk_33_method_48_code 76 = .ok (.iconst 1, 1) := by decide +kernel
theorem own_d18_77 : decode jdk_33_method_48_code 77 = .ok (.iushr, 1) := by decide +kernel
theorem own_d18_78 : decode jdk_33_method_48_code 78 = .ok (.iadd, 1) := by decide +kernel
theorem own_d18_79 : decode jdk_33_method_48_code 79 = .ok (.ireturn, 1) := by decide +kernel
theorem own_d18_12 : decode jdk_33_method_48_code 12 = .ok (.iload_n 0, 1) := by decide +kernel
theorem own_d18_13 : decode jdk_33_method_48_code 13 = .ok (.bipush 32, 2) := by decide +kernel
theorem own_d18_15 : decode jdk_33_method_48_code 15 = .ok (.iand, 1) := by decide +kernel
theorem own_d18_16 : decode jdk_33_method_48_code 16 = .ok (.ireturn, 1) := by decide +kernel
def own_Q_own_ntzI (Z : State) (i : Int32) (h0 : Heap) (n0 : Nat) (v : Option Value) (h : Heap) (L : List Loc) : Prop := ∃ r : Int32, v = some (.int r) ∧ Fr n0 L ∧ h = h0 ∧ own_ntz32 i r
set_option maxRecDepth 65536 in
set_option maxHeartbeats 40000000 in
theorem own_ntzI (l : Launch) (Z : State) (a0 : Array Value) (hw : ∀ d ∈ tables_1, d.before a0 Z = true) (ws : List Jvm.Cond) (i : Int32) (h0 : Heap) (n0 : Nat) (O0 : Old Z n0 h0) (hz : ¬ i = 0) :
    MetFree l (⟨"java/lang/Integer", "numberOfTrailingZeros", "(I)I"⟩ : MethodName) (head1 (Jvm.Cond.code (⟨"java/lang/Integer", "numberOfTrailingZeros", "(I)I"⟩ : MethodName) jdk_33_method_48_code 2 (some .int) :: ws) ({ frames := 0, cells := 0, slots := 0, locals := 0 } : Room)) (fun args_ U => args_ = #[(.int i)] ∧ Z.Warmed39 U.vm ∧ U.heap = h0) (fun _ _ _ _ _ => True) (fun _ U o U' => ∃ v L, o = .returned v ∧ (own_Q_own_ntzI Z i h0 n0) v U'.heap L ∧ FrameEnd U o U' L ({ frames := 0, cells := 0, slots := 0, locals := 0 } : Room).cells ({ frames := 0, cells := 0, slots := 0, locals := 0 } : Room).slots) := by
 refine MetFree.of_bodySF (plainFor_of_name own_pn1) hisR ?_
 intro p e s m args below meth c s₁ Bd hml0 hP hK
 obtain ⟨rfl, hZ, hh⟩ := hP
 have hx := Bd.exec
 have hby := Bd.bytes
 have hml : c.maxLocals = 2 := hml0
 have hown : s.vm.findClass "java/lang/Integer" = some m.cls := findClass_of_methodNamed Bd.named
 have hnm := (name_of_methodNamed Bd.named Bd.method).1
 have X0 : Stand p l e ({ frames := 0, cells := 0, slots := 0, locals := 0 } : Room) s m #[(.int i)] below meth c s₁ [] 0 0 := Stand.of_body Bd
 have e0 : s₁.heap = h0 := by rw [← hh, Bd.state]; rfl
 have N0 := Fr.nil n0
 have ci0 : (0 : Int32).toInt = 0 := by decide
 have ci1 : (1 : Int32).toInt = 1 := by decide
 have ci2 : (2 : Int32).toInt = 2 := by decide
 have ci3 : (3 : Int32).toInt = 3 := by decide
 have ci4 : (4 : Int32).toInt = 4 := by decide
 have ci16 : (16 : Int32).toInt = 16 := by decide
 have ci256 : (256 : Int32).toInt = 256 := by decide
 have ci65536 : (65536 : Int32).toInt = 65536 := by decide
 obtain ⟨kk, kk31, hkk, hV⟩ := own_tz hz
 refine own_close (s := s) (Q := (own_Q_own_ntzI Z i h0 n0)) (C := (({ frames := 0, cells := 0, slots := 0, locals := 0 } : Room)).cells) (N := (({ frames := 0, cells := 0, slots := 0, locals := 0 } : Room)).slots) (own_st (fun _ kt => castTop (own_ef18 m i) kt) ?_)
 show own_Rch _ _ _ _ s₁ (mkF m 0 #[oI i, .unset] [])
 refine own_st (fun _ => XS.iloadN X0.here hx rfl (hb hby own_d18_0) rfl) ?_
 show own_Rch _ _ _ _ s₁ (mkF m 1 #[oI i, .unset] [(.int i)])
 refine own_st (fun _ => XS.iconst X0.here hx rfl (hb hby own_d18_1)) ?_
 show own_Rch _ _ _ _ s₁ (mkF m 2 #[oI i, .unset] [(.int (-1 : Int32)), (.int i)])
 refine own_st (fun _ => XS.ixor X0.here hx rfl (hb hby own_d18_2) rfl) ?_
 show own_Rch _ _ _ _ s₁ (mkF m 3 #[oI i, .unset] [(.int (i ^^^ (-1 : Int32)))])
 refine own_st (fun _ => XS.iloadN X0.here hx rfl (hb hby own_d18_3) rfl) ?_
 show own_Rch _ _ _ _ s₁ (mkF m 4 #[oI i, .unset] [(.int i), (.int (i ^^^ (-1 : Int32)))])
 refine own_st (fun _ => XS.iconst X0.here hx rfl (hb hby own_d18_4)) ?_
 show own_Rch _ _ _ _ s₁ (mkF m 5 #[oI i, .unset] [(.int (1 : Int32)), (.int i), (.int (i ^^^ (-1 : Int32)))])
 refine own_st (fun _ => XS.isub X0.here hx rfl (hb hby own_d18_5) rfl) ?_
 show own_Rch _ _ _ _ s₁ (mkF m 6 #[oI i, .unset] [(.int (i - (1 : Int32))), (.int (i ^^^ (-1 : Int32)))])
 refine own_st (fun _ => XS.iand X0.here hx rfl (hb hby own_d18_6) rfl) ?_
 show own_Rch _ _ _ _ s₁ (mkF m 7 #[oI i, .unset] [(.int ((i ^^^ (-1 : Int32)) &&& (i - (1 : Int32))))])
 refine own_st (fun _ => XS.istoreN X0.here hx rfl (hb hby own_d18_7) rfl (l' := #[oI ((i ^^^ (-1 : Int32)) &&& (i - (1 : Int32))), .unset]) rfl) ?_
 show own_Rch _ _ _ _ s₁ (mkF m 8 #[oI ((i ^^^ (-1 : Int32)) &&& (i - (1 : Int32))), .unset] [])
 generalize ((i ^^^ (-1 : Int32)) &&& (i - (1 : Int32))) = vV at hV ⊢
 show own_Rch _ _ _ _ s₁ (mkF m 8 #[oI vV, .unset] [])
 refine own_st (fun _ => XS.iloadN X0.here hx rfl (hb hby own_d18_8) rfl) ?_
 show own_Rch _ _ _ _ s₁ (mkF m 9 #[oI vV, .unset] [(.int vV)])
 by_cases hc9_1 : (0 : Int32) < vV
 · -- pc 9: True
  refine own_st (fun _ => XS.ifYes X0.here hx rfl (pc0 := 9) (pc' := 17) rfl (hb hby own_d18_9) rfl ((if0 _ _).trans (tlt hc9_1).2.2.1) (by decide) (by decide)) ?_
  have hpp := Int32.lt_iff_toInt_lt.mp hc9_1
  have hp0 : 0 ≤ vV.toInt := by omega
  have hub := Int32.toInt_lt vV
  show own_Rch _ _ _ _ s₁ (mkF m 17 #[oI vV, .unset] [])
  refine own_st (fun _ => XS.iconst X0.here hx rfl (hb hby own_d18_17)) ?_
  show own_Rch _ _ _ _ s₁ (mkF m 18 #[oI vV, .unset] [(.int (1 : Int32))])
  refine own_st (fun _ => XS.istoreN X0.here hx rfl (hb hby own_d18_18) rfl (l' := #[oI vV, oI (1 : Int32)]) rfl) ?_
  show own_Rch _ _ _ _ s₁ (mkF m 19 #[oI vV, oI (1 : Int32)] [])
  refine own_st (fun _ => XS.iloadN X0.here hx rfl (hb hby own_d18_19) rfl) ?_
  show own_Rch _ _ _ _ s₁ (mkF m 20 #[oI vV, oI (1 : Int32)] [(.int vV)])
  refine own_st (X0.ldcwInt hx hown (mvT hZ (hw _ (own_m 81 rfl))) (g := (mkF m 20 #[oI vV, oI (1 : Int32)] [(.int vV)])) rfl (hb hby own_d18_20)) ?_
  show own_Rch _ _ _ _ s₁ (mkF m 23 #[oI vV, oI (1 : Int32)] [(.int (65536 : Int32)), (.int vV)])
  by_cases hc23_2 : (65536 : Int32) < vV
  · -- pc 23: True
   refine own_st (fun _ => XS.icmpNo X0.here hx rfl (hb hby own_d18_23) rfl (tlt hc23_2).2.2.2) ?_
   show own_Rch _ _ _ _ s₁ (mkF m 26 #[oI vV, oI (1 : Int32)] [])
   refine own_st (fun _ => XS.iinc X0.here hx rfl (hb hby own_d18_26) rfl (l' := #[oI vV, oI (17 : Int32)]) rfl) ?_
   show own_Rch _ _ _ _ s₁ (mkF m 29 #[oI vV, oI (17 : Int32)] [])
   refine own_st (fun _ => XS.iloadN X0.here hx rfl (hb hby own_d18_29) rfl) ?_
   show own_Rch _ _ _ _ s₁ (mkF m 30 #[oI vV, oI (17 : Int32)] [(.int vV)])
   refine own_st (fun _ => XS.bipush X0.here hx rfl (hb hby own_d18_30)) ?_
   show own_Rch _ _ _ _ s₁ (mkF m 32 #[oI vV, oI (17 : Int32)] [(.int (16 : Int32)), (.int vV)])
   refine own_st (fun _ => XS.iushr X0.here hx rfl (hb hby own_d18_32) rfl) ?_
   show own_Rch _ _ _ _ s₁ (mkF m 33 #[oI vV, oI (17 : Int32)] [(.int ((vV.toUInt32 >>> ((16 : Int32) &&& 31).toUInt32).toInt32))])
   refine own_st (fun _ => XS.istoreN X0.here hx rfl (hb hby own_d18_33) rfl (l' := #[oI ((vV.toUInt32 >>> ((16 : Int32) &&& 31).toUInt32).toInt32), oI (17 : Int32)]) rfl) ?_
   have sy3 := own_ush (x := vV) (q := (16 : Int32)) (k := 16) (by decide) (by decide) 65536 (by decide) hp0
   have py3 : 0 ≤ (((vV.toUInt32 >>> ((16 : Int32) &&& 31).toUInt32).toInt32)).toInt := by omega
   show own_Rch _ _ _ _ s₁ (mkF m 34 #[oI ((vV.toUInt32 >>> ((16 : Int32) &&& 31).toUInt32).toInt32), oI (17 : Int32)] [])
   generalize ((vV.toUInt32 >>> ((16 : Int32) &&& 31).toUInt32).toInt32) = y3 at sy3 py3 ⊢
   show own_Rch _ _ _ _ s₁ (mkF m 34 #[oI y3, oI (17 : Int32)] [])
   refine own_st (fun _ => XS.iloadN X0.here hx rfl (hb hby own_d18_34) rfl) ?_
   show own_Rch _ _ _ _ s₁ (mkF m 35 #[oI y3, oI (17 : Int32)] [(.int y3)])
   refine own_st (fun _ => XS.sipush X0.here hx rfl (hb hby own_d18_35)) ?_
   show own_Rch _ _ _ _ s₁ (mkF m 38 #[oI y3, oI (17 : Int32)] [(.int (256 : Int32)), (.int y3)])
   by_cases hc38_4 : (256 : Int32) < y3
   · -- pc 38: True
    refine own_st (fun _ => XS.icmpNo X0.here hx rfl (hb hby own_d18_38) rfl (tlt hc38_4).2.2.2) ?_
    show own_Rch _ _ _ _ s₁ (mkF m 41 #[oI y3, oI (17 : Int32)] [])
    refine own_st (fun _ => XS.iinc X0.here hx rfl (hb hby own_d18_41) rfl (l' := #[oI y3, oI (25 : Int32)]) rfl) ?_
    show own_Rch _ _ _ _ s₁ (mkF m 44 #[oI y3, oI (25 : Int32)] [])
    refine own_st (fun _ => XS.iloadN X0.here hx rfl (hb hby own_d18_44) rfl) ?_
    show own_Rch _ _ _ _ s₁ (mkF m 45 #[oI y3, oI (25 : Int32)] [(.int y3)])
    refine own_st (fun _ => XS.bipush X0.here hx rfl (hb hby own_d18_45)) ?_
    show own_Rch _ _ _ _ s₁ (mkF m 47 #[oI y3, oI (25 : Int32)] [(.int (8 : Int32)), (.int y3)])
    refine own_st (fun _ => XS.iushr X0.here hx rfl (hb hby own_d18_47) rfl) ?_
    show own_Rch _ _ _ _ s₁ (mkF m 48 #[oI y3, oI (25 : Int32)] [(.int ((y3.toUInt32 >>> ((8 : Int32) &&& 31).toUInt32).toInt32))])
    refine own_st (fun _ => XS.istoreN X0.here hx rfl (hb hby own_d18_48) rfl (l' := #[oI ((y3.toUInt32 >>> ((8 : Int32) &&& 31).toUInt32).toInt32), oI (25 : Int32)]) rfl) ?_
    have sy5 := own_ush (x := y3) (q := (8 : Int32)) (k := 8) (by decide) (by decide) 256 (by decide) py3
    have py5 : 0 ≤ (((y3.toUInt32 >>> ((8 : Int32) &&& 31).toUInt32).toInt32)).toInt := by omega
    show own_Rch _ _ _ _ s₁ (mkF m 49 #[oI ((y3.toUInt32 >>> ((8 : Int32) &&& 31).toUInt32).toInt32), oI (25 : Int32)] [])
    generalize ((y3.toUInt32 >>> ((8 : Int32) &&& 31).toUInt32).toInt32) = y5 at sy5 py5 ⊢
    show own_Rch _ _ _ _ s₁ (mkF m 49 #[oI y5, oI (25 : Int32)] [])
    refine own_st (fun _ => XS.iloadN X0.here hx rfl (hb hby own_d18_49) rfl) ?_
    show own_Rch _ _ _ _ s₁ (mkF m 50 #[oI y5, oI (25 : Int32)] [(.int y5)])
    refine own_st (fun _ => XS.bipush X0.here hx rfl (hb hby own_d18_50)) ?_
    show own_Rch _ _ _ _ s₁ (mkF m 52 #[oI y5, oI (25 : Int32)] [(.int (16 : Int32)), (.int y5)])
    by_cases hc52_6 : (16 : Int32) < y5
    · -- pc 52: True
     refine own_st (fun _ => XS.icmpNo X0.here hx rfl (hb hby own_d18_52) rfl (tlt hc52_6).2.2.2) ?_
     show own_Rch _ _ _ _ s₁ (mkF m 55 #[oI y5, oI (25 : Int32)] [])
     refine own_st (fun _ => XS.iinc X0.here hx rfl (hb hby own_d18_55) rfl (l' := #[oI y5, oI (29 : Int32)]) rfl) ?_
     show own_Rch _ _ _ _ s₁ (mkF m 58 #[oI y5, oI (29 : Int32)] [])
     refine own_st (fun _ => XS.iloadN X0.here hx rfl (hb hby own_d18_58) rfl) ?_
     show own_Rch _ _ _ _ s₁ (mkF m 59 #[oI y5, oI (29 : Int32)] [(.int y5)])
     refine own_st (fun _ => XS.iconst X0.here hx rfl (hb hby own_d18_59)) ?_
     show own_Rch _ _ _ _ s₁ (mkF m 60 #[oI y5, oI (29 : Int32)] [(.int (4 : Int32)), (.int y5)])
     refine own_st (fun _ => XS.iushr X0.here hx rfl (hb hby own_d18_60) rfl) ?_
     show own_Rch _ _ _ _ s₁ (mkF m 61 #[oI y5, oI (29 : Int32)] [(.int ((y5.toUInt32 >>> ((4 : Int32) &&& 31).toUInt32).toInt32))])
     refine own_st (fun _ => XS.istoreN X0.here hx rfl (hb hby own_d18_61) rfl (l' := #[oI ((y5.toUInt32 >>> ((4 : Int32) &&& 31).toUInt32).toInt32), oI (29 : Int32)]) rfl) ?_
     have sy7 := own_ush (x := y5) (q := (4 : Int32)) (k := 4) (by decide) (by decide) 16 (by decide) py5
     have py7 : 0 ≤ (((y5.toUInt32 >>> ((4 : Int32) &&& 31).toUInt32).toInt32)).toInt := by omega
     show own_Rch _ _ _ _ s₁ (mkF m 62 #[oI ((y5.toUInt32 >>> ((4 : Int32) &&& 31).toUInt32).toInt32), oI (29 : Int32)] [])
     generalize ((y5.toUInt32 >>> ((4 : Int32) &&& 31).toUInt32).toInt32) = y7 at sy7 py7 ⊢
     show own_Rch _ _ _ _ s₁ (mkF m 62 #[oI y7, oI (29 : Int32)] [])
     refine own_st (fun _ => XS.iloadN X0.here hx rfl (hb hby own_d18_62) rfl) ?_
     show own_Rch _ _ _ _ s₁ (mkF m 63 #[oI y7, oI (29 : Int32)] [(.int y7)])
     refine own_st (fun _ => XS.iconst X0.here hx rfl (hb hby own_d18_63)) ?_
     show own_Rch _ _ _ _ s₁ (mkF m 64 #[oI y7, oI (29 : Int32)] [(.int (4 : Int32)), (.int y7)])
     by_cases hc64_8 : (4 : Int32) < y7
     · -- pc 64: True
      refine own_st (fun _ => XS.icmpNo X0.here hx rfl (hb hby own_d18_64) rfl (tlt hc64_8).2.2.2) ?_
      show own_Rch _ _ _ _ s₁ (mkF m 67 #[oI y7, oI (29 : Int32)] [])
      refine own_st (fun _ => XS.iinc X0.here hx rfl (hb hby own_d18_67) rfl (l' := #[oI y7, oI (31 : Int32)]) rfl) ?_
      show own_Rch _ _ _ _ s₁ (mkF m 70 #[oI y7, oI (31 : Int32)] [])
      refine own_st (fun _ => XS.iloadN X0.here hx rfl (hb hby own_d18_70) rfl) ?_
      show own_Rch _ _ _ _ s₁ (mkF m 71 #[oI y7, oI (31 : Int32)] [(.int y7)])
      refine own_st (fun _ => XS.iconst X0.here hx rfl (hb hby own_d18_71)) ?_
      show own_Rch _ _ _ _ s₁ (mkF m 72 #[oI y7, oI (31 : Int32)] [(.int (2 : Int32)), (.int y7)])
      refine own_st (fun _ => XS.iushr X0.here hx rfl (hb hby own_d18_72) rfl) ?_
      show own_Rch _ _ _ _ s₁ (mkF m 73 #[oI y7, oI (31 : Int32)] [(.int ((y7.toUInt32 >>> ((2 : Int32) &&& 31).toUInt32).toInt32))])
      refine own_st (fun _ => XS.istoreN X0.here hx rfl (hb hby own_d18_73) rfl (l' := #[oI ((y7.toUInt32 >>> ((2 : Int32) &&& 31).toUInt32).toInt32), oI (31 : Int32)]) rfl) ?_
      have sy9 := own_ush (x := y7) (q := (2 : Int32)) (k := 2) (by decide) (by decide) 4 (by decide) py7
      have py9 : 0 ≤ (((y7.toUInt32 >>> ((2 : Int32) &&& 31).toUInt32).toInt32)).toInt := by omega
      show own_Rch _ _ _ _ s₁ (mkF m 74 #[oI ((y7.toUInt32 >>> ((2 : Int32) &&& 31).toUInt32).toInt32), oI (31 : Int32)] [])
      generalize ((y7.toUInt32 >>> ((2 : Int32) &&& 31).toUInt32).toInt32) = y9 at sy9 py9 ⊢
      show own_Rch _ _ _ _ s₁ (mkF m 74 #[oI y9, oI (31 : Int32)] [])
      refine own_st (fun _ => XS.iloadN X0.here hx rfl (hb hby own_d18_74) rfl) ?_
      show own_Rch _ _ _ _ s₁ (mkF m 75 #[oI y9, oI (31 : Int32)] [(.int (31 : Int32))])
      refine own_st (fun _ => XS.iloadN X0.here hx rfl (hb hby own_d18_75) rfl) ?_
      show own_Rch _ _ _ _ s₁ (mkF m 76 #[oI y9, oI (31 : Int32)] [(.int y9), (.int (31 : Int32))])
      refine own_st (fun _ => XS.iconst X0.here hx rfl (hb hby own_d18_76)) ?_
      show own_Rch _ _ _ _ s₁ (mkF m 77 #[oI y9, oI (31 : Int32)] [(.int (1 : Int32)), (.int y9), (.int (31 : Int32))])
      refine own_st (fun _ => XS.iushr X0.here hx rfl (hb hby own_d18_77) rfl) ?_
      show own_Rch _ _ _ _ s₁ (mkF m 78 #[oI y9, oI (31 : Int32)] [(.int ((y9.toUInt32 >>> ((1 : Int32) &&& 31).toUInt32).toInt32)), (.int (31 : Int32))])
      refine own_st (fun _ => XS.iadd X0.here hx rfl (hb hby own_d18_78) rfl) ?_
      show own_Rch _ _ _ _ s₁ (mkF m 79 #[oI y9, oI (31 : Int32)] [(.int ((31 : Int32) + ((y9.toUInt32 >>> ((1 : Int32) &&& 31).toUInt32).toInt32)))])
      refine own_retI X0 hx Bd.notSynchronized Bd.returns (hb hby own_d18_79) (by decide) (by decide) ?_
      rw [e0]
      rw [Int32.lt_iff_toInt_lt] at hc23_2 hc38_4 hc52_6 hc64_8
      have sr := own_ush (x := y9) (q := (1 : Int32)) (k := 1) (by decide) (by decide) 2 (by decide) py9
      have rr := own_sm (x := (31 : Int32)) (y := ((y9.toUInt32 >>> ((1 : Int32) &&& 31).toUInt32).toInt32)) (a := 31) (b := y9.toInt / 2) (by decide) sr (by omega) (by omega)
      exact ⟨_, rfl, N0, rfl, own_ntz_leaf (y := y9.toInt) kk31 hkk hV 30 (by decide) 1073741824 (by decide) (by omega) (by omega) (by omega) (by rw [rr]; omega)⟩
     · -- pc 64: False
      refine own_st (fun _ => XS.icmpYes X0.here hx rfl (pc0 := 64) (pc' := 74) rfl (hb hby own_d18_64) rfl (flt hc64_8).2.2.2 (by decide) (by decide)) ?_
      show own_Rch _ _ _ _ s₁ (mkF m 74 #[oI y7, oI (29 : Int32)] [])
      refine own_st (fun _ => XS.iloadN X0.here hx rfl (hb hby own_d18_74) rfl) ?_
      show own_Rch _ _ _ _ s₁ (mkF m 75 #[oI y7, oI (29 : Int32)] [(.int (29 : Int32))])
      refine own_st (fun _ => XS.iloadN X0.here hx rfl (hb hby own_d18_75) rfl) ?_
      show own_Rch _ _ _ _ s₁ (mkF m 76 #[oI y7, oI (29 : Int32)] [(.int y7), (.int (29 : Int32))])
      refine own_st (fun _ => XS.iconst X0.here hx rfl (hb hby own_d18_76)) ?_
      show own_Rch _ _ _ _ s₁ (mkF m 77 #[oI y7, oI (29 : Int32)] [(.int (1 : Int32)), (.int y7), (.int (29 : Int32))])
      refine own_st (fun _ => XS.iushr X0.here hx rfl (hb hby own_d18_77) rfl) ?_
      show own_Rch _ _ _ _ s₁ (mkF m 78 #[oI y7, oI (29 : Int32)] [(.int ((y7.toUInt32 >>> ((1 : Int32) &&& 31).toUInt32).toInt32)), (.int (29 : Int32))])
      refine own_st (fun _ => XS.iadd X0.here hx rfl (hb hby own_d18_78) rfl) ?_
      show own_Rch _ _ _ _ s₁ (mkF m 79 #[oI y7, oI (29 : Int32)] [(.int ((29 : Int32) + ((y7.toUInt32 >>> ((1 : Int32) &&& 31).toUInt32).toInt32)))])
      refine own_retI X0 hx Bd.notSynchronized Bd.returns (hb hby own_d18_79) (by decide) (by decide) ?_
      rw [e0]
      rw [Int32.lt_iff_toInt_lt] at hc23_2 hc38_4 hc52_6 hc64_8
      have sr := own_ush (x := y7) (q := (1 : Int32)) (k := 1) (by decide) (by decide) 2 (by decide) py7
      have rr := own_sm (x := (29 : Int32)) (y := ((y7.toUInt32 >>> ((1 : Int32) &&& 31).toUInt32).toInt32)) (a := 29) (b := y7.toInt / 2) (by decide) sr (by omega) (by omega)
      exact ⟨_, rfl, N0, rfl, own_ntz_leaf (y := y7.toInt) kk31 hkk hV 28 (by decide) 268435456 (by decide) (by omega) (by omega) (by omega) (by rw [rr]; omega)⟩
    · -- pc 52: False
     refine own_st (fun _ => XS.icmpYes X0.here hx rfl (pc0 := 52) (pc' := 62) rfl (hb hby own_d18_52) rfl (flt hc52_6).2.2.2 (by decide) (by decide)) ?_
     show own_Rch _ _ _ _ s₁ (mkF m 62 #[oI y5, oI (25 : Int32)] [])
     refine own_st (fun _ => XS.iloadN X0.here hx rfl (hb hby own_d18_62) rfl) ?_
     show own_Rch _ _ _ _ s₁ (mkF m 63 #[oI y5, oI (25 : Int32)] [(.int y5)])
     refine own_st (fun _ => XS.iconst X0.here hx rfl (hb hby own_d18_63)) ?_
     show own_Rch _ _ _ _ s₁ (mkF m 64 #[oI y5, oI (25 : Int32)] [(.int (4 : Int32)), (.int y5)])
     by_cases hc64_10 : (4 : Int32) < y5
     · -- pc 64: True
      refine own_st (fun _ => XS.icmpNo X0.here hx rfl (hb hby own_d18_64) rfl (tlt hc64_10).2.2.2) ?_
      show own_Rch _ _ _ _ s₁ (mkF m 67 #[oI y5, oI (25 : Int32)] [])
      refine own_st (fun _ => XS.iinc X0.here hx rfl (hb hby own_d18_67) rfl (l' := #[oI y5, oI (27 : Int32)]) rfl) ?_
      show own_Rch _ _ _ _ s₁ (mkF m 70 #[oI y5, oI (27 : Int32)] [])
      refine own_st (fun _ => XS.iloadN X0.here hx rfl (hb hby own_d18_70) rfl) ?_
      show own_Rch _ _ _ _ s₁ (mkF m 71 #[oI y5, oI (27 : Int32)] [(.int y5)])
      refine own_st (fun _ => XS.iconst X0.here hx rfl (hb hby own_d18_71)) ?_
      show own_Rch _ _ _ _ s₁ (mkF m 72 #[oI y5, oI (27 : Int32)] [(.int (2 : Int32)), (.int y5)])
      refine own_st (fun _ => XS.iushr X0.here hx rfl (hb hby own_d18_72) rfl) ?_
      show own_Rch _ _ _ _ s₁ (mkF m 73 #[oI y5, oI (27 : Int32)] [(.int ((y5.toUInt32 >>> ((2 : Int32) &&& 31).toUInt32).toInt32))])
      refine own_st (fun _ => XS.istoreN X0.here hx rfl (hb hby own_d18_73) rfl (l' := #[oI ((y5.toUInt32 >>> ((2 : Int32) &&& 31).toUInt32).toInt32), oI (27 : Int32)]) rfl) ?_
      have sy11 := own_ush (x := y5) (q := (2 : Int32)) (k := 2) (by decide) (by decide) 4 (by decide) py5
      have py11 : 0 ≤ (((y5.toUInt32 >>> ((2 : Int32) &&& 31).toUInt32).toInt32)).toInt := by omega
      show own_Rch _ _ _ _ s₁ (mkF m 74 #[oI ((y5.toUInt32 >>> ((2 : Int32) &&& 31).toUInt32).toInt32), oI (27 : Int32)] [])
      generalize ((y5.toUInt32 >>> ((2 : Int32) &&& 31).toUInt32).toInt32) = y11 at sy11 py11 ⊢
      show own_Rch _ _ _ _ s₁ (mkF m 74 #[oI y11, oI (27 : Int32)] [])
      refine own_st (fun _ => XS.iloadN X0.here hx rfl (hb hby own_d18_74) rfl) ?_
      show own_Rch _ _ _ _ s₁ (mkF m 75 #[oI y11, oI (27 : Int32)] [(.int (27 : Int32))])
      refine own_st (fun _ => XS.iloadN X0.here hx rfl (hb hby own_d18_75) rfl) ?_
      show own_Rch _ _ _ _ s₁ (mkF m 76 #[oI y11, oI (27 : Int32)] [(.int y11), (.int (27 : Int32))])
      refine own_st (fun _ => XS.iconst X0.here hx rfl (hb hby own_d18_76)) ?_
      show own_Rch _ _ _ _ s₁ (mkF m 77 #[oI y11, oI (27 : Int32)] [(.int (1 : Int32)), (.int y11), (.int (27 : Int32))])
      refine own_st (fun _ => XS.iushr X0.here hx rfl (hb hby own_d18_77) rfl) ?_
      show own_Rch _ _ _ _ s₁ (mkF m 78 #[oI y11, oI (27 : Int32)] [(.int ((y11.toUInt32 >>> ((1 : Int32) &&& 31).toUInt32).toInt32)), (.int (27 : Int32))])
      refine own_st (fun _ => XS.iadd X0.here hx rfl (hb hby own_d18_78) rfl) ?_
      show own_Rch _ _ _ _ s₁ (mkF m 79 #[oI y11, oI (27 : Int32)] [(.int ((27 : Int32) + ((y11.toUInt32 >>> ((1 : Int32) &&& 31).toUInt32).toInt32)))])
      refine own_retI X0 hx Bd.notSynchronized Bd.returns (hb hby own_d18_79) (by decide) (by decide) ?_
      rw [e0]
      rw [Int32.lt_iff_toInt_lt] at hc23_2 hc38_4 hc52_6 hc64_10
      have sr := own_ush (x := y11) (q := (1 : Int32)) (k := 1) (by decide) (by decide) 2 (by decide) py11
      have rr := own_sm (x := (27 : Int32)) (y := ((y11.toUInt32 >>> ((1 : Int32) &&& 31).toUInt32).toInt32)) (a := 27) (b := y11.toInt / 2) (by decide) sr (by omega) (by omega)
      exact ⟨_, rfl, N0, rfl, own_ntz_leaf (y := y11.toInt) kk31 hkk hV 26 (by decide) 67108864 (by decide) (by omega) (by omega) (by omega) (by rw [rr]; omega)⟩
     · -- pc 64: False
      refine own_st (fun _ => XS.icmpYes X0.here hx rfl (pc0 := 64) (pc' := 74) rfl (hb hby own_d18_64) rfl (flt hc64_10).2.2.2 (by decide) (by decide)) ?_
      show own_Rch _ _ _ _ s₁ (mkF m 74 #[oI y5, oI (25 : Int32)] [])
      refine own_st (fun _ => XS.iloadN X0.here hx rfl (hb hby own_d18_74) rfl) ?_
      show own_Rch _ _ _ _ s₁ (mkF m 75 #[oI y5, oI (25 : Int32)] [(.int (25 : Int32))])
      refine own_st (fun _ => XS.iloadN X0.here hx rfl (hb hby own_d18_75) rfl) ?_
      show own_Rch _ _ _ _ s₁ (mkF m 76 #[oI y5, oI (25 : Int32)] [(.int y5), (.int (25 : Int32))])
      refine own_st (fun _ => XS.iconst X0.here hx rfl (hb hby own_d18_76)) ?_
      show own_Rch _ _ _ _ s₁ (mkF m 77 #[oI y5, oI (25 : Int32)] [(.int (1 : Int32)), (.int y5), (.int (25 : Int32))])
      refine own_st (fun _ => XS.iushr X0.here hx rfl (hb hby own_d18_77) rfl) ?_
      show own_Rch _ _ _ _ s₁ (mkF m 78 #[oI y5, oI (25 : Int32)] [(.int ((y5.toUInt32 >>> ((1 : Int32) &&& 31).toUInt32).toInt32)), (.int (25 : Int32))])
      refine own_st (fun _ => XS.iadd X0.here hx rfl (hb hby own_d18_78) rfl) ?_
      show own_Rch _ _ _ _ s₁ (mkF m 79 #[oI y5, oI (25 : Int32)] [(.int ((25 : Int32) + ((y5.toUInt32 >>> ((1 : Int32) &&& 31).toUInt32).toInt32)))])
      refine own_retI X0 hx Bd.notSynchronized Bd.returns (hb hby own_d18_79) (by decide) (by decide) ?_
      rw [e0]
      rw [Int32.lt_iff_toInt_lt] at hc23_2 hc38_4 hc52_6 hc64_10
      have sr := own_ush (x := y5) (q := (1 : Int32)) (k := 1) (by decide) (by decide) 2 (by decide) py5
      have rr := own_sm (x := (25 : Int32)) (y := ((y5.toUInt32 >>> ((1 : Int32) &&& 31).toUInt32).toInt32)) (a := 25) (b := y5.toInt / 2) (by decide) sr (by omega) (by omega)
      exact ⟨_, rfl, N0, rfl, own_ntz_leaf (y := y5.toInt) kk31 hkk hV 24 (by decide) 16777216 (by decide) (by omega) (by omega) (by omega) (by rw [rr]; omega)⟩
   · -- pc 38: False
    refine own_st (fun _ => XS.icmpYes X0.here hx rfl (pc0 := 38) (pc' := 49) rfl (hb hby own_d18_38) rfl (flt hc38_4).2.2.2 (by decide) (by decide)) ?_
    show own_Rch _ _ _ _ s₁ (mkF m 49 #[oI y3, oI (17 : Int32)] [])
    refine own_st (fun _ => XS.iloadN X0.here hx rfl (hb hby own_d18_49) rfl) ?_
    show own_Rch _ _ _ _ s₁ (mkF m 50 #[oI y3, oI (17 : Int32)] [(.int y3)])
    refine own_st (fun _ => XS.bipush X0.here hx rfl (hb hby own_d18_50)) ?_
    show own_Rch _ _ _ _ s₁ (mkF m 52 #[oI y3, oI (17 : Int32)] [(.int (16 : Int32)), (.int y3)])
    by_cases hc52_12 : (16 : Int32) < y3
    · -- pc 52: True
     refine own_st (fun _ => XS.icmpNo X0.here hx rfl (hb hby own_d18_52) rfl (tlt hc52_12).2.2.2) ?_
     show own_Rch _ _ _ _ s₁ (mkF m 55 #[oI y3, oI (17 : Int32)] [])
     refine own_st (fun _ => XS.iinc X0.here hx rfl (hb hby own_d18_55) rfl (l' := #[oI y3, oI (21 : Int32)]) rfl) ?_
     show own_Rch _ _ _ _ s₁ (mkF m 58 #[oI y3, oI (21 : Int32)] [])
     refine own_st (fun _ => XS.iloadN X0.here hx rfl (hb hby own_d18_58) rfl) ?_
     show own_Rch _ _ _ _ s₁ (mkF m 59 #[oI y3, oI (21 : Int32)] [(.int y3)])
     refine own_st (fun _ => XS.iconst X0.here hx rfl (hb hby own_d18_59)) ?_
     show own_Rch _ _ _ _ s₁ (mkF m 60 #[oI y3, oI (21 : Int32)] [(.int (4 : Int32)), (.int y3)])
     refine own_st (fun _ => XS.iushr X0.here hx rfl (hb hby own_d18_60) rfl) ?_
     show own_Rch _ _ _ _ s₁ (mkF m 61 #[oI y3, oI (21 : Int32)] [(.int ((y3.toUInt32 >>> ((4 : Int32) &&& 31).toUInt32).toInt32))])
     refine own_st (fun _ => XS.istoreN X0.here hx rfl (hb hby own_d18_61) rfl (l' := #[oI ((y3.toUInt32 >>> ((4 : Int32) &&& 31).toUInt32).toInt32), oI (21 : Int32)]) rfl) ?_
     have sy13 := own_ush (x := y3) (q := (4 : Int32)) (k := 4) (by decide) (by decide) 16 (by decide) py3
     have py13 : 0 ≤ (((y3.toUInt32 >>> ((4 : Int32) &&& 31).toUInt32).toInt32)).toInt := by omega
     show own_Rch _ _ _ _ s₁ (mkF m 62 #[oI ((y3.toUInt32 >>> ((4 : Int32) &&& 31).toUInt32).toInt32), oI (21 : Int32)] [])
     generalize ((y3.toUInt32 >>> ((4 : Int32) &&& 31).toUInt32).toInt32) = y13 at sy13 py13 ⊢
     show own_Rch _ _ _ _ s₁ (mkF m 62 #[oI y13, oI (21 : Int32)] [])
     refine own_st (fun _ => XS.iloadN X0.here hx rfl (hb hby own_d18_62) rfl) ?_
     show own_Rch _ _ _ _ s₁ (mkF m 63 #[oI y13, oI (21 : Int32)] [(.int y13)])
     refine own_st (fun _ => XS.iconst X0.here hx rfl (hb hby own_d18_63)) ?_
     show own_Rch _ _ _ _ s₁ (mkF m 64 #[oI y13, oI (21 : Int32)] [(.int (4 : Int32)), (.int y13)])
     by_cases hc64_14 : (4 : Int32) < y13
     · -- pc 64: True
      refine own_st (fun _ => XS.icmpNo X0.here hx rfl (hb hby own_d18_64) rfl (tlt hc64_14).2.2.2) ?_
      show own_Rch _ _ _ _ s₁ (mkF m 67 #[oI y13, oI (21 : Int32)] [])
      refine own_st (fun _ => XS.iinc X0.here hx rfl (hb hby own_d18_67) rfl (l' := #[oI y13, oI (23 : Int32)]) rfl) ?_
      show own_Rch _ _ _ _ s₁ (mkF m 70 #[oI y13, oI (23 : Int32)] [])
      refine own_st (fun _ => XS.iloadN X0.here hx rfl (hb hby own_d18_70) rfl) ?_
      show own_Rch _ _ _ _ s₁ (mkF m 71 #[oI y13, oI (23 : Int32)] [(.int y13)])
      refine own_st (fun _ => XS.iconst X0.here hx rfl (hb hby own_d18_71)) ?_
      show own_Rch _ _ _ _ s₁ (mkF m 72 #[oI y13, oI (23 : Int32)] [(.int (2 : Int32)), (.int y13)])
      refine own_st (fun _ => XS.iushr X0.here hx rfl (hb hby own_d18_72) rfl) ?_
      show own_Rch _ _ _ _ s₁ (mkF m 73 #[oI y13, oI (23 : Int32)] [(.int ((y13.toUInt32 >>> ((2 : Int32) &&& 31).toUInt32).toInt32))])
      refine own_st (fun _ => XS.istoreN X0.here hx rfl (hb hby own_d18_73) rfl (l' := #[oI ((y13.toUInt32 >>> ((2 : Int32) &&& 31).toUInt32).toInt32), oI (23 : Int32)]) rfl) ?_
      have sy15 := own_ush (x := y13) (q := (2 : Int32)) (k := 2) (by decide) (by decide) 4 (by decide) py13
      have py15 : 0 ≤ (((y13.toUInt32 >>> ((2 : Int32) &&& 31).toUInt32).toInt32)).toInt := by omega
      show own_Rch _ _ _ _ s₁ (mkF m 74 #[oI ((y13.toUInt32 >>> ((2 : Int32) &&& 31).toUInt32).toInt32), oI (23 : Int32)] [])
      generalize ((y13.toUInt32 >>> ((2 : Int32) &&& 31).toUInt32).toInt32) = y15 at sy15 py15 ⊢
      show own_Rch _ _ _ _ s₁ (mkF m 74 #[oI y15, oI (23 : Int32)] [])
      refine own_st (fun _ => XS.iloadN X0.here hx rfl (hb hby own_d18_74) rfl) ?_
      show own_Rch _ _ _ _ s₁ (mkF m 75 #[oI y15, oI (23 : Int32)] [(.int (23 : Int32))])
      refine own_st (fun _ => XS.iloadN X0.here hx rfl (hb hby own_d18_75) rfl) ?_
      show own_Rch _ _ _ _ s₁ (mkF m 76 #[oI y15, oI (23 : Int32)] [(.int y15), (.int (23 : Int32))])
      refine own_st (fun _ => XS.iconst X0.here hx rfl (hb hby own_d18_76)) ?_
      show own_Rch _ _ _ _ s₁ (mkF m 77 #[oI y15, oI (23 : Int32)] [(.int (1 : Int32)), (.int y15), (.int (23 : Int32))])
      refine own_st (fun _ => XS.iushr X0.here hx rfl (hb hby own_d18_77) rfl) ?_
      show own_Rch _ _ _ _ s₁ (mkF m 78 #[oI y15, oI (23 : Int32)] [(.int ((y15.toUInt32 >>> ((1 : Int32) &&& 31).toUInt32).toInt32)), (.int (23 : Int32))])
      refine own_st (fun _ => XS.iadd X0.here hx rfl (hb hby own_d18_78) rfl) ?_
      show own_Rch _ _ _ _ s₁ (mkF m 79 #[oI y15, oI (23 : Int32)] [(.int ((23 : Int32) + ((y15.toUInt32 >>> ((1 : Int32) &&& 31).toUInt32).toInt32)))])
      refine own_retI X0 hx Bd.notSynchronized Bd.returns (hb hby own_d18_79) (by decide) (by decide) ?_
      rw [e0]
      rw [Int32.lt_iff_toInt_lt] at hc23_2 hc38_4 hc52_12 hc64_14
      have sr := own_ush (x := y15) (q := (1 : Int32)) (k := 1) (by decide) (by decide) 2 (by decide) py15
      have rr := own_sm (x := (23 : Int32)) (y := ((y15.toUInt32 >>> ((1 : Int32) &&& 31).toUInt32).toInt32)) (a := 23) (b := y15.toInt / 2) (by decide) sr (by omega) (by omega)
      exact ⟨_, rfl, N0, rfl, own_ntz_leaf (y := y15.toInt) kk31 hkk hV 22 (by decide) 4194304 (by decide) (by omega) (by omega) (by omega) (by rw [rr]; omega)⟩
     · -- pc 64: False
      refine own_st (fun _ => XS.icmpYes X0.here hx rfl (pc0 := 64) (pc' := 74) rfl (hb hby own_d18_64) rfl (flt hc64_14).2.2.2 (by decide) (by decide)) ?_
      show own_Rch _ _ _ _ s₁ (mkF m 74 #[oI y13, oI (21 : Int32)] [])
      refine own_st (fun _ => XS.iloadN X0.here hx rfl (hb hby own_d18_74) rfl) ?_
      show own_Rch _ _ _ _ s₁ (mkF m 75 #[oI y13, oI (21 : Int32)] [(.int (21 : Int32))])
      refine own_st (fun _ => XS.iloadN X0.here hx rfl (hb hby own_d18_75) rfl) ?_
      show own_Rch _ _ _ _ s₁ (mkF m 76 #[oI y13, oI (21 : Int32)] [(.int y13), (.int (21 : Int32))])
      refine own_st (fun _ => XS.iconst X0.here hx rfl (hb hby own_d18_76)) ?_
      show own_Rch _ _ _ _ s₁ (mkF m 77 #[oI y13, oI (21 : Int32)] [(.int (1 : Int32)), (.int y13), (.int (21 : Int32))])
      refine own_st (fun _ => XS.iushr X0.here hx rfl (hb hby own_d18_77) rfl) ?_
      show own_Rch _ _ _ _ s₁ (mkF m 78 #[oI y13, oI (21 : Int32)] [(.int ((y13.toUInt32 >>> ((1 : Int32) &&& 31).toUInt32).toInt32)), (.int (21 : Int32))])
      refine own_st (fun _ => XS.iadd X0.here hx rfl (hb hby own_d18_78) rfl) ?_
      show own_Rch _ _ _ _ s₁ (mkF m 79 #[oI y13, oI (21 : Int32)] [(.int ((21 : Int32) + ((y13.toUInt32 >>> ((1 : Int32) &&& 31).toUInt32).toInt32)))])
      refine own_retI X0 hx Bd.notSynchronized Bd.returns (hb hby own_d18_79) (by decide) (by decide) ?_
      rw [e0]
      rw [Int32.lt_iff_toInt_lt] at hc23_2 hc38_4 hc52_12 hc64_14
      have sr := own_ush (x := y13) (q := (1 : Int32)) (k := 1) (by decide) (by decide) 2 (by decide) py13
      have rr := own_sm (x := (21 : Int32)) (y := ((y13.toUInt32 >>> ((1 : Int32) &&& 31).toUInt32).toInt32)) (a := 21) (b := y13.toInt / 2) (by decide) sr (by omega) (by omega)
      exact ⟨_, rfl, N0, rfl, own_ntz_leaf (y := y13.toInt) kk31 hkk hV 20 (by decide) 1048576 (by decide) (by omega) (by omega) (by omega) (by rw [rr]; omega)⟩
    · -- pc 52: False
     refine own_st (fun _ => XS.icmpYes X0.here hx rfl (pc0 := 52) (pc' := 62) rfl (hb hby own_d18_52) rfl (flt hc52_12).2.2.2 (by decide) (by decide)) ?_
     show own_Rch _ _ _ _ s₁ (mkF m 62 #[oI y3, oI (17 : Int32)] [])
     refine own_st (fun _ => XS.iloadN X0.here hx rfl (hb hby own_d18_62) rfl) ?_
     show own_Rch _ _ _ _ s₁ (mkF m 63 #[oI y3, oI (17 : Int32)] [(.int y3)])
     refine own_st (fun _ => XS.iconst X0.here hx rfl (hb hby own_d18_63)) ?_
     show own_Rch _ _ _ _ s₁ (mkF m 64 #[oI y3, oI (17 : Int32)] [(.int (4 : Int32)), (.int y3)])
     by_cases hc64_16 : (4 : Int32) < y3
     · -- pc 64: True
      refine own_st (fun _ => XS.icmpNo X0.here hx rfl (hb hby own_d18_64) rfl (tlt hc64_16).2.2.2) ?_
      show own_Rch _ _ _ _ s₁ (mkF m 67 #[oI y3, oI (17 : Int32)] [])
      refine own_st (fun _ => XS.iinc X0.here hx rfl (hb hby own_d18_67) rfl (l' := #[oI y3, oI (19 : Int32)]) rfl) ?_
      show own_Rch _ _ _ _ s₁ (mkF m 70 #[oI y3, oI (19 : Int32)] [])
      refine own_st (fun _ => XS.iloadN X0.here hx rfl (hb hby own_d18_70) rfl) ?_
      show own_Rch _ _ _ _ s₁ (mkF m 71 #[oI y3, oI (19 : Int32)] [(.int y3)])
      refine own_st (fun _ => XS.iconst X0.here hx rfl (hb hby own_d18_71)) ?_
      show own_Rch _ _ _ _ s₁ (mkF m 72 #[oI y3, oI (19 : Int32)] [(.int (2 : Int32)), (.int y3)])
      refine own_st (fun _ => XS.iushr X0.here hx rfl (hb hby own_d18_72) rfl) ?_
      show own_Rch _ _ _ _ s₁ (mkF m 73 #[oI y3, oI (19 : Int32)] [(.int ((y3.toUInt32 >>> ((2 : Int32) &&& 31).toUInt32).toInt32))])
      refine own_st (fun _ => XS.istoreN X0.here hx rfl (hb hby own_d18_73) rfl (l' := #[oI ((y3.toUInt32 >>> ((2 : Int32) &&& 31).toUInt32).toInt32), oI (19 : Int32)]) rfl) ?_
      have sy17 := own_ush (x := y3) (q := (2 : Int32)) (k := 2) (by decide) (by decide) 4 (by decide) py3
      have py17 : 0 ≤ (((y3.toUInt32 >>> ((2 : Int32) &&& 31).toUInt32).toInt32)).toInt := by omega
      show own_Rch _ _ _ _ s₁ (mkF m 74 #[oI ((y3.toUInt32 >>> ((2 : Int32) &&& 31).toUInt32).toInt32), oI (19 : Int32)] [])
      generalize ((y3.toUInt32 >>> ((2 : Int32) &&& 31).toUInt32).toInt32) = y17 at sy17 py17 ⊢
      show own_Rch _ _ _ _ s₁ (mkF m 74 #[oI y17, oI (19 : Int32)] [])
      refine own_st (fun _ => XS.iloadN X0.here hx rfl (hb hby own_d18_74) rfl) ?_
      show own_Rch _ _ _ _ s₁ (mkF m 75 #[oI y17, oI (19 : Int32)] [(.int (19 : Int32))])
      refine own_st (fun _ => XS.iloadN X0.here hx rfl (hb hby own_d18_75) rfl) ?_
      show own_Rch _ _ _ _ s₁ (mkF m 76 #[oI y17, oI (19 : Int32)] [(.int y17), (.int (19 : Int32))])
      refine own_st (fun _ => XS.iconst X0.here hx rfl (hb hby own_d18_76)) ?_
      show own_Rch _ _ _ _ s₁ (mkF m 77 #[oI y17, oI (19 : Int32)] [(.int (1 : Int32)), (.int y17), (.int (19 : Int32))])
      refine own_st (fun _ => XS.iushr X0.here hx rfl (hb hby own_d18_77) rfl) ?_
      show own_Rch _ _ _ _ s₁ (mkF m 78 #[oI y17, oI (19 : Int32)] [(.int ((y17.toUInt32 >>> ((1 : Int32) &&& 31).toUInt32).toInt32)), (.int (19 : Int32))])
      refine own_st (fun _ => XS.iadd X0.here hx rfl (hb hby own_d18_78) rfl) ?_
      show own_Rch _ _ _ _ s₁ (mkF m 79 #[oI y17, oI (19 : Int32)] [(.int ((19 : Int32) + ((y17.toUInt32 >>> ((1 : Int32) &&& 31).toUInt32).toInt32)))])
      refine own_retI X0 hx Bd.notSynchronized Bd.returns (hb hby own_d18_79) (by decide) (by decide) ?_
      rw [e0]
      rw [Int32.lt_iff_toInt_lt] at hc23_2 hc38_4 hc52_12 hc64_16
      have sr := own_ush (x := y17) (q := (1 : Int32)) (k := 1) (by decide) (by decide) 2 (by decide) py17
      have rr := own_sm (x := (19 : Int32)) (y := ((y17.toUInt32 >>> ((1 : Int32) &&& 31).toUInt32).toInt32)) (a := 19) (b := y17.toInt / 2) (by decide) sr (by omega) (by omega)
      exact ⟨_, rfl, N0, rfl, own_ntz_leaf (y := y17.toInt) kk31 hkk hV 18 (by decide) 262144 (by decide) (by omega) (by omega) (by omega) (by rw [rr]; omega)⟩
     · -- pc 64: False
      refine own_st (fun _ => XS.icmpYes X0.here hx rfl (pc0 := 64) (pc' := 74) rfl (hb hby own_d18_64) rfl (flt hc64_16).2.2.2 (by decide) (by decide)) ?_
      show own_Rch _ _ _ _ s₁ (mkF m 74 #[oI y3, oI (17 : Int32)] [])
      refine own_st (fun _ => XS.iloadN X0.here hx rfl (hb hby own_d18_74) rfl) ?_
      show own_Rch _ _ _ _ s₁ (mkF m 75 #[oI y3, oI (17 : Int32)] [(.int (17 : Int32))])
      refine own_st (fun _ => XS.iloadN X0.here hx rfl (hb hby own_d18_75) rfl) ?_
      show own_Rch _ _ _ _ s₁ (mkF m 76 #[oI y3, oI (17 : Int32)] [(.int y3), (.int (17 : Int32))])
      refine own_st (fun _ => XS.iconst X0.here hx rfl (hb hby own_d18_76)) ?_
      show own_Rch _ _ _ _ s₁ (mkF m 77 #[oI y3, oI (17 : Int32)] [(.int (1 : Int32)), (.int y3), (.int (17 : Int32))])
      refine own_st (fun _ => XS.iushr X0.here hx rfl (hb hby own_d18_77) rfl) ?_
      show own_Rch _ _ _ _ s₁ (mkF m 78 #[oI y3, oI (17 : Int32)] [(.int ((y3.toUInt32 >>> ((1 : Int32) &&& 31).toUInt32).toInt32)), (.int (17 : Int32))])
      refine own_st (fun _ => XS.iadd X0.here hx rfl (hb hby own_d18_78) rfl) ?_
      show own_Rch _ _ _ _ s₁ (mkF m 79 #[oI y3, oI (17 : Int32)] [(.int ((17 : Int32) + ((y3.toUInt32 >>> ((1 : Int32) &&& 31).toUInt32).toInt32)))])
      refine own_retI X0 hx Bd.notSynchronized Bd.returns (hb hby own_d18_79) (by decide) (by decide) ?_
      rw [e0]
      rw [Int32.lt_iff_toInt_lt] at hc23_2 hc38_4 hc52_12 hc64_16
      have sr := own_ush (x := y3) (q := (1 : Int32)) (k := 1) (by decide) (by decide) 2 (by decide) py3
      have rr := own_sm (x := (17 : Int32)) (y := ((y3.toUInt32 >>> ((1 : Int32) &&& 31).toUInt32).toInt32)) (a := 17) (b := y3.toInt / 2) (by decide) sr (by omega) (by omega)
      exact ⟨_, rfl, N0, rfl, own_ntz_leaf (y := y3.toInt) kk31 hkk hV 16 (by decide) 65536 (by decide) (by omega) (by omega) (by omega) (by rw [rr]; omega)⟩
  · -- pc 23: False
   refine own_st (fun _ => XS.icmpYes X0.here hx rfl (pc0 := 23) (pc' := 34) rfl (hb hby own_d18_23) rfl (flt hc23_2).2.2.2 (by decide) (by decide)) ?_
   show own_Rch _ _ _ _ s₁ (mkF m 34 #[oI vV, oI (1 : Int32)] [])
   refine own_st (fun _ => XS.iloadN X0.here hx rfl (hb hby own_d18_34) rfl) ?_
   show own_Rch _ _ _ _ s₁ (mkF m 35 #[oI vV, oI (1 : Int32)] [(.int vV)])
   refine own_st (fun _ => XS.sipush X0.here hx rfl (hb hby own_d18_35)) ?_
   show own_Rch _ _ _ _ s₁ (mkF m 38 #[oI vV, oI (1 : Int32)] [(.int (256 : Int32)), (.int vV)])
   by_cases hc38_18 : (256 : Int32) < vV
   · -- pc 38: True
    refine own_st (fun _ => XS.icmpNo X0.here hx rfl (hb hby own_d18_38) rfl (tlt hc38_18).2.2.2) ?_
    show own_Rch _ _ _ _ s₁ (mkF m 41 #[oI vV, oI (1 : Int32)] [])
    refine own_st (fun _ => XS.iinc X0.here hx rfl (hb hby own_d18_41) rfl (l' := #[oI vV, oI (9 : Int32)]) rfl) ?_
    show own_Rch _ _ _ _ s₁ (mkF m 44 #[oI vV, oI (9 : Int32)] [])
    refine own_st (fun _ => XS.iloadN X0.here hx rfl (hb hby own_d18_44) rfl) ?_
    show own_Rch _ _ _ _ s₁ (mkF m 45 #[oI vV, oI (9 : Int32)] [(.int vV)])
    refine own_st (fun _ => XS.bipush X0.here hx rfl (hb hby own_d18_45)) ?_
    show own_Rch _ _ _ _ s₁ (mkF m 47 #[oI vV, oI (9 : Int32)] [(.int (8 : Int32)), (.int vV)])
    refine own_st (fun _ => XS.iushr X0.here hx rfl (hb hby own_d18_47) rfl) ?_
    show own_Rch _ _ _ _ s₁ (mkF m 48 #[oI vV, oI (9 : Int32)] [(.int ((vV.toUInt32 >>> ((8 : Int32) &&& 31).toUInt32).toInt32))])
    refine own_st (fun _ => XS.istoreN X0.here hx rfl (hb hby own_d18_48) rfl (l' := #[oI ((vV.toUInt32 >>> ((8 : Int32) &&& 31).toUInt32).toInt32), oI (9 : Int32)]) rfl) ?_
    have sy19 := own_ush (x := vV) (q := (8 : Int32)) (k := 8) (by decide) (by decide) 256 (by decide) hp0
    have py19 : 0 ≤ (((vV.toUInt32 >>> ((8 : Int32) &&& 31).toUInt32).toInt32)).toInt := by omega
    show own_Rch _ _ _ _ s₁ (mkF m 49 #[oI ((vV.toUInt32 >>> ((8 : Int32) &&& 31).toUInt32).toInt32), oI (9 : Int32)] [])
    generalize ((vV.toUInt32 >>> ((8 : Int32) &&& 31).toUInt32).toInt32) = y19 at sy19 py19 ⊢
    show own_Rch _ _ _ _ s₁ (mkF m 49 #[oI y19, oI (9 : Int32)] [])
    refine own_st (fun _ => XS.iloadN X0.here hx rfl (hb hby own_d18_49) rfl) ?_
    show own_Rch _ _ _ _ s₁ (mkF m 50 #[oI y19, oI (9 : Int32)] [(.int y19)])
    refine own_st (fun _ => XS.bipush X0.here hx rfl (hb hby own_d18_50)) ?_
    show own_Rch _ _ _ _ s₁ (mkF m 52 #[oI y19, oI (9 : Int32)] [(.int (16 : Int32)), (.int y19)])
    by_cases hc52_20 : (16 : Int32) < y19
    · -- pc 52: True
     refine own_st (fun _ => XS.icmpNo X0.here hx rfl (hb hby own_d18_52) rfl (tlt hc52_20).2.2.2) ?_
     show own_Rch _ _ _ _ s₁ (mkF m 55 #[oI y19, oI (9 : Int32)] [])
     refine own_st (fun _ => XS.iinc X0.here hx rfl (hb hby own_d18_55) rfl (l' := #[oI y19, oI (13 : Int32)]) rfl) ?_
     show own_Rch _ _ _ _ s₁ (mkF m 58 #[oI y19, oI (13 : Int32)] [])
     refine own_st (fun _ => XS.iloadN X0.here hx rfl (hb hby own_d18_58) rfl) ?_
     show own_Rch _ _ _ _ s₁ (mkF m 59 #[oI y19, oI (13 : Int32)] [(.int y19)])
     refine own_st (fun _ => XS.iconst X0.here hx rfl (hb hby own_d18_59)) ?_
     show own_Rch _ _ _ _ s₁ (mkF m 60 #[oI y19, oI (13 : Int32)] [(.int (4 : Int32)), (.int y19)])
     refine own_st (fun _ => XS.iushr X0.here hx rfl (hb hby own_d18_60) rfl) ?_
     show own_Rch _ _ _ _ s₁ (mkF m 61 #[oI y19, oI (13 : Int32)] [(.int ((y19.toUInt32 >>> ((4 : Int32) &&& 31).toUInt32).toInt32))])
     refine own_st (fun _ => XS.istoreN X0.here hx rfl (hb hby own_d18_61) rfl (l' := #[oI ((y19.toUInt32 >>> ((4 : Int32) &&& 31).toUInt32).toInt32), oI (13 : Int32)]) rfl) ?_
     have sy21 := own_ush (x := y19) (q := (4 : Int32)) (k := 4) (by decide) (by decide) 16 (by decide) py19
     have py21 : 0 ≤ (((y19.toUInt32 >>> ((4 : Int32) &&& 31).toUInt32).toInt32)).toInt := by omega
     show own_Rch _ _ _ _ s₁ (mkF m 62 #[oI ((y19.toUInt32 >>> ((4 : Int32) &&& 31).toUInt32).toInt32), oI (13 : Int32)] [])
     generalize ((y19.toUInt32 >>> ((4 : Int32) &&& 31).toUInt32).toInt32) = y21 at sy21 py21 ⊢
     show own_Rch _ _ _ _ s₁ (mkF m 62 #[oI y21, oI (13 : Int32)] [])
     refine own_st (fun _ => XS.iloadN X0.here hx rfl (hb hby own_d18_62) rfl) ?_
     show own_Rch _ _ _ _ s₁ (mkF m 63 #[oI y21, oI (13 : Int32)] [(.int y21)])
     refine own_st (fun _ => XS.iconst X0.here hx rfl (hb hby own_d18_63)) ?_
     show own_Rch _ _ _ _ s₁ (mkF m 64 #[oI y21, oI (13 : Int32)] [(.int (4 : Int32)), (.int y21)])
     by_cases hc64_22 : (4 : Int32) < y21
     · -- pc 64: True
      refine own_st (fun _ => XS.icmpNo X0.here hx rfl (hb hby own_d18_64) rfl (tlt hc64_22).2.2.2) ?_
      show own_Rch _ _ _ _ s₁ (mkF m 67 #[oI y21, oI (13 : Int32)] [])
      refine own_st (fun _ => XS.iinc X0.here hx rfl (hb hby own_d18_67) rfl (l' := #[oI y21, oI (15 : Int32)]) rfl) ?_
      show own_Rch _ _ _ _ s₁ (mkF m 70 #[oI y21, oI (15 : Int32)] [])
      refine own_st (fun _ => XS.iloadN X0.here hx rfl (hb hby own_d18_70) rfl) ?_
      show own_Rch _ _ _ _ s₁ (mkF m 71 #[oI y21, oI (15 : Int32)] [(.int y21)])
      refine own_st (fun _ => XS.iconst X0.here hx rfl (hb hby own_d18_71)) ?_
      show own_Rch _ _ _ _ s₁ (mkF m 72 #[oI y21, oI (15 : Int32)] [(.int (2 : Int32)), (.int y21)])
      refine own_st (fun _ => XS.iushr X0.here hx rfl (hb hby own_d18_72) rfl) ?_
      show own_Rch _ _ _ _ s₁ (mkF m 73 #[oI y21, oI (15 : Int32)] [(.int ((y21.toUInt32 >>> ((2 : Int32) &&& 31).toUInt32).toInt32))])
      refine own_st (fun _ => XS.istoreN X0.here hx rfl (hb hby own_d18_73) rfl (l' := #[oI ((y21.toUInt32 >>> ((2 : Int32) &&& 31).toUInt32).toInt32), oI (15 : Int32)]) rfl) ?_
      have sy23 := own_ush (x := y21) (q := (2 : Int32)) (k := 2) (by decide) (by decide) 4 (by decide) py21
      have py23 : 0 ≤ (((y21.toUInt32 >>> ((2 : Int32) &&& 31).toUInt32).toInt32)).toInt := by omega
      show own_Rch _ _ _ _ s₁ (mkF m 74 #[oI ((y21.toUInt32 >>> ((2 : Int32) &&& 31).toUInt32).toInt32), oI (15 : Int32)] [])
      generalize ((y21.toUInt32 >>> ((2 : Int32) &&& 31).toUInt32).toInt32) = y23 at sy23 py23 ⊢
      show own_Rch _ _ _ _ s₁ (mkF m 74 #[oI y23, oI (15 : Int32)] [])
      refine own_st (fun _ => XS.iloadN X0.here hx rfl (hb hby own_d18_74) rfl) ?_
      show own_Rch _ _ _ _ s₁ (mkF m 75 #[oI y23, oI (15 : Int32)] [(.int (15 : Int32))])
      refine own_st (fun _ => XS.iloadN X0.here hx rfl (hb hby own_d18_75) rfl) ?_
      show own_Rch _ _ _ _ s₁ (mkF m 76 #[oI y23, oI (15 : Int32)] [(.int y23), (.int (15 : Int32))])
      refine own_st (fun _ => XS.iconst X0.here hx rfl (hb hby own_d18_76)) ?_
      show own_Rch _ _ _ _ s₁ (mkF m 77 #[oI y23, oI (15 : Int32)] [(.int (1 : Int32)), (.int y23), (.int (15 : Int32))])
      refine own_st (fun _ => XS.iushr X0.here hx rfl (hb hby own_d18_77) rfl) ?_
      show own_Rch _ _ _ _ s₁ (mkF m 78 #[oI y23, oI (15 : Int32)] [(.int ((y23.toUInt32 >>> ((1 : Int32) &&& 31).toUInt32).toInt32)), (.int (15 : Int32))])
      refine own_st (fun _ => XS.iadd X0.here hx rfl (hb hby own_d18_78) rfl) ?_
      show own_Rch _ _ _ _ s₁ (mkF m 79 #[oI y23, oI (15 : Int32)] [(.int ((15 : Int32) + ((y23.toUInt32 >>> ((1 : Int32) &&& 31).toUInt32).toInt32)))])
      refine own_retI X0 hx Bd.notSynchronized Bd.returns (hb hby own_d18_79) (by decide) (by decide) ?_
      rw [e0]
      rw [Int32.lt_iff_toInt_lt] at hc23_2 hc38_18 hc52_20 hc64_22
      have sr := own_ush (x := y23) (q := (1 : Int32)) (k := 1) (by decide) (by decide) 2 (by decide) py23
      have rr := own_sm (x := (15 : Int32)) (y := ((y23.toUInt32 >>> ((1 : Int32) &&& 31).toUInt32).toInt32)) (a := 15) (b := y23.toInt / 2) (by decide) sr (by omega) (by omega)
      exact ⟨_, rfl, N0, rfl, own_ntz_leaf (y := y23.toInt) kk31 hkk hV 14 (by decide) 16384 (by decide) (by omega) (by omega) (by omega) (by rw [rr]; omega)⟩
     · -- pc 64: False
      refine own_st (fun _ => XS.icmpYes X0.here hx rfl (pc0 := 64) (pc' := 74) rfl (hb hby own_d18_64) rfl (flt hc64_22).2.2.2 (by decide) (by decide)) ?_
      show own_Rch _ _ _ _ s₁ (mkF m 74 #[oI y21, oI (13 : Int32)] [])
      refine own_st (fun _ => XS.iloadN X0.here hx rfl (hb hby own_d18_74) rfl) ?_
      show own_Rch _ _ _ _ s₁ (mkF m 75 #[oI y21, oI (13 : Int32)] [(.int (13 : Int32))])
      refine own_st (fun _ => XS.iloadN X0.here hx rfl (hb hby own_d18_75) rfl) ?_
      show own_Rch _ _ _ _ s₁ (mkF m 76 #[oI y21, oI (13 : Int32)] [(.int y21), (.int (13 : Int32))])
      refine own_st (fun _ => XS.iconst X0.here hx rfl (hb hby own_d18_76)) ?_
      show own_Rch _ _ _ _ s₁ (mkF m 77 #[oI y21, oI (13 : Int32)] [(.int (1 : Int32)), (.int y21), (.int (13 : Int32))])
      refine own_st (fun _ => XS.iushr X0.here hx rfl (hb hby own_d18_77) rfl) ?_
      show own_Rch _ _ _ _ s₁ (mkF m 78 #[oI y21, oI (13 : Int32)] [(.int ((y21.toUInt32 >>> ((1 : Int32) &&& 31).toUInt32).toInt32)), (.int (13 : Int32))])
      refine own_st (fun _ => XS.iadd X0.here hx rfl (hb hby own_d18_78) rfl) ?_
      show own_Rch _ _ _ _ s₁ (mkF m 79 #[oI y21, oI (13 : Int32)] [(.int ((13 : Int32) + ((y21.toUInt32 >>> ((1 : Int32) &&& 31).toUInt32).toInt32)))])
      refine own_retI X0 hx Bd.notSynchronized Bd.returns (hb hby own_d18_79) (by decide) (by decide) ?_
      rw [e0]
      rw [Int32.lt_iff_toInt_lt] at hc23_2 hc38_18 hc52_20 hc64_22
      have sr := own_ush (x := y21) (q := (1 : Int32)) (k := 1) (by decide) (by decide) 2 (by decide) py21
      have rr := own_sm (x := (13 : Int32)) (y := ((y21.toUInt32 >>> ((1 : Int32) &&& 31).toUInt32).toInt32)) (a := 13) (b := y21.toInt / 2) (by decide) sr (by omega) (by omega)
      exact ⟨_, rfl, N0, rfl, own_ntz_leaf (y := y21.toInt) kk31 hkk hV 12 (by decide) 4096 (by decide) (by omega) (by omega) (by omega) (by rw [rr]; omega)⟩
    · -- pc 52: False
     refine own_st (fun _ => XS.icmpYes X0.here hx rfl (pc0 := 52) (pc' := 62) rfl (hb hby own_d18_52) rfl (flt hc52_20).2.2.2 (by decide) (by decide)) ?_
     show own_Rch _ _ _ _ s₁ (mkF m 62 #[oI y19, oI (9 : Int32)] [])
     refine own_st (fun _ => XS.iloadN X0.here hx rfl (hb hby own_d18_62) rfl) ?_
     show own_Rch _ _ _ _ s₁ (mkF m 63 #[oI y19, oI (9 : Int32)] [(.int y19)])
     refine own_st (fun _ => XS.iconst X0.here hx rfl (hb hby own_d18_63)) ?_
     show own_Rch _ _ _ _ s₁ (mkF m 64 #[oI y19, oI (9 : Int32)] [(.int (4 : Int32)), (.int y19)])
     by_cases hc64_24 : (4 : Int32) < y19
     · -- pc 64: True
      refine own_st (fun _ => XS.icmpNo X0.here hx rfl (hb hby own_d18_64) rfl (tlt hc64_24).2.2.2) ?_
      show own_Rch _ _ _ _ s₁ (mkF m 67 #[oI y19, oI (9 : Int32)] [])
      refine own_st (fun _ => XS.iinc X0.here hx rfl (hb hby own_d18_67) rfl (l' := #[oI y19, oI (11 : Int32)]) rfl) ?_
      show own_Rch _ _ _ _ s₁ (mkF m 70 #[oI y19, oI (11 : Int32)] [])
      refine own_st (fun _ => XS.iloadN X0.here hx rfl (hb hby own_d18_70) rfl) ?_
      show own_Rch _ _ _ _ s₁ (mkF m 71 #[oI y19, oI (11 : Int32)] [(.int y19)])
      refine own_st (fun _ => XS.iconst X0.here hx rfl (hb hby own_d18_71)) ?_
      show own_Rch _ _ _ _ s₁ (mkF m 72 #[oI y19, oI (11 : Int32)] [(.int (2 : Int32)), (.int y19)])
      refine own_st (fun _ => XS.iushr X0.here hx rfl (hb hby own_d18_72) rfl) ?_
      show own_Rch _ _ _ _ s₁ (mkF m 73 #[oI y19, oI (11 : Int32)] [(.int ((y19.toUInt32 >>> ((2 : Int32) &&& 31).toUInt32).toInt32))])
      refine own_st (fun _ => XS.istoreN X0.here hx rfl (hb hby own_d18_73) rfl (l' := #[oI ((y19.toUInt32 >>> ((2 : Int32) &&& 31).toUInt32).toInt32), oI (11 : Int32)]) rfl) ?_
      have sy25 := own_ush (x := y19) (q := (2 : Int32)) (k := 2) (by decide) (by decide) 4 (by decide) py19
      have py25 : 0 ≤ (((y19.toUInt32 >>> ((2 : Int32) &&& 31).toUInt32).toInt32)).toInt := by omega
      show own_Rch _ _ _ _ s₁ (mkF m 74 #[oI ((y19.toUInt32 >>> ((2 : Int32) &&& 31).toUInt32).toInt32), oI (11 : Int32)] [])
      generalize ((y19.toUInt32 >>> ((2 : Int32) &&& 31).toUInt32).toInt32) = y25 at sy25 py25 ⊢
      show own_Rch _ _ _ _ s₁ (mkF m 74 #[oI y25, oI (11 : Int32)] [])
      refine own_st (fun _ => XS.iloadN X0.here hx rfl (hb hby own_d18_74) rfl) ?_
      show own_Rch _ _ _ _ s₁ (mkF m 75 #[oI y25, oI (11 : Int32)] [(.int (11 : Int32))])
      refine own_st (fun _ => XS.iloadN X0.here hx rfl (hb hby own_d18_75) rfl) ?_
      show own_Rch _ _ _ _ s₁ (mkF m 76 #[oI y25, oI (11 : Int32)] [(.int y25), (.int (11 : Int32))])
      refine own_st (fun _ => XS.iconst X0.here hx rfl (hb hby own_d18_76)) ?_
      show own_Rch _ _ _ _ s₁ (mkF m 77 #[oI y25, oI (11 : Int32)] [(.int (1 : Int32)), (.int y25), (.int (11 : Int32))])
      refine own_st (fun _ => XS.iushr X0.here hx rfl (hb hby own_d18_77) rfl) ?_
      show own_Rch _ _ _ _ s₁ (mkF m 78 #[oI y25, oI (11 : Int32)] [(.int ((y25.toUInt32 >>> ((1 : Int32) &&& 31).toUInt32).toInt32)), (.int (11 : Int32))])
      refine own_st (fun _ => XS.iadd X0.here hx rfl (hb hby own_d18_78) rfl) ?_
      show own_Rch _ _ _ _ s₁ (mkF m 79 #[oI y25, oI (11 : Int32)] [(.int ((11 : Int32) + ((y25.toUInt32 >>> ((1 : Int32) &&& 31).toUInt32).toInt32)))])
      refine own_retI X0 hx Bd.notSynchronized Bd.returns (hb hby own_d18_79) (by decide) (by decide) ?_
      rw [e0]
      rw [Int32.lt_iff_toInt_lt] at hc23_2 hc38_18 hc52_20 hc64_24
      have sr := own_ush (x := y25) (q := (1 : Int32)) (k := 1) (by decide) (by decide) 2 (by decide) py25
      have rr := own_sm (x := (11 : Int32)) (y := ((y25.toUInt32 >>> ((1 : Int32) &&& 31).toUInt32).toInt32)) (a := 11) (b := y25.toInt / 2) (by decide) sr (by omega) (by omega)
      exact ⟨_, rfl, N0, rfl, own_ntz_leaf (y := y25.toInt) kk31 hkk hV 10 (by decide) 1024 (by decide) (by omega) (by omega) (by omega) (by rw [rr]; omega)⟩
     · -- pc 64: False
      refine own_st (fun _ => XS.icmpYes X0.here hx rfl (pc0 := 64) (pc' := 74) rfl (hb hby own_d18_64) rfl (flt hc64_24).2.2.2 (by decide) (by decide)) ?_
      show own_Rch _ _ _ _ s₁ (mkF m 74 #[oI y19, oI (9 : Int32)] [])
      refine own_st (fun _ => XS.iloadN X0.here hx rfl (hb hby own_d18_74) rfl) ?_
      show own_Rch _ _ _ _ s₁ (mkF m 75 #[oI y19, oI (9 : Int32)] [(.int (9 : Int32))])
      refine own_st (fun _ => XS.iloadN X0.here hx rfl (hb hby own_d18_75) rfl) ?_
      show own_Rch _ _ _ _ s₁ (mkF m 76 #[oI y19, oI (9 : Int32)] [(.int y19), (.int (9 : Int32))])
      refine own_st (fun _ => XS.iconst X0.here hx rfl (hb hby own_d18_76)) ?_
      show own_Rch _ _ _ _ s₁ (mkF m 77 #[oI y19, oI (9 : Int32)] [(.int (1 : Int32)), (.int y19), (.int (9 : Int32))])
      refine own_st (fun _ => XS.iushr X0.here hx rfl (hb hby own_d18_77) rfl) ?_
      show own_Rch _ _ _ _ s₁ (mkF m 78 #[oI y19, oI (9 : Int32)] [(.int ((y19.toUInt32 >>> ((1 : Int32) &&& 31).toUInt32).toInt32)), (.int (9 : Int32))])
      refine own_st (fun _ => XS.iadd X0.here hx rfl (hb hby own_d18_78) rfl) ?_
      show own_Rch _ _ _ _ s₁ (mkF m 79 #[oI y19, oI (9 : Int32)] [(.int ((9 : Int32) + ((y19.toUInt32 >>> ((1 : Int32) &&& 31).toUInt32).toInt32)))])
      refine own_retI X0 hx Bd.notSynchronized Bd.returns (hb hby own_d18_79) (by decide) (by decide) ?_
      rw [e0]
      rw [Int32.lt_iff_toInt_lt] at hc23_2 hc38_18 hc52_20 hc64_24
      have sr := own_ush (x := y19) (q := (1 : Int32)) (k := 1) (by decide) (by decide) 2 (by decide) py19
      have rr := own_sm (x := (9 : Int32)) (y := ((y19.toUInt32 >>> ((1 : Int32) &&& 31).toUInt32).toInt32)) (a := 9) (b := y19.toInt / 2) (by decide) sr (by omega) (by omega)
      exact ⟨_, rfl, N0, rfl, own_ntz_leaf (y := y19.toInt) kk31 hkk hV 8 (by decide) 256 (by decide) (by omega) (by omega) (by omega) (by rw [rr]; omega)⟩
   · -- pc 38: False
    refine own_st (fun _ => XS.icmpYes X0.here hx rfl (pc0 := 38) (pc' := 49) rfl (hb hby own_d18_38) rfl (flt hc38_18).2.2.2 (by decide) (by decide)) ?_
    show own_Rch _ _ _ _ s₁ (mkF m 49 #[oI vV, oI (1 : Int32)] [])
    refine own_st (fun _ => XS.iloadN X0.here hx rfl (hb hby own_d18_49) rfl) ?_
    show own_Rch _ _ _ _ s₁ (mkF m 50 #[oI vV, oI (1 : Int32)] [(.int vV)])
    refine own_st (fun _ => XS.bipush X0.here hx rfl (hb hby own_d18_50)) ?_
    show own_Rch _ _ _ _ s₁ (mkF m 52 #[oI vV, oI (1 : Int32)] [(.int (16 : Int32)), (.int vV)])
    by_cases hc52_26 : (16 : Int32) < vV
    · -- pc 52: True
     refine own_st (fun _ => XS.icmpNo X0.here hx rfl (hb hby own_d18_52) rfl (tlt hc52_26).2.2.2) ?_
     show own_Rch _ _ _ _ s₁ (mkF m 55 #[oI vV, oI (1 : Int32)] [])
     refine own_st (fun _ => XS.iinc X0.here hx rfl (hb hby own_d18_55) rfl (l' := #[oI vV, oI (5 : Int32)]) rfl) ?_
     show own_Rch _ _ _ _ s₁ (mkF m 58 #[oI vV, oI (5 : Int32)] [])
     refine own_st (fun _ => XS.iloadN X0.here hx rfl (hb hby own_d18_58) rfl) ?_
     show own_Rch _ _ _ _ s₁ (mkF m 59 #[oI vV, oI (5 : Int32)] [(.int vV)])
     refine own_st (fun _ => XS.iconst X0.here hx rfl (hb hby own_d18_59)) ?_
     show own_Rch _ _ _ _ s₁ (mkF m 60 #[oI vV, oI (5 : Int32)] [(.int (4 : Int32)), (.int vV)])
     refine own_st (fun _ => XS.iushr X0.here hx rfl (hb hby own_d18_60) rfl) ?_
     show own_Rch _ _ _ _ s₁ (mkF m 61 #[oI vV, oI (5 : Int32)] [(.int ((vV.toUInt32 >>> ((4 : Int32) &&& 31).toUInt32).toInt32))])
     refine own_st (fun _ => XS.istoreN X0.here hx rfl (hb hby own_d18_61) rfl (l' := #[oI ((vV.toUInt32 >>> ((4 : Int32) &&& 31).toUInt32).toInt32), oI (5 : Int32)]) rfl) ?_
     have sy27 := own_ush (x := vV) (q := (4 : Int32)) (k := 4) (by decide) (by decide) 16 (by decide) hp0
     have py27 : 0 ≤ (((vV.toUInt32 >>> ((4 : Int32) &&& 31).toUInt32).toInt32)).toInt := by omega
     show own_Rch _ _ _ _ s₁ (mkF m 62 #[oI ((vV.toUInt32 >>> ((4 : Int32) &&& 31).toUInt32).toInt32), oI (5 : Int32)] [])
     generalize ((vV.toUInt32 >>> ((4 : Int32) &&& 31).toUInt32).toInt32) = y27 at sy27 py27 ⊢
     show own_Rch _ _ _ _ s₁ (mkF m 62 #[oI y27, oI (5 : Int32)] [])
     refine own_st (fun _ => XS.iloadN X0.here hx rfl (hb hby own_d18_62) rfl) ?_
     show own_Rch _ _ _ _ s₁ (mkF m 63 #[oI y27, oI (5 : Int32)] [(.int y27)])
     refine own_st (fun _ => XS.iconst X0.here hx rfl (hb hby own_d18_63)) ?_
     show own_Rch _ _ _ _ s₁ (mkF m 64 #[oI y27, oI (5 : Int32)] [(.int (4 : Int32)), (.int y27)])
     by_cases hc64_28 : (4 : Int32) < y27
     · -- pc 64: True
      refine own_st (fun _ => XS.icmpNo X0.here hx rfl (hb hby own_d18_64) rfl (tlt hc64_28).2.2.2) ?_
      show own_Rch _ _ _ _ s₁ (mkF m 67 #[oI y27, oI (5 : Int32)] [])
      refine own_st (fun _ => XS.iinc X0.here hx rfl (hb hby own_d18_67) rfl (l' := #[oI y27, oI (7 : Int32)]) rfl) ?_
      show own_Rch _ _ _ _ s₁ (mkF m 70 #[oI y27, oI (7 : Int32)] [])
      refine own_st (fun _ => XS.iloadN X0.here hx rfl (hb hby own_d18_70) rfl) ?_
      show own_Rch _ _ _ _ s₁ (mkF m 71 #[oI y27, oI (7 : Int32)] [(.int y27)])
      refine own_st (fun _ => XS.iconst X0.here hx rfl (hb hby own_d18_71)) ?_
      show own_Rch _ _ _ _ s₁ (mkF m 72 #[oI y27, oI (7 : Int32)] [(.int (2 : Int32)), (.int y27)])
      refine own_st (fun _ => XS.iushr X0.here hx rfl (hb hby own_d18_72) rfl) ?_
      show own_Rch _ _ _ _ s₁ (mkF m 73 #[oI y27, oI (7 : Int32)] [(.int ((y27.toUInt32 >>> ((2 : Int32) &&& 31).toUInt32).toInt32))])
      refine own_st (fun _ => XS.istoreN X0.here hx rfl (hb hby own_d18_73) rfl (l' := #[oI ((y27.toUInt32 >>> ((2 : Int32) &&& 31).toUInt32).toInt32), oI (7 : Int32)]) rfl) ?_
      have sy29 := own_ush (x := y27) (q := (2 : Int32)) (k := 2) (by decide) (by decide) 4 (by decide) py27
      have py29 : 0 ≤ (((y27.toUInt32 >>> ((2 : Int32) &&& 31).toUInt32).toInt32)).toInt := by omega
      show own_Rch _ _ _ _ s₁ (mkF m 74 #[oI ((y27.toUInt32 >>> ((2 : Int32) &&& 31).toUInt32).toInt32), oI (7 : Int32)] [])
      generalize ((y27.toUInt32 >>> ((2 : Int32) &&& 31).toUInt32).toInt32) = y29 at sy29 py29 ⊢
      show own_Rch _ _ _ _ s₁ (mkF m 74 #[oI y29, oI (7 : Int32)] [])
      refine own_st (fun _ => XS.iloadN X0.here hx rfl (hb hby own_d18_74) rfl) ?_
      show own_Rch _ _ _ _ s₁ (mkF m 75 #[oI y29, oI (7 : Int32)] [(.int (7 : Int32))])
      refine own_st (fun _ => XS.iloadN X0.here hx rfl (hb hby own_d18_75) rfl) ?_
      show own_Rch _ _ _ _ s₁ (mkF m 76 #[oI y29, oI (7 : Int32)] [(.int y29), (.int (7 : Int32))])
      refine own_st (fun _ => XS.iconst X0.here hx rfl (hb hby own_d18_76)) ?_
      show own_Rch _ _ _ _ s₁ (mkF m 77 #[oI y29, oI (7 : Int32)] [(.int (1 : Int32)), (.int y29), (.int (7 : Int32))])
      refine own_st (fun _ => XS.iushr X0.here hx rfl (hb hby own_d18_77) rfl) ?_
      show own_Rch _ _ _ _ s₁ (mkF m 78 #[oI y29, oI (7 : Int32)] [(.int ((y29.toUInt32 >>> ((1 : Int32) &&& 31).toUInt32).toInt32)), (.int (7 : Int32))])
      refine own_st (fun _ => XS.iadd X0.here hx rfl (hb hby own_d18_78) rfl) ?_
      show own_Rch _ _ _ _ s₁ (mkF m 79 #[oI y29, oI (7 : Int32)] [(.int ((7 : Int32) + ((y29.toUInt32 >>> ((1 : Int32) &&& 31).toUInt32).toInt32)))])
      refine own_retI X0 hx Bd.notSynchronized Bd.returns (hb hby own_d18_79) (by decide) (by decide) ?_
      rw [e0]
      rw [Int32.lt_iff_toInt_lt] at hc23_2 hc38_18 hc52_26 hc64_28
      have sr := own_ush (x := y29) (q := (1 : Int32)) (k := 1) (by decide) (by decide) 2 (by decide) py29
      have rr := own_sm (x := (7 : Int32)) (y := ((y29.toUInt32 >>> ((1 : Int32) &&& 31).toUInt32).toInt32)) (a := 7) (b := y29.toInt / 2) (by decide) sr (by omega) (by omega)
      exact ⟨_, rfl, N0, rfl, own_ntz_leaf (y := y29.toInt) kk31 hkk hV 6 (by decide) 64 (by decide) (by omega) (by omega) (by omega) (by rw [rr]; omega)⟩
     · -- pc 64: False
      refine own_st (fun _ => XS.icmpYes X0.here hx rfl (pc0 := 64) (pc' := 74) rfl (hb hby own_d18_64) rfl (flt hc64_28).2.2.2 (by decide) (by decide)) ?_
      show own_Rch _ _ _ _ s₁ (mkF m 74 #[oI y27, oI (5 : Int32)] [])
      refine own_st (fun _ => XS.iloadN X0.here hx rfl (hb hby own_d18_74) rfl) ?_
      show own_Rch _ _ _ _ s₁ (mkF m 75 #[oI y27, oI (5 : Int32)] [(.int (5 : Int32))])
      refine own_st (fun _ => XS.iloadN X0.here hx rfl (hb hby own_d18_75) rfl) ?_
      show own_Rch _ _ _ _ s₁ (mkF m 76 #[oI y27, oI (5 : Int32)] [(.int y27), (.int (5 : Int32))])
      refine own_st (fun _ => XS.iconst X0.here hx rfl (hb hby own_d18_76)) ?_
      show own_Rch _ _ _ _ s₁ (mkF m 77 #[oI y27, oI (5 : Int32)] [(.int (1 : Int32)), (.int y27), (.int (5 : Int32))])
      refine own_st (fun _ => XS.iushr X0.here hx rfl (hb hby own_d18_77) rfl) ?_
      show own_Rch _ _ _ _ s₁ (mkF m 78 #[oI y27, oI (5 : Int32)] [(.int ((y27.toUInt32 >>> ((1 : Int32) &&& 31).toUInt32).toInt32)), (.int (5 : Int32))])
      refine own_st (fun _ => XS.iadd X0.here hx rfl (hb hby own_d18_78) rfl) ?_
      show own_Rch _ _ _ _ s₁ (mkF m 79 #[oI y27, oI (5 : Int32)] [(.int ((5 : Int32) + ((y27.toUInt32 >>> ((1 : Int32) &&& 31).toUInt32).toInt32)))])
      refine own_retI X0 hx Bd.notSynchronized Bd.returns (hb hby own_d18_79) (by decide) (by decide) ?_
      rw [e0]
      rw [Int32.lt_iff_toInt_lt] at hc23_2 hc38_18 hc52_26 hc64_28
      have sr := own_ush (x := y27) (q := (1 : Int32)) (k := 1) (by decide) (by decide) 2 (by decide) py27
      have rr := own_sm (x := (5 : Int32)) (y := ((y27.toUInt32 >>> ((1 : Int32) &&& 31).toUInt32).toInt32)) (a := 5) (b := y27.toInt / 2) (by decide) sr (by omega) (by omega)
      exact ⟨_, rfl, N0, rfl, own_ntz_leaf (y := y27.toInt) kk31 hkk hV 4 (by decide) 16 (by decide) (by omega) (by omega) (by omega) (by rw [rr]; omega)⟩
    · -- pc 52: False
     refine own_st (fun _ => XS.icmpYes X0.here hx rfl (pc0 := 52) (pc' := 62) rfl (hb hby own_d18_52) rfl (flt hc52_26).2.2.2 (by decide) (by decide)) ?_
     show own_Rch _ _ _ _ s₁ (mkF m 62 #[oI vV, oI (1 : Int32)] [])
     refine own_st (fun _ => XS.iloadN X0.here hx rfl (hb hby own_d18_62) rfl) ?_
     show own_Rch _ _ _ _ s₁ (mkF m 63 #[oI vV, oI (1 : Int32)] [(.int vV)])
     refine own_st (fun _ => XS.iconst X0.here hx rfl (hb hby own_d18_63)) ?_
     show own_Rch _ _ _ _ s₁ (mkF m 64 #[oI vV, oI (1 : Int32)] [(.int (4 : Int32)), (.int vV)])
     by_cases hc64_30 : (4 : Int32) < vV
     · -- pc 64: True
      refine own_st (fun _ => XS.icmpNo X0.here hx rfl (hb hby own_d18_64) rfl (tlt hc64_30).2.2.2) ?_
      show own_Rch _ _ _ _ s₁ (mkF m 67 #[oI vV, oI (1 : Int32)] [])
      refine own_st (fun _ => XS.iinc X0.here hx rfl (hb hby own_d18_67) rfl (l' := #[oI vV, oI (3 : Int32)]) rfl) ?_
      show own_Rch _ _ _ _ s₁ (mkF m 70 #[oI vV, oI (3 : Int32)] [])
      refine own_st (fun _ => XS.iloadN X0.here hx rfl (hb hby own_d18_70) rfl) ?_
      show own_Rch _ _ _ _ s₁ (mkF m 71 #[oI vV, oI (3 : Int32)] [(.int vV)])
      refine own_st (fun _ => XS.iconst X0.here hx rfl (hb hby own_d18_71)) ?_
      show own_Rch _ _ _ _ s₁ (mkF m 72 #[oI vV, oI (3 : Int32)] [(.int (2 : Int32)), (.int vV)])
      refine own_st (fun _ => XS.iushr X0.here hx rfl (hb hby own_d18_72) rfl) ?_
      show own_Rch _ _ _ _ s₁ (mkF m 73 #[oI vV, oI (3 : Int32)] [(.int ((vV.toUInt32 >>> ((2 : Int32) &&& 31).toUInt32).toInt32))])
      refine own_st (fun _ => XS.istoreN X0.here hx rfl (hb hby own_d18_73) rfl (l' := #[oI ((vV.toUInt32 >>> ((2 : Int32) &&& 31).toUInt32).toInt32), oI (3 : Int32)]) rfl) ?_
      have sy31 := own_ush (x := vV) (q := (2 : Int32)) (k := 2) (by decide) (by decide) 4 (by decide) hp0
      have py31 : 0 ≤ (((vV.toUInt32 >>> ((2 : Int32) &&& 31).toUInt32).toInt32)).toInt := by omega
      show own_Rch _ _ _ _ s₁ (mkF m 74 #[oI ((vV.toUInt32 >>> ((2 : Int32) &&& 31).toUInt32).toInt32), oI (3 : Int32)] [])
      generalize ((vV.toUInt32 >>> ((2 : Int32) &&& 31).toUInt32).toInt32) = y31 at sy31 py31 ⊢
      show own_Rch _ _ _ _ s₁ (mkF m 74 #[oI y31, oI (3 : Int32)] [])
      refine own_st (fun _ => XS.iloadN X0.here hx rfl (hb hby own_d18_74) rfl) ?_
      show own_Rch _ _ _ _ s₁ (mkF m 75 #[oI y31, oI (3 : Int32)] [(.int (3 : Int32))])
      refine own_st (fun _ => XS.iloadN X0.here hx rfl (hb hby own_d18_75) rfl) ?_
      show own_Rch _ _ _ _ s₁ (mkF m 76 #[oI y31, oI (3 : Int32)] [(.int y31), (.int (3 : Int32))])
      refine own_st (fun _ => XS.iconst X0.here hx rfl (hb hby own_d18_76)) ?_
      show own_Rch _ _ _ _ s₁ (mkF m 77 #[oI y31, oI (3 : Int32)] [(.int (1 : Int32)), (.int y31), (.int (3 : Int32))])
      refine own_st (fun _ => XS.iushr X0.here hx rfl (hb hby own_d18_77) rfl) ?_
      show own_Rch _ _ _ _ s₁ (mkF m 78 #[oI y31, oI (3 : Int32)] [(.int ((y31.toUInt32 >>> ((1 : Int32) &&& 31).toUInt32).toInt32)), (.int (3 : Int32))])
      refine own_st (fun _ => XS.iadd X0.here hx rfl (hb hby own_d18_78) rfl) ?_
      show own_Rch _ _ _ _ s₁ (mkF m 79 #[oI y31, oI (3 : Int32)] [(.int ((3 : Int32) + ((y31.toUInt32 >>> ((1 : Int32) &&& 31).toUInt32).toInt32)))])
      refine own_retI X0 hx Bd.notSynchronized Bd.returns (hb hby own_d18_79) (by decide) (by decide) ?_
      rw [e0]
      rw [Int32.lt_iff_toInt_lt] at hc23_2 hc38_18 hc52_26 hc64_30
      have sr := own_ush (x := y31) (q := (1 : Int32)) (k := 1) (by decide) (by decide) 2 (by decide) py31
      have rr := own_sm (x := (3 : Int32)) (y := ((y31.toUInt32 >>> ((1 : Int32) &&& 31).toUInt32).toInt32)) (a := 3) (b := y31.toInt / 2) (by decide) sr (by omega) (by omega)
      exact ⟨_, rfl, N0, rfl, own_ntz_leaf (y := y31.toInt) kk31 hkk hV 2 (by decide) 4 (by decide) (by omega) (by omega) (by omega) (by rw [rr]; omega)⟩
     · -- pc 64: False
      refine own_st (fun _ => XS.icmpYes X0.here hx rfl (pc0 := 64) (pc' := 74) rfl (hb hby own_d18_64) rfl (flt hc64_30).2.2.2 (by decide) (by decide)) ?_
      show own_Rch _ _ _ _ s₁ (mkF m 74 #[oI vV, oI (1 : Int32)] [])
      refine own_st (fun _ => XS.iloadN X0.here hx rfl (hb hby own_d18_74) rfl) ?_
      show own_Rch _ _ _ _ s₁ (mkF m 75 #[oI vV, oI (1 : Int32)] [(.int (1 : Int32))])
      refine own_st (fun _ => XS.iloadN X0.here hx rfl (hb hby own_d18_75) rfl) ?_
      show own_Rch _ _ _ _ s₁ (mkF m 76 #[oI vV, oI (1 : Int32)] [(.int vV), (.int (1 : Int32))])
      refine own_st (fun _ => XS.iconst X0.here hx rfl (hb hby own_d18_76)) ?_
      show own_Rch _ _ _ _ s₁ (mkF m 77 #[oI vV, oI (1 : Int32)] [(.int (1 : Int32)), (.int vV), (.int (1 : Int32))])
      refine own_st (fun _ => XS.iushr X0.here hx rfl (hb hby own_d18_77) rfl) ?_
      show own_Rch _ _ _ _ s₁ (mkF m 78 #[oI vV, oI (1 : Int32)] [(.int ((vV.toUInt32 >>> ((1 : Int32) &&& 31).toUInt32).toInt32)), (.int (1 : Int32))])
      refine own_st (fun _ => XS.iadd X0.here hx rfl (hb hby own_d18_78) rfl) ?_
      show own_Rch _ _ _ _ s₁ (mkF m 79 #[oI vV, oI (1 : Int32)] [(.int ((1 : Int32) + ((vV.toUInt32 >>> ((1 : Int32) &&& 31).toUInt32).toInt32)))])
      refine own_retI X0 hx Bd.notSynchronized Bd.returns (hb hby own_d18_79) (by decide) (by decide) ?_
      rw [e0]
      rw [Int32.lt_iff_toInt_lt] at hc23_2 hc38_18 hc52_26 hc64_30
      have sr := own_ush (x := vV) (q := (1 : Int32)) (k := 1) (by decide) (by decide) 2 (by decide) hp0
      have rr := own_sm (x := (1 : Int32)) (y := ((vV.toUInt32 >>> ((1 : Int32) &&& 31).toUInt32).toInt32)) (a := 1) (b := vV.toInt / 2) (by decide) sr (by omega) (by omega)
      exact ⟨_, rfl, N0, rfl, own_ntz_leaf (y := vV.toInt) kk31 hkk hV 0 (by decide) 1 (by decide) (by omega) (by omega) (by omega) (by rw [rr]; omega)⟩
 · -- pc 9: False
  refine own_st (fun _ => XS.ifNo X0.here hx rfl (hb hby own_d18_9) rfl ((if0 _ _).trans (flt hc9_1).2.2.1)) ?_
  show own_Rch _ _ _ _ s₁ (mkF m 12 #[oI vV, .unset] [])
  refine own_st (fun _ => XS.iloadN X0.here hx rfl (hb hby own_d18_12) rfl) ?_
  show own_Rch _ _ _ _ s₁ (mkF m 13 #[oI vV, .unset] [(.int vV)])
  refine own_st (fun _ => XS.bipush X0.here hx rfl (hb hby own_d18_13)) ?_
  show own_Rch _ _ _ _ s₁ (mkF m 15 #[oI vV, .unset] [(.int (32 : Int32)), (.int vV)])
  refine own_st (fun _ => XS.iand X0.here hx rfl (hb hby own_d18_15) rfl) ?_
  show own_Rch _ _ _ _ s₁ (mkF m 16 #[oI vV, .unset] [(.int (vV &&& (32 : Int32)))])
  refine own_retI X0 hx Bd.notSynchronized Bd.returns (hb hby own_d18_16) (by decide) (by decide) ?_
  rw [e0]
  exact ⟨_, rfl, N0, rfl, own_ntz_zero kk31 hkk hV hc9_1⟩
theorem own_ef17 (m : MethodId) (x0 : Int64) : entryFrame m #[(.long x0)] 3 = mkF m 0 #[.val (.long x0), .second, .unset] [] := by first | (simp [entryFrame, mkF, argsToLocals, Value.category]; done) | rfl
theorem own_d17_0 : decode jdk_35_method_49_code 0 = .ok (.lload_n 0, 1) := by decide +kernel
theorem own_d17_1 : decode jdk_35_method_49_code 1 = .ok (.l2i, 1) := by decide +kernel
theorem own_d17_2 : decode jdk_35_method_49_code 2 = .ok (.istore_n 2, 1) := by decide +kernel
theorem own_d17_3 : decode jdk_35_method_49_code 3 = .ok (.iload_n 2, 1) := by decide +kernel
theorem own_d17_4 : decode jdk_35_method_49_code 4 = .ok (.ifCond .ne 17, 3) := by decide +kernel
theorem own_d17_7 : decode jdk_35_method_49_code 7 = .ok (.bipush 32, 2) := by decide +kernel
theorem own_d17_9 : decode jdk_35_method_49_code 9 = .ok (.lload_n 0, 1) := by decide +kernel
theorem own_d17_10 : decode jdk_35_method_49_code 10 = .ok (.bipush 32, 2) := by decide +kernel
theorem own_d17_12 : decode jdk_35_method_49_code 12 = .ok (.lushr, 1) := by decide +kernel
theorem own_d17_13 : decode jdk_35_method_49_code 13 = .ok (.l2i, 1) := by decide +kernel
theorem own_d17_14 : decode jdk_35_method_49_code 14 = .ok (.invokestatic 311, 3) := by decide +kernel
theorem own_d17_17 : decode jdk_35_method_49_code 17 = .ok (.iadd, 1) := by decide +kernel
theorem own_d17_18 : decode jdk_35_method_49_code 18 = .ok (.goto 7, 3) := by decide +kernel
theorem own_d17_25 : decode jdk_35_method_49_code 25 = .ok (.ireturn, 1) := by decide +kernel
theorem own_d17_21 : decode jdk_35_method_49_code 21 = .ok (.iload_n 2, 1) := by decide +kernel
theorem own_d17_22 : decode jdk_35_method_49_code 22 = .ok (.invokestatic 311, 3) := by decide +kernel
def own_Q_own_ntzL (Z : State) (x : Int64) (h0 : Heap) (n0 : Nat) (v : Option Value) (h : Heap) (L : List Loc) : Prop := ∃ r : Int32, v = some (.int r) ∧ Fr n0 L ∧ h = h0 ∧ own_ntz64 x r
set_option maxRecDepth 65536 in
set_option maxHeartbeats 40000000 in
theorem own_ntzL (l : Launch) (Z : State) (a0 : Array Value) (hw : ∀ d ∈ tables_1, d.before a0 Z = true) (ws : List Jvm.Cond) (x : Int64) (h0 : Heap) (n0 : Nat) (O0 : Old Z n0 h0) (hxz : ¬ x = 0) :
    MetFree l (⟨"java/lang/Long", "numberOfTrailingZeros", "(J)I"⟩ : MethodName) (head1 (Jvm.Cond.code (⟨"java/lang/Long", "numberOfTrailingZeros", "(J)I"⟩ : MethodName) jdk_35_method_49_code 3 (some .int) :: ws) ({ frames := 1, cells := 0, slots := 0, locals := 14 } : Room)) (fun args_ U => args_ = #[(.long x)] ∧ Z.Warmed39 U.vm ∧ U.heap = h0) (fun _ _ _ _ _ => True) (fun _ U o U' => ∃ v L, o = .returned v ∧ (own_Q_own_ntzL Z x h0 n0) v U'.heap L ∧ FrameEnd U o U' L ({ frames := 1, cells := 0, slots := 0, locals := 14 } : Room).cells ({ frames := 1, cells := 0, slots := 0, locals := 14 } : Room).slots) := by
 refine MetFree.of_bodySF (plainFor_of_name own_pn2) hisR ?_
 intro p e s m args below meth c s₁ Bd hml0 hP hK
 obtain ⟨rfl, hZ, hh⟩ := hP
 have hx := Bd.exec
 have hby := Bd.bytes
 have hml : c.maxLocals = 3 := hml0
 have hown : s.vm.findClass "java/lang/Long" = some m.cls := findClass_of_methodNamed Bd.named
 have hnm := (name_of_methodNamed Bd.named Bd.method).1
 have X0 : Stand p l e ({ frames := 1, cells := 0, slots := 0, locals := 14 } : Room) s m #[(.long x)] below meth c s₁ [] 0 0 := Stand.of_body Bd
 have e0 : s₁.heap = h0 := by rw [← hh, Bd.state]; rfl
 have N0 := Fr.nil n0
 refine own_close (s := s) (Q := (own_Q_own_ntzL Z x h0 n0)) (C := (({ frames := 1, cells := 0, slots := 0, locals := 14 } : Room)).cells) (N := (({ frames := 1, cells := 0, slots := 0, locals := 14 } : Room)).slots) (own_st (fun _ kt => castTop (own_ef17 m x) kt) ?_)
 show own_Rch _ _ _ _ s₁ (mkF m 0 #[oL x, .second, .unset] [])
 refine own_st (fun _ => XS.lloadN X0.here hx rfl (hb hby own_d17_0) rfl) ?_
 show own_Rch _ _ _ _ s₁ (mkF m 1 #[oL x, .second, .unset] [(.long x)])
 refine own_st (fun _ => XS.l2i X0.here hx rfl (hb hby own_d17_1) rfl) ?_
 show own_Rch _ _ _ _ s₁ (mkF m 2 #[oL x, .second, .unset] [(.int (x.toInt32))])
 refine own_st (fun _ => XS.istoreN X0.here hx rfl (hb hby own_d17_2) rfl (l' := #[oL x, .second, oI (x.toInt32)]) rfl) ?_
 show own_Rch _ _ _ _ s₁ (mkF m 3 #[oL x, .second, oI (x.toInt32)] [])
 refine own_st (fun _ => XS.iloadN X0.here hx rfl (hb hby own_d17_3) rfl) ?_
 show own_Rch _ _ _ _ s₁ (mkF m 4 #[oL x, .second, oI (x.toInt32)] [(.int (x.toInt32))])
 by_cases hc4_1 : (x.toInt32) = (0 : Int32)
 · -- pc 4: True
  refine own_st (fun _ => XS.ifNo X0.here hx rfl (hb hby own_d17_4) rfl ((if0 _ _).trans (teq hc4_1).2)) ?_
  show own_Rch _ _ _ _ s₁ (mkF m 7 #[oL x, .second, oI (x.toInt32)] [])
  refine own_st (fun _ => XS.bipush X0.here hx rfl (hb hby own_d17_7)) ?_
  show own_Rch _ _ _ _ s₁ (mkF m 9 #[oL x, .second, oI (x.toInt32)] [(.int (32 : Int32))])
  refine own_st (fun _ => XS.lloadN X0.here hx rfl (hb hby own_d17_9) rfl) ?_
  show own_Rch _ _ _ _ s₁ (mkF m 10 #[oL x, .second, oI (x.toInt32)] [(.long x), (.int (32 : Int32))])
  refine own_st (fun _ => XS.bipush X0.here hx rfl (hb hby own_d17_10)) ?_
  show own_Rch _ _ _ _ s₁ (mkF m 12 #[oL x, .second, oI (x.toInt32)] [(.int (32 : Int32)), (.long x), (.int (32 : Int32))])
  refine own_st (fun _ => XS.lushr X0.here hx rfl (hb hby own_d17_12) rfl) ?_
  show own_Rch _ _ _ _ s₁ (mkF m 13 #[oL x, .second, oI (x.toInt32)] [(.long ((x.toUInt64 >>> ((32 : Int32) &&& 0x3f).toInt64.toUInt64).toInt64)), (.int (32 : Int32))])
  refine own_st (fun _ => XS.l2i X0.here hx rfl (hb hby own_d17_13) rfl) ?_
  show own_Rch _ _ _ _ s₁ (mkF m 14 #[oL x, .second, oI (x.toInt32)] [(.int (((x.toUInt64 >>> ((32 : Int32) &&& 0x3f).toInt64.toUInt64).toInt64).toInt32)), (.int (32 : Int32))])
  obtain ⟨_, _, ⟨T2, L2, k2, n2⟩, -, X2, ⟨Lc2, hQ2, l2, y2, z2⟩, st2⟩ := Jvm.LawKit.callS X0 hx (y := (⟨"java/lang/Integer", "numberOfTrailingZeros", "(I)I"⟩ : MethodName)) hown (mvT hZ (hw _ (own_m 90 rfl))) (mvT hZ (hw _ (own_m 91 rfl))) (mvT hZ (hw _ (own_m 79 rfl))) (mvT hZ (hw _ (own_m 92 rfl))) (by decide) (backOf (W := 1) (own_ntzI l Z a0 hw [] (((x.toUInt64 >>> ((32 : Int32) &&& 0x3f).toInt64.toUInt64).toInt64).toInt32) h0 n0 O0 (own_hi_ne hxz hc4_1)) hZ (hw _ (own_m 92 rfl)) (hw _ (own_m 79 rfl)) (by decide) (by decide)) (g := (mkF m 14 #[oL x, .second, oI (x.toInt32)] [(.int (((x.toUInt64 >>> ((32 : Int32) &&& 0x3f).toInt64.toUInt64).toInt64).toInt32)), (.int (32 : Int32))])) rfl (by rw [hml]; rfl) (argsL := [(.int (((x.toUInt64 >>> ((32 : Int32) &&& 0x3f).toInt64.toUInt64).toInt64).toInt32))]) (rest := [(.int (32 : Int32))]) (lenOf own_pd0 rfl) rfl (by show 2 * 0 + _ ≤ _; exact Nat.le_of_eq rfl) (hb hby own_d17_14) (fun _ _ => ⟨rfl, e0, (by decide : 0 + 0 ≤ _), (by decide : 0 + 0 ≤ _)⟩)
  dsimp only [Pt.U, Pt.locs, Pt.cells, Pt.slots] at X2 l2 y2 z2 st2 hQ2
  subst l2 y2 z2
  obtain ⟨rr2, rfl, N2q, hh2, hn2⟩ := hQ2
  have N2 := Fr.app N0 N2q
  refine own_st st2 ?_
  show own_Rch _ _ _ _ T2 (mkF m 17 #[oL x, .second, oI (x.toInt32)] [(.int rr2), (.int (32 : Int32))])
  refine own_st (fun _ => XS.iadd X2.here hx rfl (hb hby own_d17_17) rfl) ?_
  show own_Rch _ _ _ _ T2 (mkF m 18 #[oL x, .second, oI (x.toInt32)] [(.int ((32 : Int32) + rr2))])
  refine own_st (fun _ => XS.goto X2.here hx rfl (pc0 := 18) (pc' := 25) rfl (hb hby own_d17_18) (by decide) (by decide)) ?_
  show own_Rch _ _ _ _ T2 (mkF m 25 #[oL x, .second, oI (x.toInt32)] [(.int ((32 : Int32) + rr2))])
  refine own_retI X2 hx Bd.notSynchronized Bd.returns (hb hby own_d17_25) (by decide) (by decide) ?_
  rw [hh2]
  exact ⟨_, rfl, N2, rfl, own_ntz_hi hc4_1 hn2⟩
 · -- pc 4: False
  refine own_st (fun _ => XS.ifYes X0.here hx rfl (pc0 := 4) (pc' := 21) rfl (hb hby own_d17_4) rfl ((if0 _ _).trans (feq hc4_1).2) (by decide) (by decide)) ?_
  show own_Rch _ _ _ _ s₁ (mkF m 21 #[oL x, .second, oI (x.toInt32)] [])
  refine own_st (fun _ => XS.iloadN X0.here hx rfl (hb hby own_d17_21) rfl) ?_
  show own_Rch _ _ _ _ s₁ (mkF m 22 #[oL x, .second, oI (x.toInt32)] [(.int (x.toInt32))])
  obtain ⟨_, _, ⟨T3, L3, k3, n3⟩, -, X3, ⟨Lc3, hQ3, l3, y3, z3⟩, st3⟩ := Jvm.LawKit.callS X0 hx (y := (⟨"java/lang/Integer", "numberOfTrailingZeros", "(I)I"⟩ : MethodName)) hown (mvT hZ (hw _ (own_m 90 rfl))) (mvT hZ (hw _ (own_m 91 rfl))) (mvT hZ (hw _ (own_m 79 rfl))) (mvT hZ (hw _ (own_m 92 rfl))) (by decide) (backOf (W := 0) (own_ntzI l Z a0 hw [] (x.toInt32) h0 n0 O0 hc4_1) hZ (hw _ (own_m 92 rfl)) (hw _ (own_m 79 rfl)) (by decide) (by decide)) (g := (mkF m 22 #[oL x, .second, oI (x.toInt32)] [(.int (x.toInt32))])) rfl (by rw [hml]; rfl) (argsL := [(.int (x.toInt32))]) (rest := []) (lenOf own_pd0 rfl) rfl (by show 2 * 0 + _ ≤ _; exact Nat.le_of_eq rfl) (hb hby own_d17_22) (fun _ _ => ⟨rfl, e0, (by decide : 0 + 0 ≤ _), (by decide : 0 + 0 ≤ _)⟩)
  dsimp only [Pt.U, Pt.locs, Pt.cells, Pt.slots] at X3 l3 y3 z3 st3 hQ3
  subst l3 y3 z3
  obtain ⟨rr3, rfl, N3q, hh3, hn3⟩ := hQ3
  have N3 := Fr.app N0 N3q
  refine own_st st3 ?_
  show own_Rch _ _ _ _ T3 (mkF m 25 #[oL x, .second, oI (x.toInt32)] [(.int rr3)])
  refine own_retI X3 hx Bd.notSynchronized Bd.returns (hb hby own_d17_25) (by decide) (by decide) ?_
  rw [hh3]
  exact ⟨_, rfl, N3, rfl, own_ntz_lo hn3⟩
def own_St (Z : State) (h : Heap) (b y : Addr) (ka : ClassId) (wa wb wc wd : Int64) (nn : Int32) : Prop := Exa Z h b "java/util/BitSet" ∧ Fld Z h b "java/util/BitSet" "words" "[J" (.ref y) ∧ Fld Z h b "java/util/BitSet" "wordsInUse" "I" (.int nn) ∧ Arv Z h y ka .long (5 : Int32) [(.long wa), (.long wb), (.long wc), (.long wd), (.long (0 : Int64))] (.long (0 : Int64)) ∧ own_Wd (own_w wa wb wc wd) nn.toInt
def own_Q_i (P : Int32 → Prop) (h0 : Heap) (n0 : Nat) (v : Option Value) (h : Heap) (L : List Loc) : Prop := ∃ r : Int32, v = some (.int r) ∧ Fr n0 L ∧ h = h0 ∧ P r
theorem own_ef11 (m : MethodId) (x0 : Addr) : entryFrame m #[(.ref x0)] 1 = mkF m 0 #[.val (.ref x0)] [] := by first | (simp [entryFrame, mkF, argsToLocals, Value.category]; done) | rfl
theorem own_d11_0 : decode jdk_92_method_2_code 0 = .ok (.getstatic 3, 3) := by decide +kernel
theorem own_d11_3 : decode jdk_92_method_2_code 3 = .ok (.ifCond .ne 34, 3) := by decide +kernel
theorem own_d11_37 : decode jdk_92_method_2_code 37 = .ok (.getstatic 3, 3) := by decide +kernel
theorem own_d11_40 : decode jdk_92_method_2_code 40 = .ok (.ifCond .ne 30, 3) := by decide +kernel
theorem own_d11_70 : decode jdk_92_method_2_code 70 = .ok (.getstatic 3, 3) := by decide +kernel
theorem own_d11_73 : decode jdk_92_method_2_code 73 = .ok (.ifCond .ne 37, 3) := by decide +kernel
theorem own_d11_110 : decode jdk_92_method_2_code 110 = .ok (.return_, 1) := by decide +kernel
def own_Q_own_ci (Z : State) (b : Addr) (h0 : Heap) (n0 : Nat) (v : Option Value) (h : Heap) (L : List Loc) : Prop := v = none ∧ Fr n0 L ∧ h = h0
set_option maxRecDepth 65536 in
set_option maxHeartbeats 40000000 in
theorem own_ci (l : Launch) (Z : State) (a0 : Array Value) (hw : ∀ d ∈ tables_1, d.before a0 Z = true) (ws : List Jvm.Cond) (b : Addr) (h0 : Heap) (n0 : Nat) (O0 : Old Z n0 h0) (SA : Sta Z Z.heap "java/util/BitSet" "$assertionsDisabled" "Z" (.int (1 : Int32))) :
    MetFree l (⟨"java/util/BitSet", "checkInvariants", "()V"⟩ : MethodName) (head1 (Jvm.Cond.code (⟨"java/util/BitSet", "checkInvariants", "()V"⟩ : MethodName) jdk_92_method_2_code 1 none :: ws) ({ frames := 0, cells := 0, slots := 0, locals := 0 } : Room)) (fun args_ U => args_ = #[(.ref b)] ∧ Z.Warmed39 U.vm ∧ U.heap = h0) (fun _ _ _ _ _ => True) (fun _ U o U' => ∃ v L, o = .returned v ∧ (own_Q_own_ci Z b h0 n0) v U'.heap L ∧ FrameEnd U o U' L ({ frames := 0, cells := 0, slots := 0, locals := 0 } : Room).cells ({ frames := 0, cells := 0, slots := 0, locals := 0 } : Room).slots) := by
 refine MetFree.of_bodySF (plainFor_of_name own_pn0) hisR ?_
 intro p e s m args below meth c s₁ Bd hml0 hP hK
 obtain ⟨rfl, hZ, hh⟩ := hP
 have hx := Bd.exec
 have hby := Bd.bytes
 have hml : c.maxLocals = 1 := hml0
 have hown : s.vm.findClass "java/util/BitSet" = some m.cls := findClass_of_methodNamed Bd.named
 have hnm := (name_of_methodNamed Bd.named Bd.method).1
 have X0 : Stand p l e ({ frames := 0, cells := 0, slots := 0, locals := 0 } : Room) s m #[(.ref b)] below meth c s₁ [] 0 0 := Stand.of_body Bd
 have e0 : s₁.heap = h0 := by rw [← hh, Bd.state]; rfl
 have N0 := Fr.nil n0
 refine own_close (s := s) (Q := (own_Q_own_ci Z b h0 n0)) (C := (({ frames := 0, cells := 0, slots := 0, locals := 0 } : Room)).cells) (N := (({ frames := 0, cells := 0, slots := 0, locals := 0 } : Room)).slots) (own_st (fun _ kt => castTop (own_ef11 m b) kt) ?_)
 show own_Rch _ _ _ _ s₁ (mkF m 0 #[oR b] [])
 obtain ⟨T1, X1, e1, st1⟩ := getS2 X0 hx hZ hown (host := "") (Or.inl (hw _ (own_m 62 rfl))) Via.refl e0 (SA.ext O0.2) (g := (mkF m 0 #[oR b] [])) rfl (hb hby own_d11_0)
 refine own_st st1 ?_
 show own_Rch _ _ _ _ T1 (mkF m 3 #[oR b] [(.int (1 : Int32))])
 refine own_st (fun _ => XS.ifYes X1.here hx rfl (pc0 := 3) (pc' := 37) rfl (hb hby own_d11_3) rfl ((if0 _ _).trans (feq ((by decide) : ¬ ((1 : Int32) = (0 : Int32)))).2) (by decide) (by decide)) ?_
 show own_Rch _ _ _ _ T1 (mkF m 37 #[oR b] [])
 obtain ⟨T2, X2, e2, st2⟩ := getS2 X1 hx hZ hown (host := "") (Or.inl (hw _ (own_m 62 rfl))) Via.refl e1 (SA.ext O0.2) (g := (mkF m 37 #[oR b] [])) rfl (hb hby own_d11_37)
 refine own_st st2 ?_
 show own_Rch _ _ _ _ T2 (mkF m 40 #[oR b] [(.int (1 : Int32))])
 refine own_st (fun _ => XS.ifYes X2.here hx rfl (pc0 := 40) (pc' := 70) rfl (hb hby own_d11_40) rfl ((if0 _ _).trans (feq ((by decide) : ¬ ((1 : Int32) = (0 : Int32)))).2) (by decide) (by decide)) ?_
 show own_Rch _ _ _ _ T2 (mkF m 70 #[oR b] [])
 obtain ⟨T3, X3, e3, st3⟩ := getS2 X2 hx hZ hown (host := "") (Or.inl (hw _ (own_m 62 rfl))) Via.refl e2 (SA.ext O0.2) (g := (mkF m 70 #[oR b] [])) rfl (hb hby own_d11_70)
 refine own_st st3 ?_
 show own_Rch _ _ _ _ T3 (mkF m 73 #[oR b] [(.int (1 : Int32))])
 refine own_st (fun _ => XS.ifYes X3.here hx rfl (pc0 := 73) (pc' := 110) rfl (hb hby own_d11_73) rfl ((if0 _ _).trans (feq ((by decide) : ¬ ((1 : Int32) = (0 : Int32)))).2) (by decide) (by decide)) ?_
 show own_Rch _ _ _ _ T3 (mkF m 110 #[oR b] [])
 refine own_retV X3 hx Bd.notSynchronized Bd.returns (hb hby own_d11_110) (by decide) (by decide) ?_
 rw [e3]
 exact ⟨rfl, N0, rfl⟩
theorem own_ef20 (m : MethodId) (x0 : Addr) : entryFrame m #[(.ref x0)] 1 = mkF m 0 #[.val (.ref x0)] [] := by first | (simp [entryFrame, mkF, argsToLocals, Value.category]; done) | rfl
theorem own_d20_0 : decode jdk_92_method_32_code 0 = .ok (.aload_n 0, 1) := by decide +kernel
theorem own_d20_1 : decode jdk_92_method_32_code 1 = .ok (.getfield 7, 3) := by decide +kernel
theorem own_d20_4 : decode jdk_92_method_32_code 4 = .ok (.ifCond .ne 5, 3) := by decide +kernel
theorem own_d20_7 : decode jdk_92_method_32_code 7 = .ok (.iconst 0, 1) := by decide +kernel
theorem own_d20_8 : decode jdk_92_method_32_code 8 = .ok (.ireturn, 1) := by decide +kernel
set_option maxRecDepth 65536 in
set_option maxHeartbeats 40000000 in
theorem own_len0 (l : Launch) (Z : State) (a0 : Array Value) (hw : ∀ d ∈ tables_1, d.before a0 Z = true) (ws : List Jvm.Cond) (b : Addr) (y : Addr) (ka : ClassId) (wa : Int64) (wb : Int64) (wc : Int64) (wd : Int64) (h0 : Heap) (n0 : Nat) (O0 : Old Z n0 h0) (SS : own_St Z h0 b y ka wa wb wc wd (0 : Int32)) :
    MetFree l (⟨"java/util/BitSet", "length", "()I"⟩ : MethodName) (head1 (Jvm.Cond.code (⟨"java/util/BitSet", "length", "()I"⟩ : MethodName) jdk_92_method_32_code 1 (some .int) :: ws) ({ frames := 2, cells := 0, slots := 0, locals := 60 } : Room)) (fun args_ U => args_ = #[(.ref b)] ∧ Z.Warmed39 U.vm ∧ U.heap = h0) (fun _ _ _ _ _ => True) (fun _ U o U' => ∃ v L, o = .returned v ∧ (own_Q_i (fun r => own_topP (own_w wa wb wc wd) r.toInt) h0 n0) v U'.heap L ∧ FrameEnd U o U' L ({ frames := 2, cells := 0, slots := 0, locals := 60 } : Room).cells ({ frames := 2, cells := 0, slots := 0, locals := 60 } : Room).slots) := by
 refine MetFree.of_bodySF (plainFor_of_name own_pn0) hisR ?_
 intro p e s m args below meth c s₁ Bd hml0 hP hK
 obtain ⟨rfl, hZ, hh⟩ := hP
 have hx := Bd.exec
 have hby := Bd.bytes
 have hml : c.maxLocals = 1 := hml0
 have hown : s.vm.findClass "java/util/BitSet" = some m.cls := findClass_of_methodNamed Bd.named
 have hnm := (name_of_methodNamed Bd.named Bd.method).1
 have X0 : Stand p l e ({ frames := 2, cells := 0, slots := 0, locals := 60 } : Room) s m #[(.ref b)] below meth c s₁ [] 0 0 := Stand.of_body Bd
 have e0 : s₁.heap = h0 := by rw [← hh, Bd.state]; rfl
 have N0 := Fr.nil n0
 obtain ⟨Eb, Fw, Fn, Va, hW⟩ := SS
 have ci0 : (0 : Int32).toInt = 0 := by decide
 have ci1 : (1 : Int32).toInt = 1 := by decide
 have ci2 : (2 : Int32).toInt = 2 := by decide
 have ci3 : (3 : Int32).toInt = 3 := by decide
 have ci4 : (4 : Int32).toInt = 4 := by decide
 have ci16 : (16 : Int32).toInt = 16 := by decide
 have ci256 : (256 : Int32).toInt = 256 := by decide
 have ci65536 : (65536 : Int32).toInt = 65536 := by decide
 refine own_close (s := s) (Q := (own_Q_i (fun r => own_topP (own_w wa wb wc wd) r.toInt) h0 n0)) (C := (({ frames := 2, cells := 0, slots := 0, locals := 60 } : Room)).cells) (N := (({ frames := 2, cells := 0, slots := 0, locals := 60 } : Room)).slots) (own_st (fun _ kt => castTop (own_ef20 m b) kt) ?_)
 show own_Rch _ _ _ _ s₁ (mkF m 0 #[oR b] [])
 refine own_st (fun _ => XS.aloadN X0.here hx rfl (hb hby own_d20_0) rfl rfl) ?_
 show own_Rch _ _ _ _ s₁ (mkF m 1 #[oR b] [(.ref b)])
 obtain ⟨T1, X1, e1, st1⟩ := getF X0 hx hZ hown (host := "") (Or.inl (hw _ (own_m 16 rfl))) Via.refl e0 Fn (g := (mkF m 1 #[oR b] [(.ref b)])) rfl rfl (hb hby own_d20_1)
 refine own_st st1 ?_
 show own_Rch _ _ _ _ T1 (mkF m 4 #[oR b] [(.int (0 : Int32))])
 refine own_st (fun _ => XS.ifNo X1.here hx rfl (hb hby own_d20_4) rfl ((if0 _ _).trans (teq (rfl : (0 : Int32) = (0 : Int32))).2)) ?_
 show own_Rch _ _ _ _ T1 (mkF m 7 #[oR b] [])
 refine own_st (fun _ => XS.iconst X1.here hx rfl (hb hby own_d20_7)) ?_
 show own_Rch _ _ _ _ T1 (mkF m 8 #[oR b] [(.int (0 : Int32))])
 refine own_retI X1 hx Bd.notSynchronized Bd.returns (hb hby own_d20_8) (by decide) (by decide) ?_
 rw [e1]
 exact ⟨_, rfl, N0, rfl, Or.inl ⟨by decide, fun j => hW.2.1 j (by rw [ci0]; omega)⟩⟩
theorem own_d20_9 : decode jdk_92_method_32_code 9 = .ok (.bipush 64, 2) := by decide +kernel
theorem own_d20_11 : decode jdk_92_method_32_code 11 = .ok (.aload_n 0, 1) := by decide +kernel
theorem own_d20_12 : decode jdk_92_method_32_code 12 = .ok (.getfield 7, 3) := by decide +kernel
theorem own_d20_15 : decode jdk_92_method_32_code 15 = .ok (.iconst 1, 1) := by decide +kernel
theorem own_d20_16 : decode jdk_92_method_32_code 16 = .ok (.isub, 1) := by decide +kernel
theorem own_d20_17 : decode jdk_92_method_32_code 17 = .ok (.imul, 1) := by decide +kernel
theorem own_d20_18 : decode jdk_92_method_32_code 18 = .ok (.bipush 64, 2) := by decide +kernel
theorem own_d20_20 : decode jdk_92_method_32_code 20 = .ok (.aload_n 0, 1) := by decide +kernel
theorem own_d20_21 : decode jdk_92_method_32_code 21 = .ok (.getfield 11, 3) := by decide +kernel
theorem own_d20_24 : decode jdk_92_method_32_code 24 = .ok (.aload_n 0, 1) := by decide +kernel
theorem own_d20_25 : decode jdk_92_method_32_code 25 = .ok (.getfield 7, 3) := by decide +kernel
theorem own_d20_28 : decode jdk_92_method_32_code 28 = .ok (.iconst 1, 1) := by decide +kernel
theorem own_d20_29 : decode jdk_92_method_32_code 29 = .ok (.isub, 1) := by decide +kernel
theorem own_d20_30 : decode jdk_92_method_32_code 30 = .ok (.laload, 1) := by decide +kernel
theorem own_d20_31 : decode jdk_92_method_32_code 31 = .ok (.invokestatic 190, 3) := by decide +kernel
theorem own_pd1 : parseMethodDescriptor "(J)I" = some ⟨[.long], some .int⟩ := by decide +kernel
theorem own_d20_34 : decode jdk_92_method_32_code 34 = .ok (.isub, 1) := by decide +kernel
theorem own_d20_35 : decode jdk_92_method_32_code 35 = .ok (.iadd, 1) := by decide +kernel
theorem own_d20_36 : decode jdk_92_method_32_code 36 = .ok (.ireturn, 1) := by decide +kernel
set_option maxRecDepth 65536 in
set_option maxHeartbeats 40000000 in
theorem own_len1 (l : Launch) (Z : State) (a0 : Array Value) (hw : ∀ d ∈ tables_1, d.before a0 Z = true) (ws : List Jvm.Cond) (b : Addr) (y : Addr) (ka : ClassId) (wa : Int64) (wb : Int64) (wc : Int64) (wd : Int64) (h0 : Heap) (n0 : Nat) (O0 : Old Z n0 h0) (SS : own_St Z h0 b y ka wa wb wc wd (1 : Int32)) :
    MetFree l (⟨"java/util/BitSet", "length", "()I"⟩ : MethodName) (head1 (Jvm.Cond.code (⟨"java/util/BitSet", "length", "()I"⟩ : MethodName) jdk_92_method_32_code 1 (some .int) :: ws) ({ frames := 2, cells := 0, slots := 0, locals := 60 } : Room)) (fun args_ U => args_ = #[(.ref b)] ∧ Z.Warmed39 U.vm ∧ U.heap = h0) (fun _ _ _ _ _ => True) (fun _ U o U' => ∃ v L, o = .returned v ∧ (own_Q_i (fun r => own_topP (own_w wa wb wc wd) r.toInt) h0 n0) v U'.heap L ∧ FrameEnd U o U' L ({ frames := 2, cells := 0, slots := 0, locals := 60 } : Room).cells ({ frames := 2, cells := 0, slots := 0, locals := 60 } : Room).slots) := by
 refine MetFree.of_bodySF (plainFor_of_name own_pn0) hisR ?_
 intro p e s m args below meth c s₁ Bd hml0 hP hK
 obtain ⟨rfl, hZ, hh⟩ := hP
 have hx := Bd.exec
 have hby := Bd.bytes
 have hml : c.maxLocals = 1 := hml0
 have hown : s.vm.findClass "java/util/BitSet" = some m.cls := findClass_of_methodNamed Bd.named
 have hnm := (name_of_methodNamed Bd.named Bd.method).1
 have X0 : Stand p l e ({ frames := 2, cells := 0, slots := 0, locals := 60 } : Room) s m #[(.ref b)] below meth c s₁ [] 0 0 := Stand.of_body Bd
 have e0 : s₁.heap = h0 := by rw [← hh, Bd.state]; rfl
 have N0 := Fr.nil n0
 obtain ⟨Eb, Fw, Fn, Va, hW⟩ := SS
 have ci0 : (0 : Int32).toInt = 0 := by decide
 have ci1 : (1 : Int32).toInt = 1 := by decide
 have ci2 : (2 : Int32).toInt = 2 := by decide
 have ci3 : (3 : Int32).toInt = 3 := by decide
 have ci4 : (4 : Int32).toInt = 4 := by decide
 have ci16 : (16 : Int32).toInt = 16 := by decide
 have ci256 : (256 : Int32).toInt = 256 := by decide
 have ci65536 : (65536 : Int32).toInt = 65536 := by decide
 refine own_close (s := s) (Q := (own_Q_i (fun r => own_topP (own_w wa wb wc wd) r.toInt) h0 n0)) (C := (({ frames := 2, cells := 0, slots := 0, locals := 60 } : Room)).cells) (N := (({ frames := 2, cells := 0, slots := 0, locals := 60 } : Room)).slots) (own_st (fun _ kt => castTop (own_ef20 m b) kt) ?_)
 show own_Rch _ _ _ _ s₁ (mkF m 0 #[oR b] [])
 refine own_st (fun _ => XS.aloadN X0.here hx rfl (hb hby own_d20_0) rfl rfl) ?_
 show own_Rch _ _ _ _ s₁ (mkF m 1 #[oR b] [(.ref b)])
 obtain ⟨T1, X1, e1, st1⟩ := getF X0 hx hZ hown (host := "") (Or.inl (hw _ (own_m 16 rfl))) Via.refl e0 Fn (g := (mkF m 1 #[oR b] [(.ref b)])) rfl rfl (hb hby own_d20_1)
 refine own_st st1 ?_
 show own_Rch _ _ _ _ T1 (mkF m 4 #[oR b] [(.int (1 : Int32))])
 refine own_st (fun _ => XS.ifYes X1.here hx rfl (pc0 := 4) (pc' := 9) rfl (hb hby own_d20_4) rfl ((if0 _ _).trans (feq ((by decide) : ¬ ((1 : Int32) = (0 : Int32)))).2) (by decide) (by decide)) ?_
 show own_Rch _ _ _ _ T1 (mkF m 9 #[oR b] [])
 refine own_st (fun _ => XS.bipush X1.here hx rfl (hb hby own_d20_9)) ?_
 show own_Rch _ _ _ _ T1 (mkF m 11 #[oR b] [(.int (64 : Int32))])
 refine own_st (fun _ => XS.aloadN X1.here hx rfl (hb hby own_d20_11) rfl rfl) ?_
 show own_Rch _ _ _ _ T1 (mkF m 12 #[oR b] [(.ref b), (.int (64 : Int32))])
 obtain ⟨T2, X2, e2, st2⟩ := getF X1 hx hZ hown (host := "") (Or.inl (hw _ (own_m 16 rfl))) Via.refl e1 Fn (g := (mkF m 12 #[oR b] [(.ref b), (.int (64 : Int32))])) rfl rfl (hb hby own_d20_12)
 refine own_st st2 ?_
 show own_Rch _ _ _ _ T2 (mkF m 15 #[oR b] [(.int (1 : Int32)), (.int (64 : Int32))])
 refine own_st (fun _ => XS.iconst X2.here hx rfl (hb hby own_d20_15)) ?_
 show own_Rch _ _ _ _ T2 (mkF m 16 #[oR b] [(.int (1 : Int32)), (.int (1 : Int32)), (.int (64 : Int32))])
 refine own_st (fun _ => XS.isub X2.here hx rfl (hb hby own_d20_16) rfl) ?_
 show own_Rch _ _ _ _ T2 (mkF m 17 #[oR b] [(.int (0 : Int32)), (.int (64 : Int32))])
 refine own_st (fun _ => XS.imul X2.here hx rfl (hb hby own_d20_17) rfl) ?_
 show own_Rch _ _ _ _ T2 (mkF m 18 #[oR b] [(.int (0 : Int32))])
 refine own_st (fun _ => XS.bipush X2.here hx rfl (hb hby own_d20_18)) ?_
 show own_Rch _ _ _ _ T2 (mkF m 20 #[oR b] [(.int (64 : Int32)), (.int (0 : Int32))])
 refine own_st (fun _ => XS.aloadN X2.here hx rfl (hb hby own_d20_20) rfl rfl) ?_
 show own_Rch _ _ _ _ T2 (mkF m 21 #[oR b] [(.ref b), (.int (64 : Int32)), (.int (0 : Int32))])
 obtain ⟨T3, X3, e3, st3⟩ := getF X2 hx hZ hown (host := "") (Or.inl (hw _ (own_m 29 rfl))) Via.refl e2 Fw (g := (mkF m 21 #[oR b] [(.ref b), (.int (64 : Int32)), (.int (0 : Int32))])) rfl rfl (hb hby own_d20_21)
 refine own_st st3 ?_
 show own_Rch _ _ _ _ T3 (mkF m 24 #[oR b] [(.ref y), (.int (64 : Int32)), (.int (0 : Int32))])
 refine own_st (fun _ => XS.aloadN X3.here hx rfl (hb hby own_d20_24) rfl rfl) ?_
 show own_Rch _ _ _ _ T3 (mkF m 25 #[oR b] [(.ref b), (.ref y), (.int (64 : Int32)), (.int (0 : Int32))])
 obtain ⟨T4, X4, e4, st4⟩ := getF X3 hx hZ hown (host := "") (Or.inl (hw _ (own_m 16 rfl))) Via.refl e3 Fn (g := (mkF m 25 #[oR b] [(.ref b), (.ref y), (.int (64 : Int32)), (.int (0 : Int32))])) rfl rfl (hb hby own_d20_25)
 refine own_st st4 ?_
 show own_Rch _ _ _ _ T4 (mkF m 28 #[oR b] [(.int (1 : Int32)), (.ref y), (.int (64 : Int32)), (.int (0 : Int32))])
 refine own_st (fun _ => XS.iconst X4.here hx rfl (hb hby own_d20_28)) ?_
 show own_Rch _ _ _ _ T4 (mkF m 29 #[oR b] [(.int (1 : Int32)), (.int (1 : Int32)), (.ref y), (.int (64 : Int32)), (.int (0 : Int32))])
 refine own_st (fun _ => XS.isub X4.here hx rfl (hb hby own_d20_29) rfl) ?_
 show own_Rch _ _ _ _ T4 (mkF m 30 #[oR b] [(.int (0 : Int32)), (.ref y), (.int (64 : Int32)), (.int (0 : Int32))])
 obtain ⟨cl5, Ar5, q5, S5, M5, H5, G5⟩ := id Va
 have hin5 : ¬ ((0 : Int32) < 0 ∨ cl5.slots.size ≤ ((0 : Int32)).toNatClampNeg) := inb_of S5 ⟨by decide, by decide⟩
 refine own_st (X4.laload hx (j := (0 : Int32)) (v := (.long wa)) (by rw [e4]; exact Ar5.1) (State.isArrayOf_alike (hZ).alike Ar5.2.1) Ar5.2.2 hin5 (H5.at hin5 rfl) (g := (mkF m 30 #[oR b] [(.int (0 : Int32)), (.ref y), (.int (64 : Int32)), (.int (0 : Int32))])) rfl rfl (hb hby own_d20_30)) ?_
 show own_Rch _ _ _ _ T4 (mkF m 31 #[oR b] [(.long wa), (.int (64 : Int32)), (.int (0 : Int32))])
 obtain ⟨_, _, ⟨T6, L6, k6, n6⟩, -, X6, ⟨Lc6, hQ6, l6, y6, z6⟩, st6⟩ := Jvm.LawKit.callS X4 hx (y := (⟨"java/lang/Long", "numberOfLeadingZeros", "(J)I"⟩ : MethodName)) hown (mvT hZ (hw _ (own_m 73 rfl))) (mvT hZ (hw _ (own_m 74 rfl))) (mvT hZ (hw _ (own_m 75 rfl))) (mvT hZ (hw _ (own_m 76 rfl))) (by decide) (backOf (W := 2) (own_nlzL l Z a0 hw [] wa h0 n0 O0 (own_Wn (q := 0) hW (by decide))) hZ (hw _ (own_m 76 rfl)) (hw _ (own_m 75 rfl)) (by decide) (by decide)) (g := (mkF m 31 #[oR b] [(.long wa), (.int (64 : Int32)), (.int (0 : Int32))])) rfl (by rw [hml]; rfl) (argsL := [(.long wa)]) (rest := [(.int (64 : Int32)), (.int (0 : Int32))]) (lenOf own_pd1 rfl) rfl (by show 2 * 0 + _ ≤ _; exact Nat.le_of_eq rfl) (hb hby own_d20_31) (fun _ _ => ⟨rfl, e4, (by decide : 0 + 0 ≤ _), (by decide : 0 + 0 ≤ _)⟩)
 dsimp only [Pt.U, Pt.locs, Pt.cells, Pt.slots] at X6 l6 y6 z6 st6 hQ6
 subst l6 y6 z6
 obtain ⟨rr6, rfl, N6q, hh6, hn6⟩ := hQ6
 have N6 := Fr.app N0 N6q
 refine own_st st6 ?_
 show own_Rch _ _ _ _ T6 (mkF m 34 #[oR b] [(.int rr6), (.int (64 : Int32)), (.int (0 : Int32))])
 refine own_st (fun _ => XS.isub X6.here hx rfl (hb hby own_d20_34) rfl) ?_
 show own_Rch _ _ _ _ T6 (mkF m 35 #[oR b] [(.int ((64 : Int32) - rr6)), (.int (0 : Int32))])
 refine own_st (fun _ => XS.iadd X6.here hx rfl (hb hby own_d20_35) rfl) ?_
 show own_Rch _ _ _ _ T6 (mkF m 36 #[oR b] [(.int ((0 : Int32) + ((64 : Int32) - rr6)))])
 refine own_retI X6 hx Bd.notSynchronized Bd.returns (hb hby own_d20_36) (by decide) (by decide) ?_
 rw [hh6]
 obtain ⟨qk, qk63, qr, -⟩ := id hn6
 have r1 := own_sb (x := (64 : Int32)) (y := rr6) (show _ = (64 : Int) by decide) rfl (by omega) (by omega)
 have r2 := own_sm (x := (0 : Int32)) (show _ = (0 : Int) by decide) r1 (by omega) (by omega)
 exact ⟨_, rfl, N6, rfl, own_topA (q := 0) hW (by decide) hn6 (by rw [r2]; omega)⟩
set_option maxRecDepth 65536 in
set_option maxHeartbeats 40000000 in
theorem own_len2 (l : Launch) (Z : State) (a0 : Array Value) (hw : ∀ d ∈ tables_1, d.before a0 Z = true) (ws : List Jvm.Cond) (b : Addr) (y : Addr) (ka : ClassId) (wa : Int64) (wb : Int64) (wc : Int64) (wd : Int64) (h0 : Heap) (n0 : Nat) (O0 : Old Z n0 h0) (SS : own_St Z h0 b y ka wa wb wc wd (2 : Int32)) :
    MetFree l (⟨"java/util/BitSet", "length", "()I"⟩ : MethodName) (head1 (Jvm.Cond.code (⟨"java/util/BitSet", "length", "()I"⟩ : MethodName) jdk_92_method_32_code 1 (some .int) :: ws) ({ frames := 2, cells := 0, slots := 0, locals := 60 } : Room)) (fun args_ U => args_ = #[(.ref b)] ∧ Z.Warmed39 U.vm ∧ U.heap = h0) (fun _ _ _ _ _ => True) (fun _ U o U' => ∃ v L, o = .returned v ∧ (own_Q_i (fun r => own_topP (own_w wa wb wc wd) r.toInt) h0 n0) v U'.heap L ∧ FrameEnd U o U' L ({ frames := 2, cells := 0, slots := 0, locals := 60 } : Room).cells ({ frames := 2, cells := 0, slots := 0, locals := 60 } : Room).slots) := by
 refine MetFree.of_bodySF (plainFor_of_name own_pn0) hisR ?_
 intro p e s m args below meth c s₁ Bd hml0 hP hK
 obtain ⟨rfl, hZ, hh⟩ := hP
 have hx := Bd.exec
 have hby := Bd.bytes
 have hml : c.maxLocals = 1 := hml0
 have hown : s.vm.findClass "java/util/BitSet" = some m.cls := findClass_of_methodNamed Bd.named
 have hnm := (name_of_methodNamed Bd.named Bd.method).1
 have X0 : Stand p l e ({ frames := 2, cells := 0, slots := 0, locals := 60 } : Room) s m #[(.ref b)] below meth c s₁ [] 0 0 := Stand.of_body Bd
 have e0 : s₁.heap = h0 := by rw [← hh, Bd.state]; rfl
 have N0 := Fr.nil n0
 obtain ⟨Eb, Fw, Fn, Va, hW⟩ := SS
 have ci0 : (0 : Int32).toInt = 0 := by decide
 have ci1 : (1 : Int32).toInt = 1 := by decide
 have ci2 : (2 : Int32).toInt = 2 := by decide
 have ci3 : (3 : Int32).toInt = 3 := by decide
 have ci4 : (4 : Int32).toInt = 4 := by decide
 have ci16 : (16 : Int32).toInt = 16 := by decide
 have ci256 : (256 : Int32).toInt = 256 := by decide
 have ci65536 : (65536 : Int32).toInt = 65536 := by decide
 refine own_close (s := s) (Q := (own_Q_i (fun r => own_topP (own_w wa wb wc wd) r.toInt) h0 n0)) (C := (({ frames := 2, cells := 0, slots := 0, locals := 60 } : Room)).cells) (N := (({ frames := 2, cells := 0, slots := 0, locals := 60 } : Room)).slots) (own_st (fun _ kt => castTop (own_ef20 m b) kt) ?_)
 show own_Rch _ _ _ _ s₁ (mkF m 0 #[oR b] [])
 refine own_st (fun _ => XS.aloadN X0.here hx rfl (hb hby own_d20_0) rfl rfl) ?_
 show own_Rch _ _ _ _ s₁ (mkF m 1 #[oR b] [(.ref b)])
 obtain ⟨T1, X1, e1, st1⟩ := getF X0 hx hZ hown (host := "") (Or.inl (hw _ (own_m 16 rfl))) Via.refl e0 Fn (g := (mkF m 1 #[oR b] [(.ref b)])) rfl rfl (hb hby own_d20_1)
 refine own_st st1 ?_
 show own_Rch _ _ _ _ T1 (mkF m 4 #[oR b] [(.int (2 : Int32))])
 refine own_st (fun _ => XS.ifYes X1.here hx rfl (pc0 := 4) (pc' := 9) rfl (hb hby own_d20_4) rfl ((if0 _ _).trans (feq ((by decide) : ¬ ((2 : Int32) = (0 : Int32)))).2) (by decide) (by decide)) ?_
 show own_Rch _ _ _ _ T1 (mkF m 9 #[oR b] [])
 refine own_st (fun _ => XS.bipush X1.here hx rfl (hb hby own_d20_9)) ?_
 show own_Rch _ _ _ _ T1 (mkF m 11 #[oR b] [(.int (64 : Int32))])
 refine own_st (fun _ => XS.aloadN X1.here hx rfl (hb hby own_d20_11) rfl rfl) ?_
 show own_Rch _ _ _ _ T1 (mkF m 12 #[oR b] [(.ref b), (.int (64 : Int32))])
 obtain ⟨T2, X2, e2, st2⟩ := getF X1 hx hZ hown (host := "") (Or.inl (hw _ (own_m 16 rfl))) Via.refl e1 Fn (g := (mkF m 12 #[oR b] [(.ref b), (.int (64 : Int32))])) rfl rfl (hb hby own_d20_12)
 refine own_st st2 ?_
 show own_Rch _ _ _ _ T2 (mkF m 15 #[oR b] [(.int (2 : Int32)), (.int (64 : Int32))])
 refine own_st (fun _ => XS.iconst X2.here hx rfl (hb hby own_d20_15)) ?_
 show own_Rch _ _ _ _ T2 (mkF m 16 #[oR b] [(.int (1 : Int32)), (.int (2 : Int32)), (.int (64 : Int32))])
 refine own_st (fun _ => XS.isub X2.here hx rfl (hb hby own_d20_16) rfl) ?_
 show own_Rch _ _ _ _ T2 (mkF m 17 #[oR b] [(.int (1 : Int32)), (.int (64 : Int32))])
 refine own_st (fun _ => XS.imul X2.here hx rfl (hb hby own_d20_17) rfl) ?_
 show own_Rch _ _ _ _ T2 (mkF m 18 #[oR b] [(.int (64 : Int32))])
 refine own_st (fun _ => XS.bipush X2.here hx rfl (hb hby own_d20_18)) ?_
 show own_Rch _ _ _ _ T2 (mkF m 20 #[oR b] [(.int (64 : Int32)), (.int (64 : Int32))])
 refine own_st (fun _ => XS.aloadN X2.here hx rfl (hb hby own_d20_20) rfl rfl) ?_
 show own_Rch _ _ _ _ T2 (mkF m 21 #[oR b] [(.ref b), (.int (64 : Int32)), (.int (64 : Int32))])
 obtain ⟨T3, X3, e3, st3⟩ := getF X2 hx hZ hown (host := "") (Or.inl (hw _ (own_m 29 rfl))) Via.refl e2 Fw (g := (mkF m 21 #[oR b] [(.ref b), (.int (64 : Int32)), (.int (64 : Int32))])) rfl rfl (hb hby own_d20_21)
 refine own_st st3 ?_
 show own_Rch _ _ _ _ T3 (mkF m 24 #[oR b] [(.ref y), (.int (64 : Int32)), (.int (64 : Int32))])
 refine own_st (fun _ => XS.aloadN X3.here hx rfl (hb hby own_d20_24) rfl rfl) ?_
 show own_Rch _ _ _ _ T3 (mkF m 25 #[oR b] [(.ref b), (.ref y), (.int (64 : Int32)), (.int (64 : Int32))])
 obtain ⟨T4, X4, e4, st4⟩ := getF X3 hx hZ hown (host := "") (Or.inl (hw _ (own_m 16 rfl))) Via.refl e3 Fn (g := (mkF m 25 #[oR b] [(.ref b), (.ref y), (.int (64 : Int32)), (.int (64 : Int32))])) rfl rfl (hb hby own_d20_25)
 refine own_st st4 ?_
 show own_Rch _ _ _ _ T4 (mkF m 28 #[oR b] [(.int (2 : Int32)), (.ref y), (.int (64 : Int32)), (.int (64 : Int32))])
 refine own_st (fun _ => XS.iconst X4.here hx rfl (hb hby own_d20_28)) ?_
 show own_Rch _ _ _ _ T4 (mkF m 29 #[oR b] [(.int (1 : Int32)), (.int (2 : Int32)), (.ref y), (.int (64 : Int32)), (.int (64 : Int32))])
 refine own_st (fun _ => XS.isub X4.here hx rfl (hb hby own_d20_29) rfl) ?_
 show own_Rch _ _ _ _ T4 (mkF m 30 #[oR b] [(.int (1 : Int32)), (.ref y), (.int (64 : Int32)), (.int (64 : Int32))])
 obtain ⟨cl5, Ar5, q5, S5, M5, H5, G5⟩ := id Va
 have hin5 : ¬ ((1 : Int32) < 0 ∨ cl5.slots.size ≤ ((1 : Int32)).toNatClampNeg) := inb_of S5 ⟨by decide, by decide⟩
 refine own_st (X4.laload hx (j := (1 : Int32)) (v := (.long wb)) (by rw [e4]; exact Ar5.1) (State.isArrayOf_alike (hZ).alike Ar5.2.1) Ar5.2.2 hin5 (H5.at hin5 rfl) (g := (mkF m 30 #[oR b] [(.int (1 : Int32)), (.ref y), (.int (64 : Int32)), (.int (64 : Int32))])) rfl rfl (hb hby own_d20_30)) ?_
 show own_Rch _ _ _ _ T4 (mkF m 31 #[oR b] [(.long wb), (.int (64 : Int32)), (.int (64 : Int32))])
 obtain ⟨_, _, ⟨T6, L6, k6, n6⟩, -, X6, ⟨Lc6, hQ6, l6, y6, z6⟩, st6⟩ := Jvm.LawKit.callS X4 hx (y := (⟨"java/lang/Long", "numberOfLeadingZeros", "(J)I"⟩ : MethodName)) hown (mvT hZ (hw _ (own_m 73 rfl))) (mvT hZ (hw _ (own_m 74 rfl))) (mvT hZ (hw _ (own_m 75 rfl))) (mvT hZ (hw _ (own_m 76 rfl))) (by decide) (backOf (W := 2) (own_nlzL l Z a0 hw [] wb h0 n0 O0 (own_Wn (q := 1) hW (by decide))) hZ (hw _ (own_m 76 rfl)) (hw _ (own_m 75 rfl)) (by decide) (by decide)) (g := (mkF m 31 #[oR b] [(.long wb), (.int (64 : Int32)), (.int (64 : Int32))])) rfl (by rw [hml]; rfl) (argsL := [(.long wb)]) (rest := [(.int (64 : Int32)), (.int (64 : Int32))]) (lenOf own_pd1 rfl) rfl (by show 2 * 0 + _ ≤ _; exact Nat.le_of_eq rfl) (hb hby own_d20_31) (fun _ _ => ⟨rfl, e4, (by decide : 0 + 0 ≤ _), (by decide : 0 + 0 ≤ _)⟩)
 dsimp only [Pt.U, Pt.locs, Pt.cells, Pt.slots] at X6 l6 y6 z6 st6 hQ6
 subst l6 y6 z6
 obtain ⟨rr6, rfl, N6q, hh6, hn6⟩ := hQ6
 have N6 := Fr.app N0 N6q
 refine own_st st6 ?_
 show own_Rch _ _ _ _ T6 (mkF m 34 #[oR b] [(.int rr6), (.int (64 : Int32)), (.int (64 : Int32))])
 refine own_st (fun _ => XS.isub X6.here hx rfl (hb hby own_d20_34) rfl) ?_
 show own_Rch _ _ _ _ T6 (mkF m 35 #[oR b] [(.int ((64 : Int32) - rr6)), (.int (64 : Int32))])
 refine own_st (fun _ => XS.iadd X6.here hx rfl (hb hby own_d20_35) rfl) ?_
 show own_Rch _ _ _ _ T6 (mkF m 36 #[oR b] [(.int ((64 : Int32) + ((64 : Int32) - rr6)))])
 refine own_retI X6 hx Bd.notSynchronized Bd.returns (hb hby own_d20_36) (by decide) (by decide) ?_
 rw [hh6]
 obtain ⟨qk, qk63, qr, -⟩ := id hn6
 have r1 := own_sb (x := (64 : Int32)) (y := rr6) (show _ = (64 : Int) by decide) rfl (by omega) (by omega)
 have r2 := own_sm (x := (64 : Int32)) (show _ = (64 : Int) by decide) r1 (by omega) (by omega)
 exact ⟨_, rfl, N6, rfl, own_topA (q := 1) hW (by decide) hn6 (by rw [r2]; omega)⟩
set_option maxRecDepth 65536 in
set_option maxHeartbeats 40000000 in
theorem own_len3 (l : Launch) (Z : State) (a0 : Array Value) (hw : ∀ d ∈ tables_1, d.before a0 Z = true) (ws : List Jvm.Cond) (b : Addr) (y : Addr) (ka : ClassId) (wa : Int64) (wb : Int64) (wc : Int64) (wd : Int64) (h0 : Heap) (n0 : Nat) (O0 : Old Z n0 h0) (SS : own_St Z h0 b y ka wa wb wc wd (3 : Int32)) :
    MetFree l (⟨"java/util/BitSet", "length", "()I"⟩ : MethodName) (head1 (Jvm.Cond.code (⟨"java/util/BitSet", "length", "()I"⟩ : MethodName) jdk_92_method_32_code 1 (some .int) :: ws) ({ frames := 2, cells := 0, slots := 0, locals := 60 } : Room)) (fun args_ U => args_ = #[(.ref b)] ∧ Z.Warmed39 U.vm ∧ U.heap = h0) (fun _ _ _ _ _ => True) (fun _ U o U' => ∃ v L, o = .returned v ∧ (own_Q_i (fun r => own_topP (own_w wa wb wc wd) r.toInt) h0 n0) v U'.heap L ∧ FrameEnd U o U' L ({ frames := 2, cells := 0, slots := 0, locals := 60 } : Room).cells ({ frames := 2, cells := 0, slots := 0, locals := 60 } : Room).slots) := by
 refine MetFree.of_bodySF (plainFor_of_name own_pn0) hisR ?_
 intro p e s m args below meth c s₁ Bd hml0 hP hK
 obtain ⟨rfl, hZ, hh⟩ := hP
 have hx := Bd.exec
 have hby := Bd.bytes
 have hml : c.maxLocals = 1 := hml0
 have hown : s.vm.findClass "java/util/BitSet" = some m.cls := findClass_of_methodNamed Bd.named
 have hnm := (name_of_methodNamed Bd.named Bd.method).1
 have X0 : Stand p l e ({ frames := 2, cells := 0, slots := 0, locals := 60 } : Room) s m #[(.ref b)] below meth c s₁ [] 0 0 := Stand.of_body Bd
 have e0 : s₁.heap = h0 := by rw [← hh, Bd.state]; rfl
 have N0 := Fr.nil n0
 obtain ⟨Eb, Fw, Fn, Va, hW⟩ := SS
 have ci0 : (0 : Int32).toInt = 0 := by decide
 have ci1 : (1 : Int32).toInt = 1 := by decide
 have ci2 : (2 : Int32).toInt = 2 := by decide
 have ci3 : (3 : Int32).toInt = 3 := by decide
 have ci4 : (4 : Int32).toInt = 4 := by decide
 have ci16 : (16 : Int32).toInt = 16 := by decide
 have ci256 : (256 : Int32).toInt = 256 := by decide
 have ci65536 : (65536 : Int32).toInt = 65536 := by decide
 refine own_close (s := s) (Q := (own_Q_i (fun r => own_topP (own_w wa wb wc wd) r.toInt) h0 n0)) (C := (({ frames := 2, cells := 0, slots := 0, locals := 60 } : Room)).cells) (N := (({ frames := 2, cells := 0, slots := 0, locals := 60 } : Room)).slots) (own_st (fun _ kt => castTop (own_ef20 m b) kt) ?_)
 show own_Rch _ _ _ _ s₁ (mkF m 0 #[oR b] [])
 refine own_st (fun _ => XS.aloadN X0.here hx rfl (hb hby own_d20_0) rfl rfl) ?_
 show own_Rch _ _ _ _ s₁ (mkF m 1 #[oR b] [(.ref b)])
 obtain ⟨T1, X1, e1, st1⟩ := getF X0 hx hZ hown (host := "") (Or.inl (hw _ (own_m 16 rfl))) Via.refl e0 Fn (g := (mkF m 1 #[oR b] [(.ref b)])) rfl rfl (hb hby own_d20_1)
 refine own_st st1 ?_
 show own_Rch _ _ _ _ T1 (mkF m 4 #[oR b] [(.int (3 : Int32))])
 refine own_st (fun _ => XS.ifYes X1.here hx rfl (pc0 := 4) (pc' := 9) rfl (hb hby own_d20_4) rfl ((if0 _ _).trans (feq ((by decide) : ¬ ((3 : Int32) = (0 : Int32)))).2) (by decide) (by decide)) ?_
 show own_Rch _ _ _ _ T1 (mkF m 9 #[oR b] [])
 refine own_st (fun _ => XS.bipush X1.here hx rfl (hb hby own_d20_9)) ?_
 show own_Rch _ _ _ _ T1 (mkF m 11 #[oR b] [(.int (64 : Int32))])
 refine own_st (fun _ => XS.aloadN X1.here hx rfl (hb hby own_d20_11) rfl rfl) ?_
 show own_Rch _ _ _ _ T1 (mkF m 12 #[oR b] [(.ref b), (.int (64 : Int32))])
 obtain ⟨T2, X2, e2, st2⟩ := getF X1 hx hZ hown (host := "") (Or.inl (hw _ (own_m 16 rfl))) Via.refl e1 Fn (g := (mkF m 12 #[oR b] [(.ref b), (.int (64 : Int32))])) rfl rfl (hb hby own_d20_12)
 refine own_st st2 ?_
 show own_Rch _ _ _ _ T2 (mkF m 15 #[oR b] [(.int (3 : Int32)), (.int (64 : Int32))])
 refine own_st (fun _ => XS.iconst X2.here hx rfl (hb hby own_d20_15)) ?_
 show own_Rch _ _ _ _ T2 (mkF m 16 #[oR b] [(.int (1 : Int32)), (.int (3 : Int32)), (.int (64 : Int32))])
 refine own_st (fun _ => XS.isub X2.here hx rfl (hb hby own_d20_16) rfl) ?_
 show own_Rch _ _ _ _ T2 (mkF m 17 #[oR b] [(.int (2 : Int32)), (.int (64 : Int32))])
 refine own_st (fun _ => XS.imul X2.here hx rfl (hb hby own_d20_17) rfl) ?_
 show own_Rch _ _ _ _ T2 (mkF m 18 #[oR b] [(.int (128 : Int32))])
 refine own_st (fun _ => XS.bipush X2.here hx rfl (hb hby own_d20_18)) ?_
 show own_Rch _ _ _ _ T2 (mkF m 20 #[oR b] [(.int (64 : Int32)), (.int (128 : Int32))])
 refine own_st (fun _ => XS.aloadN X2.here hx rfl (hb hby own_d20_20) rfl rfl) ?_
 show own_Rch _ _ _ _ T2 (mkF m 21 #[oR b] [(.ref b), (.int (64 : Int32)), (.int (128 : Int32))])
 obtain ⟨T3, X3, e3, st3⟩ := getF X2 hx hZ hown (host := "") (Or.inl (hw _ (own_m 29 rfl))) Via.refl e2 Fw (g := (mkF m 21 #[oR b] [(.ref b), (.int (64 : Int32)), (.int (128 : Int32))])) rfl rfl (hb hby own_d20_21)
 refine own_st st3 ?_
 show own_Rch _ _ _ _ T3 (mkF m 24 #[oR b] [(.ref y), (.int (64 : Int32)), (.int (128 : Int32))])
 refine own_st (fun _ => XS.aloadN X3.here hx rfl (hb hby own_d20_24) rfl rfl) ?_
 show own_Rch _ _ _ _ T3 (mkF m 25 #[oR b] [(.ref b), (.ref y), (.int (64 : Int32)), (.int (128 : Int32))])
 obtain ⟨T4, X4, e4, st4⟩ := getF X3 hx hZ hown (host := "") (Or.inl (hw _ (own_m 16 rfl))) Via.refl e3 Fn (g := (mkF m 25 #[oR b] [(.ref b), (.ref y), (.int (64 : Int32)), (.int (128 : Int32))])) rfl rfl (hb hby own_d20_25)
 refine own_st st4 ?_
 show own_Rch _ _ _ _ T4 (mkF m 28 #[oR b] [(.int (3 : Int32)), (.ref y), (.int (64 : Int32)), (.int (128 : Int32))])
 refine own_st (fun _ => XS.iconst X4.here hx rfl (hb hby own_d20_28)) ?_
 show own_Rch _ _ _ _ T4 (mkF m 29 #[oR b] [(.int (1 : Int32)), (.int (3 : Int32)), (.ref y), (.int (64 : Int32)), (.int (128 : Int32))])
 refine own_st (fun _ => XS.isub X4.here hx rfl (hb hby own_d20_29) rfl) ?_
 show own_Rch _ _ _ _ T4 (mkF m 30 #[oR b] [(.int (2 : Int32)), (.ref y), (.int (64 : Int32)), (.int (128 : Int32))])
 obtain ⟨cl5, Ar5, q5, S5, M5, H5, G5⟩ := id Va
 have hin5 : ¬ ((2 : Int32) < 0 ∨ cl5.slots.size ≤ ((2 : Int32)).toNatClampNeg) := inb_of S5 ⟨by decide, by decide⟩
 refine own_st (X4.laload hx (j := (2 : Int32)) (v := (.long wc)) (by rw [e4]; exact Ar5.1) (State.isArrayOf_alike (hZ).alike Ar5.2.1) Ar5.2.2 hin5 (H5.at hin5 rfl) (g := (mkF m 30 #[oR b] [(.int (2 : Int32)), (.ref y), (.int (64 : Int32)), (.int (128 : Int32))])) rfl rfl (hb hby own_d20_30)) ?_
 show own_Rch _ _ _ _ T4 (mkF m 31 #[oR b] [(.long wc), (.int (64 : Int32)), (.int (128 : Int32))])
 obtain ⟨_, _, ⟨T6, L6, k6, n6⟩, -, X6, ⟨Lc6, hQ6, l6, y6, z6⟩, st6⟩ := Jvm.LawKit.callS X4 hx (y := (⟨"java/lang/Long", "numberOfLeadingZeros", "(J)I"⟩ : MethodName)) hown (mvT hZ (hw _ (own_m 73 rfl))) (mvT hZ (hw _ (own_m 74 rfl))) (mvT hZ (hw _ (own_m 75 rfl))) (mvT hZ (hw _ (own_m 76 rfl))) (by decide) (backOf (W := 2) (own_nlzL l Z a0 hw [] wc h0 n0 O0 (own_Wn (q := 2) hW (by decide))) hZ (hw _ (own_m 76 rfl)) (hw _ (own_m 75 rfl)) (by decide) (by decide)) (g := (mkF m 31 #[oR b] [(.long wc), (.int (64 : Int32)), (.int (128 : Int32))])) rfl (by rw [hml]; rfl) (argsL := [(.long wc)]) (rest := [(.int (64 : Int32)), (.int (128 : Int32))]) (lenOf own_pd1 rfl) rfl (by show 2 * 0 + _ ≤ _; exact Nat.le_of_eq rfl) (hb hby own_d20_31) (fun _ _ => ⟨rfl, e4, (by decide : 0 + 0 ≤ _), (by decide : 0 + 0 ≤ _)⟩)
 dsimp only [Pt.U, Pt.locs, Pt.cells, Pt.slots] at X6 l6 y6 z6 st6 hQ6
 subst l6 y6 z6
 obtain ⟨rr6, rfl, N6q, hh6, hn6⟩ := hQ6
 have N6 := Fr.app N0 N6q
 refine own_st st6 ?_
 show own_Rch _ _ _ _ T6 (mkF m 34 #[oR b] [(.int rr6), (.int (64 : Int32)), (.int (128 : Int32))])
 refine own_st (fun _ => XS.isub X6.here hx rfl (hb hby own_d20_34) rfl) ?_
 show own_Rch _ _ _ _ T6 (mkF m 35 #[oR b] [(.int ((64 : Int32) - rr6)), (.int (128 : Int32))])
 refine own_st (fun _ => XS.iadd X6.here hx rfl (hb hby own_d20_35) rfl) ?_
 show own_Rch _ _ _ _ T6 (mkF m 36 #[oR b] [(.int ((128 : Int32) + ((64 : Int32) - rr6)))])
 refine own_retI X6 hx Bd.notSynchronized Bd.returns (hb hby own_d20_36) (by decide) (by decide) ?_
 rw [hh6]
 obtain ⟨qk, qk63, qr, -⟩ := id hn6
 have r1 := own_sb (x := (64 : Int32)) (y := rr6) (show _ = (64 : Int) by decide) rfl (by omega) (by omega)
 have r2 := own_sm (x := (128 : Int32)) (show _ = (128 : Int) by decide) r1 (by omega) (by omega)
 exact ⟨_, rfl, N6, rfl, own_topA (q := 2) hW (by decide) hn6 (by rw [r2]; omega)⟩
set_option maxRecDepth 65536 in
set_option maxHeartbeats 40000000 in
theorem own_len4 (l : Launch) (Z : State) (a0 : Array Value) (hw : ∀ d ∈ tables_1, d.before a0 Z = true) (ws : List Jvm.Cond) (b : Addr) (y : Addr) (ka : ClassId) (wa : Int64) (wb : Int64) (wc : Int64) (wd : Int64) (h0 : Heap) (n0 : Nat) (O0 : Old Z n0 h0) (SS : own_St Z h0 b y ka wa wb wc wd (4 : Int32)) :
    MetFree l (⟨"java/util/BitSet", "length", "()I"⟩ : MethodName) (head1 (Jvm.Cond.code (⟨"java/util/BitSet", "length", "()I"⟩ : MethodName) jdk_92_method_32_code 1 (some .int) :: ws) ({ frames := 2, cells := 0, slots := 0, locals := 60 } : Room)) (fun args_ U => args_ = #[(.ref b)] ∧ Z.Warmed39 U.vm ∧ U.heap = h0) (fun _ _ _ _ _ => True) (fun _ U o U' => ∃ v L, o = .returned v ∧ (own_Q_i (fun r => own_topP (own_w wa wb wc wd) r.toInt) h0 n0) v U'.heap L ∧ FrameEnd U o U' L ({ frames := 2, cells := 0, slots := 0, locals := 60 } : Room).cells ({ frames := 2, cells := 0, slots := 0, locals := 60 } : Room).slots) := by
 refine MetFree.of_bodySF (plainFor_of_name own_pn0) hisR ?_
 intro p e s m args below meth c s₁ Bd hml0 hP hK
 obtain ⟨rfl, hZ, hh⟩ := hP
 have hx := Bd.exec
 have hby := Bd.bytes
 have hml : c.maxLocals = 1 := hml0
 have hown : s.vm.findClass "java/util/BitSet" = some m.cls := findClass_of_methodNamed Bd.named
 have hnm := (name_of_methodNamed Bd.named Bd.method).1
 have X0 : Stand p l e ({ frames := 2, cells := 0, slots := 0, locals := 60 } : Room) s m #[(.ref b)] below meth c s₁ [] 0 0 := Stand.of_body Bd
 have e0 : s₁.heap = h0 := by rw [← hh, Bd.state]; rfl
 have N0 := Fr.nil n0
 obtain ⟨Eb, Fw, Fn, Va, hW⟩ := SS
 have ci0 : (0 : Int32).toInt = 0 := by decide
 have ci1 : (1 : Int32).toInt = 1 := by decide
 have ci2 : (2 : Int32).toInt = 2 := by decide
 have ci3 : (3 : Int32).toInt = 3 := by decide
 have ci4 : (4 : Int32).toInt = 4 := by decide
 have ci16 : (16 : Int32).toInt = 16 := by decide
 have ci256 : (256 : Int32).toInt = 256 := by decide
 have ci65536 : (65536 : Int32).toInt = 65536 := by decide
 refine own_close (s := s) (Q := (own_Q_i (fun r => own_topP (own_w wa wb wc wd) r.toInt) h0 n0)) (C := (({ frames := 2, cells := 0, slots := 0, locals := 60 } : Room)).cells) (N := (({ frames := 2, cells := 0, slots := 0, locals := 60 } : Room)).slots) (own_st (fun _ kt => castTop (own_ef20 m b) kt) ?_)
 show own_Rch _ _ _ _ s₁ (mkF m 0 #[oR b] [])
 refine own_st (fun _ => XS.aloadN X0.here hx rfl (hb hby own_d20_0) rfl rfl) ?_
 show own_Rch _ _ _ _ s₁ (mkF m 1 #[oR b] [(.ref b)])
 obtain ⟨T1, X1, e1, st1⟩ := getF X0 hx hZ hown (host := "") (Or.inl (hw _ (own_m 16 rfl))) Via.refl e0 Fn (g := (mkF m 1 #[oR b] [(.ref b)])) rfl rfl (hb hby own_d20_1)
 refine own_st st1 ?_
 show own_Rch _ _ _ _ T1 (mkF m 4 #[oR b] [(.int (4 : Int32))])
 refine own_st (fun _ => XS.ifYes X1.here hx rfl (pc0 := 4) (pc' := 9) rfl (hb hby own_d20_4) rfl ((if0 _ _).trans (feq ((by decide) : ¬ ((4 : Int32) = (0 : Int32)))).2) (by decide) (by decide)) ?_
 show own_Rch _ _ _ _ T1 (mkF m 9 #[oR b] [])
 refine own_st (fun _ => XS.bipush X1.here hx rfl (hb hby own_d20_9)) ?_
 show own_Rch _ _ _ _ T1 (mkF m 11 #[oR b] [(.int (64 : Int32))])
 refine own_st (fun _ => XS.aloadN X1.here hx rfl (hb hby own_d20_11) rfl rfl) ?_
 show own_Rch _ _ _ _ T1 (mkF m 12 #[oR b] [(.ref b), (.int (64 : Int32))])
 obtain ⟨T2, X2, e2, st2⟩ := getF X1 hx hZ hown (host := "") (Or.inl (hw _ (own_m 16 rfl))) Via.refl e1 Fn (g := (mkF m 12 #[oR b] [(.ref b), (.int (64 : Int32))])) rfl rfl (hb hby own_d20_12)
 refine own_st st2 ?_
 show own_Rch _ _ _ _ T2 (mkF m 15 #[oR b] [(.int (4 : Int32)), (.int (64 : Int32))])
 refine own_st (fun _ => XS.iconst X2.here hx rfl (hb hby own_d20_15)) ?_
 show own_Rch _ _ _ _ T2 (mkF m 16 #[oR b] [(.int (1 : Int32)), (.int (4 : Int32)), (.int (64 : Int32))])
 refine own_st (fun _ => XS.isub X2.here hx rfl (hb hby own_d20_16) rfl) ?_
 show own_Rch _ _ _ _ T2 (mkF m 17 #[oR b] [(.int (3 : Int32)), (.int (64 : Int32))])
 refine own_st (fun _ => XS.imul X2.here hx rfl (hb hby own_d20_17) rfl) ?_
 show own_Rch _ _ _ _ T2 (mkF m 18 #[oR b] [(.int (192 : Int32))])
 refine own_st (fun _ => XS.bipush X2.here hx rfl (hb hby own_d20_18)) ?_
 show own_Rch _ _ _ _ T2 (mkF m 20 #[oR b] [(.int (64 : Int32)), (.int (192 : Int32))])
 refine own_st (fun _ => XS.aloadN X2.here hx rfl (hb hby own_d20_20) rfl rfl) ?_
 show own_Rch _ _ _ _ T2 (mkF m 21 #[oR b] [(.ref b), (.int (64 : Int32)), (.int (192 : Int32))])
 obtain ⟨T3, X3, e3, st3⟩ := getF X2 hx hZ hown (host := "") (Or.inl (hw _ (own_m 29 rfl))) Via.refl e2 Fw (g := (mkF m 21 #[oR b] [(.ref b), (.int (64 : Int32)), (.int (192 : Int32))])) rfl rfl (hb hby own_d20_21)
 refine own_st st3 ?_
 show own_Rch _ _ _ _ T3 (mkF m 24 #[oR b] [(.ref y), (.int (64 : Int32)), (.int (192 : Int32))])
 refine own_st (fun _ => XS.aloadN X3.here hx rfl (hb hby own_d20_24) rfl rfl) ?_
 show own_Rch _ _ _ _ T3 (mkF m 25 #[oR b] [(.ref b), (.ref y), (.int (64 : Int32)), (.int (192 : Int32))])
 obtain ⟨T4, X4, e4, st4⟩ := getF X3 hx hZ hown (host := "") (Or.inl (hw _ (own_m 16 rfl))) Via.refl e3 Fn (g := (mkF m 25 #[oR b] [(.ref b), (.ref y), (.int (64 : Int32)), (.int (192 : Int32))])) rfl rfl (hb hby own_d20_25)
 refine own_st st4 ?_
 show own_Rch _ _ _ _ T4 (mkF m 28 #[oR b] [(.int (4 : Int32)), (.ref y), (.int (64 : Int32)), (.int (192 : Int32))])
 refine own_st (fun _ => XS.iconst X4.here hx rfl (hb hby own_d20_28)) ?_
 show own_Rch _ _ _ _ T4 (mkF m 29 #[oR b] [(.int (1 : Int32)), (.int (4 : Int32)), (.ref y), (.int (64 : Int32)), (.int (192 : Int32))])
 refine own_st (fun _ => XS.isub X4.here hx rfl (hb hby own_d20_29) rfl) ?_
 show own_Rch _ _ _ _ T4 (mkF m 30 #[oR b] [(.int (3 : Int32)), (.ref y), (.int (64 : Int32)), (.int (192 : Int32))])
 obtain ⟨cl5, Ar5, q5, S5, M5, H5, G5⟩ := id Va
 have hin5 : ¬ ((3 : Int32) < 0 ∨ cl5.slots.size ≤ ((3 : Int32)).toNatClampNeg) := inb_of S5 ⟨by decide, by decide⟩
 refine own_st (X4.laload hx (j := (3 : Int32)) (v := (.long wd)) (by rw [e4]; exact Ar5.1) (State.isArrayOf_alike (hZ).alike Ar5.2.1) Ar5.2.2 hin5 (H5.at hin5 rfl) (g := (mkF m 30 #[oR b] [(.int (3 : Int32)), (.ref y), (.int (64 : Int32)), (.int (192 : Int32))])) rfl rfl (hb hby own_d20_30)) ?_
 show own_Rch _ _ _ _ T4 (mkF m 31 #[oR b] [(.long wd), (.int (64 : Int32)), (.int (192 : Int32))])
 obtain ⟨_, _, ⟨T6, L6, k6, n6⟩, -, X6, ⟨Lc6, hQ6, l6, y6, z6⟩, st6⟩ := Jvm.LawKit.callS X4 hx (y := (⟨"java/lang/Long", "numberOfLeadingZeros", "(J)I"⟩ : MethodName)) hown (mvT hZ (hw _ (own_m 73 rfl))) (mvT hZ (hw _ (own_m 74 rfl))) (mvT hZ (hw _ (own_m 75 rfl))) (mvT hZ (hw _ (own_m 76 rfl))) (by decide) (backOf (W := 2) (own_nlzL l Z a0 hw [] wd h0 n0 O0 (own_Wn (q := 3) hW (by decide))) hZ (hw _ (own_m 76 rfl)) (hw _ (own_m 75 rfl)) (by decide) (by decide)) (g := (mkF m 31 #[oR b] [(.long wd), (.int (64 : Int32)), (.int (192 : Int32))])) rfl (by rw [hml]; rfl) (argsL := [(.long wd)]) (rest := [(.int (64 : Int32)), (.int (192 : Int32))]) (lenOf own_pd1 rfl) rfl (by show 2 * 0 + _ ≤ _; exact Nat.le_of_eq rfl) (hb hby own_d20_31) (fun _ _ => ⟨rfl, e4, (by decide : 0 + 0 ≤ _), (by decide : 0 + 0 ≤ _)⟩)
 dsimp only [Pt.U, Pt.locs, Pt.cells, Pt.slots] at X6 l6 y6 z6 st6 hQ6
 subst l6 y6 z6
 obtain ⟨rr6, rfl, N6q, hh6, hn6⟩ := hQ6
 have N6 := Fr.app N0 N6q
 refine own_st st6 ?_
 show own_Rch _ _ _ _ T6 (mkF m 34 #[oR b] [(.int rr6), (.int (64 : Int32)), (.int (192 : Int32))])
 refine own_st (fun _ => XS.isub X6.here hx rfl (hb hby own_d20_34) rfl) ?_
 show own_Rch _ _ _ _ T6 (mkF m 35 #[oR b] [(.int ((64 : Int32) - rr6)), (.int (192 : Int32))])
 refine own_st (fun _ => XS.iadd X6.here hx rfl (hb hby own_d20_35) rfl) ?_
 show own_Rch _ _ _ _ T6 (mkF m 36 #[oR b] [(.int ((192 : Int32) + ((64 : Int32) - rr6)))])
 refine own_retI X6 hx Bd.notSynchronized Bd.returns (hb hby own_d20_36) (by decide) (by decide) ?_
 rw [hh6]
 obtain ⟨qk, qk63, qr, -⟩ := id hn6
 have r1 := own_sb (x := (64 : Int32)) (y := rr6) (show _ = (64 : Int) by decide) rfl (by omega) (by omega)
 have r2 := own_sm (x := (192 : Int32)) (show _ = (192 : Int) by decide) r1 (by omega) (by omega)
 exact ⟨_, rfl, N6, rfl, own_topA (q := 3) hW (by decide) hn6 (by rw [r2]; omega)⟩
theorem own_length (l : Launch) (Z : State) (a0 : Array Value) (hw : ∀ d ∈ tables_1, d.before a0 Z = true) (ws : List Jvm.Cond) (b : Addr) (y : Addr) (ka : ClassId) (wa : Int64) (wb : Int64) (wc : Int64) (wd : Int64) (nn : Int32) (h0 : Heap) (n0 : Nat) (O0 : Old Z n0 h0) (SS : own_St Z h0 b y ka wa wb wc wd nn) :
    MetFree l (⟨"java/util/BitSet", "length", "()I"⟩ : MethodName) (head1 (Jvm.Cond.code (⟨"java/util/BitSet", "length", "()I"⟩ : MethodName) jdk_92_method_32_code 1 (some .int) :: ws) ({ frames := 2, cells := 0, slots := 0, locals := 60 } : Room)) (fun args_ U => args_ = #[(.ref b)] ∧ Z.Warmed39 U.vm ∧ U.heap = h0) (fun _ _ _ _ _ => True) (fun _ U o U' => ∃ v L, o = .returned v ∧ (own_Q_i (fun r => own_topP (own_w wa wb wc wd) r.toInt) h0 n0) v U'.heap L ∧ FrameEnd U o U' L ({ frames := 2, cells := 0, slots := 0, locals := 60 } : Room).cells ({ frames := 2, cells := 0, slots := 0, locals := 60 } : Room).slots) := by
  rcases own_5 SS.2.2.2.2.1 with rfl | rfl | rfl | rfl | rfl
  · exact own_len0 l Z a0 hw ws b y ka wa wb wc wd h0 n0 O0 SS
  · exact own_len1 l Z a0 hw ws b y ka wa wb wc wd h0 n0 O0 SS
  · exact own_len2 l Z a0 hw ws b y ka wa wb wc wd h0 n0 O0 SS
  · exact own_len3 l Z a0 hw ws b y ka wa wb wc wd h0 n0 O0 SS
  · exact own_len4 l Z a0 hw ws b y ka wa wb wc wd h0 n0 O0 SS
theorem own_ef13 (m : MethodId) (x0 : Addr) (x1 : Int32) : entryFrame m #[(.ref x0), (.int x1)] 5 = mkF m 0 #[.val (.ref x0), .val (.int x1), .unset, .unset, .unset] [] := by first | (simp [entryFrame, mkF, argsToLocals, Value.category]; done) | rfl
theorem own_d13_0 : decode jdk_92_method_30_code 0 = .ok (.iload_n 1, 1) := by decide +kernel
theorem own_d13_1 : decode jdk_92_method_30_code 1 = .ok (.ifCond .ge 37, 3) := by decide +kernel
theorem own_d13_38 : decode jdk_92_method_30_code 38 = .ok (.aload_n 0, 1) := by decide +kernel
theorem own_d13_39 : decode jdk_92_method_30_code 39 = .ok (.invokevirtual 56, 3) := by decide +kernel
theorem own_pd2 : parseMethodDescriptor "()V" = some ⟨[], none⟩ := by decide +kernel
theorem own_d13_42 : decode jdk_92_method_30_code 42 = .ok (.iload_n 1, 1) := by decide +kernel
theorem own_d13_43 : decode jdk_92_method_30_code 43 = .ok (.invokestatic 52, 3) := by decide +kernel
theorem own_d13_46 : decode jdk_92_method_30_code 46 = .ok (.istore_n 2, 1) := by decide +kernel
theorem own_d13_47 : decode jdk_92_method_30_code 47 = .ok (.iload_n 2, 1) := by decide +kernel
theorem own_d13_48 : decode jdk_92_method_30_code 48 = .ok (.aload_n 0, 1) := by decide +kernel
theorem own_d13_49 : decode jdk_92_method_30_code 49 = .ok (.getfield 7, 3) := by decide +kernel
theorem own_d13_52 : decode jdk_92_method_30_code 52 = .ok (.if_icmp .lt 10, 3) := by decide +kernel
theorem own_d13_62 : decode jdk_92_method_30_code 62 = .ok (.aload_n 0, 1) := by decide +kernel
theorem own_d13_63 : decode jdk_92_method_30_code 63 = .ok (.getfield 11, 3) := by decide +kernel
theorem own_d13_66 : decode jdk_92_method_30_code 66 = .ok (.iload_n 2, 1) := by decide +kernel
theorem own_d13_67 : decode jdk_92_method_30_code 67 = .ok (.laload, 1) := by decide +kernel
theorem own_d13_68 : decode jdk_92_method_30_code 68 = .ok (.ldc2_w 165, 3) := by decide +kernel
theorem own_d13_71 : decode jdk_92_method_30_code 71 = .ok (.iload_n 1, 1) := by decide +kernel
theorem own_d13_72 : decode jdk_92_method_30_code 72 = .ok (.iconst 1, 1) := by decide +kernel
theorem own_d13_73 : decode jdk_92_method_30_code 73 = .ok (.iadd, 1) := by decide +kernel
theorem own_d13_74 : decode jdk_92_method_30_code 74 = .ok (.ineg, 1) := by decide +kernel
theorem own_d13_75 : decode jdk_92_method_30_code 75 = .ok (.lushr, 1) := by decide +kernel
theorem own_d13_76 : decode jdk_92_method_30_code 76 = .ok (.land, 1) := by decide +kernel
theorem own_d13_77 : decode jdk_92_method_30_code 77 = .ok (.lstore_n 3, 1) := by decide +kernel
theorem own_d13_78 : decode jdk_92_method_30_code 78 = .ok (.lload_n 3, 1) := by decide +kernel
theorem own_d13_79 : decode jdk_92_method_30_code 79 = .ok (.lconst 0, 1) := by decide +kernel
theorem own_d13_80 : decode jdk_92_method_30_code 80 = .ok (.lcmp, 1) := by decide +kernel
theorem own_d13_81 : decode jdk_92_method_30_code 81 = .ok (.ifCond .eq 17, 3) := by decide +kernel
theorem own_d13_98 : decode jdk_92_method_30_code 98 = .ok (.iload_n 2, 1) := by decide +kernel
theorem own_d13_99 : decode jdk_92_method_30_code 99 = .ok (.iinc 2 (-1), 3) := by decide +kernel
theorem own_d13_102 : decode jdk_92_method_30_code 102 = .ok (.ifCond .ne 5, 3) := by decide +kernel
theorem own_d13_105 : decode jdk_92_method_30_code 105 = .ok (.iconst (-1), 1) := by decide +kernel
theorem own_d13_106 : decode jdk_92_method_30_code 106 = .ok (.ireturn, 1) := by decide +kernel
theorem own_d13_84 : decode jdk_92_method_30_code 84 = .ok (.iload_n 2, 1) := by decide +kernel
theorem own_d13_85 : decode jdk_92_method_30_code 85 = .ok (.iconst 1, 1) := by decide +kernel
theorem own_d13_86 : decode jdk_92_method_30_code 86 = .ok (.iadd, 1) := by decide +kernel
theorem own_d13_87 : decode jdk_92_method_30_code 87 = .ok (.bipush 64, 2) := by decide +kernel
theorem own_d13_89 : decode jdk_92_method_30_code 89 = .ok (.imul, 1) := by decide +kernel
theorem own_d13_90 : decode jdk_92_method_30_code 90 = .ok (.iconst 1, 1) := by decide +kernel
theorem own_d13_91 : decode jdk_92_method_30_code 91 = .ok (.isub, 1) := by decide +kernel
theorem own_d13_92 : decode jdk_92_method_30_code 92 = .ok (.lload_n 3, 1) := by decide +kernel
theorem own_d13_93 : decode jdk_92_method_30_code 93 = .ok (.invokestatic 190, 3) := by decide +kernel
theorem own_d13_96 : decode jdk_92_method_30_code 96 = .ok (.isub, 1) := by decide +kernel
theorem own_d13_97 : decode jdk_92_method_30_code 97 = .ok (.ireturn, 1) := by decide +kernel
theorem own_d13_55 : decode jdk_92_method_30_code 55 = .ok (.aload_n 0, 1) := by decide +kernel
theorem own_d13_56 : decode jdk_92_method_30_code 56 = .ok (.invokevirtual 177, 3) := by decide +kernel
theorem own_pd3 : parseMethodDescriptor "()I" = some ⟨[], some .int⟩ := by decide +kernel
theorem own_d13_59 : decode jdk_92_method_30_code 59 = .ok (.iconst 1, 1) := by decide +kernel
theorem own_d13_60 : decode jdk_92_method_30_code 60 = .ok (.isub, 1) := by decide +kernel
theorem own_d13_61 : decode jdk_92_method_30_code 61 = .ok (.ireturn, 1) := by decide +kernel
set_option maxRecDepth 65536 in
set_option maxHeartbeats 40000000 in
theorem own_prev0 (l : Launch) (Z : State) (a0 : Array Value) (hw : ∀ d ∈ tables_1, d.before a0 Z = true) (ws : List Jvm.Cond) (b : Addr) (y : Addr) (ka : ClassId) (wa : Int64) (wb : Int64) (wc : Int64) (wd : Int64) (nn : Int32) (i : Int32) (h0 : Heap) (n0 : Nat) (O0 : Old Z n0 h0) (SA : Sta Z Z.heap "java/util/BitSet" "$assertionsDisabled" "Z" (.int (1 : Int32))) (SS : own_St Z h0 b y ka wa wb wc wd nn) (hi0 : 0 ≤ i.toInt) (hi1 : i.toInt < 256) (hq : (i >>> ((6 : Int32) &&& 31)) = (0 : Int32)) :
    MetFree l (⟨"java/util/BitSet", "previousSetBit", "(I)I"⟩ : MethodName) (head1 (Jvm.Cond.code (⟨"java/util/BitSet", "previousSetBit", "(I)I"⟩ : MethodName) jdk_92_method_30_code 5 (some .int) :: ws) ({ frames := 3, cells := 0, slots := 0, locals := 100 } : Room)) (fun args_ U => args_ = #[(.ref b), (.int i)] ∧ Z.Warmed39 U.vm ∧ U.heap = h0) (fun _ _ _ _ _ => True) (fun _ U o U' => ∃ v L, o = .returned v ∧ (own_Q_i (fun r => own_prevP (own_w wa wb wc wd) i.toInt r.toInt) h0 n0) v U'.heap L ∧ FrameEnd U o U' L ({ frames := 3, cells := 0, slots := 0, locals := 100 } : Room).cells ({ frames := 3, cells := 0, slots := 0, locals := 100 } : Room).slots) := by
 refine MetFree.of_bodySF (plainFor_of_name own_pn0) hisR ?_
 intro p e s m args below meth c s₁ Bd hml0 hP hK
 obtain ⟨rfl, hZ, hh⟩ := hP
 have hx := Bd.exec
 have hby := Bd.bytes
 have hml : c.maxLocals = 5 := hml0
 have hown : s.vm.findClass "java/util/BitSet" = some m.cls := findClass_of_methodNamed Bd.named
 have hnm := (name_of_methodNamed Bd.named Bd.method).1
 have X0 : Stand p l e ({ frames := 3, cells := 0, slots := 0, locals := 100 } : Room) s m #[(.ref b), (.int i)] below meth c s₁ [] 0 0 := Stand.of_body Bd
 have e0 : s₁.heap = h0 := by rw [← hh, Bd.state]; rfl
 have N0 := Fr.nil n0
 obtain ⟨Eb, Fw, Fn, Va, hW⟩ := SS
 have ci0 : (0 : Int32).toInt = 0 := by decide
 have ci1 : (1 : Int32).toInt = 1 := by decide
 have ci2 : (2 : Int32).toInt = 2 := by decide
 have ci3 : (3 : Int32).toInt = 3 := by decide
 have ci4 : (4 : Int32).toInt = 4 := by decide
 have ci16 : (16 : Int32).toInt = 16 := by decide
 have ci256 : (256 : Int32).toInt = 256 := by decide
 have ci65536 : (65536 : Int32).toInt = 65536 := by decide
 refine own_close (s := s) (Q := (own_Q_i (fun r => own_prevP (own_w wa wb wc wd) i.toInt r.toInt) h0 n0)) (C := (({ frames := 3, cells := 0, slots := 0, locals := 100 } : Room)).cells) (N := (({ frames := 3, cells := 0, slots := 0, locals := 100 } : Room)).slots) (own_st (fun _ kt => castTop (own_ef13 m b i) kt) ?_)
 show own_Rch _ _ _ _ s₁ (mkF m 0 #[oR b, oI i, .unset, .unset, .unset] [])
 refine own_st (fun _ => XS.iloadN X0.here hx rfl (hb hby own_d13_0) rfl) ?_
 show own_Rch _ _ _ _ s₁ (mkF m 1 #[oR b, oI i, .unset, .unset, .unset] [(.int i)])
 refine own_st (fun _ => XS.ifYes X0.here hx rfl (pc0 := 1) (pc' := 38) rfl (hb hby own_d13_1) rfl ((if0 _ _).trans (flt ((own_nneg hi0) : ¬ (i < (0 : Int32)))).2.1) (by decide) (by decide)) ?_
 show own_Rch _ _ _ _ s₁ (mkF m 38 #[oR b, oI i, .unset, .unset, .unset] [])
 refine own_st (fun _ => XS.aloadN X0.here hx rfl (hb hby own_d13_38) rfl rfl) ?_
 show own_Rch _ _ _ _ s₁ (mkF m 39 #[oR b, oI i, .unset, .unset, .unset] [(.ref b)])
 obtain ⟨cq1, q1a, q1b⟩ := Eb.cell
 obtain ⟨_, _, ⟨T1, L1, k1, n1⟩, -, X1, ⟨Lc1, hQ1, l1, y1, z1⟩, st1⟩ := X0.privateBack hx (y := (⟨"java/util/BitSet", "checkInvariants", "()V"⟩ : MethodName)) hown (mvT hZ (hw _ (own_m 57 rfl))) (mvT hZ (hw _ (own_m 58 rfl))) (mvT hZ (hw _ (own_m 60 rfl))) (Cond.privateMethod_at (mvP hZ (hw _ (own_m 59 rfl)) (args := #[]))) (mvT hZ (hw _ (own_m 61 rfl))) (by decide) (backOf (W := 0) (own_ci l Z a0 hw [] b h0 n0 O0 SA) hZ (hw _ (own_m 61 rfl)) (hw _ (own_m 11 rfl)) (by decide) (by decide)) (g := (mkF m 39 #[oR b, oI i, .unset, .unset, .unset] [(.ref b)])) rfl (by rw [hml]; rfl) (Steps.refl _) (a := b) (by rw [e0]; exact q1a) q1b (argsL := []) (rest := []) (lenOf own_pd2 rfl) rfl (by show 2 * 0 + _ ≤ _; exact Nat.le_of_eq rfl) (hb hby own_d13_39) (fun _ _ => ⟨rfl, e0, (by decide : 0 + 0 ≤ _), (by decide : 0 + 0 ≤ _)⟩)
 dsimp only [Pt.U, Pt.locs, Pt.cells, Pt.slots] at X1 l1 y1 z1 st1 hQ1
 subst l1 y1 z1
 obtain ⟨rfl, N1q, hh1⟩ := hQ1
 have N1 := Fr.app N0 N1q
 refine own_st (fun _ => st1.trans) ?_
 show own_Rch _ _ _ _ T1 (mkF m 42 #[oR b, oI i, .unset, .unset, .unset] [])
 refine own_st (fun _ => XS.iloadN X1.here hx rfl (hb hby own_d13_42) rfl) ?_
 show own_Rch _ _ _ _ T1 (mkF m 43 #[oR b, oI i, .unset, .unset, .unset] [(.int i)])
 obtain ⟨_, _, ⟨T2, L2, k2, n2⟩, -, X2, ⟨Lc2, hQ2, l2, y2, z2⟩, st2⟩ := Jvm.LawKit.callS X1 hx (y := (⟨"java/util/BitSet", "wordIndex", "(I)I"⟩ : MethodName)) hown (mvT hZ (hw _ (own_m 25 rfl))) (mvT hZ (hw _ (own_m 26 rfl))) (mvT hZ (hw _ (own_m 11 rfl))) (mvT hZ (hw _ (own_m 27 rfl))) (by decide) (backOf (W := 0) (own_wordIndex l Z a0 hw [] i (0 : Int32) h0 n0 O0 hq) hZ (hw _ (own_m 27 rfl)) (hw _ (own_m 11 rfl)) (by decide) (by decide)) (g := (mkF m 43 #[oR b, oI i, .unset, .unset, .unset] [(.int i)])) rfl (by rw [hml]; rfl) (argsL := [(.int i)]) (rest := []) (lenOf own_pd0 rfl) rfl (by show 2 * 0 + _ ≤ _; exact Nat.le_of_eq rfl) (hb hby own_d13_43) (fun _ _ => ⟨rfl, hh1, (by decide : 0 + 0 ≤ _), (by decide : 0 + 0 ≤ _)⟩)
 dsimp only [Pt.U, Pt.locs, Pt.cells, Pt.slots] at X2 l2 y2 z2 st2 hQ2
 subst l2 y2 z2
 obtain ⟨rfl, N2q, hh2⟩ := hQ2
 have N2 := Fr.app N1 N2q
 refine own_st st2 ?_
 show own_Rch _ _ _ _ T2 (mkF m 46 #[oR b, oI i, .unset, .unset, .unset] [(.int (0 : Int32))])
 refine own_st (fun _ => XS.istoreN X2.here hx rfl (hb hby own_d13_46) rfl (l' := #[oR b, oI i, oI (0 : Int32), .unset, .unset]) rfl) ?_
 show own_Rch _ _ _ _ T2 (mkF m 47 #[oR b, oI i, oI (0 : Int32), .unset, .unset] [])
 refine own_st (fun _ => XS.iloadN X2.here hx rfl (hb hby own_d13_47) rfl) ?_
 show own_Rch _ _ _ _ T2 (mkF m 48 #[oR b, oI i, oI (0 : Int32), .unset, .unset] [(.int (0 : Int32))])
 refine own_st (fun _ => XS.aloadN X2.here hx rfl (hb hby own_d13_48) rfl rfl) ?_
 show own_Rch _ _ _ _ T2 (mkF m 49 #[oR b, oI i, oI (0 : Int32), .unset, .unset] [(.ref b), (.int (0 : Int32))])
 obtain ⟨T3, X3, e3, st3⟩ := getF X2 hx hZ hown (host := "") (Or.inl (hw _ (own_m 16 rfl))) Via.refl hh2 Fn (g := (mkF m 49 #[oR b, oI i, oI (0 : Int32), .unset, .unset] [(.ref b), (.int (0 : Int32))])) rfl rfl (hb hby own_d13_49)
 refine own_st st3 ?_
 show own_Rch _ _ _ _ T3 (mkF m 52 #[oR b, oI i, oI (0 : Int32), .unset, .unset] [(.int nn), (.int (0 : Int32))])
 by_cases hc52_4 : (0 : Int32) < nn
 · -- pc 52: True
  refine own_st (fun _ => XS.icmpYes X3.here hx rfl (pc0 := 52) (pc' := 62) rfl (hb hby own_d13_52) rfl (tlt hc52_4).1 (by decide) (by decide)) ?_
  show own_Rch _ _ _ _ T3 (mkF m 62 #[oR b, oI i, oI (0 : Int32), .unset, .unset] [])
  refine own_st (fun _ => XS.aloadN X3.here hx rfl (hb hby own_d13_62) rfl rfl) ?_
  show own_Rch _ _ _ _ T3 (mkF m 63 #[oR b, oI i, oI (0 : Int32), .unset, .unset] [(.ref b)])
  obtain ⟨T5, X5, e5, st5⟩ := getF X3 hx hZ hown (host := "") (Or.inl (hw _ (own_m 29 rfl))) Via.refl e3 Fw (g := (mkF m 63 #[oR b, oI i, oI (0 : Int32), .unset, .unset] [(.ref b)])) rfl rfl (hb hby own_d13_63)
  refine own_st st5 ?_
  show own_Rch _ _ _ _ T5 (mkF m 66 #[oR b, oI i, oI (0 : Int32), .unset, .unset] [(.ref y)])
  refine own_st (fun _ => XS.iloadN X5.here hx rfl (hb hby own_d13_66) rfl) ?_
  show own_Rch _ _ _ _ T5 (mkF m 67 #[oR b, oI i, oI (0 : Int32), .unset, .unset] [(.int (0 : Int32)), (.ref y)])
  obtain ⟨cl6, Ar6, q6, S6, M6, H6, G6⟩ := id Va
  have hin6 : ¬ ((0 : Int32) < 0 ∨ cl6.slots.size ≤ ((0 : Int32)).toNatClampNeg) := inb_of S6 ⟨by decide, by decide⟩
  refine own_st (X5.laload hx (j := (0 : Int32)) (v := (.long wa)) (by rw [e5]; exact Ar6.1) (State.isArrayOf_alike (hZ).alike Ar6.2.1) Ar6.2.2 hin6 (H6.at hin6 rfl) (g := (mkF m 67 #[oR b, oI i, oI (0 : Int32), .unset, .unset] [(.int (0 : Int32)), (.ref y)])) rfl rfl (hb hby own_d13_67)) ?_
  show own_Rch _ _ _ _ T5 (mkF m 68 #[oR b, oI i, oI (0 : Int32), .unset, .unset] [(.long wa)])
  refine own_st (X5.ldc2Long hx hown (mvT hZ (hw _ (own_m 56 rfl))) (g := (mkF m 68 #[oR b, oI i, oI (0 : Int32), .unset, .unset] [(.long wa)])) rfl (hb hby own_d13_68)) ?_
  show own_Rch _ _ _ _ T5 (mkF m 71 #[oR b, oI i, oI (0 : Int32), .unset, .unset] [(.long (-1 : Int64)), (.long wa)])
  refine own_st (fun _ => XS.iloadN X5.here hx rfl (hb hby own_d13_71) rfl) ?_
  show own_Rch _ _ _ _ T5 (mkF m 72 #[oR b, oI i, oI (0 : Int32), .unset, .unset] [(.int i), (.long (-1 : Int64)), (.long wa)])
  refine own_st (fun _ => XS.iconst X5.here hx rfl (hb hby own_d13_72)) ?_
  show own_Rch _ _ _ _ T5 (mkF m 73 #[oR b, oI i, oI (0 : Int32), .unset, .unset] [(.int (1 : Int32)), (.int i), (.long (-1 : Int64)), (.long wa)])
  refine own_st (fun _ => XS.iadd X5.here hx rfl (hb hby own_d13_73) rfl) ?_
  show own_Rch _ _ _ _ T5 (mkF m 74 #[oR b, oI i, oI (0 : Int32), .unset, .unset] [(.int (i + (1 : Int32))), (.long (-1 : Int64)), (.long wa)])
  refine own_st (fun _ => XS.ineg X5.here hx rfl (hb hby own_d13_74) rfl) ?_
  show own_Rch _ _ _ _ T5 (mkF m 75 #[oR b, oI i, oI (0 : Int32), .unset, .unset] [(.int (-(i + (1 : Int32)))), (.long (-1 : Int64)), (.long wa)])
  refine own_st (fun _ => XS.lushr X5.here hx rfl (hb hby own_d13_75) rfl) ?_
  show own_Rch _ _ _ _ T5 (mkF m 76 #[oR b, oI i, oI (0 : Int32), .unset, .unset] [(.long (((-1 : Int64).toUInt64 >>> ((-(i + (1 : Int32))) &&& 0x3f).toInt64.toUInt64).toInt64)), (.long wa)])
  refine own_st (fun _ => XS.land X5.here hx rfl (hb hby own_d13_76) rfl) ?_
  show own_Rch _ _ _ _ T5 (mkF m 77 #[oR b, oI i, oI (0 : Int32), .unset, .unset] [(.long (wa &&& (((-1 : Int64).toUInt64 >>> ((-(i + (1 : Int32))) &&& 0x3f).toInt64.toUInt64).toInt64)))])
  refine own_st (fun _ => XS.lstoreN X5.here hx rfl (hb hby own_d13_77) rfl (l' := #[oR b, oI i, oI (0 : Int32), oL (wa &&& (((-1 : Int64).toUInt64 >>> ((-(i + (1 : Int32))) &&& 0x3f).toInt64.toUInt64).toInt64)), .second]) rfl) ?_
  show own_Rch _ _ _ _ T5 (mkF m 78 #[oR b, oI i, oI (0 : Int32), oL (wa &&& (((-1 : Int64).toUInt64 >>> ((-(i + (1 : Int32))) &&& 0x3f).toInt64.toUInt64).toInt64)), .second] [])
  refine own_st (fun _ => XS.lloadN X5.here hx rfl (hb hby own_d13_78) rfl) ?_
  show own_Rch _ _ _ _ T5 (mkF m 79 #[oR b, oI i, oI (0 : Int32), oL (wa &&& (((-1 : Int64).toUInt64 >>> ((-(i + (1 : Int32))) &&& 0x3f).toInt64.toUInt64).toInt64)), .second] [(.long (wa &&& (((-1 : Int64).toUInt64 >>> ((-(i + (1 : Int32))) &&& 0x3f).toInt64.toUInt64).toInt64)))])
  refine own_st (fun _ => XS.lconst X5.here hx rfl (hb hby own_d13_79)) ?_
  show own_Rch _ _ _ _ T5 (mkF m 80 #[oR b, oI i, oI (0 : Int32), oL (wa &&& (((-1 : Int64).toUInt64 >>> ((-(i + (1 : Int32))) &&& 0x3f).toInt64.toUInt64).toInt64)), .second] [(.long (0 : Int64)), (.long (wa &&& (((-1 : Int64).toUInt64 >>> ((-(i + (1 : Int32))) &&& 0x3f).toInt64.toUInt64).toInt64)))])
  refine own_st (fun _ => XS.lcmp X5.here hx rfl (hb hby own_d13_80) rfl) ?_
  show own_Rch _ _ _ _ T5 (mkF m 81 #[oR b, oI i, oI (0 : Int32), oL (wa &&& (((-1 : Int64).toUInt64 >>> ((-(i + (1 : Int32))) &&& 0x3f).toInt64.toUInt64).toInt64)), .second] [(.int (lcmpW (wa &&& (((-1 : Int64).toUInt64 >>> ((-(i + (1 : Int32))) &&& 0x3f).toInt64.toUInt64).toInt64)) (0 : Int64)))])
  by_cases hc81_7 : (lcmpW (wa &&& (((-1 : Int64).toUInt64 >>> ((-(i + (1 : Int32))) &&& 0x3f).toInt64.toUInt64).toInt64)) (0 : Int64)) = (0 : Int32)
  · -- pc 81: True
   refine own_st (fun _ => XS.ifYes X5.here hx rfl (pc0 := 81) (pc' := 98) rfl (hb hby own_d13_81) rfl ((if0 _ _).trans (teq hc81_7).1) (by decide) (by decide)) ?_
   show own_Rch _ _ _ _ T5 (mkF m 98 #[oR b, oI i, oI (0 : Int32), oL (wa &&& (((-1 : Int64).toUInt64 >>> ((-(i + (1 : Int32))) &&& 0x3f).toInt64.toUInt64).toInt64)), .second] [])
   refine own_st (fun _ => XS.iloadN X5.here hx rfl (hb hby own_d13_98) rfl) ?_
   show own_Rch _ _ _ _ T5 (mkF m 99 #[oR b, oI i, oI (0 : Int32), oL (wa &&& (((-1 : Int64).toUInt64 >>> ((-(i + (1 : Int32))) &&& 0x3f).toInt64.toUInt64).toInt64)), .second] [(.int (0 : Int32))])
   refine own_st (fun _ => XS.iinc X5.here hx rfl (hb hby own_d13_99) rfl (l' := #[oR b, oI i, oI (-1 : Int32), oL (wa &&& (((-1 : Int64).toUInt64 >>> ((-(i + (1 : Int32))) &&& 0x3f).toInt64.toUInt64).toInt64)), .second]) rfl) ?_
   show own_Rch _ _ _ _ T5 (mkF m 102 #[oR b, oI i, oI (-1 : Int32), oL (wa &&& (((-1 : Int64).toUInt64 >>> ((-(i + (1 : Int32))) &&& 0x3f).toInt64.toUInt64).toInt64)), .second] [(.int (0 : Int32))])
   refine own_st (fun _ => XS.ifNo X5.here hx rfl (hb hby own_d13_102) rfl ((if0 _ _).trans (teq (rfl : (0 : Int32) = (0 : Int32))).2)) ?_
   show own_Rch _ _ _ _ T5 (mkF m 105 #[oR b, oI i, oI (-1 : Int32), oL (wa &&& (((-1 : Int64).toUInt64 >>> ((-(i + (1 : Int32))) &&& 0x3f).toInt64.toUInt64).toInt64)), .second] [])
   refine own_st (fun _ => XS.iconst X5.here hx rfl (hb hby own_d13_105)) ?_
   show own_Rch _ _ _ _ T5 (mkF m 106 #[oR b, oI i, oI (-1 : Int32), oL (wa &&& (((-1 : Int64).toUInt64 >>> ((-(i + (1 : Int32))) &&& 0x3f).toInt64.toUInt64).toInt64)), .second] [(.int (-1 : Int32))])
   refine own_retI X5 hx Bd.notSynchronized Bd.returns (hb hby own_d13_106) (by decide) (by decide) ?_
   rw [e5]
   refine ⟨_, rfl, N2, rfl, own_prevC' (W := (own_w wa wb wc wd)) (q := 0) hi0 (own_wi hq (by decide)) (own_mlo (W := (own_w wa wb wc wd)) (q := 0) hi0 (by omega)) ((lw_eq _ _).mp hc81_7) ?_⟩
   intro v h1; omega
  · -- pc 81: False
   refine own_st (fun _ => XS.ifNo X5.here hx rfl (hb hby own_d13_81) rfl ((if0 _ _).trans (feq hc81_7).1)) ?_
   show own_Rch _ _ _ _ T5 (mkF m 84 #[oR b, oI i, oI (0 : Int32), oL (wa &&& (((-1 : Int64).toUInt64 >>> ((-(i + (1 : Int32))) &&& 0x3f).toInt64.toUInt64).toInt64)), .second] [])
   refine own_st (fun _ => XS.iloadN X5.here hx rfl (hb hby own_d13_84) rfl) ?_
   show own_Rch _ _ _ _ T5 (mkF m 85 #[oR b, oI i, oI (0 : Int32), oL (wa &&& (((-1 : Int64).toUInt64 >>> ((-(i + (1 : Int32))) &&& 0x3f).toInt64.toUInt64).toInt64)), .second] [(.int (0 : Int32))])
   refine own_st (fun _ => XS.iconst X5.here hx rfl (hb hby own_d13_85)) ?_
   show own_Rch _ _ _ _ T5 (mkF m 86 #[oR b, oI i, oI (0 : Int32), oL (wa &&& (((-1 : Int64).toUInt64 >>> ((-(i + (1 : Int32))) &&& 0x3f).toInt64.toUInt64).toInt64)), .second] [(.int (1 : Int32)), (.int (0 : Int32))])
   refine own_st (fun _ => XS.iadd X5.here hx rfl (hb hby own_d13_86) rfl) ?_
   show own_Rch _ _ _ _ T5 (mkF m 87 #[oR b, oI i, oI (0 : Int32), oL (wa &&& (((-1 : Int64).toUInt64 >>> ((-(i + (1 : Int32))) &&& 0x3f).toInt64.toUInt64).toInt64)), .second] [(.int (1 : Int32))])
   refine own_st (fun _ => XS.bipush X5.here hx rfl (hb hby own_d13_87)) ?_
   show own_Rch _ _ _ _ T5 (mkF m 89 #[oR b, oI i, oI (0 : Int32), oL (wa &&& (((-1 : Int64).toUInt64 >>> ((-(i + (1 : Int32))) &&& 0x3f).toInt64.toUInt64).toInt64)), .second] [(.int (64 : Int32)), (.int (1 : Int32))])
   refine own_st (fun _ => XS.imul X5.here hx rfl (hb hby own_d13_89) rfl) ?_
   show own_Rch _ _ _ _ T5 (mkF m 90 #[oR b, oI i, oI (0 : Int32), oL (wa &&& (((-1 : Int64).toUInt64 >>> ((-(i + (1 : Int32))) &&& 0x3f).toInt64.toUInt64).toInt64)), .second] [(.int (64 : Int32))])
   refine own_st (fun _ => XS.iconst X5.here hx rfl (hb hby own_d13_90)) ?_
   show own_Rch _ _ _ _ T5 (mkF m 91 #[oR b, oI i, oI (0 : Int32), oL (wa &&& (((-1 : Int64).toUInt64 >>> ((-(i + (1 : Int32))) &&& 0x3f).toInt64.toUInt64).toInt64)), .second] [(.int (1 : Int32)), (.int (64 : Int32))])
   refine own_st (fun _ => XS.isub X5.here hx rfl (hb hby own_d13_91) rfl) ?_
   show own_Rch _ _ _ _ T5 (mkF m 92 #[oR b, oI i, oI (0 : Int32), oL (wa &&& (((-1 : Int64).toUInt64 >>> ((-(i + (1 : Int32))) &&& 0x3f).toInt64.toUInt64).toInt64)), .second] [(.int (63 : Int32))])
   refine own_st (fun _ => XS.lloadN X5.here hx rfl (hb hby own_d13_92) rfl) ?_
   show own_Rch _ _ _ _ T5 (mkF m 93 #[oR b, oI i, oI (0 : Int32), oL (wa &&& (((-1 : Int64).toUInt64 >>> ((-(i + (1 : Int32))) &&& 0x3f).toInt64.toUInt64).toInt64)), .second] [(.long (wa &&& (((-1 : Int64).toUInt64 >>> ((-(i + (1 : Int32))) &&& 0x3f).toInt64.toUInt64).toInt64))), (.int (63 : Int32))])
   obtain ⟨_, _, ⟨T8, L8, k8, n8⟩, -, X8, ⟨Lc8, hQ8, l8, y8, z8⟩, st8⟩ := Jvm.LawKit.callS X5 hx (y := (⟨"java/lang/Long", "numberOfLeadingZeros", "(J)I"⟩ : MethodName)) hown (mvT hZ (hw _ (own_m 73 rfl))) (mvT hZ (hw _ (own_m 74 rfl))) (mvT hZ (hw _ (own_m 75 rfl))) (mvT hZ (hw _ (own_m 76 rfl))) (by decide) (backOf (W := 1) (own_nlzL l Z a0 hw [] (wa &&& (((-1 : Int64).toUInt64 >>> ((-(i + (1 : Int32))) &&& 0x3f).toInt64.toUInt64).toInt64)) h0 n0 O0 (fun q => hc81_7 ((lw_eq _ _).mpr q))) hZ (hw _ (own_m 76 rfl)) (hw _ (own_m 75 rfl)) (by decide) (by decide)) (g := (mkF m 93 #[oR b, oI i, oI (0 : Int32), oL (wa &&& (((-1 : Int64).toUInt64 >>> ((-(i + (1 : Int32))) &&& 0x3f).toInt64.toUInt64).toInt64)), .second] [(.long (wa &&& (((-1 : Int64).toUInt64 >>> ((-(i + (1 : Int32))) &&& 0x3f).toInt64.toUInt64).toInt64))), (.int (63 : Int32))])) rfl (by rw [hml]; rfl) (argsL := [(.long (wa &&& (((-1 : Int64).toUInt64 >>> ((-(i + (1 : Int32))) &&& 0x3f).toInt64.toUInt64).toInt64)))]) (rest := [(.int (63 : Int32))]) (lenOf own_pd1 rfl) rfl (by show 2 * 0 + _ ≤ _; exact Nat.le_of_eq rfl) (hb hby own_d13_93) (fun _ _ => ⟨rfl, e5, (by decide : 0 + 0 ≤ _), (by decide : 0 + 0 ≤ _)⟩)
   dsimp only [Pt.U, Pt.locs, Pt.cells, Pt.slots] at X8 l8 y8 z8 st8 hQ8
   subst l8 y8 z8
   obtain ⟨rr8, rfl, N8q, hh8, hn8⟩ := hQ8
   have N8 := Fr.app N2 N8q
   refine own_st st8 ?_
   show own_Rch _ _ _ _ T8 (mkF m 96 #[oR b, oI i, oI (0 : Int32), oL (wa &&& (((-1 : Int64).toUInt64 >>> ((-(i + (1 : Int32))) &&& 0x3f).toInt64.toUInt64).toInt64)), .second] [(.int rr8), (.int (63 : Int32))])
   refine own_st (fun _ => XS.isub X8.here hx rfl (hb hby own_d13_96) rfl) ?_
   show own_Rch _ _ _ _ T8 (mkF m 97 #[oR b, oI i, oI (0 : Int32), oL (wa &&& (((-1 : Int64).toUInt64 >>> ((-(i + (1 : Int32))) &&& 0x3f).toInt64.toUInt64).toInt64)), .second] [(.int ((63 : Int32) - rr8))])
   refine own_retI X8 hx Bd.notSynchronized Bd.returns (hb hby own_d13_97) (by decide) (by decide) ?_
   rw [hh8]
   obtain ⟨qk, qk63, qr, -⟩ := id hn8
   have r1 := own_sb (x := (63 : Int32)) (y := rr8) (show _ = (63 : Int) by decide) rfl (by omega) (by omega)
   exact ⟨_, rfl, N8, rfl, own_prevA (W := (own_w wa wb wc wd)) (q := 0) hi0 (own_wi hq (by decide)) (own_mlo (W := (own_w wa wb wc wd)) (q := 0) hi0 (by omega)) hn8 (by rw [r1]; omega)⟩
 · -- pc 52: False
  refine own_st (fun _ => XS.icmpNo X3.here hx rfl (hb hby own_d13_52) rfl (flt hc52_4).1) ?_
  show own_Rch _ _ _ _ T3 (mkF m 55 #[oR b, oI i, oI (0 : Int32), .unset, .unset] [])
  refine own_st (fun _ => XS.aloadN X3.here hx rfl (hb hby own_d13_55) rfl rfl) ?_
  show own_Rch _ _ _ _ T3 (mkF m 56 #[oR b, oI i, oI (0 : Int32), .unset, .unset] [(.ref b)])
  obtain ⟨cq9, kq9, q9a, q9b, q9c⟩ := isOf hZ e3 Eb
  obtain ⟨_, _, ⟨T9, L9, k9, n9⟩, -, X9, ⟨Lc9, hQ9, l9, y9, z9⟩, st9⟩ := X3.virtualBack hx (y := (⟨"java/util/BitSet", "length", "()I"⟩ : MethodName)) (z := (⟨"java/util/BitSet", "length", "()I"⟩ : MethodName)) hown (mvT hZ (hw _ (own_m 107 rfl))) (mvT hZ (hw _ (own_m 99 rfl))) (notFace_of_selects (args := #[]) (mvT hZ (hw _ (own_m 101 rfl)))) (mvT hZ (hw _ (own_m 101 rfl))) (mvT hZ (hw _ (own_m 100 rfl))) (by decide) (backOf (W := 0) (own_length l Z a0 hw [] b y ka wa wb wc wd nn h0 n0 O0 ⟨Eb, Fw, Fn, Va, hW⟩) hZ (hw _ (own_m 102 rfl)) (hw _ (own_m 11 rfl)) (by decide) (by decide)) q9a q9c (g := (mkF m 56 #[oR b, oI i, oI (0 : Int32), .unset, .unset] [(.ref b)])) rfl (by rw [hml]; rfl) (Steps.refl _) (argsL := []) (rest := []) (lenOf own_pd3 rfl) rfl (by show 2 * 0 + _ ≤ _; exact Nat.le_of_eq rfl) (hb hby own_d13_56) (fun _ _ => ⟨rfl, e3, (by decide : 0 + 0 ≤ _), (by decide : 0 + 0 ≤ _)⟩)
  dsimp only [Pt.U, Pt.locs, Pt.cells, Pt.slots] at X9 l9 y9 z9 st9 hQ9
  subst l9 y9 z9
  obtain ⟨rr9, rfl, N9q, hh9, tp9⟩ := hQ9
  have N9 := Fr.app N2 N9q
  refine own_st (fun _ => st9.trans) ?_
  show own_Rch _ _ _ _ T9 (mkF m 59 #[oR b, oI i, oI (0 : Int32), .unset, .unset] [(.int rr9)])
  refine own_st (fun _ => XS.iconst X9.here hx rfl (hb hby own_d13_59)) ?_
  show own_Rch _ _ _ _ T9 (mkF m 60 #[oR b, oI i, oI (0 : Int32), .unset, .unset] [(.int (1 : Int32)), (.int rr9)])
  refine own_st (fun _ => XS.isub X9.here hx rfl (hb hby own_d13_60) rfl) ?_
  show own_Rch _ _ _ _ T9 (mkF m 61 #[oR b, oI i, oI (0 : Int32), .unset, .unset] [(.int (rr9 - (1 : Int32)))])
  refine own_retI X9 hx Bd.notSynchronized Bd.returns (hb hby own_d13_61) (by decide) (by decide) ?_
  rw [hh9]
  have hlt := hi0; rw [Int32.lt_iff_toInt_lt] at hc52_4
  have hqq := own_wi hq (show _ = ((0 : Nat) : Int) by decide)
  exact ⟨_, rfl, N9, rfl, own_prevD' hW (by omega) tp9⟩
theorem own_d13_107 : decode jdk_92_method_30_code 107 = .ok (.aload_n 0, 1) := by decide +kernel
theorem own_d13_108 : decode jdk_92_method_30_code 108 = .ok (.getfield 11, 3) := by decide +kernel
theorem own_d13_111 : decode jdk_92_method_30_code 111 = .ok (.iload_n 2, 1) := by decide +kernel
theorem own_d13_112 : decode jdk_92_method_30_code 112 = .ok (.laload, 1) := by decide +kernel
theorem own_d13_113 : decode jdk_92_method_30_code 113 = .ok (.lstore_n 3, 1) := by decide +kernel
theorem own_d13_114 : decode jdk_92_method_30_code 114 = .ok (.goto (-36), 3) := by decide +kernel
set_option maxRecDepth 65536 in
set_option maxHeartbeats 40000000 in
theorem own_prev1 (l : Launch) (Z : State) (a0 : Array Value) (hw : ∀ d ∈ tables_1, d.before a0 Z = true) (ws : List Jvm.Cond) (b : Addr) (y : Addr) (ka : ClassId) (wa : Int64) (wb : Int64) (wc : Int64) (wd : Int64) (nn : Int32) (i : Int32) (h0 : Heap) (n0 : Nat) (O0 : Old Z n0 h0) (SA : Sta Z Z.heap "java/util/BitSet" "$assertionsDisabled" "Z" (.int (1 : Int32))) (SS : own_St Z h0 b y ka wa wb wc wd nn) (hi0 : 0 ≤ i.toInt) (hi1 : i.toInt < 256) (hq : (i >>> ((6 : Int32) &&& 31)) = (1 : Int32)) :
    MetFree l (⟨"java/util/BitSet", "previousSetBit", "(I)I"⟩ : MethodName) (head1 (Jvm.Cond.code (⟨"java/util/BitSet", "previousSetBit", "(I)I"⟩ : MethodName) jdk_92_method_30_code 5 (some .int) :: ws) ({ frames := 3, cells := 0, slots := 0, locals := 100 } : Room)) (fun args_ U => args_ = #[(.ref b), (.int i)] ∧ Z.Warmed39 U.vm ∧ U.heap = h0) (fun _ _ _ _ _ => True) (fun _ U o U' => ∃ v L, o = .returned v ∧ (own_Q_i (fun r => own_prevP (own_w wa wb wc wd) i.toInt r.toInt) h0 n0) v U'.heap L ∧ FrameEnd U o U' L ({ frames := 3, cells := 0, slots := 0, locals := 100 } : Room).cells ({ frames := 3, cells := 0, slots := 0, locals := 100 } : Room).slots) := by
 refine MetFree.of_bodySF (plainFor_of_name own_pn0) hisR ?_
 intro p e s m args below meth c s₁ Bd hml0 hP hK
 obtain ⟨rfl, hZ, hh⟩ := hP
 have hx := Bd.exec
 have hby := Bd.bytes
 have hml : c.maxLocals = 5 := hml0
 have hown : s.vm.findClass "java/util/BitSet" = some m.cls := findClass_of_methodNamed Bd.named
 have hnm := (name_of_methodNamed Bd.named Bd.method).1
 have X0 : Stand p l e ({ frames := 3, cells := 0, slots := 0, locals := 100 } : Room) s m #[(.ref b), (.int i)] below meth c s₁ [] 0 0 := Stand.of_body Bd
 have e0 : s₁.heap = h0 := by rw [← hh, Bd.state]; rfl
 have N0 := Fr.nil n0
 obtain ⟨Eb, Fw, Fn, Va, hW⟩ := SS
 have ci0 : (0 : Int32).toInt = 0 := by decide
 have ci1 : (1 : Int32).toInt = 1 := by decide
 have ci2 : (2 : Int32).toInt = 2 := by decide
 have ci3 : (3 : Int32).toInt = 3 := by decide
 have ci4 : (4 : Int32).toInt = 4 := by decide
 have ci16 : (16 : Int32).toInt = 16 := by decide
 have ci256 : (256 : Int32).toInt = 256 := by decide
 have ci65536 : (65536 : Int32).toInt = 65536 := by decide
 refine own_close (s := s) (Q := (own_Q_i (fun r => own_prevP (own_w wa wb wc wd) i.toInt r.toInt) h0 n0)) (C := (({ frames := 3, cells := 0, slots := 0, locals := 100 } : Room)).cells) (N := (({ frames := 3, cells := 0, slots := 0, locals := 100 } : Room)).slots) (own_st (fun _ kt => castTop (own_ef13 m b i) kt) ?_)
 show own_Rch _ _ _ _ s₁ (mkF m 0 #[oR b, oI i, .unset, .unset, .unset] [])
 refine own_st (fun _ => XS.iloadN X0.here hx rfl (hb hby own_d13_0) rfl) ?_
 show own_Rch _ _ _ _ s₁ (mkF m 1 #[oR b, oI i, .unset, .unset, .unset] [(.int i)])
 refine own_st (fun _ => XS.ifYes X0.here hx rfl (pc0 := 1) (pc' := 38) rfl (hb hby own_d13_1) rfl ((if0 _ _).trans (flt ((own_nneg hi0) : ¬ (i < (0 : Int32)))).2.1) (by decide) (by decide)) ?_
 show own_Rch _ _ _ _ s₁ (mkF m 38 #[oR b, oI i, .unset, .unset, .unset] [])
 refine own_st (fun _ => XS.aloadN X0.here hx rfl (hb hby own_d13_38) rfl rfl) ?_
 show own_Rch _ _ _ _ s₁ (mkF m 39 #[oR b, oI i, .unset, .unset, .unset] [(.ref b)])
 obtain ⟨cq1, q1a, q1b⟩ := Eb.cell
 obtain ⟨_, _, ⟨T1, L1, k1, n1⟩, -, X1, ⟨Lc1, hQ1, l1, y1, z1⟩, st1⟩ := X0.privateBack hx (y := (⟨"java/util/BitSet", "checkInvariants", "()V"⟩ : MethodName)) hown (mvT hZ (hw _ (own_m 57 rfl))) (mvT hZ (hw _ (own_m 58 rfl))) (mvT hZ (hw _ (own_m 60 rfl))) (Cond.privateMethod_at (mvP hZ (hw _ (own_m 59 rfl)) (args := #[]))) (mvT hZ (hw _ (own_m 61 rfl))) (by decide) (backOf (W := 0) (own_ci l Z a0 hw [] b h0 n0 O0 SA) hZ (hw _ (own_m 61 rfl)) (hw _ (own_m 11 rfl)) (by decide) (by decide)) (g := (mkF m 39 #[oR b, oI i, .unset, .unset, .unset] [(.ref b)])) rfl (by rw [hml]; rfl) (Steps.refl _) (a := b) (by rw [e0]; exact q1a) q1b (argsL := []) (rest := []) (lenOf own_pd2 rfl) rfl (by show 2 * 0 + _ ≤ _; exact Nat.le_of_eq rfl) (hb hby own_d13_39) (fun _ _ => ⟨rfl, e0, (by decide : 0 + 0 ≤ _), (by decide : 0 + 0 ≤ _)⟩)
 dsimp only [Pt.U, Pt.locs, Pt.cells, Pt.slots] at X1 l1 y1 z1 st1 hQ1
 subst l1 y1 z1
 obtain ⟨rfl, N1q, hh1⟩ := hQ1
 have N1 := Fr.app N0 N1q
 refine own_st (fun _ => st1.trans) ?_
 show own_Rch _ _ _ _ T1 (mkF m 42 #[oR b, oI i, .unset, .unset, .unset] [])
 refine own_st (fun _ => XS.iloadN X1.here hx rfl (hb hby own_d13_42) rfl) ?_
 show own_Rch _ _ _ _ T1 (mkF m 43 #[oR b, oI i, .unset, .unset, .unset] [(.int i)])
 obtain ⟨_, _, ⟨T2, L2, k2, n2⟩, -, X2, ⟨Lc2, hQ2, l2, y2, z2⟩, st2⟩ := Jvm.LawKit.callS X1 hx (y := (⟨"java/util/BitSet", "wordIndex", "(I)I"⟩ : MethodName)) hown (mvT hZ (hw _ (own_m 25 rfl))) (mvT hZ (hw _ (own_m 26 rfl))) (mvT hZ (hw _ (own_m 11 rfl))) (mvT hZ (hw _ (own_m 27 rfl))) (by decide) (backOf (W := 0) (own_wordIndex l Z a0 hw [] i (1 : Int32) h0 n0 O0 hq) hZ (hw _ (own_m 27 rfl)) (hw _ (own_m 11 rfl)) (by decide) (by decide)) (g := (mkF m 43 #[oR b, oI i, .unset, .unset, .unset] [(.int i)])) rfl (by rw [hml]; rfl) (argsL := [(.int i)]) (rest := []) (lenOf own_pd0 rfl) rfl (by show 2 * 0 + _ ≤ _; exact Nat.le_of_eq rfl) (hb hby own_d13_43) (fun _ _ => ⟨rfl, hh1, (by decide : 0 + 0 ≤ _), (by decide : 0 + 0 ≤ _)⟩)
 dsimp only [Pt.U, Pt.locs, Pt.cells, Pt.slots] at X2 l2 y2 z2 st2 hQ2
 subst l2 y2 z2
 obtain ⟨rfl, N2q, hh2⟩ := hQ2
 have N2 := Fr.app N1 N2q
 refine own_st st2 ?_
 show own_Rch _ _ _ _ T2 (mkF m 46 #[oR b, oI i, .unset, .unset, .unset] [(.int (1 : Int32))])
 refine own_st (fun _ => XS.istoreN X2.here hx rfl (hb hby own_d13_46) rfl (l' := #[oR b, oI i, oI (1 : Int32), .unset, .unset]) rfl) ?_
 show own_Rch _ _ _ _ T2 (mkF m 47 #[oR b, oI i, oI (1 : Int32), .unset, .unset] [])
 refine own_st (fun _ => XS.iloadN X2.here hx rfl (hb hby own_d13_47) rfl) ?_
 show own_Rch _ _ _ _ T2 (mkF m 48 #[oR b, oI i, oI (1 : Int32), .unset, .unset] [(.int (1 : Int32))])
 refine own_st (fun _ => XS.aloadN X2.here hx rfl (hb hby own_d13_48) rfl rfl) ?_
 show own_Rch _ _ _ _ T2 (mkF m 49 #[oR b, oI i, oI (1 : Int32), .unset, .unset] [(.ref b), (.int (1 : Int32))])
 obtain ⟨T3, X3, e3, st3⟩ := getF X2 hx hZ hown (host := "") (Or.inl (hw _ (own_m 16 rfl))) Via.refl hh2 Fn (g := (mkF m 49 #[oR b, oI i, oI (1 : Int32), .unset, .unset] [(.ref b), (.int (1 : Int32))])) rfl rfl (hb hby own_d13_49)
 refine own_st st3 ?_
 show own_Rch _ _ _ _ T3 (mkF m 52 #[oR b, oI i, oI (1 : Int32), .unset, .unset] [(.int nn), (.int (1 : Int32))])
 by_cases hc52_4 : (1 : Int32) < nn
 · -- pc 52: True
  refine own_st (fun _ => XS.icmpYes X3.here hx rfl (pc0 := 52) (pc' := 62) rfl (hb hby own_d13_52) rfl (tlt hc52_4).1 (by decide) (by decide)) ?_
  show own_Rch _ _ _ _ T3 (mkF m 62 #[oR b, oI i, oI (1 : Int32), .unset, .unset] [])
  refine own_st (fun _ => XS.aloadN X3.here hx rfl (hb hby own_d13_62) rfl rfl) ?_
  show own_Rch _ _ _ _ T3 (mkF m 63 #[oR b, oI i, oI (1 : Int32), .unset, .unset] [(.ref b)])
  obtain ⟨T5, X5, e5, st5⟩ := getF X3 hx hZ hown (host := "") (Or.inl (hw _ (own_m 29 rfl))) Via.refl e3 Fw (g := (mkF m 63 #[oR b, oI i, oI (1 : Int32), .unset, .unset] [(.ref b)])) rfl rfl (hb hby own_d13_63)
  refine own_st st5 ?_
  show own_Rch _ _ _ _ T5 (mkF m 66 #[oR b, oI i, oI (1 : Int32), .unset, .unset] [(.ref y)])
  refine own_st (fun _ => XS.iloadN X5.here hx rfl (hb hby own_d13_66) rfl) ?_
  show own_Rch _ _ _ _ T5 (mkF m 67 #[oR b, oI i, oI (1 : Int32), .unset, .unset] [(.int (1 : Int32)), (.ref y)])
  obtain ⟨cl6, Ar6, q6, S6, M6, H6, G6⟩ := id Va
  have hin6 : ¬ ((1 : Int32) < 0 ∨ cl6.slots.size ≤ ((1 : Int32)).toNatClampNeg) := inb_of S6 ⟨by decide, by decide⟩
  refine own_st (X5.laload hx (j := (1 : Int32)) (v := (.long wb)) (by rw [e5]; exact Ar6.1) (State.isArrayOf_alike (hZ).alike Ar6.2.1) Ar6.2.2 hin6 (H6.at hin6 rfl) (g := (mkF m 67 #[oR b, oI i, oI (1 : Int32), .unset, .unset] [(.int (1 : Int32)), (.ref y)])) rfl rfl (hb hby own_d13_67)) ?_
  show own_Rch _ _ _ _ T5 (mkF m 68 #[oR b, oI i, oI (1 : Int32), .unset, .unset] [(.long wb)])
  refine own_st (X5.ldc2Long hx hown (mvT hZ (hw _ (own_m 56 rfl))) (g := (mkF m 68 #[oR b, oI i, oI (1 : Int32), .unset, .unset] [(.long wb)])) rfl (hb hby own_d13_68)) ?_
  show own_Rch _ _ _ _ T5 (mkF m 71 #[oR b, oI i, oI (1 : Int32), .unset, .unset] [(.long (-1 : Int64)), (.long wb)])
  refine own_st (fun _ => XS.iloadN X5.here hx rfl (hb hby own_d13_71) rfl) ?_
  show own_Rch _ _ _ _ T5 (mkF m 72 #[oR b, oI i, oI (1 : Int32), .unset, .unset] [(.int i), (.long (-1 : Int64)), (.long wb)])
  refine own_st (fun _ => XS.iconst X5.here hx rfl (hb hby own_d13_72)) ?_
  show own_Rch _ _ _ _ T5 (mkF m 73 #[oR b, oI i, oI (1 : Int32), .unset, .unset] [(.int (1 : Int32)), (.int i), (.long (-1 : Int64)), (.long wb)])
  refine own_st (fun _ => XS.iadd X5.here hx rfl (hb hby own_d13_73) rfl) ?_
  show own_Rch _ _ _ _ T5 (mkF m 74 #[oR b, oI i, oI (1 : Int32), .unset, .unset] [(.int (i + (1 : Int32))), (.long (-1 : Int64)), (.long wb)])
  refine own_st (fun _ => XS.ineg X5.here hx rfl (hb hby own_d13_74) rfl) ?_
  show own_Rch _ _ _ _ T5 (mkF m 75 #[oR b, oI i, oI (1 : Int32), .unset, .unset] [(.int (-(i + (1 : Int32)))), (.long (-1 : Int64)), (.long wb)])
  refine own_st (fun _ => XS.lushr X5.here hx rfl (hb hby own_d13_75) rfl) ?_
  show own_Rch _ _ _ _ T5 (mkF m 76 #[oR b, oI i, oI (1 : Int32), .unset, .unset] [(.long (((-1 : Int64).toUInt64 >>> ((-(i + (1 : Int32))) &&& 0x3f).toInt64.toUInt64).toInt64)), (.long wb)])
  refine own_st (fun _ => XS.land X5.here hx rfl (hb hby own_d13_76) rfl) ?_
  show own_Rch _ _ _ _ T5 (mkF m 77 #[oR b, oI i, oI (1 : Int32), .unset, .unset] [(.long (wb &&& (((-1 : Int64).toUInt64 >>> ((-(i + (1 : Int32))) &&& 0x3f).toInt64.toUInt64).toInt64)))])
  refine own_st (fun _ => XS.lstoreN X5.here hx rfl (hb hby own_d13_77) rfl (l' := #[oR b, oI i, oI (1 : Int32), oL (wb &&& (((-1 : Int64).toUInt64 >>> ((-(i + (1 : Int32))) &&& 0x3f).toInt64.toUInt64).toInt64)), .second]) rfl) ?_
  show own_Rch _ _ _ _ T5 (mkF m 78 #[oR b, oI i, oI (1 : Int32), oL (wb &&& (((-1 : Int64).toUInt64 >>> ((-(i + (1 : Int32))) &&& 0x3f).toInt64.toUInt64).toInt64)), .second] [])
  refine own_st (fun _ => XS.lloadN X5.here hx rfl (hb hby own_d13_78) rfl) ?_
  show own_Rch _ _ _ _ T5 (mkF m 79 #[oR b, oI i, oI (1 : Int32), oL (wb &&& (((-1 : Int64).toUInt64 >>> ((-(i + (1 : Int32))) &&& 0x3f).toInt64.toUInt64).toInt64)), .second] [(.long (wb &&& (((-1 : Int64).toUInt64 >>> ((-(i + (1 : Int32))) &&& 0x3f).toInt64.toUInt64).toInt64)))])
  refine own_st (fun _ => XS.lconst X5.here hx rfl (hb hby own_d13_79)) ?_
  show own_Rch _ _ _ _ T5 (mkF m 80 #[oR b, oI i, oI (1 : Int32), oL (wb &&& (((-1 : Int64).toUInt64 >>> ((-(i + (1 : Int32))) &&& 0x3f).toInt64.toUInt64).toInt64)), .second] [(.long (0 : Int64)), (.long (wb &&& (((-1 : Int64).toUInt64 >>> ((-(i + (1 : Int32))) &&& 0x3f).toInt64.toUInt64).toInt64)))])
  refine own_st (fun _ => XS.lcmp X5.here hx rfl (hb hby own_d13_80) rfl) ?_
  show own_Rch _ _ _ _ T5 (mkF m 81 #[oR b, oI i, oI (1 : Int32), oL (wb &&& (((-1 : Int64).toUInt64 >>> ((-(i + (1 : Int32))) &&& 0x3f).toInt64.toUInt64).toInt64)), .second] [(.int (lcmpW (wb &&& (((-1 : Int64).toUInt64 >>> ((-(i + (1 : Int32))) &&& 0x3f).toInt64.toUInt64).toInt64)) (0 : Int64)))])
  by_cases hc81_7 : (lcmpW (wb &&& (((-1 : Int64).toUInt64 >>> ((-(i + (1 : Int32))) &&& 0x3f).toInt64.toUInt64).toInt64)) (0 : Int64)) = (0 : Int32)
  · -- pc 81: True
   refine own_st (fun _ => XS.ifYes X5.here hx rfl (pc0 := 81) (pc' := 98) rfl (hb hby own_d13_81) rfl ((if0 _ _).trans (teq hc81_7).1) (by decide) (by decide)) ?_
   show own_Rch _ _ _ _ T5 (mkF m 98 #[oR b, oI i, oI (1 : Int32), oL (wb &&& (((-1 : Int64).toUInt64 >>> ((-(i + (1 : Int32))) &&& 0x3f).toInt64.toUInt64).toInt64)), .second] [])
   refine own_st (fun _ => XS.iloadN X5.here hx rfl (hb hby own_d13_98) rfl) ?_
   show own_Rch _ _ _ _ T5 (mkF m 99 #[oR b, oI i, oI (1 : Int32), oL (wb &&& (((-1 : Int64).toUInt64 >>> ((-(i + (1 : Int32))) &&& 0x3f).toInt64.toUInt64).toInt64)), .second] [(.int (1 : Int32))])
   refine own_st (fun _ => XS.iinc X5.here hx rfl (hb hby own_d13_99) rfl (l' := #[oR b, oI i, oI (0 : Int32), oL (wb &&& (((-1 : Int64).toUInt64 >>> ((-(i + (1 : Int32))) &&& 0x3f).toInt64.toUInt64).toInt64)), .second]) rfl) ?_
   show own_Rch _ _ _ _ T5 (mkF m 102 #[oR b, oI i, oI (0 : Int32), oL (wb &&& (((-1 : Int64).toUInt64 >>> ((-(i + (1 : Int32))) &&& 0x3f).toInt64.toUInt64).toInt64)), .second] [(.int (1 : Int32))])
   refine own_st (fun _ => XS.ifYes X5.here hx rfl (pc0 := 102) (pc' := 107) rfl (hb hby own_d13_102) rfl ((if0 _ _).trans (feq ((by decide) : ¬ ((1 : Int32) = (0 : Int32)))).2) (by decide) (by decide)) ?_
   show own_Rch _ _ _ _ T5 (mkF m 107 #[oR b, oI i, oI (0 : Int32), oL (wb &&& (((-1 : Int64).toUInt64 >>> ((-(i + (1 : Int32))) &&& 0x3f).toInt64.toUInt64).toInt64)), .second] [])
   refine own_st (fun _ => XS.aloadN X5.here hx rfl (hb hby own_d13_107) rfl rfl) ?_
   show own_Rch _ _ _ _ T5 (mkF m 108 #[oR b, oI i, oI (0 : Int32), oL (wb &&& (((-1 : Int64).toUInt64 >>> ((-(i + (1 : Int32))) &&& 0x3f).toInt64.toUInt64).toInt64)), .second] [(.ref b)])
   obtain ⟨T8, X8, e8, st8⟩ := getF X5 hx hZ hown (host := "") (Or.inl (hw _ (own_m 29 rfl))) Via.refl e5 Fw (g := (mkF m 108 #[oR b, oI i, oI (0 : Int32), oL (wb &&& (((-1 : Int64).toUInt64 >>> ((-(i + (1 : Int32))) &&& 0x3f).toInt64.toUInt64).toInt64)), .second] [(.ref b)])) rfl rfl (hb hby own_d13_108)
   refine own_st st8 ?_
   show own_Rch _ _ _ _ T8 (mkF m 111 #[oR b, oI i, oI (0 : Int32), oL (wb &&& (((-1 : Int64).toUInt64 >>> ((-(i + (1 : Int32))) &&& 0x3f).toInt64.toUInt64).toInt64)), .second] [(.ref y)])
   refine own_st (fun _ => XS.iloadN X8.here hx rfl (hb hby own_d13_111) rfl) ?_
   show own_Rch _ _ _ _ T8 (mkF m 112 #[oR b, oI i, oI (0 : Int32), oL (wb &&& (((-1 : Int64).toUInt64 >>> ((-(i + (1 : Int32))) &&& 0x3f).toInt64.toUInt64).toInt64)), .second] [(.int (0 : Int32)), (.ref y)])
   obtain ⟨cl9, Ar9, q9, S9, M9, H9, G9⟩ := id Va
   have hin9 : ¬ ((0 : Int32) < 0 ∨ cl9.slots.size ≤ ((0 : Int32)).toNatClampNeg) := inb_of S9 ⟨by decide, by decide⟩
   refine own_st (X8.laload hx (j := (0 : Int32)) (v := (.long wa)) (by rw [e8]; exact Ar9.1) (State.isArrayOf_alike (hZ).alike Ar9.2.1) Ar9.2.2 hin9 (H9.at hin9 rfl) (g := (mkF m 112 #[oR b, oI i, oI (0 : Int32), oL (wb &&& (((-1 : Int64).toUInt64 >>> ((-(i + (1 : Int32))) &&& 0x3f).toInt64.toUInt64).toInt64)), .second] [(.int (0 : Int32)), (.ref y)])) rfl rfl (hb hby own_d13_112)) ?_
   show own_Rch _ _ _ _ T8 (mkF m 113 #[oR b, oI i, oI (0 : Int32), oL (wb &&& (((-1 : Int64).toUInt64 >>> ((-(i + (1 : Int32))) &&& 0x3f).toInt64.toUInt64).toInt64)), .second] [(.long wa)])
   refine own_st (fun _ => XS.lstoreN X8.here hx rfl (hb hby own_d13_113) rfl (l' := #[oR b, oI i, oI (0 : Int32), oL wa, .second]) rfl) ?_
   show own_Rch _ _ _ _ T8 (mkF m 114 #[oR b, oI i, oI (0 : Int32), oL wa, .second] [])
   refine own_st (fun _ => XS.goto X8.here hx rfl (pc0 := 114) (pc' := 78) rfl (hb hby own_d13_114) (by decide) (by decide)) ?_
   show own_Rch _ _ _ _ T8 (mkF m 78 #[oR b, oI i, oI (0 : Int32), oL wa, .second] [])
   refine own_st (fun _ => XS.lloadN X8.here hx rfl (hb hby own_d13_78) rfl) ?_
   show own_Rch _ _ _ _ T8 (mkF m 79 #[oR b, oI i, oI (0 : Int32), oL wa, .second] [(.long wa)])
   refine own_st (fun _ => XS.lconst X8.here hx rfl (hb hby own_d13_79)) ?_
   show own_Rch _ _ _ _ T8 (mkF m 80 #[oR b, oI i, oI (0 : Int32), oL wa, .second] [(.long (0 : Int64)), (.long wa)])
   refine own_st (fun _ => XS.lcmp X8.here hx rfl (hb hby own_d13_80) rfl) ?_
   show own_Rch _ _ _ _ T8 (mkF m 81 #[oR b, oI i, oI (0 : Int32), oL wa, .second] [(.int (lcmpW wa (0 : Int64)))])
   by_cases hc81_10 : (lcmpW wa (0 : Int64)) = (0 : Int32)
   · -- pc 81: True
    refine own_st (fun _ => XS.ifYes X8.here hx rfl (pc0 := 81) (pc' := 98) rfl (hb hby own_d13_81) rfl ((if0 _ _).trans (teq hc81_10).1) (by decide) (by decide)) ?_
    show own_Rch _ _ _ _ T8 (mkF m 98 #[oR b, oI i, oI (0 : Int32), oL wa, .second] [])
    refine own_st (fun _ => XS.iloadN X8.here hx rfl (hb hby own_d13_98) rfl) ?_
    show own_Rch _ _ _ _ T8 (mkF m 99 #[oR b, oI i, oI (0 : Int32), oL wa, .second] [(.int (0 : Int32))])
    refine own_st (fun _ => XS.iinc X8.here hx rfl (hb hby own_d13_99) rfl (l' := #[oR b, oI i, oI (-1 : Int32), oL wa, .second]) rfl) ?_
    show own_Rch _ _ _ _ T8 (mkF m 102 #[oR b, oI i, oI (-1 : Int32), oL wa, .second] [(.int (0 : Int32))])
    refine own_st (fun _ => XS.ifNo X8.here hx rfl (hb hby own_d13_102) rfl ((if0 _ _).trans (teq (rfl : (0 : Int32) = (0 : Int32))).2)) ?_
    show own_Rch _ _ _ _ T8 (mkF m 105 #[oR b, oI i, oI (-1 : Int32), oL wa, .second] [])
    refine own_st (fun _ => XS.iconst X8.here hx rfl (hb hby own_d13_105)) ?_
    show own_Rch _ _ _ _ T8 (mkF m 106 #[oR b, oI i, oI (-1 : Int32), oL wa, .second] [(.int (-1 : Int32))])
    refine own_retI X8 hx Bd.notSynchronized Bd.returns (hb hby own_d13_106) (by decide) (by decide) ?_
    rw [e8]
    refine ⟨_, rfl, N2, rfl, own_prevC' (W := (own_w wa wb wc wd)) (q := 1) hi0 (own_wi hq (by decide)) (own_mlo (W := (own_w wa wb wc wd)) (q := 1) hi0 (by omega)) ((lw_eq _ _).mp hc81_7) ?_⟩
    intro v h1
    rcases (by omega : v = 0) with rfl
    · exact (lw_eq _ _).mp hc81_10
   · -- pc 81: False
    refine own_st (fun _ => XS.ifNo X8.here hx rfl (hb hby own_d13_81) rfl ((if0 _ _).trans (feq hc81_10).1)) ?_
    show own_Rch _ _ _ _ T8 (mkF m 84 #[oR b, oI i, oI (0 : Int32), oL wa, .second] [])
    refine own_st (fun _ => XS.iloadN X8.here hx rfl (hb hby own_d13_84) rfl) ?_
    show own_Rch _ _ _ _ T8 (mkF m 85 #[oR b, oI i, oI (0 : Int32), oL wa, .second] [(.int (0 : Int32))])
    refine own_st (fun _ => XS.iconst X8.here hx rfl (hb hby own_d13_85)) ?_
    show own_Rch _ _ _ _ T8 (mkF m 86 #[oR b, oI i, oI (0 : Int32), oL wa, .second] [(.int (1 : Int32)), (.int (0 : Int32))])
    refine own_st (fun _ => XS.iadd X8.here hx rfl (hb hby own_d13_86) rfl) ?_
    show own_Rch _ _ _ _ T8 (mkF m 87 #[oR b, oI i, oI (0 : Int32), oL wa, .second] [(.int (1 : Int32))])
    refine own_st (fun _ => XS.bipush X8.here hx rfl (hb hby own_d13_87)) ?_
    show own_Rch _ _ _ _ T8 (mkF m 89 #[oR b, oI i, oI (0 : Int32), oL wa, .second] [(.int (64 : Int32)), (.int (1 : Int32))])
    refine own_st (fun _ => XS.imul X8.here hx rfl (hb hby own_d13_89) rfl) ?_
    show own_Rch _ _ _ _ T8 (mkF m 90 #[oR b, oI i, oI (0 : Int32), oL wa, .second] [(.int (64 : Int32))])
    refine own_st (fun _ => XS.iconst X8.here hx rfl (hb hby own_d13_90)) ?_
    show own_Rch _ _ _ _ T8 (mkF m 91 #[oR b, oI i, oI (0 : Int32), oL wa, .second] [(.int (1 : Int32)), (.int (64 : Int32))])
    refine own_st (fun _ => XS.isub X8.here hx rfl (hb hby own_d13_91) rfl) ?_
    show own_Rch _ _ _ _ T8 (mkF m 92 #[oR b, oI i, oI (0 : Int32), oL wa, .second] [(.int (63 : Int32))])
    refine own_st (fun _ => XS.lloadN X8.here hx rfl (hb hby own_d13_92) rfl) ?_
    show own_Rch _ _ _ _ T8 (mkF m 93 #[oR b, oI i, oI (0 : Int32), oL wa, .second] [(.long wa), (.int (63 : Int32))])
    obtain ⟨_, _, ⟨T11, L11, k11, n11⟩, -, X11, ⟨Lc11, hQ11, l11, y11, z11⟩, st11⟩ := Jvm.LawKit.callS X8 hx (y := (⟨"java/lang/Long", "numberOfLeadingZeros", "(J)I"⟩ : MethodName)) hown (mvT hZ (hw _ (own_m 73 rfl))) (mvT hZ (hw _ (own_m 74 rfl))) (mvT hZ (hw _ (own_m 75 rfl))) (mvT hZ (hw _ (own_m 76 rfl))) (by decide) (backOf (W := 1) (own_nlzL l Z a0 hw [] wa h0 n0 O0 (fun q => hc81_10 ((lw_eq _ _).mpr q))) hZ (hw _ (own_m 76 rfl)) (hw _ (own_m 75 rfl)) (by decide) (by decide)) (g := (mkF m 93 #[oR b, oI i, oI (0 : Int32), oL wa, .second] [(.long wa), (.int (63 : Int32))])) rfl (by rw [hml]; rfl) (argsL := [(.long wa)]) (rest := [(.int (63 : Int32))]) (lenOf own_pd1 rfl) rfl (by show 2 * 0 + _ ≤ _; exact Nat.le_of_eq rfl) (hb hby own_d13_93) (fun _ _ => ⟨rfl, e8, (by decide : 0 + 0 ≤ _), (by decide : 0 + 0 ≤ _)⟩)
    dsimp only [Pt.U, Pt.locs, Pt.cells, Pt.slots] at X11 l11 y11 z11 st11 hQ11
    subst l11 y11 z11
    obtain ⟨rr11, rfl, N11q, hh11, hn11⟩ := hQ11
    have N11 := Fr.app N2 N11q
    refine own_st st11 ?_
    show own_Rch _ _ _ _ T11 (mkF m 96 #[oR b, oI i, oI (0 : Int32), oL wa, .second] [(.int rr11), (.int (63 : Int32))])
    refine own_st (fun _ => XS.isub X11.here hx rfl (hb hby own_d13_96) rfl) ?_
    show own_Rch _ _ _ _ T11 (mkF m 97 #[oR b, oI i, oI (0 : Int32), oL wa, .second] [(.int ((63 : Int32) - rr11))])
    refine own_retI X11 hx Bd.notSynchronized Bd.returns (hb hby own_d13_97) (by decide) (by decide) ?_
    rw [hh11]
    obtain ⟨qk, qk63, qr, -⟩ := id hn11
    have r1 := own_sb (x := (63 : Int32)) (y := rr11) (show _ = (63 : Int) by decide) rfl (by omega) (by omega)
    refine ⟨_, rfl, N11, rfl, own_prevB (u := 0) (W := (own_w wa wb wc wd)) (q := 1) hi0 (own_wi hq (by decide)) (own_mlo (W := (own_w wa wb wc wd)) (q := 1) hi0 (by omega)) (by decide) ((lw_eq _ _).mp hc81_7) ?_ hn11 (by rw [r1]; omega)⟩
    intro v h1 h2; omega
  · -- pc 81: False
   refine own_st (fun _ => XS.ifNo X5.here hx rfl (hb hby own_d13_81) rfl ((if0 _ _).trans (feq hc81_7).1)) ?_
   show own_Rch _ _ _ _ T5 (mkF m 84 #[oR b, oI i, oI (1 : Int32), oL (wb &&& (((-1 : Int64).toUInt64 >>> ((-(i + (1 : Int32))) &&& 0x3f).toInt64.toUInt64).toInt64)), .second] [])
   refine own_st (fun _ => XS.iloadN X5.here hx rfl (hb hby own_d13_84) rfl) ?_
   show own_Rch _ _ _ _ T5 (mkF m 85 #[oR b, oI i, oI (1 : Int32), oL (wb &&& (((-1 : Int64).toUInt64 >>> ((-(i + (1 : Int32))) &&& 0x3f).toInt64.toUInt64).toInt64)), .second] [(.int (1 : Int32))])
   refine own_st (fun _ => XS.iconst X5.here hx rfl (hb hby own_d13_85)) ?_
   show own_Rch _ _ _ _ T5 (mkF m 86 #[oR b, oI i, oI (1 : Int32), oL (wb &&& (((-1 : Int64).toUInt64 >>> ((-(i + (1 : Int32))) &&& 0x3f).toInt64.toUInt64).toInt64)), .second] [(.int (1 : Int32)), (.int (1 : Int32))])
   refine own_st (fun _ => XS.iadd X5.here hx rfl (hb hby own_d13_86) rfl) ?_
   show own_Rch _ _ _ _ T5 (mkF m 87 #[oR b, oI i, oI (1 : Int32), oL (wb &&& (((-1 : Int64).toUInt64 >>> ((-(i + (1 : Int32))) &&& 0x3f).toInt64.toUInt64).toInt64)), .second] [(.int (2 : Int32))])
   refine own_st (fun _ => XS.bipush X5.here hx rfl (hb hby own_d13_87)) ?_
   show own_Rch _ _ _ _ T5 (mkF m 89 #[oR b, oI i, oI (1 : Int32), oL (wb &&& (((-1 : Int64).toUInt64 >>> ((-(i + (1 : Int32))) &&& 0x3f).toInt64.toUInt64).toInt64)), .second] [(.int (64 : Int32)), (.int (2 : Int32))])
   refine own_st (fun _ => XS.imul X5.here hx rfl (hb hby own_d13_89) rfl) ?_
   show own_Rch _ _ _ _ T5 (mkF m 90 #[oR b, oI i, oI (1 : Int32), oL (wb &&& (((-1 : Int64).toUInt64 >>> ((-(i + (1 : Int32))) &&& 0x3f).toInt64.toUInt64).toInt64)), .second] [(.int (128 : Int32))])
   refine own_st (fun _ => XS.iconst X5.here hx rfl (hb hby own_d13_90)) ?_
   show own_Rch _ _ _ _ T5 (mkF m 91 #[oR b, oI i, oI (1 : Int32), oL (wb &&& (((-1 : Int64).toUInt64 >>> ((-(i + (1 : Int32))) &&& 0x3f).toInt64.toUInt64).toInt64)), .second] [(.int (1 : Int32)), (.int (128 : Int32))])
   refine own_st (fun _ => XS.isub X5.here hx rfl (hb hby own_d13_91) rfl) ?_
   show own_Rch _ _ _ _ T5 (mkF m 92 #[oR b, oI i, oI (1 : Int32), oL (wb &&& (((-1 : Int64).toUInt64 >>> ((-(i + (1 : Int32))) &&& 0x3f).toInt64.toUInt64).toInt64)), .second] [(.int (127 : Int32))])
   refine own_st (fun _ => XS.lloadN X5.here hx rfl (hb hby own_d13_92) rfl) ?_
   show own_Rch _ _ _ _ T5 (mkF m 93 #[oR b, oI i, oI (1 : Int32), oL (wb &&& (((-1 : Int64).toUInt64 >>> ((-(i + (1 : Int32))) &&& 0x3f).toInt64.toUInt64).toInt64)), .second] [(.long (wb &&& (((-1 : Int64).toUInt64 >>> ((-(i + (1 : Int32))) &&& 0x3f).toInt64.toUInt64).toInt64))), (.int (127 : Int32))])
   obtain ⟨_, _, ⟨T12, L12, k12, n12⟩, -, X12, ⟨Lc12, hQ12, l12, y12, z12⟩, st12⟩ := Jvm.LawKit.callS X5 hx (y := (⟨"java/lang/Long", "numberOfLeadingZeros", "(J)I"⟩ : MethodName)) hown (mvT hZ (hw _ (own_m 73 rfl))) (mvT hZ (hw _ (own_m 74 rfl))) (mvT hZ (hw _ (own_m 75 rfl))) (mvT hZ (hw _ (own_m 76 rfl))) (by decide) (backOf (W := 1) (own_nlzL l Z a0 hw [] (wb &&& (((-1 : Int64).toUInt64 >>> ((-(i + (1 : Int32))) &&& 0x3f).toInt64.toUInt64).toInt64)) h0 n0 O0 (fun q => hc81_7 ((lw_eq _ _).mpr q))) hZ (hw _ (own_m 76 rfl)) (hw _ (own_m 75 rfl)) (by decide) (by decide)) (g := (mkF m 93 #[oR b, oI i, oI (1 : Int32), oL (wb &&& (((-1 : Int64).toUInt64 >>> ((-(i + (1 : Int32))) &&& 0x3f).toInt64.toUInt64).toInt64)), .second] [(.long (wb &&& (((-1 : Int64).toUInt64 >>> ((-(i + (1 : Int32))) &&& 0x3f).toInt64.toUInt64).toInt64))), (.int (127 : Int32))])) rfl (by rw [hml]; rfl) (argsL := [(.long (wb &&& (((-1 : Int64).toUInt64 >>> ((-(i + (1 : Int32))) &&& 0x3f).toInt64.toUInt64).toInt64)))]) (rest := [(.int (127 : Int32))]) (lenOf own_pd1 rfl) rfl (by show 2 * 0 + _ ≤ _; exact Nat.le_of_eq rfl) (hb hby own_d13_93) (fun _ _ => ⟨rfl, e5, (by decide : 0 + 0 ≤ _), (by decide : 0 + 0 ≤ _)⟩)
   dsimp only [Pt.U, Pt.locs, Pt.cells, Pt.slots] at X12 l12 y12 z12 st12 hQ12
   subst l12 y12 z12
   obtain ⟨rr12, rfl, N12q, hh12, hn12⟩ := hQ12
   have N12 := Fr.app N2 N12q
   refine own_st st12 ?_
   show own_Rch _ _ _ _ T12 (mkF m 96 #[oR b, oI i, oI (1 : Int32), oL (wb &&& (((-1 : Int64).toUInt64 >>> ((-(i + (1 : Int32))) &&& 0x3f).toInt64.toUInt64).toInt64)), .second] [(.int rr12), (.int (127 : Int32))])
   refine own_st (fun _ => XS.isub X12.here hx rfl (hb hby own_d13_96) rfl) ?_
   show own_Rch _ _ _ _ T12 (mkF m 97 #[oR b, oI i, oI (1 : Int32), oL (wb &&& (((-1 : Int64).toUInt64 >>> ((-(i + (1 : Int32))) &&& 0x3f).toInt64.toUInt64).toInt64)), .second] [(.int ((127 : Int32) - rr12))])
   refine own_retI X12 hx Bd.notSynchronized Bd.returns (hb hby own_d13_97) (by decide) (by decide) ?_
   rw [hh12]
   obtain ⟨qk, qk63, qr, -⟩ := id hn12
   have r1 := own_sb (x := (127 : Int32)) (y := rr12) (show _ = (127 : Int) by decide) rfl (by omega) (by omega)
   exact ⟨_, rfl, N12, rfl, own_prevA (W := (own_w wa wb wc wd)) (q := 1) hi0 (own_wi hq (by decide)) (own_mlo (W := (own_w wa wb wc wd)) (q := 1) hi0 (by omega)) hn12 (by rw [r1]; omega)⟩
 · -- pc 52: False
  refine own_st (fun _ => XS.icmpNo X3.here hx rfl (hb hby own_d13_52) rfl (flt hc52_4).1) ?_
  show own_Rch _ _ _ _ T3 (mkF m 55 #[oR b, oI i, oI (1 : Int32), .unset, .unset] [])
  refine own_st (fun _ => XS.aloadN X3.here hx rfl (hb hby own_d13_55) rfl rfl) ?_
  show own_Rch _ _ _ _ T3 (mkF m 56 #[oR b, oI i, oI (1 : Int32), .unset, .unset] [(.ref b)])
  obtain ⟨cq13, kq13, q13a, q13b, q13c⟩ := isOf hZ e3 Eb
  obtain ⟨_, _, ⟨T13, L13, k13, n13⟩, -, X13, ⟨Lc13, hQ13, l13, y13, z13⟩, st13⟩ := X3.virtualBack hx (y := (⟨"java/util/BitSet", "length", "()I"⟩ : MethodName)) (z := (⟨"java/util/BitSet", "length", "()I"⟩ : MethodName)) hown (mvT hZ (hw _ (own_m 107 rfl))) (mvT hZ (hw _ (own_m 99 rfl))) (notFace_of_selects (args := #[]) (mvT hZ (hw _ (own_m 101 rfl)))) (mvT hZ (hw _ (own_m 101 rfl))) (mvT hZ (hw _ (own_m 100 rfl))) (by decide) (backOf (W := 0) (own_length l Z a0 hw [] b y ka wa wb wc wd nn h0 n0 O0 ⟨Eb, Fw, Fn, Va, hW⟩) hZ (hw _ (own_m 102 rfl)) (hw _ (own_m 11 rfl)) (by decide) (by decide)) q13a q13c (g := (mkF m 56 #[oR b, oI i, oI (1 : Int32), .unset, .unset] [(.ref b)])) rfl (by rw [hml]; rfl) (Steps.refl _) (argsL := []) (rest := []) (lenOf own_pd3 rfl) rfl (by show 2 * 0 + _ ≤ _; exact Nat.le_of_eq rfl) (hb hby own_d13_56) (fun _ _ => ⟨rfl, e3, (by decide : 0 + 0 ≤ _), (by decide : 0 + 0 ≤ _)⟩)
  dsimp only [Pt.U, Pt.locs, Pt.cells, Pt.slots] at X13 l13 y13 z13 st13 hQ13
  subst l13 y13 z13
  obtain ⟨rr13, rfl, N13q, hh13, tp13⟩ := hQ13
  have N13 := Fr.app N2 N13q
  refine own_st (fun _ => st13.trans) ?_
  show own_Rch _ _ _ _ T13 (mkF m 59 #[oR b, oI i, oI (1 : Int32), .unset, .unset] [(.int rr13)])
  refine own_st (fun _ => XS.iconst X13.here hx rfl (hb hby own_d13_59)) ?_
  show own_Rch _ _ _ _ T13 (mkF m 60 #[oR b, oI i, oI (1 : Int32), .unset, .unset] [(.int (1 : Int32)), (.int rr13)])
  refine own_st (fun _ => XS.isub X13.here hx rfl (hb hby own_d13_60) rfl) ?_
  show own_Rch _ _ _ _ T13 (mkF m 61 #[oR b, oI i, oI (1 : Int32), .unset, .unset] [(.int (rr13 - (1 : Int32)))])
  refine own_retI X13 hx Bd.notSynchronized Bd.returns (hb hby own_d13_61) (by decide) (by decide) ?_
  rw [hh13]
  have hlt := hi0; rw [Int32.lt_iff_toInt_lt] at hc52_4
  have hqq := own_wi hq (show _ = ((1 : Nat) : Int) by decide)
  exact ⟨_, rfl, N13, rfl, own_prevD' hW (by omega) tp13⟩
set_option maxRecDepth 65536 in
set_option maxHeartbeats 40000000 in
theorem own_prev2 (l : Launch) (Z : State) (a0 : Array Value) (hw : ∀ d ∈ tables_1, d.before a0 Z = true) (ws : List Jvm.Cond) (b : Addr) (y : Addr) (ka : ClassId) (wa : Int64) (wb : Int64) (wc : Int64) (wd : Int64) (nn : Int32) (i : Int32) (h0 : Heap) (n0 : Nat) (O0 : Old Z n0 h0) (SA : Sta Z Z.heap "java/util/BitSet" "$assertionsDisabled" "Z" (.int (1 : Int32))) (SS : own_St Z h0 b y ka wa wb wc wd nn) (hi0 : 0 ≤ i.toInt) (hi1 : i.toInt < 256) (hq : (i >>> ((6 : Int32) &&& 31)) = (2 : Int32)) :
    MetFree l (⟨"java/util/BitSet", "previousSetBit", "(I)I"⟩ : MethodName) (head1 (Jvm.Cond.code (⟨"java/util/BitSet", "previousSetBit", "(I)I"⟩ : MethodName) jdk_92_method_30_code 5 (some .int) :: ws) ({ frames := 3, cells := 0, slots := 0, locals := 100 } : Room)) (fun args_ U => args_ = #[(.ref b), (.int i)] ∧ Z.Warmed39 U.vm ∧ U.heap = h0) (fun _ _ _ _ _ => True) (fun _ U o U' => ∃ v L, o = .returned v ∧ (own_Q_i (fun r => own_prevP (own_w wa wb wc wd) i.toInt r.toInt) h0 n0) v U'.heap L ∧ FrameEnd U o U' L ({ frames := 3, cells := 0, slots := 0, locals := 100 } : Room).cells ({ frames := 3, cells := 0, slots := 0, locals := 100 } : Room).slots) := by
 refine MetFree.of_bodySF (plainFor_of_name own_pn0) hisR ?_
 intro p e s m args below meth c s₁ Bd hml0 hP hK
 obtain ⟨rfl, hZ, hh⟩ := hP
 have hx := Bd.exec
 have hby := Bd.bytes
 have hml : c.maxLocals = 5 := hml0
 have hown : s.vm.findClass "java/util/BitSet" = some m.cls := findClass_of_methodNamed Bd.named
 have hnm := (name_of_methodNamed Bd.named Bd.method).1
 have X0 : Stand p l e ({ frames := 3, cells := 0, slots := 0, locals := 100 } : Room) s m #[(.ref b), (.int i)] below meth c s₁ [] 0 0 := Stand.of_body Bd
 have e0 : s₁.heap = h0 := by rw [← hh, Bd.state]; rfl
 have N0 := Fr.nil n0
 obtain ⟨Eb, Fw, Fn, Va, hW⟩ := SS
 have ci0 : (0 : Int32).toInt = 0 := by decide
 have ci1 : (1 : Int32).toInt = 1 := by decide
 have ci2 : (2 : Int32).toInt = 2 := by decide
 have ci3 : (3 : Int32).toInt = 3 := by decide
 have ci4 : (4 : Int32).toInt = 4 := by decide
 have ci16 : (16 : Int32).toInt = 16 := by decide
 have ci256 : (256 : Int32).toInt = 256 := by decide
 have ci65536 : (65536 : Int32).toInt = 65536 := by decide
 refine own_close (s := s) (Q := (own_Q_i (fun r => own_prevP (own_w wa wb wc wd) i.toInt r.toInt) h0 n0)) (C := (({ frames := 3, cells := 0, slots := 0, locals := 100 } : Room)).cells) (N := (({ frames := 3, cells := 0, slots := 0, locals := 100 } : Room)).slots) (own_st (fun _ kt => castTop (own_ef13 m b i) kt) ?_)
 show own_Rch _ _ _ _ s₁ (mkF m 0 #[oR b, oI i, .unset, .unset, .unset] [])
 refine own_st (fun _ => XS.iloadN X0.here hx rfl (hb hby own_d13_0) rfl) ?_
 show own_Rch _ _ _ _ s₁ (mkF m 1 #[oR b, oI i, .unset, .unset, .unset] [(.int i)])
 refine own_st (fun _ => XS.ifYes X0.here hx rfl (pc0 := 1) (pc' := 38) rfl (hb hby own_d13_1) rfl ((if0 _ _).trans (flt ((own_nneg hi0) : ¬ (i < (0 : Int32)))).2.1) (by decide) (by decide)) ?_
 show own_Rch _ _ _ _ s₁ (mkF m 38 #[oR b, oI i, .unset, .unset, .unset] [])
 refine own_st (fun _ => XS.aloadN X0.here hx rfl (hb hby own_d13_38) rfl rfl) ?_
 show own_Rch _ _ _ _ s₁ (mkF m 39 #[oR b, oI i, .unset, .unset, .unset] [(.ref b)])
 obtain ⟨cq1, q1a, q1b⟩ := Eb.cell
 obtain ⟨_, _, ⟨T1, L1, k1, n1⟩, -, X1, ⟨Lc1, hQ1, l1, y1, z1⟩, st1⟩ := X0.privateBack hx (y := (⟨"java/util/BitSet", "checkInvariants", "()V"⟩ : MethodName)) hown (mvT hZ (hw _ (own_m 57 rfl))) (mvT hZ (hw _ (own_m 58 rfl))) (mvT hZ (hw _ (own_m 60 rfl))) (Cond.privateMethod_at (mvP hZ (hw _ (own_m 59 rfl)) (args := #[]))) (mvT hZ (hw _ (own_m 61 rfl))) (by decide) (backOf (W := 0) (own_ci l Z a0 hw [] b h0 n0 O0 SA) hZ (hw _ (own_m 61 rfl)) (hw _ (own_m 11 rfl)) (by decide) (by decide)) (g := (mkF m 39 #[oR b, oI i, .unset, .unset, .unset] [(.ref b)])) rfl (by rw [hml]; rfl) (Steps.refl _) (a := b) (by rw [e0]; exact q1a) q1b (argsL := []) (rest := []) (lenOf own_pd2 rfl) rfl (by show 2 * 0 + _ ≤ _; exact Nat.le_of_eq rfl) (hb hby own_d13_39) (fun _ _ => ⟨rfl, e0, (by decide : 0 + 0 ≤ _), (by decide : 0 + 0 ≤ _)⟩)
 dsimp only [Pt.U, Pt.locs, Pt.cells, Pt.slots] at X1 l1 y1 z1 st1 hQ1
 subst l1 y1 z1
 obtain ⟨rfl, N1q, hh1⟩ := hQ1
 have N1 := Fr.app N0 N1q
 refine own_st (fun _ => st1.trans) ?_
 show own_Rch _ _ _ _ T1 (mkF m 42 #[oR b, oI i, .unset, .unset, .unset] [])
 refine own_st (fun _ => XS.iloadN X1.here hx rfl (hb hby own_d13_42) rfl) ?_
 show own_Rch _ _ _ _ T1 (mkF m 43 #[oR b, oI i, .unset, .unset, .unset] [(.int i)])
 obtain ⟨_, _, ⟨T2, L2, k2, n2⟩, -, X2, ⟨Lc2, hQ2, l2, y2, z2⟩, st2⟩ := Jvm.LawKit.callS X1 hx (y := (⟨"java/util/BitSet", "wordIndex", "(I)I"⟩ : MethodName)) hown (mvT hZ (hw _ (own_m 25 rfl))) (mvT hZ (hw _ (own_m 26 rfl))) (mvT hZ (hw _ (own_m 11 rfl))) (mvT hZ (hw _ (own_m 27 rfl))) (by decide) (backOf (W := 0) (own_wordIndex l Z a0 hw [] i (2 : Int32) h0 n0 O0 hq) hZ (hw _ (own_m 27 rfl)) (hw _ (own_m 11 rfl)) (by decide) (by decide)) (g := (mkF m 43 #[oR b, oI i, .unset, .unset, .unset] [(.int i)])) rfl (by rw [hml]; rfl) (argsL := [(.int i)]) (rest := []) (lenOf own_pd0 rfl) rfl (by show 2 * 0 + _ ≤ _; exact Nat.le_of_eq rfl) (hb hby own_d13_43) (fun _ _ => ⟨rfl, hh1, (by decide : 0 + 0 ≤ _), (by decide : 0 + 0 ≤ _)⟩)
 dsimp only [Pt.U, Pt.locs, Pt.cells, Pt.slots] at X2 l2 y2 z2 st2 hQ2
 subst l2 y2 z2
 obtain ⟨rfl, N2q, hh2⟩ := hQ2
 have N2 := Fr.app N1 N2q
 refine own_st st2 ?_
 show own_Rch _ _ _ _ T2 (mkF m 46 #[oR b, oI i, .unset, .unset, .unset] [(.int (2 : Int32))])
 refine own_st (fun _ => XS.istoreN X2.here hx rfl (hb hby own_d13_46) rfl (l' := #[oR b, oI i, oI (2 : Int32), .unset, .unset]) rfl) ?_
 show own_Rch _ _ _ _ T2 (mkF m 47 #[oR b, oI i, oI (2 : Int32), .unset, .unset] [])
 refine own_st (fun _ => XS.iloadN X2.here hx rfl (hb hby own_d13_47) rfl) ?_
 show own_Rch _ _ _ _ T2 (mkF m 48 #[oR b, oI i, oI (2 : Int32), .unset, .unset] [(.int (2 : Int32))])
 refine own_st (fun _ => XS.aloadN X2.here hx rfl (hb hby own_d13_48) rfl rfl) ?_
 show own_Rch _ _ _ _ T2 (mkF m 49 #[oR b, oI i, oI (2 : Int32), .unset, .unset] [(.ref b), (.int (2 : Int32))])
 obtain ⟨T3, X3, e3, st3⟩ := getF X2 hx hZ hown (host := "") (Or.inl (hw _ (own_m 16 rfl))) Via.refl hh2 Fn (g := (mkF m 49 #[oR b, oI i, oI (2 : Int32), .unset, .unset] [(.ref b), (.int (2 : Int32))])) rfl rfl (hb hby own_d13_49)
 refine own_st st3 ?_
 show own_Rch _ _ _ _ T3 (mkF m 52 #[oR b, oI i, oI (2 : Int32), .unset, .unset] [(.int nn), (.int (2 : Int32))])
 by_cases hc52_4 : (2 : Int32) < nn
 · -- pc 52: True
  refine own_st (fun _ => XS.icmpYes X3.here hx rfl (pc0 := 52) (pc' := 62) rfl (hb hby own_d13_52) rfl (tlt hc52_4).1 (by decide) (by decide)) ?_
  show own_Rch _ _ _ _ T3 (mkF m 62 #[oR b, oI i, oI (2 : Int32), .unset, .unset] [])
  refine own_st (fun _ => XS.aloadN X3.here hx rfl (hb hby own_d13_62) rfl rfl) ?_
  show own_Rch _ _ _ _ T3 (mkF m 63 #[oR b, oI i, oI (2 : Int32), .unset, .unset] [(.ref b)])
  obtain ⟨T5, X5, e5, st5⟩ := getF X3 hx hZ hown (host := "") (Or.inl (hw _ (own_m 29 rfl))) Via.refl e3 Fw (g := (mkF m 63 #[oR b, oI i, oI (2 : Int32), .unset, .unset] [(.ref b)])) rfl rfl (hb hby own_d13_63)
  refine own_st st5 ?_
  show own_Rch _ _ _ _ T5 (mkF m 66 #[oR b, oI i, oI (2 : Int32), .unset, .unset] [(.ref y)])
  refine own_st (fun _ => XS.iloadN X5.here hx rfl (hb hby own_d13_66) rfl) ?_
  show own_Rch _ _ _ _ T5 (mkF m 67 #[oR b, oI i, oI (2 : Int32), .unset, .unset] [(.int (2 : Int32)), (.ref y)])
  obtain ⟨cl6, Ar6, q6, S6, M6, H6, G6⟩ := id Va
  have hin6 : ¬ ((2 : Int32) < 0 ∨ cl6.slots.size ≤ ((2 : Int32)).toNatClampNeg) := inb_of S6 ⟨by decide, by decide⟩
  refine own_st (X5.laload hx (j := (2 : Int32)) (v := (.long wc)) (by rw [e5]; exact Ar6.1) (State.isArrayOf_alike (hZ).alike Ar6.2.1) Ar6.2.2 hin6 (H6.at hin6 rfl) (g := (mkF m 67 #[oR b, oI i, oI (2 : Int32), .unset, .unset] [(.int (2 : Int32)), (.ref y)])) rfl rfl (hb hby own_d13_67)) ?_
  show own_Rch _ _ _ _ T5 (mkF m 68 #[oR b, oI i, oI (2 : Int32), .unset, .unset] [(.long wc)])
  refine own_st (X5.ldc2Long hx hown (mvT hZ (hw _ (own_m 56 rfl))) (g := (mkF m 68 #[oR b, oI i, oI (2 : Int32), .unset, .unset] [(.long wc)])) rfl (hb hby own_d13_68)) ?_
  show own_Rch _ _ _ _ T5 (mkF m 71 #[oR b, oI i, oI (2 : Int32), .unset, .unset] [(.long (-1 : Int64)), (.long wc)])
  refine own_st (fun _ => XS.iloadN X5.here hx rfl (hb hby own_d13_71) rfl) ?_
  show own_Rch _ _ _ _ T5 (mkF m 72 #[oR b, oI i, oI (2 : Int32), .unset, .unset] [(.int i), (.long (-1 : Int64)), (.long wc)])
  refine own_st (fun _ => XS.iconst X5.here hx rfl (hb hby own_d13_72)) ?_
  show own_Rch _ _ _ _ T5 (mkF m 73 #[oR b, oI i, oI (2 : Int32), .unset, .unset] [(.int (1 : Int32)), (.int i), (.long (-1 : Int64)), (.long wc)])
  refine own_st (fun _ => XS.iadd X5.here hx rfl (hb hby own_d13_73) rfl) ?_
  show own_Rch _ _ _ _ T5 (mkF m 74 #[oR b, oI i, oI (2 : Int32), .unset, .unset] [(.int (i + (1 : Int32))), (.long (-1 : Int64)), (.long wc)])
  refine own_st (fun _ => XS.ineg X5.here hx rfl (hb hby own_d13_74) rfl) ?_
  show own_Rch _ _ _ _ T5 (mkF m 75 #[oR b, oI i, oI (2 : Int32), .unset, .unset] [(.int (-(i + (1 : Int32)))), (.long (-1 : Int64)), (.long wc)])
  refine own_st (fun _ => XS.lushr X5.here hx rfl (hb hby own_d13_75) rfl) ?_
  show own_Rch _ _ _ _ T5 (mkF m 76 #[oR b, oI i, oI (2 : Int32), .unset, .unset] [(.long (((-1 : Int64).toUInt64 >>> ((-(i + (1 : Int32))) &&& 0x3f).toInt64.toUInt64).toInt64)), (.long wc)])
  refine own_st (fun _ => XS.land X5.here hx rfl (hb hby own_d13_76) rfl) ?_
  show own_Rch _ _ _ _ T5 (mkF m 77 #[oR b, oI i, oI (2 : Int32), .unset, .unset] [(.long (wc &&& (((-1 : Int64).toUInt64 >>> ((-(i + (1 : Int32))) &&& 0x3f).toInt64.toUInt64).toInt64)))])
  refine own_st (fun _ => XS.lstoreN X5.here hx rfl (hb hby own_d13_77) rfl (l' := #[oR b, oI i, oI (2 : Int32), oL (wc &&& (((-1 : Int64).toUInt64 >>> ((-(i + (1 : Int32))) &&& 0x3f).toInt64.toUInt64).toInt64)), .second]) rfl) ?_
  show own_Rch _ _ _ _ T5 (mkF m 78 #[oR b, oI i, oI (2 : Int32), oL (wc &&& (((-1 : Int64).toUInt64 >>> ((-(i + (1 : Int32))) &&& 0x3f).toInt64.toUInt64).toInt64)), .second] [])
  refine own_st (fun _ => XS.lloadN X5.here hx rfl (hb hby own_d13_78) rfl) ?_
  show own_Rch _ _ _ _ T5 (mkF m 79 #[oR b, oI i, oI (2 : Int32), oL (wc &&& (((-1 : Int64).toUInt64 >>> ((-(i + (1 : Int32))) &&& 0x3f).toInt64.toUInt64).toInt64)), .second] [(.long (wc &&& (((-1 : Int64).toUInt64 >>> ((-(i + (1 : Int32))) &&& 0x3f).toInt64.toUInt64).toInt64)))])
  refine own_st (fun _ => XS.lconst X5.here hx rfl (hb hby own_d13_79)) ?_
  show own_Rch _ _ _ _ T5 (mkF m 80 #[oR b, oI i, oI (2 : Int32), oL (wc &&& (((-1 : Int64).toUInt64 >>> ((-(i + (1 : Int32))) &&& 0x3f).toInt64.toUInt64).toInt64)), .second] [(.long (0 : Int64)), (.long (wc &&& (((-1 : Int64).toUInt64 >>> ((-(i + (1 : Int32))) &&& 0x3f).toInt64.toUInt64).toInt64)))])
  refine own_st (fun _ => XS.lcmp X5.here hx rfl (hb hby own_d13_80) rfl) ?_
  show own_Rch _ _ _ _ T5 (mkF m 81 #[oR b, oI i, oI (2 : Int32), oL (wc &&& (((-1 : Int64).toUInt64 >>> ((-(i + (1 : Int32))) &&& 0x3f).toInt64.toUInt64).toInt64)), .second] [(.int (lcmpW (wc &&& (((-1 : Int64).toUInt64 >>> ((-(i + (1 : Int32))) &&& 0x3f).toInt64.toUInt64).toInt64)) (0 : Int64)))])
  by_cases hc81_7 : (lcmpW (wc &&& (((-1 : Int64).toUInt64 >>> ((-(i + (1 : Int32))) &&& 0x3f).toInt64.toUInt64).toInt64)) (0 : Int64)) = (0 : Int32)
  · -- pc 81: True
   refine own_st (fun _ => XS.ifYes X5.here hx rfl (pc0 := 81) (pc' := 98) rfl (hb hby own_d13_81) rfl ((if0 _ _).trans (teq hc81_7).1) (by decide) (by decide)) ?_
   show own_Rch _ _ _ _ T5 (mkF m 98 #[oR b, oI i, oI (2 : Int32), oL (wc &&& (((-1 : Int64).toUInt64 >>> ((-(i + (1 : Int32))) &&& 0x3f).toInt64.toUInt64).toInt64)), .second] [])
   refine own_st (fun _ => XS.iloadN X5.here hx rfl (hb hby own_d13_98) rfl) ?_
   show own_Rch _ _ _ _ T5 (mkF m 99 #[oR b, oI i, oI (2 : Int32), oL (wc &&& (((-1 : Int64).toUInt64 >>> ((-(i + (1 : Int32))) &&& 0x3f).toInt64.toUInt64).toInt64)), .second] [(.int (2 : Int32))])
   refine own_st (fun _ => XS.iinc X5.here hx rfl (hb hby own_d13_99) rfl (l' := #[oR b, oI i, oI (1 : Int32), oL (wc &&& (((-1 : Int64).toUInt64 >>> ((-(i + (1 : Int32))) &&& 0x3f).toInt64.toUInt64).toInt64)), .second]) rfl) ?_
   show own_Rch _ _ _ _ T5 (mkF m 102 #[oR b, oI i, oI (1 : Int32), oL (wc &&& (((-1 : Int64).toUInt64 >>> ((-(i + (1 : Int32))) &&& 0x3f).toInt64.toUInt64).toInt64)), .second] [(.int (2 : Int32))])
   refine own_st (fun _ => XS.ifYes X5.here hx rfl (pc0 := 102) (pc' := 107) rfl (hb hby own_d13_102) rfl ((if0 _ _).trans (feq ((by decide) : ¬ ((2 : Int32) = (0 : Int32)))).2) (by decide) (by decide)) ?_
   show own_Rch _ _ _ _ T5 (mkF m 107 #[oR b, oI i, oI (1 : Int32), oL (wc &&& (((-1 : Int64).toUInt64 >>> ((-(i + (1 : Int32))) &&& 0x3f).toInt64.toUInt64).toInt64)), .second] [])
   refine own_st (fun _ => XS.aloadN X5.here hx rfl (hb hby own_d13_107) rfl rfl) ?_
   show own_Rch _ _ _ _ T5 (mkF m 108 #[oR b, oI i, oI (1 : Int32), oL (wc &&& (((-1 : Int64).toUInt64 >>> ((-(i + (1 : Int32))) &&& 0x3f).toInt64.toUInt64).toInt64)), .second] [(.ref b)])
   obtain ⟨T8, X8, e8, st8⟩ := getF X5 hx hZ hown (host := "") (Or.inl (hw _ (own_m 29 rfl))) Via.refl e5 Fw (g := (mkF m 108 #[oR b, oI i, oI (1 : Int32), oL (wc &&& (((-1 : Int64).toUInt64 >>> ((-(i + (1 : Int32))) &&& 0x3f).toInt64.toUInt64).toInt64)), .second] [(.ref b)])) rfl rfl (hb hby own_d13_108)
   refine own_st st8 ?_
   show own_Rch _ _ _ _ T8 (mkF m 111 #[oR b, oI i, oI (1 : Int32), oL (wc &&& (((-1 : Int64).toUInt64 >>> ((-(i + (1 : Int32))) &&& 0x3f).toInt64.toUInt64).toInt64)), .second] [(.ref y)])
   refine own_st (fun _ => XS.iloadN X8.here hx rfl (hb hby own_d13_111) rfl) ?_
   show own_Rch _ _ _ _ T8 (mkF m 112 #[oR b, oI i, oI (1 : Int32), oL (wc &&& (((-1 : Int64).toUInt64 >>> ((-(i + (1 : Int32))) &&& 0x3f).toInt64.toUInt64).toInt64)), .second] [(.int (1 : Int32)), (.ref y)])
   obtain ⟨cl9, Ar9, q9, S9, M9, H9, G9⟩ := id Va
   have hin9 : ¬ ((1 : Int32) < 0 ∨ cl9.slots.size ≤ ((1 : Int32)).toNatClampNeg) := inb_of S9 ⟨by decide, by decide⟩
   refine own_st (X8.laload hx (j := (1 : Int32)) (v := (.long wb)) (by rw [e8]; exact Ar9.1) (State.isArrayOf_alike (hZ).alike Ar9.2.1) Ar9.2.2 hin9 (H9.at hin9 rfl) (g := (mkF m 112 #[oR b, oI i, oI (1 : Int32), oL (wc &&& (((-1 : Int64).toUInt64 >>> ((-(i + (1 : Int32))) &&& 0x3f).toInt64.toUInt64).toInt64)), .second] [(.int (1 : Int32)), (.ref y)])) rfl rfl (hb hby own_d13_112)) ?_
   show own_Rch _ _ _ _ T8 (mkF m 113 #[oR b, oI i, oI (1 : Int32), oL (wc &&& (((-1 : Int64).toUInt64 >>> ((-(i + (1 : Int32))) &&& 0x3f).toInt64.toUInt64).toInt64)), .second] [(.long wb)])
   refine own_st (fun _ => XS.lstoreN X8.here hx rfl (hb hby own_d13_113) rfl (l' := #[oR b, oI i, oI (1 : Int32), oL wb, .second]) rfl) ?_
   show own_Rch _ _ _ _ T8 (mkF m 114 #[oR b, oI i, oI (1 : Int32), oL wb, .second] [])
   refine own_st (fun _ => XS.goto X8.here hx rfl (pc0 := 114) (pc' := 78) rfl (hb hby own_d13_114) (by decide) (by decide)) ?_
   show own_Rch _ _ _ _ T8 (mkF m 78 #[oR b, oI i, oI (1 : Int32), oL wb, .second] [])
   refine own_st (fun _ => XS.lloadN X8.here hx rfl (hb hby own_d13_78) rfl) ?_
   show own_Rch _ _ _ _ T8 (mkF m 79 #[oR b, oI i, oI (1 : Int32), oL wb, .second] [(.long wb)])
   refine own_st (fun _ => XS.lconst X8.here hx rfl (hb hby own_d13_79)) ?_
   show own_Rch _ _ _ _ T8 (mkF m 80 #[oR b, oI i, oI (1 : Int32), oL wb, .second] [(.long (0 : Int64)), (.long wb)])
   refine own_st (fun _ => XS.lcmp X8.here hx rfl (hb hby own_d13_80) rfl) ?_
   show own_Rch _ _ _ _ T8 (mkF m 81 #[oR b, oI i, oI (1 : Int32), oL wb, .second] [(.int (lcmpW wb (0 : Int64)))])
   by_cases hc81_10 : (lcmpW wb (0 : Int64)) = (0 : Int32)
   · -- pc 81: True
    refine own_st (fun _ => XS.ifYes X8.here hx rfl (pc0 := 81) (pc' := 98) rfl (hb hby own_d13_81) rfl ((if0 _ _).trans (teq hc81_10).1) (by decide) (by decide)) ?_
    show own_Rch _ _ _ _ T8 (mkF m 98 #[oR b, oI i, oI (1 : Int32), oL wb, .second] [])
    refine own_st (fun _ => XS.iloadN X8.here hx rfl (hb hby own_d13_98) rfl) ?_
    show own_Rch _ _ _ _ T8 (mkF m 99 #[oR b, oI i, oI (1 : Int32), oL wb, .second] [(.int (1 : Int32))])
    refine own_st (fun _ => XS.iinc X8.here hx rfl (hb hby own_d13_99) rfl (l' := #[oR b, oI i, oI (0 : Int32), oL wb, .second]) rfl) ?_
    show own_Rch _ _ _ _ T8 (mkF m 102 #[oR b, oI i, oI (0 : Int32), oL wb, .second] [(.int (1 : Int32))])
    refine own_st (fun _ => XS.ifYes X8.here hx rfl (pc0 := 102) (pc' := 107) rfl (hb hby own_d13_102) rfl ((if0 _ _).trans (feq ((by decide) : ¬ ((1 : Int32) = (0 : Int32)))).2) (by decide) (by decide)) ?_
    show own_Rch _ _ _ _ T8 (mkF m 107 #[oR b, oI i, oI (0 : Int32), oL wb, .second] [])
    refine own_st (fun _ => XS.aloadN X8.here hx rfl (hb hby own_d13_107) rfl rfl) ?_
    show own_Rch _ _ _ _ T8 (mkF m 108 #[oR b, oI i, oI (0 : Int32), oL wb, .second] [(.ref b)])
    obtain ⟨T11, X11, e11, st11⟩ := getF X8 hx hZ hown (host := "") (Or.inl (hw _ (own_m 29 rfl))) Via.refl e8 Fw (g := (mkF m 108 #[oR b, oI i, oI (0 : Int32), oL wb, .second] [(.ref b)])) rfl rfl (hb hby own_d13_108)
    refine own_st st11 ?_
    show own_Rch _ _ _ _ T11 (mkF m 111 #[oR b, oI i, oI (0 : Int32), oL wb, .second] [(.ref y)])
    refine own_st (fun _ => XS.iloadN X11.here hx rfl (hb hby own_d13_111) rfl) ?_
    show own_Rch _ _ _ _ T11 (mkF m 112 #[oR b, oI i, oI (0 : Int32), oL wb, .second] [(.int (0 : Int32)), (.ref y)])
    obtain ⟨cl12, Ar12, q12, S12, M12, H12, G12⟩ := id Va
    have hin12 : ¬ ((0 : Int32) < 0 ∨ cl12.slots.size ≤ ((0 : Int32)).toNatClampNeg) := inb_of S12 ⟨by decide, by decide⟩
    refine own_st (X11.laload hx (j := (0 : Int32)) (v := (.long wa)) (by rw [e11]; exact Ar12.1) (State.isArrayOf_alike (hZ).alike Ar12.2.1) Ar12.2.2 hin12 (H12.at hin12 rfl) (g := (mkF m 112 #[oR b, oI i, oI (0 : Int32), oL wb, .second] [(.int (0 : Int32)), (.ref y)])) rfl rfl (hb hby own_d13_112)) ?_
    show own_Rch _ _ _ _ T11 (mkF m 113 #[oR b, oI i, oI (0 : Int32), oL wb, .second] [(.long wa)])
    refine own_st (fun _ => XS.lstoreN X11.here hx rfl (hb hby own_d13_113) rfl (l' := #[oR b, oI i, oI (0 : Int32), oL wa, .second]) rfl) ?_
    show own_Rch _ _ _ _ T11 (mkF m 114 #[oR b, oI i, oI (0 : Int32), oL wa, .second] [])
    refine own_st (fun _ => XS.goto X11.here hx rfl (pc0 := 114) (pc' := 78) rfl (hb hby own_d13_114) (by decide) (by decide)) ?_
    show own_Rch _ _ _ _ T11 (mkF m 78 #[oR b, oI i, oI (0 : Int32), oL wa, .second] [])
    refine own_st (fun _ => XS.lloadN X11.here hx rfl (hb hby own_d13_78) rfl) ?_
    show own_Rch _ _ _ _ T11 (mkF m 79 #[oR b, oI i, oI (0 : Int32), oL wa, .second] [(.long wa)])
    refine own_st (fun _ => XS.lconst X11.here hx rfl (hb hby own_d13_79)) ?_
    show own_Rch _ _ _ _ T11 (mkF m 80 #[oR b, oI i, oI (0 : Int32), oL wa, .second] [(.long (0 : Int64)), (.long wa)])
    refine own_st (fun _ => XS.lcmp X11.here hx rfl (hb hby own_d13_80) rfl) ?_
    show own_Rch _ _ _ _ T11 (mkF m 81 #[oR b, oI i, oI (0 : Int32), oL wa, .second] [(.int (lcmpW wa (0 : Int64)))])
    by_cases hc81_13 : (lcmpW wa (0 : Int64)) = (0 : Int32)
    · -- pc 81: True
     refine own_st (fun _ => XS.ifYes X11.here hx rfl (pc0 := 81) (pc' := 98) rfl (hb hby own_d13_81) rfl ((if0 _ _).trans (teq hc81_13).1) (by decide) (by decide)) ?_
     show own_Rch _ _ _ _ T11 (mkF m 98 #[oR b, oI i, oI (0 : Int32), oL wa, .second] [])
     refine own_st (fun _ => XS.iloadN X11.here hx rfl (hb hby own_d13_98) rfl) ?_
     show own_Rch _ _ _ _ T11 (mkF m 99 #[oR b, oI i, oI (0 : Int32), oL wa, .second] [(.int (0 : Int32))])
     refine own_st (fun _ => XS.iinc X11.here hx rfl (hb hby own_d13_99) rfl (l' := #[oR b, oI i, oI (-1 : Int32), oL wa, .second]) rfl) ?_
     show own_Rch _ _ _ _ T11 (mkF m 102 #[oR b, oI i, oI (-1 : Int32), oL wa, .second] [(.int (0 : Int32))])
     refine own_st (fun _ => XS.ifNo X11.here hx rfl (hb hby own_d13_102) rfl ((if0 _ _).trans (teq (rfl : (0 : Int32) = (0 : Int32))).2)) ?_
     show own_Rch _ _ _ _ T11 (mkF m 105 #[oR b, oI i, oI (-1 : Int32), oL wa, .second] [])
     refine own_st (fun _ => XS.iconst X11.here hx rfl (hb hby own_d13_105)) ?_
     show own_Rch _ _ _ _ T11 (mkF m 106 #[oR b, oI i, oI (-1 : Int32), oL wa, .second] [(.int (-1 : Int32))])
     refine own_retI X11 hx Bd.notSynchronized Bd.returns (hb hby own_d13_106) (by decide) (by decide) ?_
     rw [e11]
     refine ⟨_, rfl, N2, rfl, own_prevC' (W := (own_w wa wb wc wd)) (q := 2) hi0 (own_wi hq (by decide)) (own_mlo (W := (own_w wa wb wc wd)) (q := 2) hi0 (by omega)) ((lw_eq _ _).mp hc81_7) ?_⟩
     intro v h1
     rcases (by omega : v = 1 ∨ v = 0) with rfl | rfl
     · exact (lw_eq _ _).mp hc81_10
     · exact (lw_eq _ _).mp hc81_13
    · -- pc 81: False
     refine own_st (fun _ => XS.ifNo X11.here hx rfl (hb hby own_d13_81) rfl ((if0 _ _).trans (feq hc81_13).1)) ?_
     show own_Rch _ _ _ _ T11 (mkF m 84 #[oR b, oI i, oI (0 : Int32), oL wa, .second] [])
     refine own_st (fun _ => XS.iloadN X11.here hx rfl (hb hby own_d13_84) rfl) ?_
     show own_Rch _ _ _ _ T11 (mkF m 85 #[oR b, oI i, oI (0 : Int32), oL wa, .second] [(.int (0 : Int32))])
     refine own_st (fun _ => XS.iconst X11.here hx rfl (hb hby own_d13_85)) ?_
     show own_Rch _ _ _ _ T11 (mkF m 86 #[oR b, oI i, oI (0 : Int32), oL wa, .second] [(.int (1 : Int32)), (.int (0 : Int32))])
     refine own_st (fun _ => XS.iadd X11.here hx rfl (hb hby own_d13_86) rfl) ?_
     show own_Rch _ _ _ _ T11 (mkF m 87 #[oR b, oI i, oI (0 : Int32), oL wa, .second] [(.int (1 : Int32))])
     refine own_st (fun _ => XS.bipush X11.here hx rfl (hb hby own_d13_87)) ?_
     show own_Rch _ _ _ _ T11 (mkF m 89 #[oR b, oI i, oI (0 : Int32), oL wa, .second] [(.int (64 : Int32)), (.int (1 : Int32))])
     refine own_st (fun _ => XS.imul X11.here hx rfl (hb hby own_d13_89) rfl) ?_
     show own_Rch _ _ _ _ T11 (mkF m 90 #[oR b, oI i, oI (0 : Int32), oL wa, .second] [(.int (64 : Int32))])
     refine own_st (fun _ => XS.iconst X11.here hx rfl (hb hby own_d13_90)) ?_
     show own_Rch _ _ _ _ T11 (mkF m 91 #[oR b, oI i, oI (0 : Int32), oL wa, .second] [(.int (1 : Int32)), (.int (64 : Int32))])
     refine own_st (fun _ => XS.isub X11.here hx rfl (hb hby own_d13_91) rfl) ?_
     show own_Rch _ _ _ _ T11 (mkF m 92 #[oR b, oI i, oI (0 : Int32), oL wa, .second] [(.int (63 : Int32))])
     refine own_st (fun _ => XS.lloadN X11.here hx rfl (hb hby own_d13_92) rfl) ?_
     show own_Rch _ _ _ _ T11 (mkF m 93 #[oR b, oI i, oI (0 : Int32), oL wa, .second] [(.long wa), (.int (63 : Int32))])
     obtain ⟨_, _, ⟨T14, L14, k14, n14⟩, -, X14, ⟨Lc14, hQ14, l14, y14, z14⟩, st14⟩ := Jvm.LawKit.callS X11 hx (y := (⟨"java/lang/Long", "numberOfLeadingZeros", "(J)I"⟩ : MethodName)) hown (mvT hZ (hw _ (own_m 73 rfl))) (mvT hZ (hw _ (own_m 74 rfl))) (mvT hZ (hw _ (own_m 75 rfl))) (mvT hZ (hw _ (own_m 76 rfl))) (by decide) (backOf (W := 1) (own_nlzL l Z a0 hw [] wa h0 n0 O0 (fun q => hc81_13 ((lw_eq _ _).mpr q))) hZ (hw _ (own_m 76 rfl)) (hw _ (own_m 75 rfl)) (by decide) (by decide)) (g := (mkF m 93 #[oR b, oI i, oI (0 : Int32), oL wa, .second] [(.long wa), (.int (63 : Int32))])) rfl (by rw [hml]; rfl) (argsL := [(.long wa)]) (rest := [(.int (63 : Int32))]) (lenOf own_pd1 rfl) rfl (by show 2 * 0 + _ ≤ _; exact Nat.le_of_eq rfl) (hb hby own_d13_93) (fun _ _ => ⟨rfl, e11, (by decide : 0 + 0 ≤ _), (by decide : 0 + 0 ≤ _)⟩)
     dsimp only [Pt.U, Pt.locs, Pt.cells, Pt.slots] at X14 l14 y14 z14 st14 hQ14
     subst l14 y14 z14
     obtain ⟨rr14, rfl, N14q, hh14, hn14⟩ := hQ14
     have N14 := Fr.app N2 N14q
     refine own_st st14 ?_
     show own_Rch _ _ _ _ T14 (mkF m 96 #[oR b, oI i, oI (0 : Int32), oL wa, .second] [(.int rr14), (.int (63 : Int32))])
     refine own_st (fun _ => XS.isub X14.here hx rfl (hb hby own_d13_96) rfl) ?_
     show own_Rch _ _ _ _ T14 (mkF m 97 #[oR b, oI i, oI (0 : Int32), oL wa, .second] [(.int ((63 : Int32) - rr14))])
     refine own_retI X14 hx Bd.notSynchronized Bd.returns (hb hby own_d13_97) (by decide) (by decide) ?_
     rw [hh14]
     obtain ⟨qk, qk63, qr, -⟩ := id hn14
     have r1 := own_sb (x := (63 : Int32)) (y := rr14) (show _ = (63 : Int) by decide) rfl (by omega) (by omega)
     refine ⟨_, rfl, N14, rfl, own_prevB (u := 0) (W := (own_w wa wb wc wd)) (q := 2) hi0 (own_wi hq (by decide)) (own_mlo (W := (own_w wa wb wc wd)) (q := 2) hi0 (by omega)) (by decide) ((lw_eq _ _).mp hc81_7) ?_ hn14 (by rw [r1]; omega)⟩
     intro v h1 h2
     rcases (by omega : v = 1) with rfl
     · exact (lw_eq _ _).mp hc81_10
   · -- pc 81: False
    refine own_st (fun _ => XS.ifNo X8.here hx rfl (hb hby own_d13_81) rfl ((if0 _ _).trans (feq hc81_10).1)) ?_
    show own_Rch _ _ _ _ T8 (mkF m 84 #[oR b, oI i, oI (1 : Int32), oL wb, .second] [])
    refine own_st (fun _ => XS.iloadN X8.here hx rfl (hb hby own_d13_84) rfl) ?_
    show own_Rch _ _ _ _ T8 (mkF m 85 #[oR b, oI i, oI (1 : Int32), oL wb, .second] [(.int (1 : Int32))])
    refine own_st (fun _ => XS.iconst X8.here hx rfl (hb hby own_d13_85)) ?_
    show own_Rch _ _ _ _ T8 (mkF m 86 #[oR b, oI i, oI (1 : Int32), oL wb, .second] [(.int (1 : Int32)), (.int (1 : Int32))])
    refine own_st (fun _ => XS.iadd X8.here hx rfl (hb hby own_d13_86) rfl) ?_
    show own_Rch _ _ _ _ T8 (mkF m 87 #[oR b, oI i, oI (1 : Int32), oL wb, .second] [(.int (2 : Int32))])
    refine own_st (fun _ => XS.bipush X8.here hx rfl (hb hby own_d13_87)) ?_
    show own_Rch _ _ _ _ T8 (mkF m 89 #[oR b, oI i, oI (1 : Int32), oL wb, .second] [(.int (64 : Int32)), (.int (2 : Int32))])
    refine own_st (fun _ => XS.imul X8.here hx rfl (hb hby own_d13_89) rfl) ?_
    show own_Rch _ _ _ _ T8 (mkF m 90 #[oR b, oI i, oI (1 : Int32), oL wb, .second] [(.int (128 : Int32))])
    refine own_st (fun _ => XS.iconst X8.here hx rfl (hb hby own_d13_90)) ?_
    show own_Rch _ _ _ _ T8 (mkF m 91 #[oR b, oI i, oI (1 : Int32), oL wb, .second] [(.int (1 : Int32)), (.int (128 : Int32))])
    refine own_st (fun _ => XS.isub X8.here hx rfl (hb hby own_d13_91) rfl) ?_
    show own_Rch _ _ _ _ T8 (mkF m 92 #[oR b, oI i, oI (1 : Int32), oL wb, .second] [(.int (127 : Int32))])
    refine own_st (fun _ => XS.lloadN X8.here hx rfl (hb hby own_d13_92) rfl) ?_
    show own_Rch _ _ _ _ T8 (mkF m 93 #[oR b, oI i, oI (1 : Int32), oL wb, .second] [(.long wb), (.int (127 : Int32))])
    obtain ⟨_, _, ⟨T15, L15, k15, n15⟩, -, X15, ⟨Lc15, hQ15, l15, y15, z15⟩, st15⟩ := Jvm.LawKit.callS X8 hx (y := (⟨"java/lang/Long", "numberOfLeadingZeros", "(J)I"⟩ : MethodName)) hown (mvT hZ (hw _ (own_m 73 rfl))) (mvT hZ (hw _ (own_m 74 rfl))) (mvT hZ (hw _ (own_m 75 rfl))) (mvT hZ (hw _ (own_m 76 rfl))) (by decide) (backOf (W := 1) (own_nlzL l Z a0 hw [] wb h0 n0 O0 (fun q => hc81_10 ((lw_eq _ _).mpr q))) hZ (hw _ (own_m 76 rfl)) (hw _ (own_m 75 rfl)) (by decide) (by decide)) (g := (mkF m 93 #[oR b, oI i, oI (1 : Int32), oL wb, .second] [(.long wb), (.int (127 : Int32))])) rfl (by rw [hml]; rfl) (argsL := [(.long wb)]) (rest := [(.int (127 : Int32))]) (lenOf own_pd1 rfl) rfl (by show 2 * 0 + _ ≤ _; exact Nat.le_of_eq rfl) (hb hby own_d13_93) (fun _ _ => ⟨rfl, e8, (by decide : 0 + 0 ≤ _), (by decide : 0 + 0 ≤ _)⟩)
    dsimp only [Pt.U, Pt.locs, Pt.cells, Pt.slots] at X15 l15 y15 z15 st15 hQ15
    subst l15 y15 z15
    obtain ⟨rr15, rfl, N15q, hh15, hn15⟩ := hQ15
    have N15 := Fr.app N2 N15q
    refine own_st st15 ?_
    show own_Rch _ _ _ _ T15 (mkF m 96 #[oR b, oI i, oI (1 : Int32), oL wb, .second] [(.int rr15), (.int (127 : Int32))])
    refine own_st (fun _ => XS.isub X15.here hx rfl (hb hby own_d13_96) rfl) ?_
    show own_Rch _ _ _ _ T15 (mkF m 97 #[oR b, oI i, oI (1 : Int32), oL wb, .second] [(.int ((127 : Int32) - rr15))])
    refine own_retI X15 hx Bd.notSynchronized Bd.returns (hb hby own_d13_97) (by decide) (by decide) ?_
    rw [hh15]
    obtain ⟨qk, qk63, qr, -⟩ := id hn15
    have r1 := own_sb (x := (127 : Int32)) (y := rr15) (show _ = (127 : Int) by decide) rfl (by omega) (by omega)
    refine ⟨_, rfl, N15, rfl, own_prevB (u := 1) (W := (own_w wa wb wc wd)) (q := 2) hi0 (own_wi hq (by decide)) (own_mlo (W := (own_w wa wb wc wd)) (q := 2) hi0 (by omega)) (by decide) ((lw_eq _ _).mp hc81_7) ?_ hn15 (by rw [r1]; omega)⟩
    intro v h1 h2; omega
  · -- pc 81: False
   refine own_st (fun _ => XS.ifNo X5.here hx rfl (hb hby own_d13_81) rfl ((if0 _ _).trans (feq hc81_7).1)) ?_
   show own_Rch _ _ _ _ T5 (mkF m 84 #[oR b, oI i, oI (2 : Int32), oL (wc &&& (((-1 : Int64).toUInt64 >>> ((-(i + (1 : Int32))) &&& 0x3f).toInt64.toUInt64).toInt64)), .second] [])
   refine own_st (fun _ => XS.iloadN X5.here hx rfl (hb hby own_d13_84) rfl) ?_
   show own_Rch _ _ _ _ T5 (mkF m 85 #[oR b, oI i, oI (2 : Int32), oL (wc &&& (((-1 : Int64).toUInt64 >>> ((-(i + (1 : Int32))) &&& 0x3f).toInt64.toUInt64).toInt64)), .second] [(.int (2 : Int32))])
   refine own_st (fun _ => XS.iconst X5.here hx rfl (hb hby own_d13_85)) ?_
   show own_Rch _ _ _ _ T5 (mkF m 86 #[oR b, oI i, oI (2 : Int32), oL (wc &&& (((-1 : Int64).toUInt64 >>> ((-(i + (1 : Int32))) &&& 0x3f).toInt64.toUInt64).toInt64)), .second] [(.int (1 : Int32)), (.int (2 : Int32))])
   refine own_st (fun _ => XS.iadd X5.here hx rfl (hb hby own_d13_86) rfl) ?_
   show own_Rch _ _ _ _ T5 (mkF m 87 #[oR b, oI i, oI (2 : Int32), oL (wc &&& (((-1 : Int64).toUInt64 >>> ((-(i + (1 : Int32))) &&& 0x3f).toInt64.toUInt64).toInt64)), .second] [(.int (3 : Int32))])
   refine own_st (fun _ => XS.bipush X5.here hx rfl (hb hby own_d13_87)) ?_
   show own_Rch _ _ _ _ T5 (mkF m 89 #[oR b, oI i, oI (2 : Int32), oL (wc &&& (((-1 : Int64).toUInt64 >>> ((-(i + (1 : Int32))) &&& 0x3f).toInt64.toUInt64).toInt64)), .second] [(.int (64 : Int32)), (.int (3 : Int32))])
   refine own_st (fun _ => XS.imul X5.here hx rfl (hb hby own_d13_89) rfl) ?_
   show own_Rch _ _ _ _ T5 (mkF m 90 #[oR b, oI i, oI (2 : Int32), oL (wc &&& (((-1 : Int64).toUInt64 >>> ((-(i + (1 : Int32))) &&& 0x3f).toInt64.toUInt64).toInt64)), .second] [(.int (192 : Int32))])
   refine own_st (fun _ => XS.iconst X5.here hx rfl (hb hby own_d13_90)) ?_
   show own_Rch _ _ _ _ T5 (mkF m 91 #[oR b, oI i, oI (2 : Int32), oL (wc &&& (((-1 : Int64).toUInt64 >>> ((-(i + (1 : Int32))) &&& 0x3f).toInt64.toUInt64).toInt64)), .second] [(.int (1 : Int32)), (.int (192 : Int32))])
   refine own_st (fun _ => XS.isub X5.here hx rfl (hb hby own_d13_91) rfl) ?_
   show own_Rch _ _ _ _ T5 (mkF m 92 #[oR b, oI i, oI (2 : Int32), oL (wc &&& (((-1 : Int64).toUInt64 >>> ((-(i + (1 : Int32))) &&& 0x3f).toInt64.toUInt64).toInt64)), .second] [(.int (191 : Int32))])
   refine own_st (fun _ => XS.lloadN X5.here hx rfl (hb hby own_d13_92) rfl) ?_
   show own_Rch _ _ _ _ T5 (mkF m 93 #[oR b, oI i, oI (2 : Int32), oL (wc &&& (((-1 : Int64).toUInt64 >>> ((-(i + (1 : Int32))) &&& 0x3f).toInt64.toUInt64).toInt64)), .second] [(.long (wc &&& (((-1 : Int64).toUInt64 >>> ((-(i + (1 : Int32))) &&& 0x3f).toInt64.toUInt64).toInt64))), (.int (191 : Int32))])
   obtain ⟨_, _, ⟨T16, L16, k16, n16⟩, -, X16, ⟨Lc16, hQ16, l16, y16, z16⟩, st16⟩ := Jvm.LawKit.callS X5 hx (y := (⟨"java/lang/Long", "numberOfLeadingZeros", "(J)I"⟩ : MethodName)) hown (mvT hZ (hw _ (own_m 73 rfl))) (mvT hZ (hw _ (own_m 74 rfl))) (mvT hZ (hw _ (own_m 75 rfl))) (mvT hZ (hw _ (own_m 76 rfl))) (by decide) (backOf (W := 1) (own_nlzL l Z a0 hw [] (wc &&& (((-1 : Int64).toUInt64 >>> ((-(i + (1 : Int32))) &&& 0x3f).toInt64.toUInt64).toInt64)) h0 n0 O0 (fun q => hc81_7 ((lw_eq _ _).mpr q))) hZ (hw _ (own_m 76 rfl)) (hw _ (own_m 75 rfl)) (by decide) (by decide)) (g := (mkF m 93 #[oR b, oI i, oI (2 : Int32), oL (wc &&& (((-1 : Int64).toUInt64 >>> ((-(i + (1 : Int32))) &&& 0x3f).toInt64.toUInt64).toInt64)), .second] [(.long (wc &&& (((-1 : Int64).toUInt64 >>> ((-(i + (1 : Int32))) &&& 0x3f).toInt64.toUInt64).toInt64))), (.int (191 : Int32))])) rfl (by rw [hml]; rfl) (argsL := [(.long (wc &&& (((-1 : Int64).toUInt64 >>> ((-(i + (1 : Int32))) &&& 0x3f).toInt64.toUInt64).toInt64)))]) (rest := [(.int (191 : Int32))]) (lenOf own_pd1 rfl) rfl (by show 2 * 0 + _ ≤ _; exact Nat.le_of_eq rfl) (hb hby own_d13_93) (fun _ _ => ⟨rfl, e5, (by decide : 0 + 0 ≤ _), (by decide : 0 + 0 ≤ _)⟩)
   dsimp only [Pt.U, Pt.locs, Pt.cells, Pt.slots] at X16 l16 y16 z16 st16 hQ16
   subst l16 y16 z16
   obtain ⟨rr16, rfl, N16q, hh16, hn16⟩ := hQ16
   have N16 := Fr.app N2 N16q
   refine own_st st16 ?_
   show own_Rch _ _ _ _ T16 (mkF m 96 #[oR b, oI i, oI (2 : Int32), oL (wc &&& (((-1 : Int64).toUInt64 >>> ((-(i + (1 : Int32))) &&& 0x3f).toInt64.toUInt64).toInt64)), .second] [(.int rr16), (.int (191 : Int32))])
   refine own_st (fun _ => XS.isub X16.here hx rfl (hb hby own_d13_96) rfl) ?_
   show own_Rch _ _ _ _ T16 (mkF m 97 #[oR b, oI i, oI (2 : Int32), oL (wc &&& (((-1 : Int64).toUInt64 >>> ((-(i + (1 : Int32))) &&& 0x3f).toInt64.toUInt64).toInt64)), .second] [(.int ((191 : Int32) - rr16))])
   refine own_retI X16 hx Bd.notSynchronized Bd.returns (hb hby own_d13_97) (by decide) (by decide) ?_
   rw [hh16]
   obtain ⟨qk, qk63, qr, -⟩ := id hn16
   have r1 := own_sb (x := (191 : Int32)) (y := rr16) (show _ = (191 : Int) by decide) rfl (by omega) (by omega)
   exact ⟨_, rfl, N16, rfl, own_prevA (W := (own_w wa wb wc wd)) (q := 2) hi0 (own_wi hq (by decide)) (own_mlo (W := (own_w wa wb wc wd)) (q := 2) hi0 (by omega)) hn16 (by rw [r1]; omega)⟩
 · -- pc 52: False
  refine own_st (fun _ => XS.icmpNo X3.here hx rfl (hb hby own_d13_52) rfl (flt hc52_4).1) ?_
  show own_Rch _ _ _ _ T3 (mkF m 55 #[oR b, oI i, oI (2 : Int32), .unset, .unset] [])
  refine own_st (fun _ => XS.aloadN X3.here hx rfl (hb hby own_d13_55) rfl rfl) ?_
  show own_Rch _ _ _ _ T3 (mkF m 56 #[oR b, oI i, oI (2 : Int32), .unset, .unset] [(.ref b)])
  obtain ⟨cq17, kq17, q17a, q17b, q17c⟩ := isOf hZ e3 Eb
  obtain ⟨_, _, ⟨T17, L17, k17, n17⟩, -, X17, ⟨Lc17, hQ17, l17, y17, z17⟩, st17⟩ := X3.virtualBack hx (y := (⟨"java/util/BitSet", "length", "()I"⟩ : MethodName)) (z := (⟨"java/util/BitSet", "length", "()I"⟩ : MethodName)) hown (mvT hZ (hw _ (own_m 107 rfl))) (mvT hZ (hw _ (own_m 99 rfl))) (notFace_of_selects (args := #[]) (mvT hZ (hw _ (own_m 101 rfl)))) (mvT hZ (hw _ (own_m 101 rfl))) (mvT hZ (hw _ (own_m 100 rfl))) (by decide) (backOf (W := 0) (own_length l Z a0 hw [] b y ka wa wb wc wd nn h0 n0 O0 ⟨Eb, Fw, Fn, Va, hW⟩) hZ (hw _ (own_m 102 rfl)) (hw _ (own_m 11 rfl)) (by decide) (by decide)) q17a q17c (g := (mkF m 56 #[oR b, oI i, oI (2 : Int32), .unset, .unset] [(.ref b)])) rfl (by rw [hml]; rfl) (Steps.refl _) (argsL := []) (rest := []) (lenOf own_pd3 rfl) rfl (by show 2 * 0 + _ ≤ _; exact Nat.le_of_eq rfl) (hb hby own_d13_56) (fun _ _ => ⟨rfl, e3, (by decide : 0 + 0 ≤ _), (by decide : 0 + 0 ≤ _)⟩)
  dsimp only [Pt.U, Pt.locs, Pt.cells, Pt.slots] at X17 l17 y17 z17 st17 hQ17
  subst l17 y17 z17
  obtain ⟨rr17, rfl, N17q, hh17, tp17⟩ := hQ17
  have N17 := Fr.app N2 N17q
  refine own_st (fun _ => st17.trans) ?_
  show own_Rch _ _ _ _ T17 (mkF m 59 #[oR b, oI i, oI (2 : Int32), .unset, .unset] [(.int rr17)])
  refine own_st (fun _ => XS.iconst X17.here hx rfl (hb hby own_d13_59)) ?_
  show own_Rch _ _ _ _ T17 (mkF m 60 #[oR b, oI i, oI (2 : Int32), .unset, .unset] [(.int (1 : Int32)), (.int rr17)])
  refine own_st (fun _ => XS.isub X17.here hx rfl (hb hby own_d13_60) rfl) ?_
  show own_Rch _ _ _ _ T17 (mkF m 61 #[oR b, oI i, oI (2 : Int32), .unset, .unset] [(.int (rr17 - (1 : Int32)))])
  refine own_retI X17 hx Bd.notSynchronized Bd.returns (hb hby own_d13_61) (by decide) (by decide) ?_
  rw [hh17]
  have hlt := hi0; rw [Int32.lt_iff_toInt_lt] at hc52_4
  have hqq := own_wi hq (show _ = ((2 : Nat) : Int) by decide)
  exact ⟨_, rfl, N17, rfl, own_prevD' hW (by omega) tp17⟩
set_option maxRecDepth 65536 in
set_option maxHeartbeats 40000000 in
theorem own_prev3 (l : Launch) (Z : State) (a0 : Array Value) (hw : ∀ d ∈ tables_1, d.before a0 Z = true) (ws : List Jvm.Cond) (b : Addr) (y : Addr) (ka : ClassId) (wa : Int64) (wb : Int64) (wc : Int64) (wd : Int64) (nn : Int32) (i : Int32) (h0 : Heap) (n0 : Nat) (O0 : Old Z n0 h0) (SA : Sta Z Z.heap "java/util/BitSet" "$assertionsDisabled" "Z" (.int (1 : Int32))) (SS : own_St Z h0 b y ka wa wb wc wd nn) (hi0 : 0 ≤ i.toInt) (hi1 : i.toInt < 256) (hq : (i >>> ((6 : Int32) &&& 31)) = (3 : Int32)) :
    MetFree l (⟨"java/util/BitSet", "previousSetBit", "(I)I"⟩ : MethodName) (head1 (Jvm.Cond.code (⟨"java/util/BitSet", "previousSetBit", "(I)I"⟩ : MethodName) jdk_92_method_30_code 5 (some .int) :: ws) ({ frames := 3, cells := 0, slots := 0, locals := 100 } : Room)) (fun args_ U => args_ = #[(.ref b), (.int i)] ∧ Z.Warmed39 U.vm ∧ U.heap = h0) (fun _ _ _ _ _ => True) (fun _ U o U' => ∃ v L, o = .returned v ∧ (own_Q_i (fun r => own_prevP (own_w wa wb wc wd) i.toInt r.toInt) h0 n0) v U'.heap L ∧ FrameEnd U o U' L ({ frames := 3, cells := 0, slots := 0, locals := 100 } : Room).cells ({ frames := 3, cells := 0, slots := 0, locals := 100 } : Room).slots) := by
 refine MetFree.of_bodySF (plainFor_of_name own_pn0) hisR ?_
 intro p e s m args below meth c s₁ Bd hml0 hP hK
 obtain ⟨rfl, hZ, hh⟩ := hP
 have hx := Bd.exec
 have hby := Bd.bytes
 have hml : c.maxLocals = 5 := hml0
 have hown : s.vm.findClass "java/util/BitSet" = some m.cls := findClass_of_methodNamed Bd.named
 have hnm := (name_of_methodNamed Bd.named Bd.method).1
 have X0 : Stand p l e ({ frames := 3, cells := 0, slots := 0, locals := 100 } : Room) s m #[(.ref b), (.int i)] below meth c s₁ [] 0 0 := Stand.of_body Bd
 have e0 : s₁.heap = h0 := by rw [← hh, Bd.state]; rfl
 have N0 := Fr.nil n0
 obtain ⟨Eb, Fw, Fn, Va, hW⟩ := SS
 have ci0 : (0 : Int32).toInt = 0 := by decide
 have ci1 : (1 : Int32).toInt = 1 := by decide
 have ci2 : (2 : Int32).toInt = 2 := by decide
 have ci3 : (3 : Int32).toInt = 3 := by decide
 have ci4 : (4 : Int32).toInt = 4 := by decide
 have ci16 : (16 : Int32).toInt = 16 := by decide
 have ci256 : (256 : Int32).toInt = 256 := by decide
 have ci65536 : (65536 : Int32).toInt = 65536 := by decide
 refine own_close (s := s) (Q := (own_Q_i (fun r => own_prevP (own_w wa wb wc wd) i.toInt r.toInt) h0 n0)) (C := (({ frames := 3, cells := 0, slots := 0, locals := 100 } : Room)).cells) (N := (({ frames := 3, cells := 0, slots := 0, locals := 100 } : Room)).slots) (own_st (fun _ kt => castTop (own_ef13 m b i) kt) ?_)
 show own_Rch _ _ _ _ s₁ (mkF m 0 #[oR b, oI i, .unset, .unset, .unset] [])
 refine own_st (fun _ => XS.iloadN X0.here hx rfl (hb hby own_d13_0) rfl) ?_
 show own_Rch _ _ _ _ s₁ (mkF m 1 #[oR b, oI i, .unset, .unset, .unset] [(.int i)])
 refine own_st (fun _ => XS.ifYes X0.here hx rfl (pc0 := 1) (pc' := 38) rfl (hb hby own_d13_1) rfl ((if0 _ _).trans (flt ((own_nneg hi0) : ¬ (i < (0 : Int32)))).2.1) (by decide) (by decide)) ?_
 show own_Rch _ _ _ _ s₁ (mkF m 38 #[oR b, oI i, .unset, .unset, .unset] [])
 refine own_st (fun _ => XS.aloadN X0.here hx rfl (hb hby own_d13_38) rfl rfl) ?_
 show own_Rch _ _ _ _ s₁ (mkF m 39 #[oR b, oI i, .unset, .unset, .unset] [(.ref b)])
 obtain ⟨cq1, q1a, q1b⟩ := Eb.cell
 obtain ⟨_, _, ⟨T1, L1, k1, n1⟩, -, X1, ⟨Lc1, hQ1, l1, y1, z1⟩, st1⟩ := X0.privateBack hx (y := (⟨"java/util/BitSet", "checkInvariants", "()V"⟩ : MethodName)) hown (mvT hZ (hw _ (own_m 57 rfl))) (mvT hZ (hw _ (own_m 58 rfl))) (mvT hZ (hw _ (own_m 60 rfl))) (Cond.privateMethod_at (mvP hZ (hw _ (own_m 59 rfl)) (args := #[]))) (mvT hZ (hw _ (own_m 61 rfl))) (by decide) (backOf (W := 0) (own_ci l Z a0 hw [] b h0 n0 O0 SA) hZ (hw _ (own_m 61 rfl)) (hw _ (own_m 11 rfl)) (by decide) (by decide)) (g := (mkF m 39 #[oR b, oI i, .unset, .unset, .unset] [(.ref b)])) rfl (by rw [hml]; rfl) (Steps.refl _) (a := b) (by rw [e0]; exact q1a) q1b (argsL := []) (rest := []) (lenOf own_pd2 rfl) rfl (by show 2 * 0 + _ ≤ _; exact Nat.le_of_eq rfl) (hb hby own_d13_39) (fun _ _ => ⟨rfl, e0, (by decide : 0 + 0 ≤ _), (by decide : 0 + 0 ≤ _)⟩)
 dsimp only [Pt.U, Pt.locs, Pt.cells, Pt.slots] at X1 l1 y1 z1 st1 hQ1
 subst l1 y1 z1
 obtain ⟨rfl, N1q, hh1⟩ := hQ1
 have N1 := Fr.app N0 N1q
 refine own_st (fun _ => st1.trans) ?_
 show own_Rch _ _ _ _ T1 (mkF m 42 #[oR b, oI i, .unset, .unset, .unset] [])
 refine own_st (fun _ => XS.iloadN X1.here hx rfl (hb hby own_d13_42) rfl) ?_
 show own_Rch _ _ _ _ T1 (mkF m 43 #[oR b, oI i, .unset, .unset, .unset] [(.int i)])
 obtain ⟨_, _, ⟨T2, L2, k2, n2⟩, -, X2, ⟨Lc2, hQ2, l2, y2, z2⟩, st2⟩ := Jvm.LawKit.callS X1 hx (y := (⟨"java/util/BitSet", "wordIndex", "(I)I"⟩ : MethodName)) hown (mvT hZ (hw _ (own_m 25 rfl))) (mvT hZ (hw _ (own_m 26 rfl))) (mvT hZ (hw _ (own_m 11 rfl))) (mvT hZ (hw _ (own_m 27 rfl))) (by decide) (backOf (W := 0) (own_wordIndex l Z a0 hw [] i (3 : Int32) h0 n0 O0 hq) hZ (hw _ (own_m 27 rfl)) (hw _ (own_m 11 rfl)) (by decide) (by decide)) (g := (mkF m 43 #[oR b, oI i, .unset, .unset, .unset] [(.int i)])) rfl (by rw [hml]; rfl) (argsL := [(.int i)]) (rest := []) (lenOf own_pd0 rfl) rfl (by show 2 * 0 + _ ≤ _; exact Nat.le_of_eq rfl) (hb hby own_d13_43) (fun _ _ => ⟨rfl, hh1, (by decide : 0 + 0 ≤ _), (by decide : 0 + 0 ≤ _)⟩)
 dsimp only [Pt.U, Pt.locs, Pt.cells, Pt.slots] at X2 l2 y2 z2 st2 hQ2
 subst l2 y2 z2
 obtain ⟨rfl, N2q, hh2⟩ := hQ2
 have N2 := Fr.app N1 N2q
 refine own_st st2 ?_
 show own_Rch _ _ _ _ T2 (mkF m 46 #[oR b, oI i, .unset, .unset, .unset] [(.int (3 : Int32))])
 refine own_st (fun _ => XS.istoreN X2.here hx rfl (hb hby own_d13_46) rfl (l' := #[oR b, oI i, oI (3 : Int32), .unset, .unset]) rfl) ?_
 show own_Rch _ _ _ _ T2 (mkF m 47 #[oR b, oI i, oI (3 : Int32), .unset, .unset] [])
 refine own_st (fun _ => XS.iloadN X2.here hx rfl (hb hby own_d13_47) rfl) ?_
 show own_Rch _ _ _ _ T2 (mkF m 48 #[oR b, oI i, oI (3 : Int32), .unset, .unset] [(.int (3 : Int32))])
 refine own_st (fun _ => XS.aloadN X2.here hx rfl (hb hby own_d13_48) rfl rfl) ?_
 show own_Rch _ _ _ _ T2 (mkF m 49 #[oR b, oI i, oI (3 : Int32), .unset, .unset] [(.ref b), (.int (3 : Int32))])
 obtain ⟨T3, X3, e3, st3⟩ := getF X2 hx hZ hown (host := "") (Or.inl (hw _ (own_m 16 rfl))) Via.refl hh2 Fn (g := (mkF m 49 #[oR b, oI i, oI (3 : Int32), .unset, .unset] [(.ref b), (.int (3 : Int32))])) rfl rfl (hb hby own_d13_49)
 refine own_st st3 ?_
 show own_Rch _ _ _ _ T3 (mkF m 52 #[oR b, oI i, oI (3 : Int32), .unset, .unset] [(.int nn), (.int (3 : Int32))])
 by_cases hc52_4 : (3 : Int32) < nn
 · -- pc 52: True
  refine own_st (fun _ => XS.icmpYes X3.here hx rfl (pc0 := 52) (pc' := 62) rfl (hb hby own_d13_52) rfl (tlt hc52_4).1 (by decide) (by decide)) ?_
  show own_Rch _ _ _ _ T3 (mkF m 62 #[oR b, oI i, oI (3 : Int32), .unset, .unset] [])
  refine own_st (fun _ => XS.aloadN X3.here hx rfl (hb hby own_d13_62) rfl rfl) ?_
  show own_Rch _ _ _ _ T3 (mkF m 63 #[oR b, oI i, oI (3 : Int32), .unset, .unset] [(.ref b)])
  obtain ⟨T5, X5, e5, st5⟩ := getF X3 hx hZ hown (host := "") (Or.inl (hw _ (own_m 29 rfl))) Via.refl e3 Fw (g := (mkF m 63 #[oR b, oI i, oI (3 : Int32), .unset, .unset] [(.ref b)])) rfl rfl (hb hby own_d13_63)
  refine own_st st5 ?_
  show own_Rch _ _ _ _ T5 (mkF m 66 #[oR b, oI i, oI (3 : Int32), .unset, .unset] [(.ref y)])
  refine own_st (fun _ => XS.iloadN X5.here hx rfl (hb hby own_d13_66) rfl) ?_
  show own_Rch _ _ _ _ T5 (mkF m 67 #[oR b, oI i, oI (3 : Int32), .unset, .unset] [(.int (3 : Int32)), (.ref y)])
  obtain ⟨cl6, Ar6, q6, S6, M6, H6, G6⟩ := id Va
  have hin6 : ¬ ((3 : Int32) < 0 ∨ cl6.slots.size ≤ ((3 : Int32)).toNatClampNeg) := inb_of S6 ⟨by decide, by decide⟩
  refine own_st (X5.laload hx (j := (3 : Int32)) (v := (.long wd)) (by rw [e5]; exact Ar6.1) (State.isArrayOf_alike (hZ).alike Ar6.2.1) Ar6.2.2 hin6 (H6.at hin6 rfl) (g := (mkF m 67 #[oR b, oI i, oI (3 : Int32), .unset, .unset] [(.int (3 : Int32)), (.ref y)])) rfl rfl (hb hby own_d13_67)) ?_
  show own_Rch _ _ _ _ T5 (mkF m 68 #[oR b, oI i, oI (3 : Int32), .unset, .unset] [(.long wd)])
  refine own_st (X5.ldc2Long hx hown (mvT hZ (hw _ (own_m 56 rfl))) (g := (mkF m 68 #[oR b, oI i, oI (3 : Int32), .unset, .unset] [(.long wd)])) rfl (hb hby own_d13_68)) ?_
  show own_Rch _ _ _ _ T5 (mkF m 71 #[oR b, oI i, oI (3 : Int32), .unset, .unset] [(.long (-1 : Int64)), (.long wd)])
  refine own_st (fun _ => XS.iloadN X5.here hx rfl (hb hby own_d13_71) rfl) ?_
  show own_Rch _ _ _ _ T5 (mkF m 72 #[oR b, oI i, oI (3 : Int32), .unset, .unset] [(.int i), (.long (-1 : Int64)), (.long wd)])
  refine own_st (fun _ => XS.iconst X5.here hx rfl (hb hby own_d13_72)) ?_
  show own_Rch _ _ _ _ T5 (mkF m 73 #[oR b, oI i, oI (3 : Int32), .unset, .unset] [(.int (1 : Int32)), (.int i), (.long (-1 : Int64)), (.long wd)])
  refine own_st (fun _ => XS.iadd X5.here hx rfl (hb hby own_d13_73) rfl) ?_
  show own_Rch _ _ _ _ T5 (mkF m 74 #[oR b, oI i, oI (3 : Int32), .unset, .unset] [(.int (i + (1 : Int32))), (.long (-1 : Int64)), (.long wd)])
  refine own_st (fun _ => XS.ineg X5.here hx rfl (hb hby own_d13_74) rfl) ?_
  show own_Rch _ _ _ _ T5 (mkF m 75 #[oR b, oI i, oI (3 : Int32), .unset, .unset] [(.int (-(i + (1 : Int32)))), (.long (-1 : Int64)), (.long wd)])
  refine own_st (fun _ => XS.lushr X5.here hx rfl (hb hby own_d13_75) rfl) ?_
  show own_Rch _ _ _ _ T5 (mkF m 76 #[oR b, oI i, oI (3 : Int32), .unset, .unset] [(.long (((-1 : Int64).toUInt64 >>> ((-(i + (1 : Int32))) &&& 0x3f).toInt64.toUInt64).toInt64)), (.long wd)])
  refine own_st (fun _ => XS.land X5.here hx rfl (hb hby own_d13_76) rfl) ?_
  show own_Rch _ _ _ _ T5 (mkF m 77 #[oR b, oI i, oI (3 : Int32), .unset, .unset] [(.long (wd &&& (((-1 : Int64).toUInt64 >>> ((-(i + (1 : Int32))) &&& 0x3f).toInt64.toUInt64).toInt64)))])
  refine own_st (fun _ => XS.lstoreN X5.here hx rfl (hb hby own_d13_77) rfl (l' := #[oR b, oI i, oI (3 : Int32), oL (wd &&& (((-1 : Int64).toUInt64 >>> ((-(i + (1 : Int32))) &&& 0x3f).toInt64.toUInt64).toInt64)), .second]) rfl) ?_
  show own_Rch _ _ _ _ T5 (mkF m 78 #[oR b, oI i, oI (3 : Int32), oL (wd &&& (((-1 : Int64).toUInt64 >>> ((-(i + (1 : Int32))) &&& 0x3f).toInt64.toUInt64).toInt64)), .second] [])
  refine own_st (fun _ => XS.lloadN X5.here hx rfl (hb hby own_d13_78) rfl) ?_
  show own_Rch _ _ _ _ T5 (mkF m 79 #[oR b, oI i, oI (3 : Int32), oL (wd &&& (((-1 : Int64).toUInt64 >>> ((-(i + (1 : Int32))) &&& 0x3f).toInt64.toUInt64).toInt64)), .second] [(.long (wd &&& (((-1 : Int64).toUInt64 >>> ((-(i + (1 : Int32))) &&& 0x3f).toInt64.toUInt64).toInt64)))])
  refine own_st (fun _ => XS.lconst X5.here hx rfl (hb hby own_d13_79)) ?_
  show own_Rch _ _ _ _ T5 (mkF m 80 #[oR b, oI i, oI (3 : Int32), oL (wd &&& (((-1 : Int64).toUInt64 >>> ((-(i + (1 : Int32))) &&& 0x3f).toInt64.toUInt64).toInt64)), .second] [(.long (0 : Int64)), (.long (wd &&& (((-1 : Int64).toUInt64 >>> ((-(i + (1 : Int32))) &&& 0x3f).toInt64.toUInt64).toInt64)))])
  refine own_st (fun _ => XS.lcmp X5.here hx rfl (hb hby own_d13_80) rfl) ?_
  show own_Rch _ _ _ _ T5 (mkF m 81 #[oR b, oI i, oI (3 : Int32), oL (wd &&& (((-1 : Int64).toUInt64 >>> ((-(i + (1 : Int32))) &&& 0x3f).toInt64.toUInt64).toInt64)), .second] [(.int (lcmpW (wd &&& (((-1 : Int64).toUInt64 >>> ((-(i + (1 : Int32))) &&& 0x3f).toInt64.toUInt64).toInt64)) (0 : Int64)))])
  by_cases hc81_7 : (lcmpW (wd &&& (((-1 : Int64).toUInt64 >>> ((-(i + (1 : Int32))) &&& 0x3f).toInt64.toUInt64).toInt64)) (0 : Int64)) = (0 : Int32)
  · -- pc 81: True
   refine own_st (fun _ => XS.ifYes X5.here hx rfl (pc0 := 81) (pc' := 98) rfl (hb hby own_d13_81) rfl ((if0 _ _).trans (teq hc81_7).1) (by decide) (by decide)) ?_
   show own_Rch _ _ _ _ T5 (mkF m 98 #[oR b, oI i, oI (3 : Int32), oL (wd &&& (((-1 : Int64).toUInt64 >>> ((-(i + (1 : Int32))) &&& 0x3f).toInt64.toUInt64).toInt64)), .second] [])
   refine own_st (fun _ => XS.iloadN X5.here hx rfl (hb hby own_d13_98) rfl) ?_
   show own_Rch _ _ _ _ T5 (mkF m 99 #[oR b, oI i, oI (3 : Int32), oL (wd &&& (((-1 : Int64).toUInt64 >>> ((-(i + (1 : Int32))) &&& 0x3f).toInt64.toUInt64).toInt64)), .second] [(.int (3 : Int32))])
   refine own_st (fun _ => XS.iinc X5.here hx rfl (hb hby own_d13_99) rfl (l' := #[oR b, oI i, oI (2 : Int32), oL (wd &&& (((-1 : Int64).toUInt64 >>> ((-(i + (1 : Int32))) &&& 0x3f).toInt64.toUInt64).toInt64)), .second]) rfl) ?_
   show own_Rch _ _ _ _ T5 (mkF m 102 #[oR b, oI i, oI (2 : Int32), oL (wd &&& (((-1 : Int64).toUInt64 >>> ((-(i + (1 : Int32))) &&& 0x3f).toInt64.toUInt64).toInt64)), .second] [(.int (3 : Int32))])
   refine own_st (fun _ => XS.ifYes X5.here hx rfl (pc0 := 102) (pc' := 107) rfl (hb hby own_d13_102) rfl ((if0 _ _).trans (feq ((by decide) : ¬ ((3 : Int32) = (0 : Int32)))).2) (by decide) (by decide)) ?_
   show own_Rch _ _ _ _ T5 (mkF m 107 #[oR b, oI i, oI (2 : Int32), oL (wd &&& (((-1 : Int64).toUInt64 >>> ((-(i + (1 : Int32))) &&& 0x3f).toInt64.toUInt64).toInt64)), .second] [])
   refine own_st (fun _ => XS.aloadN X5.here hx rfl (hb hby own_d13_107) rfl rfl) ?_
   show own_Rch _ _ _ _ T5 (mkF m 108 #[oR b, oI i, oI (2 : Int32), oL (wd &&& (((-1 : Int64).toUInt64 >>> ((-(i + (1 : Int32))) &&& 0x3f).toInt64.toUInt64).toInt64)), .second] [(.ref b)])
   obtain ⟨T8, X8, e8, st8⟩ := getF X5 hx hZ hown (host := "") (Or.inl (hw _ (own_m 29 rfl))) Via.refl e5 Fw (g := (mkF m 108 #[oR b, oI i, oI (2 : Int32), oL (wd &&& (((-1 : Int64).toUInt64 >>> ((-(i + (1 : Int32))) &&& 0x3f).toInt64.toUInt64).toInt64)), .second] [(.ref b)])) rfl rfl (hb hby own_d13_108)
   refine own_st st8 ?_
   show own_Rch _ _ _ _ T8 (mkF m 111 #[oR b, oI i, oI (2 : Int32), oL (wd &&& (((-1 : Int64).toUInt64 >>> ((-(i + (1 : Int32))) &&& 0x3f).toInt64.toUInt64).toInt64)), .second] [(.ref y)])
   refine own_st (fun _ => XS.iloadN X8.here hx rfl (hb hby own_d13_111) rfl) ?_
   show own_Rch _ _ _ _ T8 (mkF m 112 #[oR b, oI i, oI (2 : Int32), oL (wd &&& (((-1 : Int64).toUInt64 >>> ((-(i + (1 : Int32))) &&& 0x3f).toInt64.toUInt64).toInt64)), .second] [(.int (2 : Int32)), (.ref y)])
   obtain ⟨cl9, Ar9, q9, S9, M9, H9, G9⟩ := id Va
   have hin9 : ¬ ((2 : Int32) < 0 ∨ cl9.slots.size ≤ ((2 : Int32)).toNatClampNeg) := inb_of S9 ⟨by decide, by decide⟩
   refine own_st (X8.laload hx (j := (2 : Int32)) (v := (.long wc)) (by rw [e8]; exact Ar9.1) (State.isArrayOf_alike (hZ).alike Ar9.2.1) Ar9.2.2 hin9 (H9.at hin9 rfl) (g := (mkF m 112 #[oR b, oI i, oI (2 : Int32), oL (wd &&& (((-1 : Int64).toUInt64 >>> ((-(i + (1 : Int32))) &&& 0x3f).toInt64.toUInt64).toInt64)), .second] [(.int (2 : Int32)), (.ref y)])) rfl rfl (hb hby own_d13_112)) ?_
   show own_Rch _ _ _ _ T8 (mkF m 113 #[oR b, oI i, oI (2 : Int32), oL (wd &&& (((-1 : Int64).toUInt64 >>> ((-(i + (1 : Int32))) &&& 0x3f).toInt64.toUInt64).toInt64)), .second] [(.long wc)])
   refine own_st (fun _ => XS.lstoreN X8.here hx rfl (hb hby own_d13_113) rfl (l' := #[oR b, oI i, oI (2 : Int32), oL wc, .second]) rfl) ?_
   show own_Rch _ _ _ _ T8 (mkF m 114 #[oR b, oI i, oI (2 : Int32), oL wc, .second] [])
   refine own_st (fun _ => XS.goto X8.here hx rfl (pc0 := 114) (pc' := 78) rfl (hb hby own_d13_114) (by decide) (by decide)) ?_
   show own_Rch _ _ _ _ T8 (mkF m 78 #[oR b, oI i, oI (2 : Int32), oL wc, .second] [])
   refine own_st (fun _ => XS.lloadN X8.here hx rfl (hb hby own_d13_78) rfl) ?_
   show own_Rch _ _ _ _ T8 (mkF m 79 #[oR b, oI i, oI (2 : Int32), oL wc, .second] [(.long wc)])
   refine own_st (fun _ => XS.lconst X8.here hx rfl (hb hby own_d13_79)) ?_
   show own_Rch _ _ _ _ T8 (mkF m 80 #[oR b, oI i, oI (2 : Int32), oL wc, .second] [(.long (0 : Int64)), (.long wc)])
   refine own_st (fun _ => XS.lcmp X8.here hx rfl (hb hby own_d13_80) rfl) ?_
   show own_Rch _ _ _ _ T8 (mkF m 81 #[oR b, oI i, oI (2 : Int32), oL wc, .second] [(.int (lcmpW wc (0 : Int64)))])
   by_cases hc81_10 : (lcmpW wc (0 : Int64)) = (0 : Int32)
   · -- pc 81: True
    refine own_st (fun _ => XS.ifYes X8.here hx rfl (pc0 := 81) (pc' := 98) rfl (hb hby own_d13_81) rfl ((if0 _ _).trans (teq hc81_10).1) (by decide) (by decide)) ?_
    show own_Rch _ _ _ _ T8 (mkF m 98 #[oR b, oI i, oI (2 : Int32), oL wc, .second] [])
    refine own_st (fun _ => XS.iloadN X8.here hx rfl (hb hby own_d13_98) rfl) ?_
    show own_Rch _ _ _ _ T8 (mkF m 99 #[oR b, oI i, oI (2 : Int32), oL wc, .second] [(.int (2 : Int32))])
    refine own_st (fun _ => XS.iinc X8.here hx rfl (hb hby own_d13_99) rfl (l' := #[oR b, oI i, oI (1 : Int32), oL wc, .second]) rfl) ?_
    show own_Rch _ _ _ _ T8 (mkF m 102 #[oR b, oI i, oI (1 : Int32), oL wc, .second] [(.int (2 : Int32))])
    refine own_st (fun _ => XS.ifYes X8.here hx rfl (pc0 := 102) (pc' := 107) rfl (hb hby own_d13_102) rfl ((if0 _ _).trans (feq ((by decide) : ¬ ((2 : Int32) = (0 : Int32)))).2) (by decide) (by decide)) ?_
    show own_Rch _ _ _ _ T8 (mkF m 107 #[oR b, oI i, oI (1 : Int32), oL wc, .second] [])
    refine own_st (fun _ => XS.aloadN X8.here hx rfl (hb hby own_d13_107) rfl rfl) ?_
    show own_Rch _ _ _ _ T8 (mkF m 108 #[oR b, oI i, oI (1 : Int32), oL wc, .second] [(.ref b)])
    obtain ⟨T11, X11, e11, st11⟩ := getF X8 hx hZ hown (host := "") (Or.inl (hw _ (own_m 29 rfl))) Via.refl e8 Fw (g := (mkF m 108 #[oR b, oI i, oI (1 : Int32), oL wc, .second] [(.ref b)])) rfl rfl (hb hby own_d13_108)
    refine own_st st11 ?_
    show own_Rch _ _ _ _ T11 (mkF m 111 #[oR b, oI i, oI (1 : Int32), oL wc, .second] [(.ref y)])
    refine own_st (fun _ => XS.iloadN X11.here hx rfl (hb hby own_d13_111) rfl) ?_
    show own_Rch _ _ _ _ T11 (mkF m 112 #[oR b, oI i, oI (1 : Int32), oL wc, .second] [(.int (1 : Int32)), (.ref y)])
    obtain ⟨cl12, Ar12, q12, S12, M12, H12, G12⟩ := id Va
    have hin12 : ¬ ((1 : Int32) < 0 ∨ cl12.slots.size ≤ ((1 : Int32)).toNatClampNeg) := inb_of S12 ⟨by decide, by decide⟩
    refine own_st (X11.laload hx (j := (1 : Int32)) (v := (.long wb)) (by rw [e11]; exact Ar12.1) (State.isArrayOf_alike (hZ).alike Ar12.2.1) Ar12.2.2 hin12 (H12.at hin12 rfl) (g := (mkF m 112 #[oR b, oI i, oI (1 : Int32), oL wc, .second] [(.int (1 : Int32)), (.ref y)])) rfl rfl (hb hby own_d13_112)) ?_
    show own_Rch _ _ _ _ T11 (mkF m 113 #[oR b, oI i, oI (1 : Int32), oL wc, .second] [(.long wb)])
    refine own_st (fun _ => XS.lstoreN X11.here hx rfl (hb hby own_d13_113) rfl (l' := #[oR b, oI i, oI (1 : Int32), oL wb, .second]) rfl) ?_
    show own_Rch _ _ _ _ T11 (mkF m 114 #[oR b, oI i, oI (1 : Int32), oL wb, .second] [])
    refine own_st (fun _ => XS.goto X11.here hx rfl (pc0 := 114) (pc' := 78) rfl (hb hby own_d13_114) (by decide) (by decide)) ?_
    show own_Rch _ _ _ _ T11 (mkF m 78 #[oR b, oI i, oI (1 : Int32), oL wb, .second] [])
    refine own_st (fun _ => XS.lloadN X11.here hx rfl (hb hby own_d13_78) rfl) ?_
    show own_Rch _ _ _ _ T11 (mkF m 79 #[oR b, oI i, oI (1 : Int32), oL wb, .second] [(.long wb)])
    refine own_st (fun _ => XS.lconst X11.here hx rfl (hb hby own_d13_79)) ?_
    show own_Rch _ _ _ _ T11 (mkF m 80 #[oR b, oI i, oI (1 : Int32), oL wb, .second] [(.long (0 : Int64)), (.long wb)])
    refine own_st (fun _ => XS.lcmp X11.here hx rfl (hb hby own_d13_80) rfl) ?_
    show own_Rch _ _ _ _ T11 (mkF m 81 #[oR b, oI i, oI (1 : Int32), oL wb, .second] [(.int (lcmpW wb (0 : Int64)))])
    by_cases hc81_13 : (lcmpW wb (0 : Int64)) = (0 : Int32)
    · -- pc 81: True
     refine own_st (fun _ => XS.ifYes X11.here hx rfl (pc0 := 81) (pc' := 98) rfl (hb hby own_d13_81) rfl ((if0 _ _).trans (teq hc81_13).1) (by decide) (by decide)) ?_
     show own_Rch _ _ _ _ T11 (mkF m 98 #[oR b, oI i, oI (1 : Int32), oL wb, .second] [])
     refine own_st (fun _ => XS.iloadN X11.here hx rfl (hb hby own_d13_98) rfl) ?_
     show own_Rch _ _ _ _ T11 (mkF m 99 #[oR b, oI i, oI (1 : Int32), oL wb, .second] [(.int (1 : Int32))])
     refine own_st (fun _ => XS.iinc X11.here hx rfl (hb hby own_d13_99) rfl (l' := #[oR b, oI i, oI (0 : Int32), oL wb, .second]) rfl) ?_
     show own_Rch _ _ _ _ T11 (mkF m 102 #[oR b, oI i, oI (0 : Int32), oL wb, .second] [(.int (1 : Int32))])
     refine own_st (fun _ => XS.ifYes X11.here hx rfl (pc0 := 102) (pc' := 107) rfl (hb hby own_d13_102) rfl ((if0 _ _).trans (feq ((by decide) : ¬ ((1 : Int32) = (0 : Int32)))).2) (by decide) (by decide)) ?_
     show own_Rch _ _ _ _ T11 (mkF m 107 #[oR b, oI i, oI (0 : Int32), oL wb, .second] [])
     refine own_st (fun _ => XS.aloadN X11.here hx rfl (hb hby own_d13_107) rfl rfl) ?_
     show own_Rch _ _ _ _ T11 (mkF m 108 #[oR b, oI i, oI (0 : Int32), oL wb, .second] [(.ref b)])
     obtain ⟨T14, X14, e14, st14⟩ := getF X11 hx hZ hown (host := "") (Or.inl (hw _ (own_m 29 rfl))) Via.refl e11 Fw (g := (mkF m 108 #[oR b, oI i, oI (0 : Int32), oL wb, .second] [(.ref b)])) rfl rfl (hb hby own_d13_108)
     refine own_st st14 ?_
     show own_Rch _ _ _ _ T14 (mkF m 111 #[oR b, oI i, oI (0 : Int32), oL wb, .second] [(.ref y)])
     refine own_st (fun _ => XS.iloadN X14.here hx rfl (hb hby own_d13_111) rfl) ?_
     show own_Rch _ _ _ _ T14 (mkF m 112 #[oR b, oI i, oI (0 : Int32), oL wb, .second] [(.int (0 : Int32)), (.ref y)])
     obtain ⟨cl15, Ar15, q15, S15, M15, H15, G15⟩ := id Va
     have hin15 : ¬ ((0 : Int32) < 0 ∨ cl15.slots.size ≤ ((0 : Int32)).toNatClampNeg) := inb_of S15 ⟨by decide, by decide⟩
     refine own_st (X14.laload hx (j := (0 : Int32)) (v := (.long wa)) (by rw [e14]; exact Ar15.1) (State.isArrayOf_alike (hZ).alike Ar15.2.1) Ar15.2.2 hin15 (H15.at hin15 rfl) (g := (mkF m 112 #[oR b, oI i, oI (0 : Int32), oL wb, .second] [(.int (0 : Int32)), (.ref y)])) rfl rfl (hb hby own_d13_112)) ?_
     show own_Rch _ _ _ _ T14 (mkF m 113 #[oR b, oI i, oI (0 : Int32), oL wb, .second] [(.long wa)])
     refine own_st (fun _ => XS.lstoreN X14.here hx rfl (hb hby own_d13_113) rfl (l' := #[oR b, oI i, oI (0 : Int32), oL wa, .second]) rfl) ?_
     show own_Rch _ _ _ _ T14 (mkF m 114 #[oR b, oI i, oI (0 : Int32), oL wa, .second] [])
     refine own_st (fun _ => XS.goto X14.here hx rfl (pc0 := 114) (pc' := 78) rfl (hb hby own_d13_114) (by decide) (by decide)) ?_
     show own_Rch _ _ _ _ T14 (mkF m 78 #[oR b, oI i, oI (0 : Int32), oL wa, .second] [])
     refine own_st (fun _ => XS.lloadN X14.here hx rfl (hb hby own_d13_78) rfl) ?_
     show own_Rch _ _ _ _ T14 (mkF m 79 #[oR b, oI i, oI (0 : Int32), oL wa, .second] [(.long wa)])
     refine own_st (fun _ => XS.lconst X14.here hx rfl (hb hby own_d13_79)) ?_
     show own_Rch _ _ _ _ T14 (mkF m 80 #[oR b, oI i, oI (0 : Int32), oL wa, .second] [(.long (0 : Int64)), (.long wa)])
     refine own_st (fun _ => XS.lcmp X14.here hx rfl (hb hby own_d13_80) rfl) ?_
     show own_Rch _ _ _ _ T14 (mkF m 81 #[oR b, oI i, oI (0 : Int32), oL wa, .second] [(.int (lcmpW wa (0 : Int64)))])
     by_cases hc81_16 : (lcmpW wa (0 : Int64)) = (0 : Int32)
     · -- pc 81: True
      refine own_st (fun _ => XS.ifYes X14.here hx rfl (pc0 := 81) (pc' := 98) rfl (hb hby own_d13_81) rfl ((if0 _ _).trans (teq hc81_16).1) (by decide) (by decide)) ?_
      show own_Rch _ _ _ _ T14 (mkF m 98 #[oR b, oI i, oI (0 : Int32), oL wa, .second] [])
      refine own_st (fun _ => XS.iloadN X14.here hx rfl (hb hby own_d13_98) rfl) ?_
      show own_Rch _ _ _ _ T14 (mkF m 99 #[oR b, oI i, oI (0 : Int32), oL wa, .second] [(.int (0 : Int32))])
      refine own_st (fun _ => XS.iinc X14.here hx rfl (hb hby own_d13_99) rfl (l' := #[oR b, oI i, oI (-1 : Int32), oL wa, .second]) rfl) ?_
      show own_Rch _ _ _ _ T14 (mkF m 102 #[oR b, oI i, oI (-1 : Int32), oL wa, .second] [(.int (0 : Int32))])
      refine own_st (fun _ => XS.ifNo X14.here hx rfl (hb hby own_d13_102) rfl ((if0 _ _).trans (teq (rfl : (0 : Int32) = (0 : Int32))).2)) ?_
      show own_Rch _ _ _ _ T14 (mkF m 105 #[oR b, oI i, oI (-1 : Int32), oL wa, .second] [])
      refine own_st (fun _ => XS.iconst X14.here hx rfl (hb hby own_d13_105)) ?_
      show own_Rch _ _ _ _ T14 (mkF m 106 #[oR b, oI i, oI (-1 : Int32), oL wa, .second] [(.int (-1 : Int32))])
      refine own_retI X14 hx Bd.notSynchronized Bd.returns (hb hby own_d13_106) (by decide) (by decide) ?_
      rw [e14]
      refine ⟨_, rfl, N2, rfl, own_prevC' (W := (own_w wa wb wc wd)) (q := 3) hi0 (own_wi hq (by decide)) (own_mlo (W := (own_w wa wb wc wd)) (q := 3) hi0 (by omega)) ((lw_eq _ _).mp hc81_7) ?_⟩
      intro v h1
      rcases (by omega : v = 2 ∨ v = 1 ∨ v = 0) with rfl | rfl | rfl
      · exact (lw_eq _ _).mp hc81_10
      · exact (lw_eq _ _).mp hc81_13
      · exact (lw_eq _ _).mp hc81_16
     · -- pc 81: False
      refine own_st (fun _ => XS.ifNo X14.here hx rfl (hb hby own_d13_81) rfl ((if0 _ _).trans (feq hc81_16).1)) ?_
      show own_Rch _ _ _ _ T14 (mkF m 84 #[oR b, oI i, oI (0 : Int32), oL wa, .second] [])
      refine own_st (fun _ => XS.iloadN X14.here hx rfl (hb hby own_d13_84) rfl) ?_
      show own_Rch _ _ _ _ T14 (mkF m 85 #[oR b, oI i, oI (0 : Int32), oL wa, .second] [(.int (0 : Int32))])
      refine own_st (fun _ => XS.iconst X14.here hx rfl (hb hby own_d13_85)) ?_
      show own_Rch _ _ _ _ T14 (mkF m 86 #[oR b, oI i, oI (0 : Int32), oL wa, .second] [(.int (1 : Int32)), (.int (0 : Int32))])
      refine own_st (fun _ => XS.iadd X14.here hx rfl (hb hby own_d13_86) rfl) ?_
      show own_Rch _ _ _ _ T14 (mkF m 87 #[oR b, oI i, oI (0 : Int32), oL wa, .second] [(.int (1 : Int32))])
      refine own_st (fun _ => XS.bipush X14.here hx rfl (hb hby own_d13_87)) ?_
      show own_Rch _ _ _ _ T14 (mkF m 89 #[oR b, oI i, oI (0 : Int32), oL wa, .second] [(.int (64 : Int32)), (.int (1 : Int32))])
      refine own_st (fun _ => XS.imul X14.here hx rfl (hb hby own_d13_89) rfl) ?_
      show own_Rch _ _ _ _ T14 (mkF m 90 #[oR b, oI i, oI (0 : Int32), oL wa, .second] [(.int (64 : Int32))])
      refine own_st (fun _ => XS.iconst X14.here hx rfl (hb hby own_d13_90)) ?_
      show own_Rch _ _ _ _ T14 (mkF m 91 #[oR b, oI i, oI (0 : Int32), oL wa, .second] [(.int (1 : Int32)), (.int (64 : Int32))])
      refine own_st (fun _ => XS.isub X14.here hx rfl (hb hby own_d13_91) rfl) ?_
      show own_Rch _ _ _ _ T14 (mkF m 92 #[oR b, oI i, oI (0 : Int32), oL wa, .second] [(.int (63 : Int32))])
      refine own_st (fun _ => XS.lloadN X14.here hx rfl (hb hby own_d13_92) rfl) ?_
      show own_Rch _ _ _ _ T14 (mkF m 93 #[oR b, oI i, oI (0 : Int32), oL wa, .second] [(.long wa), (.int (63 : Int32))])
      obtain ⟨_, _, ⟨T17, L17, k17, n17⟩, -, X17, ⟨Lc17, hQ17, l17, y17, z17⟩, st17⟩ := Jvm.LawKit.callS X14 hx (y := (⟨"java/lang/Long", "numberOfLeadingZeros", "(J)I"⟩ : MethodName)) hown (mvT hZ (hw _ (own_m 73 rfl))) (mvT hZ (hw _ (own_m 74 rfl))) (mvT hZ (hw _ (own_m 75 rfl))) (mvT hZ (hw _ (own_m 76 rfl))) (by decide) (backOf (W := 1) (own_nlzL l Z a0 hw [] wa h0 n0 O0 (fun q => hc81_16 ((lw_eq _ _).mpr q))) hZ (hw _ (own_m 76 rfl)) (hw _ (own_m 75 rfl)) (by decide) (by decide)) (g := (mkF m 93 #[oR b, oI i, oI (0 : Int32), oL wa, .second] [(.long wa), (.int (63 : Int32))])) rfl (by rw [hml]; rfl) (argsL := [(.long wa)]) (rest := [(.int (63 : Int32))]) (lenOf own_pd1 rfl) rfl (by show 2 * 0 + _ ≤ _; exact Nat.le_of_eq rfl) (hb hby own_d13_93) (fun _ _ => ⟨rfl, e14, (by decide : 0 + 0 ≤ _), (by decide : 0 + 0 ≤ _)⟩)
      dsimp only [Pt.U, Pt.locs, Pt.cells, Pt.slots] at X17 l17 y17 z17 st17 hQ17
      subst l17 y17 z17
      obtain ⟨rr17, rfl, N17q, hh17, hn17⟩ := hQ17
      have N17 := Fr.app N2 N17q
      refine own_st st17 ?_
      show own_Rch _ _ _ _ T17 (mkF m 96 #[oR b, oI i, oI (0 : Int32), oL wa, .second] [(.int rr17), (.int (63 : Int32))])
      refine own_st (fun _ => XS.isub X17.here hx rfl (hb hby own_d13_96) rfl) ?_
      show own_Rch _ _ _ _ T17 (mkF m 97 #[oR b, oI i, oI (0 : Int32), oL wa, .second] [(.int ((63 : Int32) - rr17))])
      refine own_retI X17 hx Bd.notSynchronized Bd.returns (hb hby own_d13_97) (by decide) (by decide) ?_
      rw [hh17]
      obtain ⟨qk, qk63, qr, -⟩ := id hn17
      have r1 := own_sb (x := (63 : Int32)) (y := rr17) (show _ = (63 : Int) by decide) rfl (by omega) (by omega)
      refine ⟨_, rfl, N17, rfl, own_prevB (u := 0) (W := (own_w wa wb wc wd)) (q := 3) hi0 (own_wi hq (by decide)) (own_mlo (W := (own_w wa wb wc wd)) (q := 3) hi0 (by omega)) (by decide) ((lw_eq _ _).mp hc81_7) ?_ hn17 (by rw [r1]; omega)⟩
      intro v h1 h2
      rcases (by omega : v = 2 ∨ v = 1) with rfl | rfl
      · exact (lw_eq _ _).mp hc81_10
      · exact (lw_eq _ _).mp hc81_13
    · -- pc 81: False
     refine own_st (fun _ => XS.ifNo X11.here hx rfl (hb hby own_d13_81) rfl ((if0 _ _).trans (feq hc81_13).1)) ?_
     show own_Rch _ _ _ _ T11 (mkF m 84 #[oR b, oI i, oI (1 : Int32), oL wb, .second] [])
     refine own_st (fun _ => XS.iloadN X11.here hx rfl (hb hby own_d13_84) rfl) ?_
     show own_Rch _ _ _ _ T11 (mkF m 85 #[oR b, oI i, oI (1 : Int32), oL wb, .second] [(.int (1 : Int32))])
     refine own_st (fun _ => XS.iconst X11.here hx rfl (hb hby own_d13_85)) ?_
     show own_Rch _ _ _ _ T11 (mkF m 86 #[oR b, oI i, oI (1 : Int32), oL wb, .second] [(.int (1 : Int32)), (.int (1 : Int32))])
     refine own_st (fun _ => XS.iadd X11.here hx rfl (hb hby own_d13_86) rfl) ?_
     show own_Rch _ _ _ _ T11 (mkF m 87 #[oR b, oI i, oI (1 : Int32), oL wb, .second] [(.int (2 : Int32))])
     refine own_st (fun _ => XS.bipush X11.here hx rfl (hb hby own_d13_87)) ?_
     show own_Rch _ _ _ _ T11 (mkF m 89 #[oR b, oI i, oI (1 : Int32), oL wb, .second] [(.int (64 : Int32)), (.int (2 : Int32))])
     refine own_st (fun _ => XS.imul X11.here hx rfl (hb hby own_d13_89) rfl) ?_
     show own_Rch _ _ _ _ T11 (mkF m 90 #[oR b, oI i, oI (1 : Int32), oL wb, .second] [(.int (128 : Int32))])
     refine own_st (fun _ => XS.iconst X11.here hx rfl (hb hby own_d13_90)) ?_
     show own_Rch _ _ _ _ T11 (mkF m 91 #[oR b, oI i, oI (1 : Int32), oL wb, .second] [(.int (1 : Int32)), (.int (128 : Int32))])
     refine own_st (fun _ => XS.isub X11.here hx rfl (hb hby own_d13_91) rfl) ?_
     show own_Rch _ _ _ _ T11 (mkF m 92 #[oR b, oI i, oI (1 : Int32), oL wb, .second] [(.int (127 : Int32))])
     refine own_st (fun _ => XS.lloadN X11.here hx rfl (hb hby own_d13_92) rfl) ?_
     show own_Rch _ _ _ _ T11 (mkF m 93 #[oR b, oI i, oI (1 : Int32), oL wb, .second] [(.long wb), (.int (127 : Int32))])
     obtain ⟨_, _, ⟨T18, L18, k18, n18⟩, -, X18, ⟨Lc18, hQ18, l18, y18, z18⟩, st18⟩ := Jvm.LawKit.callS X11 hx (y := (⟨"java/lang/Long", "numberOfLeadingZeros", "(J)I"⟩ : MethodName)) hown (mvT hZ (hw _ (own_m 73 rfl))) (mvT hZ (hw _ (own_m 74 rfl))) (mvT hZ (hw _ (own_m 75 rfl))) (mvT hZ (hw _ (own_m 76 rfl))) (by decide) (backOf (W := 1) (own_nlzL l Z a0 hw [] wb h0 n0 O0 (fun q => hc81_13 ((lw_eq _ _).mpr q))) hZ (hw _ (own_m 76 rfl)) (hw _ (own_m 75 rfl)) (by decide) (by decide)) (g := (mkF m 93 #[oR b, oI i, oI (1 : Int32), oL wb, .second] [(.long wb), (.int (127 : Int32))])) rfl (by rw [hml]; rfl) (argsL := [(.long wb)]) (rest := [(.int (127 : Int32))]) (lenOf own_pd1 rfl) rfl (by show 2 * 0 + _ ≤ _; exact Nat.le_of_eq rfl) (hb hby own_d13_93) (fun _ _ => ⟨rfl, e11, (by decide : 0 + 0 ≤ _), (by decide : 0 + 0 ≤ _)⟩)
     dsimp only [Pt.U, Pt.locs, Pt.cells, Pt.slots] at X18 l18 y18 z18 st18 hQ18
     subst l18 y18 z18
     obtain ⟨rr18, rfl, N18q, hh18, hn18⟩ := hQ18
     have N18 := Fr.app N2 N18q
     refine own_st st18 ?_
     show own_Rch _ _ _ _ T18 (mkF m 96 #[oR b, oI i, oI (1 : Int32), oL wb, .second] [(.int rr18), (.int (127 : Int32))])
     refine own_st (fun _ => XS.isub X18.here hx rfl (hb hby own_d13_96) rfl) ?_
     show own_Rch _ _ _ _ T18 (mkF m 97 #[oR b, oI i, oI (1 : Int32), oL wb, .second] [(.int ((127 : Int32) - rr18))])
     refine own_retI X18 hx Bd.notSynchronized Bd.returns (hb hby own_d13_97) (by decide) (by decide) ?_
     rw [hh18]
     obtain ⟨qk, qk63, qr, -⟩ := id hn18
     have r1 := own_sb (x := (127 : Int32)) (y := rr18) (show _ = (127 : Int) by decide) rfl (by omega) (by omega)
     refine ⟨_, rfl, N18, rfl, own_prevB (u := 1) (W := (own_w wa wb wc wd)) (q := 3) hi0 (own_wi hq (by decide)) (own_mlo (W := (own_w wa wb wc wd)) (q := 3) hi0 (by omega)) (by decide) ((lw_eq _ _).mp hc81_7) ?_ hn18 (by rw [r1]; omega)⟩
     intro v h1 h2
     rcases (by omega : v = 2) with rfl
     · exact (lw_eq _ _).mp hc81_10
   · -- pc 81: False
    refine own_st (fun _ => XS.ifNo X8.here hx rfl (hb hby own_d13_81) rfl ((if0 _ _).trans (feq hc81_10).1)) ?_
    show own_Rch _ _ _ _ T8 (mkF m 84 #[oR b, oI i, oI (2 : Int32), oL wc, .second] [])
    refine own_st (fun _ => XS.iloadN X8.here hx rfl (hb hby own_d13_84) rfl) ?_
    show own_Rch _ _ _ _ T8 (mkF m 85 #[oR b, oI i, oI (2 : Int32), oL wc, .second] [(.int (2 : Int32))])
    refine own_st (fun _ => XS.iconst X8.here hx rfl (hb hby own_d13_85)) ?_
    show own_Rch _ _ _ _ T8 (mkF m 86 #[oR b, oI i, oI (2 : Int32), oL wc, .second] [(.int (1 : Int32)), (.int (2 : Int32))])
    refine own_st (fun _ => XS.iadd X8.here hx rfl (hb hby own_d13_86) rfl) ?_
    show own_Rch _ _ _ _ T8 (mkF m 87 #[oR b, oI i, oI (2 : Int32), oL wc, .second] [(.int (3 : Int32))])
    refine own_st (fun _ => XS.bipush X8.here hx rfl (hb hby own_d13_87)) ?_
    show own_Rch _ _ _ _ T8 (mkF m 89 #[oR b, oI i, oI (2 : Int32), oL wc, .second] [(.int (64 : Int32)), (.int (3 : Int32))])
    refine own_st (fun _ => XS.imul X8.here hx rfl (hb hby own_d13_89) rfl) ?_
    show own_Rch _ _ _ _ T8 (mkF m 90 #[oR b, oI i, oI (2 : Int32), oL wc, .second] [(.int (192 : Int32))])
    refine own_st (fun _ => XS.iconst X8.here hx rfl (hb hby own_d13_90)) ?_
    show own_Rch _ _ _ _ T8 (mkF m 91 #[oR b, oI i, oI (2 : Int32), oL wc, .second] [(.int (1 : Int32)), (.int (192 : Int32))])
    refine own_st (fun _ => XS.isub X8.here hx rfl (hb hby own_d13_91) rfl) ?_
    show own_Rch _ _ _ _ T8 (mkF m 92 #[oR b, oI i, oI (2 : Int32), oL wc, .second] [(.int (191 : Int32))])
    refine own_st (fun _ => XS.lloadN X8.here hx rfl (hb hby own_d13_92) rfl) ?_
    show own_Rch _ _ _ _ T8 (mkF m 93 #[oR b, oI i, oI (2 : Int32), oL wc, .second] [(.long wc), (.int (191 : Int32))])
    obtain ⟨_, _, ⟨T19, L19, k19, n19⟩, -, X19, ⟨Lc19, hQ19, l19, y19, z19⟩, st19⟩ := Jvm.LawKit.callS X8 hx (y := (⟨"java/lang/Long", "numberOfLeadingZeros", "(J)I"⟩ : MethodName)) hown (mvT hZ (hw _ (own_m 73 rfl))) (mvT hZ (hw _ (own_m 74 rfl))) (mvT hZ (hw _ (own_m 75 rfl))) (mvT hZ (hw _ (own_m 76 rfl))) (by decide) (backOf (W := 1) (own_nlzL l Z a0 hw [] wc h0 n0 O0 (fun q => hc81_10 ((lw_eq _ _).mpr q))) hZ (hw _ (own_m 76 rfl)) (hw _ (own_m 75 rfl)) (by decide) (by decide)) (g := (mkF m 93 #[oR b, oI i, oI (2 : Int32), oL wc, .second] [(.long wc), (.int (191 : Int32))])) rfl (by rw [hml]; rfl) (argsL := [(.long wc)]) (rest := [(.int (191 : Int32))]) (lenOf own_pd1 rfl) rfl (by show 2 * 0 + _ ≤ _; exact Nat.le_of_eq rfl) (hb hby own_d13_93) (fun _ _ => ⟨rfl, e8, (by decide : 0 + 0 ≤ _), (by decide : 0 + 0 ≤ _)⟩)
    dsimp only [Pt.U, Pt.locs, Pt.cells, Pt.slots] at X19 l19 y19 z19 st19 hQ19
    subst l19 y19 z19
    obtain ⟨rr19, rfl, N19q, hh19, hn19⟩ := hQ19
    have N19 := Fr.app N2 N19q
    refine own_st st19 ?_
    show own_Rch _ _ _ _ T19 (mkF m 96 #[oR b, oI i, oI (2 : Int32), oL wc, .second] [(.int rr19), (.int (191 : Int32))])
    refine own_st (fun _ => XS.isub X19.here hx rfl (hb hby own_d13_96) rfl) ?_
    show own_Rch _ _ _ _ T19 (mkF m 97 #[oR b, oI i, oI (2 : Int32), oL wc, .second] [(.int ((191 : Int32) - rr19))])
    refine own_retI X19 hx Bd.notSynchronized Bd.returns (hb hby own_d13_97) (by decide) (by decide) ?_
    rw [hh19]
    obtain ⟨qk, qk63, qr, -⟩ := id hn19
    have r1 := own_sb (x := (191 : Int32)) (y := rr19) (show _ = (191 : Int) by decide) rfl (by omega) (by omega)
    refine ⟨_, rfl, N19, rfl, own_prevB (u := 2) (W := (own_w wa wb wc wd)) (q := 3) hi0 (own_wi hq (by decide)) (own_mlo (W := (own_w wa wb wc wd)) (q := 3) hi0 (by omega)) (by decide) ((lw_eq _ _).mp hc81_7) ?_ hn19 (by rw [r1]; omega)⟩
    intro v h1 h2; omega
  · -- pc 81: False
   refine own_st (fun _ => XS.ifNo X5.here hx rfl (hb hby own_d13_81) rfl ((if0 _ _).trans (feq hc81_7).1)) ?_
   show own_Rch _ _ _ _ T5 (mkF m 84 #[oR b, oI i, oI (3 : Int32), oL (wd &&& (((-1 : Int64).toUInt64 >>> ((-(i + (1 : Int32))) &&& 0x3f).toInt64.toUInt64).toInt64)), .second] [])
   refine own_st (fun _ => XS.iloadN X5.here hx rfl (hb hby own_d13_84) rfl) ?_
   show own_Rch _ _ _ _ T5 (mkF m 85 #[oR b, oI i, oI (3 : Int32), oL (wd &&& (((-1 : Int64).toUInt64 >>> ((-(i + (1 : Int32))) &&& 0x3f).toInt64.toUInt64).toInt64)), .second] [(.int (3 : Int32))])
   refine own_st (fun _ => XS.iconst X5.here hx rfl (hb hby own_d13_85)) ?_
   show own_Rch _ _ _ _ T5 (mkF m 86 #[oR b, oI i, oI (3 : Int32), oL (wd &&& (((-1 : Int64).toUInt64 >>> ((-(i + (1 : Int32))) &&& 0x3f).toInt64.toUInt64).toInt64)), .second] [(.int (1 : Int32)), (.int (3 : Int32))])
   refine own_st (fun _ => XS.iadd X5.here hx rfl (hb hby own_d13_86) rfl) ?_
   show own_Rch _ _ _ _ T5 (mkF m 87 #[oR b, oI i, oI (3 : Int32), oL (wd &&& (((-1 : Int64).toUInt64 >>> ((-(i + (1 : Int32))) &&& 0x3f).toInt64.toUInt64).toInt64)), .second] [(.int (4 : Int32))])
   refine own_st (fun _ => XS.bipush X5.here hx rfl (hb hby own_d13_87)) ?_
   show own_Rch _ _ _ _ T5 (mkF m 89 #[oR b, oI i, oI (3 : Int32), oL (wd &&& (((-1 : Int64).toUInt64 >>> ((-(i + (1 : Int32))) &&& 0x3f).toInt64.toUInt64).toInt64)), .second] [(.int (64 : Int32)), (.int (4 : Int32))])
   refine own_st (fun _ => XS.imul X5.here hx rfl (hb hby own_d13_89) rfl) ?_
   show own_Rch _ _ _ _ T5 (mkF m 90 #[oR b, oI i, oI (3 : Int32), oL (wd &&& (((-1 : Int64).toUInt64 >>> ((-(i + (1 : Int32))) &&& 0x3f).toInt64.toUInt64).toInt64)), .second] [(.int (256 : Int32))])
   refine own_st (fun _ => XS.iconst X5.here hx rfl (hb hby own_d13_90)) ?_
   show own_Rch _ _ _ _ T5 (mkF m 91 #[oR b, oI i, oI (3 : Int32), oL (wd &&& (((-1 : Int64).toUInt64 >>> ((-(i + (1 : Int32))) &&& 0x3f).toInt64.toUInt64).toInt64)), .second] [(.int (1 : Int32)), (.int (256 : Int32))])
   refine own_st (fun _ => XS.isub X5.here hx rfl (hb hby own_d13_91) rfl) ?_
   show own_Rch _ _ _ _ T5 (mkF m 92 #[oR b, oI i, oI (3 : Int32), oL (wd &&& (((-1 : Int64).toUInt64 >>> ((-(i + (1 : Int32))) &&& 0x3f).toInt64.toUInt64).toInt64)), .second] [(.int (255 : Int32))])
   refine own_st (fun _ => XS.lloadN X5.here hx rfl (hb hby own_d13_92) rfl) ?_
   show own_Rch _ _ _ _ T5 (mkF m 93 #[oR b, oI i, oI (3 : Int32), oL (wd &&& (((-1 : Int64).toUInt64 >>> ((-(i + (1 : Int32))) &&& 0x3f).toInt64.toUInt64).toInt64)), .second] [(.long (wd &&& (((-1 : Int64).toUInt64 >>> ((-(i + (1 : Int32))) &&& 0x3f).toInt64.toUInt64).toInt64))), (.int (255 : Int32))])
   obtain ⟨_, _, ⟨T20, L20, k20, n20⟩, -, X20, ⟨Lc20, hQ20, l20, y20, z20⟩, st20⟩ := Jvm.LawKit.callS X5 hx (y := (⟨"java/lang/Long", "numberOfLeadingZeros", "(J)I"⟩ : MethodName)) hown (mvT hZ (hw _ (own_m 73 rfl))) (mvT hZ (hw _ (own_m 74 rfl))) (mvT hZ (hw _ (own_m 75 rfl))) (mvT hZ (hw _ (own_m 76 rfl))) (by decide) (backOf (W := 1) (own_nlzL l Z a0 hw [] (wd &&& (((-1 : Int64).toUInt64 >>> ((-(i + (1 : Int32))) &&& 0x3f).toInt64.toUInt64).toInt64)) h0 n0 O0 (fun q => hc81_7 ((lw_eq _ _).mpr q))) hZ (hw _ (own_m 76 rfl)) (hw _ (own_m 75 rfl)) (by decide) (by decide)) (g := (mkF m 93 #[oR b, oI i, oI (3 : Int32), oL (wd &&& (((-1 : Int64).toUInt64 >>> ((-(i + (1 : Int32))) &&& 0x3f).toInt64.toUInt64).toInt64)), .second] [(.long (wd &&& (((-1 : Int64).toUInt64 >>> ((-(i + (1 : Int32))) &&& 0x3f).toInt64.toUInt64).toInt64))), (.int (255 : Int32))])) rfl (by rw [hml]; rfl) (argsL := [(.long (wd &&& (((-1 : Int64).toUInt64 >>> ((-(i + (1 : Int32))) &&& 0x3f).toInt64.toUInt64).toInt64)))]) (rest := [(.int (255 : Int32))]) (lenOf own_pd1 rfl) rfl (by show 2 * 0 + _ ≤ _; exact Nat.le_of_eq rfl) (hb hby own_d13_93) (fun _ _ => ⟨rfl, e5, (by decide : 0 + 0 ≤ _), (by decide : 0 + 0 ≤ _)⟩)
   dsimp only [Pt.U, Pt.locs, Pt.cells, Pt.slots] at X20 l20 y20 z20 st20 hQ20
   subst l20 y20 z20
   obtain ⟨rr20, rfl, N20q, hh20, hn20⟩ := hQ20
   have N20 := Fr.app N2 N20q
   refine own_st st20 ?_
   show own_Rch _ _ _ _ T20 (mkF m 96 #[oR b, oI i, oI (3 : Int32), oL (wd &&& (((-1 : Int64).toUInt64 >>> ((-(i + (1 : Int32))) &&& 0x3f).toInt64.toUInt64).toInt64)), .second] [(.int rr20), (.int (255 : Int32))])
   refine own_st (fun _ => XS.isub X20.here hx rfl (hb hby own_d13_96) rfl) ?_
   show own_Rch _ _ _ _ T20 (mkF m 97 #[oR b, oI i, oI (3 : Int32), oL (wd &&& (((-1 : Int64).toUInt64 >>> ((-(i + (1 : Int32))) &&& 0x3f).toInt64.toUInt64).toInt64)), .second] [(.int ((255 : Int32) - rr20))])
   refine own_retI X20 hx Bd.notSynchronized Bd.returns (hb hby own_d13_97) (by decide) (by decide) ?_
   rw [hh20]
   obtain ⟨qk, qk63, qr, -⟩ := id hn20
   have r1 := own_sb (x := (255 : Int32)) (y := rr20) (show _ = (255 : Int) by decide) rfl (by omega) (by omega)
   exact ⟨_, rfl, N20, rfl, own_prevA (W := (own_w wa wb wc wd)) (q := 3) hi0 (own_wi hq (by decide)) (own_mlo (W := (own_w wa wb wc wd)) (q := 3) hi0 (by omega)) hn20 (by rw [r1]; omega)⟩
 · -- pc 52: False
  refine own_st (fun _ => XS.icmpNo X3.here hx rfl (hb hby own_d13_52) rfl (flt hc52_4).1) ?_
  show own_Rch _ _ _ _ T3 (mkF m 55 #[oR b, oI i, oI (3 : Int32), .unset, .unset] [])
  refine own_st (fun _ => XS.aloadN X3.here hx rfl (hb hby own_d13_55) rfl rfl) ?_
  show own_Rch _ _ _ _ T3 (mkF m 56 #[oR b, oI i, oI (3 : Int32), .unset, .unset] [(.ref b)])
  obtain ⟨cq21, kq21, q21a, q21b, q21c⟩ := isOf hZ e3 Eb
  obtain ⟨_, _, ⟨T21, L21, k21, n21⟩, -, X21, ⟨Lc21, hQ21, l21, y21, z21⟩, st21⟩ := X3.virtualBack hx (y := (⟨"java/util/BitSet", "length", "()I"⟩ : MethodName)) (z := (⟨"java/util/BitSet", "length", "()I"⟩ : MethodName)) hown (mvT hZ (hw _ (own_m 107 rfl))) (mvT hZ (hw _ (own_m 99 rfl))) (notFace_of_selects (args := #[]) (mvT hZ (hw _ (own_m 101 rfl)))) (mvT hZ (hw _ (own_m 101 rfl))) (mvT hZ (hw _ (own_m 100 rfl))) (by decide) (backOf (W := 0) (own_length l Z a0 hw [] b y ka wa wb wc wd nn h0 n0 O0 ⟨Eb, Fw, Fn, Va, hW⟩) hZ (hw _ (own_m 102 rfl)) (hw _ (own_m 11 rfl)) (by decide) (by decide)) q21a q21c (g := (mkF m 56 #[oR b, oI i, oI (3 : Int32), .unset, .unset] [(.ref b)])) rfl (by rw [hml]; rfl) (Steps.refl _) (argsL := []) (rest := []) (lenOf own_pd3 rfl) rfl (by show 2 * 0 + _ ≤ _; exact Nat.le_of_eq rfl) (hb hby own_d13_56) (fun _ _ => ⟨rfl, e3, (by decide : 0 + 0 ≤ _), (by decide : 0 + 0 ≤ _)⟩)
  dsimp only [Pt.U, Pt.locs, Pt.cells, Pt.slots] at X21 l21 y21 z21 st21 hQ21
  subst l21 y21 z21
  obtain ⟨rr21, rfl, N21q, hh21, tp21⟩ := hQ21
  have N21 := Fr.app N2 N21q
  refine own_st (fun _ => st21.trans) ?_
  show own_Rch _ _ _ _ T21 (mkF m 59 #[oR b, oI i, oI (3 : Int32), .unset, .unset] [(.int rr21)])
  refine own_st (fun _ => XS.iconst X21.here hx rfl (hb hby own_d13_59)) ?_
  show own_Rch _ _ _ _ T21 (mkF m 60 #[oR b, oI i, oI (3 : Int32), .unset, .unset] [(.int (1 : Int32)), (.int rr21)])
  refine own_st (fun _ => XS.isub X21.here hx rfl (hb hby own_d13_60) rfl) ?_
  show own_Rch _ _ _ _ T21 (mkF m 61 #[oR b, oI i, oI (3 : Int32), .unset, .unset] [(.int (rr21 - (1 : Int32)))])
  refine own_retI X21 hx Bd.notSynchronized Bd.returns (hb hby own_d13_61) (by decide) (by decide) ?_
  rw [hh21]
  have hlt := hi0; rw [Int32.lt_iff_toInt_lt] at hc52_4
  have hqq := own_wi hq (show _ = ((3 : Nat) : Int) by decide)
  exact ⟨_, rfl, N21, rfl, own_prevD' hW (by omega) tp21⟩
theorem own_prev (l : Launch) (Z : State) (a0 : Array Value) (hw : ∀ d ∈ tables_1, d.before a0 Z = true) (ws : List Jvm.Cond) (b : Addr) (y : Addr) (ka : ClassId) (wa : Int64) (wb : Int64) (wc : Int64) (wd : Int64) (nn : Int32) (i : Int32) (h0 : Heap) (n0 : Nat) (O0 : Old Z n0 h0) (SA : Sta Z Z.heap "java/util/BitSet" "$assertionsDisabled" "Z" (.int (1 : Int32))) (SS : own_St Z h0 b y ka wa wb wc wd nn) (hi0 : 0 ≤ i.toInt) (hi1 : i.toInt < 256) :
    MetFree l (⟨"java/util/BitSet", "previousSetBit", "(I)I"⟩ : MethodName) (head1 (Jvm.Cond.code (⟨"java/util/BitSet", "previousSetBit", "(I)I"⟩ : MethodName) jdk_92_method_30_code 5 (some .int) :: ws) ({ frames := 3, cells := 0, slots := 0, locals := 100 } : Room)) (fun args_ U => args_ = #[(.ref b), (.int i)] ∧ Z.Warmed39 U.vm ∧ U.heap = h0) (fun _ _ _ _ _ => True) (fun _ U o U' => ∃ v L, o = .returned v ∧ (own_Q_i (fun r => own_prevP (own_w wa wb wc wd) i.toInt r.toInt) h0 n0) v U'.heap L ∧ FrameEnd U o U' L ({ frames := 3, cells := 0, slots := 0, locals := 100 } : Room).cells ({ frames := 3, cells := 0, slots := 0, locals := 100 } : Room).slots) := by
  rcases own_4 hi0 hi1 with hq | hq | hq | hq
  · exact own_prev0 l Z a0 hw ws b y ka wa wb wc wd nn i h0 n0 O0 SA SS hi0 hi1 hq
  · exact own_prev1 l Z a0 hw ws b y ka wa wb wc wd nn i h0 n0 O0 SA SS hi0 hi1 hq
  · exact own_prev2 l Z a0 hw ws b y ka wa wb wc wd nn i h0 n0 O0 SA SS hi0 hi1 hq
  · exact own_prev3 l Z a0 hw ws b y ka wa wb wc wd nn i h0 n0 O0 SA SS hi0 hi1 hq
theorem own_ef16 (m : MethodId) (x0 : Addr) (x1 : Int32) : entryFrame m #[(.ref x0), (.int x1)] 5 = mkF m 0 #[.val (.ref x0), .val (.int x1), .unset, .unset, .unset] [] := by first | (simp [entryFrame, mkF, argsToLocals, Value.category]; done) | rfl
theorem own_d16_0 : decode jdk_92_method_29_code 0 = .ok (.iload_n 1, 1) := by decide +kernel
theorem own_d16_1 : decode jdk_92_method_29_code 1 = .ok (.ifCond .ge 30, 3) := by decide +kernel
theorem own_d16_31 : decode jdk_92_method_29_code 31 = .ok (.aload_n 0, 1) := by decide +kernel
theorem own_d16_32 : decode jdk_92_method_29_code 32 = .ok (.invokevirtual 56, 3) := by decide +kernel
theorem own_d16_35 : decode jdk_92_method_29_code 35 = .ok (.iload_n 1, 1) := by decide +kernel
theorem own_d16_36 : decode jdk_92_method_29_code 36 = .ok (.invokestatic 52, 3) := by decide +kernel
theorem own_d16_39 : decode jdk_92_method_29_code 39 = .ok (.istore_n 2, 1) := by decide +kernel
theorem own_d16_40 : decode jdk_92_method_29_code 40 = .ok (.iload_n 2, 1) := by decide +kernel
theorem own_d16_41 : decode jdk_92_method_29_code 41 = .ok (.aload_n 0, 1) := by decide +kernel
theorem own_d16_42 : decode jdk_92_method_29_code 42 = .ok (.getfield 7, 3) := by decide +kernel
theorem own_d16_45 : decode jdk_92_method_29_code 45 = .ok (.if_icmp .lt 5, 3) := by decide +kernel
theorem own_d16_50 : decode jdk_92_method_29_code 50 = .ok (.aload_n 0, 1) := by decide +kernel
theorem own_d16_51 : decode jdk_92_method_29_code 51 = .ok (.getfield 11, 3) := by decide +kernel
theorem own_d16_54 : decode jdk_92_method_29_code 54 = .ok (.iload_n 2, 1) := by decide +kernel
theorem own_d16_55 : decode jdk_92_method_29_code 55 = .ok (.laload, 1) := by decide +kernel
theorem own_d16_56 : decode jdk_92_method_29_code 56 = .ok (.ldc2_w 165, 3) := by decide +kernel
theorem own_d16_59 : decode jdk_92_method_29_code 59 = .ok (.lxor, 1) := by decide +kernel
theorem own_d16_60 : decode jdk_92_method_29_code 60 = .ok (.ldc2_w 165, 3) := by decide +kernel
theorem own_d16_63 : decode jdk_92_method_29_code 63 = .ok (.iload_n 1, 1) := by decide +kernel
theorem own_d16_64 : decode jdk_92_method_29_code 64 = .ok (.lshl, 1) := by decide +kernel
theorem own_d16_65 : decode jdk_92_method_29_code 65 = .ok (.land, 1) := by decide +kernel
theorem own_d16_66 : decode jdk_92_method_29_code 66 = .ok (.lstore_n 3, 1) := by decide +kernel
theorem own_d16_67 : decode jdk_92_method_29_code 67 = .ok (.lload_n 3, 1) := by decide +kernel
theorem own_d16_68 : decode jdk_92_method_29_code 68 = .ok (.lconst 0, 1) := by decide +kernel
theorem own_d16_69 : decode jdk_92_method_29_code 69 = .ok (.lcmp, 1) := by decide +kernel
theorem own_d16_70 : decode jdk_92_method_29_code 70 = .ok (.ifCond .eq 13, 3) := by decide +kernel
theorem own_d16_83 : decode jdk_92_method_29_code 83 = .ok (.iinc 2 1, 3) := by decide +kernel
theorem own_d16_86 : decode jdk_92_method_29_code 86 = .ok (.iload_n 2, 1) := by decide +kernel
theorem own_d16_87 : decode jdk_92_method_29_code 87 = .ok (.aload_n 0, 1) := by decide +kernel
theorem own_d16_88 : decode jdk_92_method_29_code 88 = .ok (.getfield 7, 3) := by decide +kernel
theorem own_d16_91 : decode jdk_92_method_29_code 91 = .ok (.if_icmp .ne 11, 3) := by decide +kernel
theorem own_d16_94 : decode jdk_92_method_29_code 94 = .ok (.aload_n 0, 1) := by decide +kernel
theorem own_d16_95 : decode jdk_92_method_29_code 95 = .ok (.getfield 7, 3) := by decide +kernel
theorem own_d16_98 : decode jdk_92_method_29_code 98 = .ok (.bipush 64, 2) := by decide +kernel
theorem own_d16_100 : decode jdk_92_method_29_code 100 = .ok (.imul, 1) := by decide +kernel
theorem own_d16_101 : decode jdk_92_method_29_code 101 = .ok (.ireturn, 1) := by decide +kernel
theorem own_d16_102 : decode jdk_92_method_29_code 102 = .ok (.aload_n 0, 1) := by decide +kernel
theorem own_d16_103 : decode jdk_92_method_29_code 103 = .ok (.getfield 11, 3) := by decide +kernel
theorem own_d16_106 : decode jdk_92_method_29_code 106 = .ok (.iload_n 2, 1) := by decide +kernel
theorem own_d16_107 : decode jdk_92_method_29_code 107 = .ok (.laload, 1) := by decide +kernel
theorem own_d16_108 : decode jdk_92_method_29_code 108 = .ok (.ldc2_w 165, 3) := by decide +kernel
theorem own_d16_111 : decode jdk_92_method_29_code 111 = .ok (.lxor, 1) := by decide +kernel
theorem own_d16_112 : decode jdk_92_method_29_code 112 = .ok (.lstore_n 3, 1) := by decide +kernel
theorem own_d16_113 : decode jdk_92_method_29_code 113 = .ok (.goto (-46), 3) := by decide +kernel
theorem own_d16_73 : decode jdk_92_method_29_code 73 = .ok (.iload_n 2, 1) := by decide +kernel
theorem own_d16_74 : decode jdk_92_method_29_code 74 = .ok (.bipush 64, 2) := by decide +kernel
theorem own_d16_76 : decode jdk_92_method_29_code 76 = .ok (.imul, 1) := by decide +kernel
theorem own_d16_77 : decode jdk_92_method_29_code 77 = .ok (.lload_n 3, 1) := by decide +kernel
theorem own_d16_78 : decode jdk_92_method_29_code 78 = .ok (.invokestatic 182, 3) := by decide +kernel
theorem own_d16_81 : decode jdk_92_method_29_code 81 = .ok (.iadd, 1) := by decide +kernel
theorem own_d16_82 : decode jdk_92_method_29_code 82 = .ok (.ireturn, 1) := by decide +kernel
theorem own_d16_48 : decode jdk_92_method_29_code 48 = .ok (.iload_n 1, 1) := by decide +kernel
theorem own_d16_49 : decode jdk_92_method_29_code 49 = .ok (.ireturn, 1) := by decide +kernel
set_option maxRecDepth 65536 in
set_option maxHeartbeats 40000000 in
theorem own_next0 (l : Launch) (Z : State) (a0 : Array Value) (hw : ∀ d ∈ tables_1, d.before a0 Z = true) (ws : List Jvm.Cond) (b : Addr) (y : Addr) (ka : ClassId) (wa : Int64) (wb : Int64) (wc : Int64) (wd : Int64) (nn : Int32) (i : Int32) (h0 : Heap) (n0 : Nat) (O0 : Old Z n0 h0) (SA : Sta Z Z.heap "java/util/BitSet" "$assertionsDisabled" "Z" (.int (1 : Int32))) (SS : own_St Z h0 b y ka wa wb wc wd nn) (hi0 : 0 ≤ i.toInt) (hi1 : i.toInt < 256) (hq : (i >>> ((6 : Int32) &&& 31)) = (0 : Int32)) :
    MetFree l (⟨"java/util/BitSet", "nextClearBit", "(I)I"⟩ : MethodName) (head1 (Jvm.Cond.code (⟨"java/util/BitSet", "nextClearBit", "(I)I"⟩ : MethodName) jdk_92_method_29_code 5 (some .int) :: ws) ({ frames := 3, cells := 0, slots := 0, locals := 100 } : Room)) (fun args_ U => args_ = #[(.ref b), (.int i)] ∧ Z.Warmed39 U.vm ∧ U.heap = h0) (fun _ _ _ _ _ => True) (fun _ U o U' => ∃ v L, o = .returned v ∧ (own_Q_i (fun r => own_nextP (own_w wa wb wc wd) i.toInt r.toInt) h0 n0) v U'.heap L ∧ FrameEnd U o U' L ({ frames := 3, cells := 0, slots := 0, locals := 100 } : Room).cells ({ frames := 3, cells := 0, slots := 0, locals := 100 } : Room).slots) := by
 refine MetFree.of_bodySF (plainFor_of_name own_pn0) hisR ?_
 intro p e s m args below meth c s₁ Bd hml0 hP hK
 obtain ⟨rfl, hZ, hh⟩ := hP
 have hx := Bd.exec
 have hby := Bd.bytes
 have hml : c.maxLocals = 5 := hml0
 have hown : s.vm.findClass "java/util/BitSet" = some m.cls := findClass_of_methodNamed Bd.named
 have hnm := (name_of_methodNamed Bd.named Bd.method).1
 have X0 : Stand p l e ({ frames := 3, cells := 0, slots := 0, locals := 100 } : Room) s m #[(.ref b), (.int i)] below meth c s₁ [] 0 0 := Stand.of_body Bd
 have e0 : s₁.heap = h0 := by rw [← hh, Bd.state]; rfl
 have N0 := Fr.nil n0
 obtain ⟨Eb, Fw, Fn, Va, hW⟩ := SS
 have ci0 : (0 : Int32).toInt = 0 := by decide
 have ci1 : (1 : Int32).toInt = 1 := by decide
 have ci2 : (2 : Int32).toInt = 2 := by decide
 have ci3 : (3 : Int32).toInt = 3 := by decide
 have ci4 : (4 : Int32).toInt = 4 := by decide
 have ci16 : (16 : Int32).toInt = 16 := by decide
 have ci256 : (256 : Int32).toInt = 256 := by decide
 have ci65536 : (65536 : Int32).toInt = 65536 := by decide
 refine own_close (s := s) (Q := (own_Q_i (fun r => own_nextP (own_w wa wb wc wd) i.toInt r.toInt) h0 n0)) (C := (({ frames := 3, cells := 0, slots := 0, locals := 100 } : Room)).cells) (N := (({ frames := 3, cells := 0, slots := 0, locals := 100 } : Room)).slots) (own_st (fun _ kt => castTop (own_ef16 m b i) kt) ?_)
 show own_Rch _ _ _ _ s₁ (mkF m 0 #[oR b, oI i, .unset, .unset, .unset] [])
 refine own_st (fun _ => XS.iloadN X0.here hx rfl (hb hby own_d16_0) rfl) ?_
 show own_Rch _ _ _ _ s₁ (mkF m 1 #[oR b, oI i, .unset, .unset, .unset] [(.int i)])
 refine own_st (fun _ => XS.ifYes X0.here hx rfl (pc0 := 1) (pc' := 31) rfl (hb hby own_d16_1) rfl ((if0 _ _).trans (flt ((own_nneg hi0) : ¬ (i < (0 : Int32)))).2.1) (by decide) (by decide)) ?_
 show own_Rch _ _ _ _ s₁ (mkF m 31 #[oR b, oI i, .unset, .unset, .unset] [])
 refine own_st (fun _ => XS.aloadN X0.here hx rfl (hb hby own_d16_31) rfl rfl) ?_
 show own_Rch _ _ _ _ s₁ (mkF m 32 #[oR b, oI i, .unset, .unset, .unset] [(.ref b)])
 obtain ⟨cq1, q1a, q1b⟩ := Eb.cell
 obtain ⟨_, _, ⟨T1, L1, k1, n1⟩, -, X1, ⟨Lc1, hQ1, l1, y1, z1⟩, st1⟩ := X0.privateBack hx (y := (⟨"java/util/BitSet", "checkInvariants", "()V"⟩ : MethodName)) hown (mvT hZ (hw _ (own_m 57 rfl))) (mvT hZ (hw _ (own_m 58 rfl))) (mvT hZ (hw _ (own_m 60 rfl))) (Cond.privateMethod_at (mvP hZ (hw _ (own_m 59 rfl)) (args := #[]))) (mvT hZ (hw _ (own_m 61 rfl))) (by decide) (backOf (W := 0) (own_ci l Z a0 hw [] b h0 n0 O0 SA) hZ (hw _ (own_m 61 rfl)) (hw _ (own_m 11 rfl)) (by decide) (by decide)) (g := (mkF m 32 #[oR b, oI i, .unset, .unset, .unset] [(.ref b)])) rfl (by rw [hml]; rfl) (Steps.refl _) (a := b) (by rw [e0]; exact q1a) q1b (argsL := []) (rest := []) (lenOf own_pd2 rfl) rfl (by show 2 * 0 + _ ≤ _; exact Nat.le_of_eq rfl) (hb hby own_d16_32) (fun _ _ => ⟨rfl, e0, (by decide : 0 + 0 ≤ _), (by decide : 0 + 0 ≤ _)⟩)
 dsimp only [Pt.U, Pt.locs, Pt.cells, Pt.slots] at X1 l1 y1 z1 st1 hQ1
 subst l1 y1 z1
 obtain ⟨rfl, N1q, hh1⟩ := hQ1
 have N1 := Fr.app N0 N1q
 refine own_st (fun _ => st1.trans) ?_
 show own_Rch _ _ _ _ T1 (mkF m 35 #[oR b, oI i, .unset, .unset, .unset] [])
 refine own_st (fun _ => XS.iloadN X1.here hx rfl (hb hby own_d16_35) rfl) ?_
 show own_Rch _ _ _ _ T1 (mkF m 36 #[oR b, oI i, .unset, .unset, .unset] [(.int i)])
 obtain ⟨_, _, ⟨T2, L2, k2, n2⟩, -, X2, ⟨Lc2, hQ2, l2, y2, z2⟩, st2⟩ := Jvm.LawKit.callS X1 hx (y := (⟨"java/util/BitSet", "wordIndex", "(I)I"⟩ : MethodName)) hown (mvT hZ (hw _ (own_m 25 rfl))) (mvT hZ (hw _ (own_m 26 rfl))) (mvT hZ (hw _ (own_m 11 rfl))) (mvT hZ (hw _ (own_m 27 rfl))) (by decide) (backOf (W := 0) (own_wordIndex l Z a0 hw [] i (0 : Int32) h0 n0 O0 hq) hZ (hw _ (own_m 27 rfl)) (hw _ (own_m 11 rfl)) (by decide) (by decide)) (g := (mkF m 36 #[oR b, oI i, .unset, .unset, .unset] [(.int i)])) rfl (by rw [hml]; rfl) (argsL := [(.int i)]) (rest := []) (lenOf own_pd0 rfl) rfl (by show 2 * 0 + _ ≤ _; exact Nat.le_of_eq rfl) (hb hby own_d16_36) (fun _ _ => ⟨rfl, hh1, (by decide : 0 + 0 ≤ _), (by decide : 0 + 0 ≤ _)⟩)
 dsimp only [Pt.U, Pt.locs, Pt.cells, Pt.slots] at X2 l2 y2 z2 st2 hQ2
 subst l2 y2 z2
 obtain ⟨rfl, N2q, hh2⟩ := hQ2
 have N2 := Fr.app N1 N2q
 refine own_st st2 ?_
 show own_Rch _ _ _ _ T2 (mkF m 39 #[oR b, oI i, .unset, .unset, .unset] [(.int (0 : Int32))])
 refine own_st (fun _ => XS.istoreN X2.here hx rfl (hb hby own_d16_39) rfl (l' := #[oR b, oI i, oI (0 : Int32), .unset, .unset]) rfl) ?_
 show own_Rch _ _ _ _ T2 (mkF m 40 #[oR b, oI i, oI (0 : Int32), .unset, .unset] [])
 refine own_st (fun _ => XS.iloadN X2.here hx rfl (hb hby own_d16_40) rfl) ?_
 show own_Rch _ _ _ _ T2 (mkF m 41 #[oR b, oI i, oI (0 : Int32), .unset, .unset] [(.int (0 : Int32))])
 refine own_st (fun _ => XS.aloadN X2.here hx rfl (hb hby own_d16_41) rfl rfl) ?_
 show own_Rch _ _ _ _ T2 (mkF m 42 #[oR b, oI i, oI (0 : Int32), .unset, .unset] [(.ref b), (.int (0 : Int32))])
 obtain ⟨T3, X3, e3, st3⟩ := getF X2 hx hZ hown (host := "") (Or.inl (hw _ (own_m 16 rfl))) Via.refl hh2 Fn (g := (mkF m 42 #[oR b, oI i, oI (0 : Int32), .unset, .unset] [(.ref b), (.int (0 : Int32))])) rfl rfl (hb hby own_d16_42)
 refine own_st st3 ?_
 show own_Rch _ _ _ _ T3 (mkF m 45 #[oR b, oI i, oI (0 : Int32), .unset, .unset] [(.int nn), (.int (0 : Int32))])
 by_cases hc45_4 : (0 : Int32) < nn
 · -- pc 45: True
  refine own_st (fun _ => XS.icmpYes X3.here hx rfl (pc0 := 45) (pc' := 50) rfl (hb hby own_d16_45) rfl (tlt hc45_4).1 (by decide) (by decide)) ?_
  show own_Rch _ _ _ _ T3 (mkF m 50 #[oR b, oI i, oI (0 : Int32), .unset, .unset] [])
  refine own_st (fun _ => XS.aloadN X3.here hx rfl (hb hby own_d16_50) rfl rfl) ?_
  show own_Rch _ _ _ _ T3 (mkF m 51 #[oR b, oI i, oI (0 : Int32), .unset, .unset] [(.ref b)])
  obtain ⟨T5, X5, e5, st5⟩ := getF X3 hx hZ hown (host := "") (Or.inl (hw _ (own_m 29 rfl))) Via.refl e3 Fw (g := (mkF m 51 #[oR b, oI i, oI (0 : Int32), .unset, .unset] [(.ref b)])) rfl rfl (hb hby own_d16_51)
  refine own_st st5 ?_
  show own_Rch _ _ _ _ T5 (mkF m 54 #[oR b, oI i, oI (0 : Int32), .unset, .unset] [(.ref y)])
  refine own_st (fun _ => XS.iloadN X5.here hx rfl (hb hby own_d16_54) rfl) ?_
  show own_Rch _ _ _ _ T5 (mkF m 55 #[oR b, oI i, oI (0 : Int32), .unset, .unset] [(.int (0 : Int32)), (.ref y)])
  obtain ⟨cl6, Ar6, q6, S6, M6, H6, G6⟩ := id Va
  have hin6 : ¬ ((0 : Int32) < 0 ∨ cl6.slots.size ≤ ((0 : Int32)).toNatClampNeg) := inb_of S6 ⟨by decide, by decide⟩
  refine own_st (X5.laload hx (j := (0 : Int32)) (v := (.long wa)) (by rw [e5]; exact Ar6.1) (State.isArrayOf_alike (hZ).alike Ar6.2.1) Ar6.2.2 hin6 (H6.at hin6 rfl) (g := (mkF m 55 #[oR b, oI i, oI (0 : Int32), .unset, .unset] [(.int (0 : Int32)), (.ref y)])) rfl rfl (hb hby own_d16_55)) ?_
  show own_Rch _ _ _ _ T5 (mkF m 56 #[oR b, oI i, oI (0 : Int32), .unset, .unset] [(.long wa)])
  refine own_st (X5.ldc2Long hx hown (mvT hZ (hw _ (own_m 56 rfl))) (g := (mkF m 56 #[oR b, oI i, oI (0 : Int32), .unset, .unset] [(.long wa)])) rfl (hb hby own_d16_56)) ?_
  show own_Rch _ _ _ _ T5 (mkF m 59 #[oR b, oI i, oI (0 : Int32), .unset, .unset] [(.long (-1 : Int64)), (.long wa)])
  refine own_st (fun _ => XS.lxor X5.here hx rfl (hb hby own_d16_59) rfl) ?_
  show own_Rch _ _ _ _ T5 (mkF m 60 #[oR b, oI i, oI (0 : Int32), .unset, .unset] [(.long (wa ^^^ (-1 : Int64)))])
  refine own_st (X5.ldc2Long hx hown (mvT hZ (hw _ (own_m 56 rfl))) (g := (mkF m 60 #[oR b, oI i, oI (0 : Int32), .unset, .unset] [(.long (wa ^^^ (-1 : Int64)))])) rfl (hb hby own_d16_60)) ?_
  show own_Rch _ _ _ _ T5 (mkF m 63 #[oR b, oI i, oI (0 : Int32), .unset, .unset] [(.long (-1 : Int64)), (.long (wa ^^^ (-1 : Int64)))])
  refine own_st (fun _ => XS.iloadN X5.here hx rfl (hb hby own_d16_63) rfl) ?_
  show own_Rch _ _ _ _ T5 (mkF m 64 #[oR b, oI i, oI (0 : Int32), .unset, .unset] [(.int i), (.long (-1 : Int64)), (.long (wa ^^^ (-1 : Int64)))])
  refine own_st (fun _ => XS.lshl X5.here hx rfl (hb hby own_d16_64) rfl) ?_
  show own_Rch _ _ _ _ T5 (mkF m 65 #[oR b, oI i, oI (0 : Int32), .unset, .unset] [(.long ((-1 : Int64) <<< (i &&& 0x3f).toInt64)), (.long (wa ^^^ (-1 : Int64)))])
  refine own_st (fun _ => XS.land X5.here hx rfl (hb hby own_d16_65) rfl) ?_
  show own_Rch _ _ _ _ T5 (mkF m 66 #[oR b, oI i, oI (0 : Int32), .unset, .unset] [(.long ((wa ^^^ (-1 : Int64)) &&& ((-1 : Int64) <<< (i &&& 0x3f).toInt64)))])
  refine own_st (fun _ => XS.lstoreN X5.here hx rfl (hb hby own_d16_66) rfl (l' := #[oR b, oI i, oI (0 : Int32), oL ((wa ^^^ (-1 : Int64)) &&& ((-1 : Int64) <<< (i &&& 0x3f).toInt64)), .second]) rfl) ?_
  show own_Rch _ _ _ _ T5 (mkF m 67 #[oR b, oI i, oI (0 : Int32), oL ((wa ^^^ (-1 : Int64)) &&& ((-1 : Int64) <<< (i &&& 0x3f).toInt64)), .second] [])
  refine own_st (fun _ => XS.lloadN X5.here hx rfl (hb hby own_d16_67) rfl) ?_
  show own_Rch _ _ _ _ T5 (mkF m 68 #[oR b, oI i, oI (0 : Int32), oL ((wa ^^^ (-1 : Int64)) &&& ((-1 : Int64) <<< (i &&& 0x3f).toInt64)), .second] [(.long ((wa ^^^ (-1 : Int64)) &&& ((-1 : Int64) <<< (i &&& 0x3f).toInt64)))])
  refine own_st (fun _ => XS.lconst X5.here hx rfl (hb hby own_d16_68)) ?_
  show own_Rch _ _ _ _ T5 (mkF m 69 #[oR b, oI i, oI (0 : Int32), oL ((wa ^^^ (-1 : Int64)) &&& ((-1 : Int64) <<< (i &&& 0x3f).toInt64)), .second] [(.long (0 : Int64)), (.long ((wa ^^^ (-1 : Int64)) &&& ((-1 : Int64) <<< (i &&& 0x3f).toInt64)))])
  refine own_st (fun _ => XS.lcmp X5.here hx rfl (hb hby own_d16_69) rfl) ?_
  show own_Rch _ _ _ _ T5 (mkF m 70 #[oR b, oI i, oI (0 : Int32), oL ((wa ^^^ (-1 : Int64)) &&& ((-1 : Int64) <<< (i &&& 0x3f).toInt64)), .second] [(.int (lcmpW ((wa ^^^ (-1 : Int64)) &&& ((-1 : Int64) <<< (i &&& 0x3f).toInt64)) (0 : Int64)))])
  by_cases hc70_7 : (lcmpW ((wa ^^^ (-1 : Int64)) &&& ((-1 : Int64) <<< (i &&& 0x3f).toInt64)) (0 : Int64)) = (0 : Int32)
  · -- pc 70: True
   refine own_st (fun _ => XS.ifYes X5.here hx rfl (pc0 := 70) (pc' := 83) rfl (hb hby own_d16_70) rfl ((if0 _ _).trans (teq hc70_7).1) (by decide) (by decide)) ?_
   show own_Rch _ _ _ _ T5 (mkF m 83 #[oR b, oI i, oI (0 : Int32), oL ((wa ^^^ (-1 : Int64)) &&& ((-1 : Int64) <<< (i &&& 0x3f).toInt64)), .second] [])
   refine own_st (fun _ => XS.iinc X5.here hx rfl (hb hby own_d16_83) rfl (l' := #[oR b, oI i, oI (1 : Int32), oL ((wa ^^^ (-1 : Int64)) &&& ((-1 : Int64) <<< (i &&& 0x3f).toInt64)), .second]) rfl) ?_
   show own_Rch _ _ _ _ T5 (mkF m 86 #[oR b, oI i, oI (1 : Int32), oL ((wa ^^^ (-1 : Int64)) &&& ((-1 : Int64) <<< (i &&& 0x3f).toInt64)), .second] [])
   refine own_st (fun _ => XS.iloadN X5.here hx rfl (hb hby own_d16_86) rfl) ?_
   show own_Rch _ _ _ _ T5 (mkF m 87 #[oR b, oI i, oI (1 : Int32), oL ((wa ^^^ (-1 : Int64)) &&& ((-1 : Int64) <<< (i &&& 0x3f).toInt64)), .second] [(.int (1 : Int32))])
   refine own_st (fun _ => XS.aloadN X5.here hx rfl (hb hby own_d16_87) rfl rfl) ?_
   show own_Rch _ _ _ _ T5 (mkF m 88 #[oR b, oI i, oI (1 : Int32), oL ((wa ^^^ (-1 : Int64)) &&& ((-1 : Int64) <<< (i &&& 0x3f).toInt64)), .second] [(.ref b), (.int (1 : Int32))])
   obtain ⟨T8, X8, e8, st8⟩ := getF X5 hx hZ hown (host := "") (Or.inl (hw _ (own_m 16 rfl))) Via.refl e5 Fn (g := (mkF m 88 #[oR b, oI i, oI (1 : Int32), oL ((wa ^^^ (-1 : Int64)) &&& ((-1 : Int64) <<< (i &&& 0x3f).toInt64)), .second] [(.ref b), (.int (1 : Int32))])) rfl rfl (hb hby own_d16_88)
   refine own_st st8 ?_
   show own_Rch _ _ _ _ T8 (mkF m 91 #[oR b, oI i, oI (1 : Int32), oL ((wa ^^^ (-1 : Int64)) &&& ((-1 : Int64) <<< (i &&& 0x3f).toInt64)), .second] [(.int nn), (.int (1 : Int32))])
   by_cases hc91_9 : (1 : Int32) = nn
   · -- pc 91: True
    refine own_st (fun _ => XS.icmpNo X8.here hx rfl (hb hby own_d16_91) rfl (teq hc91_9).2) ?_
    show own_Rch _ _ _ _ T8 (mkF m 94 #[oR b, oI i, oI (1 : Int32), oL ((wa ^^^ (-1 : Int64)) &&& ((-1 : Int64) <<< (i &&& 0x3f).toInt64)), .second] [])
    refine own_st (fun _ => XS.aloadN X8.here hx rfl (hb hby own_d16_94) rfl rfl) ?_
    show own_Rch _ _ _ _ T8 (mkF m 95 #[oR b, oI i, oI (1 : Int32), oL ((wa ^^^ (-1 : Int64)) &&& ((-1 : Int64) <<< (i &&& 0x3f).toInt64)), .second] [(.ref b)])
    obtain ⟨T10, X10, e10, st10⟩ := getF X8 hx hZ hown (host := "") (Or.inl (hw _ (own_m 16 rfl))) Via.refl e8 Fn (g := (mkF m 95 #[oR b, oI i, oI (1 : Int32), oL ((wa ^^^ (-1 : Int64)) &&& ((-1 : Int64) <<< (i &&& 0x3f).toInt64)), .second] [(.ref b)])) rfl rfl (hb hby own_d16_95)
    refine own_st st10 ?_
    show own_Rch _ _ _ _ T10 (mkF m 98 #[oR b, oI i, oI (1 : Int32), oL ((wa ^^^ (-1 : Int64)) &&& ((-1 : Int64) <<< (i &&& 0x3f).toInt64)), .second] [(.int nn)])
    refine own_st (fun _ => XS.bipush X10.here hx rfl (hb hby own_d16_98)) ?_
    show own_Rch _ _ _ _ T10 (mkF m 100 #[oR b, oI i, oI (1 : Int32), oL ((wa ^^^ (-1 : Int64)) &&& ((-1 : Int64) <<< (i &&& 0x3f).toInt64)), .second] [(.int (64 : Int32)), (.int nn)])
    refine own_st (fun _ => XS.imul X10.here hx rfl (hb hby own_d16_100) rfl) ?_
    show own_Rch _ _ _ _ T10 (mkF m 101 #[oR b, oI i, oI (1 : Int32), oL ((wa ^^^ (-1 : Int64)) &&& ((-1 : Int64) <<< (i &&& 0x3f).toInt64)), .second] [(.int (nn * (64 : Int32)))])
    refine own_retI X10 hx Bd.notSynchronized Bd.returns (hb hby own_d16_101) (by decide) (by decide) ?_
    rw [e10]
    have h91 : (1 : Int32) = nn := hc91_9
    refine ⟨_, rfl, N2, rfl, own_nextC (u := 1) (W := (own_w wa wb wc wd)) (q := 0) hi0 (own_wi hq (by decide)) (own_mhi (W := (own_w wa wb wc wd)) (q := 0) hi0) (by decide) ((lw_eq _ _).mp hc70_7) ?_ (own_W0 hW (by rw [← h91]; decide)) (by rw [← h91]; decide)⟩
    intro v h1 h2; omega
   · -- pc 91: False
    refine own_st (fun _ => XS.icmpYes X8.here hx rfl (pc0 := 91) (pc' := 102) rfl (hb hby own_d16_91) rfl (feq hc91_9).2 (by decide) (by decide)) ?_
    show own_Rch _ _ _ _ T8 (mkF m 102 #[oR b, oI i, oI (1 : Int32), oL ((wa ^^^ (-1 : Int64)) &&& ((-1 : Int64) <<< (i &&& 0x3f).toInt64)), .second] [])
    refine own_st (fun _ => XS.aloadN X8.here hx rfl (hb hby own_d16_102) rfl rfl) ?_
    show own_Rch _ _ _ _ T8 (mkF m 103 #[oR b, oI i, oI (1 : Int32), oL ((wa ^^^ (-1 : Int64)) &&& ((-1 : Int64) <<< (i &&& 0x3f).toInt64)), .second] [(.ref b)])
    obtain ⟨T11, X11, e11, st11⟩ := getF X8 hx hZ hown (host := "") (Or.inl (hw _ (own_m 29 rfl))) Via.refl e8 Fw (g := (mkF m 103 #[oR b, oI i, oI (1 : Int32), oL ((wa ^^^ (-1 : Int64)) &&& ((-1 : Int64) <<< (i &&& 0x3f).toInt64)), .second] [(.ref b)])) rfl rfl (hb hby own_d16_103)
    refine own_st st11 ?_
    show own_Rch _ _ _ _ T11 (mkF m 106 #[oR b, oI i, oI (1 : Int32), oL ((wa ^^^ (-1 : Int64)) &&& ((-1 : Int64) <<< (i &&& 0x3f).toInt64)), .second] [(.ref y)])
    refine own_st (fun _ => XS.iloadN X11.here hx rfl (hb hby own_d16_106) rfl) ?_
    show own_Rch _ _ _ _ T11 (mkF m 107 #[oR b, oI i, oI (1 : Int32), oL ((wa ^^^ (-1 : Int64)) &&& ((-1 : Int64) <<< (i &&& 0x3f).toInt64)), .second] [(.int (1 : Int32)), (.ref y)])
    obtain ⟨cl12, Ar12, q12, S12, M12, H12, G12⟩ := id Va
    have hin12 : ¬ ((1 : Int32) < 0 ∨ cl12.slots.size ≤ ((1 : Int32)).toNatClampNeg) := inb_of S12 ⟨by decide, by decide⟩
    refine own_st (X11.laload hx (j := (1 : Int32)) (v := (.long wb)) (by rw [e11]; exact Ar12.1) (State.isArrayOf_alike (hZ).alike Ar12.2.1) Ar12.2.2 hin12 (H12.at hin12 rfl) (g := (mkF m 107 #[oR b, oI i, oI (1 : Int32), oL ((wa ^^^ (-1 : Int64)) &&& ((-1 : Int64) <<< (i &&& 0x3f).toInt64)), .second] [(.int (1 : Int32)), (.ref y)])) rfl rfl (hb hby own_d16_107)) ?_
    show own_Rch _ _ _ _ T11 (mkF m 108 #[oR b, oI i, oI (1 : Int32), oL ((wa ^^^ (-1 : Int64)) &&& ((-1 : Int64) <<< (i &&& 0x3f).toInt64)), .second] [(.long wb)])
    refine own_st (X11.ldc2Long hx hown (mvT hZ (hw _ (own_m 56 rfl))) (g := (mkF m 108 #[oR b, oI i, oI (1 : Int32), oL ((wa ^^^ (-1 : Int64)) &&& ((-1 : Int64) <<< (i &&& 0x3f).toInt64)), .second] [(.long wb)])) rfl (hb hby own_d16_108)) ?_
    show own_Rch _ _ _ _ T11 (mkF m 111 #[oR b, oI i, oI (1 : Int32), oL ((wa ^^^ (-1 : Int64)) &&& ((-1 : Int64) <<< (i &&& 0x3f).toInt64)), .second] [(.long (-1 : Int64)), (.long wb)])
    refine own_st (fun _ => XS.lxor X11.here hx rfl (hb hby own_d16_111) rfl) ?_
    show own_Rch _ _ _ _ T11 (mkF m 112 #[oR b, oI i, oI (1 : Int32), oL ((wa ^^^ (-1 : Int64)) &&& ((-1 : Int64) <<< (i &&& 0x3f).toInt64)), .second] [(.long (wb ^^^ (-1 : Int64)))])
    refine own_st (fun _ => XS.lstoreN X11.here hx rfl (hb hby own_d16_112) rfl (l' := #[oR b, oI i, oI (1 : Int32), oL (wb ^^^ (-1 : Int64)), .second]) rfl) ?_
    show own_Rch _ _ _ _ T11 (mkF m 113 #[oR b, oI i, oI (1 : Int32), oL (wb ^^^ (-1 : Int64)), .second] [])
    refine own_st (fun _ => XS.goto X11.here hx rfl (pc0 := 113) (pc' := 67) rfl (hb hby own_d16_113) (by decide) (by decide)) ?_
    show own_Rch _ _ _ _ T11 (mkF m 67 #[oR b, oI i, oI (1 : Int32), oL (wb ^^^ (-1 : Int64)), .second] [])
    refine own_st (fun _ => XS.lloadN X11.here hx rfl (hb hby own_d16_67) rfl) ?_
    show own_Rch _ _ _ _ T11 (mkF m 68 #[oR b, oI i, oI (1 : Int32), oL (wb ^^^ (-1 : Int64)), .second] [(.long (wb ^^^ (-1 : Int64)))])
    refine own_st (fun _ => XS.lconst X11.here hx rfl (hb hby own_d16_68)) ?_
    show own_Rch _ _ _ _ T11 (mkF m 69 #[oR b, oI i, oI (1 : Int32), oL (wb ^^^ (-1 : Int64)), .second] [(.long (0 : Int64)), (.long (wb ^^^ (-1 : Int64)))])
    refine own_st (fun _ => XS.lcmp X11.here hx rfl (hb hby own_d16_69) rfl) ?_
    show own_Rch _ _ _ _ T11 (mkF m 70 #[oR b, oI i, oI (1 : Int32), oL (wb ^^^ (-1 : Int64)), .second] [(.int (lcmpW (wb ^^^ (-1 : Int64)) (0 : Int64)))])
    by_cases hc70_13 : (lcmpW (wb ^^^ (-1 : Int64)) (0 : Int64)) = (0 : Int32)
    · -- pc 70: True
     refine own_st (fun _ => XS.ifYes X11.here hx rfl (pc0 := 70) (pc' := 83) rfl (hb hby own_d16_70) rfl ((if0 _ _).trans (teq hc70_13).1) (by decide) (by decide)) ?_
     show own_Rch _ _ _ _ T11 (mkF m 83 #[oR b, oI i, oI (1 : Int32), oL (wb ^^^ (-1 : Int64)), .second] [])
     refine own_st (fun _ => XS.iinc X11.here hx rfl (hb hby own_d16_83) rfl (l' := #[oR b, oI i, oI (2 : Int32), oL (wb ^^^ (-1 : Int64)), .second]) rfl) ?_
     show own_Rch _ _ _ _ T11 (mkF m 86 #[oR b, oI i, oI (2 : Int32), oL (wb ^^^ (-1 : Int64)), .second] [])
     refine own_st (fun _ => XS.iloadN X11.here hx rfl (hb hby own_d16_86) rfl) ?_
     show own_Rch _ _ _ _ T11 (mkF m 87 #[oR b, oI i, oI (2 : Int32), oL (wb ^^^ (-1 : Int64)), .second] [(.int (2 : Int32))])
     refine own_st (fun _ => XS.aloadN X11.here hx rfl (hb hby own_d16_87) rfl rfl) ?_
     show own_Rch _ _ _ _ T11 (mkF m 88 #[oR b, oI i, oI (2 : Int32), oL (wb ^^^ (-1 : Int64)), .second] [(.ref b), (.int (2 : Int32))])
     obtain ⟨T14, X14, e14, st14⟩ := getF X11 hx hZ hown (host := "") (Or.inl (hw _ (own_m 16 rfl))) Via.refl e11 Fn (g := (mkF m 88 #[oR b, oI i, oI (2 : Int32), oL (wb ^^^ (-1 : Int64)), .second] [(.ref b), (.int (2 : Int32))])) rfl rfl (hb hby own_d16_88)
     refine own_st st14 ?_
     show own_Rch _ _ _ _ T14 (mkF m 91 #[oR b, oI i, oI (2 : Int32), oL (wb ^^^ (-1 : Int64)), .second] [(.int nn), (.int (2 : Int32))])
     by_cases hc91_15 : (2 : Int32) = nn
     · -- pc 91: True
      refine own_st (fun _ => XS.icmpNo X14.here hx rfl (hb hby own_d16_91) rfl (teq hc91_15).2) ?_
      show own_Rch _ _ _ _ T14 (mkF m 94 #[oR b, oI i, oI (2 : Int32), oL (wb ^^^ (-1 : Int64)), .second] [])
      refine own_st (fun _ => XS.aloadN X14.here hx rfl (hb hby own_d16_94) rfl rfl) ?_
      show own_Rch _ _ _ _ T14 (mkF m 95 #[oR b, oI i, oI (2 : Int32), oL (wb ^^^ (-1 : Int64)), .second] [(.ref b)])
      obtain ⟨T16, X16, e16, st16⟩ := getF X14 hx hZ hown (host := "") (Or.inl (hw _ (own_m 16 rfl))) Via.refl e14 Fn (g := (mkF m 95 #[oR b, oI i, oI (2 : Int32), oL (wb ^^^ (-1 : Int64)), .second] [(.ref b)])) rfl rfl (hb hby own_d16_95)
      refine own_st st16 ?_
      show own_Rch _ _ _ _ T16 (mkF m 98 #[oR b, oI i, oI (2 : Int32), oL (wb ^^^ (-1 : Int64)), .second] [(.int nn)])
      refine own_st (fun _ => XS.bipush X16.here hx rfl (hb hby own_d16_98)) ?_
      show own_Rch _ _ _ _ T16 (mkF m 100 #[oR b, oI i, oI (2 : Int32), oL (wb ^^^ (-1 : Int64)), .second] [(.int (64 : Int32)), (.int nn)])
      refine own_st (fun _ => XS.imul X16.here hx rfl (hb hby own_d16_100) rfl) ?_
      show own_Rch _ _ _ _ T16 (mkF m 101 #[oR b, oI i, oI (2 : Int32), oL (wb ^^^ (-1 : Int64)), .second] [(.int (nn * (64 : Int32)))])
      refine own_retI X16 hx Bd.notSynchronized Bd.returns (hb hby own_d16_101) (by decide) (by decide) ?_
      rw [e16]
      have h91 : (2 : Int32) = nn := hc91_15
      refine ⟨_, rfl, N2, rfl, own_nextC (u := 2) (W := (own_w wa wb wc wd)) (q := 0) hi0 (own_wi hq (by decide)) (own_mhi (W := (own_w wa wb wc wd)) (q := 0) hi0) (by decide) ((lw_eq _ _).mp hc70_7) ?_ (own_W0 hW (by rw [← h91]; decide)) (by rw [← h91]; decide)⟩
      intro v h1 h2
      rcases (by omega : v = 1) with rfl
      · exact (lw_eq _ _).mp hc70_13
     · -- pc 91: False
      refine own_st (fun _ => XS.icmpYes X14.here hx rfl (pc0 := 91) (pc' := 102) rfl (hb hby own_d16_91) rfl (feq hc91_15).2 (by decide) (by decide)) ?_
      show own_Rch _ _ _ _ T14 (mkF m 102 #[oR b, oI i, oI (2 : Int32), oL (wb ^^^ (-1 : Int64)), .second] [])
      refine own_st (fun _ => XS.aloadN X14.here hx rfl (hb hby own_d16_102) rfl rfl) ?_
      show own_Rch _ _ _ _ T14 (mkF m 103 #[oR b, oI i, oI (2 : Int32), oL (wb ^^^ (-1 : Int64)), .second] [(.ref b)])
      obtain ⟨T17, X17, e17, st17⟩ := getF X14 hx hZ hown (host := "") (Or.inl (hw _ (own_m 29 rfl))) Via.refl e14 Fw (g := (mkF m 103 #[oR b, oI i, oI (2 : Int32), oL (wb ^^^ (-1 : Int64)), .second] [(.ref b)])) rfl rfl (hb hby own_d16_103)
      refine own_st st17 ?_
      show own_Rch _ _ _ _ T17 (mkF m 106 #[oR b, oI i, oI (2 : Int32), oL (wb ^^^ (-1 : Int64)), .second] [(.ref y)])
      refine own_st (fun _ => XS.iloadN X17.here hx rfl (hb hby own_d16_106) rfl) ?_
      show own_Rch _ _ _ _ T17 (mkF m 107 #[oR b, oI i, oI (2 : Int32), oL (wb ^^^ (-1 : Int64)), .second] [(.int (2 : Int32)), (.ref y)])
      obtain ⟨cl18, Ar18, q18, S18, M18, H18, G18⟩ := id Va
      have hin18 : ¬ ((2 : Int32) < 0 ∨ cl18.slots.size ≤ ((2 : Int32)).toNatClampNeg) := inb_of S18 ⟨by decide, by decide⟩
      refine own_st (X17.laload hx (j := (2 : Int32)) (v := (.long wc)) (by rw [e17]; exact Ar18.1) (State.isArrayOf_alike (hZ).alike Ar18.2.1) Ar18.2.2 hin18 (H18.at hin18 rfl) (g := (mkF m 107 #[oR b, oI i, oI (2 : Int32), oL (wb ^^^ (-1 : Int64)), .second] [(.int (2 : Int32)), (.ref y)])) rfl rfl (hb hby own_d16_107)) ?_
      show own_Rch _ _ _ _ T17 (mkF m 108 #[oR b, oI i, oI (2 : Int32), oL (wb ^^^ (-1 : Int64)), .second] [(.long wc)])
      refine own_st (X17.ldc2Long hx hown (mvT hZ (hw _ (own_m 56 rfl))) (g := (mkF m 108 #[oR b, oI i, oI (2 : Int32), oL (wb ^^^ (-1 : Int64)), .second] [(.long wc)])) rfl (hb hby own_d16_108)) ?_
      show own_Rch _ _ _ _ T17 (mkF m 111 #[oR b, oI i, oI (2 : Int32), oL (wb ^^^ (-1 : Int64)), .second] [(.long (-1 : Int64)), (.long wc)])
      refine own_st (fun _ => XS.lxor X17.here hx rfl (hb hby own_d16_111) rfl) ?_
      show own_Rch _ _ _ _ T17 (mkF m 112 #[oR b, oI i, oI (2 : Int32), oL (wb ^^^ (-1 : Int64)), .second] [(.long (wc ^^^ (-1 : Int64)))])
      refine own_st (fun _ => XS.lstoreN X17.here hx rfl (hb hby own_d16_112) rfl (l' := #[oR b, oI i, oI (2 : Int32), oL (wc ^^^ (-1 : Int64)), .second]) rfl) ?_
      show own_Rch _ _ _ _ T17 (mkF m 113 #[oR b, oI i, oI (2 : Int32), oL (wc ^^^ (-1 : Int64)), .second] [])
      refine own_st (fun _ => XS.goto X17.here hx rfl (pc0 := 113) (pc' := 67) rfl (hb hby own_d16_113) (by decide) (by decide)) ?_
      show own_Rch _ _ _ _ T17 (mkF m 67 #[oR b, oI i, oI (2 : Int32), oL (wc ^^^ (-1 : Int64)), .second] [])
      refine own_st (fun _ => XS.lloadN X17.here hx rfl (hb hby own_d16_67) rfl) ?_
      show own_Rch _ _ _ _ T17 (mkF m 68 #[oR b, oI i, oI (2 : Int32), oL (wc ^^^ (-1 : Int64)), .second] [(.long (wc ^^^ (-1 : Int64)))])
      refine own_st (fun _ => XS.lconst X17.here hx rfl (hb hby own_d16_68)) ?_
      show own_Rch _ _ _ _ T17 (mkF m 69 #[oR b, oI i, oI (2 : Int32), oL (wc ^^^ (-1 : Int64)), .second] [(.long (0 : Int64)), (.long (wc ^^^ (-1 : Int64)))])
      refine own_st (fun _ => XS.lcmp X17.here hx rfl (hb hby own_d16_69) rfl) ?_
      show own_Rch _ _ _ _ T17 (mkF m 70 #[oR b, oI i, oI (2 : Int32), oL (wc ^^^ (-1 : Int64)), .second] [(.int (lcmpW (wc ^^^ (-1 : Int64)) (0 : Int64)))])
      by_cases hc70_19 : (lcmpW (wc ^^^ (-1 : Int64)) (0 : Int64)) = (0 : Int32)
      · -- pc 70: True
       refine own_st (fun _ => XS.ifYes X17.here hx rfl (pc0 := 70) (pc' := 83) rfl (hb hby own_d16_70) rfl ((if0 _ _).trans (teq hc70_19).1) (by decide) (by decide)) ?_
       show own_Rch _ _ _ _ T17 (mkF m 83 #[oR b, oI i, oI (2 : Int32), oL (wc ^^^ (-1 : Int64)), .second] [])
       refine own_st (fun _ => XS.iinc X17.here hx rfl (hb hby own_d16_83) rfl (l' := #[oR b, oI i, oI (3 : Int32), oL (wc ^^^ (-1 : Int64)), .second]) rfl) ?_
       show own_Rch _ _ _ _ T17 (mkF m 86 #[oR b, oI i, oI (3 : Int32), oL (wc ^^^ (-1 : Int64)), .second] [])
       refine own_st (fun _ => XS.iloadN X17.here hx rfl (hb hby own_d16_86) rfl) ?_
       show own_Rch _ _ _ _ T17 (mkF m 87 #[oR b, oI i, oI (3 : Int32), oL (wc ^^^ (-1 : Int64)), .second] [(.int (3 : Int32))])
       refine own_st (fun _ => XS.aloadN X17.here hx rfl (hb hby own_d16_87) rfl rfl) ?_
       show own_Rch _ _ _ _ T17 (mkF m 88 #[oR b, oI i, oI (3 : Int32), oL (wc ^^^ (-1 : Int64)), .second] [(.ref b), (.int (3 : Int32))])
       obtain ⟨T20, X20, e20, st20⟩ := getF X17 hx hZ hown (host := "") (Or.inl (hw _ (own_m 16 rfl))) Via.refl e17 Fn (g := (mkF m 88 #[oR b, oI i, oI (3 : Int32), oL (wc ^^^ (-1 : Int64)), .second] [(.ref b), (.int (3 : Int32))])) rfl rfl (hb hby own_d16_88)
       refine own_st st20 ?_
       show own_Rch _ _ _ _ T20 (mkF m 91 #[oR b, oI i, oI (3 : Int32), oL (wc ^^^ (-1 : Int64)), .second] [(.int nn), (.int (3 : Int32))])
       by_cases hc91_21 : (3 : Int32) = nn
       · -- pc 91: True
        refine own_st (fun _ => XS.icmpNo X20.here hx rfl (hb hby own_d16_91) rfl (teq hc91_21).2) ?_
        show own_Rch _ _ _ _ T20 (mkF m 94 #[oR b, oI i, oI (3 : Int32), oL (wc ^^^ (-1 : Int64)), .second] [])
        refine own_st (fun _ => XS.aloadN X20.here hx rfl (hb hby own_d16_94) rfl rfl) ?_
        show own_Rch _ _ _ _ T20 (mkF m 95 #[oR b, oI i, oI (3 : Int32), oL (wc ^^^ (-1 : Int64)), .second] [(.ref b)])
        obtain ⟨T22, X22, e22, st22⟩ := getF X20 hx hZ hown (host := "") (Or.inl (hw _ (own_m 16 rfl))) Via.refl e20 Fn (g := (mkF m 95 #[oR b, oI i, oI (3 : Int32), oL (wc ^^^ (-1 : Int64)), .second] [(.ref b)])) rfl rfl (hb hby own_d16_95)
        refine own_st st22 ?_
        show own_Rch _ _ _ _ T22 (mkF m 98 #[oR b, oI i, oI (3 : Int32), oL (wc ^^^ (-1 : Int64)), .second] [(.int nn)])
        refine own_st (fun _ => XS.bipush X22.here hx rfl (hb hby own_d16_98)) ?_
        show own_Rch _ _ _ _ T22 (mkF m 100 #[oR b, oI i, oI (3 : Int32), oL (wc ^^^ (-1 : Int64)), .second] [(.int (64 : Int32)), (.int nn)])
        refine own_st (fun _ => XS.imul X22.here hx rfl (hb hby own_d16_100) rfl) ?_
        show own_Rch _ _ _ _ T22 (mkF m 101 #[oR b, oI i, oI (3 : Int32), oL (wc ^^^ (-1 : Int64)), .second] [(.int (nn * (64 : Int32)))])
        refine own_retI X22 hx Bd.notSynchronized Bd.returns (hb hby own_d16_101) (by decide) (by decide) ?_
        rw [e22]
        have h91 : (3 : Int32) = nn := hc91_21
        refine ⟨_, rfl, N2, rfl, own_nextC (u := 3) (W := (own_w wa wb wc wd)) (q := 0) hi0 (own_wi hq (by decide)) (own_mhi (W := (own_w wa wb wc wd)) (q := 0) hi0) (by decide) ((lw_eq _ _).mp hc70_7) ?_ (own_W0 hW (by rw [← h91]; decide)) (by rw [← h91]; decide)⟩
        intro v h1 h2
        rcases (by omega : v = 1 ∨ v = 2) with rfl | rfl
        · exact (lw_eq _ _).mp hc70_13
        · exact (lw_eq _ _).mp hc70_19
       · -- pc 91: False
        refine own_st (fun _ => XS.icmpYes X20.here hx rfl (pc0 := 91) (pc' := 102) rfl (hb hby own_d16_91) rfl (feq hc91_21).2 (by decide) (by decide)) ?_
        show own_Rch _ _ _ _ T20 (mkF m 102 #[oR b, oI i, oI (3 : Int32), oL (wc ^^^ (-1 : Int64)), .second] [])
        refine own_st (fun _ => XS.aloadN X20.here hx rfl (hb hby own_d16_102) rfl rfl) ?_
        show own_Rch _ _ _ _ T20 (mkF m 103 #[oR b, oI i, oI (3 : Int32), oL (wc ^^^ (-1 : Int64)), .second] [(.ref b)])
        obtain ⟨T23, X23, e23, st23⟩ := getF X20 hx hZ hown (host := "") (Or.inl (hw _ (own_m 29 rfl))) Via.refl e20 Fw (g := (mkF m 103 #[oR b, oI i, oI (3 : Int32), oL (wc ^^^ (-1 : Int64)), .second] [(.ref b)])) rfl rfl (hb hby own_d16_103)
        refine own_st st23 ?_
        show own_Rch _ _ _ _ T23 (mkF m 106 #[oR b, oI i, oI (3 : Int32), oL (wc ^^^ (-1 : Int64)), .second] [(.ref y)])
        refine own_st (fun _ => XS.iloadN X23.here hx rfl (hb hby own_d16_106) rfl) ?_
        show own_Rch _ _ _ _ T23 (mkF m 107 #[oR b, oI i, oI (3 : Int32), oL (wc ^^^ (-1 : Int64)), .second] [(.int (3 : Int32)), (.ref y)])
        obtain ⟨cl24, Ar24, q24, S24, M24, H24, G24⟩ := id Va
        have hin24 : ¬ ((3 : Int32) < 0 ∨ cl24.slots.size ≤ ((3 : Int32)).toNatClampNeg) := inb_of S24 ⟨by decide, by decide⟩
        refine own_st (X23.laload hx (j := (3 : Int32)) (v := (.long wd)) (by rw [e23]; exact Ar24.1) (State.isArrayOf_alike (hZ).alike Ar24.2.1) Ar24.2.2 hin24 (H24.at hin24 rfl) (g := (mkF m 107 #[oR b, oI i, oI (3 : Int32), oL (wc ^^^ (-1 : Int64)), .second] [(.int (3 : Int32)), (.ref y)])) rfl rfl (hb hby own_d16_107)) ?_
        show own_Rch _ _ _ _ T23 (mkF m 108 #[oR b, oI i, oI (3 : Int32), oL (wc ^^^ (-1 : Int64)), .second] [(.long wd)])
        refine own_st (X23.ldc2Long hx hown (mvT hZ (hw _ (own_m 56 rfl))) (g := (mkF m 108 #[oR b, oI i, oI (3 : Int32), oL (wc ^^^ (-1 : Int64)), .second] [(.long wd)])) rfl (hb hby own_d16_108)) ?_
        show own_Rch _ _ _ _ T23 (mkF m 111 #[oR b, oI i, oI (3 : Int32), oL (wc ^^^ (-1 : Int64)), .second] [(.long (-1 : Int64)), (.long wd)])
        refine own_st (fun _ => XS.lxor X23.here hx rfl (hb hby own_d16_111) rfl) ?_
        show own_Rch _ _ _ _ T23 (mkF m 112 #[oR b, oI i, oI (3 : Int32), oL (wc ^^^ (-1 : Int64)), .second] [(.long (wd ^^^ (-1 : Int64)))])
        refine own_st (fun _ => XS.lstoreN X23.here hx rfl (hb hby own_d16_112) rfl (l' := #[oR b, oI i, oI (3 : Int32), oL (wd ^^^ (-1 : Int64)), .second]) rfl) ?_
        show own_Rch _ _ _ _ T23 (mkF m 113 #[oR b, oI i, oI (3 : Int32), oL (wd ^^^ (-1 : Int64)), .second] [])
        refine own_st (fun _ => XS.goto X23.here hx rfl (pc0 := 113) (pc' := 67) rfl (hb hby own_d16_113) (by decide) (by decide)) ?_
        show own_Rch _ _ _ _ T23 (mkF m 67 #[oR b, oI i, oI (3 : Int32), oL (wd ^^^ (-1 : Int64)), .second] [])
        refine own_st (fun _ => XS.lloadN X23.here hx rfl (hb hby own_d16_67) rfl) ?_
        show own_Rch _ _ _ _ T23 (mkF m 68 #[oR b, oI i, oI (3 : Int32), oL (wd ^^^ (-1 : Int64)), .second] [(.long (wd ^^^ (-1 : Int64)))])
        refine own_st (fun _ => XS.lconst X23.here hx rfl (hb hby own_d16_68)) ?_
        show own_Rch _ _ _ _ T23 (mkF m 69 #[oR b, oI i, oI (3 : Int32), oL (wd ^^^ (-1 : Int64)), .second] [(.long (0 : Int64)), (.long (wd ^^^ (-1 : Int64)))])
        refine own_st (fun _ => XS.lcmp X23.here hx rfl (hb hby own_d16_69) rfl) ?_
        show own_Rch _ _ _ _ T23 (mkF m 70 #[oR b, oI i, oI (3 : Int32), oL (wd ^^^ (-1 : Int64)), .second] [(.int (lcmpW (wd ^^^ (-1 : Int64)) (0 : Int64)))])
        by_cases hc70_25 : (lcmpW (wd ^^^ (-1 : Int64)) (0 : Int64)) = (0 : Int32)
        · -- pc 70: True
         refine own_st (fun _ => XS.ifYes X23.here hx rfl (pc0 := 70) (pc' := 83) rfl (hb hby own_d16_70) rfl ((if0 _ _).trans (teq hc70_25).1) (by decide) (by decide)) ?_
         show own_Rch _ _ _ _ T23 (mkF m 83 #[oR b, oI i, oI (3 : Int32), oL (wd ^^^ (-1 : Int64)), .second] [])
         refine own_st (fun _ => XS.iinc X23.here hx rfl (hb hby own_d16_83) rfl (l' := #[oR b, oI i, oI (4 : Int32), oL (wd ^^^ (-1 : Int64)), .second]) rfl) ?_
         show own_Rch _ _ _ _ T23 (mkF m 86 #[oR b, oI i, oI (4 : Int32), oL (wd ^^^ (-1 : Int64)), .second] [])
         refine own_st (fun _ => XS.iloadN X23.here hx rfl (hb hby own_d16_86) rfl) ?_
         show own_Rch _ _ _ _ T23 (mkF m 87 #[oR b, oI i, oI (4 : Int32), oL (wd ^^^ (-1 : Int64)), .second] [(.int (4 : Int32))])
         refine own_st (fun _ => XS.aloadN X23.here hx rfl (hb hby own_d16_87) rfl rfl) ?_
         show own_Rch _ _ _ _ T23 (mkF m 88 #[oR b, oI i, oI (4 : Int32), oL (wd ^^^ (-1 : Int64)), .second] [(.ref b), (.int (4 : Int32))])
         obtain ⟨T26, X26, e26, st26⟩ := getF X23 hx hZ hown (host := "") (Or.inl (hw _ (own_m 16 rfl))) Via.refl e23 Fn (g := (mkF m 88 #[oR b, oI i, oI (4 : Int32), oL (wd ^^^ (-1 : Int64)), .second] [(.ref b), (.int (4 : Int32))])) rfl rfl (hb hby own_d16_88)
         refine own_st st26 ?_
         show own_Rch _ _ _ _ T26 (mkF m 91 #[oR b, oI i, oI (4 : Int32), oL (wd ^^^ (-1 : Int64)), .second] [(.int nn), (.int (4 : Int32))])
         refine own_st (fun _ => XS.icmpNo X26.here hx rfl (hb hby own_d16_91) rfl (teq ((by rw [← Int32.toInt_inj]; have a1 := hW.1; have a2 := Int32.lt_iff_toInt_lt.mp hc45_4; have b0 : ¬ (1 : Int32).toInt = nn.toInt := fun t => hc91_9 (Int32.toInt_inj.mp t); have b1 : ¬ (2 : Int32).toInt = nn.toInt := fun t => hc91_15 (Int32.toInt_inj.mp t); have b2 : ¬ (3 : Int32).toInt = nn.toInt := fun t => hc91_21 (Int32.toInt_inj.mp t); omega) : (4 : Int32) = nn)).2) ?_
         show own_Rch _ _ _ _ T26 (mkF m 94 #[oR b, oI i, oI (4 : Int32), oL (wd ^^^ (-1 : Int64)), .second] [])
         refine own_st (fun _ => XS.aloadN X26.here hx rfl (hb hby own_d16_94) rfl rfl) ?_
         show own_Rch _ _ _ _ T26 (mkF m 95 #[oR b, oI i, oI (4 : Int32), oL (wd ^^^ (-1 : Int64)), .second] [(.ref b)])
         obtain ⟨T27, X27, e27, st27⟩ := getF X26 hx hZ hown (host := "") (Or.inl (hw _ (own_m 16 rfl))) Via.refl e26 Fn (g := (mkF m 95 #[oR b, oI i, oI (4 : Int32), oL (wd ^^^ (-1 : Int64)), .second] [(.ref b)])) rfl rfl (hb hby own_d16_95)
         refine own_st st27 ?_
         show own_Rch _ _ _ _ T27 (mkF m 98 #[oR b, oI i, oI (4 : Int32), oL (wd ^^^ (-1 : Int64)), .second] [(.int nn)])
         refine own_st (fun _ => XS.bipush X27.here hx rfl (hb hby own_d16_98)) ?_
         show own_Rch _ _ _ _ T27 (mkF m 100 #[oR b, oI i, oI (4 : Int32), oL (wd ^^^ (-1 : Int64)), .second] [(.int (64 : Int32)), (.int nn)])
         refine own_st (fun _ => XS.imul X27.here hx rfl (hb hby own_d16_100) rfl) ?_
         show own_Rch _ _ _ _ T27 (mkF m 101 #[oR b, oI i, oI (4 : Int32), oL (wd ^^^ (-1 : Int64)), .second] [(.int (nn * (64 : Int32)))])
         refine own_retI X27 hx Bd.notSynchronized Bd.returns (hb hby own_d16_101) (by decide) (by decide) ?_
         rw [e27]
         have h91 : (4 : Int32) = nn := (by rw [← Int32.toInt_inj]; have a1 := hW.1; have a2 := Int32.lt_iff_toInt_lt.mp hc45_4; have b0 : ¬ (1 : Int32).toInt = nn.toInt := fun t => hc91_9 (Int32.toInt_inj.mp t); have b1 : ¬ (2 : Int32).toInt = nn.toInt := fun t => hc91_15 (Int32.toInt_inj.mp t); have b2 : ¬ (3 : Int32).toInt = nn.toInt := fun t => hc91_21 (Int32.toInt_inj.mp t); omega)
         refine ⟨_, rfl, N2, rfl, own_nextC (u := 4) (W := (own_w wa wb wc wd)) (q := 0) hi0 (own_wi hq (by decide)) (own_mhi (W := (own_w wa wb wc wd)) (q := 0) hi0) (by decide) ((lw_eq _ _).mp hc70_7) ?_ (own_W0 hW (by rw [← h91]; decide)) (by rw [← h91]; decide)⟩
         intro v h1 h2
         rcases (by omega : v = 1 ∨ v = 2 ∨ v = 3) with rfl | rfl | rfl
         · exact (lw_eq _ _).mp hc70_13
         · exact (lw_eq _ _).mp hc70_19
         · exact (lw_eq _ _).mp hc70_25
        · -- pc 70: False
         refine own_st (fun _ => XS.ifNo X23.here hx rfl (hb hby own_d16_70) rfl ((if0 _ _).trans (feq hc70_25).1)) ?_
         show own_Rch _ _ _ _ T23 (mkF m 73 #[oR b, oI i, oI (3 : Int32), oL (wd ^^^ (-1 : Int64)), .second] [])
         refine own_st (fun _ => XS.iloadN X23.here hx rfl (hb hby own_d16_73) rfl) ?_
         show own_Rch _ _ _ _ T23 (mkF m 74 #[oR b, oI i, oI (3 : Int32), oL (wd ^^^ (-1 : Int64)), .second] [(.int (3 : Int32))])
         refine own_st (fun _ => XS.bipush X23.here hx rfl (hb hby own_d16_74)) ?_
         show own_Rch _ _ _ _ T23 (mkF m 76 #[oR b, oI i, oI (3 : Int32), oL (wd ^^^ (-1 : Int64)), .second] [(.int (64 : Int32)), (.int (3 : Int32))])
         refine own_st (fun _ => XS.imul X23.here hx rfl (hb hby own_d16_76) rfl) ?_
         show own_Rch _ _ _ _ T23 (mkF m 77 #[oR b, oI i, oI (3 : Int32), oL (wd ^^^ (-1 : Int64)), .second] [(.int (192 : Int32))])
         refine own_st (fun _ => XS.lloadN X23.here hx rfl (hb hby own_d16_77) rfl) ?_
         show own_Rch _ _ _ _ T23 (mkF m 78 #[oR b, oI i, oI (3 : Int32), oL (wd ^^^ (-1 : Int64)), .second] [(.long (wd ^^^ (-1 : Int64))), (.int (192 : Int32))])
         obtain ⟨_, _, ⟨T28, L28, k28, n28⟩, -, X28, ⟨Lc28, hQ28, l28, y28, z28⟩, st28⟩ := Jvm.LawKit.callS X23 hx (y := (⟨"java/lang/Long", "numberOfTrailingZeros", "(J)I"⟩ : MethodName)) hown (mvT hZ (hw _ (own_m 87 rfl))) (mvT hZ (hw _ (own_m 88 rfl))) (mvT hZ (hw _ (own_m 75 rfl))) (mvT hZ (hw _ (own_m 89 rfl))) (by decide) (backOf (W := 1) (own_ntzL l Z a0 hw [] (wd ^^^ (-1 : Int64)) h0 n0 O0 (fun q => hc70_25 ((lw_eq _ _).mpr q))) hZ (hw _ (own_m 89 rfl)) (hw _ (own_m 75 rfl)) (by decide) (by decide)) (g := (mkF m 78 #[oR b, oI i, oI (3 : Int32), oL (wd ^^^ (-1 : Int64)), .second] [(.long (wd ^^^ (-1 : Int64))), (.int (192 : Int32))])) rfl (by rw [hml]; rfl) (argsL := [(.long (wd ^^^ (-1 : Int64)))]) (rest := [(.int (192 : Int32))]) (lenOf own_pd1 rfl) rfl (by show 2 * 0 + _ ≤ _; exact Nat.le_of_eq rfl) (hb hby own_d16_78) (fun _ _ => ⟨rfl, e23, (by decide : 0 + 0 ≤ _), (by decide : 0 + 0 ≤ _)⟩)
         dsimp only [Pt.U, Pt.locs, Pt.cells, Pt.slots] at X28 l28 y28 z28 st28 hQ28
         subst l28 y28 z28
         obtain ⟨rr28, rfl, N28q, hh28, hn28⟩ := hQ28
         have N28 := Fr.app N2 N28q
         refine own_st st28 ?_
         show own_Rch _ _ _ _ T28 (mkF m 81 #[oR b, oI i, oI (3 : Int32), oL (wd ^^^ (-1 : Int64)), .second] [(.int rr28), (.int (192 : Int32))])
         refine own_st (fun _ => XS.iadd X28.here hx rfl (hb hby own_d16_81) rfl) ?_
         show own_Rch _ _ _ _ T28 (mkF m 82 #[oR b, oI i, oI (3 : Int32), oL (wd ^^^ (-1 : Int64)), .second] [(.int ((192 : Int32) + rr28))])
         refine own_retI X28 hx Bd.notSynchronized Bd.returns (hb hby own_d16_82) (by decide) (by decide) ?_
         rw [hh28]
         obtain ⟨qk, qk63, qr, -⟩ := id hn28
         have r1 := own_sm (x := (192 : Int32)) (y := rr28) (show _ = (192 : Int) by decide) rfl (by omega) (by omega)
         refine ⟨_, rfl, N28, rfl, own_nextB (u := 3) (W := (own_w wa wb wc wd)) (q := 0) hi0 (own_wi hq (by decide)) (own_mhi (W := (own_w wa wb wc wd)) (q := 0) hi0) (by decide) ((lw_eq _ _).mp hc70_7) ?_ hn28 (by rw [r1]; omega)⟩
         intro v h1 h2
         rcases (by omega : v = 1 ∨ v = 2) with rfl | rfl
         · exact (lw_eq _ _).mp hc70_13
         · exact (lw_eq _ _).mp hc70_19
      · -- pc 70: False
       refine own_st (fun _ => XS.ifNo X17.here hx rfl (hb hby own_d16_70) rfl ((if0 _ _).trans (feq hc70_19).1)) ?_
       show own_Rch _ _ _ _ T17 (mkF m 73 #[oR b, oI i, oI (2 : Int32), oL (wc ^^^ (-1 : Int64)), .second] [])
       refine own_st (fun _ => XS.iloadN X17.here hx rfl (hb hby own_d16_73) rfl) ?_
       show own_Rch _ _ _ _ T17 (mkF m 74 #[oR b, oI i, oI (2 : Int32), oL (wc ^^^ (-1 : Int64)), .second] [(.int (2 : Int32))])
       refine own_st (fun _ => XS.bipush X17.here hx rfl (hb hby own_d16_74)) ?_
       show own_Rch _ _ _ _ T17 (mkF m 76 #[oR b, oI i, oI (2 : Int32), oL (wc ^^^ (-1 : Int64)), .second] [(.int (64 : Int32)), (.int (2 : Int32))])
       refine own_st (fun _ => XS.imul X17.here hx rfl (hb hby own_d16_76) rfl) ?_
       show own_Rch _ _ _ _ T17 (mkF m 77 #[oR b, oI i, oI (2 : Int32), oL (wc ^^^ (-1 : Int64)), .second] [(.int (128 : Int32))])
       refine own_st (fun _ => XS.lloadN X17.here hx rfl (hb hby own_d16_77) rfl) ?_
       show own_Rch _ _ _ _ T17 (mkF m 78 #[oR b, oI i, oI (2 : Int32), oL (wc ^^^ (-1 : Int64)), .second] [(.long (wc ^^^ (-1 : Int64))), (.int (128 : Int32))])
       obtain ⟨_, _, ⟨T29, L29, k29, n29⟩, -, X29, ⟨Lc29, hQ29, l29, y29, z29⟩, st29⟩ := Jvm.LawKit.callS X17 hx (y := (⟨"java/lang/Long", "numberOfTrailingZeros", "(J)I"⟩ : MethodName)) hown (mvT hZ (hw _ (own_m 87 rfl))) (mvT hZ (hw _ (own_m 88 rfl))) (mvT hZ (hw _ (own_m 75 rfl))) (mvT hZ (hw _ (own_m 89 rfl))) (by decide) (backOf (W := 1) (own_ntzL l Z a0 hw [] (wc ^^^ (-1 : Int64)) h0 n0 O0 (fun q => hc70_19 ((lw_eq _ _).mpr q))) hZ (hw _ (own_m 89 rfl)) (hw _ (own_m 75 rfl)) (by decide) (by decide)) (g := (mkF m 78 #[oR b, oI i, oI (2 : Int32), oL (wc ^^^ (-1 : Int64)), .second] [(.long (wc ^^^ (-1 : Int64))), (.int (128 : Int32))])) rfl (by rw [hml]; rfl) (argsL := [(.long (wc ^^^ (-1 : Int64)))]) (rest := [(.int (128 : Int32))]) (lenOf own_pd1 rfl) rfl (by show 2 * 0 + _ ≤ _; exact Nat.le_of_eq rfl) (hb hby own_d16_78) (fun _ _ => ⟨rfl, e17, (by decide : 0 + 0 ≤ _), (by decide : 0 + 0 ≤ _)⟩)
       dsimp only [Pt.U, Pt.locs, Pt.cells, Pt.slots] at X29 l29 y29 z29 st29 hQ29
       subst l29 y29 z29
       obtain ⟨rr29, rfl, N29q, hh29, hn29⟩ := hQ29
       have N29 := Fr.app N2 N29q
       refine own_st st29 ?_
       show own_Rch _ _ _ _ T29 (mkF m 81 #[oR b, oI i, oI (2 : Int32), oL (wc ^^^ (-1 : Int64)), .second] [(.int rr29), (.int (128 : Int32))])
       refine own_st (fun _ => XS.iadd X29.here hx rfl (hb hby own_d16_81) rfl) ?_
       show own_Rch _ _ _ _ T29 (mkF m 82 #[oR b, oI i, oI (2 : Int32), oL (wc ^^^ (-1 : Int64)), .second] [(.int ((128 : Int32) + rr29))])
       refine own_retI X29 hx Bd.notSynchronized Bd.returns (hb hby own_d16_82) (by decide) (by decide) ?_
       rw [hh29]
       obtain ⟨qk, qk63, qr, -⟩ := id hn29
       have r1 := own_sm (x := (128 : Int32)) (y := rr29) (show _ = (128 : Int) by decide) rfl (by omega) (by omega)
       refine ⟨_, rfl, N29, rfl, own_nextB (u := 2) (W := (own_w wa wb wc wd)) (q := 0) hi0 (own_wi hq (by decide)) (own_mhi (W := (own_w wa wb wc wd)) (q := 0) hi0) (by decide) ((lw_eq _ _).mp hc70_7) ?_ hn29 (by rw [r1]; omega)⟩
       intro v h1 h2
       rcases (by omega : v = 1) with rfl
       · exact (lw_eq _ _).mp hc70_13
    · -- pc 70: False
     refine own_st (fun _ => XS.ifNo X11.here hx rfl (hb hby own_d16_70) rfl ((if0 _ _).trans (feq hc70_13).1)) ?_
     show own_Rch _ _ _ _ T11 (mkF m 73 #[oR b, oI i, oI (1 : Int32), oL (wb ^^^ (-1 : Int64)), .second] [])
     refine own_st (fun _ => XS.iloadN X11.here hx rfl (hb hby own_d16_73) rfl) ?_
     show own_Rch _ _ _ _ T11 (mkF m 74 #[oR b, oI i, oI (1 : Int32), oL (wb ^^^ (-1 : Int64)), .second] [(.int (1 : Int32))])
     refine own_st (fun _ => XS.bipush X11.here hx rfl (hb hby own_d16_74)) ?_
     show own_Rch _ _ _ _ T11 (mkF m 76 #[oR b, oI i, oI (1 : Int32), oL (wb ^^^ (-1 : Int64)), .second] [(.int (64 : Int32)), (.int (1 : Int32))])
     refine own_st (fun _ => XS.imul X11.here hx rfl (hb hby own_d16_76) rfl) ?_
     show own_Rch _ _ _ _ T11 (mkF m 77 #[oR b, oI i, oI (1 : Int32), oL (wb ^^^ (-1 : Int64)), .second] [(.int (64 : Int32))])
     refine own_st (fun _ => XS.lloadN X11.here hx rfl (hb hby own_d16_77) rfl) ?_
     show own_Rch _ _ _ _ T11 (mkF m 78 #[oR b, oI i, oI (1 : Int32), oL (wb ^^^ (-1 : Int64)), .second] [(.long (wb ^^^ (-1 : Int64))), (.int (64 : Int32))])
     obtain ⟨_, _, ⟨T30, L30, k30, n30⟩, -, X30, ⟨Lc30, hQ30, l30, y30, z30⟩, st30⟩ := Jvm.LawKit.callS X11 hx (y := (⟨"java/lang/Long", "numberOfTrailingZeros", "(J)I"⟩ : MethodName)) hown (mvT hZ (hw _ (own_m 87 rfl))) (mvT hZ (hw _ (own_m 88 rfl))) (mvT hZ (hw _ (own_m 75 rfl))) (mvT hZ (hw _ (own_m 89 rfl))) (by decide) (backOf (W := 1) (own_ntzL l Z a0 hw [] (wb ^^^ (-1 : Int64)) h0 n0 O0 (fun q => hc70_13 ((lw_eq _ _).mpr q))) hZ (hw _ (own_m 89 rfl)) (hw _ (own_m 75 rfl)) (by decide) (by decide)) (g := (mkF m 78 #[oR b, oI i, oI (1 : Int32), oL (wb ^^^ (-1 : Int64)), .second] [(.long (wb ^^^ (-1 : Int64))), (.int (64 : Int32))])) rfl (by rw [hml]; rfl) (argsL := [(.long (wb ^^^ (-1 : Int64)))]) (rest := [(.int (64 : Int32))]) (lenOf own_pd1 rfl) rfl (by show 2 * 0 + _ ≤ _; exact Nat.le_of_eq rfl) (hb hby own_d16_78) (fun _ _ => ⟨rfl, e11, (by decide : 0 + 0 ≤ _), (by decide : 0 + 0 ≤ _)⟩)
     dsimp only [Pt.U, Pt.locs, Pt.cells, Pt.slots] at X30 l30 y30 z30 st30 hQ30
     subst l30 y30 z30
     obtain ⟨rr30, rfl, N30q, hh30, hn30⟩ := hQ30
     have N30 := Fr.app N2 N30q
     refine own_st st30 ?_
     show own_Rch _ _ _ _ T30 (mkF m 81 #[oR b, oI i, oI (1 : Int32), oL (wb ^^^ (-1 : Int64)), .second] [(.int rr30), (.int (64 : Int32))])
     refine own_st (fun _ => XS.iadd X30.here hx rfl (hb hby own_d16_81) rfl) ?_
     show own_Rch _ _ _ _ T30 (mkF m 82 #[oR b, oI i, oI (1 : Int32), oL (wb ^^^ (-1 : Int64)), .second] [(.int ((64 : Int32) + rr30))])
     refine own_retI X30 hx Bd.notSynchronized Bd.returns (hb hby own_d16_82) (by decide) (by decide) ?_
     rw [hh30]
     obtain ⟨qk, qk63, qr, -⟩ := id hn30
     have r1 := own_sm (x := (64 : Int32)) (y := rr30) (show _ = (64 : Int) by decide) rfl (by omega) (by omega)
     refine ⟨_, rfl, N30, rfl, own_nextB (u := 1) (W := (own_w wa wb wc wd)) (q := 0) hi0 (own_wi hq (by decide)) (own_mhi (W := (own_w wa wb wc wd)) (q := 0) hi0) (by decide) ((lw_eq _ _).mp hc70_7) ?_ hn30 (by rw [r1]; omega)⟩
     intro v h1 h2; omega
  · -- pc 70: False
   refine own_st (fun _ => XS.ifNo X5.here hx rfl (hb hby own_d16_70) rfl ((if0 _ _).trans (feq hc70_7).1)) ?_
   show own_Rch _ _ _ _ T5 (mkF m 73 #[oR b, oI i, oI (0 : Int32), oL ((wa ^^^ (-1 : Int64)) &&& ((-1 : Int64) <<< (i &&& 0x3f).toInt64)), .second] [])
   refine own_st (fun _ => XS.iloadN X5.here hx rfl (hb hby own_d16_73) rfl) ?_
   show own_Rch _ _ _ _ T5 (mkF m 74 #[oR b, oI i, oI (0 : Int32), oL ((wa ^^^ (-1 : Int64)) &&& ((-1 : Int64) <<< (i &&& 0x3f).toInt64)), .second] [(.int (0 : Int32))])
   refine own_st (fun _ => XS.bipush X5.here hx rfl (hb hby own_d16_74)) ?_
   show own_Rch _ _ _ _ T5 (mkF m 76 #[oR b, oI i, oI (0 : Int32), oL ((wa ^^^ (-1 : Int64)) &&& ((-1 : Int64) <<< (i &&& 0x3f).toInt64)), .second] [(.int (64 : Int32)), (.int (0 : Int32))])
   refine own_st (fun _ => XS.imul X5.here hx rfl (hb hby own_d16_76) rfl) ?_
   show own_Rch _ _ _ _ T5 (mkF m 77 #[oR b, oI i, oI (0 : Int32), oL ((wa ^^^ (-1 : Int64)) &&& ((-1 : Int64) <<< (i &&& 0x3f).toInt64)), .second] [(.int (0 : Int32))])
   refine own_st (fun _ => XS.lloadN X5.here hx rfl (hb hby own_d16_77) rfl) ?_
   show own_Rch _ _ _ _ T5 (mkF m 78 #[oR b, oI i, oI (0 : Int32), oL ((wa ^^^ (-1 : Int64)) &&& ((-1 : Int64) <<< (i &&& 0x3f).toInt64)), .second] [(.long ((wa ^^^ (-1 : Int64)) &&& ((-1 : Int64) <<< (i &&& 0x3f).toInt64))), (.int (0 : Int32))])
   obtain ⟨_, _, ⟨T31, L31, k31, n31⟩, -, X31, ⟨Lc31, hQ31, l31, y31, z31⟩, st31⟩ := Jvm.LawKit.callS X5 hx (y := (⟨"java/lang/Long", "numberOfTrailingZeros", "(J)I"⟩ : MethodName)) hown (mvT hZ (hw _ (own_m 87 rfl))) (mvT hZ (hw _ (own_m 88 rfl))) (mvT hZ (hw _ (own_m 75 rfl))) (mvT hZ (hw _ (own_m 89 rfl))) (by decide) (backOf (W := 1) (own_ntzL l Z a0 hw [] ((wa ^^^ (-1 : Int64)) &&& ((-1 : Int64) <<< (i &&& 0x3f).toInt64)) h0 n0 O0 (fun q => hc70_7 ((lw_eq _ _).mpr q))) hZ (hw _ (own_m 89 rfl)) (hw _ (own_m 75 rfl)) (by decide) (by decide)) (g := (mkF m 78 #[oR b, oI i, oI (0 : Int32), oL ((wa ^^^ (-1 : Int64)) &&& ((-1 : Int64) <<< (i &&& 0x3f).toInt64)), .second] [(.long ((wa ^^^ (-1 : Int64)) &&& ((-1 : Int64) <<< (i &&& 0x3f).toInt64))), (.int (0 : Int32))])) rfl (by rw [hml]; rfl) (argsL := [(.long ((wa ^^^ (-1 : Int64)) &&& ((-1 : Int64) <<< (i &&& 0x3f).toInt64)))]) (rest := [(.int (0 : Int32))]) (lenOf own_pd1 rfl) rfl (by show 2 * 0 + _ ≤ _; exact Nat.le_of_eq rfl) (hb hby own_d16_78) (fun _ _ => ⟨rfl, e5, (by decide : 0 + 0 ≤ _), (by decide : 0 + 0 ≤ _)⟩)
   dsimp only [Pt.U, Pt.locs, Pt.cells, Pt.slots] at X31 l31 y31 z31 st31 hQ31
   subst l31 y31 z31
   obtain ⟨rr31, rfl, N31q, hh31, hn31⟩ := hQ31
   have N31 := Fr.app N2 N31q
   refine own_st st31 ?_
   show own_Rch _ _ _ _ T31 (mkF m 81 #[oR b, oI i, oI (0 : Int32), oL ((wa ^^^ (-1 : Int64)) &&& ((-1 : Int64) <<< (i &&& 0x3f).toInt64)), .second] [(.int rr31), (.int (0 : Int32))])
   refine own_st (fun _ => XS.iadd X31.here hx rfl (hb hby own_d16_81) rfl) ?_
   show own_Rch _ _ _ _ T31 (mkF m 82 #[oR b, oI i, oI (0 : Int32), oL ((wa ^^^ (-1 : Int64)) &&& ((-1 : Int64) <<< (i &&& 0x3f).toInt64)), .second] [(.int ((0 : Int32) + rr31))])
   refine own_retI X31 hx Bd.notSynchronized Bd.returns (hb hby own_d16_82) (by decide) (by decide) ?_
   rw [hh31]
   obtain ⟨qk, qk63, qr, -⟩ := id hn31
   have r1 := own_sm (x := (0 : Int32)) (y := rr31) (show _ = (0 : Int) by decide) rfl (by omega) (by omega)
   exact ⟨_, rfl, N31, rfl, own_nextA (W := (own_w wa wb wc wd)) (q := 0) hi0 (own_wi hq (by decide)) (own_mhi (W := (own_w wa wb wc wd)) (q := 0) hi0) hn31 (by rw [r1]; omega)⟩
 · -- pc 45: False
  refine own_st (fun _ => XS.icmpNo X3.here hx rfl (hb hby own_d16_45) rfl (flt hc45_4).1) ?_
  show own_Rch _ _ _ _ T3 (mkF m 48 #[oR b, oI i, oI (0 : Int32), .unset, .unset] [])
  refine own_st (fun _ => XS.iloadN X3.here hx rfl (hb hby own_d16_48) rfl) ?_
  show own_Rch _ _ _ _ T3 (mkF m 49 #[oR b, oI i, oI (0 : Int32), .unset, .unset] [(.int i)])
  refine own_retI X3 hx Bd.notSynchronized Bd.returns (hb hby own_d16_49) (by decide) (by decide) ?_
  rw [e3]
  rw [Int32.lt_iff_toInt_lt] at hc45_4
  exact ⟨_, rfl, N2, rfl, own_nextD (q := 0) hi0 (own_wi hq (by decide)) (own_W0 hW (by omega))⟩
set_option maxRecDepth 65536 in
set_option maxHeartbeats 40000000 in
theorem own_next1 (l : Launch) (Z : State) (a0 : Array Value) (hw : ∀ d ∈ tables_1, d.before a0 Z = true) (ws : List Jvm.Cond) (b : Addr) (y : Addr) (ka : ClassId) (wa : Int64) (wb : Int64) (wc : Int64) (wd : Int64) (nn : Int32) (i : Int32) (h0 : Heap) (n0 : Nat) (O0 : Old Z n0 h0) (SA : Sta Z Z.heap "java/util/BitSet" "$assertionsDisabled" "Z" (.int (1 : Int32))) (SS : own_St Z h0 b y ka wa wb wc wd nn) (hi0 : 0 ≤ i.toInt) (hi1 : i.toInt < 256) (hq : (i >>> ((6 : Int32) &&& 31)) = (1 : Int32)) :
    MetFree l (⟨"java/util/BitSet", "nextClearBit", "(I)I"⟩ : MethodName) (head1 (Jvm.Cond.code (⟨"java/util/BitSet", "nextClearBit", "(I)I"⟩ : MethodName) jdk_92_method_29_code 5 (some .int) :: ws) ({ frames := 3, cells := 0, slots := 0, locals := 100 } : Room)) (fun args_ U => args_ = #[(.ref b), (.int i)] ∧ Z.Warmed39 U.vm ∧ U.heap = h0) (fun _ _ _ _ _ => True) (fun _ U o U' => ∃ v L, o = .returned v ∧ (own_Q_i (fun r => own_nextP (own_w wa wb wc wd) i.toInt r.toInt) h0 n0) v U'.heap L ∧ FrameEnd U o U' L ({ frames := 3, cells := 0, slots := 0, locals := 100 } : Room).cells ({ frames := 3, cells := 0, slots := 0, locals := 100 } : Room).slots) := by
 refine MetFree.of_bodySF (plainFor_of_name own_pn0) hisR ?_
 intro p e s m args below meth c s₁ Bd hml0 hP hK
 obtain ⟨rfl, hZ, hh⟩ := hP
 have hx := Bd.exec
 have hby := Bd.bytes
 have hml : c.maxLocals = 5 := hml0
 have hown : s.vm.findClass "java/util/BitSet" = some m.cls := findClass_of_methodNamed Bd.named
 have hnm := (name_of_methodNamed Bd.named Bd.method).1
 have X0 : Stand p l e ({ frames := 3, cells := 0, slots := 0, locals := 100 } : Room) s m #[(.ref b), (.int i)] below meth c s₁ [] 0 0 := Stand.of_body Bd
 have e0 : s₁.heap = h0 := by rw [← hh, Bd.state]; rfl
 have N0 := Fr.nil n0
 obtain ⟨Eb, Fw, Fn, Va, hW⟩ := SS
 have ci0 : (0 : Int32).toInt = 0 := by decide
 have ci1 : (1 : Int32).toInt = 1 := by decide
 have ci2 : (2 : Int32).toInt = 2 := by decide
 have ci3 : (3 : Int32).toInt = 3 := by decide
 have ci4 : (4 : Int32).toInt = 4 := by decide
 have ci16 : (16 : Int32).toInt = 16 := by decide
 have ci256 : (256 : Int32).toInt = 256 := by decide
 have ci65536 : (65536 : Int32).toInt = 65536 := by decide
 refine own_close (s := s) (Q := (own_Q_i (fun r => own_nextP (own_w wa wb wc wd) i.toInt r.toInt) h0 n0)) (C := (({ frames := 3, cells := 0, slots := 0, locals := 100 } : Room)).cells) (N := (({ frames := 3, cells := 0, slots := 0, locals := 100 } : Room)).slots) (own_st (fun _ kt => castTop (own_ef16 m b i) kt) ?_)
 show own_Rch _ _ _ _ s₁ (mkF m 0 #[oR b, oI i, .unset, .unset, .unset] [])
 refine own_st (fun _ => XS.iloadN X0.here hx rfl (hb hby own_d16_0) rfl) ?_
 show own_Rch _ _ _ _ s₁ (mkF m 1 #[oR b, oI i, .unset, .unset, .unset] [(.int i)])
 refine own_st (fun _ => XS.ifYes X0.here hx rfl (pc0 := 1) (pc' := 31) rfl (hb hby own_d16_1) rfl ((if0 _ _).trans (flt ((own_nneg hi0) : ¬ (i < (0 : Int32)))).2.1) (by decide) (by decide)) ?_
 show own_Rch _ _ _ _ s₁ (mkF m 31 #[oR b, oI i, .unset, .unset, .unset] [])
 refine own_st (fun _ => XS.aloadN X0.here hx rfl (hb hby own_d16_31) rfl rfl) ?_
 show own_Rch _ _ _ _ s₁ (mkF m 32 #[oR b, oI i, .unset, .unset, .unset] [(.ref b)])
 obtain ⟨cq1, q1a, q1b⟩ := Eb.cell
 obtain ⟨_, _, ⟨T1, L1, k1, n1⟩, -, X1, ⟨Lc1, hQ1, l1, y1, z1⟩, st1⟩ := X0.privateBack hx (y := (⟨"java/util/BitSet", "checkInvariants", "()V"⟩ : MethodName)) hown (mvT hZ (hw _ (own_m 57 rfl))) (mvT hZ (hw _ (own_m 58 rfl))) (mvT hZ (hw _ (own_m 60 rfl))) (Cond.privateMethod_at (mvP hZ (hw _ (own_m 59 rfl)) (args := #[]))) (mvT hZ (hw _ (own_m 61 rfl))) (by decide) (backOf (W := 0) (own_ci l Z a0 hw [] b h0 n0 O0 SA) hZ (hw _ (own_m 61 rfl)) (hw _ (own_m 11 rfl)) (by decide) (by decide)) (g := (mkF m 32 #[oR b, oI i, .unset, .unset, .unset] [(.ref b)])) rfl (by rw [hml]; rfl) (Steps.refl _) (a := b) (by rw [e0]; exact q1a) q1b (argsL := []) (rest := []) (lenOf own_pd2 rfl) rfl (by show 2 * 0 + _ ≤ _; exact Nat.le_of_eq rfl) (hb hby own_d16_32) (fun _ _ => ⟨rfl, e0, (by decide : 0 + 0 ≤ _), (by decide : 0 + 0 ≤ _)⟩)
 dsimp only [Pt.U, Pt.locs, Pt.cells, Pt.slots] at X1 l1 y1 z1 st1 hQ1
 subst l1 y1 z1
 obtain ⟨rfl, N1q, hh1⟩ := hQ1
 have N1 := Fr.app N0 N1q
 refine own_st (fun _ => st1.trans) ?_
 show own_Rch _ _ _ _ T1 (mkF m 35 #[oR b, oI i, .unset, .unset, .unset] [])
 refine own_st (fun _ => XS.iloadN X1.here hx rfl (hb hby own_d16_35) rfl) ?_
 show own_Rch _ _ _ _ T1 (mkF m 36 #[oR b, oI i, .unset, .unset, .unset] [(.int i)])
 obtain ⟨_, _, ⟨T2, L2, k2, n2⟩, -, X2, ⟨Lc2, hQ2, l2, y2, z2⟩, st2⟩ := Jvm.LawKit.callS X1 hx (y := (⟨"java/util/BitSet", "wordIndex", "(I)I"⟩ : MethodName)) hown (mvT hZ (hw _ (own_m 25 rfl))) (mvT hZ (hw _ (own_m 26 rfl))) (mvT hZ (hw _ (own_m 11 rfl))) (mvT hZ (hw _ (own_m 27 rfl))) (by decide) (backOf (W := 0) (own_wordIndex l Z a0 hw [] i (1 : Int32) h0 n0 O0 hq) hZ (hw _ (own_m 27 rfl)) (hw _ (own_m 11 rfl)) (by decide) (by decide)) (g := (mkF m 36 #[oR b, oI i, .unset, .unset, .unset] [(.int i)])) rfl (by rw [hml]; rfl) (argsL := [(.int i)]) (rest := []) (lenOf own_pd0 rfl) rfl (by show 2 * 0 + _ ≤ _; exact Nat.le_of_eq rfl) (hb hby own_d16_36) (fun _ _ => ⟨rfl, hh1, (by decide : 0 + 0 ≤ _), (by decide : 0 + 0 ≤ _)⟩)
 dsimp only [Pt.U, Pt.locs, Pt.cells, Pt.slots] at X2 l2 y2 z2 st2 hQ2
 subst l2 y2 z2
 obtain ⟨rfl, N2q, hh2⟩ := hQ2
 have N2 := Fr.app N1 N2q
 refine own_st st2 ?_
 show own_Rch _ _ _ _ T2 (mkF m 39 #[oR b, oI i, .unset, .unset, .unset] [(.int (1 : Int32))])
 refine own_st (fun _ => XS.istoreN X2.here hx rfl (hb hby own_d16_39) rfl (l' := #[oR b, oI i, oI (1 : Int32), .unset, .unset]) rfl) ?_
 show own_Rch _ _ _ _ T2 (mkF m 40 #[oR b, oI i, oI (1 : Int32), .unset, .unset] [])
 refine own_st (fun _ => XS.iloadN X2.here hx rfl (hb hby own_d16_40) rfl) ?_
 show own_Rch _ _ _ _ T2 (mkF m 41 #[oR b, oI i, oI (1 : Int32), .unset, .unset] [(.int (1 : Int32))])
 refine own_st (fun _ => XS.aloadN X2.here hx rfl (hb hby own_d16_41) rfl rfl) ?_
 show own_Rch _ _ _ _ T2 (mkF m 42 #[oR b, oI i, oI (1 : Int32), .unset, .unset] [(.ref b), (.int (1 : Int32))])
 obtain ⟨T3, X3, e3, st3⟩ := getF X2 hx hZ hown (host := "") (Or.inl (hw _ (own_m 16 rfl))) Via.refl hh2 Fn (g := (mkF m 42 #[oR b, oI i, oI (1 : Int32), .unset, .unset] [(.ref b), (.int (1 : Int32))])) rfl rfl (hb hby own_d16_42)
 refine own_st st3 ?_
 show own_Rch _ _ _ _ T3 (mkF m 45 #[oR b, oI i, oI (1 : Int32), .unset, .unset] [(.int nn), (.int (1 : Int32))])
 by_cases hc45_4 : (1 : Int32) < nn
 · -- pc 45: True
  refine own_st (fun _ => XS.icmpYes X3.here hx rfl (pc0 := 45) (pc' := 50) rfl (hb hby own_d16_45) rfl (tlt hc45_4).1 (by decide) (by decide)) ?_
  show own_Rch _ _ _ _ T3 (mkF m 50 #[oR b, oI i, oI (1 : Int32), .unset, .unset] [])
  refine own_st (fun _ => XS.aloadN X3.here hx rfl (hb hby own_d16_50) rfl rfl) ?_
  show own_Rch _ _ _ _ T3 (mkF m 51 #[oR b, oI i, oI (1 : Int32), .unset, .unset] [(.ref b)])
  obtain ⟨T5, X5, e5, st5⟩ := getF X3 hx hZ hown (host := "") (Or.inl (hw _ (own_m 29 rfl))) Via.refl e3 Fw (g := (mkF m 51 #[oR b, oI i, oI (1 : Int32), .unset, .unset] [(.ref b)])) rfl rfl (hb hby own_d16_51)
  refine own_st st5 ?_
  show own_Rch _ _ _ _ T5 (mkF m 54 #[oR b, oI i, oI (1 : Int32), .unset, .unset] [(.ref y)])
  refine own_st (fun _ => XS.iloadN X5.here hx rfl (hb hby own_d16_54) rfl) ?_
  show own_Rch _ _ _ _ T5 (mkF m 55 #[oR b, oI i, oI (1 : Int32), .unset, .unset] [(.int (1 : Int32)), (.ref y)])
  obtain ⟨cl6, Ar6, q6, S6, M6, H6, G6⟩ := id Va
  have hin6 : ¬ ((1 : Int32) < 0 ∨ cl6.slots.size ≤ ((1 : Int32)).toNatClampNeg) := inb_of S6 ⟨by decide, by decide⟩
  refine own_st (X5.laload hx (j := (1 : Int32)) (v := (.long wb)) (by rw [e5]; exact Ar6.1) (State.isArrayOf_alike (hZ).alike Ar6.2.1) Ar6.2.2 hin6 (H6.at hin6 rfl) (g := (mkF m 55 #[oR b, oI i, oI (1 : Int32), .unset, .unset] [(.int (1 : Int32)), (.ref y)])) rfl rfl (hb hby own_d16_55)) ?_
  show own_Rch _ _ _ _ T5 (mkF m 56 #[oR b, oI i, oI (1 : Int32), .unset, .unset] [(.long wb)])
  refine own_st (X5.ldc2Long hx hown (mvT hZ (hw _ (own_m 56 rfl))) (g := (mkF m 56 #[oR b, oI i, oI (1 : Int32), .unset, .unset] [(.long wb)])) rfl (hb hby own_d16_56)) ?_
  show own_Rch _ _ _ _ T5 (mkF m 59 #[oR b, oI i, oI (1 : Int32), .unset, .unset] [(.long (-1 : Int64)), (.long wb)])
  refine own_st (fun _ => XS.lxor X5.here hx rfl (hb hby own_d16_59) rfl) ?_
  show own_Rch _ _ _ _ T5 (mkF m 60 #[oR b, oI i, oI (1 : Int32), .unset, .unset] [(.long (wb ^^^ (-1 : Int64)))])
  refine own_st (X5.ldc2Long hx hown (mvT hZ (hw _ (own_m 56 rfl))) (g := (mkF m 60 #[oR b, oI i, oI (1 : Int32), .unset, .unset] [(.long (wb ^^^ (-1 : Int64)))])) rfl (hb hby own_d16_60)) ?_
  show own_Rch _ _ _ _ T5 (mkF m 63 #[oR b, oI i, oI (1 : Int32), .unset, .unset] [(.long (-1 : Int64)), (.long (wb ^^^ (-1 : Int64)))])
  refine own_st (fun _ => XS.iloadN X5.here hx rfl (hb hby own_d16_63) rfl) ?_
  show own_Rch _ _ _ _ T5 (mkF m 64 #[oR b, oI i, oI (1 : Int32), .unset, .unset] [(.int i), (.long (-1 : Int64)), (.long (wb ^^^ (-1 : Int64)))])
  refine own_st (fun _ => XS.lshl X5.here hx rfl (hb hby own_d16_64) rfl) ?_
  show own_Rch _ _ _ _ T5 (mkF m 65 #[oR b, oI i, oI (1 : Int32), .unset, .unset] [(.long ((-1 : Int64) <<< (i &&& 0x3f).toInt64)), (.long (wb ^^^ (-1 : Int64)))])
  refine own_st (fun _ => XS.land X5.here hx rfl (hb hby own_d16_65) rfl) ?_
  show own_Rch _ _ _ _ T5 (mkF m 66 #[oR b, oI i, oI (1 : Int32), .unset, .unset] [(.long ((wb ^^^ (-1 : Int64)) &&& ((-1 : Int64) <<< (i &&& 0x3f).toInt64)))])
  refine own_st (fun _ => XS.lstoreN X5.here hx rfl (hb hby own_d16_66) rfl (l' := #[oR b, oI i, oI (1 : Int32), oL ((wb ^^^ (-1 : Int64)) &&& ((-1 : Int64) <<< (i &&& 0x3f).toInt64)), .second]) rfl) ?_
  show own_Rch _ _ _ _ T5 (mkF m 67 #[oR b, oI i, oI (1 : Int32), oL ((wb ^^^ (-1 : Int64)) &&& ((-1 : Int64) <<< (i &&& 0x3f).toInt64)), .second] [])
  refine own_st (fun _ => XS.lloadN X5.here hx rfl (hb hby own_d16_67) rfl) ?_
  show own_Rch _ _ _ _ T5 (mkF m 68 #[oR b, oI i, oI (1 : Int32), oL ((wb ^^^ (-1 : Int64)) &&& ((-1 : Int64) <<< (i &&& 0x3f).toInt64)), .second] [(.long ((wb ^^^ (-1 : Int64)) &&& ((-1 : Int64) <<< (i &&& 0x3f).toInt64)))])
  refine own_st (fun _ => XS.lconst X5.here hx rfl (hb hby own_d16_68)) ?_
  show own_Rch _ _ _ _ T5 (mkF m 69 #[oR b, oI i, oI (1 : Int32), oL ((wb ^^^ (-1 : Int64)) &&& ((-1 : Int64) <<< (i &&& 0x3f).toInt64)), .second] [(.long (0 : Int64)), (.long ((wb ^^^ (-1 : Int64)) &&& ((-1 : Int64) <<< (i &&& 0x3f).toInt64)))])
  refine own_st (fun _ => XS.lcmp X5.here hx rfl (hb hby own_d16_69) rfl) ?_
  show own_Rch _ _ _ _ T5 (mkF m 70 #[oR b, oI i, oI (1 : Int32), oL ((wb ^^^ (-1 : Int64)) &&& ((-1 : Int64) <<< (i &&& 0x3f).toInt64)), .second] [(.int (lcmpW ((wb ^^^ (-1 : Int64)) &&& ((-1 : Int64) <<< (i &&& 0x3f).toInt64)) (0 : Int64)))])
  by_cases hc70_7 : (lcmpW ((wb ^^^ (-1 : Int64)) &&& ((-1 : Int64) <<< (i &&& 0x3f).toInt64)) (0 : Int64)) = (0 : Int32)
  · -- pc 70: True
   refine own_st (fun _ => XS.ifYes X5.here hx rfl (pc0 := 70) (pc' := 83) rfl (hb hby own_d16_70) rfl ((if0 _ _).trans (teq hc70_7).1) (by decide) (by decide)) ?_
   show own_Rch _ _ _ _ T5 (mkF m 83 #[oR b, oI i, oI (1 : Int32), oL ((wb ^^^ (-1 : Int64)) &&& ((-1 : Int64) <<< (i &&& 0x3f).toInt64)), .second] [])
   refine own_st (fun _ => XS.iinc X5.here hx rfl (hb hby own_d16_83) rfl (l' := #[oR b, oI i, oI (2 : Int32), oL ((wb ^^^ (-1 : Int64)) &&& ((-1 : Int64) <<< (i &&& 0x3f).toInt64)), .second]) rfl) ?_
   show own_Rch _ _ _ _ T5 (mkF m 86 #[oR b, oI i, oI (2 : Int32), oL ((wb ^^^ (-1 : Int64)) &&& ((-1 : Int64) <<< (i &&& 0x3f).toInt64)), .second] [])
   refine own_st (fun _ => XS.iloadN X5.here hx rfl (hb hby own_d16_86) rfl) ?_
   show own_Rch _ _ _ _ T5 (mkF m 87 #[oR b, oI i, oI (2 : Int32), oL ((wb ^^^ (-1 : Int64)) &&& ((-1 : Int64) <<< (i &&& 0x3f).toInt64)), .second] [(.int (2 : Int32))])
   refine own_st (fun _ => XS.aloadN X5.here hx rfl (hb hby own_d16_87) rfl rfl) ?_
   show own_Rch _ _ _ _ T5 (mkF m 88 #[oR b, oI i, oI (2 : Int32), oL ((wb ^^^ (-1 : Int64)) &&& ((-1 : Int64) <<< (i &&& 0x3f).toInt64)), .second] [(.ref b), (.int (2 : Int32))])
   obtain ⟨T8, X8, e8, st8⟩ := getF X5 hx hZ hown (host := "") (Or.inl (hw _ (own_m 16 rfl))) Via.refl e5 Fn (g := (mkF m 88 #[oR b, oI i, oI (2 : Int32), oL ((wb ^^^ (-1 : Int64)) &&& ((-1 : Int64) <<< (i &&& 0x3f).toInt64)), .second] [(.ref b), (.int (2 : Int32))])) rfl rfl (hb hby own_d16_88)
   refine own_st st8 ?_
   show own_Rch _ _ _ _ T8 (mkF m 91 #[oR b, oI i, oI (2 : Int32), oL ((wb ^^^ (-1 : Int64)) &&& ((-1 : Int64) <<< (i &&& 0x3f).toInt64)), .second] [(.int nn), (.int (2 : Int32))])
   by_cases hc91_9 : (2 : Int32) = nn
   · -- pc 91: True
    refine own_st (fun _ => XS.icmpNo X8.here hx rfl (hb hby own_d16_91) rfl (teq hc91_9).2) ?_
    show own_Rch _ _ _ _ T8 (mkF m 94 #[oR b, oI i, oI (2 : Int32), oL ((wb ^^^ (-1 : Int64)) &&& ((-1 : Int64) <<< (i &&& 0x3f).toInt64)), .second] [])
    refine own_st (fun _ => XS.aloadN X8.here hx rfl (hb hby own_d16_94) rfl rfl) ?_
    show own_Rch _ _ _ _ T8 (mkF m 95 #[oR b, oI i, oI (2 : Int32), oL ((wb ^^^ (-1 : Int64)) &&& ((-1 : Int64) <<< (i &&& 0x3f).toInt64)), .second] [(.ref b)])
    obtain ⟨T10, X10, e10, st10⟩ := getF X8 hx hZ hown (host := "") (Or.inl (hw _ (own_m 16 rfl))) Via.refl e8 Fn (g := (mkF m 95 #[oR b, oI i, oI (2 : Int32), oL ((wb ^^^ (-1 : Int64)) &&& ((-1 : Int64) <<< (i &&& 0x3f).toInt64)), .second] [(.ref b)])) rfl rfl (hb hby own_d16_95)
    refine own_st st10 ?_
    show own_Rch _ _ _ _ T10 (mkF m 98 #[oR b, oI i, oI (2 : Int32), oL ((wb ^^^ (-1 : Int64)) &&& ((-1 : Int64) <<< (i &&& 0x3f).toInt64)), .second] [(.int nn)])
    refine own_st (fun _ => XS.bipush X10.here hx rfl (hb hby own_d16_98)) ?_
    show own_Rch _ _ _ _ T10 (mkF m 100 #[oR b, oI i, oI (2 : Int32), oL ((wb ^^^ (-1 : Int64)) &&& ((-1 : Int64) <<< (i &&& 0x3f).toInt64)), .second] [(.int (64 : Int32)), (.int nn)])
    refine own_st (fun _ => XS.imul X10.here hx rfl (hb hby own_d16_100) rfl) ?_
    show own_Rch _ _ _ _ T10 (mkF m 101 #[oR b, oI i, oI (2 : Int32), oL ((wb ^^^ (-1 : Int64)) &&& ((-1 : Int64) <<< (i &&& 0x3f).toInt64)), .second] [(.int (nn * (64 : Int32)))])
    refine own_retI X10 hx Bd.notSynchronized Bd.returns (hb hby own_d16_101) (by decide) (by decide) ?_
    rw [e10]
    have h91 : (2 : Int32) = nn := hc91_9
    refine ⟨_, rfl, N2, rfl, own_nextC (u := 2) (W := (own_w wa wb wc wd)) (q := 1) hi0 (own_wi hq (by decide)) (own_mhi (W := (own_w wa wb wc wd)) (q := 1) hi0) (by decide) ((lw_eq _ _).mp hc70_7) ?_ (own_W0 hW (by rw [← h91]; decide)) (by rw [← h91]; decide)⟩
    intro v h1 h2; omega
   · -- pc 91: False
    refine own_st (fun _ => XS.icmpYes X8.here hx rfl (pc0 := 91) (pc' := 102) rfl (hb hby own_d16_91) rfl (feq hc91_9).2 (by decide) (by decide)) ?_
    show own_Rch _ _ _ _ T8 (mkF m 102 #[oR b, oI i, oI (2 : Int32), oL ((wb ^^^ (-1 : Int64)) &&& ((-1 : Int64) <<< (i &&& 0x3f).toInt64)), .second] [])
    refine own_st (fun _ => XS.aloadN X8.here hx rfl (hb hby own_d16_102) rfl rfl) ?_
    show own_Rch _ _ _ _ T8 (mkF m 103 #[oR b, oI i, oI (2 : Int32), oL ((wb ^^^ (-1 : Int64)) &&& ((-1 : Int64) <<< (i &&& 0x3f).toInt64)), .second] [(.ref b)])
    obtain ⟨T11, X11, e11, st11⟩ := getF X8 hx hZ hown (host := "") (Or.inl (hw _ (own_m 29 rfl))) Via.refl e8 Fw (g := (mkF m 103 #[oR b, oI i, oI (2 : Int32), oL ((wb ^^^ (-1 : Int64)) &&& ((-1 : Int64) <<< (i &&& 0x3f).toInt64)), .second] [(.ref b)])) rfl rfl (hb hby own_d16_103)
    refine own_st st11 ?_
    show own_Rch _ _ _ _ T11 (mkF m 106 #[oR b, oI i, oI (2 : Int32), oL ((wb ^^^ (-1 : Int64)) &&& ((-1 : Int64) <<< (i &&& 0x3f).toInt64)), .second] [(.ref y)])
    refine own_st (fun _ => XS.iloadN X11.here hx rfl (hb hby own_d16_106) rfl) ?_
    show own_Rch _ _ _ _ T11 (mkF m 107 #[oR b, oI i, oI (2 : Int32), oL ((wb ^^^ (-1 : Int64)) &&& ((-1 : Int64) <<< (i &&& 0x3f).toInt64)), .second] [(.int (2 : Int32)), (.ref y)])
    obtain ⟨cl12, Ar12, q12, S12, M12, H12, G12⟩ := id Va
    have hin12 : ¬ ((2 : Int32) < 0 ∨ cl12.slots.size ≤ ((2 : Int32)).toNatClampNeg) := inb_of S12 ⟨by decide, by decide⟩
    refine own_st (X11.laload hx (j := (2 : Int32)) (v := (.long wc)) (by rw [e11]; exact Ar12.1) (State.isArrayOf_alike (hZ).alike Ar12.2.1) Ar12.2.2 hin12 (H12.at hin12 rfl) (g := (mkF m 107 #[oR b, oI i, oI (2 : Int32), oL ((wb ^^^ (-1 : Int64)) &&& ((-1 : Int64) <<< (i &&& 0x3f).toInt64)), .second] [(.int (2 : Int32)), (.ref y)])) rfl rfl (hb hby own_d16_107)) ?_
    show own_Rch _ _ _ _ T11 (mkF m 108 #[oR b, oI i, oI (2 : Int32), oL ((wb ^^^ (-1 : Int64)) &&& ((-1 : Int64) <<< (i &&& 0x3f).toInt64)), .second] [(.long wc)])
    refine own_st (X11.ldc2Long hx hown (mvT hZ (hw _ (own_m 56 rfl))) (g := (mkF m 108 #[oR b, oI i, oI (2 : Int32), oL ((wb ^^^ (-1 : Int64)) &&& ((-1 : Int64) <<< (i &&& 0x3f).toInt64)), .second] [(.long wc)])) rfl (hb hby own_d16_108)) ?_
    show own_Rch _ _ _ _ T11 (mkF m 111 #[oR b, oI i, oI (2 : Int32), oL ((wb ^^^ (-1 : Int64)) &&& ((-1 : Int64) <<< (i &&& 0x3f).toInt64)), .second] [(.long (-1 : Int64)), (.long wc)])
    refine own_st (fun _ => XS.lxor X11.here hx rfl (hb hby own_d16_111) rfl) ?_
    show own_Rch _ _ _ _ T11 (mkF m 112 #[oR b, oI i, oI (2 : Int32), oL ((wb ^^^ (-1 : Int64)) &&& ((-1 : Int64) <<< (i &&& 0x3f).toInt64)), .second] [(.long (wc ^^^ (-1 : Int64)))])
    refine own_st (fun _ => XS.lstoreN X11.here hx rfl (hb hby own_d16_112) rfl (l' := #[oR b, oI i, oI (2 : Int32), oL (wc ^^^ (-1 : Int64)), .second]) rfl) ?_
    show own_Rch _ _ _ _ T11 (mkF m 113 #[oR b, oI i, oI (2 : Int32), oL (wc ^^^ (-1 : Int64)), .second] [])
    refine own_st (fun _ => XS.goto X11.here hx rfl (pc0 := 113) (pc' := 67) rfl (hb hby own_d16_113) (by decide) (by decide)) ?_
    show own_Rch _ _ _ _ T11 (mkF m 67 #[oR b, oI i, oI (2 : Int32), oL (wc ^^^ (-1 : Int64)), .second] [])
    refine own_st (fun _ => XS.lloadN X11.here hx rfl (hb hby own_d16_67) rfl) ?_
    show own_Rch _ _ _ _ T11 (mkF m 68 #[oR b, oI i, oI (2 : Int32), oL (wc ^^^ (-1 : Int64)), .second] [(.long (wc ^^^ (-1 : Int64)))])
    refine own_st (fun _ => XS.lconst X11.here hx rfl (hb hby own_d16_68)) ?_
    show own_Rch _ _ _ _ T11 (mkF m 69 #[oR b, oI i, oI (2 : Int32), oL (wc ^^^ (-1 : Int64)), .second] [(.long (0 : Int64)), (.long (wc ^^^ (-1 : Int64)))])
    refine own_st (fun _ => XS.lcmp X11.here hx rfl (hb hby own_d16_69) rfl) ?_
    show own_Rch _ _ _ _ T11 (mkF m 70 #[oR b, oI i, oI (2 : Int32), oL (wc ^^^ (-1 : Int64)), .second] [(.int (lcmpW (wc ^^^ (-1 : Int64)) (0 : Int64)))])
    by_cases hc70_13 : (lcmpW (wc ^^^ (-1 : Int64)) (0 : Int64)) = (0 : Int32)
    · -- pc 70: True
     refine own_st (fun _ => XS.ifYes X11.here hx rfl (pc0 := 70) (pc' := 83) rfl (hb hby own_d16_70) rfl ((if0 _ _).trans (teq hc70_13).1) (by decide) (by decide)) ?_
     show own_Rch _ _ _ _ T11 (mkF m 83 #[oR b, oI i, oI (2 : Int32), oL (wc ^^^ (-1 : Int64)), .second] [])
     refine own_st (fun _ => XS.iinc X11.here hx rfl (hb hby own_d16_83) rfl (l' := #[oR b, oI i, oI (3 : Int32), oL (wc ^^^ (-1 : Int64)), .second]) rfl) ?_
     show own_Rch _ _ _ _ T11 (mkF m 86 #[oR b, oI i, oI (3 : Int32), oL (wc ^^^ (-1 : Int64)), .second] [])
     refine own_st (fun _ => XS.iloadN X11.here hx rfl (hb hby own_d16_86) rfl) ?_
     show own_Rch _ _ _ _ T11 (mkF m 87 #[oR b, oI i, oI (3 : Int32), oL (wc ^^^ (-1 : Int64)), .second] [(.int (3 : Int32))])
     refine own_st (fun _ => XS.aloadN X11.here hx rfl (hb hby own_d16_87) rfl rfl) ?_
     show own_Rch _ _ _ _ T11 (mkF m 88 #[oR b, oI i, oI (3 : Int32), oL (wc ^^^ (-1 : Int64)), .second] [(.ref b), (.int (3 : Int32))])
     obtain ⟨T14, X14, e14, st14⟩ := getF X11 hx hZ hown (host := "") (Or.inl (hw _ (own_m 16 rfl))) Via.refl e11 Fn (g := (mkF m 88 #[oR b, oI i, oI (3 : Int32), oL (wc ^^^ (-1 : Int64)), .second] [(.ref b), (.int (3 : Int32))])) rfl rfl (hb hby own_d16_88)
     refine own_st st14 ?_
     show own_Rch _ _ _ _ T14 (mkF m 91 #[oR b, oI i, oI (3 : Int32), oL (wc ^^^ (-1 : Int64)), .second] [(.int nn), (.int (3 : Int32))])
     by_cases hc91_15 : (3 : Int32) = nn
     · -- pc 91: True
      refine own_st (fun _ => XS.icmpNo X14.here hx rfl (hb hby own_d16_91) rfl (teq hc91_15).2) ?_
      show own_Rch _ _ _ _ T14 (mkF m 94 #[oR b, oI i, oI (3 : Int32), oL (wc ^^^ (-1 : Int64)), .second] [])
      refine own_st (fun _ => XS.aloadN X14.here hx rfl (hb hby own_d16_94) rfl rfl) ?_
      show own_Rch _ _ _ _ T14 (mkF m 95 #[oR b, oI i, oI (3 : Int32), oL (wc ^^^ (-1 : Int64)), .second] [(.ref b)])
      obtain ⟨T16, X16, e16, st16⟩ := getF X14 hx hZ hown (host := "") (Or.inl (hw _ (own_m 16 rfl))) Via.refl e14 Fn (g := (mkF m 95 #[oR b, oI i, oI (3 : Int32), oL (wc ^^^ (-1 : Int64)), .second] [(.ref b)])) rfl rfl (hb hby own_d16_95)
      refine own_st st16 ?_
      show own_Rch _ _ _ _ T16 (mkF m 98 #[oR b, oI i, oI (3 : Int32), oL (wc ^^^ (-1 : Int64)), .second] [(.int nn)])
      refine own_st (fun _ => XS.bipush X16.here hx rfl (hb hby own_d16_98)) ?_
      show own_Rch _ _ _ _ T16 (mkF m 100 #[oR b, oI i, oI (3 : Int32), oL (wc ^^^ (-1 : Int64)), .second] [(.int (64 : Int32)), (.int nn)])
      refine own_st (fun _ => XS.imul X16.here hx rfl (hb hby own_d16_100) rfl) ?_
      show own_Rch _ _ _ _ T16 (mkF m 101 #[oR b, oI i, oI (3 : Int32), oL (wc ^^^ (-1 : Int64)), .second] [(.int (nn * (64 : Int32)))])
      refine own_retI X16 hx Bd.notSynchronized Bd.returns (hb hby own_d16_101) (by decide) (by decide) ?_
      rw [e16]
      have h91 : (3 : Int32) = nn := hc91_15
      refine ⟨_, rfl, N2, rfl, own_nextC (u := 3) (W := (own_w wa wb wc wd)) (q := 1) hi0 (own_wi hq (by decide)) (own_mhi (W := (own_w wa wb wc wd)) (q := 1) hi0) (by decide) ((lw_eq _ _).mp hc70_7) ?_ (own_W0 hW (by rw [← h91]; decide)) (by rw [← h91]; decide)⟩
      intro v h1 h2
      rcases (by omega : v = 2) with rfl
      · exact (lw_eq _ _).mp hc70_13
     · -- pc 91: False
      refine own_st (fun _ => XS.icmpYes X14.here hx rfl (pc0 := 91) (pc' := 102) rfl (hb hby own_d16_91) rfl (feq hc91_15).2 (by decide) (by decide)) ?_
      show own_Rch _ _ _ _ T14 (mkF m 102 #[oR b, oI i, oI (3 : Int32), oL (wc ^^^ (-1 : Int64)), .second] [])
      refine own_st (fun _ => XS.aloadN X14.here hx rfl (hb hby own_d16_102) rfl rfl) ?_
      show own_Rch _ _ _ _ T14 (mkF m 103 #[oR b, oI i, oI (3 : Int32), oL (wc ^^^ (-1 : Int64)), .second] [(.ref b)])
      obtain ⟨T17, X17, e17, st17⟩ := getF X14 hx hZ hown (host := "") (Or.inl (hw _ (own_m 29 rfl))) Via.refl e14 Fw (g := (mkF m 103 #[oR b, oI i, oI (3 : Int32), oL (wc ^^^ (-1 : Int64)), .second] [(.ref b)])) rfl rfl (hb hby own_d16_103)
      refine own_st st17 ?_
      show own_Rch _ _ _ _ T17 (mkF m 106 #[oR b, oI i, oI (3 : Int32), oL (wc ^^^ (-1 : Int64)), .second] [(.ref y)])
      refine own_st (fun _ => XS.iloadN X17.here hx rfl (hb hby own_d16_106) rfl) ?_
      show own_Rch _ _ _ _ T17 (mkF m 107 #[oR b, oI i, oI (3 : Int32), oL (wc ^^^ (-1 : Int64)), .second] [(.int (3 : Int32)), (.ref y)])
      obtain ⟨cl18, Ar18, q18, S18, M18, H18, G18⟩ := id Va
      have hin18 : ¬ ((3 : Int32) < 0 ∨ cl18.slots.size ≤ ((3 : Int32)).toNatClampNeg) := inb_of S18 ⟨by decide, by decide⟩
      refine own_st (X17.laload hx (j := (3 : Int32)) (v := (.long wd)) (by rw [e17]; exact Ar18.1) (State.isArrayOf_alike (hZ).alike Ar18.2.1) Ar18.2.2 hin18 (H18.at hin18 rfl) (g := (mkF m 107 #[oR b, oI i, oI (3 : Int32), oL (wc ^^^ (-1 : Int64)), .second] [(.int (3 : Int32)), (.ref y)])) rfl rfl (hb hby own_d16_107)) ?_
      show own_Rch _ _ _ _ T17 (mkF m 108 #[oR b, oI i, oI (3 : Int32), oL (wc ^^^ (-1 : Int64)), .second] [(.long wd)])
      refine own_st (X17.ldc2Long hx hown (mvT hZ (hw _ (own_m 56 rfl))) (g := (mkF m 108 #[oR b, oI i, oI (3 : Int32), oL (wc ^^^ (-1 : Int64)), .second] [(.long wd)])) rfl (hb hby own_d16_108)) ?_
      show own_Rch _ _ _ _ T17 (mkF m 111 #[oR b, oI i, oI (3 : Int32), oL (wc ^^^ (-1 : Int64)), .second] [(.long (-1 : Int64)), (.long wd)])
      refine own_st (fun _ => XS.lxor X17.here hx rfl (hb hby own_d16_111) rfl) ?_
      show own_Rch _ _ _ _ T17 (mkF m 112 #[oR b, oI i, oI (3 : Int32), oL (wc ^^^ (-1 : Int64)), .second] [(.long (wd ^^^ (-1 : Int64)))])
      refine own_st (fun _ => XS.lstoreN X17.here hx rfl (hb hby own_d16_112) rfl (l' := #[oR b, oI i, oI (3 : Int32), oL (wd ^^^ (-1 : Int64)), .second]) rfl) ?_
      show own_Rch _ _ _ _ T17 (mkF m 113 #[oR b, oI i, oI (3 : Int32), oL (wd ^^^ (-1 : Int64)), .second] [])
      refine own_st (fun _ => XS.goto X17.here hx rfl (pc0 := 113) (pc' := 67) rfl (hb hby own_d16_113) (by decide) (by decide)) ?_
      show own_Rch _ _ _ _ T17 (mkF m 67 #[oR b, oI i, oI (3 : Int32), oL (wd ^^^ (-1 : Int64)), .second] [])
      refine own_st (fun _ => XS.lloadN X17.here hx rfl (hb hby own_d16_67) rfl) ?_
      show own_Rch _ _ _ _ T17 (mkF m 68 #[oR b, oI i, oI (3 : Int32), oL (wd ^^^ (-1 : Int64)), .second] [(.long (wd ^^^ (-1 : Int64)))])
      refine own_st (fun _ => XS.lconst X17.here hx rfl (hb hby own_d16_68)) ?_
      show own_Rch _ _ _ _ T17 (mkF m 69 #[oR b, oI i, oI (3 : Int32), oL (wd ^^^ (-1 : Int64)), .second] [(.long (0 : Int64)), (.long (wd ^^^ (-1 : Int64)))])
      refine own_st (fun _ => XS.lcmp X17.here hx rfl (hb hby own_d16_69) rfl) ?_
      show own_Rch _ _ _ _ T17 (mkF m 70 #[oR b, oI i, oI (3 : Int32), oL (wd ^^^ (-1 : Int64)), .second] [(.int (lcmpW (wd ^^^ (-1 : Int64)) (0 : Int64)))])
      by_cases hc70_19 : (lcmpW (wd ^^^ (-1 : Int64)) (0 : Int64)) = (0 : Int32)
      · -- pc 70: True
       refine own_st (fun _ => XS.ifYes X17.here hx rfl (pc0 := 70) (pc' := 83) rfl (hb hby own_d16_70) rfl ((if0 _ _).trans (teq hc70_19).1) (by decide) (by decide)) ?_
       show own_Rch _ _ _ _ T17 (mkF m 83 #[oR b, oI i, oI (3 : Int32), oL (wd ^^^ (-1 : Int64)), .second] [])
       refine own_st (fun _ => XS.iinc X17.here hx rfl (hb hby own_d16_83) rfl (l' := #[oR b, oI i, oI (4 : Int32), oL (wd ^^^ (-1 : Int64)), .second]) rfl) ?_
       show own_Rch _ _ _ _ T17 (mkF m 86 #[oR b, oI i, oI (4 : Int32), oL (wd ^^^ (-1 : Int64)), .second] [])
       refine own_st (fun _ => XS.iloadN X17.here hx rfl (hb hby own_d16_86) rfl) ?_
       show own_Rch _ _ _ _ T17 (mkF m 87 #[oR b, oI i, oI (4 : Int32), oL (wd ^^^ (-1 : Int64)), .second] [(.int (4 : Int32))])
       refine own_st (fun _ => XS.aloadN X17.here hx rfl (hb hby own_d16_87) rfl rfl) ?_
       show own_Rch _ _ _ _ T17 (mkF m 88 #[oR b, oI i, oI (4 : Int32), oL (wd ^^^ (-1 : Int64)), .second] [(.ref b), (.int (4 : Int32))])
       obtain ⟨T20, X20, e20, st20⟩ := getF X17 hx hZ hown (host := "") (Or.inl (hw _ (own_m 16 rfl))) Via.refl e17 Fn (g := (mkF m 88 #[oR b, oI i, oI (4 : Int32), oL (wd ^^^ (-1 : Int64)), .second] [(.ref b), (.int (4 : Int32))])) rfl rfl (hb hby own_d16_88)
       refine own_st st20 ?_
       show own_Rch _ _ _ _ T20 (mkF m 91 #[oR b, oI i, oI (4 : Int32), oL (wd ^^^ (-1 : Int64)), .second] [(.int nn), (.int (4 : Int32))])
       refine own_st (fun _ => XS.icmpNo X20.here hx rfl (hb hby own_d16_91) rfl (teq ((by rw [← Int32.toInt_inj]; have a1 := hW.1; have a2 := Int32.lt_iff_toInt_lt.mp hc45_4; have b0 : ¬ (2 : Int32).toInt = nn.toInt := fun t => hc91_9 (Int32.toInt_inj.mp t); have b1 : ¬ (3 : Int32).toInt = nn.toInt := fun t => hc91_15 (Int32.toInt_inj.mp t); omega) : (4 : Int32) = nn)).2) ?_
       show own_Rch _ _ _ _ T20 (mkF m 94 #[oR b, oI i, oI (4 : Int32), oL (wd ^^^ (-1 : Int64)), .second] [])
       refine own_st (fun _ => XS.aloadN X20.here hx rfl (hb hby own_d16_94) rfl rfl) ?_
       show own_Rch _ _ _ _ T20 (mkF m 95 #[oR b, oI i, oI (4 : Int32), oL (wd ^^^ (-1 : Int64)), .second] [(.ref b)])
       obtain ⟨T21, X21, e21, st21⟩ := getF X20 hx hZ hown (host := "") (Or.inl (hw _ (own_m 16 rfl))) Via.refl e20 Fn (g := (mkF m 95 #[oR b, oI i, oI (4 : Int32), oL (wd ^^^ (-1 : Int64)), .second] [(.ref b)])) rfl rfl (hb hby own_d16_95)
       refine own_st st21 ?_
       show own_Rch _ _ _ _ T21 (mkF m 98 #[oR b, oI i, oI (4 : Int32), oL (wd ^^^ (-1 : Int64)), .second] [(.int nn)])
       refine own_st (fun _ => XS.bipush X21.here hx rfl (hb hby own_d16_98)) ?_
       show own_Rch _ _ _ _ T21 (mkF m 100 #[oR b, oI i, oI (4 : Int32), oL (wd ^^^ (-1 : Int64)), .second] [(.int (64 : Int32)), (.int nn)])
       refine own_st (fun _ => XS.imul X21.here hx rfl (hb hby own_d16_100) rfl) ?_
       show own_Rch _ _ _ _ T21 (mkF m 101 #[oR b, oI i, oI (4 : Int32), oL (wd ^^^ (-1 : Int64)), .second] [(.int (nn * (64 : Int32)))])
       refine own_retI X21 hx Bd.notSynchronized Bd.returns (hb hby own_d16_101) (by decide) (by decide) ?_
       rw [e21]
       have h91 : (4 : Int32) = nn := (by rw [← Int32.toInt_inj]; have a1 := hW.1; have a2 := Int32.lt_iff_toInt_lt.mp hc45_4; have b0 : ¬ (2 : Int32).toInt = nn.toInt := fun t => hc91_9 (Int32.toInt_inj.mp t); have b1 : ¬ (3 : Int32).toInt = nn.toInt := fun t => hc91_15 (Int32.toInt_inj.mp t); omega)
       refine ⟨_, rfl, N2, rfl, own_nextC (u := 4) (W := (own_w wa wb wc wd)) (q := 1) hi0 (own_wi hq (by decide)) (own_mhi (W := (own_w wa wb wc wd)) (q := 1) hi0) (by decide) ((lw_eq _ _).mp hc70_7) ?_ (own_W0 hW (by rw [← h91]; decide)) (by rw [← h91]; decide)⟩
       intro v h1 h2
       rcases (by omega : v = 2 ∨ v = 3) with rfl | rfl
       · exact (lw_eq _ _).mp hc70_13
       · exact (lw_eq _ _).mp hc70_19
      · -- pc 70: False
       refine own_st (fun _ => XS.ifNo X17.here hx rfl (hb hby own_d16_70) rfl ((if0 _ _).trans (feq hc70_19).1)) ?_
       show own_Rch _ _ _ _ T17 (mkF m 73 #[oR b, oI i, oI (3 : Int32), oL (wd ^^^ (-1 : Int64)), .second] [])
       refine own_st (fun _ => XS.iloadN X17.here hx rfl (hb hby own_d16_73) rfl) ?_
       show own_Rch _ _ _ _ T17 (mkF m 74 #[oR b, oI i, oI (3 : Int32), oL (wd ^^^ (-1 : Int64)), .second] [(.int (3 : Int32))])
       refine own_st (fun _ => XS.bipush X17.here hx rfl (hb hby own_d16_74)) ?_
       show own_Rch _ _ _ _ T17 (mkF m 76 #[oR b, oI i, oI (3 : Int32), oL (wd ^^^ (-1 : Int64)), .second] [(.int (64 : Int32)), (.int (3 : Int32))])
       refine own_st (fun _ => XS.imul X17.here hx rfl (hb hby own_d16_76) rfl) ?_
       show own_Rch _ _ _ _ T17 (mkF m 77 #[oR b, oI i, oI (3 : Int32), oL (wd ^^^ (-1 : Int64)), .second] [(.int (192 : Int32))])
       refine own_st (fun _ => XS.lloadN X17.here hx rfl (hb hby own_d16_77) rfl) ?_
       show own_Rch _ _ _ _ T17 (mkF m 78 #[oR b, oI i, oI (3 : Int32), oL (wd ^^^ (-1 : Int64)), .second] [(.long (wd ^^^ (-1 : Int64))), (.int (192 : Int32))])
       obtain ⟨_, _, ⟨T22, L22, k22, n22⟩, -, X22, ⟨Lc22, hQ22, l22, y22, z22⟩, st22⟩ := Jvm.LawKit.callS X17 hx (y := (⟨"java/lang/Long", "numberOfTrailingZeros", "(J)I"⟩ : MethodName)) hown (mvT hZ (hw _ (own_m 87 rfl))) (mvT hZ (hw _ (own_m 88 rfl))) (mvT hZ (hw _ (own_m 75 rfl))) (mvT hZ (hw _ (own_m 89 rfl))) (by decide) (backOf (W := 1) (own_ntzL l Z a0 hw [] (wd ^^^ (-1 : Int64)) h0 n0 O0 (fun q => hc70_19 ((lw_eq _ _).mpr q))) hZ (hw _ (own_m 89 rfl)) (hw _ (own_m 75 rfl)) (by decide) (by decide)) (g := (mkF m 78 #[oR b, oI i, oI (3 : Int32), oL (wd ^^^ (-1 : Int64)), .second] [(.long (wd ^^^ (-1 : Int64))), (.int (192 : Int32))])) rfl (by rw [hml]; rfl) (argsL := [(.long (wd ^^^ (-1 : Int64)))]) (rest := [(.int (192 : Int32))]) (lenOf own_pd1 rfl) rfl (by show 2 * 0 + _ ≤ _; exact Nat.le_of_eq rfl) (hb hby own_d16_78) (fun _ _ => ⟨rfl, e17, (by decide : 0 + 0 ≤ _), (by decide : 0 + 0 ≤ _)⟩)
       dsimp only [Pt.U, Pt.locs, Pt.cells, Pt.slots] at X22 l22 y22 z22 st22 hQ22
       subst l22 y22 z22
       obtain ⟨rr22, rfl, N22q, hh22, hn22⟩ := hQ22
       have N22 := Fr.app N2 N22q
       refine own_st st22 ?_
       show own_Rch _ _ _ _ T22 (mkF m 81 #[oR b, oI i, oI (3 : Int32), oL (wd ^^^ (-1 : Int64)), .second] [(.int rr22), (.int (192 : Int32))])
       refine own_st (fun _ => XS.iadd X22.here hx rfl (hb hby own_d16_81) rfl) ?_
       show own_Rch _ _ _ _ T22 (mkF m 82 #[oR b, oI i, oI (3 : Int32), oL (wd ^^^ (-1 : Int64)), .second] [(.int ((192 : Int32) + rr22))])
       refine own_retI X22 hx Bd.notSynchronized Bd.returns (hb hby own_d16_82) (by decide) (by decide) ?_
       rw [hh22]
       obtain ⟨qk, qk63, qr, -⟩ := id hn22
       have r1 := own_sm (x := (192 : Int32)) (y := rr22) (show _ = (192 : Int) by decide) rfl (by omega) (by omega)
       refine ⟨_, rfl, N22, rfl, own_nextB (u := 3) (W := (own_w wa wb wc wd)) (q := 1) hi0 (own_wi hq (by decide)) (own_mhi (W := (own_w wa wb wc wd)) (q := 1) hi0) (by decide) ((lw_eq _ _).mp hc70_7) ?_ hn22 (by rw [r1]; omega)⟩
       intro v h1 h2
       rcases (by omega : v = 2) with rfl
       · exact (lw_eq _ _).mp hc70_13
    · -- pc 70: False
     refine own_st (fun _ => XS.ifNo X11.here hx rfl (hb hby own_d16_70) rfl ((if0 _ _).trans (feq hc70_13).1)) ?_
     show own_Rch _ _ _ _ T11 (mkF m 73 #[oR b, oI i, oI (2 : Int32), oL (wc ^^^ (-1 : Int64)), .second] [])
     refine own_st (fun _ => XS.iloadN X11.here hx rfl (hb hby own_d16_73) rfl) ?_
     show own_Rch _ _ _ _ T11 (mkF m 74 #[oR b, oI i, oI (2 : Int32), oL (wc ^^^ (-1 : Int64)), .second] [(.int (2 : Int32))])
     refine own_st (fun _ => XS.bipush X11.here hx rfl (hb hby own_d16_74)) ?_
     show own_Rch _ _ _ _ T11 (mkF m 76 #[oR b, oI i, oI (2 : Int32), oL (wc ^^^ (-1 : Int64)), .second] [(.int (64 : Int32)), (.int (2 : Int32))])
     refine own_st (fun _ => XS.imul X11.here hx rfl (hb hby own_d16_76) rfl) ?_
     show own_Rch _ _ _ _ T11 (mkF m 77 #[oR b, oI i, oI (2 : Int32), oL (wc ^^^ (-1 : Int64)), .second] [(.int (128 : Int32))])
     refine own_st (fun _ => XS.lloadN X11.here hx rfl (hb hby own_d16_77) rfl) ?_
     show own_Rch _ _ _ _ T11 (mkF m 78 #[oR b, oI i, oI (2 : Int32), oL (wc ^^^ (-1 : Int64)), .second] [(.long (wc ^^^ (-1 : Int64))), (.int (128 : Int32))])
     obtain ⟨_, _, ⟨T23, L23, k23, n23⟩, -, X23, ⟨Lc23, hQ23, l23, y23, z23⟩, st23⟩ := Jvm.LawKit.callS X11 hx (y := (⟨"java/lang/Long", "numberOfTrailingZeros", "(J)I"⟩ : MethodName)) hown (mvT hZ (hw _ (own_m 87 rfl))) (mvT hZ (hw _ (own_m 88 rfl))) (mvT hZ (hw _ (own_m 75 rfl))) (mvT hZ (hw _ (own_m 89 rfl))) (by decide) (backOf (W := 1) (own_ntzL l Z a0 hw [] (wc ^^^ (-1 : Int64)) h0 n0 O0 (fun q => hc70_13 ((lw_eq _ _).mpr q))) hZ (hw _ (own_m 89 rfl)) (hw _ (own_m 75 rfl)) (by decide) (by decide)) (g := (mkF m 78 #[oR b, oI i, oI (2 : Int32), oL (wc ^^^ (-1 : Int64)), .second] [(.long (wc ^^^ (-1 : Int64))), (.int (128 : Int32))])) rfl (by rw [hml]; rfl) (argsL := [(.long (wc ^^^ (-1 : Int64)))]) (rest := [(.int (128 : Int32))]) (lenOf own_pd1 rfl) rfl (by show 2 * 0 + _ ≤ _; exact Nat.le_of_eq rfl) (hb hby own_d16_78) (fun _ _ => ⟨rfl, e11, (by decide : 0 + 0 ≤ _), (by decide : 0 + 0 ≤ _)⟩)
     dsimp only [Pt.U, Pt.locs, Pt.cells, Pt.slots] at X23 l23 y23 z23 st23 hQ23
     subst l23 y23 z23
     obtain ⟨rr23, rfl, N23q, hh23, hn23⟩ := hQ23
     have N23 := Fr.app N2 N23q
     refine own_st st23 ?_
     show own_Rch _ _ _ _ T23 (mkF m 81 #[oR b, oI i, oI (2 : Int32), oL (wc ^^^ (-1 : Int64)), .second] [(.int rr23), (.int (128 : Int32))])
     refine own_st (fun _ => XS.iadd X23.here hx rfl (hb hby own_d16_81) rfl) ?_
     show own_Rch _ _ _ _ T23 (mkF m 82 #[oR b, oI i, oI (2 : Int32), oL (wc ^^^ (-1 : Int64)), .second] [(.int ((128 : Int32) + rr23))])
     refine own_retI X23 hx Bd.notSynchronized Bd.returns (hb hby own_d16_82) (by decide) (by decide) ?_
     rw [hh23]
     obtain ⟨qk, qk63, qr, -⟩ := id hn23
     have r1 := own_sm (x := (128 : Int32)) (y := rr23) (show _ = (128 : Int) by decide) rfl (by omega) (by omega)
     refine ⟨_, rfl, N23, rfl, own_nextB (u := 2) (W := (own_w wa wb wc wd)) (q := 1) hi0 (own_wi hq (by decide)) (own_mhi (W := (own_w wa wb wc wd)) (q := 1) hi0) (by decide) ((lw_eq _ _).mp hc70_7) ?_ hn23 (by rw [r1]; omega)⟩
     intro v h1 h2; omega
  · -- pc 70: False
   refine own_st (fun _ => XS.ifNo X5.here hx rfl (hb hby own_d16_70) rfl ((if0 _ _).trans (feq hc70_7).1)) ?_
   show own_Rch _ _ _ _ T5 (mkF m 73 #[oR b, oI i, oI (1 : Int32), oL ((wb ^^^ (-1 : Int64)) &&& ((-1 : Int64) <<< (i &&& 0x3f).toInt64)), .second] [])
   refine own_st (fun _ => XS.iloadN X5.here hx rfl (hb hby own_d16_73) rfl) ?_
   show own_Rch _ _ _ _ T5 (mkF m 74 #[oR b, oI i, oI (1 : Int32), oL ((wb ^^^ (-1 : Int64)) &&& ((-1 : Int64) <<< (i &&& 0x3f).toInt64)), .second] [(.int (1 : Int32))])
   refine own_st (fun _ => XS.bipush X5.here hx rfl (hb hby own_d16_74)) ?_
   show own_Rch _ _ _ _ T5 (mkF m 76 #[oR b, oI i, oI (1 : Int32), oL ((wb ^^^ (-1 : Int64)) &&& ((-1 : Int64) <<< (i &&& 0x3f).toInt64)), .second] [(.int (64 : Int32)), (.int (1 : Int32))])
   refine own_st (fun _ => XS.imul X5.here hx rfl (hb hby own_d16_76) rfl) ?_
   show own_Rch _ _ _ _ T5 (mkF m 77 #[oR b, oI i, oI (1 : Int32), oL ((wb ^^^ (-1 : Int64)) &&& ((-1 : Int64) <<< (i &&& 0x3f).toInt64)), .second] [(.int (64 : Int32))])
   refine own_st (fun _ => XS.lloadN X5.here hx rfl (hb hby own_d16_77) rfl) ?_
   show own_Rch _ _ _ _ T5 (mkF m 78 #[oR b, oI i, oI (1 : Int32), oL ((wb ^^^ (-1 : Int64)) &&& ((-1 : Int64) <<< (i &&& 0x3f).toInt64)), .second] [(.long ((wb ^^^ (-1 : Int64)) &&& ((-1 : Int64) <<< (i &&& 0x3f).toInt64))), (.int (64 : Int32))])
   obtain ⟨_, _, ⟨T24, L24, k24, n24⟩, -, X24, ⟨Lc24, hQ24, l24, y24, z24⟩, st24⟩ := Jvm.LawKit.callS X5 hx (y := (⟨"java/lang/Long", "numberOfTrailingZeros", "(J)I"⟩ : MethodName)) hown (mvT hZ (hw _ (own_m 87 rfl))) (mvT hZ (hw _ (own_m 88 rfl))) (mvT hZ (hw _ (own_m 75 rfl))) (mvT hZ (hw _ (own_m 89 rfl))) (by decide) (backOf (W := 1) (own_ntzL l Z a0 hw [] ((wb ^^^ (-1 : Int64)) &&& ((-1 : Int64) <<< (i &&& 0x3f).toInt64)) h0 n0 O0 (fun q => hc70_7 ((lw_eq _ _).mpr q))) hZ (hw _ (own_m 89 rfl)) (hw _ (own_m 75 rfl)) (by decide) (by decide)) (g := (mkF m 78 #[oR b, oI i, oI (1 : Int32), oL ((wb ^^^ (-1 : Int64)) &&& ((-1 : Int64) <<< (i &&& 0x3f).toInt64)), .second] [(.long ((wb ^^^ (-1 : Int64)) &&& ((-1 : Int64) <<< (i &&& 0x3f).toInt64))), (.int (64 : Int32))])) rfl (by rw [hml]; rfl) (argsL := [(.long ((wb ^^^ (-1 : Int64)) &&& ((-1 : Int64) <<< (i &&& 0x3f).toInt64)))]) (rest := [(.int (64 : Int32))]) (lenOf own_pd1 rfl) rfl (by show 2 * 0 + _ ≤ _; exact Nat.le_of_eq rfl) (hb hby own_d16_78) (fun _ _ => ⟨rfl, e5, (by decide : 0 + 0 ≤ _), (by decide : 0 + 0 ≤ _)⟩)
   dsimp only [Pt.U, Pt.locs, Pt.cells, Pt.slots] at X24 l24 y24 z24 st24 hQ24
   subst l24 y24 z24
   obtain ⟨rr24, rfl, N24q, hh24, hn24⟩ := hQ24
   have N24 := Fr.app N2 N24q
   refine own_st st24 ?_
   show own_Rch _ _ _ _ T24 (mkF m 81 #[oR b, oI i, oI (1 : Int32), oL ((wb ^^^ (-1 : Int64)) &&& ((-1 : Int64) <<< (i &&& 0x3f).toInt64)), .second] [(.int rr24), (.int (64 : Int32))])
   refine own_st (fun _ => XS.iadd X24.here hx rfl (hb hby own_d16_81) rfl) ?_
   show own_Rch _ _ _ _ T24 (mkF m 82 #[oR b, oI i, oI (1 : Int32), oL ((wb ^^^ (-1 : Int64)) &&& ((-1 : Int64) <<< (i &&& 0x3f).toInt64)), .second] [(.int ((64 : Int32) + rr24))])
   refine own_retI X24 hx Bd.notSynchronized Bd.returns (hb hby own_d16_82) (by decide) (by decide) ?_
   rw [hh24]
   obtain ⟨qk, qk63, qr, -⟩ := id hn24
   have r1 := own_sm (x := (64 : Int32)) (y := rr24) (show _ = (64 : Int) by decide) rfl (by omega) (by omega)
   exact ⟨_, rfl, N24, rfl, own_nextA (W := (own_w wa wb wc wd)) (q := 1) hi0 (own_wi hq (by decide)) (own_mhi (W := (own_w wa wb wc wd)) (q := 1) hi0) hn24 (by rw [r1]; omega)⟩
 · -- pc 45: False
  refine own_st (fun _ => XS.icmpNo X3.here hx rfl (hb hby own_d16_45) rfl (flt hc45_4).1) ?_
  show own_Rch _ _ _ _ T3 (mkF m 48 #[oR b, oI i, oI (1 : Int32), .unset, .unset] [])
  refine own_st (fun _ => XS.iloadN X3.here hx rfl (hb hby own_d16_48) rfl) ?_
  show own_Rch _ _ _ _ T3 (mkF m 49 #[oR b, oI i, oI (1 : Int32), .unset, .unset] [(.int i)])
  refine own_retI X3 hx Bd.notSynchronized Bd.returns (hb hby own_d16_49) (by decide) (by decide) ?_
  rw [e3]
  rw [Int32.lt_iff_toInt_lt] at hc45_4
  exact ⟨_, rfl, N2, rfl, own_nextD (q := 1) hi0 (own_wi hq (by decide)) (own_W0 hW (by omega))⟩
set_option maxRecDepth 65536 in
set_option maxHeartbeats 40000000 in
theorem own_next2 (l : Launch) (Z : State) (a0 : Array Value) (hw : ∀ d ∈ tables_1, d.before a0 Z = true) (ws : List Jvm.Cond) (b : Addr) (y : Addr) (ka : ClassId) (wa : Int64) (wb : Int64) (wc : Int64) (wd : Int64) (nn : Int32) (i : Int32) (h0 : Heap) (n0 : Nat) (O0 : Old Z n0 h0) (SA : Sta Z Z.heap "java/util/BitSet" "$assertionsDisabled" "Z" (.int (1 : Int32))) (SS : own_St Z h0 b y ka wa wb wc wd nn) (hi0 : 0 ≤ i.toInt) (hi1 : i.toInt < 256) (hq : (i >>> ((6 : Int32) &&& 31)) = (2 : Int32)) :
    MetFree l (⟨"java/util/BitSet", "nextClearBit", "(I)I"⟩ : MethodName) (head1 (Jvm.Cond.code (⟨"java/util/BitSet", "nextClearBit", "(I)I"⟩ : MethodName) jdk_92_method_29_code 5 (some .int) :: ws) ({ frames := 3, cells := 0, slots := 0, locals := 100 } : Room)) (fun args_ U => args_ = #[(.ref b), (.int i)] ∧ Z.Warmed39 U.vm ∧ U.heap = h0) (fun _ _ _ _ _ => True) (fun _ U o U' => ∃ v L, o = .returned v ∧ (own_Q_i (fun r => own_nextP (own_w wa wb wc wd) i.toInt r.toInt) h0 n0) v U'.heap L ∧ FrameEnd U o U' L ({ frames := 3, cells := 0, slots := 0, locals := 100 } : Room).cells ({ frames := 3, cells := 0, slots := 0, locals := 100 } : Room).slots) := by
 refine MetFree.of_bodySF (plainFor_of_name own_pn0) hisR ?_
 intro p e s m args below meth c s₁ Bd hml0 hP hK
 obtain ⟨rfl, hZ, hh⟩ := hP
 have hx := Bd.exec
 have hby := Bd.bytes
 have hml : c.maxLocals = 5 := hml0
 have hown : s.vm.findClass "java/util/BitSet" = some m.cls := findClass_of_methodNamed Bd.named
 have hnm := (name_of_methodNamed Bd.named Bd.method).1
 have X0 : Stand p l e ({ frames := 3, cells := 0, slots := 0, locals := 100 } : Room) s m #[(.ref b), (.int i)] below meth c s₁ [] 0 0 := Stand.of_body Bd
 have e0 : s₁.heap = h0 := by rw [← hh, Bd.state]; rfl
 have N0 := Fr.nil n0
 obtain ⟨Eb, Fw, Fn, Va, hW⟩ := SS
 have ci0 : (0 : Int32).toInt = 0 := by decide
 have ci1 : (1 : Int32).toInt = 1 := by decide
 have ci2 : (2 : Int32).toInt = 2 := by decide
 have ci3 : (3 : Int32).toInt = 3 := by decide
 have ci4 : (4 : Int32).toInt = 4 := by decide
 have ci16 : (16 : Int32).toInt = 16 := by decide
 have ci256 : (256 : Int32).toInt = 256 := by decide
 have ci65536 : (65536 : Int32).toInt = 65536 := by decide
 refine own_close (s := s) (Q := (own_Q_i (fun r => own_nextP (own_w wa wb wc wd) i.toInt r.toInt) h0 n0)) (C := (({ frames := 3, cells := 0, slots := 0, locals := 100 } : Room)).cells) (N := (({ frames := 3, cells := 0, slots := 0, locals := 100 } : Room)).slots) (own_st (fun _ kt => castTop (own_ef16 m b i) kt) ?_)
 show own_Rch _ _ _ _ s₁ (mkF m 0 #[oR b, oI i, .unset, .unset, .unset] [])
 refine own_st (fun _ => XS.iloadN X0.here hx rfl (hb hby own_d16_0) rfl) ?_
 show own_Rch _ _ _ _ s₁ (mkF m 1 #[oR b, oI i, .unset, .unset, .unset] [(.int i)])
 refine own_st (fun _ => XS.ifYes X0.here hx rfl (pc0 := 1) (pc' := 31) rfl (hb hby own_d16_1) rfl ((if0 _ _).trans (flt ((own_nneg hi0) : ¬ (i < (0 : Int32)))).2.1) (by decide) (by decide)) ?_
 show own_Rch _ _ _ _ s₁ (mkF m 31 #[oR b, oI i, .unset, .unset, .unset] [])
 refine own_st (fun _ => XS.aloadN X0.here hx rfl (hb hby own_d16_31) rfl rfl) ?_
 show own_Rch _ _ _ _ s₁ (mkF m 32 #[oR b, oI i, .unset, .unset, .unset] [(.ref b)])
 obtain ⟨cq1, q1a, q1b⟩ := Eb.cell
 obtain ⟨_, _, ⟨T1, L1, k1, n1⟩, -, X1, ⟨Lc1, hQ1, l1, y1, z1⟩, st1⟩ := X0.privateBack hx (y := (⟨"java/util/BitSet", "checkInvariants", "()V"⟩ : MethodName)) hown (mvT hZ (hw _ (own_m 57 rfl))) (mvT hZ (hw _ (own_m 58 rfl))) (mvT hZ (hw _ (own_m 60 rfl))) (Cond.privateMethod_at (mvP hZ (hw _ (own_m 59 rfl)) (args := #[]))) (mvT hZ (hw _ (own_m 61 rfl))) (by decide) (backOf (W := 0) (own_ci l Z a0 hw [] b h0 n0 O0 SA) hZ (hw _ (own_m 61 rfl)) (hw _ (own_m 11 rfl)) (by decide) (by decide)) (g := (mkF m 32 #[oR b, oI i, .unset, .unset, .unset] [(.ref b)])) rfl (by rw [hml]; rfl) (Steps.refl _) (a := b) (by rw [e0]; exact q1a) q1b (argsL := []) (rest := []) (lenOf own_pd2 rfl) rfl (by show 2 * 0 + _ ≤ _; exact Nat.le_of_eq rfl) (hb hby own_d16_32) (fun _ _ => ⟨rfl, e0, (by decide : 0 + 0 ≤ _), (by decide : 0 + 0 ≤ _)⟩)
 dsimp only [Pt.U, Pt.locs, Pt.cells, Pt.slots] at X1 l1 y1 z1 st1 hQ1
 subst l1 y1 z1
 obtain ⟨rfl, N1q, hh1⟩ := hQ1
 have N1 := Fr.app N0 N1q
 refine own_st (fun _ => st1.trans) ?_
 show own_Rch _ _ _ _ T1 (mkF m 35 #[oR b, oI i, .unset, .unset, .unset] [])
 refine own_st (fun _ => XS.iloadN X1.here hx rfl (hb hby own_d16_35) rfl) ?_
 show own_Rch _ _ _ _ T1 (mkF m 36 #[oR b, oI i, .unset, .unset, .unset] [(.int i)])
 obtain ⟨_, _, ⟨T2, L2, k2, n2⟩, -, X2, ⟨Lc2, hQ2, l2, y2, z2⟩, st2⟩ := Jvm.LawKit.callS X1 hx (y := (⟨"java/util/BitSet", "wordIndex", "(I)I"⟩ : MethodName)) hown (mvT hZ (hw _ (own_m 25 rfl))) (mvT hZ (hw _ (own_m 26 rfl))) (mvT hZ (hw _ (own_m 11 rfl))) (mvT hZ (hw _ (own_m 27 rfl))) (by decide) (backOf (W := 0) (own_wordIndex l Z a0 hw [] i (2 : Int32) h0 n0 O0 hq) hZ (hw _ (own_m 27 rfl)) (hw _ (own_m 11 rfl)) (by decide) (by decide)) (g := (mkF m 36 #[oR b, oI i, .unset, .unset, .unset] [(.int i)])) rfl (by rw [hml]; rfl) (argsL := [(.int i)]) (rest := []) (lenOf own_pd0 rfl) rfl (by show 2 * 0 + _ ≤ _; exact Nat.le_of_eq rfl) (hb hby own_d16_36) (fun _ _ => ⟨rfl, hh1, (by decide : 0 + 0 ≤ _), (by decide : 0 + 0 ≤ _)⟩)
 dsimp only [Pt.U, Pt.locs, Pt.cells, Pt.slots] at X2 l2 y2 z2 st2 hQ2
 subst l2 y2 z2
 obtain ⟨rfl, N2q, hh2⟩ := hQ2
 have N2 := Fr.app N1 N2q
 refine own_st st2 ?_
 show own_Rch _ _ _ _ T2 (mkF m 39 #[oR b, oI i, .unset, .unset, .unset] [(.int (2 : Int32))])
 refine own_st (fun _ => XS.istoreN X2.here hx rfl (hb hby own_d16_39) rfl (l' := #[oR b, oI i, oI (2 : Int32), .unset, .unset]) rfl) ?_
 show own_Rch _ _ _ _ T2 (mkF m 40 #[oR b, oI i, oI (2 : Int32), .unset, .unset] [])
 refine own_st (fun _ => XS.iloadN X2.here hx rfl (hb hby own_d16_40) rfl) ?_
 show own_Rch _ _ _ _ T2 (mkF m 41 #[oR b, oI i, oI (2 : Int32), .unset, .unset] [(.int (2 : Int32))])
 refine own_st (fun _ => XS.aloadN X2.here hx rfl (hb hby own_d16_41) rfl rfl) ?_
 show own_Rch _ _ _ _ T2 (mkF m 42 #[oR b, oI i, oI (2 : Int32), .unset, .unset] [(.ref b), (.int (2 : Int32))])
 obtain ⟨T3, X3, e3, st3⟩ := getF X2 hx hZ hown (host := "") (Or.inl (hw _ (own_m 16 rfl))) Via.refl hh2 Fn (g := (mkF m 42 #[oR b, oI i, oI (2 : Int32), .unset, .unset] [(.ref b), (.int (2 : Int32))])) rfl rfl (hb hby own_d16_42)
 refine own_st st3 ?_
 show own_Rch _ _ _ _ T3 (mkF m 45 #[oR b, oI i, oI (2 : Int32), .unset, .unset] [(.int nn), (.int (2 : Int32))])
 by_cases hc45_4 : (2 : Int32) < nn
 · -- pc 45: True
  refine own_st (fun _ => XS.icmpYes X3.here hx rfl (pc0 := 45) (pc' := 50) rfl (hb hby own_d16_45) rfl (tlt hc45_4).1 (by decide) (by decide)) ?_
  show own_Rch _ _ _ _ T3 (mkF m 50 #[oR b, oI i, oI (2 : Int32), .unset, .unset] [])
  refine own_st (fun _ => XS.aloadN X3.here hx rfl (hb hby own_d16_50) rfl rfl) ?_
  show own_Rch _ _ _ _ T3 (mkF m 51 #[oR b, oI i, oI (2 : Int32), .unset, .unset] [(.ref b)])
  obtain ⟨T5, X5, e5, st5⟩ := getF X3 hx hZ hown (host := "") (Or.inl (hw _ (own_m 29 rfl))) Via.refl e3 Fw (g := (mkF m 51 #[oR b, oI i, oI (2 : Int32), .unset, .unset] [(.ref b)])) rfl rfl (hb hby own_d16_51)
  refine own_st st5 ?_
  show own_Rch _ _ _ _ T5 (mkF m 54 #[oR b, oI i, oI (2 : Int32), .unset, .unset] [(.ref y)])
  refine own_st (fun _ => XS.iloadN X5.here hx rfl (hb hby own_d16_54) rfl) ?_
  show own_Rch _ _ _ _ T5 (mkF m 55 #[oR b, oI i, oI (2 : Int32), .unset, .unset] [(.int (2 : Int32)), (.ref y)])
  obtain ⟨cl6, Ar6, q6, S6, M6, H6, G6⟩ := id Va
  have hin6 : ¬ ((2 : Int32) < 0 ∨ cl6.slots.size ≤ ((2 : Int32)).toNatClampNeg) := inb_of S6 ⟨by decide, by decide⟩
  refine own_st (X5.laload hx (j := (2 : Int32)) (v := (.long wc)) (by rw [e5]; exact Ar6.1) (State.isArrayOf_alike (hZ).alike Ar6.2.1) Ar6.2.2 hin6 (H6.at hin6 rfl) (g := (mkF m 55 #[oR b, oI i, oI (2 : Int32), .unset, .unset] [(.int (2 : Int32)), (.ref y)])) rfl rfl (hb hby own_d16_55)) ?_
  show own_Rch _ _ _ _ T5 (mkF m 56 #[oR b, oI i, oI (2 : Int32), .unset, .unset] [(.long wc)])
  refine own_st (X5.ldc2Long hx hown (mvT hZ (hw _ (own_m 56 rfl))) (g := (mkF m 56 #[oR b, oI i, oI (2 : Int32), .unset, .unset] [(.long wc)])) rfl (hb hby own_d16_56)) ?_
  show own_Rch _ _ _ _ T5 (mkF m 59 #[oR b, oI i, oI (2 : Int32), .unset, .unset] [(.long (-1 : Int64)), (.long wc)])
  refine own_st (fun _ => XS.lxor X5.here hx rfl (hb hby own_d16_59) rfl) ?_
  show own_Rch _ _ _ _ T5 (mkF m 60 #[oR b, oI i, oI (2 : Int32), .unset, .unset] [(.long (wc ^^^ (-1 : Int64)))])
  refine own_st (X5.ldc2Long hx hown (mvT hZ (hw _ (own_m 56 rfl))) (g := (mkF m 60 #[oR b, oI i, oI (2 : Int32), .unset, .unset] [(.long (wc ^^^ (-1 : Int64)))])) rfl (hb hby own_d16_60)) ?_
  show own_Rch _ _ _ _ T5 (mkF m 63 #[oR b, oI i, oI (2 : Int32), .unset, .unset] [(.long (-1 : Int64)), (.long (wc ^^^ (-1 : Int64)))])
  refine own_st (fun _ => XS.iloadN X5.here hx rfl (hb hby own_d16_63) rfl) ?_
  show own_Rch _ _ _ _ T5 (mkF m 64 #[oR b, oI i, oI (2 : Int32), .unset, .unset] [(.int i), (.long (-1 : Int64)), (.long (wc ^^^ (-1 : Int64)))])
  refine own_st (fun _ => XS.lshl X5.here hx rfl (hb hby own_d16_64) rfl) ?_
  show own_Rch _ _ _ _ T5 (mkF m 65 #[oR b, oI i, oI (2 : Int32), .unset, .unset] [(.long ((-1 : Int64) <<< (i &&& 0x3f).toInt64)), (.long (wc ^^^ (-1 : Int64)))])
  refine own_st (fun _ => XS.land X5.here hx rfl (hb hby own_d16_65) rfl) ?_
  show own_Rch _ _ _ _ T5 (mkF m 66 #[oR b, oI i, oI (2 : Int32), .unset, .unset] [(.long ((wc ^^^ (-1 : Int64)) &&& ((-1 : Int64) <<< (i &&& 0x3f).toInt64)))])
  refine own_st (fun _ => XS.lstoreN X5.here hx rfl (hb hby own_d16_66) rfl (l' := #[oR b, oI i, oI (2 : Int32), oL ((wc ^^^ (-1 : Int64)) &&& ((-1 : Int64) <<< (i &&& 0x3f).toInt64)), .second]) rfl) ?_
  show own_Rch _ _ _ _ T5 (mkF m 67 #[oR b, oI i, oI (2 : Int32), oL ((wc ^^^ (-1 : Int64)) &&& ((-1 : Int64) <<< (i &&& 0x3f).toInt64)), .second] [])
  refine own_st (fun _ => XS.lloadN X5.here hx rfl (hb hby own_d16_67) rfl) ?_
  show own_Rch _ _ _ _ T5 (mkF m 68 #[oR b, oI i, oI (2 : Int32), oL ((wc ^^^ (-1 : Int64)) &&& ((-1 : Int64) <<< (i &&& 0x3f).toInt64)), .second] [(.long ((wc ^^^ (-1 : Int64)) &&& ((-1 : Int64) <<< (i &&& 0x3f).toInt64)))])
  refine own_st (fun _ => XS.lconst X5.here hx rfl (hb hby own_d16_68)) ?_
  show own_Rch _ _ _ _ T5 (mkF m 69 #[oR b, oI i, oI (2 : Int32), oL ((wc ^^^ (-1 : Int64)) &&& ((-1 : Int64) <<< (i &&& 0x3f).toInt64)), .second] [(.long (0 : Int64)), (.long ((wc ^^^ (-1 : Int64)) &&& ((-1 : Int64) <<< (i &&& 0x3f).toInt64)))])
  refine own_st (fun _ => XS.lcmp X5.here hx rfl (hb hby own_d16_69) rfl) ?_
  show own_Rch _ _ _ _ T5 (mkF m 70 #[oR b, oI i, oI (2 : Int32), oL ((wc ^^^ (-1 : Int64)) &&& ((-1 : Int64) <<< (i &&& 0x3f).toInt64)), .second] [(.int (lcmpW ((wc ^^^ (-1 : Int64)) &&& ((-1 : Int64) <<< (i &&& 0x3f).toInt64)) (0 : Int64)))])
  by_cases hc70_7 : (lcmpW ((wc ^^^ (-1 : Int64)) &&& ((-1 : Int64) <<< (i &&& 0x3f).toInt64)) (0 : Int64)) = (0 : Int32)
  · -- pc 70: True
   refine own_st (fun _ => XS.ifYes X5.here hx rfl (pc0 := 70) (pc' := 83) rfl (hb hby own_d16_70) rfl ((if0 _ _).trans (teq hc70_7).1) (by decide) (by decide)) ?_
   show own_Rch _ _ _ _ T5 (mkF m 83 #[oR b, oI i, oI (2 : Int32), oL ((wc ^^^ (-1 : Int64)) &&& ((-1 : Int64) <<< (i &&& 0x3f).toInt64)), .second] [])
   refine own_st (fun _ => XS.iinc X5.here hx rfl (hb hby own_d16_83) rfl (l' := #[oR b, oI i, oI (3 : Int32), oL ((wc ^^^ (-1 : Int64)) &&& ((-1 : Int64) <<< (i &&& 0x3f).toInt64)), .second]) rfl) ?_
   show own_Rch _ _ _ _ T5 (mkF m 86 #[oR b, oI i, oI (3 : Int32), oL ((wc ^^^ (-1 : Int64)) &&& ((-1 : Int64) <<< (i &&& 0x3f).toInt64)), .second] [])
   refine own_st (fun _ => XS.iloadN X5.here hx rfl (hb hby own_d16_86) rfl) ?_
   show own_Rch _ _ _ _ T5 (mkF m 87 #[oR b, oI i, oI (3 : Int32), oL ((wc ^^^ (-1 : Int64)) &&& ((-1 : Int64) <<< (i &&& 0x3f).toInt64)), .second] [(.int (3 : Int32))])
   refine own_st (fun _ => XS.aloadN X5.here hx rfl (hb hby own_d16_87) rfl rfl) ?_
   show own_Rch _ _ _ _ T5 (mkF m 88 #[oR b, oI i, oI (3 : Int32), oL ((wc ^^^ (-1 : Int64)) &&& ((-1 : Int64) <<< (i &&& 0x3f).toInt64)), .second] [(.ref b), (.int (3 : Int32))])
   obtain ⟨T8, X8, e8, st8⟩ := getF X5 hx hZ hown (host := "") (Or.inl (hw _ (own_m 16 rfl))) Via.refl e5 Fn (g := (mkF m 88 #[oR b, oI i, oI (3 : Int32), oL ((wc ^^^ (-1 : Int64)) &&& ((-1 : Int64) <<< (i &&& 0x3f).toInt64)), .second] [(.ref b), (.int (3 : Int32))])) rfl rfl (hb hby own_d16_88)
   refine own_st st8 ?_
   show own_Rch _ _ _ _ T8 (mkF m 91 #[oR b, oI i, oI (3 : Int32), oL ((wc ^^^ (-1 : Int64)) &&& ((-1 : Int64) <<< (i &&& 0x3f).toInt64)), .second] [(.int nn), (.int (3 : Int32))])
   by_cases hc91_9 : (3 : Int32) = nn
   · -- pc 91: True
    refine own_st (fun _ => XS.icmpNo X8.here hx rfl (hb hby own_d16_91) rfl (teq hc91_9).2) ?_
    show own_Rch _ _ _ _ T8 (mkF m 94 #[oR b, oI i, oI (3 : Int32), oL ((wc ^^^ (-1 : Int64)) &&& ((-1 : Int64) <<< (i &&& 0x3f).toInt64)), .second] [])
    refine own_st (fun _ => XS.aloadN X8.here hx rfl (hb hby own_d16_94) rfl rfl) ?_
    show own_Rch _ _ _ _ T8 (mkF m 95 #[oR b, oI i, oI (3 : Int32), oL ((wc ^^^ (-1 : Int64)) &&& ((-1 : Int64) <<< (i &&& 0x3f).toInt64)), .second] [(.ref b)])
    obtain ⟨T10, X10, e10, st10⟩ := getF X8 hx hZ hown (host := "") (Or.inl (hw _ (own_m 16 rfl))) Via.refl e8 Fn (g := (mkF m 95 #[oR b, oI i, oI (3 : Int32), oL ((wc ^^^ (-1 : Int64)) &&& ((-1 : Int64) <<< (i &&& 0x3f).toInt64)), .second] [(.ref b)])) rfl rfl (hb hby own_d16_95)
    refine own_st st10 ?_
    show own_Rch _ _ _ _ T10 (mkF m 98 #[oR b, oI i, oI (3 : Int32), oL ((wc ^^^ (-1 : Int64)) &&& ((-1 : Int64) <<< (i &&& 0x3f).toInt64)), .second] [(.int nn)])
    refine own_st (fun _ => XS.bipush X10.here hx rfl (hb hby own_d16_98)) ?_
    show own_Rch _ _ _ _ T10 (mkF m 100 #[oR b, oI i, oI (3 : Int32), oL ((wc ^^^ (-1 : Int64)) &&& ((-1 : Int64) <<< (i &&& 0x3f).toInt64)), .second] [(.int (64 : Int32)), (.int nn)])
    refine own_st (fun _ => XS.imul X10.here hx rfl (hb hby own_d16_100) rfl) ?_
    show own_Rch _ _ _ _ T10 (mkF m 101 #[oR b, oI i, oI (3 : Int32), oL ((wc ^^^ (-1 : Int64)) &&& ((-1 : Int64) <<< (i &&& 0x3f).toInt64)), .second] [(.int (nn * (64 : Int32)))])
    refine own_retI X10 hx Bd.notSynchronized Bd.returns (hb hby own_d16_101) (by decide) (by decide) ?_
    rw [e10]
    have h91 : (3 : Int32) = nn := hc91_9
    refine ⟨_, rfl, N2, rfl, own_nextC (u := 3) (W := (own_w wa wb wc wd)) (q := 2) hi0 (own_wi hq (by decide)) (own_mhi (W := (own_w wa wb wc wd)) (q := 2) hi0) (by decide) ((lw_eq _ _).mp hc70_7) ?_ (own_W0 hW (by rw [← h91]; decide)) (by rw [← h91]; decide)⟩
    intro v h1 h2; omega
   · -- pc 91: False
    refine own_st (fun _ => XS.icmpYes X8.here hx rfl (pc0 := 91) (pc' := 102) rfl (hb hby own_d16_91) rfl (feq hc91_9).2 (by decide) (by decide)) ?_
    show own_Rch _ _ _ _ T8 (mkF m 102 #[oR b, oI i, oI (3 : Int32), oL ((wc ^^^ (-1 : Int64)) &&& ((-1 : Int64) <<< (i &&& 0x3f).toInt64)), .second] [])
    refine own_st (fun _ => XS.aloadN X8.here hx rfl (hb hby own_d16_102) rfl rfl) ?_
    show own_Rch _ _ _ _ T8 (mkF m 103 #[oR b, oI i, oI (3 : Int32), oL ((wc ^^^ (-1 : Int64)) &&& ((-1 : Int64) <<< (i &&& 0x3f).toInt64)), .second] [(.ref b)])
    obtain ⟨T11, X11, e11, st11⟩ := getF X8 hx hZ hown (host := "") (Or.inl (hw _ (own_m 29 rfl))) Via.refl e8 Fw (g := (mkF m 103 #[oR b, oI i, oI (3 : Int32), oL ((wc ^^^ (-1 : Int64)) &&& ((-1 : Int64) <<< (i &&& 0x3f).toInt64)), .second] [(.ref b)])) rfl rfl (hb hby own_d16_103)
    refine own_st st11 ?_
    show own_Rch _ _ _ _ T11 (mkF m 106 #[oR b, oI i, oI (3 : Int32), oL ((wc ^^^ (-1 : Int64)) &&& ((-1 : Int64) <<< (i &&& 0x3f).toInt64)), .second] [(.ref y)])
    refine own_st (fun _ => XS.iloadN X11.here hx rfl (hb hby own_d16_106) rfl) ?_
    show own_Rch _ _ _ _ T11 (mkF m 107 #[oR b, oI i, oI (3 : Int32), oL ((wc ^^^ (-1 : Int64)) &&& ((-1 : Int64) <<< (i &&& 0x3f).toInt64)), .second] [(.int (3 : Int32)), (.ref y)])
    obtain ⟨cl12, Ar12, q12, S12, M12, H12, G12⟩ := id Va
    have hin12 : ¬ ((3 : Int32) < 0 ∨ cl12.slots.size ≤ ((3 : Int32)).toNatClampNeg) := inb_of S12 ⟨by decide, by decide⟩
    refine own_st (X11.laload hx (j := (3 : Int32)) (v := (.long wd)) (by rw [e11]; exact Ar12.1) (State.isArrayOf_alike (hZ).alike Ar12.2.1) Ar12.2.2 hin12 (H12.at hin12 rfl) (g := (mkF m 107 #[oR b, oI i, oI (3 : Int32), oL ((wc ^^^ (-1 : Int64)) &&& ((-1 : Int64) <<< (i &&& 0x3f).toInt64)), .second] [(.int (3 : Int32)), (.ref y)])) rfl rfl (hb hby own_d16_107)) ?_
    show own_Rch _ _ _ _ T11 (mkF m 108 #[oR b, oI i, oI (3 : Int32), oL ((wc ^^^ (-1 : Int64)) &&& ((-1 : Int64) <<< (i &&& 0x3f).toInt64)), .second] [(.long wd)])
    refine own_st (X11.ldc2Long hx hown (mvT hZ (hw _ (own_m 56 rfl))) (g := (mkF m 108 #[oR b, oI i, oI (3 : Int32), oL ((wc ^^^ (-1 : Int64)) &&& ((-1 : Int64) <<< (i &&& 0x3f).toInt64)), .second] [(.long wd)])) rfl (hb hby own_d16_108)) ?_
    show own_Rch _ _ _ _ T11 (mkF m 111 #[oR b, oI i, oI (3 : Int32), oL ((wc ^^^ (-1 : Int64)) &&& ((-1 : Int64) <<< (i &&& 0x3f).toInt64)), .second] [(.long (-1 : Int64)), (.long wd)])
    refine own_st (fun _ => XS.lxor X11.here hx rfl (hb hby own_d16_111) rfl) ?_
    show own_Rch _ _ _ _ T11 (mkF m 112 #[oR b, oI i, oI (3 : Int32), oL ((wc ^^^ (-1 : Int64)) &&& ((-1 : Int64) <<< (i &&& 0x3f).toInt64)), .second] [(.long (wd ^^^ (-1 : Int64)))])
    refine own_st (fun _ => XS.lstoreN X11.here hx rfl (hb hby own_d16_112) rfl (l' := #[oR b, oI i, oI (3 : Int32), oL (wd ^^^ (-1 : Int64)), .second]) rfl) ?_
    show own_Rch _ _ _ _ T11 (mkF m 113 #[oR b, oI i, oI (3 : Int32), oL (wd ^^^ (-1 : Int64)), .second] [])
    refine own_st (fun _ => XS.goto X11.here hx rfl (pc0 := 113) (pc' := 67) rfl (hb hby own_d16_113) (by decide) (by decide)) ?_
    show own_Rch _ _ _ _ T11 (mkF m 67 #[oR b, oI i, oI (3 : Int32), oL (wd ^^^ (-1 : Int64)), .second] [])
    refine own_st (fun _ => XS.lloadN X11.here hx rfl (hb hby own_d16_67) rfl) ?_
    show own_Rch _ _ _ _ T11 (mkF m 68 #[oR b, oI i, oI (3 : Int32), oL (wd ^^^ (-1 : Int64)), .second] [(.long (wd ^^^ (-1 : Int64)))])
    refine own_st (fun _ => XS.lconst X11.here hx rfl (hb hby own_d16_68)) ?_
    show own_Rch _ _ _ _ T11 (mkF m 69 #[oR b, oI i, oI (3 : Int32), oL (wd ^^^ (-1 : Int64)), .second] [(.long (0 : Int64)), (.long (wd ^^^ (-1 : Int64)))])
    refine own_st (fun _ => XS.lcmp X11.here hx rfl (hb hby own_d16_69) rfl) ?_
    show own_Rch _ _ _ _ T11 (mkF m 70 #[oR b, oI i, oI (3 : Int32), oL (wd ^^^ (-1 : Int64)), .second] [(.int (lcmpW (wd ^^^ (-1 : Int64)) (0 : Int64)))])
    by_cases hc70_13 : (lcmpW (wd ^^^ (-1 : Int64)) (0 : Int64)) = (0 : Int32)
    · -- pc 70: True
     refine own_st (fun _ => XS.ifYes X11.here hx rfl (pc0 := 70) (pc' := 83) rfl (hb hby own_d16_70) rfl ((if0 _ _).trans (teq hc70_13).1) (by decide) (by decide)) ?_
     show own_Rch _ _ _ _ T11 (mkF m 83 #[oR b, oI i, oI (3 : Int32), oL (wd ^^^ (-1 : Int64)), .second] [])
     refine own_st (fun _ => XS.iinc X11.here hx rfl (hb hby own_d16_83) rfl (l' := #[oR b, oI i, oI (4 : Int32), oL (wd ^^^ (-1 : Int64)), .second]) rfl) ?_
     show own_Rch _ _ _ _ T11 (mkF m 86 #[oR b, oI i, oI (4 : Int32), oL (wd ^^^ (-1 : Int64)), .second] [])
     refine own_st (fun _ => XS.iloadN X11.here hx rfl (hb hby own_d16_86) rfl) ?_
     show own_Rch _ _ _ _ T11 (mkF m 87 #[oR b, oI i, oI (4 : Int32), oL (wd ^^^ (-1 : Int64)), .second] [(.int (4 : Int32))])
     refine own_st (fun _ => XS.aloadN X11.here hx rfl (hb hby own_d16_87) rfl rfl) ?_
     show own_Rch _ _ _ _ T11 (mkF m 88 #[oR b, oI i, oI (4 : Int32), oL (wd ^^^ (-1 : Int64)), .second] [(.ref b), (.int (4 : Int32))])
     obtain ⟨T14, X14, e14, st14⟩ := getF X11 hx hZ hown (host := "") (Or.inl (hw _ (own_m 16 rfl))) Via.refl e11 Fn (g := (mkF m 88 #[oR b, oI i, oI (4 : Int32), oL (wd ^^^ (-1 : Int64)), .second] [(.ref b), (.int (4 : Int32))])) rfl rfl (hb hby own_d16_88)
     refine own_st st14 ?_
     show own_Rch _ _ _ _ T14 (mkF m 91 #[oR b, oI i, oI (4 : Int32), oL (wd ^^^ (-1 : Int64)), .second] [(.int nn), (.int (4 : Int32))])
     refine own_st (fun _ => XS.icmpNo X14.here hx rfl (hb hby own_d16_91) rfl (teq ((by rw [← Int32.toInt_inj]; have a1 := hW.1; have a2 := Int32.lt_iff_toInt_lt.mp hc45_4; have b0 : ¬ (3 : Int32).toInt = nn.toInt := fun t => hc91_9 (Int32.toInt_inj.mp t); omega) : (4 : Int32) = nn)).2) ?_
     show own_Rch _ _ _ _ T14 (mkF m 94 #[oR b, oI i, oI (4 : Int32), oL (wd ^^^ (-1 : Int64)), .second] [])
     refine own_st (fun _ => XS.aloadN X14.here hx rfl (hb hby own_d16_94) rfl rfl) ?_
     show own_Rch _ _ _ _ T14 (mkF m 95 #[oR b, oI i, oI (4 : Int32), oL (wd ^^^ (-1 : Int64)), .second] [(.ref b)])
     obtain ⟨T15, X15, e15, st15⟩ := getF X14 hx hZ hown (host := "") (Or.inl (hw _ (own_m 16 rfl))) Via.refl e14 Fn (g := (mkF m 95 #[oR b, oI i, oI (4 : Int32), oL (wd ^^^ (-1 : Int64)), .second] [(.ref b)])) rfl rfl (hb hby own_d16_95)
     refine own_st st15 ?_
     show own_Rch _ _ _ _ T15 (mkF m 98 #[oR b, oI i, oI (4 : Int32), oL (wd ^^^ (-1 : Int64)), .second] [(.int nn)])
     refine own_st (fun _ => XS.bipush X15.here hx rfl (hb hby own_d16_98)) ?_
     show own_Rch _ _ _ _ T15 (mkF m 100 #[oR b, oI i, oI (4 : Int32), oL (wd ^^^ (-1 : Int64)), .second] [(.int (64 : Int32)), (.int nn)])
     refine own_st (fun _ => XS.imul X15.here hx rfl (hb hby own_d16_100) rfl) ?_
     show own_Rch _ _ _ _ T15 (mkF m 101 #[oR b, oI i, oI (4 : Int32), oL (wd ^^^ (-1 : Int64)), .second] [(.int (nn * (64 : Int32)))])
     refine own_retI X15 hx Bd.notSynchronized Bd.returns (hb hby own_d16_101) (by decide) (by decide) ?_
     rw [e15]
     have h91 : (4 : Int32) = nn := (by rw [← Int32.toInt_inj]; have a1 := hW.1; have a2 := Int32.lt_iff_toInt_lt.mp hc45_4; have b0 : ¬ (3 : Int32).toInt = nn.toInt := fun t => hc91_9 (Int32.toInt_inj.mp t); omega)
     refine ⟨_, rfl, N2, rfl, own_nextC (u := 4) (W := (own_w wa wb wc wd)) (q := 2) hi0 (own_wi hq (by decide)) (own_mhi (W := (own_w wa wb wc wd)) (q := 2) hi0) (by decide) ((lw_eq _ _).mp hc70_7) ?_ (own_W0 hW (by rw [← h91]; decide)) (by rw [← h91]; decide)⟩
     intro v h1 h2
     rcases (by omega : v = 3) with rfl
     · exact (lw_eq _ _).mp hc70_13
    · -- pc 70: False
     refine own_st (fun _ => XS.ifNo X11.here hx rfl (hb hby own_d16_70) rfl ((if0 _ _).trans (feq hc70_13).1)) ?_
     show own_Rch _ _ _ _ T11 (mkF m 73 #[oR b, oI i, oI (3 : Int32), oL (wd ^^^ (-1 : Int64)), .second] [])
     refine own_st (fun _ => XS.iloadN X11.here hx rfl (hb hby own_d16_73) rfl) ?_
     show own_Rch _ _ _ _ T11 (mkF m 74 #[oR b, oI i, oI (3 : Int32), oL (wd ^^^ (-1 : Int64)), .second] [(.int (3 : Int32))])
     refine own_st (fun _ => XS.bipush X11.here hx rfl (hb hby own_d16_74)) ?_
     show own_Rch _ _ _ _ T11 (mkF m 76 #[oR b, oI i, oI (3 : Int32), oL (wd ^^^ (-1 : Int64)), .second] [(.int (64 : Int32)), (.int (3 : Int32))])
     refine own_st (fun _ => XS.imul X11.here hx rfl (hb hby own_d16_76) rfl) ?_
     show own_Rch _ _ _ _ T11 (mkF m 77 #[oR b, oI i, oI (3 : Int32), oL (wd ^^^ (-1 : Int64)), .second] [(.int (192 : Int32))])
     refine own_st (fun _ => XS.lloadN X11.here hx rfl (hb hby own_d16_77) rfl) ?_
     show own_Rch _ _ _ _ T11 (mkF m 78 #[oR b, oI i, oI (3 : Int32), oL (wd ^^^ (-1 : Int64)), .second] [(.long (wd ^^^ (-1 : Int64))), (.int (192 : Int32))])
     obtain ⟨_, _, ⟨T16, L16, k16, n16⟩, -, X16, ⟨Lc16, hQ16, l16, y16, z16⟩, st16⟩ := Jvm.LawKit.callS X11 hx (y := (⟨"java/lang/Long", "numberOfTrailingZeros", "(J)I"⟩ : MethodName)) hown (mvT hZ (hw _ (own_m 87 rfl))) (mvT hZ (hw _ (own_m 88 rfl))) (mvT hZ (hw _ (own_m 75 rfl))) (mvT hZ (hw _ (own_m 89 rfl))) (by decide) (backOf (W := 1) (own_ntzL l Z a0 hw [] (wd ^^^ (-1 : Int64)) h0 n0 O0 (fun q => hc70_13 ((lw_eq _ _).mpr q))) hZ (hw _ (own_m 89 rfl)) (hw _ (own_m 75 rfl)) (by decide) (by decide)) (g := (mkF m 78 #[oR b, oI i, oI (3 : Int32), oL (wd ^^^ (-1 : Int64)), .second] [(.long (wd ^^^ (-1 : Int64))), (.int (192 : Int32))])) rfl (by rw [hml]; rfl) (argsL := [(.long (wd ^^^ (-1 : Int64)))]) (rest := [(.int (192 : Int32))]) (lenOf own_pd1 rfl) rfl (by show 2 * 0 + _ ≤ _; exact Nat.le_of_eq rfl) (hb hby own_d16_78) (fun _ _ => ⟨rfl, e11, (by decide : 0 + 0 ≤ _), (by decide : 0 + 0 ≤ _)⟩)
     dsimp only [Pt.U, Pt.locs, Pt.cells, Pt.slots] at X16 l16 y16 z16 st16 hQ16
     subst l16 y16 z16
     obtain ⟨rr16, rfl, N16q, hh16, hn16⟩ := hQ16
     have N16 := Fr.app N2 N16q
     refine own_st st16 ?_
     show own_Rch _ _ _ _ T16 (mkF m 81 #[oR b, oI i, oI (3 : Int32), oL (wd ^^^ (-1 : Int64)), .second] [(.int rr16), (.int (192 : Int32))])
     refine own_st (fun _ => XS.iadd X16.here hx rfl (hb hby own_d16_81) rfl) ?_
     show own_Rch _ _ _ _ T16 (mkF m 82 #[oR b, oI i, oI (3 : Int32), oL (wd ^^^ (-1 : Int64)), .second] [(.int ((192 : Int32) + rr16))])
     refine own_retI X16 hx Bd.notSynchronized Bd.returns (hb hby own_d16_82) (by decide) (by decide) ?_
     rw [hh16]
     obtain ⟨qk, qk63, qr, -⟩ := id hn16
     have r1 := own_sm (x := (192 : Int32)) (y := rr16) (show _ = (192 : Int) by decide) rfl (by omega) (by omega)
     refine ⟨_, rfl, N16, rfl, own_nextB (u := 3) (W := (own_w wa wb wc wd)) (q := 2) hi0 (own_wi hq (by decide)) (own_mhi (W := (own_w wa wb wc wd)) (q := 2) hi0) (by decide) ((lw_eq _ _).mp hc70_7) ?_ hn16 (by rw [r1]; omega)⟩
     intro v h1 h2; omega
  · -- pc 70: False
   refine own_st (fun _ => XS.ifNo X5.here hx rfl (hb hby own_d16_70) rfl ((if0 _ _).trans (feq hc70_7).1)) ?_
   show own_Rch _ _ _ _ T5 (mkF m 73 #[oR b, oI i, oI (2 : Int32), oL ((wc ^^^ (-1 : Int64)) &&& ((-1 : Int64) <<< (i &&& 0x3f).toInt64)), .second] [])
   refine own_st (fun _ => XS.iloadN X5.here hx rfl (hb hby own_d16_73) rfl) ?_
   show own_Rch _ _ _ _ T5 (mkF m 74 #[oR b, oI i, oI (2 : Int32), oL ((wc ^^^ (-1 : Int64)) &&& ((-1 : Int64) <<< (i &&& 0x3f).toInt64)), .second] [(.int (2 : Int32))])
   refine own_st (fun _ => XS.bipush X5.here hx rfl (hb hby own_d16_74)) ?_
   show own_Rch _ _ _ _ T5 (mkF m 76 #[oR b, oI i, oI (2 : Int32), oL ((wc ^^^ (-1 : Int64)) &&& ((-1 : Int64) <<< (i &&& 0x3f).toInt64)), .second] [(.int (64 : Int32)), (.int (2 : Int32))])
   refine own_st (fun _ => XS.imul X5.here hx rfl (hb hby own_d16_76) rfl) ?_
   show own_Rch _ _ _ _ T5 (mkF m 77 #[oR b, oI i, oI (2 : Int32), oL ((wc ^^^ (-1 : Int64)) &&& ((-1 : Int64) <<< (i &&& 0x3f).toInt64)), .second] [(.int (128 : Int32))])
   refine own_st (fun _ => XS.lloadN X5.here hx rfl (hb hby own_d16_77) rfl) ?_
   show own_Rch _ _ _ _ T5 (mkF m 78 #[oR b, oI i, oI (2 : Int32), oL ((wc ^^^ (-1 : Int64)) &&& ((-1 : Int64) <<< (i &&& 0x3f).toInt64)), .second] [(.long ((wc ^^^ (-1 : Int64)) &&& ((-1 : Int64) <<< (i &&& 0x3f).toInt64))), (.int (128 : Int32))])
   obtain ⟨_, _, ⟨T17, L17, k17, n17⟩, -, X17, ⟨Lc17, hQ17, l17, y17, z17⟩, st17⟩ := Jvm.LawKit.callS X5 hx (y := (⟨"java/lang/Long", "numberOfTrailingZeros", "(J)I"⟩ : MethodName)) hown (mvT hZ (hw _ (own_m 87 rfl))) (mvT hZ (hw _ (own_m 88 rfl))) (mvT hZ (hw _ (own_m 75 rfl))) (mvT hZ (hw _ (own_m 89 rfl))) (by decide) (backOf (W := 1) (own_ntzL l Z a0 hw [] ((wc ^^^ (-1 : Int64)) &&& ((-1 : Int64) <<< (i &&& 0x3f).toInt64)) h0 n0 O0 (fun q => hc70_7 ((lw_eq _ _).mpr q))) hZ (hw _ (own_m 89 rfl)) (hw _ (own_m 75 rfl)) (by decide) (by decide)) (g := (mkF m 78 #[oR b, oI i, oI (2 : Int32), oL ((wc ^^^ (-1 : Int64)) &&& ((-1 : Int64) <<< (i &&& 0x3f).toInt64)), .second] [(.long ((wc ^^^ (-1 : Int64)) &&& ((-1 : Int64) <<< (i &&& 0x3f).toInt64))), (.int (128 : Int32))])) rfl (by rw [hml]; rfl) (argsL := [(.long ((wc ^^^ (-1 : Int64)) &&& ((-1 : Int64) <<< (i &&& 0x3f).toInt64)))]) (rest := [(.int (128 : Int32))]) (lenOf own_pd1 rfl) rfl (by show 2 * 0 + _ ≤ _; exact Nat.le_of_eq rfl) (hb hby own_d16_78) (fun _ _ => ⟨rfl, e5, (by decide : 0 + 0 ≤ _), (by decide : 0 + 0 ≤ _)⟩)
   dsimp only [Pt.U, Pt.locs, Pt.cells, Pt.slots] at X17 l17 y17 z17 st17 hQ17
   subst l17 y17 z17
   obtain ⟨rr17, rfl, N17q, hh17, hn17⟩ := hQ17
   have N17 := Fr.app N2 N17q
   refine own_st st17 ?_
   show own_Rch _ _ _ _ T17 (mkF m 81 #[oR b, oI i, oI (2 : Int32), oL ((wc ^^^ (-1 : Int64)) &&& ((-1 : Int64) <<< (i &&& 0x3f).toInt64)), .second] [(.int rr17), (.int (128 : Int32))])
   refine own_st (fun _ => XS.iadd X17.here hx rfl (hb hby own_d16_81) rfl) ?_
   show own_Rch _ _ _ _ T17 (mkF m 82 #[oR b, oI i, oI (2 : Int32), oL ((wc ^^^ (-1 : Int64)) &&& ((-1 : Int64) <<< (i &&& 0x3f).toInt64)), .second] [(.int ((128 : Int32) + rr17))])
   refine own_retI X17 hx Bd.notSynchronized Bd.returns (hb hby own_d16_82) (by decide) (by decide) ?_
   rw [hh17]
   obtain ⟨qk, qk63, qr, -⟩ := id hn17
   have r1 := own_sm (x := (128 : Int32)) (y := rr17) (show _ = (128 : Int) by decide) rfl (by omega) (by omega)
   exact ⟨_, rfl, N17, rfl, own_nextA (W := (own_w wa wb wc wd)) (q := 2) hi0 (own_wi hq (by decide)) (own_mhi (W := (own_w wa wb wc wd)) (q := 2) hi0) hn17 (by rw [r1]; omega)⟩
 · -- pc 45: False
  refine own_st (fun _ => XS.icmpNo X3.here hx rfl (hb hby own_d16_45) rfl (flt hc45_4).1) ?_
  show own_Rch _ _ _ _ T3 (mkF m 48 #[oR b, oI i, oI (2 : Int32), .unset, .unset] [])
  refine own_st (fun _ => XS.iloadN X3.here hx rfl (hb hby own_d16_48) rfl) ?_
  show own_Rch _ _ _ _ T3 (mkF m 49 #[oR b, oI i, oI (2 : Int32), .unset, .unset] [(.int i)])
  refine own_retI X3 hx Bd.notSynchronized Bd.returns (hb hby own_d16_49) (by decide) (by decide) ?_
  rw [e3]
  rw [Int32.lt_iff_toInt_lt] at hc45_4
  exact ⟨_, rfl, N2, rfl, own_nextD (q := 2) hi0 (own_wi hq (by decide)) (own_W0 hW (by omega))⟩
set_option maxRecDepth 65536 in
set_option maxHeartbeats 40000000 in
theorem own_next3 (l : Launch) (Z : State) (a0 : Array Value) (hw : ∀ d ∈ tables_1, d.before a0 Z = true) (ws : List Jvm.Cond) (b : Addr) (y : Addr) (ka : ClassId) (wa : Int64) (wb : Int64) (wc : Int64) (wd : Int64) (nn : Int32) (i : Int32) (h0 : Heap) (n0 : Nat) (O0 : Old Z n0 h0) (SA : Sta Z Z.heap "java/util/BitSet" "$assertionsDisabled" "Z" (.int (1 : Int32))) (SS : own_St Z h0 b y ka wa wb wc wd nn) (hi0 : 0 ≤ i.toInt) (hi1 : i.toInt < 256) (hq : (i >>> ((6 : Int32) &&& 31)) = (3 : Int32)) :
    MetFree l (⟨"java/util/BitSet", "nextClearBit", "(I)I"⟩ : MethodName) (head1 (Jvm.Cond.code (⟨"java/util/BitSet", "nextClearBit", "(I)I"⟩ : MethodName) jdk_92_method_29_code 5 (some .int) :: ws) ({ frames := 3, cells := 0, slots := 0, locals := 100 } : Room)) (fun args_ U => args_ = #[(.ref b), (.int i)] ∧ Z.Warmed39 U.vm ∧ U.heap = h0) (fun _ _ _ _ _ => True) (fun _ U o U' => ∃ v L, o = .returned v ∧ (own_Q_i (fun r => own_nextP (own_w wa wb wc wd) i.toInt r.toInt) h0 n0) v U'.heap L ∧ FrameEnd U o U' L ({ frames := 3, cells := 0, slots := 0, locals := 100 } : Room).cells ({ frames := 3, cells := 0, slots := 0, locals := 100 } : Room).slots) := by
 refine MetFree.of_bodySF (plainFor_of_name own_pn0) hisR ?_
 intro p e s m args below meth c s₁ Bd hml0 hP hK
 obtain ⟨rfl, hZ, hh⟩ := hP
 have hx := Bd.exec
 have hby := Bd.bytes
 have hml : c.maxLocals = 5 := hml0
 have hown : s.vm.findClass "java/util/BitSet" = some m.cls := findClass_of_methodNamed Bd.named
 have hnm := (name_of_methodNamed Bd.named Bd.method).1
 have X0 : Stand p l e ({ frames := 3, cells := 0, slots := 0, locals := 100 } : Room) s m #[(.ref b), (.int i)] below meth c s₁ [] 0 0 := Stand.of_body Bd
 have e0 : s₁.heap = h0 := by rw [← hh, Bd.state]; rfl
 have N0 := Fr.nil n0
 obtain ⟨Eb, Fw, Fn, Va, hW⟩ := SS
 have ci0 : (0 : Int32).toInt = 0 := by decide
 have ci1 : (1 : Int32).toInt = 1 := by decide
 have ci2 : (2 : Int32).toInt = 2 := by decide
 have ci3 : (3 : Int32).toInt = 3 := by decide
 have ci4 : (4 : Int32).toInt = 4 := by decide
 have ci16 : (16 : Int32).toInt = 16 := by decide
 have ci256 : (256 : Int32).toInt = 256 := by decide
 have ci65536 : (65536 : Int32).toInt = 65536 := by decide
 refine own_close (s := s) (Q := (own_Q_i (fun r => own_nextP (own_w wa wb wc wd) i.toInt r.toInt) h0 n0)) (C := (({ frames := 3, cells := 0, slots := 0, locals := 100 } : Room)).cells) (N := (({ frames := 3, cells := 0, slots := 0, locals := 100 } : Room)).slots) (own_st (fun _ kt => castTop (own_ef16 m b i) kt) ?_)
 show own_Rch _ _ _ _ s₁ (mkF m 0 #[oR b, oI i, .unset, .unset, .unset] [])
 refine own_st (fun _ => XS.iloadN X0.here hx rfl (hb hby own_d16_0) rfl) ?_
 show own_Rch _ _ _ _ s₁ (mkF m 1 #[oR b, oI i, .unset, .unset, .unset] [(.int i)])
 refine own_st (fun _ => XS.ifYes X0.here hx rfl (pc0 := 1) (pc' := 31) rfl (hb hby own_d16_1) rfl ((if0 _ _).trans (flt ((own_nneg hi0) : ¬ (i < (0 : Int32)))).2.1) (by decide) (by decide)) ?_
 show own_Rch _ _ _ _ s₁ (mkF m 31 #[oR b, oI i, .unset, .unset, .unset] [])
 refine own_st (fun _ => XS.aloadN X0.here hx rfl (hb hby own_d16_31) rfl rfl) ?_
 show own_Rch _ _ _ _ s₁ (mkF m 32 #[oR b, oI i, .unset, .unset, .unset] [(.ref b)])
 obtain ⟨cq1, q1a, q1b⟩ := Eb.cell
 obtain ⟨_, _, ⟨T1, L1, k1, n1⟩, -, X1, ⟨Lc1, hQ1, l1, y1, z1⟩, st1⟩ := X0.privateBack hx (y := (⟨"java/util/BitSet", "checkInvariants", "()V"⟩ : MethodName)) hown (mvT hZ (hw _ (own_m 57 rfl))) (mvT hZ (hw _ (own_m 58 rfl))) (mvT hZ (hw _ (own_m 60 rfl))) (Cond.privateMethod_at (mvP hZ (hw _ (own_m 59 rfl)) (args := #[]))) (mvT hZ (hw _ (own_m 61 rfl))) (by decide) (backOf (W := 0) (own_ci l Z a0 hw [] b h0 n0 O0 SA) hZ (hw _ (own_m 61 rfl)) (hw _ (own_m 11 rfl)) (by decide) (by decide)) (g := (mkF m 32 #[oR b, oI i, .unset, .unset, .unset] [(.ref b)])) rfl (by rw [hml]; rfl) (Steps.refl _) (a := b) (by rw [e0]; exact q1a) q1b (argsL := []) (rest := []) (lenOf own_pd2 rfl) rfl (by show 2 * 0 + _ ≤ _; exact Nat.le_of_eq rfl) (hb hby own_d16_32) (fun _ _ => ⟨rfl, e0, (by decide : 0 + 0 ≤ _), (by decide : 0 + 0 ≤ _)⟩)
 dsimp only [Pt.U, Pt.locs, Pt.cells, Pt.slots] at X1 l1 y1 z1 st1 hQ1
 subst l1 y1 z1
 obtain ⟨rfl, N1q, hh1⟩ := hQ1
 have N1 := Fr.app N0 N1q
 refine own_st (fun _ => st1.trans) ?_
 show own_Rch _ _ _ _ T1 (mkF m 35 #[oR b, oI i, .unset, .unset, .unset] [])
 refine own_st (fun _ => XS.iloadN X1.here hx rfl (hb hby own_d16_35) rfl) ?_
 show own_Rch _ _ _ _ T1 (mkF m 36 #[oR b, oI i, .unset, .unset, .unset] [(.int i)])
 obtain ⟨_, _, ⟨T2, L2, k2, n2⟩, -, X2, ⟨Lc2, hQ2, l2, y2, z2⟩, st2⟩ := Jvm.LawKit.callS X1 hx (y := (⟨"java/util/BitSet", "wordIndex", "(I)I"⟩ : MethodName)) hown (mvT hZ (hw _ (own_m 25 rfl))) (mvT hZ (hw _ (own_m 26 rfl))) (mvT hZ (hw _ (own_m 11 rfl))) (mvT hZ (hw _ (own_m 27 rfl))) (by decide) (backOf (W := 0) (own_wordIndex l Z a0 hw [] i (3 : Int32) h0 n0 O0 hq) hZ (hw _ (own_m 27 rfl)) (hw _ (own_m 11 rfl)) (by decide) (by decide)) (g := (mkF m 36 #[oR b, oI i, .unset, .unset, .unset] [(.int i)])) rfl (by rw [hml]; rfl) (argsL := [(.int i)]) (rest := []) (lenOf own_pd0 rfl) rfl (by show 2 * 0 + _ ≤ _; exact Nat.le_of_eq rfl) (hb hby own_d16_36) (fun _ _ => ⟨rfl, hh1, (by decide : 0 + 0 ≤ _), (by decide : 0 + 0 ≤ _)⟩)
 dsimp only [Pt.U, Pt.locs, Pt.cells, Pt.slots] at X2 l2 y2 z2 st2 hQ2
 subst l2 y2 z2
 obtain ⟨rfl, N2q, hh2⟩ := hQ2
 have N2 := Fr.app N1 N2q
 refine own_st st2 ?_
 show own_Rch _ _ _ _ T2 (mkF m 39 #[oR b, oI i, .unset, .unset, .unset] [(.int (3 : Int32))])
 refine own_st (fun _ => XS.istoreN X2.here hx rfl (hb hby own_d16_39) rfl (l' := #[oR b, oI i, oI (3 : Int32), .unset, .unset]) rfl) ?_
 show own_Rch _ _ _ _ T2 (mkF m 40 #[oR b, oI i, oI (3 : Int32), .unset, .unset] [])
 refine own_st (fun _ => XS.iloadN X2.here hx rfl (hb hby own_d16_40) rfl) ?_
 show own_Rch _ _ _ _ T2 (mkF m 41 #[oR b, oI i, oI (3 : Int32), .unset, .unset] [(.int (3 : Int32))])
 refine own_st (fun _ => XS.aloadN X2.here hx rfl (hb hby own_d16_41) rfl rfl) ?_
 show own_Rch _ _ _ _ T2 (mkF m 42 #[oR b, oI i, oI (3 : Int32), .unset, .unset] [(.ref b), (.int (3 : Int32))])
 obtain ⟨T3, X3, e3, st3⟩ := getF X2 hx hZ hown (host := "") (Or.inl (hw _ (own_m 16 rfl))) Via.refl hh2 Fn (g := (mkF m 42 #[oR b, oI i, oI (3 : Int32), .unset, .unset] [(.ref b), (.int (3 : Int32))])) rfl rfl (hb hby own_d16_42)
 refine own_st st3 ?_
 show own_Rch _ _ _ _ T3 (mkF m 45 #[oR b, oI i, oI (3 : Int32), .unset, .unset] [(.int nn), (.int (3 : Int32))])
 by_cases hc45_4 : (3 : Int32) < nn
 · -- pc 45: True
  refine own_st (fun _ => XS.icmpYes X3.here hx rfl (pc0 := 45) (pc' := 50) rfl (hb hby own_d16_45) rfl (tlt hc45_4).1 (by decide) (by decide)) ?_
  show own_Rch _ _ _ _ T3 (mkF m 50 #[oR b, oI i, oI (3 : Int32), .unset, .unset] [])
  refine own_st (fun _ => XS.aloadN X3.here hx rfl (hb hby own_d16_50) rfl rfl) ?_
  show own_Rch _ _ _ _ T3 (mkF m 51 #[oR b, oI i, oI (3 : Int32), .unset, .unset] [(.ref b)])
  obtain ⟨T5, X5, e5, st5⟩ := getF X3 hx hZ hown (host := "") (Or.inl (hw _ (own_m 29 rfl))) Via.refl e3 Fw (g := (mkF m 51 #[oR b, oI i, oI (3 : Int32), .unset, .unset] [(.ref b)])) rfl rfl (hb hby own_d16_51)
  refine own_st st5 ?_
  show own_Rch _ _ _ _ T5 (mkF m 54 #[oR b, oI i, oI (3 : Int32), .unset, .unset] [(.ref y)])
  refine own_st (fun _ => XS.iloadN X5.here hx rfl (hb hby own_d16_54) rfl) ?_
  show own_Rch _ _ _ _ T5 (mkF m 55 #[oR b, oI i, oI (3 : Int32), .unset, .unset] [(.int (3 : Int32)), (.ref y)])
  obtain ⟨cl6, Ar6, q6, S6, M6, H6, G6⟩ := id Va
  have hin6 : ¬ ((3 : Int32) < 0 ∨ cl6.slots.size ≤ ((3 : Int32)).toNatClampNeg) := inb_of S6 ⟨by decide, by decide⟩
  refine own_st (X5.laload hx (j := (3 : Int32)) (v := (.long wd)) (by rw [e5]; exact Ar6.1) (State.isArrayOf_alike (hZ).alike Ar6.2.1) Ar6.2.2 hin6 (H6.at hin6 rfl) (g := (mkF m 55 #[oR b, oI i, oI (3 : Int32), .unset, .unset] [(.int (3 : Int32)), (.ref y)])) rfl rfl (hb hby own_d16_55)) ?_
  show own_Rch _ _ _ _ T5 (mkF m 56 #[oR b, oI i, oI (3 : Int32), .unset, .unset] [(.long wd)])
  refine own_st (X5.ldc2Long hx hown (mvT hZ (hw _ (own_m 56 rfl))) (g := (mkF m 56 #[oR b, oI i, oI (3 : Int32), .unset, .unset] [(.long wd)])) rfl (hb hby own_d16_56)) ?_
  show own_Rch _ _ _ _ T5 (mkF m 59 #[oR b, oI i, oI (3 : Int32), .unset, .unset] [(.long (-1 : Int64)), (.long wd)])
  refine own_st (fun _ => XS.lxor X5.here hx rfl (hb hby own_d16_59) rfl) ?_
  show own_Rch _ _ _ _ T5 (mkF m 60 #[oR b, oI i, oI (3 : Int32), .unset, .unset] [(.long (wd ^^^ (-1 : Int64)))])
  refine own_st (X5.ldc2Long hx hown (mvT hZ (hw _ (own_m 56 rfl))) (g := (mkF m 60 #[oR b, oI i, oI (3 : Int32), .unset, .unset] [(.long (wd ^^^ (-1 : Int64)))])) rfl (hb hby own_d16_60)) ?_
  show own_Rch _ _ _ _ T5 (mkF m 63 #[oR b, oI i, oI (3 : Int32), .unset, .unset] [(.long (-1 : Int64)), (.long (wd ^^^ (-1 : Int64)))])
  refine own_st (fun _ => XS.iloadN X5.here hx rfl (hb hby own_d16_63) rfl) ?_
  show own_Rch _ _ _ _ T5 (mkF m 64 #[oR b, oI i, oI (3 : Int32), .unset, .unset] [(.int i), (.long (-1 : Int64)), (.long (wd ^^^ (-1 : Int64)))])
  refine own_st (fun _ => XS.lshl X5.here hx rfl (hb hby own_d16_64) rfl) ?_
  show own_Rch _ _ _ _ T5 (mkF m 65 #[oR b, oI i, oI (3 : Int32), .unset, .unset] [(.long ((-1 : Int64) <<< (i &&& 0x3f).toInt64)), (.long (wd ^^^ (-1 : Int64)))])
  refine own_st (fun _ => XS.land X5.here hx rfl (hb hby own_d16_65) rfl) ?_
  show own_Rch _ _ _ _ T5 (mkF m 66 #[oR b, oI i, oI (3 : Int32), .unset, .unset] [(.long ((wd ^^^ (-1 : Int64)) &&& ((-1 : Int64) <<< (i &&& 0x3f).toInt64)))])
  refine own_st (fun _ => XS.lstoreN X5.here hx rfl (hb hby own_d16_66) rfl (l' := #[oR b, oI i, oI (3 : Int32), oL ((wd ^^^ (-1 : Int64)) &&& ((-1 : Int64) <<< (i &&& 0x3f).toInt64)), .second]) rfl) ?_
  show own_Rch _ _ _ _ T5 (mkF m 67 #[oR b, oI i, oI (3 : Int32), oL ((wd ^^^ (-1 : Int64)) &&& ((-1 : Int64) <<< (i &&& 0x3f).toInt64)), .second] [])
  refine own_st (fun _ => XS.lloadN X5.here hx rfl (hb hby own_d16_67) rfl) ?_
  show own_Rch _ _ _ _ T5 (mkF m 68 #[oR b, oI i, oI (3 : Int32), oL ((wd ^^^ (-1 : Int64)) &&& ((-1 : Int64) <<< (i &&& 0x3f).toInt64)), .second] [(.long ((wd ^^^ (-1 : Int64)) &&& ((-1 : Int64) <<< (i &&& 0x3f).toInt64)))])
  refine own_st (fun _ => XS.lconst X5.here hx rfl (hb hby own_d16_68)) ?_
  show own_Rch _ _ _ _ T5 (mkF m 69 #[oR b, oI i, oI (3 : Int32), oL ((wd ^^^ (-1 : Int64)) &&& ((-1 : Int64) <<< (i &&& 0x3f).toInt64)), .second] [(.long (0 : Int64)), (.long ((wd ^^^ (-1 : Int64)) &&& ((-1 : Int64) <<< (i &&& 0x3f).toInt64)))])
  refine own_st (fun _ => XS.lcmp X5.here hx rfl (hb hby own_d16_69) rfl) ?_
  show own_Rch _ _ _ _ T5 (mkF m 70 #[oR b, oI i, oI (3 : Int32), oL ((wd ^^^ (-1 : Int64)) &&& ((-1 : Int64) <<< (i &&& 0x3f).toInt64)), .second] [(.int (lcmpW ((wd ^^^ (-1 : Int64)) &&& ((-1 : Int64) <<< (i &&& 0x3f).toInt64)) (0 : Int64)))])
  by_cases hc70_7 : (lcmpW ((wd ^^^ (-1 : Int64)) &&& ((-1 : Int64) <<< (i &&& 0x3f).toInt64)) (0 : Int64)) = (0 : Int32)
  · -- pc 70: True
   refine own_st (fun _ => XS.ifYes X5.here hx rfl (pc0 := 70) (pc' := 83) rfl (hb hby own_d16_70) rfl ((if0 _ _).trans (teq hc70_7).1) (by decide) (by decide)) ?_
   show own_Rch _ _ _ _ T5 (mkF m 83 #[oR b, oI i, oI (3 : Int32), oL ((wd ^^^ (-1 : Int64)) &&& ((-1 : Int64) <<< (i &&& 0x3f).toInt64)), .second] [])
   refine own_st (fun _ => XS.iinc X5.here hx rfl (hb hby own_d16_83) rfl (l' := #[oR b, oI i, oI (4 : Int32), oL ((wd ^^^ (-1 : Int64)) &&& ((-1 : Int64) <<< (i &&& 0x3f).toInt64)), .second]) rfl) ?_
   show own_Rch _ _ _ _ T5 (mkF m 86 #[oR b, oI i, oI (4 : Int32), oL ((wd ^^^ (-1 : Int64)) &&& ((-1 : Int64) <<< (i &&& 0x3f).toInt64)), .second] [])
   refine own_st (fun _ => XS.iloadN X5.here hx rfl (hb hby own_d16_86) rfl) ?_
   show own_Rch _ _ _ _ T5 (mkF m 87 #[oR b, oI i, oI (4 : Int32), oL ((wd ^^^ (-1 : Int64)) &&& ((-1 : Int64) <<< (i &&& 0x3f).toInt64)), .second] [(.int (4 : Int32))])
   refine own_st (fun _ => XS.aloadN X5.here hx rfl (hb hby own_d16_87) rfl rfl) ?_
   show own_Rch _ _ _ _ T5 (mkF m 88 #[oR b, oI i, oI (4 : Int32), oL ((wd ^^^ (-1 : Int64)) &&& ((-1 : Int64) <<< (i &&& 0x3f).toInt64)), .second] [(.ref b), (.int (4 : Int32))])
   obtain ⟨T8, X8, e8, st8⟩ := getF X5 hx hZ hown (host := "") (Or.inl (hw _ (own_m 16 rfl))) Via.refl e5 Fn (g := (mkF m 88 #[oR b, oI i, oI (4 : Int32), oL ((wd ^^^ (-1 : Int64)) &&& ((-1 : Int64) <<< (i &&& 0x3f).toInt64)), .second] [(.ref b), (.int (4 : Int32))])) rfl rfl (hb hby own_d16_88)
   refine own_st st8 ?_
   show own_Rch _ _ _ _ T8 (mkF m 91 #[oR b, oI i, oI (4 : Int32), oL ((wd ^^^ (-1 : Int64)) &&& ((-1 : Int64) <<< (i &&& 0x3f).toInt64)), .second] [(.int nn), (.int (4 : Int32))])
   refine own_st (fun _ => XS.icmpNo X8.here hx rfl (hb hby own_d16_91) rfl (teq ((by rw [← Int32.toInt_inj]; have a1 := hW.1; have a2 := Int32.lt_iff_toInt_lt.mp hc45_4;  omega) : (4 : Int32) = nn)).2) ?_
   show own_Rch _ _ _ _ T8 (mkF m 94 #[oR b, oI i, oI (4 : Int32), oL ((wd ^^^ (-1 : Int64)) &&& ((-1 : Int64) <<< (i &&& 0x3f).toInt64)), .second] [])
   refine own_st (fun _ => XS.aloadN X8.here hx rfl (hb hby own_d16_94) rfl rfl) ?_
   show own_Rch _ _ _ _ T8 (mkF m 95 #[oR b, oI i, oI (4 : Int32), oL ((wd ^^^ (-1 : Int64)) &&& ((-1 : Int64) <<< (i &&& 0x3f).toInt64)), .second] [(.ref b)])
   obtain ⟨T9, X9, e9, st9⟩ := getF X8 hx hZ hown (host := "") (Or.inl (hw _ (own_m 16 rfl))) Via.refl e8 Fn (g := (mkF m 95 #[oR b, oI i, oI (4 : Int32), oL ((wd ^^^ (-1 : Int64)) &&& ((-1 : Int64) <<< (i &&& 0x3f).toInt64)), .second] [(.ref b)])) rfl rfl (hb hby own_d16_95)
   refine own_st st9 ?_
   show own_Rch _ _ _ _ T9 (mkF m 98 #[oR b, oI i, oI (4 : Int32), oL ((wd ^^^ (-1 : Int64)) &&& ((-1 : Int64) <<< (i &&& 0x3f).toInt64)), .second] [(.int nn)])
   refine own_st (fun _ => XS.bipush X9.here hx rfl (hb hby own_d16_98)) ?_
   show own_Rch _ _ _ _ T9 (mkF m 100 #[oR b, oI i, oI (4 : Int32), oL ((wd ^^^ (-1 : Int64)) &&& ((-1 : Int64) <<< (i &&& 0x3f).toInt64)), .second] [(.int (64 : Int32)), (.int nn)])
   refine own_st (fun _ => XS.imul X9.here hx rfl (hb hby own_d16_100) rfl) ?_
   show own_Rch _ _ _ _ T9 (mkF m 101 #[oR b, oI i, oI (4 : Int32), oL ((wd ^^^ (-1 : Int64)) &&& ((-1 : Int64) <<< (i &&& 0x3f).toInt64)), .second] [(.int (nn * (64 : Int32)))])
   refine own_retI X9 hx Bd.notSynchronized Bd.returns (hb hby own_d16_101) (by decide) (by decide) ?_
   rw [e9]
   have h91 : (4 : Int32) = nn := (by rw [← Int32.toInt_inj]; have a1 := hW.1; have a2 := Int32.lt_iff_toInt_lt.mp hc45_4;  omega)
   refine ⟨_, rfl, N2, rfl, own_nextC (u := 4) (W := (own_w wa wb wc wd)) (q := 3) hi0 (own_wi hq (by decide)) (own_mhi (W := (own_w wa wb wc wd)) (q := 3) hi0) (by decide) ((lw_eq _ _).mp hc70_7) ?_ (own_W0 hW (by rw [← h91]; decide)) (by rw [← h91]; decide)⟩
   intro v h1 h2; omega
  · -- pc 70: False
   refine own_st (fun _ => XS.ifNo X5.here hx rfl (hb hby own_d16_70) rfl ((if0 _ _).trans (feq hc70_7).1)) ?_
   show own_Rch _ _ _ _ T5 (mkF m 73 #[oR b, oI i, oI (3 : Int32), oL ((wd ^^^ (-1 : Int64)) &&& ((-1 : Int64) <<< (i &&& 0x3f).toInt64)), .second] [])
   refine own_st (fun _ => XS.iloadN X5.here hx rfl (hb hby own_d16_73) rfl) ?_
   show own_Rch _ _ _ _ T5 (mkF m 74 #[oR b, oI i, oI (3 : Int32), oL ((wd ^^^ (-1 : Int64)) &&& ((-1 : Int64) <<< (i &&& 0x3f).toInt64)), .second] [(.int (3 : Int32))])
   refine own_st (fun _ => XS.bipush X5.here hx rfl (hb hby own_d16_74)) ?_
   show own_Rch _ _ _ _ T5 (mkF m 76 #[oR b, oI i, oI (3 : Int32), oL ((wd ^^^ (-1 : Int64)) &&& ((-1 : Int64) <<< (i &&& 0x3f).toInt64)), .second] [(.int (64 : Int32)), (.int (3 : Int32))])
   refine own_st (fun _ => XS.imul X5.here hx rfl (hb hby own_d16_76) rfl) ?_
   show own_Rch _ _ _ _ T5 (mkF m 77 #[oR b, oI i, oI (3 : Int32), oL ((wd ^^^ (-1 : Int64)) &&& ((-1 : Int64) <<< (i &&& 0x3f).toInt64)), .second] [(.int (192 : Int32))])
   refine own_st (fun _ => XS.lloadN X5.here hx rfl (hb hby own_d16_77) rfl) ?_
   show own_Rch _ _ _ _ T5 (mkF m 78 #[oR b, oI i, oI (3 : Int32), oL ((wd ^^^ (-1 : Int64)) &&& ((-1 : Int64) <<< (i &&& 0x3f).toInt64)), .second] [(.long ((wd ^^^ (-1 : Int64)) &&& ((-1 : Int64) <<< (i &&& 0x3f).toInt64))), (.int (192 : Int32))])
   obtain ⟨_, _, ⟨T10, L10, k10, n10⟩, -, X10, ⟨Lc10, hQ10, l10, y10, z10⟩, st10⟩ := Jvm.LawKit.callS X5 hx (y := (⟨"java/lang/Long", "numberOfTrailingZeros", "(J)I"⟩ : MethodName)) hown (mvT hZ (hw _ (own_m 87 rfl))) (mvT hZ (hw _ (own_m 88 rfl))) (mvT hZ (hw _ (own_m 75 rfl))) (mvT hZ (hw _ (own_m 89 rfl))) (by decide) (backOf (W := 1) (own_ntzL l Z a0 hw [] ((wd ^^^ (-1 : Int64)) &&& ((-1 : Int64) <<< (i &&& 0x3f).toInt64)) h0 n0 O0 (fun q => hc70_7 ((lw_eq _ _).mpr q))) hZ (hw _ (own_m 89 rfl)) (hw _ (own_m 75 rfl)) (by decide) (by decide)) (g := (mkF m 78 #[oR b, oI i, oI (3 : Int32), oL ((wd ^^^ (-1 : Int64)) &&& ((-1 : Int64) <<< (i &&& 0x3f).toInt64)), .second] [(.long ((wd ^^^ (-1 : Int64)) &&& ((-1 : Int64) <<< (i &&& 0x3f).toInt64))), (.int (192 : Int32))])) rfl (by rw [hml]; rfl) (argsL := [(.long ((wd ^^^ (-1 : Int64)) &&& ((-1 : Int64) <<< (i &&& 0x3f).toInt64)))]) (rest := [(.int (192 : Int32))]) (lenOf own_pd1 rfl) rfl (by show 2 * 0 + _ ≤ _; exact Nat.le_of_eq rfl) (hb hby own_d16_78) (fun _ _ => ⟨rfl, e5, (by decide : 0 + 0 ≤ _), (by decide : 0 + 0 ≤ _)⟩)
   dsimp only [Pt.U, Pt.locs, Pt.cells, Pt.slots] at X10 l10 y10 z10 st10 hQ10
   subst l10 y10 z10
   obtain ⟨rr10, rfl, N10q, hh10, hn10⟩ := hQ10
   have N10 := Fr.app N2 N10q
   refine own_st st10 ?_
   show own_Rch _ _ _ _ T10 (mkF m 81 #[oR b, oI i, oI (3 : Int32), oL ((wd ^^^ (-1 : Int64)) &&& ((-1 : Int64) <<< (i &&& 0x3f).toInt64)), .second] [(.int rr10), (.int (192 : Int32))])
   refine own_st (fun _ => XS.iadd X10.here hx rfl (hb hby own_d16_81) rfl) ?_
   show own_Rch _ _ _ _ T10 (mkF m 82 #[oR b, oI i, oI (3 : Int32), oL ((wd ^^^ (-1 : Int64)) &&& ((-1 : Int64) <<< (i &&& 0x3f).toInt64)), .second] [(.int ((192 : Int32) + rr10))])
   refine own_retI X10 hx Bd.notSynchronized Bd.returns (hb hby own_d16_82) (by decide) (by decide) ?_
   rw [hh10]
   obtain ⟨qk, qk63, qr, -⟩ := id hn10
   have r1 := own_sm (x := (192 : Int32)) (y := rr10) (show _ = (192 : Int) by decide) rfl (by omega) (by omega)
   exact ⟨_, rfl, N10, rfl, own_nextA (W := (own_w wa wb wc wd)) (q := 3) hi0 (own_wi hq (by decide)) (own_mhi (W := (own_w wa wb wc wd)) (q := 3) hi0) hn10 (by rw [r1]; omega)⟩
 · -- pc 45: False
  refine own_st (fun _ => XS.icmpNo X3.here hx rfl (hb hby own_d16_45) rfl (flt hc45_4).1) ?_
  show own_Rch _ _ _ _ T3 (mkF m 48 #[oR b, oI i, oI (3 : Int32), .unset, .unset] [])
  refine own_st (fun _ => XS.iloadN X3.here hx rfl (hb hby own_d16_48) rfl) ?_
  show own_Rch _ _ _ _ T3 (mkF m 49 #[oR b, oI i, oI (3 : Int32), .unset, .unset] [(.int i)])
  refine own_retI X3 hx Bd.notSynchronized Bd.returns (hb hby own_d16_49) (by decide) (by decide) ?_
  rw [e3]
  rw [Int32.lt_iff_toInt_lt] at hc45_4
  exact ⟨_, rfl, N2, rfl, own_nextD (q := 3) hi0 (own_wi hq (by decide)) (own_W0 hW (by omega))⟩
theorem own_next (l : Launch) (Z : State) (a0 : Array Value) (hw : ∀ d ∈ tables_1, d.before a0 Z = true) (ws : List Jvm.Cond) (b : Addr) (y : Addr) (ka : ClassId) (wa : Int64) (wb : Int64) (wc : Int64) (wd : Int64) (nn : Int32) (i : Int32) (h0 : Heap) (n0 : Nat) (O0 : Old Z n0 h0) (SA : Sta Z Z.heap "java/util/BitSet" "$assertionsDisabled" "Z" (.int (1 : Int32))) (SS : own_St Z h0 b y ka wa wb wc wd nn) (hi0 : 0 ≤ i.toInt) (hi1 : i.toInt < 256) :
    MetFree l (⟨"java/util/BitSet", "nextClearBit", "(I)I"⟩ : MethodName) (head1 (Jvm.Cond.code (⟨"java/util/BitSet", "nextClearBit", "(I)I"⟩ : MethodName) jdk_92_method_29_code 5 (some .int) :: ws) ({ frames := 3, cells := 0, slots := 0, locals := 100 } : Room)) (fun args_ U => args_ = #[(.ref b), (.int i)] ∧ Z.Warmed39 U.vm ∧ U.heap = h0) (fun _ _ _ _ _ => True) (fun _ U o U' => ∃ v L, o = .returned v ∧ (own_Q_i (fun r => own_nextP (own_w wa wb wc wd) i.toInt r.toInt) h0 n0) v U'.heap L ∧ FrameEnd U o U' L ({ frames := 3, cells := 0, slots := 0, locals := 100 } : Room).cells ({ frames := 3, cells := 0, slots := 0, locals := 100 } : Room).slots) := by
  rcases own_4 hi0 hi1 with hq | hq | hq | hq
  · exact own_next0 l Z a0 hw ws b y ka wa wb wc wd nn i h0 n0 O0 SA SS hi0 hi1 hq
  · exact own_next1 l Z a0 hw ws b y ka wa wb wc wd nn i h0 n0 O0 SA SS hi0 hi1 hq
  · exact own_next2 l Z a0 hw ws b y ka wa wb wc wd nn i h0 n0 O0 SA SS hi0 hi1 hq
  · exact own_next3 l Z a0 hw ws b y ka wa wb wc wd nn i h0 n0 O0 SA SS hi0 hi1 hq
theorem own_clsn {f t : Int32} (h : own_cls f t) : ¬ t < f ∧ ¬ f = t ∧ 0 ≤ t.toInt := by
  obtain ⟨h0, h1, -⟩ := h
  rw [Int32.lt_iff_toInt_lt, ← Int32.toInt_inj]
  omega
theorem own_ef8 (m : MethodId) (x0 : Int32) (x1 : Int32) : entryFrame m #[(.int x0), (.int x1)] 2 = mkF m 0 #[.val (.int x0), .val (.int x1)] [] := by first | (simp [entryFrame, mkF, argsToLocals, Value.category]; done) | rfl
theorem own_d8_0 : decode jdk_92_method_16_code 0 = .ok (.iload_n 0, 1) := by decide +kernel
theorem own_d8_1 : decode jdk_92_method_16_code 1 = .ok (.ifCond .ge 30, 3) := by decide +kernel
theorem own_d8_31 : decode jdk_92_method_16_code 31 = .ok (.iload_n 1, 1) := by decide +kernel
theorem own_d8_32 : decode jdk_92_method_16_code 32 = .ok (.ifCond .ge 30, 3) := by decide +kernel
theorem own_d8_62 : decode jdk_92_method_16_code 62 = .ok (.iload_n 0, 1) := by decide +kernel
theorem own_d8_63 : decode jdk_92_method_16_code 63 = .ok (.iload_n 1, 1) := by decide +kernel
theorem own_d8_64 : decode jdk_92_method_16_code 64 = .ok (.if_icmp .le 39, 3) := by decide +kernel
theorem own_d8_103 : decode jdk_92_method_16_code 103 = .ok (.return_, 1) := by decide +kernel
def own_Q_own_cr (Z : State) (fi : Int32) (ti : Int32) (h0 : Heap) (n0 : Nat) (v : Option Value) (h : Heap) (L : List Loc) : Prop := v = none ∧ Fr n0 L ∧ h = h0
set_option maxRecDepth 65536 in
set_option maxHeartbeats 40000000 in
theorem own_cr (l : Launch) (Z : State) (a0 : Array Value) (hw : ∀ d ∈ tables_1, d.before a0 Z = true) (ws : List Jvm.Cond) (fi : Int32) (ti : Int32) (h0 : Heap) (n0 : Nat) (O0 : Old Z n0 h0) (hc : own_cls fi ti) :
    MetFree l (⟨"java/util/BitSet", "checkRange", "(II)V"⟩ : MethodName) (head1 (Jvm.Cond.code (⟨"java/util/BitSet", "checkRange", "(II)V"⟩ : MethodName) jdk_92_method_16_code 2 none :: ws) ({ frames := 0, cells := 0, slots := 0, locals := 0 } : Room)) (fun args_ U => args_ = #[(.int fi), (.int ti)] ∧ Z.Warmed39 U.vm ∧ U.heap = h0) (fun _ _ _ _ _ => True) (fun _ U o U' => ∃ v L, o = .returned v ∧ (own_Q_own_cr Z fi ti h0 n0) v U'.heap L ∧ FrameEnd U o U' L ({ frames := 0, cells := 0, slots := 0, locals := 0 } : Room).cells ({ frames := 0, cells := 0, slots := 0, locals := 0 } : Room).slots) := by
 refine MetFree.of_bodySF (plainFor_of_name own_pn0) hisR ?_
 intro p e s m args below meth c s₁ Bd hml0 hP hK
 obtain ⟨rfl, hZ, hh⟩ := hP
 have hx := Bd.exec
 have hby := Bd.bytes
 have hml : c.maxLocals = 2 := hml0
 have hown : s.vm.findClass "java/util/BitSet" = some m.cls := findClass_of_methodNamed Bd.named
 have hnm := (name_of_methodNamed Bd.named Bd.method).1
 have X0 : Stand p l e ({ frames := 0, cells := 0, slots := 0, locals := 0 } : Room) s m #[(.int fi), (.int ti)] below meth c s₁ [] 0 0 := Stand.of_body Bd
 have e0 : s₁.heap = h0 := by rw [← hh, Bd.state]; rfl
 have N0 := Fr.nil n0
 refine own_close (s := s) (Q := (own_Q_own_cr Z fi ti h0 n0)) (C := (({ frames := 0, cells := 0, slots := 0, locals := 0 } : Room)).cells) (N := (({ frames := 0, cells := 0, slots := 0, locals := 0 } : Room)).slots) (own_st (fun _ kt => castTop (own_ef8 m fi ti) kt) ?_)
 show own_Rch _ _ _ _ s₁ (mkF m 0 #[oI fi, oI ti] [])
 refine own_st (fun _ => XS.iloadN X0.here hx rfl (hb hby own_d8_0) rfl) ?_
 show own_Rch _ _ _ _ s₁ (mkF m 1 #[oI fi, oI ti] [(.int fi)])
 refine own_st (fun _ => XS.ifYes X0.here hx rfl (pc0 := 1) (pc' := 31) rfl (hb hby own_d8_1) rfl ((if0 _ _).trans (flt ((own_nneg hc.1) : ¬ (fi < (0 : Int32)))).2.1) (by decide) (by decide)) ?_
 show own_Rch _ _ _ _ s₁ (mkF m 31 #[oI fi, oI ti] [])
 refine own_st (fun _ => XS.iloadN X0.here hx rfl (hb hby own_d8_31) rfl) ?_
 show own_Rch _ _ _ _ s₁ (mkF m 32 #[oI fi, oI ti] [(.int ti)])
 refine own_st (fun _ => XS.ifYes X0.here hx rfl (pc0 := 32) (pc' := 62) rfl (hb hby own_d8_32) rfl ((if0 _ _).trans (flt ((own_nneg (own_clsn hc).2.2) : ¬ (ti < (0 : Int32)))).2.1) (by decide) (by decide)) ?_
 show own_Rch _ _ _ _ s₁ (mkF m 62 #[oI fi, oI ti] [])
 refine own_st (fun _ => XS.iloadN X0.here hx rfl (hb hby own_d8_62) rfl) ?_
 show own_Rch _ _ _ _ s₁ (mkF m 63 #[oI fi, oI ti] [(.int fi)])
 refine own_st (fun _ => XS.iloadN X0.here hx rfl (hb hby own_d8_63) rfl) ?_
 show own_Rch _ _ _ _ s₁ (mkF m 64 #[oI fi, oI ti] [(.int ti), (.int fi)])
 refine own_st (fun _ => XS.icmpYes X0.here hx rfl (pc0 := 64) (pc' := 103) rfl (hb hby own_d8_64) rfl (flt ((own_clsn hc).1 : ¬ (ti < fi))).2.2.2 (by decide) (by decide)) ?_
 show own_Rch _ _ _ _ s₁ (mkF m 103 #[oI fi, oI ti] [])
 refine own_retV X0 hx Bd.notSynchronized Bd.returns (hb hby own_d8_103) (by decide) (by decide) ?_
 rw [e0]
 exact ⟨rfl, N0, rfl⟩
theorem own_ef10 (m : MethodId) (x0 : Addr) (x1 : Int32) : entryFrame m #[(.ref x0), (.int x1)] 3 = mkF m 0 #[.val (.ref x0), .val (.int x1), .unset] [] := by first | (simp [entryFrame, mkF, argsToLocals, Value.category]; done) | rfl
theorem own_d10_0 : decode jdk_92_method_14_code 0 = .ok (.aload_n 0, 1) := by decide +kernel
theorem own_d10_1 : decode jdk_92_method_14_code 1 = .ok (.getfield 11, 3) := by decide +kernel
theorem own_d10_4 : decode jdk_92_method_14_code 4 = .ok (.arraylength, 1) := by decide +kernel
theorem own_d10_5 : decode jdk_92_method_14_code 5 = .ok (.iload_n 1, 1) := by decide +kernel
theorem own_d10_6 : decode jdk_92_method_14_code 6 = .ok (.if_icmp .ge 32, 3) := by decide +kernel
theorem own_d10_38 : decode jdk_92_method_14_code 38 = .ok (.return_, 1) := by decide +kernel
def own_Q_own_ec1 (Z : State) (b : Addr) (y : Addr) (ka : ClassId) (vs : List Value) (h0 : Heap) (n0 : Nat) (v : Option Value) (h : Heap) (L : List Loc) : Prop := v = none ∧ Fr n0 L ∧ h = h0
set_option maxRecDepth 65536 in
set_option maxHeartbeats 40000000 in
theorem own_ec1 (l : Launch) (Z : State) (a0 : Array Value) (hw : ∀ d ∈ tables_1, d.before a0 Z = true) (ws : List Jvm.Cond) (b : Addr) (y : Addr) (ka : ClassId) (vs : List Value) (h0 : Heap) (n0 : Nat) (O0 : Old Z n0 h0) (Fw : Fld Z h0 b "java/util/BitSet" "words" "[J" (.ref y)) (Va : Arv Z h0 y ka .long (5 : Int32) vs (.long (0 : Int64))) :
    MetFree l (⟨"java/util/BitSet", "ensureCapacity", "(I)V"⟩ : MethodName) (head1 (Jvm.Cond.code (⟨"java/util/BitSet", "ensureCapacity", "(I)V"⟩ : MethodName) jdk_92_method_14_code 3 none :: ws) ({ frames := 0, cells := 0, slots := 0, locals := 0 } : Room)) (fun args_ U => args_ = #[(.ref b), (.int (1 : Int32))] ∧ Z.Warmed39 U.vm ∧ U.heap = h0) (fun _ _ _ _ _ => True) (fun _ U o U' => ∃ v L, o = .returned v ∧ (own_Q_own_ec1 Z b y ka vs h0 n0) v U'.heap L ∧ FrameEnd U o U' L ({ frames := 0, cells := 0, slots := 0, locals := 0 } : Room).cells ({ frames := 0, cells := 0, slots := 0, locals := 0 } : Room).slots) := by
 refine MetFree.of_bodySF (plainFor_of_name own_pn0) hisR ?_
 intro p e s m args below meth c s₁ Bd hml0 hP hK
 obtain ⟨rfl, hZ, hh⟩ := hP
 have hx := Bd.exec
 have hby := Bd.bytes
 have hml : c.maxLocals = 3 := hml0
 have hown : s.vm.findClass "java/util/BitSet" = some m.cls := findClass_of_methodNamed Bd.named
 have hnm := (name_of_methodNamed Bd.named Bd.method).1
 have X0 : Stand p l e ({ frames := 0, cells := 0, slots := 0, locals := 0 } : Room) s m #[(.ref b), (.int (1 : Int32))] below meth c s₁ [] 0 0 := Stand.of_body Bd
 have e0 : s₁.heap = h0 := by rw [← hh, Bd.state]; rfl
 have N0 := Fr.nil n0
 refine own_close (s := s) (Q := (own_Q_own_ec1 Z b y ka vs h0 n0)) (C := (({ frames := 0, cells := 0, slots := 0, locals := 0 } : Room)).cells) (N := (({ frames := 0, cells := 0, slots := 0, locals := 0 } : Room)).slots) (own_st (fun _ kt => castTop (own_ef10 m b (1 : Int32)) kt) ?_)
 show own_Rch _ _ _ _ s₁ (mkF m 0 #[oR b, oI (1 : Int32), .unset] [])
 refine own_st (fun _ => XS.aloadN X0.here hx rfl (hb hby own_d10_0) rfl rfl) ?_
 show own_Rch _ _ _ _ s₁ (mkF m 1 #[oR b, oI (1 : Int32), .unset] [(.ref b)])
 obtain ⟨T1, X1, e1, st1⟩ := getF X0 hx hZ hown (host := "") (Or.inl (hw _ (own_m 29 rfl))) Via.refl e0 Fw (g := (mkF m 1 #[oR b, oI (1 : Int32), .unset] [(.ref b)])) rfl rfl (hb hby own_d10_1)
 refine own_st st1 ?_
 show own_Rch _ _ _ _ T1 (mkF m 4 #[oR b, oI (1 : Int32), .unset] [(.ref y)])
 obtain ⟨cl2, Ar2, -, S2, M2, -, -⟩ := id Va
 refine own_st (X1.arraylength hx (by rw [e1]; exact Ar2.1) (State.isArrayOf_alike (hZ).alike Ar2.2.1) (g := (mkF m 4 #[oR b, oI (1 : Int32), .unset] [(.ref y)])) rfl rfl (hb hby own_d10_4)) ?_
 rw [len_of S2 M2]
 show own_Rch _ _ _ _ T1 (mkF m 5 #[oR b, oI (1 : Int32), .unset] [(.int (5 : Int32))])
 refine own_st (fun _ => XS.iloadN X1.here hx rfl (hb hby own_d10_5) rfl) ?_
 show own_Rch _ _ _ _ T1 (mkF m 6 #[oR b, oI (1 : Int32), .unset] [(.int (1 : Int32)), (.int (5 : Int32))])
 refine own_st (fun _ => XS.icmpYes X1.here hx rfl (pc0 := 6) (pc' := 38) rfl (hb hby own_d10_6) rfl (flt ((by decide) : ¬ ((5 : Int32) < (1 : Int32)))).2.1 (by decide) (by decide)) ?_
 show own_Rch _ _ _ _ T1 (mkF m 38 #[oR b, oI (1 : Int32), .unset] [])
 refine own_retV X1 hx Bd.notSynchronized Bd.returns (hb hby own_d10_38) (by decide) (by decide) ?_
 rw [e1]
 exact ⟨rfl, N0, rfl⟩
theorem own_ef9 (m : MethodId) (x0 : Addr) (x1 : Int32) : entryFrame m #[(.ref x0), (.int x1)] 3 = mkF m 0 #[.val (.ref x0), .val (.int x1), .unset] [] := by first | (simp [entryFrame, mkF, argsToLocals, Value.category]; done) | rfl
theorem own_d9_0 : decode jdk_92_method_15_code 0 = .ok (.iload_n 1, 1) := by decide +kernel
theorem own_d9_1 : decode jdk_92_method_15_code 1 = .ok (.iconst 1, 1) := by decide +kernel
theorem own_d9_2 : decode jdk_92_method_15_code 2 = .ok (.iadd, 1) := by decide +kernel
theorem own_d9_3 : decode jdk_92_method_15_code 3 = .ok (.istore_n 2, 1) := by decide +kernel
theorem own_d9_4 : decode jdk_92_method_15_code 4 = .ok (.aload_n 0, 1) := by decide +kernel
theorem own_d9_5 : decode jdk_92_method_15_code 5 = .ok (.getfield 7, 3) := by decide +kernel
theorem own_d9_8 : decode jdk_92_method_15_code 8 = .ok (.iload_n 2, 1) := by decide +kernel
theorem own_d9_9 : decode jdk_92_method_15_code 9 = .ok (.if_icmp .ge 13, 3) := by decide +kernel
theorem own_d9_12 : decode jdk_92_method_15_code 12 = .ok (.aload_n 0, 1) := by decide +kernel
theorem own_d9_13 : decode jdk_92_method_15_code 13 = .ok (.iload_n 2, 1) := by decide +kernel
theorem own_d9_14 : decode jdk_92_method_15_code 14 = .ok (.invokevirtual 139, 3) := by decide +kernel
theorem own_pd4 : parseMethodDescriptor "(I)V" = some ⟨[.int], none⟩ := by decide +kernel
theorem own_d9_17 : decode jdk_92_method_15_code 17 = .ok (.aload_n 0, 1) := by decide +kernel
theorem own_d9_18 : decode jdk_92_method_15_code 18 = .ok (.iload_n 2, 1) := by decide +kernel
theorem own_d9_19 : decode jdk_92_method_15_code 19 = .ok (.putfield 7, 3) := by decide +kernel
theorem own_d9_22 : decode jdk_92_method_15_code 22 = .ok (.return_, 1) := by decide +kernel
def own_Q_own_ex1 (Z : State) (b : Addr) (y : Addr) (ka : ClassId) (nn : Int32) (vs : List Value) (h0 : Heap) (n0 : Nat) (v : Option Value) (h : Heap) (L : List Loc) : Prop := v = none ∧ Fr n0 L ∧ Keep h0 h [b] ∧ Fld Z h b "java/util/BitSet" "words" "[J" (.ref y) ∧ ∃ n' : Int32, Fld Z h b "java/util/BitSet" "wordsInUse" "I" (.int n') ∧ ((nn < (1 : Int32) ∧ n' = (1 : Int32)) ∨ (¬ nn < (1 : Int32) ∧ n' = nn))
set_option maxRecDepth 65536 in
set_option maxHeartbeats 40000000 in
theorem own_ex1 (l : Launch) (Z : State) (a0 : Array Value) (hw : ∀ d ∈ tables_1, d.before a0 Z = true) (ws : List Jvm.Cond) (b : Addr) (y : Addr) (ka : ClassId) (nn : Int32) (vs : List Value) (h0 : Heap) (n0 : Nat) (O0 : Old Z n0 h0) (Eb : Exa Z h0 b "java/util/BitSet") (Fw : Fld Z h0 b "java/util/BitSet" "words" "[J" (.ref y)) (Fn : Fld Z h0 b "java/util/BitSet" "wordsInUse" "I" (.int nn)) (Va : Arv Z h0 y ka .long (5 : Int32) vs (.long (0 : Int64))) (ga : n0 ≤ b) :
    MetFree l (⟨"java/util/BitSet", "expandTo", "(I)V"⟩ : MethodName) (head1 (Jvm.Cond.code (⟨"java/util/BitSet", "expandTo", "(I)V"⟩ : MethodName) jdk_92_method_15_code 3 none :: ws) ({ frames := 1, cells := 0, slots := 0, locals := 14 } : Room)) (fun args_ U => args_ = #[(.ref b), (.int (0 : Int32))] ∧ Z.Warmed39 U.vm ∧ U.heap = h0) (fun _ _ _ _ _ => True) (fun _ U o U' => ∃ v L, o = .returned v ∧ (own_Q_own_ex1 Z b y ka nn vs h0 n0) v U'.heap L ∧ FrameEnd U o U' L ({ frames := 1, cells := 0, slots := 0, locals := 14 } : Room).cells ({ frames := 1, cells := 0, slots := 0, locals := 14 } : Room).slots) := by
 refine MetFree.of_bodySF (plainFor_of_name own_pn0) hisR ?_
 intro p e s m args below meth c s₁ Bd hml0 hP hK
 obtain ⟨rfl, hZ, hh⟩ := hP
 have hx := Bd.exec
 have hby := Bd.bytes
 have hml : c.maxLocals = 3 := hml0
 have hown : s.vm.findClass "java/util/BitSet" = some m.cls := findClass_of_methodNamed Bd.named
 have hnm := (name_of_methodNamed Bd.named Bd.method).1
 have X0 : Stand p l e ({ frames := 1, cells := 0, slots := 0, locals := 14 } : Room) s m #[(.ref b), (.int (0 : Int32))] below meth c s₁ [] 0 0 := Stand.of_body Bd
 have e0 : s₁.heap = h0 := by rw [← hh, Bd.state]; rfl
 have N0 := Fr.nil n0
 refine own_close (s := s) (Q := (own_Q_own_ex1 Z b y ka nn vs h0 n0)) (C := (({ frames := 1, cells := 0, slots := 0, locals := 14 } : Room)).cells) (N := (({ frames := 1, cells := 0, slots := 0, locals := 14 } : Room)).slots) (own_st (fun _ kt => castTop (own_ef9 m b (0 : Int32)) kt) ?_)
 have K0 := Keep.refl h0 [b]
 show own_Rch _ _ _ _ s₁ (mkF m 0 #[oR b, oI (0 : Int32), .unset] [])
 refine own_st (fun _ => XS.iloadN X0.here hx rfl (hb hby own_d9_0) rfl) ?_
 show own_Rch _ _ _ _ s₁ (mkF m 1 #[oR b, oI (0 : Int32), .unset] [(.int (0 : Int32))])
 refine own_st (fun _ => XS.iconst X0.here hx rfl (hb hby own_d9_1)) ?_
 show own_Rch _ _ _ _ s₁ (mkF m 2 #[oR b, oI (0 : Int32), .unset] [(.int (1 : Int32)), (.int (0 : Int32))])
 refine own_st (fun _ => XS.iadd X0.here hx rfl (hb hby own_d9_2) rfl) ?_
 show own_Rch _ _ _ _ s₁ (mkF m 3 #[oR b, oI (0 : Int32), .unset] [(.int (1 : Int32))])
 refine own_st (fun _ => XS.istoreN X0.here hx rfl (hb hby own_d9_3) rfl (l' := #[oR b, oI (0 : Int32), oI (1 : Int32)]) rfl) ?_
 show own_Rch _ _ _ _ s₁ (mkF m 4 #[oR b, oI (0 : Int32), oI (1 : Int32)] [])
 refine own_st (fun _ => XS.aloadN X0.here hx rfl (hb hby own_d9_4) rfl rfl) ?_
 show own_Rch _ _ _ _ s₁ (mkF m 5 #[oR b, oI (0 : Int32), oI (1 : Int32)] [(.ref b)])
 obtain ⟨T1, X1, e1, st1⟩ := getF X0 hx hZ hown (host := "") (Or.inl (hw _ (own_m 16 rfl))) Via.refl e0 Fn (g := (mkF m 5 #[oR b, oI (0 : Int32), oI (1 : Int32)] [(.ref b)])) rfl rfl (hb hby own_d9_5)
 refine own_st st1 ?_
 show own_Rch _ _ _ _ T1 (mkF m 8 #[oR b, oI (0 : Int32), oI (1 : Int32)] [(.int nn)])
 refine own_st (fun _ => XS.iloadN X1.here hx rfl (hb hby own_d9_8) rfl) ?_
 show own_Rch _ _ _ _ T1 (mkF m 9 #[oR b, oI (0 : Int32), oI (1 : Int32)] [(.int (1 : Int32)), (.int nn)])
 by_cases hc9_2 : nn < (1 : Int32)
 · -- pc 9: True
  refine own_st (fun _ => XS.icmpNo X1.here hx rfl (hb hby own_d9_9) rfl (tlt hc9_2).2.1) ?_
  show own_Rch _ _ _ _ T1 (mkF m 12 #[oR b, oI (0 : Int32), oI (1 : Int32)] [])
  refine own_st (fun _ => XS.aloadN X1.here hx rfl (hb hby own_d9_12) rfl rfl) ?_
  show own_Rch _ _ _ _ T1 (mkF m 13 #[oR b, oI (0 : Int32), oI (1 : Int32)] [(.ref b)])
  refine own_st (fun _ => XS.iloadN X1.here hx rfl (hb hby own_d9_13) rfl) ?_
  show own_Rch _ _ _ _ T1 (mkF m 14 #[oR b, oI (0 : Int32), oI (1 : Int32)] [(.int (1 : Int32)), (.ref b)])
  obtain ⟨cq3, q3a, q3b⟩ := Eb.cell
  obtain ⟨_, _, ⟨T3, L3, k3, n3⟩, -, X3, ⟨Lc3, hQ3, l3, y3, z3⟩, st3⟩ := X1.privateBack hx (y := (⟨"java/util/BitSet", "ensureCapacity", "(I)V"⟩ : MethodName)) hown (mvT hZ (hw _ (own_m 51 rfl))) (mvT hZ (hw _ (own_m 52 rfl))) (mvT hZ (hw _ (own_m 54 rfl))) (Cond.privateMethod_at (mvP hZ (hw _ (own_m 53 rfl)) (args := #[]))) (mvT hZ (hw _ (own_m 55 rfl))) (by decide) (backOf (W := 0) (own_ec1 l Z a0 hw [] b y ka vs h0 n0 O0 Fw Va) hZ (hw _ (own_m 55 rfl)) (hw _ (own_m 11 rfl)) (by decide) (by decide)) (g := (mkF m 14 #[oR b, oI (0 : Int32), oI (1 : Int32)] [(.int (1 : Int32)), (.ref b)])) rfl (by rw [hml]; rfl) (Steps.refl _) (a := b) (by rw [e1]; exact q3a) q3b (argsL := [(.int (1 : Int32))]) (rest := []) (lenOf own_pd4 rfl) rfl (by show 2 * 0 + _ ≤ _; exact Nat.le_of_eq rfl) (hb hby own_d9_14) (fun _ _ => ⟨rfl, e1, (by decide : 0 + 0 ≤ _), (by decide : 0 + 0 ≤ _)⟩)
  dsimp only [Pt.U, Pt.locs, Pt.cells, Pt.slots] at X3 l3 y3 z3 st3 hQ3
  subst l3 y3 z3
  obtain ⟨rfl, N3q, hh3⟩ := hQ3
  have N3 := Fr.app N0 N3q
  refine own_st (fun _ => st3.trans) ?_
  show own_Rch _ _ _ _ T3 (mkF m 17 #[oR b, oI (0 : Int32), oI (1 : Int32)] [])
  refine own_st (fun _ => XS.aloadN X3.here hx rfl (hb hby own_d9_17) rfl rfl) ?_
  show own_Rch _ _ _ _ T3 (mkF m 18 #[oR b, oI (0 : Int32), oI (1 : Int32)] [(.ref b)])
  refine own_st (fun _ => XS.iloadN X3.here hx rfl (hb hby own_d9_18) rfl) ?_
  show own_Rch _ _ _ _ T3 (mkF m 19 #[oR b, oI (0 : Int32), oI (1 : Int32)] [(.int (1 : Int32)), (.ref b)])
  obtain ⟨T4, h4, X4, e4, W4, st4⟩ := putF X3 hx hZ hown (host := "") (Or.inl (hw _ (own_m 16 rfl))) Via.refl hh3 Fn Eb (Or.inl (hw _ (own_m 17 rfl))) (hw _ (own_m 10 rfl)) (ty := .int) (by decide) rfl rfl (g := (mkF m 19 #[oR b, oI (0 : Int32), oI (1 : Int32)] [(.int (1 : Int32)), (.ref b)])) rfl rfl (hb hby own_d9_19)
  refine own_st st4 ?_
  have Fw4 := Fn.same W4
  have N4 := Fr.snoc X4 N3 ga
  have O0_x4 := O0.wr W4 ga
  have Eb_x4 := Eb.wr W4
  have Fw_x4 := Fw.other W4 (Or.inr (slot_ne (Or.inl (hw _ (own_m 30 rfl))) (Or.inl (hw _ (own_m 17 rfl))) (by decide) (t := (.array .long)) (t' := .int) (by decide) (by decide)))
  have Va_x4 := Va.other W4 (Ne.symm (Exa.neArv Eb Va (hw _ (own_m 10 rfl))))
  have K0_x4 := K0.wr W4 (Or.inl (own_m 0 rfl))
  show own_Rch _ _ _ _ T4 (mkF m 22 #[oR b, oI (0 : Int32), oI (1 : Int32)] [])
  refine own_retV X4 hx Bd.notSynchronized Bd.returns (hb hby own_d9_22) (by decide) (by decide) ?_
  rw [e4]
  exact ⟨rfl, N4, K0_x4, Fw_x4, _, Fw4, Or.inl ⟨hc9_2, rfl⟩⟩
 · -- pc 9: False
  refine own_st (fun _ => XS.icmpYes X1.here hx rfl (pc0 := 9) (pc' := 22) rfl (hb hby own_d9_9) rfl (flt hc9_2).2.1 (by decide) (by decide)) ?_
  show own_Rch _ _ _ _ T1 (mkF m 22 #[oR b, oI (0 : Int32), oI (1 : Int32)] [])
  refine own_retV X1 hx Bd.notSynchronized Bd.returns (hb hby own_d9_22) (by decide) (by decide) ?_
  rw [e1]
  exact ⟨rfl, N0, K0, Fw, _, Fn, Or.inr ⟨hc9_2, rfl⟩⟩
def own_Q_own_ec2 (Z : State) (b : Addr) (y : Addr) (ka : ClassId) (vs : List Value) (h0 : Heap) (n0 : Nat) (v : Option Value) (h : Heap) (L : List Loc) : Prop := v = none ∧ Fr n0 L ∧ h = h0
set_option maxRecDepth 65536 in
set_option maxHeartbeats 40000000 in
theorem own_ec2 (l : Launch) (Z : State) (a0 : Array Value) (hw : ∀ d ∈ tables_1, d.before a0 Z = true) (ws : List Jvm.Cond) (b : Addr) (y : Addr) (ka : ClassId) (vs : List Value) (h0 : Heap) (n0 : Nat) (O0 : Old Z n0 h0) (Fw : Fld Z h0 b "java/util/BitSet" "words" "[J" (.ref y)) (Va : Arv Z h0 y ka .long (5 : Int32) vs (.long (0 : Int64))) :
    MetFree l (⟨"java/util/BitSet", "ensureCapacity", "(I)V"⟩ : MethodName) (head1 (Jvm.Cond.code (⟨"java/util/BitSet", "ensureCapacity", "(I)V"⟩ : MethodName) jdk_92_method_14_code 3 none :: ws) ({ frames := 0, cells := 0, slots := 0, locals := 0 } : Room)) (fun args_ U => args_ = #[(.ref b), (.int (2 : Int32))] ∧ Z.Warmed39 U.vm ∧ U.heap = h0) (fun _ _ _ _ _ => True) (fun _ U o U' => ∃ v L, o = .returned v ∧ (own_Q_own_ec2 Z b y ka vs h0 n0) v U'.heap L ∧ FrameEnd U o U' L ({ frames := 0, cells := 0, slots := 0, locals := 0 } : Room).cells ({ frames := 0, cells := 0, slots := 0, locals := 0 } : Room).slots) := by
 refine MetFree.of_bodySF (plainFor_of_name own_pn0) hisR ?_
 intro p e s m args below meth c s₁ Bd hml0 hP hK
 obtain ⟨rfl, hZ, hh⟩ := hP
 have hx := Bd.exec
 have hby := Bd.bytes
 have hml : c.maxLocals = 3 := hml0
 have hown : s.vm.findClass "java/util/BitSet" = some m.cls := findClass_of_methodNamed Bd.named
 have hnm := (name_of_methodNamed Bd.named Bd.method).1
 have X0 : Stand p l e ({ frames := 0, cells := 0, slots := 0, locals := 0 } : Room) s m #[(.ref b), (.int (2 : Int32))] below meth c s₁ [] 0 0 := Stand.of_body Bd
 have e0 : s₁.heap = h0 := by rw [← hh, Bd.state]; rfl
 have N0 := Fr.nil n0
 refine own_close (s := s) (Q := (own_Q_own_ec2 Z b y ka vs h0 n0)) (C := (({ frames := 0, cells := 0, slots := 0, locals := 0 } : Room)).cells) (N := (({ frames := 0, cells := 0, slots := 0, locals := 0 } : Room)).slots) (own_st (fun _ kt => castTop (own_ef10 m b (2 : Int32)) kt) ?_)
 show own_Rch _ _ _ _ s₁ (mkF m 0 #[oR b, oI (2 : Int32), .unset] [])
 refine own_st (fun _ => XS.aloadN X0.here hx rfl (hb hby own_d10_0) rfl rfl) ?_
 show own_Rch _ _ _ _ s₁ (mkF m 1 #[oR b, oI (2 : Int32), .unset] [(.ref b)])
 obtain ⟨T1, X1, e1, st1⟩ := getF X0 hx hZ hown (host := "") (Or.inl (hw _ (own_m 29 rfl))) Via.refl e0 Fw (g := (mkF m 1 #[oR b, oI (2 : Int32), .unset] [(.ref b)])) rfl rfl (hb hby own_d10_1)
 refine own_st st1 ?_
 show own_Rch _ _ _ _ T1 (mkF m 4 #[oR b, oI (2 : Int32), .unset] [(.ref y)])
 obtain ⟨cl2, Ar2, -, S2, M2, -, -⟩ := id Va
 refine own_st (X1.arraylength hx (by rw [e1]; exact Ar2.1) (State.isArrayOf_alike (hZ).alike Ar2.2.1) (g := (mkF m 4 #[oR b, oI (2 : Int32), .unset] [(.ref y)])) rfl rfl (hb hby own_d10_4)) ?_
 rw [len_of S2 M2]
 show own_Rch _ _ _ _ T1 (mkF m 5 #[oR b, oI (2 : Int32), .unset] [(.int (5 : Int32))])
 refine own_st (fun _ => XS.iloadN X1.here hx rfl (hb hby own_d10_5) rfl) ?_
 show own_Rch _ _ _ _ T1 (mkF m 6 #[oR b, oI (2 : Int32), .unset] [(.int (2 : Int32)), (.int (5 : Int32))])
 refine own_st (fun _ => XS.icmpYes X1.here hx rfl (pc0 := 6) (pc' := 38) rfl (hb hby own_d10_6) rfl (flt ((by decide) : ¬ ((5 : Int32) < (2 : Int32)))).2.1 (by decide) (by decide)) ?_
 show own_Rch _ _ _ _ T1 (mkF m 38 #[oR b, oI (2 : Int32), .unset] [])
 refine own_retV X1 hx Bd.notSynchronized Bd.returns (hb hby own_d10_38) (by decide) (by decide) ?_
 rw [e1]
 exact ⟨rfl, N0, rfl⟩
def own_Q_own_ex2 (Z : State) (b : Addr) (y : Addr) (ka : ClassId) (nn : Int32) (vs : List Value) (h0 : Heap) (n0 : Nat) (v : Option Value) (h : Heap) (L : List Loc) : Prop := v = none ∧ Fr n0 L ∧ Keep h0 h [b] ∧ Fld Z h b "java/util/BitSet" "words" "[J" (.ref y) ∧ ∃ n' : Int32, Fld Z h b "java/util/BitSet" "wordsInUse" "I" (.int n') ∧ ((nn < (2 : Int32) ∧ n' = (2 : Int32)) ∨ (¬ nn < (2 : Int32) ∧ n' = nn))
set_option maxRecDepth 65536 in
set_option maxHeartbeats 40000000 in
theorem own_ex2 (l : Launch) (Z : State) (a0 : Array Value) (hw : ∀ d ∈ tables_1, d.before a0 Z = true) (ws : List Jvm.Cond) (b : Addr) (y : Addr) (ka : ClassId) (nn : Int32) (vs : List Value) (h0 : Heap) (n0 : Nat) (O0 : Old Z n0 h0) (Eb : Exa Z h0 b "java/util/BitSet") (Fw : Fld Z h0 b "java/util/BitSet" "words" "[J" (.ref y)) (Fn : Fld Z h0 b "java/util/BitSet" "wordsInUse" "I" (.int nn)) (Va : Arv Z h0 y ka .long (5 : Int32) vs (.long (0 : Int64))) (ga : n0 ≤ b) :
    MetFree l (⟨"java/util/BitSet", "expandTo", "(I)V"⟩ : MethodName) (head1 (Jvm.Cond.code (⟨"java/util/BitSet", "expandTo", "(I)V"⟩ : MethodName) jdk_92_method_15_code 3 none :: ws) ({ frames := 1, cells := 0, slots := 0, locals := 14 } : Room)) (fun args_ U => args_ = #[(.ref b), (.int (1 : Int32))] ∧ Z.Warmed39 U.vm ∧ U.heap = h0) (fun _ _ _ _ _ => True) (fun _ U o U' => ∃ v L, o = .returned v ∧ (own_Q_own_ex2 Z b y ka nn vs h0 n0) v U'.heap L ∧ FrameEnd U o U' L ({ frames := 1, cells := 0, slots := 0, locals := 14 } : Room).cells ({ frames := 1, cells := 0, slots := 0, locals := 14 } : Room).slots) := by
 refine MetFree.of_bodySF (plainFor_of_name own_pn0) hisR ?_
 intro p e s m args below meth c s₁ Bd hml0 hP hK
 obtain ⟨rfl, hZ, hh⟩ := hP
 have hx := Bd.exec
 have hby := Bd.bytes
 have hml : c.maxLocals = 3 := hml0
 have hown : s.vm.findClass "java/util/BitSet" = some m.cls := findClass_of_methodNamed Bd.named
 have hnm := (name_of_methodNamed Bd.named Bd.method).1
 have X0 : Stand p l e ({ frames := 1, cells := 0, slots := 0, locals := 14 } : Room) s m #[(.ref b), (.int (1 : Int32))] below meth c s₁ [] 0 0 := Stand.of_body Bd
 have e0 : s₁.heap = h0 := by rw [← hh, Bd.state]; rfl
 have N0 := Fr.nil n0
 refine own_close (s := s) (Q := (own_Q_own_ex2 Z b y ka nn vs h0 n0)) (C := (({ frames := 1, cells := 0, slots := 0, locals := 14 } : Room)).cells) (N := (({ frames := 1, cells := 0, slots := 0, locals := 14 } : Room)).slots) (own_st (fun _ kt => castTop (own_ef9 m b (1 : Int32)) kt) ?_)
 have K0 := Keep.refl h0 [b]
 show own_Rch _ _ _ _ s₁ (mkF m 0 #[oR b, oI (1 : Int32), .unset] [])
 refine own_st (fun _ => XS.iloadN X0.here hx rfl (hb hby own_d9_0) rfl) ?_
 show own_Rch _ _ _ _ s₁ (mkF m 1 #[oR b, oI (1 : Int32), .unset] [(.int (1 : Int32))])
 refine own_st (fun _ => XS.iconst X0.here hx rfl (hb hby own_d9_1)) ?_
 show own_Rch _ _ _ _ s₁ (mkF m 2 #[oR b, oI (1 : Int32), .unset] [(.int (1 : Int32)), (.int (1 : Int32))])
 refine own_st (fun _ => XS.iadd X0.here hx rfl (hb hby own_d9_2) rfl) ?_
 show own_Rch _ _ _ _ s₁ (mkF m 3 #[oR b, oI (1 : Int32), .unset] [(.int (2 : Int32))])
 refine own_st (fun _ => XS.istoreN X0.here hx rfl (hb hby own_d9_3) rfl (l' := #[oR b, oI (1 : Int32), oI (2 : Int32)]) rfl) ?_
 show own_Rch _ _ _ _ s₁ (mkF m 4 #[oR b, oI (1 : Int32), oI (2 : Int32)] [])
 refine own_st (fun _ => XS.aloadN X0.here hx rfl (hb hby own_d9_4) rfl rfl) ?_
 show own_Rch _ _ _ _ s₁ (mkF m 5 #[oR b, oI (1 : Int32), oI (2 : Int32)] [(.ref b)])
 obtain ⟨T1, X1, e1, st1⟩ := getF X0 hx hZ hown (host := "") (Or.inl (hw _ (own_m 16 rfl))) Via.refl e0 Fn (g := (mkF m 5 #[oR b, oI (1 : Int32), oI (2 : Int32)] [(.ref b)])) rfl rfl (hb hby own_d9_5)
 refine own_st st1 ?_
 show own_Rch _ _ _ _ T1 (mkF m 8 #[oR b, oI (1 : Int32), oI (2 : Int32)] [(.int nn)])
 refine own_st (fun _ => XS.iloadN X1.here hx rfl (hb hby own_d9_8) rfl) ?_
 show own_Rch _ _ _ _ T1 (mkF m 9 #[oR b, oI (1 : Int32), oI (2 : Int32)] [(.int (2 : Int32)), (.int nn)])
 by_cases hc9_2 : nn < (2 : Int32)
 · -- pc 9: True
  refine own_st (fun _ => XS.icmpNo X1.here hx rfl (hb hby own_d9_9) rfl (tlt hc9_2).2.1) ?_
  show own_Rch _ _ _ _ T1 (mkF m 12 #[oR b, oI (1 : Int32), oI (2 : Int32)] [])
  refine own_st (fun _ => XS.aloadN X1.here hx rfl (hb hby own_d9_12) rfl rfl) ?_
  show own_Rch _ _ _ _ T1 (mkF m 13 #[oR b, oI (1 : Int32), oI (2 : Int32)] [(.ref b)])
  refine own_st (fun _ => XS.iloadN X1.here hx rfl (hb hby own_d9_13) rfl) ?_
  show own_Rch _ _ _ _ T1 (mkF m 14 #[oR b, oI (1 : Int32), oI (2 : Int32)] [(.int (2 : Int32)), (.ref b)])
  obtain ⟨cq3, q3a, q3b⟩ := Eb.cell
  obtain ⟨_, _, ⟨T3, L3, k3, n3⟩, -, X3, ⟨Lc3, hQ3, l3, y3, z3⟩, st3⟩ := X1.privateBack hx (y := (⟨"java/util/BitSet", "ensureCapacity", "(I)V"⟩ : MethodName)) hown (mvT hZ (hw _ (own_m 51 rfl))) (mvT hZ (hw _ (own_m 52 rfl))) (mvT hZ (hw _ (own_m 54 rfl))) (Cond.privateMethod_at (mvP hZ (hw _ (own_m 53 rfl)) (args := #[]))) (mvT hZ (hw _ (own_m 55 rfl))) (by decide) (backOf (W := 0) (own_ec2 l Z a0 hw [] b y ka vs h0 n0 O0 Fw Va) hZ (hw _ (own_m 55 rfl)) (hw _ (own_m 11 rfl)) (by decide) (by decide)) (g := (mkF m 14 #[oR b, oI (1 : Int32), oI (2 : Int32)] [(.int (2 : Int32)), (.ref b)])) rfl (by rw [hml]; rfl) (Steps.refl _) (a := b) (by rw [e1]; exact q3a) q3b (argsL := [(.int (2 : Int32))]) (rest := []) (lenOf own_pd4 rfl) rfl (by show 2 * 0 + _ ≤ _; exact Nat.le_of_eq rfl) (hb hby own_d9_14) (fun _ _ => ⟨rfl, e1, (by decide : 0 + 0 ≤ _), (by decide : 0 + 0 ≤ _)⟩)
  dsimp only [Pt.U, Pt.locs, Pt.cells, Pt.slots] at X3 l3 y3 z3 st3 hQ3
  subst l3 y3 z3
  obtain ⟨rfl, N3q, hh3⟩ := hQ3
  have N3 := Fr.app N0 N3q
  refine own_st (fun _ => st3.trans) ?_
  show own_Rch _ _ _ _ T3 (mkF m 17 #[oR b, oI (1 : Int32), oI (2 : Int32)] [])
  refine own_st (fun _ => XS.aloadN X3.here hx rfl (hb hby own_d9_17) rfl rfl) ?_
  show own_Rch _ _ _ _ T3 (mkF m 18 #[oR b, oI (1 : Int32), oI (2 : Int32)] [(.ref b)])
  refine own_st (fun _ => XS.iloadN X3.here hx rfl (hb hby own_d9_18) rfl) ?_
  show own_Rch _ _ _ _ T3 (mkF m 19 #[oR b, oI (1 : Int32), oI (2 : Int32)] [(.int (2 : Int32)), (.ref b)])
  obtain ⟨T4, h4, X4, e4, W4, st4⟩ := putF X3 hx hZ hown (host := "") (Or.inl (hw _ (own_m 16 rfl))) Via.refl hh3 Fn Eb (Or.inl (hw _ (own_m 17 rfl))) (hw _ (own_m 10 rfl)) (ty := .int) (by decide) rfl rfl (g := (mkF m 19 #[oR b, oI (1 : Int32), oI (2 : Int32)] [(.int (2 : Int32)), (.ref b)])) rfl rfl (hb hby own_d9_19)
  refine own_st st4 ?_
  have Fw4 := Fn.same W4
  have N4 := Fr.snoc X4 N3 ga
  have O0_x4 := O0.wr W4 ga
  have Eb_x4 := Eb.wr W4
  have Fw_x4 := Fw.other W4 (Or.inr (slot_ne (Or.inl (hw _ (own_m 30 rfl))) (Or.inl (hw _ (own_m 17 rfl))) (by decide) (t := (.array .long)) (t' := .int) (by decide) (by decide)))
  have Va_x4 := Va.other W4 (Ne.symm (Exa.neArv Eb Va (hw _ (own_m 10 rfl))))
  have K0_x4 := K0.wr W4 (Or.inl (own_m 0 rfl))
  show own_Rch _ _ _ _ T4 (mkF m 22 #[oR b, oI (1 : Int32), oI (2 : Int32)] [])
  refine own_retV X4 hx Bd.notSynchronized Bd.returns (hb hby own_d9_22) (by decide) (by decide) ?_
  rw [e4]
  exact ⟨rfl, N4, K0_x4, Fw_x4, _, Fw4, Or.inl ⟨hc9_2, rfl⟩⟩
 · -- pc 9: False
  refine own_st (fun _ => XS.icmpYes X1.here hx rfl (pc0 := 9) (pc' := 22) rfl (hb hby own_d9_9) rfl (flt hc9_2).2.1 (by decide) (by decide)) ?_
  show own_Rch _ _ _ _ T1 (mkF m 22 #[oR b, oI (1 : Int32), oI (2 : Int32)] [])
  refine own_retV X1 hx Bd.notSynchronized Bd.returns (hb hby own_d9_22) (by decide) (by decide) ?_
  rw [e1]
  exact ⟨rfl, N0, K0, Fw, _, Fn, Or.inr ⟨hc9_2, rfl⟩⟩
def own_Q_own_ec3 (Z : State) (b : Addr) (y : Addr) (ka : ClassId) (vs : List Value) (h0 : Heap) (n0 : Nat) (v : Option Value) (h : Heap) (L : List Loc) : Prop := v = none ∧ Fr n0 L ∧ h = h0
set_option maxRecDepth 65536 in
set_option maxHeartbeats 40000000 in
theorem own_ec3 (l : Launch) (Z : State) (a0 : Array Value) (hw : ∀ d ∈ tables_1, d.before a0 Z = true) (ws : List Jvm.Cond) (b : Addr) (y : Addr) (ka : ClassId) (vs : List Value) (h0 : Heap) (n0 : Nat) (O0 : Old Z n0 h0) (Fw : Fld Z h0 b "java/util/BitSet" "words" "[J" (.ref y)) (Va : Arv Z h0 y ka .long (5 : Int32) vs (.long (0 : Int64))) :
    MetFree l (⟨"java/util/BitSet", "ensureCapacity", "(I)V"⟩ : MethodName) (head1 (Jvm.Cond.code (⟨"java/util/BitSet", "ensureCapacity", "(I)V"⟩ : MethodName) jdk_92_method_14_code 3 none :: ws) ({ frames := 0, cells := 0, slots := 0, locals := 0 } : Room)) (fun args_ U => args_ = #[(.ref b), (.int (3 : Int32))] ∧ Z.Warmed39 U.vm ∧ U.heap = h0) (fun _ _ _ _ _ => True) (fun _ U o U' => ∃ v L, o = .returned v ∧ (own_Q_own_ec3 Z b y ka vs h0 n0) v U'.heap L ∧ FrameEnd U o U' L ({ frames := 0, cells := 0, slots := 0, locals := 0 } : Room).cells ({ frames := 0, cells := 0, slots := 0, locals := 0 } : Room).slots) := by
 refine MetFree.of_bodySF (plainFor_of_name own_pn0) hisR ?_
 intro p e s m args below meth c s₁ Bd hml0 hP hK
 obtain ⟨rfl, hZ, hh⟩ := hP
 have hx := Bd.exec
 have hby := Bd.bytes
 have hml : c.maxLocals = 3 := hml0
 have hown : s.vm.findClass "java/util/BitSet" = some m.cls := findClass_of_methodNamed Bd.named
 have hnm := (name_of_methodNamed Bd.named Bd.method).1
 have X0 : Stand p l e ({ frames := 0, cells := 0, slots := 0, locals := 0 } : Room) s m #[(.ref b), (.int (3 : Int32))] below meth c s₁ [] 0 0 := Stand.of_body Bd
 have e0 : s₁.heap = h0 := by rw [← hh, Bd.state]; rfl
 have N0 := Fr.nil n0
 refine own_close (s := s) (Q := (own_Q_own_ec3 Z b y ka vs h0 n0)) (C := (({ frames := 0, cells := 0, slots := 0, locals := 0 } : Room)).cells) (N := (({ frames := 0, cells := 0, slots := 0, locals := 0 } : Room)).slots) (own_st (fun _ kt => castTop (own_ef10 m b (3 : Int32)) kt) ?_)
 show own_Rch _ _ _ _ s₁ (mkF m 0 #[oR b, oI (3 : Int32), .unset] [])
 refine own_st (fun _ => XS.aloadN X0.here hx rfl (hb hby own_d10_0) rfl rfl) ?_
 show own_Rch _ _ _ _ s₁ (mkF m 1 #[oR b, oI (3 : Int32), .unset] [(.ref b)])
 obtain ⟨T1, X1, e1, st1⟩ := getF X0 hx hZ hown (host := "") (Or.inl (hw _ (own_m 29 rfl))) Via.refl e0 Fw (g := (mkF m 1 #[oR b, oI (3 : Int32), .unset] [(.ref b)])) rfl rfl (hb hby own_d10_1)
 refine own_st st1 ?_
 show own_Rch _ _ _ _ T1 (mkF m 4 #[oR b, oI (3 : Int32), .unset] [(.ref y)])
 obtain ⟨cl2, Ar2, -, S2, M2, -, -⟩ := id Va
 refine own_st (X1.arraylength hx (by rw [e1]; exact Ar2.1) (State.isArrayOf_alike (hZ).alike Ar2.2.1) (g := (mkF m 4 #[oR b, oI (3 : Int32), .unset] [(.ref y)])) rfl rfl (hb hby own_d10_4)) ?_
 rw [len_of S2 M2]
 show own_Rch _ _ _ _ T1 (mkF m 5 #[oR b, oI (3 : Int32), .unset] [(.int (5 : Int32))])
 refine own_st (fun _ => XS.iloadN X1.here hx rfl (hb hby own_d10_5) rfl) ?_
 show own_Rch _ _ _ _ T1 (mkF m 6 #[oR b, oI (3 : Int32), .unset] [(.int (3 : Int32)), (.int (5 : Int32))])
 refine own_st (fun _ => XS.icmpYes X1.here hx rfl (pc0 := 6) (pc' := 38) rfl (hb hby own_d10_6) rfl (flt ((by decide) : ¬ ((5 : Int32) < (3 : Int32)))).2.1 (by decide) (by decide)) ?_
 show own_Rch _ _ _ _ T1 (mkF m 38 #[oR b, oI (3 : Int32), .unset] [])
 refine own_retV X1 hx Bd.notSynchronized Bd.returns (hb hby own_d10_38) (by decide) (by decide) ?_
 rw [e1]
 exact ⟨rfl, N0, rfl⟩
def own_Q_own_ex3 (Z : State) (b : Addr) (y : Addr) (ka : ClassId) (nn : Int32) (vs : List Value) (h0 : Heap) (n0 : Nat) (v : Option Value) (h : Heap) (L : List Loc) : Prop := v = none ∧ Fr n0 L ∧ Keep h0 h [b] ∧ Fld Z h b "java/util/BitSet" "words" "[J" (.ref y) ∧ ∃ n' : Int32, Fld Z h b "java/util/BitSet" "wordsInUse" "I" (.int n') ∧ ((nn < (3 : Int32) ∧ n' = (3 : Int32)) ∨ (¬ nn < (3 : Int32) ∧ n' = nn))
set_option maxRecDepth 65536 in
set_option maxHeartbeats 40000000 in
theorem own_ex3 (l : Launch) (Z : State) (a0 : Array Value) (hw : ∀ d ∈ tables_1, d.before a0 Z = true) (ws : List Jvm.Cond) (b : Addr) (y : Addr) (ka : ClassId) (nn : Int32) (vs : List Value) (h0 : Heap) (n0 : Nat) (O0 : Old Z n0 h0) (Eb : Exa Z h0 b "java/util/BitSet") (Fw : Fld Z h0 b "java/util/BitSet" "words" "[J" (.ref y)) (Fn : Fld Z h0 b "java/util/BitSet" "wordsInUse" "I" (.int nn)) (Va : Arv Z h0 y ka .long (5 : Int32) vs (.long (0 : Int64))) (ga : n0 ≤ b) :
    MetFree l (⟨"java/util/BitSet", "expandTo", "(I)V"⟩ : MethodName) (head1 (Jvm.Cond.code (⟨"java/util/BitSet", "expandTo", "(I)V"⟩ : MethodName) jdk_92_method_15_code 3 none :: ws) ({ frames := 1, cells := 0, slots := 0, locals := 14 } : Room)) (fun args_ U => args_ = #[(.ref b), (.int (2 : Int32))] ∧ Z.Warmed39 U.vm ∧ U.heap = h0) (fun _ _ _ _ _ => True) (fun _ U o U' => ∃ v L, o = .returned v ∧ (own_Q_own_ex3 Z b y ka nn vs h0 n0) v U'.heap L ∧ FrameEnd U o U' L ({ frames := 1, cells := 0, slots := 0, locals := 14 } : Room).cells ({ frames := 1, cells := 0, slots := 0, locals := 14 } : Room).slots) := by
 refine MetFree.of_bodySF (plainFor_of_name own_pn0) hisR ?_
 intro p e s m args below meth c s₁ Bd hml0 hP hK
 obtain ⟨rfl, hZ, hh⟩ := hP
 have hx := Bd.exec
 have hby := Bd.bytes
 have hml : c.maxLocals = 3 := hml0
 have hown : s.vm.findClass "java/util/BitSet" = some m.cls := findClass_of_methodNamed Bd.named
 have hnm := (name_of_methodNamed Bd.named Bd.method).1
 have X0 : Stand p l e ({ frames := 1, cells := 0, slots := 0, locals := 14 } : Room) s m #[(.ref b), (.int (2 : Int32))] below meth c s₁ [] 0 0 := Stand.of_body Bd
 have e0 : s₁.heap = h0 := by rw [← hh, Bd.state]; rfl
 have N0 := Fr.nil n0
 refine own_close (s := s) (Q := (own_Q_own_ex3 Z b y ka nn vs h0 n0)) (C := (({ frames := 1, cells := 0, slots := 0, locals := 14 } : Room)).cells) (N := (({ frames := 1, cells := 0, slots := 0, locals := 14 } : Room)).slots) (own_st (fun _ kt => castTop (own_ef9 m b (2 : Int32)) kt) ?_)
 have K0 := Keep.refl h0 [b]
 show own_Rch _ _ _ _ s₁ (mkF m 0 #[oR b, oI (2 : Int32), .unset] [])
 refine own_st (fun _ => XS.iloadN X0.here hx rfl (hb hby own_d9_0) rfl) ?_
 show own_Rch _ _ _ _ s₁ (mkF m 1 #[oR b, oI (2 : Int32), .unset] [(.int (2 : Int32))])
 refine own_st (fun _ => XS.iconst X0.here hx rfl (hb hby own_d9_1)) ?_
 show own_Rch _ _ _ _ s₁ (mkF m 2 #[oR b, oI (2 : Int32), .unset] [(.int (1 : Int32)), (.int (2 : Int32))])
 refine own_st (fun _ => XS.iadd X0.here hx rfl (hb hby own_d9_2) rfl) ?_
 show own_Rch _ _ _ _ s₁ (mkF m 3 #[oR b, oI (2 : Int32), .unset] [(.int (3 : Int32))])
 refine own_st (fun _ => XS.istoreN X0.here hx rfl (hb hby own_d9_3) rfl (l' := #[oR b, oI (2 : Int32), oI (3 : Int32)]) rfl) ?_
 show own_Rch _ _ _ _ s₁ (mkF m 4 #[oR b, oI (2 : Int32), oI (3 : Int32)] [])
 refine own_st (fun _ => XS.aloadN X0.here hx rfl (hb hby own_d9_4) rfl rfl) ?_
 show own_Rch _ _ _ _ s₁ (mkF m 5 #[oR b, oI (2 : Int32), oI (3 : Int32)] [(.ref b)])
 obtain ⟨T1, X1, e1, st1⟩ := getF X0 hx hZ hown (host := "") (Or.inl (hw _ (own_m 16 rfl))) Via.refl e0 Fn (g := (mkF m 5 #[oR b, oI (2 : Int32), oI (3 : Int32)] [(.ref b)])) rfl rfl (hb hby own_d9_5)
 refine own_st st1 ?_
 show own_Rch _ _ _ _ T1 (mkF m 8 #[oR b, oI (2 : Int32), oI (3 : Int32)] [(.int nn)])
 refine own_st (fun _ => XS.iloadN X1.here hx rfl (hb hby own_d9_8) rfl) ?_
 show own_Rch _ _ _ _ T1 (mkF m 9 #[oR b, oI (2 : Int32), oI (3 : Int32)] [(.int (3 : Int32)), (.int nn)])
 by_cases hc9_2 : nn < (3 : Int32)
 · -- pc 9: True
  refine own_st (fun _ => XS.icmpNo X1.here hx rfl (hb hby own_d9_9) rfl (tlt hc9_2).2.1) ?_
  show own_Rch _ _ _ _ T1 (mkF m 12 #[oR b, oI (2 : Int32), oI (3 : Int32)] [])
  refine own_st (fun _ => XS.aloadN X1.here hx rfl (hb hby own_d9_12) rfl rfl) ?_
  show own_Rch _ _ _ _ T1 (mkF m 13 #[oR b, oI (2 : Int32), oI (3 : Int32)] [(.ref b)])
  refine own_st (fun _ => XS.iloadN X1.here hx rfl (hb hby own_d9_13) rfl) ?_
  show own_Rch _ _ _ _ T1 (mkF m 14 #[oR b, oI (2 : Int32), oI (3 : Int32)] [(.int (3 : Int32)), (.ref b)])
  obtain ⟨cq3, q3a, q3b⟩ := Eb.cell
  obtain ⟨_, _, ⟨T3, L3, k3, n3⟩, -, X3, ⟨Lc3, hQ3, l3, y3, z3⟩, st3⟩ := X1.privateBack hx (y := (⟨"java/util/BitSet", "ensureCapacity", "(I)V"⟩ : MethodName)) hown (mvT hZ (hw _ (own_m 51 rfl))) (mvT hZ (hw _ (own_m 52 rfl))) (mvT hZ (hw _ (own_m 54 rfl))) (Cond.privateMethod_at (mvP hZ (hw _ (own_m 53 rfl)) (args := #[]))) (mvT hZ (hw _ (own_m 55 rfl))) (by decide) (backOf (W := 0) (own_ec3 l Z a0 hw [] b y ka vs h0 n0 O0 Fw Va) hZ (hw _ (own_m 55 rfl)) (hw _ (own_m 11 rfl)) (by decide) (by decide)) (g := (mkF m 14 #[oR b, oI (2 : Int32), oI (3 : Int32)] [(.int (3 : Int32)), (.ref b)])) rfl (by rw [hml]; rfl) (Steps.refl _) (a := b) (by rw [e1]; exact q3a) q3b (argsL := [(.int (3 : Int32))]) (rest := []) (lenOf own_pd4 rfl) rfl (by show 2 * 0 + _ ≤ _; exact Nat.le_of_eq rfl) (hb hby own_d9_14) (fun _ _ => ⟨rfl, e1, (by decide : 0 + 0 ≤ _), (by decide : 0 + 0 ≤ _)⟩)
  dsimp only [Pt.U, Pt.locs, Pt.cells, Pt.slots] at X3 l3 y3 z3 st3 hQ3
  subst l3 y3 z3
  obtain ⟨rfl, N3q, hh3⟩ := hQ3
  have N3 := Fr.app N0 N3q
  refine own_st (fun _ => st3.trans) ?_
  show own_Rch _ _ _ _ T3 (mkF m 17 #[oR b, oI (2 : Int32), oI (3 : Int32)] [])
  refine own_st (fun _ => XS.aloadN X3.here hx rfl (hb hby own_d9_17) rfl rfl) ?_
  show own_Rch _ _ _ _ T3 (mkF m 18 #[oR b, oI (2 : Int32), oI (3 : Int32)] [(.ref b)])
  refine own_st (fun _ => XS.iloadN X3.here hx rfl (hb hby own_d9_18) rfl) ?_
  show own_Rch _ _ _ _ T3 (mkF m 19 #[oR b, oI (2 : Int32), oI (3 : Int32)] [(.int (3 : Int32)), (.ref b)])
  obtain ⟨T4, h4, X4, e4, W4, st4⟩ := putF X3 hx hZ hown (host := "") (Or.inl (hw _ (own_m 16 rfl))) Via.refl hh3 Fn Eb (Or.inl (hw _ (own_m 17 rfl))) (hw _ (own_m 10 rfl)) (ty := .int) (by decide) rfl rfl (g := (mkF m 19 #[oR b, oI (2 : Int32), oI (3 : Int32)] [(.int (3 : Int32)), (.ref b)])) rfl rfl (hb hby own_d9_19)
  refine own_st st4 ?_
  have Fw4 := Fn.same W4
  have N4 := Fr.snoc X4 N3 ga
  have O0_x4 := O0.wr W4 ga
  have Eb_x4 := Eb.wr W4
  have Fw_x4 := Fw.other W4 (Or.inr (slot_ne (Or.inl (hw _ (own_m 30 rfl))) (Or.inl (hw _ (own_m 17 rfl))) (by decide) (t := (.array .long)) (t' := .int) (by decide) (by decide)))
  have Va_x4 := Va.other W4 (Ne.symm (Exa.neArv Eb Va (hw _ (own_m 10 rfl))))
  have K0_x4 := K0.wr W4 (Or.inl (own_m 0 rfl))
  show own_Rch _ _ _ _ T4 (mkF m 22 #[oR b, oI (2 : Int32), oI (3 : Int32)] [])
  refine own_retV X4 hx Bd.notSynchronized Bd.returns (hb hby own_d9_22) (by decide) (by decide) ?_
  rw [e4]
  exact ⟨rfl, N4, K0_x4, Fw_x4, _, Fw4, Or.inl ⟨hc9_2, rfl⟩⟩
 · -- pc 9: False
  refine own_st (fun _ => XS.icmpYes X1.here hx rfl (pc0 := 9) (pc' := 22) rfl (hb hby own_d9_9) rfl (flt hc9_2).2.1 (by decide) (by decide)) ?_
  show own_Rch _ _ _ _ T1 (mkF m 22 #[oR b, oI (2 : Int32), oI (3 : Int32)] [])
  refine own_retV X1 hx Bd.notSynchronized Bd.returns (hb hby own_d9_22) (by decide) (by decide) ?_
  rw [e1]
  exact ⟨rfl, N0, K0, Fw, _, Fn, Or.inr ⟨hc9_2, rfl⟩⟩
def own_Q_own_ec4 (Z : State) (b : Addr) (y : Addr) (ka : ClassId) (vs : List Value) (h0 : Heap) (n0 : Nat) (v : Option Value) (h : Heap) (L : List Loc) : Prop := v = none ∧ Fr n0 L ∧ h = h0
set_option maxRecDepth 65536 in
set_option maxHeartbeats 40000000 in
theorem own_ec4 (l : Launch) (Z : State) (a0 : Array Value) (hw : ∀ d ∈ tables_1, d.before a0 Z = true) (ws : List Jvm.Cond) (b : Addr) (y : Addr) (ka : ClassId) (vs : List Value) (h0 : Heap) (n0 : Nat) (O0 : Old Z n0 h0) (Fw : Fld Z h0 b "java/util/BitSet" "words" "[J" (.ref y)) (Va : Arv Z h0 y ka .long (5 : Int32) vs (.long (0 : Int64))) :
    MetFree l (⟨"java/util/BitSet", "ensureCapacity", "(I)V"⟩ : MethodName) (head1 (Jvm.Cond.code (⟨"java/util/BitSet", "ensureCapacity", "(I)V"⟩ : MethodName) jdk_92_method_14_code 3 none :: ws) ({ frames := 0, cells := 0, slots := 0, locals := 0 } : Room)) (fun args_ U => args_ = #[(.ref b), (.int (4 : Int32))] ∧ Z.Warmed39 U.vm ∧ U.heap = h0) (fun _ _ _ _ _ => True) (fun _ U o U' => ∃ v L, o = .returned v ∧ (own_Q_own_ec4 Z b y ka vs h0 n0) v U'.heap L ∧ FrameEnd U o U' L ({ frames := 0, cells := 0, slots := 0, locals := 0 } : Room).cells ({ frames := 0, cells := 0, slots := 0, locals := 0 } : Room).slots) := by
 refine MetFree.of_bodySF (plainFor_of_name own_pn0) hisR ?_
 intro p e s m args below meth c s₁ Bd hml0 hP hK
 obtain ⟨rfl, hZ, hh⟩ := hP
 have hx := Bd.exec
 have hby := Bd.bytes
 have hml : c.maxLocals = 3 := hml0
 have hown : s.vm.findClass "java/util/BitSet" = some m.cls := findClass_of_methodNamed Bd.named
 have hnm := (name_of_methodNamed Bd.named Bd.method).1
 have X0 : Stand p l e ({ frames := 0, cells := 0, slots := 0, locals := 0 } : Room) s m #[(.ref b), (.int (4 : Int32))] below meth c s₁ [] 0 0 := Stand.of_body Bd
 have e0 : s₁.heap = h0 := by rw [← hh, Bd.state]; rfl
 have N0 := Fr.nil n0
 refine own_close (s := s) (Q := (own_Q_own_ec4 Z b y ka vs h0 n0)) (C := (({ frames := 0, cells := 0, slots := 0, locals := 0 } : Room)).cells) (N := (({ frames := 0, cells := 0, slots := 0, locals := 0 } : Room)).slots) (own_st (fun _ kt => castTop (own_ef10 m b (4 : Int32)) kt) ?_)
 show own_Rch _ _ _ _ s₁ (mkF m 0 #[oR b, oI (4 : Int32), .unset] [])
 refine own_st (fun _ => XS.aloadN X0.here hx rfl (hb hby own_d10_0) rfl rfl) ?_
 show own_Rch _ _ _ _ s₁ (mkF m 1 #[oR b, oI (4 : Int32), .unset] [(.ref b)])
 obtain ⟨T1, X1, e1, st1⟩ := getF X0 hx hZ hown (host := "") (Or.inl (hw _ (own_m 29 rfl))) Via.refl e0 Fw (g := (mkF m 1 #[oR b, oI (4 : Int32), .unset] [(.ref b)])) rfl rfl (hb hby own_d10_1)
 refine own_st st1 ?_
 show own_Rch _ _ _ _ T1 (mkF m 4 #[oR b, oI (4 : Int32), .unset] [(.ref y)])
 obtain ⟨cl2, Ar2, -, S2, M2, -, -⟩ := id Va
 refine own_st (X1.arraylength hx (by rw [e1]; exact Ar2.1) (State.isArrayOf_alike (hZ).alike Ar2.2.1) (g := (mkF m 4 #[oR b, oI (4 : Int32), .unset] [(.ref y)])) rfl rfl (hb hby own_d10_4)) ?_
 rw [len_of S2 M2]
 show own_Rch _ _ _ _ T1 (mkF m 5 #[oR b, oI (4 : Int32), .unset] [(.int (5 : Int32))])
 refine own_st (fun _ => XS.iloadN X1.here hx rfl (hb hby own_d10_5) rfl) ?_
 show own_Rch _ _ _ _ T1 (mkF m 6 #[oR b, oI (4 : Int32), .unset] [(.int (4 : Int32)), (.int (5 : Int32))])
 refine own_st (fun _ => XS.icmpYes X1.here hx rfl (pc0 := 6) (pc' := 38) rfl (hb hby own_d10_6) rfl (flt ((by decide) : ¬ ((5 : Int32) < (4 : Int32)))).2.1 (by decide) (by decide)) ?_
 show own_Rch _ _ _ _ T1 (mkF m 38 #[oR b, oI (4 : Int32), .unset] [])
 refine own_retV X1 hx Bd.notSynchronized Bd.returns (hb hby own_d10_38) (by decide) (by decide) ?_
 rw [e1]
 exact ⟨rfl, N0, rfl⟩
def own_Q_own_ex4 (Z : State) (b : Addr) (y : Addr) (ka : ClassId) (nn : Int32) (vs : List Value) (h0 : Heap) (n0 : Nat) (v : Option Value) (h : Heap) (L : List Loc) : Prop := v = none ∧ Fr n0 L ∧ Keep h0 h [b] ∧ Fld Z h b "java/util/BitSet" "words" "[J" (.ref y) ∧ ∃ n' : Int32, Fld Z h b "java/util/BitSet" "wordsInUse" "I" (.int n') ∧ ((nn < (4 : Int32) ∧ n' = (4 : Int32)) ∨ (¬ nn < (4 : Int32) ∧ n' = nn))
set_option maxRecDepth 65536 in
set_option maxHeartbeats 40000000 in
theorem own_ex4 (l : Launch) (Z : State) (a0 : Array Value) (hw : ∀ d ∈ tables_1, d.before a0 Z = true) (ws : List Jvm.Cond) (b : Addr) (y : Addr) (ka : ClassId) (nn : Int32) (vs : List Value) (h0 : Heap) (n0 : Nat) (O0 : Old Z n0 h0) (Eb : Exa Z h0 b "java/util/BitSet") (Fw : Fld Z h0 b "java/util/BitSet" "words" "[J" (.ref y)) (Fn : Fld Z h0 b "java/util/BitSet" "wordsInUse" "I" (.int nn)) (Va : Arv Z h0 y ka .long (5 : Int32) vs (.long (0 : Int64))) (ga : n0 ≤ b) :
    MetFree l (⟨"java/util/BitSet", "expandTo", "(I)V"⟩ : MethodName) (head1 (Jvm.Cond.code (⟨"java/util/BitSet", "expandTo", "(I)V"⟩ : MethodName) jdk_92_method_15_code 3 none :: ws) ({ frames := 1, cells := 0, slots := 0, locals := 14 } : Room)) (fun args_ U => args_ = #[(.ref b), (.int (3 : Int32))] ∧ Z.Warmed39 U.vm ∧ U.heap = h0) (fun _ _ _ _ _ => True) (fun _ U o U' => ∃ v L, o = .returned v ∧ (own_Q_own_ex4 Z b y ka nn vs h0 n0) v U'.heap L ∧ FrameEnd U o U' L ({ frames := 1, cells := 0, slots := 0, locals := 14 } : Room).cells ({ frames := 1, cells := 0, slots := 0, locals := 14 } : Room).slots) := by
 refine MetFree.of_bodySF (plainFor_of_name own_pn0) hisR ?_
 intro p e s m args below meth c s₁ Bd hml0 hP hK
 obtain ⟨rfl, hZ, hh⟩ := hP
 have hx := Bd.exec
 have hby := Bd.bytes
 have hml : c.maxLocals = 3 := hml0
 have hown : s.vm.findClass "java/util/BitSet" = some m.cls := findClass_of_methodNamed Bd.named
 have hnm := (name_of_methodNamed Bd.named Bd.method).1
 have X0 : Stand p l e ({ frames := 1, cells := 0, slots := 0, locals := 14 } : Room) s m #[(.ref b), (.int (3 : Int32))] below meth c s₁ [] 0 0 := Stand.of_body Bd
 have e0 : s₁.heap = h0 := by rw [← hh, Bd.state]; rfl
 have N0 := Fr.nil n0
 refine own_close (s := s) (Q := (own_Q_own_ex4 Z b y ka nn vs h0 n0)) (C := (({ frames := 1, cells := 0, slots := 0, locals := 14 } : Room)).cells) (N := (({ frames := 1, cells := 0, slots := 0, locals := 14 } : Room)).slots) (own_st (fun _ kt => castTop (own_ef9 m b (3 : Int32)) kt) ?_)
 have K0 := Keep.refl h0 [b]
 show own_Rch _ _ _ _ s₁ (mkF m 0 #[oR b, oI (3 : Int32), .unset] [])
 refine own_st (fun _ => XS.iloadN X0.here hx rfl (hb hby own_d9_0) rfl) ?_
 show own_Rch _ _ _ _ s₁ (mkF m 1 #[oR b, oI (3 : Int32), .unset] [(.int (3 : Int32))])
 refine own_st (fun _ => XS.iconst X0.here hx rfl (hb hby own_d9_1)) ?_
 show own_Rch _ _ _ _ s₁ (mkF m 2 #[oR b, oI (3 : Int32), .unset] [(.int (1 : Int32)), (.int (3 : Int32))])
 refine own_st (fun _ => XS.iadd X0.here hx rfl (hb hby own_d9_2) rfl) ?_
 show own_Rch _ _ _ _ s₁ (mkF m 3 #[oR b, oI (3 : Int32), .unset] [(.int (4 : Int32))])
 refine own_st (fun _ => XS.istoreN X0.here hx rfl (hb hby own_d9_3) rfl (l' := #[oR b, oI (3 : Int32), oI (4 : Int32)]) rfl) ?_
 show own_Rch _ _ _ _ s₁ (mkF m 4 #[oR b, oI (3 : Int32), oI (4 : Int32)] [])
 refine own_st (fun _ => XS.aloadN X0.here hx rfl (hb hby own_d9_4) rfl rfl) ?_
 show own_Rch _ _ _ _ s₁ (mkF m 5 #[oR b, oI (3 : Int32), oI (4 : Int32)] [(.ref b)])
 obtain ⟨T1, X1, e1, st1⟩ := getF X0 hx hZ hown (host := "") (Or.inl (hw _ (own_m 16 rfl))) Via.refl e0 Fn (g := (mkF m 5 #[oR b, oI (3 : Int32), oI (4 : Int32)] [(.ref b)])) rfl rfl (hb hby own_d9_5)
 refine own_st st1 ?_
 show own_Rch _ _ _ _ T1 (mkF m 8 #[oR b, oI (3 : Int32), oI (4 : Int32)] [(.int nn)])
 refine own_st (fun _ => XS.iloadN X1.here hx rfl (hb hby own_d9_8) rfl) ?_
 show own_Rch _ _ _ _ T1 (mkF m 9 #[oR b, oI (3 : Int32), oI (4 : Int32)] [(.int (4 : Int32)), (.int nn)])
 by_cases hc9_2 : nn < (4 : Int32)
 · -- pc 9: True
  refine own_st (fun _ => XS.icmpNo X1.here hx rfl (hb hby own_d9_9) rfl (tlt hc9_2).2.1) ?_
  show own_Rch _ _ _ _ T1 (mkF m 12 #[oR b, oI (3 : Int32), oI (4 : Int32)] [])
  refine own_st (fun _ => XS.aloadN X1.here hx rfl (hb hby own_d9_12) rfl rfl) ?_
  show own_Rch _ _ _ _ T1 (mkF m 13 #[oR b, oI (3 : Int32), oI (4 : Int32)] [(.ref b)])
  refine own_st (fun _ => XS.iloadN X1.here hx rfl (hb hby own_d9_13) rfl) ?_
  show own_Rch _ _ _ _ T1 (mkF m 14 #[oR b, oI (3 : Int32), oI (4 : Int32)] [(.int (4 : Int32)), (.ref b)])
  obtain ⟨cq3, q3a, q3b⟩ := Eb.cell
  obtain ⟨_, _, ⟨T3, L3, k3, n3⟩, -, X3, ⟨Lc3, hQ3, l3, y3, z3⟩, st3⟩ := X1.privateBack hx (y := (⟨"java/util/BitSet", "ensureCapacity", "(I)V"⟩ : MethodName)) hown (mvT hZ (hw _ (own_m 51 rfl))) (mvT hZ (hw _ (own_m 52 rfl))) (mvT hZ (hw _ (own_m 54 rfl))) (Cond.privateMethod_at (mvP hZ (hw _ (own_m 53 rfl)) (args := #[]))) (mvT hZ (hw _ (own_m 55 rfl))) (by decide) (backOf (W := 0) (own_ec4 l Z a0 hw [] b y ka vs h0 n0 O0 Fw Va) hZ (hw _ (own_m 55 rfl)) (hw _ (own_m 11 rfl)) (by decide) (by decide)) (g := (mkF m 14 #[oR b, oI (3 : Int32), oI (4 : Int32)] [(.int (4 : Int32)), (.ref b)])) rfl (by rw [hml]; rfl) (Steps.refl _) (a := b) (by rw [e1]; exact q3a) q3b (argsL := [(.int (4 : Int32))]) (rest := []) (lenOf own_pd4 rfl) rfl (by show 2 * 0 + _ ≤ _; exact Nat.le_of_eq rfl) (hb hby own_d9_14) (fun _ _ => ⟨rfl, e1, (by decide : 0 + 0 ≤ _), (by decide : 0 + 0 ≤ _)⟩)
  dsimp only [Pt.U, Pt.locs, Pt.cells, Pt.slots] at X3 l3 y3 z3 st3 hQ3
  subst l3 y3 z3
  obtain ⟨rfl, N3q, hh3⟩ := hQ3
  have N3 := Fr.app N0 N3q
  refine own_st (fun _ => st3.trans) ?_
  show own_Rch _ _ _ _ T3 (mkF m 17 #[oR b, oI (3 : Int32), oI (4 : Int32)] [])
  refine own_st (fun _ => XS.aloadN X3.here hx rfl (hb hby own_d9_17) rfl rfl) ?_
  show own_Rch _ _ _ _ T3 (mkF m 18 #[oR b, oI (3 : Int32), oI (4 : Int32)] [(.ref b)])
  refine own_st (fun _ => XS.iloadN X3.here hx rfl (hb hby own_d9_18) rfl) ?_
  show own_Rch _ _ _ _ T3 (mkF m 19 #[oR b, oI (3 : Int32), oI (4 : Int32)] [(.int (4 : Int32)), (.ref b)])
  obtain ⟨T4, h4, X4, e4, W4, st4⟩ := putF X3 hx hZ hown (host := "") (Or.inl (hw _ (own_m 16 rfl))) Via.refl hh3 Fn Eb (Or.inl (hw _ (own_m 17 rfl))) (hw _ (own_m 10 rfl)) (ty := .int) (by decide) rfl rfl (g := (mkF m 19 #[oR b, oI (3 : Int32), oI (4 : Int32)] [(.int (4 : Int32)), (.ref b)])) rfl rfl (hb hby own_d9_19)
  refine own_st st4 ?_
  have Fw4 := Fn.same W4
  have N4 := Fr.snoc X4 N3 ga
  have O0_x4 := O0.wr W4 ga
  have Eb_x4 := Eb.wr W4
  have Fw_x4 := Fw.other W4 (Or.inr (slot_ne (Or.inl (hw _ (own_m 30 rfl))) (Or.inl (hw _ (own_m 17 rfl))) (by decide) (t := (.array .long)) (t' := .int) (by decide) (by decide)))
  have Va_x4 := Va.other W4 (Ne.symm (Exa.neArv Eb Va (hw _ (own_m 10 rfl))))
  have K0_x4 := K0.wr W4 (Or.inl (own_m 0 rfl))
  show own_Rch _ _ _ _ T4 (mkF m 22 #[oR b, oI (3 : Int32), oI (4 : Int32)] [])
  refine own_retV X4 hx Bd.notSynchronized Bd.returns (hb hby own_d9_22) (by decide) (by decide) ?_
  rw [e4]
  exact ⟨rfl, N4, K0_x4, Fw_x4, _, Fw4, Or.inl ⟨hc9_2, rfl⟩⟩
 · -- pc 9: False
  refine own_st (fun _ => XS.icmpYes X1.here hx rfl (pc0 := 9) (pc' := 22) rfl (hb hby own_d9_9) rfl (flt hc9_2).2.1 (by decide) (by decide)) ?_
  show own_Rch _ _ _ _ T1 (mkF m 22 #[oR b, oI (3 : Int32), oI (4 : Int32)] [])
  refine own_retV X1 hx Bd.notSynchronized Bd.returns (hb hby own_d9_22) (by decide) (by decide) ?_
  rw [e1]
  exact ⟨rfl, N0, K0, Fw, _, Fn, Or.inr ⟨hc9_2, rfl⟩⟩
def own_Q_set (Z : State) (b y : Addr) (ka : ClassId) (wa wb wc wd : Int64) (fi ti : Int32) (h0 : Heap) (n0 : Nat) (v : Option Value) (h : Heap) (L : List Loc) : Prop := v = none ∧ Fr n0 L ∧ Keep h0 h [b, y] ∧ ∃ (a1 a2 a3 a4 : Int64) (n' : Int32), own_St Z h b y ka a1 a2 a3 a4 n' ∧ own_setP (own_w wa wb wc wd) (own_w a1 a2 a3 a4) fi.toInt ti.toInt
theorem own_ef7 (m : MethodId) (x0 : Addr) (x1 : Int32) (x2 : Int32) : entryFrame m #[(.ref x0), (.int x1), (.int x2)] 10 = mkF m 0 #[.val (.ref x0), .val (.int x1), .val (.int x2), .unset, .unset, .unset, .unset, .unset, .unset, .unset] [] := by first | (simp [entryFrame, mkF, argsToLocals, Value.category]; done) | rfl
theorem own_d7_0 : decode jdk_92_method_21_code 0 = .ok (.iload_n 1, 1) := by decide +kernel
theorem own_d7_1 : decode jdk_92_method_21_code 1 = .ok (.iload_n 2, 1) := by decide +kernel
theorem own_d7_2 : decode jdk_92_method_21_code 2 = .ok (.invokestatic 161, 3) := by decide +kernel
theorem own_pd5 : parseMethodDescriptor "(II)V" = some ⟨[.int, .int], none⟩ := by decide +kernel
theorem own_d7_5 : decode jdk_92_method_21_code 5 = .ok (.iload_n 1, 1) := by decide +kernel
theorem own_d7_6 : decode jdk_92_method_21_code 6 = .ok (.iload_n 2, 1) := by decide +kernel
theorem own_d7_7 : decode jdk_92_method_21_code 7 = .ok (.if_icmp .ne 4, 3) := by decide +kernel
theorem own_d7_11 : decode jdk_92_method_21_code 11 = .ok (.iload_n 1, 1) := by decide +kernel
theorem own_d7_12 : decode jdk_92_method_21_code 12 = .ok (.invokestatic 52, 3) := by decide +kernel
theorem own_d7_15 : decode jdk_92_method_21_code 15 = .ok (.istore_n 3, 1) := by decide +kernel
theorem own_d7_16 : decode jdk_92_method_21_code 16 = .ok (.iload_n 2, 1) := by decide +kernel
theorem own_d7_17 : decode jdk_92_method_21_code 17 = .ok (.iconst 1, 1) := by decide +kernel
theorem own_d7_18 : decode jdk_92_method_21_code 18 = .ok (.isub, 1) := by decide +kernel
theorem own_d7_19 : decode jdk_92_method_21_code 19 = .ok (.invokestatic 52, 3) := by decide +kernel
theorem own_d7_22 : decode jdk_92_method_21_code 22 = .ok (.istore 4, 2) := by decide +kernel
theorem own_d7_24 : decode jdk_92_method_21_code 24 = .ok (.aload_n 0, 1) := by decide +kernel
theorem own_d7_25 : decode jdk_92_method_21_code 25 = .ok (.iload 4, 2) := by decide +kernel
theorem own_d7_27 : decode jdk_92_method_21_code 27 = .ok (.invokevirtual 155, 3) := by decide +kernel
theorem own_d7_30 : decode jdk_92_method_21_code 30 = .ok (.ldc2_w 165, 3) := by decide +kernel
theorem own_d7_33 : decode jdk_92_method_21_code 33 = .ok (.iload_n 1, 1) := by decide +kernel
theorem own_d7_34 : decode jdk_92_method_21_code 34 = .ok (.lshl, 1) := by decide +kernel
theorem own_d7_35 : decode jdk_92_method_21_code 35 = .ok (.lstore 5, 2) := by decide +kernel
theorem own_d7_37 : decode jdk_92_method_21_code 37 = .ok (.ldc2_w 165, 3) := by decide +kernel
theorem own_d7_40 : decode jdk_92_method_21_code 40 = .ok (.iload_n 2, 1) := by decide +kernel
theorem own_d7_41 : decode jdk_92_method_21_code 41 = .ok (.ineg, 1) := by decide +kernel
theorem own_d7_42 : decode jdk_92_method_21_code 42 = .ok (.lushr, 1) := by decide +kernel
theorem own_d7_43 : decode jdk_92_method_21_code 43 = .ok (.lstore 7, 2) := by decide +kernel
theorem own_d7_45 : decode jdk_92_method_21_code 45 = .ok (.iload_n 3, 1) := by decide +kernel
theorem own_d7_46 : decode jdk_92_method_21_code 46 = .ok (.iload 4, 2) := by decide +kernel
theorem own_d7_48 : decode jdk_92_method_21_code 48 = .ok (.if_icmp .ne 20, 3) := by decide +kernel
theorem own_d7_51 : decode jdk_92_method_21_code 51 = .ok (.aload_n 0, 1) := by decide +kernel
theorem own_d7_52 : decode jdk_92_method_21_code 52 = .ok (.getfield 11, 3) := by decide +kernel
theorem own_d7_55 : decode jdk_92_method_21_code 55 = .ok (.iload_n 3, 1) := by decide +kernel
theorem own_d7_56 : decode jdk_92_method_21_code 56 = .ok (.dup2, 1) := by decide +kernel
theorem own_d7_57 : decode jdk_92_method_21_code 57 = .ok (.laload, 1) := by decide +kernel
theorem own_d7_58 : decode jdk_92_method_21_code 58 = .ok (.lload 5, 2) := by decide +kernel
theorem own_d7_60 : decode jdk_92_method_21_code 60 = .ok (.lload 7, 2) := by decide +kernel
theorem own_d7_62 : decode jdk_92_method_21_code 62 = .ok (.land, 1) := by decide +kernel
theorem own_d7_63 : decode jdk_92_method_21_code 63 = .ok (.lor, 1) := by decide +kernel
theorem own_d7_64 : decode jdk_92_method_21_code 64 = .ok (.lastore, 1) := by decide +kernel
theorem own_d7_65 : decode jdk_92_method_21_code 65 = .ok (.goto 54, 3) := by decide +kernel
theorem own_d7_119 : decode jdk_92_method_21_code 119 = .ok (.aload_n 0, 1) := by decide +kernel
theorem own_d7_120 : decode jdk_92_method_21_code 120 = .ok (.invokevirtual 56, 3) := by decide +kernel
theorem own_d7_123 : decode jdk_92_method_21_code 123 = .ok (.return_, 1) := by decide +kernel
set_option maxRecDepth 65536 in
set_option maxHeartbeats 40000000 in
theorem own_set00 (l : Launch) (Z : State) (a0 : Array Value) (hw : ∀ d ∈ tables_1, d.before a0 Z = true) (ws : List Jvm.Cond) (b : Addr) (y : Addr) (ka : ClassId) (wa : Int64) (wb : Int64) (wc : Int64) (wd : Int64) (nn : Int32) (fi : Int32) (ti : Int32) (h0 : Heap) (n0 : Nat) (O0 : Old Z n0 h0) (SA : Sta Z Z.heap "java/util/BitSet" "$assertionsDisabled" "Z" (.int (1 : Int32))) (SS : own_St Z h0 b y ka wa wb wc wd nn) (hc : own_cls fi ti) (hf : (fi >>> ((6 : Int32) &&& 31)) = (0 : Int32)) (ht : ((ti - (1 : Int32)) >>> ((6 : Int32) &&& 31)) = (0 : Int32)) (ga : n0 ≤ b) (gy : n0 ≤ y) :
    MetFree l (⟨"java/util/BitSet", "set", "(II)V"⟩ : MethodName) (head1 (Jvm.Cond.code (⟨"java/util/BitSet", "set", "(II)V"⟩ : MethodName) jdk_92_method_21_code 10 none :: ws) ({ frames := 3, cells := 0, slots := 0, locals := 100 } : Room)) (fun args_ U => args_ = #[(.ref b), (.int fi), (.int ti)] ∧ Z.Warmed39 U.vm ∧ U.heap = h0) (fun _ _ _ _ _ => True) (fun _ U o U' => ∃ v L, o = .returned v ∧ (own_Q_set Z b y ka wa wb wc wd fi ti h0 n0) v U'.heap L ∧ FrameEnd U o U' L ({ frames := 3, cells := 0, slots := 0, locals := 100 } : Room).cells ({ frames := 3, cells := 0, slots := 0, locals := 100 } : Room).slots) := by
 refine MetFree.of_bodySF (plainFor_of_name own_pn0) hisR ?_
 intro p e s m args below meth c s₁ Bd hml0 hP hK
 obtain ⟨rfl, hZ, hh⟩ := hP
 have hx := Bd.exec
 have hby := Bd.bytes
 have hml : c.maxLocals = 10 := hml0
 have hown : s.vm.findClass "java/util/BitSet" = some m.cls := findClass_of_methodNamed Bd.named
 have hnm := (name_of_methodNamed Bd.named Bd.method).1
 have X0 : Stand p l e ({ frames := 3, cells := 0, slots := 0, locals := 100 } : Room) s m #[(.ref b), (.int fi), (.int ti)] below meth c s₁ [] 0 0 := Stand.of_body Bd
 have e0 : s₁.heap = h0 := by rw [← hh, Bd.state]; rfl
 have N0 := Fr.nil n0
 obtain ⟨Eb, Fw, Fn, Va, hW⟩ := SS
 have ci0 : (0 : Int32).toInt = 0 := by decide
 have ci1 : (1 : Int32).toInt = 1 := by decide
 have ci2 : (2 : Int32).toInt = 2 := by decide
 have ci3 : (3 : Int32).toInt = 3 := by decide
 have ci4 : (4 : Int32).toInt = 4 := by decide
 have ci16 : (16 : Int32).toInt = 16 := by decide
 have ci256 : (256 : Int32).toInt = 256 := by decide
 have ci65536 : (65536 : Int32).toInt = 65536 := by decide
 refine own_close (s := s) (Q := (own_Q_set Z b y ka wa wb wc wd fi ti h0 n0)) (C := (({ frames := 3, cells := 0, slots := 0, locals := 100 } : Room)).cells) (N := (({ frames := 3, cells := 0, slots := 0, locals := 100 } : Room)).slots) (own_st (fun _ kt => castTop (own_ef7 m b fi ti) kt) ?_)
 have K0 := Keep.refl h0 [b, y]
 show own_Rch _ _ _ _ s₁ (mkF m 0 #[oR b, oI fi, oI ti, .unset, .unset, .unset, .unset, .unset, .unset, .unset] [])
 refine own_st (fun _ => XS.iloadN X0.here hx rfl (hb hby own_d7_0) rfl) ?_
 show own_Rch _ _ _ _ s₁ (mkF m 1 #[oR b, oI fi, oI ti, .unset, .unset, .unset, .unset, .unset, .unset, .unset] [(.int fi)])
 refine own_st (fun _ => XS.iloadN X0.here hx rfl (hb hby own_d7_1) rfl) ?_
 show own_Rch _ _ _ _ s₁ (mkF m 2 #[oR b, oI fi, oI ti, .unset, .unset, .unset, .unset, .unset, .unset, .unset] [(.int ti), (.int fi)])
 obtain ⟨_, _, ⟨T1, L1, k1, n1⟩, -, X1, ⟨Lc1, hQ1, l1, y1, z1⟩, st1⟩ := Jvm.LawKit.callS X0 hx (y := (⟨"java/util/BitSet", "checkRange", "(II)V"⟩ : MethodName)) hown (mvT hZ (hw _ (own_m 43 rfl))) (mvT hZ (hw _ (own_m 44 rfl))) (mvT hZ (hw _ (own_m 11 rfl))) (mvT hZ (hw _ (own_m 45 rfl))) (by decide) (backOf (W := 0) (own_cr l Z a0 hw [] fi ti h0 n0 O0 hc) hZ (hw _ (own_m 45 rfl)) (hw _ (own_m 11 rfl)) (by decide) (by decide)) (g := (mkF m 2 #[oR b, oI fi, oI ti, .unset, .unset, .unset, .unset, .unset, .unset, .unset] [(.int ti), (.int fi)])) rfl (by rw [hml]; rfl) (argsL := [(.int fi), (.int ti)]) (rest := []) (lenOf own_pd5 rfl) rfl (by show 2 * 0 + _ ≤ _; exact Nat.le_of_eq rfl) (hb hby own_d7_2) (fun _ _ => ⟨rfl, e0, (by decide : 0 + 0 ≤ _), (by decide : 0 + 0 ≤ _)⟩)
 dsimp only [Pt.U, Pt.locs, Pt.cells, Pt.slots] at X1 l1 y1 z1 st1 hQ1
 subst l1 y1 z1
 obtain ⟨rfl, N1q, hh1⟩ := hQ1
 have N1 := Fr.app N0 N1q
 refine own_st st1 ?_
 show own_Rch _ _ _ _ T1 (mkF m 5 #[oR b, oI fi, oI ti, .unset, .unset, .unset, .unset, .unset, .unset, .unset] [])
 refine own_st (fun _ => XS.iloadN X1.here hx rfl (hb hby own_d7_5) rfl) ?_
 show own_Rch _ _ _ _ T1 (mkF m 6 #[oR b, oI fi, oI ti, .unset, .unset, .unset, .unset, .unset, .unset, .unset] [(.int fi)])
 refine own_st (fun _ => XS.iloadN X1.here hx rfl (hb hby own_d7_6) rfl) ?_
 show own_Rch _ _ _ _ T1 (mkF m 7 #[oR b, oI fi, oI ti, .unset, .unset, .unset, .unset, .unset, .unset, .unset] [(.int ti), (.int fi)])
 refine own_st (fun _ => XS.icmpYes X1.here hx rfl (pc0 := 7) (pc' := 11) rfl (hb hby own_d7_7) rfl (feq ((own_clsn hc).2.1 : ¬ (fi = ti))).2 (by decide) (by decide)) ?_
 show own_Rch _ _ _ _ T1 (mkF m 11 #[oR b, oI fi, oI ti, .unset, .unset, .unset, .unset, .unset, .unset, .unset] [])
 refine own_st (fun _ => XS.iloadN X1.here hx rfl (hb hby own_d7_11) rfl) ?_
 show own_Rch _ _ _ _ T1 (mkF m 12 #[oR b, oI fi, oI ti, .unset, .unset, .unset, .unset, .unset, .unset, .unset] [(.int fi)])
 obtain ⟨_, _, ⟨T2, L2, k2, n2⟩, -, X2, ⟨Lc2, hQ2, l2, y2, z2⟩, st2⟩ := Jvm.LawKit.callS X1 hx (y := (⟨"java/util/BitSet", "wordIndex", "(I)I"⟩ : MethodName)) hown (mvT hZ (hw _ (own_m 25 rfl))) (mvT hZ (hw _ (own_m 26 rfl))) (mvT hZ (hw _ (own_m 11 rfl))) (mvT hZ (hw _ (own_m 27 rfl))) (by decide) (backOf (W := 0) (own_wordIndex l Z a0 hw [] fi (0 : Int32) h0 n0 O0 hf) hZ (hw _ (own_m 27 rfl)) (hw _ (own_m 11 rfl)) (by decide) (by decide)) (g := (mkF m 12 #[oR b, oI fi, oI ti, .unset, .unset, .unset, .unset, .unset, .unset, .unset] [(.int fi)])) rfl (by rw [hml]; rfl) (argsL := [(.int fi)]) (rest := []) (lenOf own_pd0 rfl) rfl (by show 2 * 0 + _ ≤ _; exact Nat.le_of_eq rfl) (hb hby own_d7_12) (fun _ _ => ⟨rfl, hh1, (by decide : 0 + 0 ≤ _), (by decide : 0 + 0 ≤ _)⟩)
 dsimp only [Pt.U, Pt.locs, Pt.cells, Pt.slots] at X2 l2 y2 z2 st2 hQ2
 subst l2 y2 z2
 obtain ⟨rfl, N2q, hh2⟩ := hQ2
 have N2 := Fr.app N1 N2q
 refine own_st st2 ?_
 show own_Rch _ _ _ _ T2 (mkF m 15 #[oR b, oI fi, oI ti, .unset, .unset, .unset, .unset, .unset, .unset, .unset] [(.int (0 : Int32))])
 refine own_st (fun _ => XS.istoreN X2.here hx rfl (hb hby own_d7_15) rfl (l' := #[oR b, oI fi, oI ti, oI (0 : Int32), .unset, .unset, .unset, .unset, .unset, .unset]) rfl) ?_
 show own_Rch _ _ _ _ T2 (mkF m 16 #[oR b, oI fi, oI ti, oI (0 : Int32), .unset, .unset, .unset, .unset, .unset, .unset] [])
 refine own_st (fun _ => XS.iloadN X2.here hx rfl (hb hby own_d7_16) rfl) ?_
 show own_Rch _ _ _ _ T2 (mkF m 17 #[oR b, oI fi, oI ti, oI (0 : Int32), .unset, .unset, .unset, .unset, .unset, .unset] [(.int ti)])
 refine own_st (fun _ => XS.iconst X2.here hx rfl (hb hby own_d7_17)) ?_
 show own_Rch _ _ _ _ T2 (mkF m 18 #[oR b, oI fi, oI ti, oI (0 : Int32), .unset, .unset, .unset, .unset, .unset, .unset] [(.int (1 : Int32)), (.int ti)])
 refine own_st (fun _ => XS.isub X2.here hx rfl (hb hby own_d7_18) rfl) ?_
 show own_Rch _ _ _ _ T2 (mkF m 19 #[oR b, oI fi, oI ti, oI (0 : Int32), .unset, .unset, .unset, .unset, .unset, .unset] [(.int (ti - (1 : Int32)))])
 obtain ⟨_, _, ⟨T3, L3, k3, n3⟩, -, X3, ⟨Lc3, hQ3, l3, y3, z3⟩, st3⟩ := Jvm.LawKit.callS X2 hx (y := (⟨"java/util/BitSet", "wordIndex", "(I)I"⟩ : MethodName)) hown (mvT hZ (hw _ (own_m 25 rfl))) (mvT hZ (hw _ (own_m 26 rfl))) (mvT hZ (hw _ (own_m 11 rfl))) (mvT hZ (hw _ (own_m 27 rfl))) (by decide) (backOf (W := 0) (own_wordIndex l Z a0 hw [] (ti - (1 : Int32)) (0 : Int32) h0 n0 O0 ht) hZ (hw _ (own_m 27 rfl)) (hw _ (own_m 11 rfl)) (by decide) (by decide)) (g := (mkF m 19 #[oR b, oI fi, oI ti, oI (0 : Int32), .unset, .unset, .unset, .unset, .unset, .unset] [(.int (ti - (1 : Int32)))])) rfl (by rw [hml]; rfl) (argsL := [(.int (ti - (1 : Int32)))]) (rest := []) (lenOf own_pd0 rfl) rfl (by show 2 * 0 + _ ≤ _; exact Nat.le_of_eq rfl) (hb hby own_d7_19) (fun _ _ => ⟨rfl, hh2, (by decide : 0 + 0 ≤ _), (by decide : 0 + 0 ≤ _)⟩)
 dsimp only [Pt.U, Pt.locs, Pt.cells, Pt.slots] at X3 l3 y3 z3 st3 hQ3
 subst l3 y3 z3
 obtain ⟨rfl, N3q, hh3⟩ := hQ3
 have N3 := Fr.app N2 N3q
 refine own_st st3 ?_
 show own_Rch _ _ _ _ T3 (mkF m 22 #[oR b, oI fi, oI ti, oI (0 : Int32), .unset, .unset, .unset, .unset, .unset, .unset] [(.int (0 : Int32))])
 refine own_st (fun _ => XS.istore X3.here hx rfl (hb hby own_d7_22) rfl (l' := #[oR b, oI fi, oI ti, oI (0 : Int32), oI (0 : Int32), .unset, .unset, .unset, .unset, .unset]) rfl) ?_
 show own_Rch _ _ _ _ T3 (mkF m 24 #[oR b, oI fi, oI ti, oI (0 : Int32), oI (0 : Int32), .unset, .unset, .unset, .unset, .unset] [])
 refine own_st (fun _ => XS.aloadN X3.here hx rfl (hb hby own_d7_24) rfl rfl) ?_
 show own_Rch _ _ _ _ T3 (mkF m 25 #[oR b, oI fi, oI ti, oI (0 : Int32), oI (0 : Int32), .unset, .unset, .unset, .unset, .unset] [(.ref b)])
 refine own_st (fun _ => XS.iload X3.here hx rfl (hb hby own_d7_25) rfl) ?_
 show own_Rch _ _ _ _ T3 (mkF m 27 #[oR b, oI fi, oI ti, oI (0 : Int32), oI (0 : Int32), .unset, .unset, .unset, .unset, .unset] [(.int (0 : Int32)), (.ref b)])
 obtain ⟨cq4, q4a, q4b⟩ := Eb.cell
 obtain ⟨_, _, ⟨T4, L4, k4, n4⟩, -, X4, ⟨Lc4, hQ4, l4, y4, z4⟩, st4⟩ := X3.privateBack hx (y := (⟨"java/util/BitSet", "expandTo", "(I)V"⟩ : MethodName)) hown (mvT hZ (hw _ (own_m 46 rfl))) (mvT hZ (hw _ (own_m 47 rfl))) (mvT hZ (hw _ (own_m 49 rfl))) (Cond.privateMethod_at (mvP hZ (hw _ (own_m 48 rfl)) (args := #[]))) (mvT hZ (hw _ (own_m 50 rfl))) (by decide) (backOf (W := 0) (own_ex1 l Z a0 hw [] b y ka nn [(.long wa), (.long wb), (.long wc), (.long wd), (.long (0 : Int64))] h0 n0 O0 Eb Fw Fn Va ga) hZ (hw _ (own_m 50 rfl)) (hw _ (own_m 11 rfl)) (by decide) (by decide)) (g := (mkF m 27 #[oR b, oI fi, oI ti, oI (0 : Int32), oI (0 : Int32), .unset, .unset, .unset, .unset, .unset] [(.int (0 : Int32)), (.ref b)])) rfl (by rw [hml]; rfl) (Steps.refl _) (a := b) (by rw [hh3]; exact q4a) q4b (argsL := [(.int (0 : Int32))]) (rest := []) (lenOf own_pd4 rfl) rfl (by show 2 * 0 + _ ≤ _; exact Nat.le_of_eq rfl) (hb hby own_d7_27) (fun _ _ => ⟨rfl, hh3, (by decide : 0 + 0 ≤ _), (by decide : 0 + 0 ≤ _)⟩)
 dsimp only [Pt.U, Pt.locs, Pt.cells, Pt.slots] at X4 l4 y4 z4 st4 hQ4
 subst l4 y4 z4
 obtain ⟨rfl, N4q, K4, Fww4, nx4, Fn4, hx4⟩ := hQ4
 have N4 := Fr.app N3 N4q
 refine own_st (fun _ => st4.trans) ?_
 have O0_x4 := O0.keep K4 (allS ga all0)
 have Eb_x4 := Eb.keep K4
 have Va_x4 := Va.keep K4 (ninS (Ne.symm (Exa.neArv Eb Va (hw _ (own_m 10 rfl)))) nin0)
 have K0_x4 := K0.trans K4 (allS (Or.inl (own_m 0 rfl)) all0)
 show own_Rch _ _ _ _ T4 (mkF m 30 #[oR b, oI fi, oI ti, oI (0 : Int32), oI (0 : Int32), .unset, .unset, .unset, .unset, .unset] [])
 refine own_st (X4.ldc2Long hx hown (mvT hZ (hw _ (own_m 56 rfl))) (g := (mkF m 30 #[oR b, oI fi, oI ti, oI (0 : Int32), oI (0 : Int32), .unset, .unset, .unset, .unset, .unset] [])) rfl (hb hby own_d7_30)) ?_
 show own_Rch _ _ _ _ T4 (mkF m 33 #[oR b, oI fi, oI ti, oI (0 : Int32), oI (0 : Int32), .unset, .unset, .unset, .unset, .unset] [(.long (-1 : Int64))])
 refine own_st (fun _ => XS.iloadN X4.here hx rfl (hb hby own_d7_33) rfl) ?_
 show own_Rch _ _ _ _ T4 (mkF m 34 #[oR b, oI fi, oI ti, oI (0 : Int32), oI (0 : Int32), .unset, .unset, .unset, .unset, .unset] [(.int fi), (.long (-1 : Int64))])
 refine own_st (fun _ => XS.lshl X4.here hx rfl (hb hby own_d7_34) rfl) ?_
 show own_Rch _ _ _ _ T4 (mkF m 35 #[oR b, oI fi, oI ti, oI (0 : Int32), oI (0 : Int32), .unset, .unset, .unset, .unset, .unset] [(.long ((-1 : Int64) <<< (fi &&& 0x3f).toInt64))])
 refine own_st (fun _ => XS.lstore X4.here hx rfl (hb hby own_d7_35) rfl (l' := #[oR b, oI fi, oI ti, oI (0 : Int32), oI (0 : Int32), oL ((-1 : Int64) <<< (fi &&& 0x3f).toInt64), .second, .unset, .unset, .unset]) rfl) ?_
 show own_Rch _ _ _ _ T4 (mkF m 37 #[oR b, oI fi, oI ti, oI (0 : Int32), oI (0 : Int32), oL ((-1 : Int64) <<< (fi &&& 0x3f).toInt64), .second, .unset, .unset, .unset] [])
 refine own_st (X4.ldc2Long hx hown (mvT hZ (hw _ (own_m 56 rfl))) (g := (mkF m 37 #[oR b, oI fi, oI ti, oI (0 : Int32), oI (0 : Int32), oL ((-1 : Int64) <<< (fi &&& 0x3f).toInt64), .second, .unset, .unset, .unset] [])) rfl (hb hby own_d7_37)) ?_
 show own_Rch _ _ _ _ T4 (mkF m 40 #[oR b, oI fi, oI ti, oI (0 : Int32), oI (0 : Int32), oL ((-1 : Int64) <<< (fi &&& 0x3f).toInt64), .second, .unset, .unset, .unset] [(.long (-1 : Int64))])
 refine own_st (fun _ => XS.iloadN X4.here hx rfl (hb hby own_d7_40) rfl) ?_
 show own_Rch _ _ _ _ T4 (mkF m 41 #[oR b, oI fi, oI ti, oI (0 : Int32), oI (0 : Int32), oL ((-1 : Int64) <<< (fi &&& 0x3f).toInt64), .second, .unset, .unset, .unset] [(.int ti), (.long (-1 : Int64))])
 refine own_st (fun _ => XS.ineg X4.here hx rfl (hb hby own_d7_41) rfl) ?_
 show own_Rch _ _ _ _ T4 (mkF m 42 #[oR b, oI fi, oI ti, oI (0 : Int32), oI (0 : Int32), oL ((-1 : Int64) <<< (fi &&& 0x3f).toInt64), .second, .unset, .unset, .unset] [(.int (-ti)), (.long (-1 : Int64))])
 refine own_st (fun _ => XS.lushr X4.here hx rfl (hb hby own_d7_42) rfl) ?_
 show own_Rch _ _ _ _ T4 (mkF m 43 #[oR b, oI fi, oI ti, oI (0 : Int32), oI (0 : Int32), oL ((-1 : Int64) <<< (fi &&& 0x3f).toInt64), .second, .unset, .unset, .unset] [(.long (((-1 : Int64).toUInt64 >>> ((-ti) &&& 0x3f).toInt64.toUInt64).toInt64))])
 refine own_st (fun _ => XS.lstore X4.here hx rfl (hb hby own_d7_43) rfl (l' := #[oR b, oI fi, oI ti, oI (0 : Int32), oI (0 : Int32), oL ((-1 : Int64) <<< (fi &&& 0x3f).toInt64), .second, oL (((-1 : Int64).toUInt64 >>> ((-ti) &&& 0x3f).toInt64.toUInt64).toInt64), .second, .unset]) rfl) ?_
 show own_Rch _ _ _ _ T4 (mkF m 45 #[oR b, oI fi, oI ti, oI (0 : Int32), oI (0 : Int32), oL ((-1 : Int64) <<< (fi &&& 0x3f).toInt64), .second, oL (((-1 : Int64).toUInt64 >>> ((-ti) &&& 0x3f).toInt64.toUInt64).toInt64), .second, .unset] [])
 refine own_st (fun _ => XS.iloadN X4.here hx rfl (hb hby own_d7_45) rfl) ?_
 show own_Rch _ _ _ _ T4 (mkF m 46 #[oR b, oI fi, oI ti, oI (0 : Int32), oI (0 : Int32), oL ((-1 : Int64) <<< (fi &&& 0x3f).toInt64), .second, oL (((-1 : Int64).toUInt64 >>> ((-ti) &&& 0x3f).toInt64.toUInt64).toInt64), .second, .unset] [(.int (0 : Int32))])
 refine own_st (fun _ => XS.iload X4.here hx rfl (hb hby own_d7_46) rfl) ?_
 show own_Rch _ _ _ _ T4 (mkF m 48 #[oR b, oI fi, oI ti, oI (0 : Int32), oI (0 : Int32), oL ((-1 : Int64) <<< (fi &&& 0x3f).toInt64), .second, oL (((-1 : Int64).toUInt64 >>> ((-ti) &&& 0x3f).toInt64.toUInt64).toInt64), .second, .unset] [(.int (0 : Int32)), (.int (0 : Int32))])
 refine own_st (fun _ => XS.icmpNo X4.here hx rfl (hb hby own_d7_48) rfl (teq (rfl : (0 : Int32) = (0 : Int32))).2) ?_
 show own_Rch _ _ _ _ T4 (mkF m 51 #[oR b, oI fi, oI ti, oI (0 : Int32), oI (0 : Int32), oL ((-1 : Int64) <<< (fi &&& 0x3f).toInt64), .second, oL (((-1 : Int64).toUInt64 >>> ((-ti) &&& 0x3f).toInt64.toUInt64).toInt64), .second, .unset] [])
 refine own_st (fun _ => XS.aloadN X4.here hx rfl (hb hby own_d7_51) rfl rfl) ?_
 show own_Rch _ _ _ _ T4 (mkF m 52 #[oR b, oI fi, oI ti, oI (0 : Int32), oI (0 : Int32), oL ((-1 : Int64) <<< (fi &&& 0x3f).toInt64), .second, oL (((-1 : Int64).toUInt64 >>> ((-ti) &&& 0x3f).toInt64.toUInt64).toInt64), .second, .unset] [(.ref b)])
 obtain ⟨T5, X5, e5, st5⟩ := getF X4 hx hZ hown (host := "") (Or.inl (hw _ (own_m 29 rfl))) Via.refl rfl Fww4 (g := (mkF m 52 #[oR b, oI fi, oI ti, oI (0 : Int32), oI (0 : Int32), oL ((-1 : Int64) <<< (fi &&& 0x3f).toInt64), .second, oL (((-1 : Int64).toUInt64 >>> ((-ti) &&& 0x3f).toInt64.toUInt64).toInt64), .second, .unset] [(.ref b)])) rfl rfl (hb hby own_d7_52)
 refine own_st st5 ?_
 show own_Rch _ _ _ _ T5 (mkF m 55 #[oR b, oI fi, oI ti, oI (0 : Int32), oI (0 : Int32), oL ((-1 : Int64) <<< (fi &&& 0x3f).toInt64), .second, oL (((-1 : Int64).toUInt64 >>> ((-ti) &&& 0x3f).toInt64.toUInt64).toInt64), .second, .unset] [(.ref y)])
 refine own_st (fun _ => XS.iloadN X5.here hx rfl (hb hby own_d7_55) rfl) ?_
 show own_Rch _ _ _ _ T5 (mkF m 56 #[oR b, oI fi, oI ti, oI (0 : Int32), oI (0 : Int32), oL ((-1 : Int64) <<< (fi &&& 0x3f).toInt64), .second, oL (((-1 : Int64).toUInt64 >>> ((-ti) &&& 0x3f).toInt64.toUInt64).toInt64), .second, .unset] [(.int (0 : Int32)), (.ref y)])
 refine own_st (fun _ => XT.dup2 X5.here hx rfl (hb hby own_d7_56) rfl rfl rfl) ?_
 show own_Rch _ _ _ _ T5 (mkF m 57 #[oR b, oI fi, oI ti, oI (0 : Int32), oI (0 : Int32), oL ((-1 : Int64) <<< (fi &&& 0x3f).toInt64), .second, oL (((-1 : Int64).toUInt64 >>> ((-ti) &&& 0x3f).toInt64.toUInt64).toInt64), .second, .unset] [(.int (0 : Int32)), (.ref y), (.int (0 : Int32)), (.ref y)])
 obtain ⟨cl6, Ar6, q6, S6, M6, H6, G6⟩ := id Va_x4
 have hin6 : ¬ ((0 : Int32) < 0 ∨ cl6.slots.size ≤ ((0 : Int32)).toNatClampNeg) := inb_of S6 ⟨by decide, by decide⟩
 refine own_st (X5.laload hx (j := (0 : Int32)) (v := (.long wa)) (by rw [e5]; exact Ar6.1) (State.isArrayOf_alike (hZ).alike Ar6.2.1) Ar6.2.2 hin6 (H6.at hin6 rfl) (g := (mkF m 57 #[oR b, oI fi, oI ti, oI (0 : Int32), oI (0 : Int32), oL ((-1 : Int64) <<< (fi &&& 0x3f).toInt64), .second, oL (((-1 : Int64).toUInt64 >>> ((-ti) &&& 0x3f).toInt64.toUInt64).toInt64), .second, .unset] [(.int (0 : Int32)), (.ref y), (.int (0 : Int32)), (.ref y)])) rfl rfl (hb hby own_d7_57)) ?_
 show own_Rch _ _ _ _ T5 (mkF m 58 #[oR b, oI fi, oI ti, oI (0 : Int32), oI (0 : Int32), oL ((-1 : Int64) <<< (fi &&& 0x3f).toInt64), .second, oL (((-1 : Int64).toUInt64 >>> ((-ti) &&& 0x3f).toInt64.toUInt64).toInt64), .second, .unset] [(.long wa), (.int (0 : Int32)), (.ref y)])
 refine own_st (fun _ => XS.lload X5.here hx rfl (hb hby own_d7_58) rfl) ?_
 show own_Rch _ _ _ _ T5 (mkF m 60 #[oR b, oI fi, oI ti, oI (0 : Int32), oI (0 : Int32), oL ((-1 : Int64) <<< (fi &&& 0x3f).toInt64), .second, oL (((-1 : Int64).toUInt64 >>> ((-ti) &&& 0x3f).toInt64.toUInt64).toInt64), .second, .unset] [(.long ((-1 : Int64) <<< (fi &&& 0x3f).toInt64)), (.long wa), (.int (0 : Int32)), (.ref y)])
 refine own_st (fun _ => XS.lload X5.here hx rfl (hb hby own_d7_60) rfl) ?_
 show own_Rch _ _ _ _ T5 (mkF m 62 #[oR b, oI fi, oI ti, oI (0 : Int32), oI (0 : Int32), oL ((-1 : Int64) <<< (fi &&& 0x3f).toInt64), .second, oL (((-1 : Int64).toUInt64 >>> ((-ti) &&& 0x3f).toInt64.toUInt64).toInt64), .second, .unset] [(.long (((-1 : Int64).toUInt64 >>> ((-ti) &&& 0x3f).toInt64.toUInt64).toInt64)), (.long ((-1 : Int64) <<< (fi &&& 0x3f).toInt64)), (.long wa), (.int (0 : Int32)), (.ref y)])
 refine own_st (fun _ => XS.land X5.here hx rfl (hb hby own_d7_62) rfl) ?_
 show own_Rch _ _ _ _ T5 (mkF m 63 #[oR b, oI fi, oI ti, oI (0 : Int32), oI (0 : Int32), oL ((-1 : Int64) <<< (fi &&& 0x3f).toInt64), .second, oL (((-1 : Int64).toUInt64 >>> ((-ti) &&& 0x3f).toInt64.toUInt64).toInt64), .second, .unset] [(.long (((-1 : Int64) <<< (fi &&& 0x3f).toInt64) &&& (((-1 : Int64).toUInt64 >>> ((-ti) &&& 0x3f).toInt64.toUInt64).toInt64))), (.long wa), (.int (0 : Int32)), (.ref y)])
 refine own_st (fun _ => XS.lor X5.here hx rfl (hb hby own_d7_63) rfl) ?_
 show own_Rch _ _ _ _ T5 (mkF m 64 #[oR b, oI fi, oI ti, oI (0 : Int32), oI (0 : Int32), oL ((-1 : Int64) <<< (fi &&& 0x3f).toInt64), .second, oL (((-1 : Int64).toUInt64 >>> ((-ti) &&& 0x3f).toInt64.toUInt64).toInt64), .second, .unset] [(.long (wa ||| (((-1 : Int64) <<< (fi &&& 0x3f).toInt64) &&& (((-1 : Int64).toUInt64 >>> ((-ti) &&& 0x3f).toInt64.toUInt64).toInt64)))), (.int (0 : Int32)), (.ref y)])
 obtain ⟨cl7, Ar7, q7, S7, M7, H7, G7⟩ := id Va_x4
 have hin7 : ¬ ((0 : Int32) < 0 ∨ cl7.slots.size ≤ ((0 : Int32)).toNatClampNeg) := inb_of S7 ⟨by decide, by decide⟩
 obtain ⟨T7, h7, X7, e7, W7, st7⟩ := stJ X5 hx hZ e5 Ar7 (j := (0 : Int32)) hin7 (g := (mkF m 64 #[oR b, oI fi, oI ti, oI (0 : Int32), oI (0 : Int32), oL ((-1 : Int64) <<< (fi &&& 0x3f).toInt64), .second, oL (((-1 : Int64).toUInt64 >>> ((-ti) &&& 0x3f).toInt64.toUInt64).toInt64), .second, .unset] [(.long (wa ||| (((-1 : Int64) <<< (fi &&& 0x3f).toInt64) &&& (((-1 : Int64).toUInt64 >>> ((-ti) &&& 0x3f).toInt64.toUInt64).toInt64)))), (.int (0 : Int32)), (.ref y)])) rfl rfl (hb hby own_d7_64)
 have V7 := Arv.set Ar7 q7 S7 M7 H7 G7 rfl W7 0 rfl (Nat.le_of_ble_eq_true rfl)
 have V7s : Arv Z h7 y ka .long (5 : Int32) [(.long (wa ||| (((-1 : Int64) <<< (fi &&& 0x3f).toInt64) &&& (((-1 : Int64).toUInt64 >>> ((-ti) &&& 0x3f).toInt64.toUInt64).toInt64)))), (.long wb), (.long wc), (.long wd), (.long (0 : Int64))] (.long (0 : Int64)) := V7
 have N7 := Fr.snoc X7 N4 gy
 refine own_st st7 ?_
 have O0_x7 := O0_x4.wr W7 gy
 have Eb_x7 := Eb_x4.wr W7
 have K0_x7 := K0_x4.wr W7 (Or.inl (own_m 1 rfl))
 have Fn4_x7 := Fn4.other W7 (Or.inl (Exa.neArv Eb_x4 Va_x4 (hw _ (own_m 10 rfl))))
 have Fww4_x7 := Fww4.other W7 (Or.inl (Exa.neArv Eb_x4 Va_x4 (hw _ (own_m 10 rfl))))
 show own_Rch _ _ _ _ T7 (mkF m 65 #[oR b, oI fi, oI ti, oI (0 : Int32), oI (0 : Int32), oL ((-1 : Int64) <<< (fi &&& 0x3f).toInt64), .second, oL (((-1 : Int64).toUInt64 >>> ((-ti) &&& 0x3f).toInt64.toUInt64).toInt64), .second, .unset] [])
 refine own_st (fun _ => XS.goto X7.here hx rfl (pc0 := 65) (pc' := 119) rfl (hb hby own_d7_65) (by decide) (by decide)) ?_
 show own_Rch _ _ _ _ T7 (mkF m 119 #[oR b, oI fi, oI ti, oI (0 : Int32), oI (0 : Int32), oL ((-1 : Int64) <<< (fi &&& 0x3f).toInt64), .second, oL (((-1 : Int64).toUInt64 >>> ((-ti) &&& 0x3f).toInt64.toUInt64).toInt64), .second, .unset] [])
 refine own_st (fun _ => XS.aloadN X7.here hx rfl (hb hby own_d7_119) rfl rfl) ?_
 show own_Rch _ _ _ _ T7 (mkF m 120 #[oR b, oI fi, oI ti, oI (0 : Int32), oI (0 : Int32), oL ((-1 : Int64) <<< (fi &&& 0x3f).toInt64), .second, oL (((-1 : Int64).toUInt64 >>> ((-ti) &&& 0x3f).toInt64.toUInt64).toInt64), .second, .unset] [(.ref b)])
 obtain ⟨cq8, q8a, q8b⟩ := Eb_x7.cell
 obtain ⟨_, _, ⟨T8, L8, k8, n8⟩, -, X8, ⟨Lc8, hQ8, l8, y8, z8⟩, st8⟩ := X7.privateBack hx (y := (⟨"java/util/BitSet", "checkInvariants", "()V"⟩ : MethodName)) hown (mvT hZ (hw _ (own_m 57 rfl))) (mvT hZ (hw _ (own_m 58 rfl))) (mvT hZ (hw _ (own_m 60 rfl))) (Cond.privateMethod_at (mvP hZ (hw _ (own_m 59 rfl)) (args := #[]))) (mvT hZ (hw _ (own_m 61 rfl))) (by decide) (backOf (W := 0) (own_ci l Z a0 hw [] b h7 n0 O0_x7 SA) hZ (hw _ (own_m 61 rfl)) (hw _ (own_m 11 rfl)) (by decide) (by decide)) (g := (mkF m 120 #[oR b, oI fi, oI ti, oI (0 : Int32), oI (0 : Int32), oL ((-1 : Int64) <<< (fi &&& 0x3f).toInt64), .second, oL (((-1 : Int64).toUInt64 >>> ((-ti) &&& 0x3f).toInt64.toUInt64).toInt64), .second, .unset] [(.ref b)])) rfl (by rw [hml]; rfl) (Steps.refl _) (a := b) (by rw [e7]; exact q8a) q8b (argsL := []) (rest := []) (lenOf own_pd2 rfl) rfl (by show 2 * 0 + _ ≤ _; exact Nat.le_of_eq rfl) (hb hby own_d7_120) (fun _ _ => ⟨rfl, e7, (by decide : 0 + 0 ≤ _), (by decide : 0 + 0 ≤ _)⟩)
 dsimp only [Pt.U, Pt.locs, Pt.cells, Pt.slots] at X8 l8 y8 z8 st8 hQ8
 subst l8 y8 z8
 obtain ⟨rfl, N8q, hh8⟩ := hQ8
 have N8 := Fr.app N7 N8q
 refine own_st (fun _ => st8.trans) ?_
 show own_Rch _ _ _ _ T8 (mkF m 123 #[oR b, oI fi, oI ti, oI (0 : Int32), oI (0 : Int32), oL ((-1 : Int64) <<< (fi &&& 0x3f).toInt64), .second, oL (((-1 : Int64).toUInt64 >>> ((-ti) &&& 0x3f).toInt64.toUInt64).toInt64), .second, .unset] [])
 refine own_retV X8 hx Bd.notSynchronized Bd.returns (hb hby own_d7_123) (by decide) (by decide) ?_
 rw [hh8]
 have eq1 := own_wi hf (show _ = ((0 : Nat) : Int) by decide)
 have eq2 := own_wi ht (show _ = ((0 : Nat) : Int) by decide)
 rw [own_clsq hc] at eq2
 have Sp : own_setP (own_w wa wb wc wd) (own_w (wa ||| (((-1 : Int64) <<< (fi &&& 0x3f).toInt64) &&& (((-1 : Int64).toUInt64 >>> ((-ti) &&& 0x3f).toInt64.toUInt64).toInt64))) wb wc wd) fi.toInt ti.toInt := own_set1 (q := 0) hc.1 hc.2.1 eq1 eq2 (fun v hv => by rcases v with _ | _ | _ | _ | v <;> first | rfl | exact absurd rfl hv) rfl
 have Hn := own_nx (c := (1 : Int32)) (a := ((0 : Nat) : Int) + 1) (by decide) hx4
 exact ⟨rfl, N8, K0_x7, _, _, _, _, _, ⟨Eb_x7, Fww4_x7, Fn4_x7, V7s, own_Wd_set hW Sp hc.1 hc.2.1 (by omega) (by rw [eq2]; exact Hn)⟩, Sp⟩
theorem own_d7_68 : decode jdk_92_method_21_code 68 = .ok (.aload_n 0, 1) := by decide +kernel
theorem own_d7_69 : decode jdk_92_method_21_code 69 = .ok (.getfield 11, 3) := by decide +kernel
theorem own_d7_72 : decode jdk_92_method_21_code 72 = .ok (.iload_n 3, 1) := by decide +kernel
theorem own_d7_73 : decode jdk_92_method_21_code 73 = .ok (.dup2, 1) := by decide +kernel
theorem own_d7_74 : decode jdk_92_method_21_code 74 = .ok (.laload, 1) := by decide +kernel
theorem own_d7_75 : decode jdk_92_method_21_code 75 = .ok (.lload 5, 2) := by decide +kernel
theorem own_d7_77 : decode jdk_92_method_21_code 77 = .ok (.lor, 1) := by decide +kernel
theorem own_d7_78 : decode jdk_92_method_21_code 78 = .ok (.lastore, 1) := by decide +kernel
theorem own_d7_79 : decode jdk_92_method_21_code 79 = .ok (.iload_n 3, 1) := by decide +kernel
theorem own_d7_80 : decode jdk_92_method_21_code 80 = .ok (.iconst 1, 1) := by decide +kernel
theorem own_d7_81 : decode jdk_92_method_21_code 81 = .ok (.iadd, 1) := by decide +kernel
theorem own_d7_82 : decode jdk_92_method_21_code 82 = .ok (.istore 9, 2) := by decide +kernel
theorem own_d7_84 : decode jdk_92_method_21_code 84 = .ok (.iload 9, 2) := by decide +kernel
theorem own_d7_86 : decode jdk_92_method_21_code 86 = .ok (.iload 4, 2) := by decide +kernel
theorem own_d7_88 : decode jdk_92_method_21_code 88 = .ok (.if_icmp .ge 19, 3) := by decide +kernel
theorem own_d7_107 : decode jdk_92_method_21_code 107 = .ok (.aload_n 0, 1) := by decide +kernel
theorem own_d7_108 : decode jdk_92_method_21_code 108 = .ok (.getfield 11, 3) := by decide +kernel
theorem own_d7_111 : decode jdk_92_method_21_code 111 = .ok (.iload 4, 2) := by decide +kernel
theorem own_d7_113 : decode jdk_92_method_21_code 113 = .ok (.dup2, 1) := by decide +kernel
theorem own_d7_114 : decode jdk_92_method_21_code 114 = .ok (.laload, 1) := by decide +kernel
theorem own_d7_115 : decode jdk_92_method_21_code 115 = .ok (.lload 7, 2) := by decide +kernel
theorem own_d7_117 : decode jdk_92_method_21_code 117 = .ok (.lor, 1) := by decide +kernel
theorem own_d7_118 : decode jdk_92_method_21_code 118 = .ok (.lastore, 1) := by decide +kernel
set_option maxRecDepth 65536 in
set_option maxHeartbeats 40000000 in
theorem own_set01 (l : Launch) (Z : State) (a0 : Array Value) (hw : ∀ d ∈ tables_1, d.before a0 Z = true) (ws : List Jvm.Cond) (b : Addr) (y : Addr) (ka : ClassId) (wa : Int64) (wb : Int64) (wc : Int64) (wd : Int64) (nn : Int32) (fi : Int32) (ti : Int32) (h0 : Heap) (n0 : Nat) (O0 : Old Z n0 h0) (SA : Sta Z Z.heap "java/util/BitSet" "$assertionsDisabled" "Z" (.int (1 : Int32))) (SS : own_St Z h0 b y ka wa wb wc wd nn) (hc : own_cls fi ti) (hf : (fi >>> ((6 : Int32) &&& 31)) = (0 : Int32)) (ht : ((ti - (1 : Int32)) >>> ((6 : Int32) &&& 31)) = (1 : Int32)) (ga : n0 ≤ b) (gy : n0 ≤ y) :
    MetFree l (⟨"java/util/BitSet", "set", "(II)V"⟩ : MethodName) (head1 (Jvm.Cond.code (⟨"java/util/BitSet", "set", "(II)V"⟩ : MethodName) jdk_92_method_21_code 10 none :: ws) ({ frames := 3, cells := 0, slots := 0, locals := 100 } : Room)) (fun args_ U => args_ = #[(.ref b), (.int fi), (.int ti)] ∧ Z.Warmed39 U.vm ∧ U.heap = h0) (fun _ _ _ _ _ => True) (fun _ U o U' => ∃ v L, o = .returned v ∧ (own_Q_set Z b y ka wa wb wc wd fi ti h0 n0) v U'.heap L ∧ FrameEnd U o U' L ({ frames := 3, cells := 0, slots := 0, locals := 100 } : Room).cells ({ frames := 3, cells := 0, slots := 0, locals := 100 } : Room).slots) := by
 refine MetFree.of_bodySF (plainFor_of_name own_pn0) hisR ?_
 intro p e s m args below meth c s₁ Bd hml0 hP hK
 obtain ⟨rfl, hZ, hh⟩ := hP
 have hx := Bd.exec
 have hby := Bd.bytes
 have hml : c.maxLocals = 10 := hml0
 have hown : s.vm.findClass "java/util/BitSet" = some m.cls := findClass_of_methodNamed Bd.named
 have hnm := (name_of_methodNamed Bd.named Bd.method).1
 have X0 : Stand p l e ({ frames := 3, cells := 0, slots := 0, locals := 100 } : Room) s m #[(.ref b), (.int fi), (.int ti)] below meth c s₁ [] 0 0 := Stand.of_body Bd
 have e0 : s₁.heap = h0 := by rw [← hh, Bd.state]; rfl
 have N0 := Fr.nil n0
 obtain ⟨Eb, Fw, Fn, Va, hW⟩ := SS
 have ci0 : (0 : Int32).toInt = 0 := by decide
 have ci1 : (1 : Int32).toInt = 1 := by decide
 have ci2 : (2 : Int32).toInt = 2 := by decide
 have ci3 : (3 : Int32).toInt = 3 := by decide
 have ci4 : (4 : Int32).toInt = 4 := by decide
 have ci16 : (16 : Int32).toInt = 16 := by decide
 have ci256 : (256 : Int32).toInt = 256 := by decide
 have ci65536 : (65536 : Int32).toInt = 65536 := by decide
 refine own_close (s := s) (Q := (own_Q_set Z b y ka wa wb wc wd fi ti h0 n0)) (C := (({ frames := 3, cells := 0, slots := 0, locals := 100 } : Room)).cells) (N := (({ frames := 3, cells := 0, slots := 0, locals := 100 } : Room)).slots) (own_st (fun _ kt => castTop (own_ef7 m b fi ti) kt) ?_)
 have K0 := Keep.refl h0 [b, y]
 show own_Rch _ _ _ _ s₁ (mkF m 0 #[oR b, oI fi, oI ti, .unset, .unset, .unset, .unset, .unset, .unset, .unset] [])
 refine own_st (fun _ => XS.iloadN X0.here hx rfl (hb hby own_d7_0) rfl) ?_
 show own_Rch _ _ _ _ s₁ (mkF m 1 #[oR b, oI fi, oI ti, .unset, .unset, .unset, .unset, .unset, .unset, .unset] [(.int fi)])
 refine own_st (fun _ => XS.iloadN X0.here hx rfl (hb hby own_d7_1) rfl) ?_
 show own_Rch _ _ _ _ s₁ (mkF m 2 #[oR b, oI fi, oI ti, .unset, .unset, .unset, .unset, .unset, .unset, .unset] [(.int ti), (.int fi)])
 obtain ⟨_, _, ⟨T1, L1, k1, n1⟩, -, X1, ⟨Lc1, hQ1, l1, y1, z1⟩, st1⟩ := Jvm.LawKit.callS X0 hx (y := (⟨"java/util/BitSet", "checkRange", "(II)V"⟩ : MethodName)) hown (mvT hZ (hw _ (own_m 43 rfl))) (mvT hZ (hw _ (own_m 44 rfl))) (mvT hZ (hw _ (own_m 11 rfl))) (mvT hZ (hw _ (own_m 45 rfl))) (by decide) (backOf (W := 0) (own_cr l Z a0 hw [] fi ti h0 n0 O0 hc) hZ (hw _ (own_m 45 rfl)) (hw _ (own_m 11 rfl)) (by decide) (by decide)) (g := (mkF m 2 #[oR b, oI fi, oI ti, .unset, .unset, .unset, .unset, .unset, .unset, .unset] [(.int ti), (.int fi)])) rfl (by rw [hml]; rfl) (argsL := [(.int fi), (.int ti)]) (rest := []) (lenOf own_pd5 rfl) rfl (by show 2 * 0 + _ ≤ _; exact Nat.le_of_eq rfl) (hb hby own_d7_2) (fun _ _ => ⟨rfl, e0, (by decide : 0 + 0 ≤ _), (by decide : 0 + 0 ≤ _)⟩)
 dsimp only [Pt.U, Pt.locs, Pt.cells, Pt.slots] at X1 l1 y1 z1 st1 hQ1
 subst l1 y1 z1
 obtain ⟨rfl, N1q, hh1⟩ := hQ1
 have N1 := Fr.app N0 N1q
 refine own_st st1 ?_
 show own_Rch _ _ _ _ T1 (mkF m 5 #[oR b, oI fi, oI ti, .unset, .unset, .unset, .unset, .unset, .unset, .unset] [])
 refine own_st (fun _ => XS.iloadN X1.here hx rfl (hb hby own_d7_5) rfl) ?_
 show own_Rch _ _ _ _ T1 (mkF m 6 #[oR b, oI fi, oI ti, .unset, .unset, .unset, .unset, .unset, .unset, .unset] [(.int fi)])
 refine own_st (fun _ => XS.iloadN X1.here hx rfl (hb hby own_d7_6) rfl) ?_
 show own_Rch _ _ _ _ T1 (mkF m 7 #[oR b, oI fi, oI ti, .unset, .unset, .unset, .unset, .unset, .unset, .unset] [(.int ti), (.int fi)])
 refine own_st (fun _ => XS.icmpYes X1.here hx rfl (pc0 := 7) (pc' := 11) rfl (hb hby own_d7_7) rfl (feq ((own_clsn hc).2.1 : ¬ (fi = ti))).2 (by decide) (by decide)) ?_
 show own_Rch _ _ _ _ T1 (mkF m 11 #[oR b, oI fi, oI ti, .unset, .unset, .unset, .unset, .unset, .unset, .unset] [])
 refine own_st (fun _ => XS.iloadN X1.here hx rfl (hb hby own_d7_11) rfl) ?_
 show own_Rch _ _ _ _ T1 (mkF m 12 #[oR b, oI fi, oI ti, .unset, .unset, .unset, .unset, .unset, .unset, .unset] [(.int fi)])
 obtain ⟨_, _, ⟨T2, L2, k2, n2⟩, -, X2, ⟨Lc2, hQ2, l2, y2, z2⟩, st2⟩ := Jvm.LawKit.callS X1 hx (y := (⟨"java/util/BitSet", "wordIndex", "(I)I"⟩ : MethodName)) hown (mvT hZ (hw _ (own_m 25 rfl))) (mvT hZ (hw _ (own_m 26 rfl))) (mvT hZ (hw _ (own_m 11 rfl))) (mvT hZ (hw _ (own_m 27 rfl))) (by decide) (backOf (W := 0) (own_wordIndex l Z a0 hw [] fi (0 : Int32) h0 n0 O0 hf) hZ (hw _ (own_m 27 rfl)) (hw _ (own_m 11 rfl)) (by decide) (by decide)) (g := (mkF m 12 #[oR b, oI fi, oI ti, .unset, .unset, .unset, .unset, .unset, .unset, .unset] [(.int fi)])) rfl (by rw [hml]; rfl) (argsL := [(.int fi)]) (rest := []) (lenOf own_pd0 rfl) rfl (by show 2 * 0 + _ ≤ _; exact Nat.le_of_eq rfl) (hb hby own_d7_12) (fun _ _ => ⟨rfl, hh1, (by decide : 0 + 0 ≤ _), (by decide : 0 + 0 ≤ _)⟩)
 dsimp only [Pt.U, Pt.locs, Pt.cells, Pt.slots] at X2 l2 y2 z2 st2 hQ2
 subst l2 y2 z2
 obtain ⟨rfl, N2q, hh2⟩ := hQ2
 have N2 := Fr.app N1 N2q
 refine own_st st2 ?_
 show own_Rch _ _ _ _ T2 (mkF m 15 #[oR b, oI fi, oI ti, .unset, .unset, .unset, .unset, .unset, .unset, .unset] [(.int (0 : Int32))])
 refine own_st (fun _ => XS.istoreN X2.here hx rfl (hb hby own_d7_15) rfl (l' := #[oR b, oI fi, oI ti, oI (0 : Int32), .unset, .unset, .unset, .unset, .unset, .unset]) rfl) ?_
 show own_Rch _ _ _ _ T2 (mkF m 16 #[oR b, oI fi, oI ti, oI (0 : Int32), .unset, .unset, .unset, .unset, .unset, .unset] [])
 refine own_st (fun _ => XS.iloadN X2.here hx rfl (hb hby own_d7_16) rfl) ?_
 show own_Rch _ _ _ _ T2 (mkF m 17 #[oR b, oI fi, oI ti, oI (0 : Int32), .unset, .unset, .unset, .unset, .unset, .unset] [(.int ti)])
 refine own_st (fun _ => XS.iconst X2.here hx rfl (hb hby own_d7_17)) ?_
 show own_Rch _ _ _ _ T2 (mkF m 18 #[oR b, oI fi, oI ti, oI (0 : Int32), .unset, .unset, .unset, .unset, .unset, .unset] [(.int (1 : Int32)), (.int ti)])
 refine own_st (fun _ => XS.isub X2.here hx rfl (hb hby own_d7_18) rfl) ?_
 show own_Rch _ _ _ _ T2 (mkF m 19 #[oR b, oI fi, oI ti, oI (0 : Int32), .unset, .unset, .unset, .unset, .unset, .unset] [(.int (ti - (1 : Int32)))])
 obtain ⟨_, _, ⟨T3, L3, k3, n3⟩, -, X3, ⟨Lc3, hQ3, l3, y3, z3⟩, st3⟩ := Jvm.LawKit.callS X2 hx (y := (⟨"java/util/BitSet", "wordIndex", "(I)I"⟩ : MethodName)) hown (mvT hZ (hw _ (own_m 25 rfl))) (mvT hZ (hw _ (own_m 26 rfl))) (mvT hZ (hw _ (own_m 11 rfl))) (mvT hZ (hw _ (own_m 27 rfl))) (by decide) (backOf (W := 0) (own_wordIndex l Z a0 hw [] (ti - (1 : Int32)) (1 : Int32) h0 n0 O0 ht) hZ (hw _ (own_m 27 rfl)) (hw _ (own_m 11 rfl)) (by decide) (by decide)) (g := (mkF m 19 #[oR b, oI fi, oI ti, oI (0 : Int32), .unset, .unset, .unset, .unset, .unset, .unset] [(.int (ti - (1 : Int32)))])) rfl (by rw [hml]; rfl) (argsL := [(.int (ti - (1 : Int32)))]) (rest := []) (lenOf own_pd0 rfl) rfl (by show 2 * 0 + _ ≤ _; exact Nat.le_of_eq rfl) (hb hby own_d7_19) (fun _ _ => ⟨rfl, hh2, (by decide : 0 + 0 ≤ _), (by decide : 0 + 0 ≤ _)⟩)
 dsimp only [Pt.U, Pt.locs, Pt.cells, Pt.slots] at X3 l3 y3 z3 st3 hQ3
 subst l3 y3 z3
 obtain ⟨rfl, N3q, hh3⟩ := hQ3
 have N3 := Fr.app N2 N3q
 refine own_st st3 ?_
 show own_Rch _ _ _ _ T3 (mkF m 22 #[oR b, oI fi, oI ti, oI (0 : Int32), .unset, .unset, .unset, .unset, .unset, .unset] [(.int (1 : Int32))])
 refine own_st (fun _ => XS.istore X3.here hx rfl (hb hby own_d7_22) rfl (l' := #[oR b, oI fi, oI ti, oI (0 : Int32), oI (1 : Int32), .unset, .unset, .unset, .unset, .unset]) rfl) ?_
 show own_Rch _ _ _ _ T3 (mkF m 24 #[oR b, oI fi, oI ti, oI (0 : Int32), oI (1 : Int32), .unset, .unset, .unset, .unset, .unset] [])
 refine own_st (fun _ => XS.aloadN X3.here hx rfl (hb hby own_d7_24) rfl rfl) ?_
 show own_Rch _ _ _ _ T3 (mkF m 25 #[oR b, oI fi, oI ti, oI (0 : Int32), oI (1 : Int32), .unset, .unset, .unset, .unset, .unset] [(.ref b)])
 refine own_st (fun _ => XS.iload X3.here hx rfl (hb hby own_d7_25) rfl) ?_
 show own_Rch _ _ _ _ T3 (mkF m 27 #[oR b, oI fi, oI ti, oI (0 : Int32), oI (1 : Int32), .unset, .unset, .unset, .unset, .unset] [(.int (1 : Int32)), (.ref b)])
 obtain ⟨cq4, q4a, q4b⟩ := Eb.cell
 obtain ⟨_, _, ⟨T4, L4, k4, n4⟩, -, X4, ⟨Lc4, hQ4, l4, y4, z4⟩, st4⟩ := X3.privateBack hx (y := (⟨"java/util/BitSet", "expandTo", "(I)V"⟩ : MethodName)) hown (mvT hZ (hw _ (own_m 46 rfl))) (mvT hZ (hw _ (own_m 47 rfl))) (mvT hZ (hw _ (own_m 49 rfl))) (Cond.privateMethod_at (mvP hZ (hw _ (own_m 48 rfl)) (args := #[]))) (mvT hZ (hw _ (own_m 50 rfl))) (by decide) (backOf (W := 0) (own_ex2 l Z a0 hw [] b y ka nn [(.long wa), (.long wb), (.long wc), (.long wd), (.long (0 : Int64))] h0 n0 O0 Eb Fw Fn Va ga) hZ (hw _ (own_m 50 rfl)) (hw _ (own_m 11 rfl)) (by decide) (by decide)) (g := (mkF m 27 #[oR b, oI fi, oI ti, oI (0 : Int32), oI (1 : Int32), .unset, .unset, .unset, .unset, .unset] [(.int (1 : Int32)), (.ref b)])) rfl (by rw [hml]; rfl) (Steps.refl _) (a := b) (by rw [hh3]; exact q4a) q4b (argsL := [(.int (1 : Int32))]) (rest := []) (lenOf own_pd4 rfl) rfl (by show 2 * 0 + _ ≤ _; exact Nat.le_of_eq rfl) (hb hby own_d7_27) (fun _ _ => ⟨rfl, hh3, (by decide : 0 + 0 ≤ _), (by decide : 0 + 0 ≤ _)⟩)
 dsimp only [Pt.U, Pt.locs, Pt.cells, Pt.slots] at X4 l4 y4 z4 st4 hQ4
 subst l4 y4 z4
 obtain ⟨rfl, N4q, K4, Fww4, nx4, Fn4, hx4⟩ := hQ4
 have N4 := Fr.app N3 N4q
 refine own_st (fun _ => st4.trans) ?_
 have O0_x4 := O0.keep K4 (allS ga all0)
 have Eb_x4 := Eb.keep K4
 have Va_x4 := Va.keep K4 (ninS (Ne.symm (Exa.neArv Eb Va (hw _ (own_m 10 rfl)))) nin0)
 have K0_x4 := K0.trans K4 (allS (Or.inl (own_m 0 rfl)) all0)
 show own_Rch _ _ _ _ T4 (mkF m 30 #[oR b, oI fi, oI ti, oI (0 : Int32), oI (1 : Int32), .unset, .unset, .unset, .unset, .unset] [])
 refine own_st (X4.ldc2Long hx hown (mvT hZ (hw _ (own_m 56 rfl))) (g := (mkF m 30 #[oR b, oI fi, oI ti, oI (0 : Int32), oI (1 : Int32), .unset, .unset, .unset, .unset, .unset] [])) rfl (hb hby own_d7_30)) ?_
 show own_Rch _ _ _ _ T4 (mkF m 33 #[oR b, oI fi, oI ti, oI (0 : Int32), oI (1 : Int32), .unset, .unset, .unset, .unset, .unset] [(.long (-1 : Int64))])
 refine own_st (fun _ => XS.iloadN X4.here hx rfl (hb hby own_d7_33) rfl) ?_
 show own_Rch _ _ _ _ T4 (mkF m 34 #[oR b, oI fi, oI ti, oI (0 : Int32), oI (1 : Int32), .unset, .unset, .unset, .unset, .unset] [(.int fi), (.long (-1 : Int64))])
 refine own_st (fun _ => XS.lshl X4.here hx rfl (hb hby own_d7_34) rfl) ?_
 show own_Rch _ _ _ _ T4 (mkF m 35 #[oR b, oI fi, oI ti, oI (0 : Int32), oI (1 : Int32), .unset, .unset, .unset, .unset, .unset] [(.long ((-1 : Int64) <<< (fi &&& 0x3f).toInt64))])
 refine own_st (fun _ => XS.lstore X4.here hx rfl (hb hby own_d7_35) rfl (l' := #[oR b, oI fi, oI ti, oI (0 : Int32), oI (1 : Int32), oL ((-1 : Int64) <<< (fi &&& 0x3f).toInt64), .second, .unset, .unset, .unset]) rfl) ?_
 show own_Rch _ _ _ _ T4 (mkF m 37 #[oR b, oI fi, oI ti, oI (0 : Int32), oI (1 : Int32), oL ((-1 : Int64) <<< (fi &&& 0x3f).toInt64), .second, .unset, .unset, .unset] [])
 refine own_st (X4.ldc2Long hx hown (mvT hZ (hw _ (own_m 56 rfl))) (g := (mkF m 37 #[oR b, oI fi, oI ti, oI (0 : Int32), oI (1 : Int32), oL ((-1 : Int64) <<< (fi &&& 0x3f).toInt64), .second, .unset, .unset, .unset] [])) rfl (hb hby own_d7_37)) ?_
 show own_Rch _ _ _ _ T4 (mkF m 40 #[oR b, oI fi, oI ti, oI (0 : Int32), oI (1 : Int32), oL ((-1 : Int64) <<< (fi &&& 0x3f).toInt64), .second, .unset, .unset, .unset] [(.long (-1 : Int64))])
 refine own_st (fun _ => XS.iloadN X4.here hx rfl (hb hby own_d7_40) rfl) ?_
 show own_Rch _ _ _ _ T4 (mkF m 41 #[oR b, oI fi, oI ti, oI (0 : Int32), oI (1 : Int32), oL ((-1 : Int64) <<< (fi &&& 0x3f).toInt64), .second, .unset, .unset, .unset] [(.int ti), (.long (-1 : Int64))])
 refine own_st (fun _ => XS.ineg X4.here hx rfl (hb hby own_d7_41) rfl) ?_
 show own_Rch _ _ _ _ T4 (mkF m 42 #[oR b, oI fi, oI ti, oI (0 : Int32), oI (1 : Int32), oL ((-1 : Int64) <<< (fi &&& 0x3f).toInt64), .second, .unset, .unset, .unset] [(.int (-ti)), (.long (-1 : Int64))])
 refine own_st (fun _ => XS.lushr X4.here hx rfl (hb hby own_d7_42) rfl) ?_
 show own_Rch _ _ _ _ T4 (mkF m 43 #[oR b, oI fi, oI ti, oI (0 : Int32), oI (1 : Int32), oL ((-1 : Int64) <<< (fi &&& 0x3f).toInt64), .second, .unset, .unset, .unset] [(.long (((-1 : Int64).toUInt64 >>> ((-ti) &&& 0x3f).toInt64.toUInt64).toInt64))])
 refine own_st (fun _ => XS.lstore X4.here hx rfl (hb hby own_d7_43) rfl (l' := #[oR b, oI fi, oI ti, oI (0 : Int32), oI (1 : Int32), oL ((-1 : Int64) <<< (fi &&& 0x3f).toInt64), .second, oL (((-1 : Int64).toUInt64 >>> ((-ti) &&& 0x3f).toInt64.toUInt64).toInt64), .second, .unset]) rfl) ?_
 show own_Rch _ _ _ _ T4 (mkF m 45 #[oR b, oI fi, oI ti, oI (0 : Int32), oI (1 : Int32), oL ((-1 : Int64) <<< (fi &&& 0x3f).toInt64), .second, oL (((-1 : Int64).toUInt64 >>> ((-ti) &&& 0x3f).toInt64.toUInt64).toInt64), .second, .unset] [])
 refine own_st (fun _ => XS.iloadN X4.here hx rfl (hb hby own_d7_45) rfl) ?_
 show own_Rch _ _ _ _ T4 (mkF m 46 #[oR b, oI fi, oI ti, oI (0 : Int32), oI (1 : Int32), oL ((-1 : Int64) <<< (fi &&& 0x3f).toInt64), .second, oL (((-1 : Int64).toUInt64 >>> ((-ti) &&& 0x3f).toInt64.toUInt64).toInt64), .second, .unset] [(.int (0 : Int32))])
 refine own_st (fun _ => XS.iload X4.here hx rfl (hb hby own_d7_46) rfl) ?_
 show own_Rch _ _ _ _ T4 (mkF m 48 #[oR b, oI fi, oI ti, oI (0 : Int32), oI (1 : Int32), oL ((-1 : Int64) <<< (fi &&& 0x3f).toInt64), .second, oL (((-1 : Int64).toUInt64 >>> ((-ti) &&& 0x3f).toInt64.toUInt64).toInt64), .second, .unset] [(.int (1 : Int32)), (.int (0 : Int32))])
 refine own_st (fun _ => XS.icmpYes X4.here hx rfl (pc0 := 48) (pc' := 68) rfl (hb hby own_d7_48) rfl (feq ((by decide) : ¬ ((0 : Int32) = (1 : Int32)))).2 (by decide) (by decide)) ?_
 show own_Rch _ _ _ _ T4 (mkF m 68 #[oR b, oI fi, oI ti, oI (0 : Int32), oI (1 : Int32), oL ((-1 : Int64) <<< (fi &&& 0x3f).toInt64), .second, oL (((-1 : Int64).toUInt64 >>> ((-ti) &&& 0x3f).toInt64.toUInt64).toInt64), .second, .unset] [])
 refine own_st (fun _ => XS.aloadN X4.here hx rfl (hb hby own_d7_68) rfl rfl) ?_
 show own_Rch _ _ _ _ T4 (mkF m 69 #[oR b, oI fi, oI ti, oI (0 : Int32), oI (1 : Int32), oL ((-1 : Int64) <<< (fi &&& 0x3f).toInt64), .second, oL (((-1 : Int64).toUInt64 >>> ((-ti) &&& 0x3f).toInt64.toUInt64).toInt64), .second, .unset] [(.ref b)])
 obtain ⟨T5, X5, e5, st5⟩ := getF X4 hx hZ hown (host := "") (Or.inl (hw _ (own_m 29 rfl))) Via.refl rfl Fww4 (g := (mkF m 69 #[oR b, oI fi, oI ti, oI (0 : Int32), oI (1 : Int32), oL ((-1 : Int64) <<< (fi &&& 0x3f).toInt64), .second, oL (((-1 : Int64).toUInt64 >>> ((-ti) &&& 0x3f).toInt64.toUInt64).toInt64), .second, .unset] [(.ref b)])) rfl rfl (hb hby own_d7_69)
 refine own_st st5 ?_
 show own_Rch _ _ _ _ T5 (mkF m 72 #[oR b, oI fi, oI ti, oI (0 : Int32), oI (1 : Int32), oL ((-1 : Int64) <<< (fi &&& 0x3f).toInt64), .second, oL (((-1 : Int64).toUInt64 >>> ((-ti) &&& 0x3f).toInt64.toUInt64).toInt64), .second, .unset] [(.ref y)])
 refine own_st (fun _ => XS.iloadN X5.here hx rfl (hb hby own_d7_72) rfl) ?_
 show own_Rch _ _ _ _ T5 (mkF m 73 #[oR b, oI fi, oI ti, oI (0 : Int32), oI (1 : Int32), oL ((-1 : Int64) <<< (fi &&& 0x3f).toInt64), .second, oL (((-1 : Int64).toUInt64 >>> ((-ti) &&& 0x3f).toInt64.toUInt64).toInt64), .second, .unset] [(.int (0 : Int32)), (.ref y)])
 refine own_st (fun _ => XT.dup2 X5.here hx rfl (hb hby own_d7_73) rfl rfl rfl) ?_
 show own_Rch _ _ _ _ T5 (mkF m 74 #[oR b, oI fi, oI ti, oI (0 : Int32), oI (1 : Int32), oL ((-1 : Int64) <<< (fi &&& 0x3f).toInt64), .second, oL (((-1 : Int64).toUInt64 >>> ((-ti) &&& 0x3f).toInt64.toUInt64).toInt64), .second, .unset] [(.int (0 : Int32)), (.ref y), (.int (0 : Int32)), (.ref y)])
 obtain ⟨cl6, Ar6, q6, S6, M6, H6, G6⟩ := id Va_x4
 have hin6 : ¬ ((0 : Int32) < 0 ∨ cl6.slots.size ≤ ((0 : Int32)).toNatClampNeg) := inb_of S6 ⟨by decide, by decide⟩
 refine own_st (X5.laload hx (j := (0 : Int32)) (v := (.long wa)) (by rw [e5]; exact Ar6.1) (State.isArrayOf_alike (hZ).alike Ar6.2.1) Ar6.2.2 hin6 (H6.at hin6 rfl) (g := (mkF m 74 #[oR b, oI fi, oI ti, oI (0 : Int32), oI (1 : Int32), oL ((-1 : Int64) <<< (fi &&& 0x3f).toInt64), .second, oL (((-1 : Int64).toUInt64 >>> ((-ti) &&& 0x3f).toInt64.toUInt64).toInt64), .second, .unset] [(.int (0 : Int32)), (.ref y), (.int (0 : Int32)), (.ref y)])) rfl rfl (hb hby own_d7_74)) ?_
 show own_Rch _ _ _ _ T5 (mkF m 75 #[oR b, oI fi, oI ti, oI (0 : Int32), oI (1 : Int32), oL ((-1 : Int64) <<< (fi &&& 0x3f).toInt64), .second, oL (((-1 : Int64).toUInt64 >>> ((-ti) &&& 0x3f).toInt64.toUInt64).toInt64), .second, .unset] [(.long wa), (.int (0 : Int32)), (.ref y)])
 refine own_st (fun _ => XS.lload X5.here hx rfl (hb hby own_d7_75) rfl) ?_
 show own_Rch _ _ _ _ T5 (mkF m 77 #[oR b, oI fi, oI ti, oI (0 : Int32), oI (1 : Int32), oL ((-1 : Int64) <<< (fi &&& 0x3f).toInt64), .second, oL (((-1 : Int64).toUInt64 >>> ((-ti) &&& 0x3f).toInt64.toUInt64).toInt64), .second, .unset] [(.long ((-1 : Int64) <<< (fi &&& 0x3f).toInt64)), (.long wa), (.int (0 : Int32)), (.ref y)])
 refine own_st (fun _ => XS.lor X5.here hx rfl (hb hby own_d7_77) rfl) ?_
 show own_Rch _ _ _ _ T5 (mkF m 78 #[oR b, oI fi, oI ti, oI (0 : Int32), oI (1 : Int32), oL ((-1 : Int64) <<< (fi &&& 0x3f).toInt64), .second, oL (((-1 : Int64).toUInt64 >>> ((-ti) &&& 0x3f).toInt64.toUInt64).toInt64), .second, .unset] [(.long (wa ||| ((-1 : Int64) <<< (fi &&& 0x3f).toInt64))), (.int (0 : Int32)), (.ref y)])
 obtain ⟨cl7, Ar7, q7, S7, M7, H7, G7⟩ := id Va_x4
 have hin7 : ¬ ((0 : Int32) < 0 ∨ cl7.slots.size ≤ ((0 : Int32)).toNatClampNeg) := inb_of S7 ⟨by decide, by decide⟩
 obtain ⟨T7, h7, X7, e7, W7, st7⟩ := stJ X5 hx hZ e5 Ar7 (j := (0 : Int32)) hin7 (g := (mkF m 78 #[oR b, oI fi, oI ti, oI (0 : Int32), oI (1 : Int32), oL ((-1 : Int64) <<< (fi &&& 0x3f).toInt64), .second, oL (((-1 : Int64).toUInt64 >>> ((-ti) &&& 0x3f).toInt64.toUInt64).toInt64), .second, .unset] [(.long (wa ||| ((-1 : Int64) <<< (fi &&& 0x3f).toInt64))), (.int (0 : Int32)), (.ref y)])) rfl rfl (hb hby own_d7_78)
 have V7 := Arv.set Ar7 q7 S7 M7 H7 G7 rfl W7 0 rfl (Nat.le_of_ble_eq_true rfl)
 have V7s : Arv Z h7 y ka .long (5 : Int32) [(.long (wa ||| ((-1 : Int64) <<< (fi &&& 0x3f).toInt64))), (.long wb), (.long wc), (.long wd), (.long (0 : Int64))] (.long (0 : Int64)) := V7
 have N7 := Fr.snoc X7 N4 gy
 refine own_st st7 ?_
 have O0_x7 := O0_x4.wr W7 gy
 have Eb_x7 := Eb_x4.wr W7
 have K0_x7 := K0_x4.wr W7 (Or.inl (own_m 1 rfl))
 have Fn4_x7 := Fn4.other W7 (Or.inl (Exa.neArv Eb_x4 Va_x4 (hw _ (own_m 10 rfl))))
 have Fww4_x7 := Fww4.other W7 (Or.inl (Exa.neArv Eb_x4 Va_x4 (hw _ (own_m 10 rfl))))
 show own_Rch _ _ _ _ T7 (mkF m 79 #[oR b, oI fi, oI ti, oI (0 : Int32), oI (1 : Int32), oL ((-1 : Int64) <<< (fi &&& 0x3f).toInt64), .second, oL (((-1 : Int64).toUInt64 >>> ((-ti) &&& 0x3f).toInt64.toUInt64).toInt64), .second, .unset] [])
 refine own_st (fun _ => XS.iloadN X7.here hx rfl (hb hby own_d7_79) rfl) ?_
 show own_Rch _ _ _ _ T7 (mkF m 80 #[oR b, oI fi, oI ti, oI (0 : Int32), oI (1 : Int32), oL ((-1 : Int64) <<< (fi &&& 0x3f).toInt64), .second, oL (((-1 : Int64).toUInt64 >>> ((-ti) &&& 0x3f).toInt64.toUInt64).toInt64), .second, .unset] [(.int (0 : Int32))])
 refine own_st (fun _ => XS.iconst X7.here hx rfl (hb hby own_d7_80)) ?_
 show own_Rch _ _ _ _ T7 (mkF m 81 #[oR b, oI fi, oI ti, oI (0 : Int32), oI (1 : Int32), oL ((-1 : Int64) <<< (fi &&& 0x3f).toInt64), .second, oL (((-1 : Int64).toUInt64 >>> ((-ti) &&& 0x3f).toInt64.toUInt64).toInt64), .second, .unset] [(.int (1 : Int32)), (.int (0 : Int32))])
 refine own_st (fun _ => XS.iadd X7.here hx rfl (hb hby own_d7_81) rfl) ?_
 show own_Rch _ _ _ _ T7 (mkF m 82 #[oR b, oI fi, oI ti, oI (0 : Int32), oI (1 : Int32), oL ((-1 : Int64) <<< (fi &&& 0x3f).toInt64), .second, oL (((-1 : Int64).toUInt64 >>> ((-ti) &&& 0x3f).toInt64.toUInt64).toInt64), .second, .unset] [(.int (1 : Int32))])
 refine own_st (fun _ => XS.istore X7.here hx rfl (hb hby own_d7_82) rfl (l' := #[oR b, oI fi, oI ti, oI (0 : Int32), oI (1 : Int32), oL ((-1 : Int64) <<< (fi &&& 0x3f).toInt64), .second, oL (((-1 : Int64).toUInt64 >>> ((-ti) &&& 0x3f).toInt64.toUInt64).toInt64), .second, oI (1 : Int32)]) rfl) ?_
 show own_Rch _ _ _ _ T7 (mkF m 84 #[oR b, oI fi, oI ti, oI (0 : Int32), oI (1 : Int32), oL ((-1 : Int64) <<< (fi &&& 0x3f).toInt64), .second, oL (((-1 : Int64).toUInt64 >>> ((-ti) &&& 0x3f).toInt64.toUInt64).toInt64), .second, oI (1 : Int32)] [])
 refine own_st (fun _ => XS.iload X7.here hx rfl (hb hby own_d7_84) rfl) ?_
 show own_Rch _ _ _ _ T7 (mkF m 86 #[oR b, oI fi, oI ti, oI (0 : Int32), oI (1 : Int32), oL ((-1 : Int64) <<< (fi &&& 0x3f).toInt64), .second, oL (((-1 : Int64).toUInt64 >>> ((-ti) &&& 0x3f).toInt64.toUInt64).toInt64), .second, oI (1 : Int32)] [(.int (1 : Int32))])
 refine own_st (fun _ => XS.iload X7.here hx rfl (hb hby own_d7_86) rfl) ?_
 show own_Rch _ _ _ _ T7 (mkF m 88 #[oR b, oI fi, oI ti, oI (0 : Int32), oI (1 : Int32), oL ((-1 : Int64) <<< (fi &&& 0x3f).toInt64), .second, oL (((-1 : Int64).toUInt64 >>> ((-ti) &&& 0x3f).toInt64.toUInt64).toInt64), .second, oI (1 : Int32)] [(.int (1 : Int32)), (.int (1 : Int32))])
 refine own_st (fun _ => XS.icmpYes X7.here hx rfl (pc0 := 88) (pc' := 107) rfl (hb hby own_d7_88) rfl (flt ((by decide) : ¬ ((1 : Int32) < (1 : Int32)))).2.1 (by decide) (by decide)) ?_
 show own_Rch _ _ _ _ T7 (mkF m 107 #[oR b, oI fi, oI ti, oI (0 : Int32), oI (1 : Int32), oL ((-1 : Int64) <<< (fi &&& 0x3f).toInt64), .second, oL (((-1 : Int64).toUInt64 >>> ((-ti) &&& 0x3f).toInt64.toUInt64).toInt64), .second, oI (1 : Int32)] [])
 refine own_st (fun _ => XS.aloadN X7.here hx rfl (hb hby own_d7_107) rfl rfl) ?_
 show own_Rch _ _ _ _ T7 (mkF m 108 #[oR b, oI fi, oI ti, oI (0 : Int32), oI (1 : Int32), oL ((-1 : Int64) <<< (fi &&& 0x3f).toInt64), .second, oL (((-1 : Int64).toUInt64 >>> ((-ti) &&& 0x3f).toInt64.toUInt64).toInt64), .second, oI (1 : Int32)] [(.ref b)])
 obtain ⟨T8, X8, e8, st8⟩ := getF X7 hx hZ hown (host := "") (Or.inl (hw _ (own_m 29 rfl))) Via.refl e7 Fww4_x7 (g := (mkF m 108 #[oR b, oI fi, oI ti, oI (0 : Int32), oI (1 : Int32), oL ((-1 : Int64) <<< (fi &&& 0x3f).toInt64), .second, oL (((-1 : Int64).toUInt64 >>> ((-ti) &&& 0x3f).toInt64.toUInt64).toInt64), .second, oI (1 : Int32)] [(.ref b)])) rfl rfl (hb hby own_d7_108)
 refine own_st st8 ?_
 show own_Rch _ _ _ _ T8 (mkF m 111 #[oR b, oI fi, oI ti, oI (0 : Int32), oI (1 : Int32), oL ((-1 : Int64) <<< (fi &&& 0x3f).toInt64), .second, oL (((-1 : Int64).toUInt64 >>> ((-ti) &&& 0x3f).toInt64.toUInt64).toInt64), .second, oI (1 : Int32)] [(.ref y)])
 refine own_st (fun _ => XS.iload X8.here hx rfl (hb hby own_d7_111) rfl) ?_
 show own_Rch _ _ _ _ T8 (mkF m 113 #[oR b, oI fi, oI ti, oI (0 : Int32), oI (1 : Int32), oL ((-1 : Int64) <<< (fi &&& 0x3f).toInt64), .second, oL (((-1 : Int64).toUInt64 >>> ((-ti) &&& 0x3f).toInt64.toUInt64).toInt64), .second, oI (1 : Int32)] [(.int (1 : Int32)), (.ref y)])
 refine own_st (fun _ => XT.dup2 X8.here hx rfl (hb hby own_d7_113) rfl rfl rfl) ?_
 show own_Rch _ _ _ _ T8 (mkF m 114 #[oR b, oI fi, oI ti, oI (0 : Int32), oI (1 : Int32), oL ((-1 : Int64) <<< (fi &&& 0x3f).toInt64), .second, oL (((-1 : Int64).toUInt64 >>> ((-ti) &&& 0x3f).toInt64.toUInt64).toInt64), .second, oI (1 : Int32)] [(.int (1 : Int32)), (.ref y), (.int (1 : Int32)), (.ref y)])
 obtain ⟨cl9, Ar9, q9, S9, M9, H9, G9⟩ := id V7s
 have hin9 : ¬ ((1 : Int32) < 0 ∨ cl9.slots.size ≤ ((1 : Int32)).toNatClampNeg) := inb_of S9 ⟨by decide, by decide⟩
 refine own_st (X8.laload hx (j := (1 : Int32)) (v := (.long wb)) (by rw [e8]; exact Ar9.1) (State.isArrayOf_alike (hZ).alike Ar9.2.1) Ar9.2.2 hin9 (H9.at hin9 rfl) (g := (mkF m 114 #[oR b, oI fi, oI ti, oI (0 : Int32), oI (1 : Int32), oL ((-1 : Int64) <<< (fi &&& 0x3f).toInt64), .second, oL (((-1 : Int64).toUInt64 >>> ((-ti) &&& 0x3f).toInt64.toUInt64).toInt64), .second, oI (1 : Int32)] [(.int (1 : Int32)), (.ref y), (.int (1 : Int32)), (.ref y)])) rfl rfl (hb hby own_d7_114)) ?_
 show own_Rch _ _ _ _ T8 (mkF m 115 #[oR b, oI fi, oI ti, oI (0 : Int32), oI (1 : Int32), oL ((-1 : Int64) <<< (fi &&& 0x3f).toInt64), .second, oL (((-1 : Int64).toUInt64 >>> ((-ti) &&& 0x3f).toInt64.toUInt64).toInt64), .second, oI (1 : Int32)] [(.long wb), (.int (1 : Int32)), (.ref y)])
 refine own_st (fun _ => XS.lload X8.here hx rfl (hb hby own_d7_115) rfl) ?_
 show own_Rch _ _ _ _ T8 (mkF m 117 #[oR b, oI fi, oI ti, oI (0 : Int32), oI (1 : Int32), oL ((-1 : Int64) <<< (fi &&& 0x3f).toInt64), .second, oL (((-1 : Int64).toUInt64 >>> ((-ti) &&& 0x3f).toInt64.toUInt64).toInt64), .second, oI (1 : Int32)] [(.long (((-1 : Int64).toUInt64 >>> ((-ti) &&& 0x3f).toInt64.toUInt64).toInt64)), (.long wb), (.int (1 : Int32)), (.ref y)])
 refine own_st (fun _ => XS.lor X8.here hx rfl (hb hby own_d7_117) rfl) ?_
 show own_Rch _ _ _ _ T8 (mkF m 118 #[oR b, oI fi, oI ti, oI (0 : Int32), oI (1 : Int32), oL ((-1 : Int64) <<< (fi &&& 0x3f).toInt64), .second, oL (((-1 : Int64).toUInt64 >>> ((-ti) &&& 0x3f).toInt64.toUInt64).toInt64), .second, oI (1 : Int32)] [(.long (wb ||| (((-1 : Int64).toUInt64 >>> ((-ti) &&& 0x3f).toInt64.toUInt64).toInt64))), (.int (1 : Int32)), (.ref y)])
 obtain ⟨cl10, Ar10, q10, S10, M10, H10, G10⟩ := id V7s
 have hin10 : ¬ ((1 : Int32) < 0 ∨ cl10.slots.size ≤ ((1 : Int32)).toNatClampNeg) := inb_of S10 ⟨by decide, by decide⟩
 obtain ⟨T10, h10, X10, e10, W10, st10⟩ := stJ X8 hx hZ e8 Ar10 (j := (1 : Int32)) hin10 (g := (mkF m 118 #[oR b, oI fi, oI ti, oI (0 : Int32), oI (1 : Int32), oL ((-1 : Int64) <<< (fi &&& 0x3f).toInt64), .second, oL (((-1 : Int64).toUInt64 >>> ((-ti) &&& 0x3f).toInt64.toUInt64).toInt64), .second, oI (1 : Int32)] [(.long (wb ||| (((-1 : Int64).toUInt64 >>> ((-ti) &&& 0x3f).toInt64.toUInt64).toInt64))), (.int (1 : Int32)), (.ref y)])) rfl rfl (hb hby own_d7_118)
 have V10 := Arv.set Ar10 q10 S10 M10 H10 G10 rfl W10 1 rfl (Nat.le_of_ble_eq_true rfl)
 have V10s : Arv Z h10 y ka .long (5 : Int32) [(.long (wa ||| ((-1 : Int64) <<< (fi &&& 0x3f).toInt64))), (.long (wb ||| (((-1 : Int64).toUInt64 >>> ((-ti) &&& 0x3f).toInt64.toUInt64).toInt64))), (.long wc), (.long wd), (.long (0 : Int64))] (.long (0 : Int64)) := V10
 have N10 := Fr.snoc X10 N7 gy
 refine own_st st10 ?_
 have O0_x10 := O0_x7.wr W10 gy
 have Eb_x10 := Eb_x7.wr W10
 have K0_x10 := K0_x7.wr W10 (Or.inl (own_m 1 rfl))
 have Fn4_x10 := Fn4_x7.other W10 (Or.inl (Exa.neArv Eb_x7 V7s (hw _ (own_m 10 rfl))))
 have Fww4_x10 := Fww4_x7.other W10 (Or.inl (Exa.neArv Eb_x7 V7s (hw _ (own_m 10 rfl))))
 show own_Rch _ _ _ _ T10 (mkF m 119 #[oR b, oI fi, oI ti, oI (0 : Int32), oI (1 : Int32), oL ((-1 : Int64) <<< (fi &&& 0x3f).toInt64), .second, oL (((-1 : Int64).toUInt64 >>> ((-ti) &&& 0x3f).toInt64.toUInt64).toInt64), .second, oI (1 : Int32)] [])
 refine own_st (fun _ => XS.aloadN X10.here hx rfl (hb hby own_d7_119) rfl rfl) ?_
 show own_Rch _ _ _ _ T10 (mkF m 120 #[oR b, oI fi, oI ti, oI (0 : Int32), oI (1 : Int32), oL ((-1 : Int64) <<< (fi &&& 0x3f).toInt64), .second, oL (((-1 : Int64).toUInt64 >>> ((-ti) &&& 0x3f).toInt64.toUInt64).toInt64), .second, oI (1 : Int32)] [(.ref b)])
 obtain ⟨cq11, q11a, q11b⟩ := Eb_x10.cell
 obtain ⟨_, _, ⟨T11, L11, k11, n11⟩, -, X11, ⟨Lc11, hQ11, l11, y11, z11⟩, st11⟩ := X10.privateBack hx (y := (⟨"java/util/BitSet", "checkInvariants", "()V"⟩ : MethodName)) hown (mvT hZ (hw _ (own_m 57 rfl))) (mvT hZ (hw _ (own_m 58 rfl))) (mvT hZ (hw _ (own_m 60 rfl))) (Cond.privateMethod_at (mvP hZ (hw _ (own_m 59 rfl)) (args := #[]))) (mvT hZ (hw _ (own_m 61 rfl))) (by decide) (backOf (W := 0) (own_ci l Z a0 hw [] b h10 n0 O0_x10 SA) hZ (hw _ (own_m 61 rfl)) (hw _ (own_m 11 rfl)) (by decide) (by decide)) (g := (mkF m 120 #[oR b, oI fi, oI ti, oI (0 : Int32), oI (1 : Int32), oL ((-1 : Int64) <<< (fi &&& 0x3f).toInt64), .second, oL (((-1 : Int64).toUInt64 >>> ((-ti) &&& 0x3f).toInt64.toUInt64).toInt64), .second, oI (1 : Int32)] [(.ref b)])) rfl (by rw [hml]; rfl) (Steps.refl _) (a := b) (by rw [e10]; exact q11a) q11b (argsL := []) (rest := []) (lenOf own_pd2 rfl) rfl (by show 2 * 0 + _ ≤ _; exact Nat.le_of_eq rfl) (hb hby own_d7_120) (fun _ _ => ⟨rfl, e10, (by decide : 0 + 0 ≤ _), (by decide : 0 + 0 ≤ _)⟩)
 dsimp only [Pt.U, Pt.locs, Pt.cells, Pt.slots] at X11 l11 y11 z11 st11 hQ11
 subst l11 y11 z11
 obtain ⟨rfl, N11q, hh11⟩ := hQ11
 have N11 := Fr.app N10 N11q
 refine own_st (fun _ => st11.trans) ?_
 show own_Rch _ _ _ _ T11 (mkF m 123 #[oR b, oI fi, oI ti, oI (0 : Int32), oI (1 : Int32), oL ((-1 : Int64) <<< (fi &&& 0x3f).toInt64), .second, oL (((-1 : Int64).toUInt64 >>> ((-ti) &&& 0x3f).toInt64.toUInt64).toInt64), .second, oI (1 : Int32)] [])
 refine own_retV X11 hx Bd.notSynchronized Bd.returns (hb hby own_d7_123) (by decide) (by decide) ?_
 rw [hh11]
 have eq1 := own_wi hf (show _ = ((0 : Nat) : Int) by decide)
 have eq2 := own_wi ht (show _ = ((1 : Nat) : Int) by decide)
 rw [own_clsq hc] at eq2
 have Sp : own_setP (own_w wa wb wc wd) (own_w (wa ||| ((-1 : Int64) <<< (fi &&& 0x3f).toInt64)) (wb ||| (((-1 : Int64).toUInt64 >>> ((-ti) &&& 0x3f).toInt64.toUInt64).toInt64)) wc wd) fi.toInt ti.toInt := own_set2 (q := 0) hc.1 eq1 eq2 (fun v hv hv' => by rcases v with _ | _ | _ | _ | v <;> first | rfl | exact absurd rfl hv | exact absurd rfl hv') rfl rfl
 have Hn := own_nx (c := (2 : Int32)) (a := ((1 : Nat) : Int) + 1) (by decide) hx4
 exact ⟨rfl, N11, K0_x10, _, _, _, _, _, ⟨Eb_x10, Fww4_x10, Fn4_x10, V10s, own_Wd_set hW Sp hc.1 hc.2.1 (by omega) (by rw [eq2]; exact Hn)⟩, Sp⟩
set_option maxRecDepth 65536 in
set_option maxHeartbeats 40000000 in
theorem own_set11 (l : Launch) (Z : State) (a0 : Array Value) (hw : ∀ d ∈ tables_1, d.before a0 Z = true) (ws : List Jvm.Cond) (b : Addr) (y : Addr) (ka : ClassId) (wa : Int64) (wb : Int64) (wc : Int64) (wd : Int64) (nn : Int32) (fi : Int32) (ti : Int32) (h0 : Heap) (n0 : Nat) (O0 : Old Z n0 h0) (SA : Sta Z Z.heap "java/util/BitSet" "$assertionsDisabled" "Z" (.int (1 : Int32))) (SS : own_St Z h0 b y ka wa wb wc wd nn) (hc : own_cls fi ti) (hf : (fi >>> ((6 : Int32) &&& 31)) = (1 : Int32)) (ht : ((ti - (1 : Int32)) >>> ((6 : Int32) &&& 31)) = (1 : Int32)) (ga : n0 ≤ b) (gy : n0 ≤ y) :
    MetFree l (⟨"java/util/BitSet", "set", "(II)V"⟩ : MethodName) (head1 (Jvm.Cond.code (⟨"java/util/BitSet", "set", "(II)V"⟩ : MethodName) jdk_92_method_21_code 10 none :: ws) ({ frames := 3, cells := 0, slots := 0, locals := 100 } : Room)) (fun args_ U => args_ = #[(.ref b), (.int fi), (.int ti)] ∧ Z.Warmed39 U.vm ∧ U.heap = h0) (fun _ _ _ _ _ => True) (fun _ U o U' => ∃ v L, o = .returned v ∧ (own_Q_set Z b y ka wa wb wc wd fi ti h0 n0) v U'.heap L ∧ FrameEnd U o U' L ({ frames := 3, cells := 0, slots := 0, locals := 100 } : Room).cells ({ frames := 3, cells := 0, slots := 0, locals := 100 } : Room).slots) := by
 refine MetFree.of_bodySF (plainFor_of_name own_pn0) hisR ?_
 intro p e s m args below meth c s₁ Bd hml0 hP hK
 obtain ⟨rfl, hZ, hh⟩ := hP
 have hx := Bd.exec
 have hby := Bd.bytes
 have hml : c.maxLocals = 10 := hml0
 have hown : s.vm.findClass "java/util/BitSet" = some m.cls := findClass_of_methodNamed Bd.named
 have hnm := (name_of_methodNamed Bd.named Bd.method).1
 have X0 : Stand p l e ({ frames := 3, cells := 0, slots := 0, locals := 100 } : Room) s m #[(.ref b), (.int fi), (.int ti)] below meth c s₁ [] 0 0 := Stand.of_body Bd
 have e0 : s₁.heap = h0 := by rw [← hh, Bd.state]; rfl
 have N0 := Fr.nil n0
 obtain ⟨Eb, Fw, Fn, Va, hW⟩ := SS
 have ci0 : (0 : Int32).toInt = 0 := by decide
 have ci1 : (1 : Int32).toInt = 1 := by decide
 have ci2 : (2 : Int32).toInt = 2 := by decide
 have ci3 : (3 : Int32).toInt = 3 := by decide
 have ci4 : (4 : Int32).toInt = 4 := by decide
 have ci16 : (16 : Int32).toInt = 16 := by decide
 have ci256 : (256 : Int32).toInt = 256 := by decide
 have ci65536 : (65536 : Int32).toInt = 65536 := by decide
 refine own_close (s := s) (Q := (own_Q_set Z b y ka wa wb wc wd fi ti h0 n0)) (C := (({ frames := 3, cells := 0, slots := 0, locals := 100 } : Room)).cells) (N := (({ frames := 3, cells := 0, slots := 0, locals := 100 } : Room)).slots) (own_st (fun _ kt => castTop (own_ef7 m b fi ti) kt) ?_)
 have K0 := Keep.refl h0 [b, y]
 show own_Rch _ _ _ _ s₁ (mkF m 0 #[oR b, oI fi, oI ti, .unset, .unset, .unset, .unset, .unset, .unset, .unset] [])
 refine own_st (fun _ => XS.iloadN X0.here hx rfl (hb hby own_d7_0) rfl) ?_
 show own_Rch _ _ _ _ s₁ (mkF m 1 #[oR b, oI fi, oI ti, .unset, .unset, .unset, .unset, .unset, .unset, .unset] [(.int fi)])
 refine own_st (fun _ => XS.iloadN X0.here hx rfl (hb hby own_d7_1) rfl) ?_
 show own_Rch _ _ _ _ s₁ (mkF m 2 #[oR b, oI fi, oI ti, .unset, .unset, .unset, .unset, .unset, .unset, .unset] [(.int ti), (.int fi)])
 obtain ⟨_, _, ⟨T1, L1, k1, n1⟩, -, X1, ⟨Lc1, hQ1, l1, y1, z1⟩, st1⟩ := Jvm.LawKit.callS X0 hx (y := (⟨"java/util/BitSet", "checkRange", "(II)V"⟩ : MethodName)) hown (mvT hZ (hw _ (own_m 43 rfl))) (mvT hZ (hw _ (own_m 44 rfl))) (mvT hZ (hw _ (own_m 11 rfl))) (mvT hZ (hw _ (own_m 45 rfl))) (by decide) (backOf (W := 0) (own_cr l Z a0 hw [] fi ti h0 n0 O0 hc) hZ (hw _ (own_m 45 rfl)) (hw _ (own_m 11 rfl)) (by decide) (by decide)) (g := (mkF m 2 #[oR b, oI fi, oI ti, .unset, .unset, .unset, .unset, .unset, .unset, .unset] [(.int ti), (.int fi)])) rfl (by rw [hml]; rfl) (argsL := [(.int fi), (.int ti)]) (rest := []) (lenOf own_pd5 rfl) rfl (by show 2 * 0 + _ ≤ _; exact Nat.le_of_eq rfl) (hb hby own_d7_2) (fun _ _ => ⟨rfl, e0, (by decide : 0 + 0 ≤ _), (by decide : 0 + 0 ≤ _)⟩)
 dsimp only [Pt.U, Pt.locs, Pt.cells, Pt.slots] at X1 l1 y1 z1 st1 hQ1
 subst l1 y1 z1
 obtain ⟨rfl, N1q, hh1⟩ := hQ1
 have N1 := Fr.app N0 N1q
 refine own_st st1 ?_
 show own_Rch _ _ _ _ T1 (mkF m 5 #[oR b, oI fi, oI ti, .unset, .unset, .unset, .unset, .unset, .unset, .unset] [])
 refine own_st (fun _ => XS.iloadN X1.here hx rfl (hb hby own_d7_5) rfl) ?_
 show own_Rch _ _ _ _ T1 (mkF m 6 #[oR b, oI fi, oI ti, .unset, .unset, .unset, .unset, .unset, .unset, .unset] [(.int fi)])
 refine own_st (fun _ => XS.iloadN X1.here hx rfl (hb hby own_d7_6) rfl) ?_
 show own_Rch _ _ _ _ T1 (mkF m 7 #[oR b, oI fi, oI ti, .unset, .unset, .unset, .unset, .unset, .unset, .unset] [(.int ti), (.int fi)])
 refine own_st (fun _ => XS.icmpYes X1.here hx rfl (pc0 := 7) (pc' := 11) rfl (hb hby own_d7_7) rfl (feq ((own_clsn hc).2.1 : ¬ (fi = ti))).2 (by decide) (by decide)) ?_
 show own_Rch _ _ _ _ T1 (mkF m 11 #[oR b, oI fi, oI ti, .unset, .unset, .unset, .unset, .unset, .unset, .unset] [])
 refine own_st (fun _ => XS.iloadN X1.here hx rfl (hb hby own_d7_11) rfl) ?_
 show own_Rch _ _ _ _ T1 (mkF m 12 #[oR b, oI fi, oI ti, .unset, .unset, .unset, .unset, .unset, .unset, .unset] [(.int fi)])
 obtain ⟨_, _, ⟨T2, L2, k2, n2⟩, -, X2, ⟨Lc2, hQ2, l2, y2, z2⟩, st2⟩ := Jvm.LawKit.callS X1 hx (y := (⟨"java/util/BitSet", "wordIndex", "(I)I"⟩ : MethodName)) hown (mvT hZ (hw _ (own_m 25 rfl))) (mvT hZ (hw _ (own_m 26 rfl))) (mvT hZ (hw _ (own_m 11 rfl))) (mvT hZ (hw _ (own_m 27 rfl))) (by decide) (backOf (W := 0) (own_wordIndex l Z a0 hw [] fi (1 : Int32) h0 n0 O0 hf) hZ (hw _ (own_m 27 rfl)) (hw _ (own_m 11 rfl)) (by decide) (by decide)) (g := (mkF m 12 #[oR b, oI fi, oI ti, .unset, .unset, .unset, .unset, .unset, .unset, .unset] [(.int fi)])) rfl (by rw [hml]; rfl) (argsL := [(.int fi)]) (rest := []) (lenOf own_pd0 rfl) rfl (by show 2 * 0 + _ ≤ _; exact Nat.le_of_eq rfl) (hb hby own_d7_12) (fun _ _ => ⟨rfl, hh1, (by decide : 0 + 0 ≤ _), (by decide : 0 + 0 ≤ _)⟩)
 dsimp only [Pt.U, Pt.locs, Pt.cells, Pt.slots] at X2 l2 y2 z2 st2 hQ2
 subst l2 y2 z2
 obtain ⟨rfl, N2q, hh2⟩ := hQ2
 have N2 := Fr.app N1 N2q
 refine own_st st2 ?_
 show own_Rch _ _ _ _ T2 (mkF m 15 #[oR b, oI fi, oI ti, .unset, .unset, .unset, .unset, .unset, .unset, .unset] [(.int (1 : Int32))])
 refine own_st (fun _ => XS.istoreN X2.here hx rfl (hb hby own_d7_15) rfl (l' := #[oR b, oI fi, oI ti, oI (1 : Int32), .unset, .unset, .unset, .unset, .unset, .unset]) rfl) ?_
 show own_Rch _ _ _ _ T2 (mkF m 16 #[oR b, oI fi, oI ti, oI (1 : Int32), .unset, .unset, .unset, .unset, .unset, .unset] [])
 refine own_st (fun _ => XS.iloadN X2.here hx rfl (hb hby own_d7_16) rfl) ?_
 show own_Rch _ _ _ _ T2 (mkF m 17 #[oR b, oI fi, oI ti, oI (1 : Int32), .unset, .unset, .unset, .unset, .unset, .unset] [(.int ti)])
 refine own_st (fun _ => XS.iconst X2.here hx rfl (hb hby own_d7_17)) ?_
 show own_Rch _ _ _ _ T2 (mkF m 18 #[oR b, oI fi, oI ti, oI (1 : Int32), .unset, .unset, .unset, .unset, .unset, .unset] [(.int (1 : Int32)), (.int ti)])
 refine own_st (fun _ => XS.isub X2.here hx rfl (hb hby own_d7_18) rfl) ?_
 show own_Rch _ _ _ _ T2 (mkF m 19 #[oR b, oI fi, oI ti, oI (1 : Int32), .unset, .unset, .unset, .unset, .unset, .unset] [(.int (ti - (1 : Int32)))])
 obtain ⟨_, _, ⟨T3, L3, k3, n3⟩, -, X3, ⟨Lc3, hQ3, l3, y3, z3⟩, st3⟩ := Jvm.LawKit.callS X2 hx (y := (⟨"java/util/BitSet", "wordIndex", "(I)I"⟩ : MethodName)) hown (mvT hZ (hw _ (own_m 25 rfl))) (mvT hZ (hw _ (own_m 26 rfl))) (mvT hZ (hw _ (own_m 11 rfl))) (mvT hZ (hw _ (own_m 27 rfl))) (by decide) (backOf (W := 0) (own_wordIndex l Z a0 hw [] (ti - (1 : Int32)) (1 : Int32) h0 n0 O0 ht) hZ (hw _ (own_m 27 rfl)) (hw _ (own_m 11 rfl)) (by decide) (by decide)) (g := (mkF m 19 #[oR b, oI fi, oI ti, oI (1 : Int32), .unset, .unset, .unset, .unset, .unset, .unset] [(.int (ti - (1 : Int32)))])) rfl (by rw [hml]; rfl) (argsL := [(.int (ti - (1 : Int32)))]) (rest := []) (lenOf own_pd0 rfl) rfl (by show 2 * 0 + _ ≤ _; exact Nat.le_of_eq rfl) (hb hby own_d7_19) (fun _ _ => ⟨rfl, hh2, (by decide : 0 + 0 ≤ _), (by decide : 0 + 0 ≤ _)⟩)
 dsimp only [Pt.U, Pt.locs, Pt.cells, Pt.slots] at X3 l3 y3 z3 st3 hQ3
 subst l3 y3 z3
 obtain ⟨rfl, N3q, hh3⟩ := hQ3
 have N3 := Fr.app N2 N3q
 refine own_st st3 ?_
 show own_Rch _ _ _ _ T3 (mkF m 22 #[oR b, oI fi, oI ti, oI (1 : Int32), .unset, .unset, .unset, .unset, .unset, .unset] [(.int (1 : Int32))])
 refine own_st (fun _ => XS.istore X3.here hx rfl (hb hby own_d7_22) rfl (l' := #[oR b, oI fi, oI ti, oI (1 : Int32), oI (1 : Int32), .unset, .unset, .unset, .unset, .unset]) rfl) ?_
 show own_Rch _ _ _ _ T3 (mkF m 24 #[oR b, oI fi, oI ti, oI (1 : Int32), oI (1 : Int32), .unset, .unset, .unset, .unset, .unset] [])
 refine own_st (fun _ => XS.aloadN X3.here hx rfl (hb hby own_d7_24) rfl rfl) ?_
 show own_Rch _ _ _ _ T3 (mkF m 25 #[oR b, oI fi, oI ti, oI (1 : Int32), oI (1 : Int32), .unset, .unset, .unset, .unset, .unset] [(.ref b)])
 refine own_st (fun _ => XS.iload X3.here hx rfl (hb hby own_d7_25) rfl) ?_
 show own_Rch _ _ _ _ T3 (mkF m 27 #[oR b, oI fi, oI ti, oI (1 : Int32), oI (1 : Int32), .unset, .unset, .unset, .unset, .unset] [(.int (1 : Int32)), (.ref b)])
 obtain ⟨cq4, q4a, q4b⟩ := Eb.cell
 obtain ⟨_, _, ⟨T4, L4, k4, n4⟩, -, X4, ⟨Lc4, hQ4, l4, y4, z4⟩, st4⟩ := X3.privateBack hx (y := (⟨"java/util/BitSet", "expandTo", "(I)V"⟩ : MethodName)) hown (mvT hZ (hw _ (own_m 46 rfl))) (mvT hZ (hw _ (own_m 47 rfl))) (mvT hZ (hw _ (own_m 49 rfl))) (Cond.privateMethod_at (mvP hZ (hw _ (own_m 48 rfl)) (args := #[]))) (mvT hZ (hw _ (own_m 50 rfl))) (by decide) (backOf (W := 0) (own_ex2 l Z a0 hw [] b y ka nn [(.long wa), (.long wb), (.long wc), (.long wd), (.long (0 : Int64))] h0 n0 O0 Eb Fw Fn Va ga) hZ (hw _ (own_m 50 rfl)) (hw _ (own_m 11 rfl)) (by decide) (by decide)) (g := (mkF m 27 #[oR b, oI fi, oI ti, oI (1 : Int32), oI (1 : Int32), .unset, .unset, .unset, .unset, .unset] [(.int (1 : Int32)), (.ref b)])) rfl (by rw [hml]; rfl) (Steps.refl _) (a := b) (by rw [hh3]; exact q4a) q4b (argsL := [(.int (1 : Int32))]) (rest := []) (lenOf own_pd4 rfl) rfl (by show 2 * 0 + _ ≤ _; exact Nat.le_of_eq rfl) (hb hby own_d7_27) (fun _ _ => ⟨rfl, hh3, (by decide : 0 + 0 ≤ _), (by decide : 0 + 0 ≤ _)⟩)
 dsimp only [Pt.U, Pt.locs, Pt.cells, Pt.slots] at X4 l4 y4 z4 st4 hQ4
 subst l4 y4 z4
 obtain ⟨rfl, N4q, K4, Fww4, nx4, Fn4, hx4⟩ := hQ4
 have N4 := Fr.app N3 N4q
 refine own_st (fun _ => st4.trans) ?_
 have O0_x4 := O0.keep K4 (allS ga all0)
 have Eb_x4 := Eb.keep K4
 have Va_x4 := Va.keep K4 (ninS (Ne.symm (Exa.neArv Eb Va (hw _ (own_m 10 rfl)))) nin0)
 have K0_x4 := K0.trans K4 (allS (Or.inl (own_m 0 rfl)) all0)
 show own_Rch _ _ _ _ T4 (mkF m 30 #[oR b, oI fi, oI ti, oI (1 : Int32), oI (1 : Int32), .unset, .unset, .unset, .unset, .unset] [])
 refine own_st (X4.ldc2Long hx hown (mvT hZ (hw _ (own_m 56 rfl))) (g := (mkF m 30 #[oR b, oI fi, oI ti, oI (1 : Int32), oI (1 : Int32), .unset, .unset, .unset, .unset, .unset] [])) rfl (hb hby own_d7_30)) ?_
 show own_Rch _ _ _ _ T4 (mkF m 33 #[oR b, oI fi, oI ti, oI (1 : Int32), oI (1 : Int32), .unset, .unset, .unset, .unset, .unset] [(.long (-1 : Int64))])
 refine own_st (fun _ => XS.iloadN X4.here hx rfl (hb hby own_d7_33) rfl) ?_
 show own_Rch _ _ _ _ T4 (mkF m 34 #[oR b, oI fi, oI ti, oI (1 : Int32), oI (1 : Int32), .unset, .unset, .unset, .unset, .unset] [(.int fi), (.long (-1 : Int64))])
 refine own_st (fun _ => XS.lshl X4.here hx rfl (hb hby own_d7_34) rfl) ?_
 show own_Rch _ _ _ _ T4 (mkF m 35 #[oR b, oI fi, oI ti, oI (1 : Int32), oI (1 : Int32), .unset, .unset, .unset, .unset, .unset] [(.long ((-1 : Int64) <<< (fi &&& 0x3f).toInt64))])
 refine own_st (fun _ => XS.lstore X4.here hx rfl (hb hby own_d7_35) rfl (l' := #[oR b, oI fi, oI ti, oI (1 : Int32), oI (1 : Int32), oL ((-1 : Int64) <<< (fi &&& 0x3f).toInt64), .second, .unset, .unset, .unset]) rfl) ?_
 show own_Rch _ _ _ _ T4 (mkF m 37 #[oR b, oI fi, oI ti, oI (1 : Int32), oI (1 : Int32), oL ((-1 : Int64) <<< (fi &&& 0x3f).toInt64), .second, .unset, .unset, .unset] [])
 refine own_st (X4.ldc2Long hx hown (mvT hZ (hw _ (own_m 56 rfl))) (g := (mkF m 37 #[oR b, oI fi, oI ti, oI (1 : Int32), oI (1 : Int32), oL ((-1 : Int64) <<< (fi &&& 0x3f).toInt64), .second, .unset, .unset, .unset] [])) rfl (hb hby own_d7_37)) ?_
 show own_Rch _ _ _ _ T4 (mkF m 40 #[oR b, oI fi, oI ti, oI (1 : Int32), oI (1 : Int32), oL ((-1 : Int64) <<< (fi &&& 0x3f).toInt64), .second, .unset, .unset, .unset] [(.long (-1 : Int64))])
 refine own_st (fun _ => XS.iloadN X4.here hx rfl (hb hby own_d7_40) rfl) ?_
 show own_Rch _ _ _ _ T4 (mkF m 41 #[oR b, oI fi, oI ti, oI (1 : Int32), oI (1 : Int32), oL ((-1 : Int64) <<< (fi &&& 0x3f).toInt64), .second, .unset, .unset, .unset] [(.int ti), (.long (-1 : Int64))])
 refine own_st (fun _ => XS.ineg X4.here hx rfl (hb hby own_d7_41) rfl) ?_
 show own_Rch _ _ _ _ T4 (mkF m 42 #[oR b, oI fi, oI ti, oI (1 : Int32), oI (1 : Int32), oL ((-1 : Int64) <<< (fi &&& 0x3f).toInt64), .second, .unset, .unset, .unset] [(.int (-ti)), (.long (-1 : Int64))])
 refine own_st (fun _ => XS.lushr X4.here hx rfl (hb hby own_d7_42) rfl) ?_
 show own_Rch _ _ _ _ T4 (mkF m 43 #[oR b, oI fi, oI ti, oI (1 : Int32), oI (1 : Int32), oL ((-1 : Int64) <<< (fi &&& 0x3f).toInt64), .second, .unset, .unset, .unset] [(.long (((-1 : Int64).toUInt64 >>> ((-ti) &&& 0x3f).toInt64.toUInt64).toInt64))])
 refine own_st (fun _ => XS.lstore X4.here hx rfl (hb hby own_d7_43) rfl (l' := #[oR b, oI fi, oI ti, oI (1 : Int32), oI (1 : Int32), oL ((-1 : Int64) <<< (fi &&& 0x3f).toInt64), .second, oL (((-1 : Int64).toUInt64 >>> ((-ti) &&& 0x3f).toInt64.toUInt64).toInt64), .second, .unset]) rfl) ?_
 show own_Rch _ _ _ _ T4 (mkF m 45 #[oR b, oI fi, oI ti, oI (1 : Int32), oI (1 : Int32), oL ((-1 : Int64) <<< (fi &&& 0x3f).toInt64), .second, oL (((-1 : Int64).toUInt64 >>> ((-ti) &&& 0x3f).toInt64.toUInt64).toInt64), .second, .unset] [])
 refine own_st (fun _ => XS.iloadN X4.here hx rfl (hb hby own_d7_45) rfl) ?_
 show own_Rch _ _ _ _ T4 (mkF m 46 #[oR b, oI fi, oI ti, oI (1 : Int32), oI (1 : Int32), oL ((-1 : Int64) <<< (fi &&& 0x3f).toInt64), .second, oL (((-1 : Int64).toUInt64 >>> ((-ti) &&& 0x3f).toInt64.toUInt64).toInt64), .second, .unset] [(.int (1 : Int32))])
 refine own_st (fun _ => XS.iload X4.here hx rfl (hb hby own_d7_46) rfl) ?_
 show own_Rch _ _ _ _ T4 (mkF m 48 #[oR b, oI fi, oI ti, oI (1 : Int32), oI (1 : Int32), oL ((-1 : Int64) <<< (fi &&& 0x3f).toInt64), .second, oL (((-1 : Int64).toUInt64 >>> ((-ti) &&& 0x3f).toInt64.toUInt64).toInt64), .second, .unset] [(.int (1 : Int32)), (.int (1 : Int32))])
 refine own_st (fun _ => XS.icmpNo X4.here hx rfl (hb hby own_d7_48) rfl (teq (rfl : (1 : Int32) = (1 : Int32))).2) ?_
 show own_Rch _ _ _ _ T4 (mkF m 51 #[oR b, oI fi, oI ti, oI (1 : Int32), oI (1 : Int32), oL ((-1 : Int64) <<< (fi &&& 0x3f).toInt64), .second, oL (((-1 : Int64).toUInt64 >>> ((-ti) &&& 0x3f).toInt64.toUInt64).toInt64), .second, .unset] [])
 refine own_st (fun _ => XS.aloadN X4.here hx rfl (hb hby own_d7_51) rfl rfl) ?_
 show own_Rch _ _ _ _ T4 (mkF m 52 #[oR b, oI fi, oI ti, oI (1 : Int32), oI (1 : Int32), oL ((-1 : Int64) <<< (fi &&& 0x3f).toInt64), .second, oL (((-1 : Int64).toUInt64 >>> ((-ti) &&& 0x3f).toInt64.toUInt64).toInt64), .second, .unset] [(.ref b)])
 obtain ⟨T5, X5, e5, st5⟩ := getF X4 hx hZ hown (host := "") (Or.inl (hw _ (own_m 29 rfl))) Via.refl rfl Fww4 (g := (mkF m 52 #[oR b, oI fi, oI ti, oI (1 : Int32), oI (1 : Int32), oL ((-1 : Int64) <<< (fi &&& 0x3f).toInt64), .second, oL (((-1 : Int64).toUInt64 >>> ((-ti) &&& 0x3f).toInt64.toUInt64).toInt64), .second, .unset] [(.ref b)])) rfl rfl (hb hby own_d7_52)
 refine own_st st5 ?_
 show own_Rch _ _ _ _ T5 (mkF m 55 #[oR b, oI fi, oI ti, oI (1 : Int32), oI (1 : Int32), oL ((-1 : Int64) <<< (fi &&& 0x3f).toInt64), .second, oL (((-1 : Int64).toUInt64 >>> ((-ti) &&& 0x3f).toInt64.toUInt64).toInt64), .second, .unset] [(.ref y)])
 refine own_st (fun _ => XS.iloadN X5.here hx rfl (hb hby own_d7_55) rfl) ?_
 show own_Rch _ _ _ _ T5 (mkF m 56 #[oR b, oI fi, oI ti, oI (1 : Int32), oI (1 : Int32), oL ((-1 : Int64) <<< (fi &&& 0x3f).toInt64), .second, oL (((-1 : Int64).toUInt64 >>> ((-ti) &&& 0x3f).toInt64.toUInt64).toInt64), .second, .unset] [(.int (1 : Int32)), (.ref y)])
 refine own_st (fun _ => XT.dup2 X5.here hx rfl (hb hby own_d7_56) rfl rfl rfl) ?_
 show own_Rch _ _ _ _ T5 (mkF m 57 #[oR b, oI fi, oI ti, oI (1 : Int32), oI (1 : Int32), oL ((-1 : Int64) <<< (fi &&& 0x3f).toInt64), .second, oL (((-1 : Int64).toUInt64 >>> ((-ti) &&& 0x3f).toInt64.toUInt64).toInt64), .second, .unset] [(.int (1 : Int32)), (.ref y), (.int (1 : Int32)), (.ref y)])
 obtain ⟨cl6, Ar6, q6, S6, M6, H6, G6⟩ := id Va_x4
 have hin6 : ¬ ((1 : Int32) < 0 ∨ cl6.slots.size ≤ ((1 : Int32)).toNatClampNeg) := inb_of S6 ⟨by decide, by decide⟩
 refine own_st (X5.laload hx (j := (1 : Int32)) (v := (.long wb)) (by rw [e5]; exact Ar6.1) (State.isArrayOf_alike (hZ).alike Ar6.2.1) Ar6.2.2 hin6 (H6.at hin6 rfl) (g := (mkF m 57 #[oR b, oI fi, oI ti, oI (1 : Int32), oI (1 : Int32), oL ((-1 : Int64) <<< (fi &&& 0x3f).toInt64), .second, oL (((-1 : Int64).toUInt64 >>> ((-ti) &&& 0x3f).toInt64.toUInt64).toInt64), .second, .unset] [(.int (1 : Int32)), (.ref y), (.int (1 : Int32)), (.ref y)])) rfl rfl (hb hby own_d7_57)) ?_
 show own_Rch _ _ _ _ T5 (mkF m 58 #[oR b, oI fi, oI ti, oI (1 : Int32), oI (1 : Int32), oL ((-1 : Int64) <<< (fi &&& 0x3f).toInt64), .second, oL (((-1 : Int64).toUInt64 >>> ((-ti) &&& 0x3f).toInt64.toUInt64).toInt64), .second, .unset] [(.long wb), (.int (1 : Int32)), (.ref y)])
 refine own_st (fun _ => XS.lload X5.here hx rfl (hb hby own_d7_58) rfl) ?_
 show own_Rch _ _ _ _ T5 (mkF m 60 #[oR b, oI fi, oI ti, oI (1 : Int32), oI (1 : Int32), oL ((-1 : Int64) <<< (fi &&& 0x3f).toInt64), .second, oL (((-1 : Int64).toUInt64 >>> ((-ti) &&& 0x3f).toInt64.toUInt64).toInt64), .second, .unset] [(.long ((-1 : Int64) <<< (fi &&& 0x3f).toInt64)), (.long wb), (.int (1 : Int32)), (.ref y)])
 refine own_st (fun _ => XS.lload X5.here hx rfl (hb hby own_d7_60) rfl) ?_
 show own_Rch _ _ _ _ T5 (mkF m 62 #[oR b, oI fi, oI ti, oI (1 : Int32), oI (1 : Int32), oL ((-1 : Int64) <<< (fi &&& 0x3f).toInt64), .second, oL (((-1 : Int64).toUInt64 >>> ((-ti) &&& 0x3f).toInt64.toUInt64).toInt64), .second, .unset] [(.long (((-1 : Int64).toUInt64 >>> ((-ti) &&& 0x3f).toInt64.toUInt64).toInt64)), (.long ((-1 : Int64) <<< (fi &&& 0x3f).toInt64)), (.long wb), (.int (1 : Int32)), (.ref y)])
 refine own_st (fun _ => XS.land X5.here hx rfl (hb hby own_d7_62) rfl) ?_
 show own_Rch _ _ _ _ T5 (mkF m 63 #[oR b, oI fi, oI ti, oI (1 : Int32), oI (1 : Int32), oL ((-1 : Int64) <<< (fi &&& 0x3f).toInt64), .second, oL (((-1 : Int64).toUInt64 >>> ((-ti) &&& 0x3f).toInt64.toUInt64).toInt64), .second, .unset] [(.long (((-1 : Int64) <<< (fi &&& 0x3f).toInt64) &&& (((-1 : Int64).toUInt64 >>> ((-ti) &&& 0x3f).toInt64.toUInt64).toInt64))), (.long wb), (.int (1 : Int32)), (.ref y)])
 refine own_st (fun _ => XS.lor X5.here hx rfl (hb hby own_d7_63) rfl) ?_
 show own_Rch _ _ _ _ T5 (mkF m 64 #[oR b, oI fi, oI ti, oI (1 : Int32), oI (1 : Int32), oL ((-1 : Int64) <<< (fi &&& 0x3f).toInt64), .second, oL (((-1 : Int64).toUInt64 >>> ((-ti) &&& 0x3f).toInt64.toUInt64).toInt64), .second, .unset] [(.long (wb ||| (((-1 : Int64) <<< (fi &&& 0x3f).toInt64) &&& (((-1 : Int64).toUInt64 >>> ((-ti) &&& 0x3f).toInt64.toUInt64).toInt64)))), (.int (1 : Int32)), (.ref y)])
 obtain ⟨cl7, Ar7, q7, S7, M7, H7, G7⟩ := id Va_x4
 have hin7 : ¬ ((1 : Int32) < 0 ∨ cl7.slots.size ≤ ((1 : Int32)).toNatClampNeg) := inb_of S7 ⟨by decide, by decide⟩
 obtain ⟨T7, h7, X7, e7, W7, st7⟩ := stJ X5 hx hZ e5 Ar7 (j := (1 : Int32)) hin7 (g := (mkF m 64 #[oR b, oI fi, oI ti, oI (1 : Int32), oI (1 : Int32), oL ((-1 : Int64) <<< (fi &&& 0x3f).toInt64), .second, oL (((-1 : Int64).toUInt64 >>> ((-ti) &&& 0x3f).toInt64.toUInt64).toInt64), .second, .unset] [(.long (wb ||| (((-1 : Int64) <<< (fi &&& 0x3f).toInt64) &&& (((-1 : Int64).toUInt64 >>> ((-ti) &&& 0x3f).toInt64.toUInt64).toInt64)))), (.int (1 : Int32)), (.ref y)])) rfl rfl (hb hby own_d7_64)
 have V7 := Arv.set Ar7 q7 S7 M7 H7 G7 rfl W7 1 rfl (Nat.le_of_ble_eq_true rfl)
 have V7s : Arv Z h7 y ka .long (5 : Int32) [(.long wa), (.long (wb ||| (((-1 : Int64) <<< (fi &&& 0x3f).toInt64) &&& (((-1 : Int64).toUInt64 >>> ((-ti) &&& 0x3f).toInt64.toUInt64).toInt64)))), (.long wc), (.long wd), (.long (0 : Int64))] (.long (0 : Int64)) := V7
 have N7 := Fr.snoc X7 N4 gy
 refine own_st st7 ?_
 have O0_x7 := O0_x4.wr W7 gy
 have Eb_x7 := Eb_x4.wr W7
 have K0_x7 := K0_x4.wr W7 (Or.inl (own_m 1 rfl))
 have Fn4_x7 := Fn4.other W7 (Or.inl (Exa.neArv Eb_x4 Va_x4 (hw _ (own_m 10 rfl))))
 have Fww4_x7 := Fww4.other W7 (Or.inl (Exa.neArv Eb_x4 Va_x4 (hw _ (own_m 10 rfl))))
 show own_Rch _ _ _ _ T7 (mkF m 65 #[oR b, oI fi, oI ti, oI (1 : Int32), oI (1 : Int32), oL ((-1 : Int64) <<< (fi &&& 0x3f).toInt64), .second, oL (((-1 : Int64).toUInt64 >>> ((-ti) &&& 0x3f).toInt64.toUInt64).toInt64), .second, .unset] [])
 refine own_st (fun _ => XS.goto X7.here hx rfl (pc0 := 65) (pc' := 119) rfl (hb hby own_d7_65) (by decide) (by decide)) ?_
 show own_Rch _ _ _ _ T7 (mkF m 119 #[oR b, oI fi, oI ti, oI (1 : Int32), oI (1 : Int32), oL ((-1 : Int64) <<< (fi &&& 0x3f).toInt64), .second, oL (((-1 : Int64).toUInt64 >>> ((-ti) &&& 0x3f).toInt64.toUInt64).toInt64), .second, .unset] [])
 refine own_st (fun _ => XS.aloadN X7.here hx rfl (hb hby own_d7_119) rfl rfl) ?_
 show own_Rch _ _ _ _ T7 (mkF m 120 #[oR b, oI fi, oI ti, oI (1 : Int32), oI (1 : Int32), oL ((-1 : Int64) <<< (fi &&& 0x3f).toInt64), .second, oL (((-1 : Int64).toUInt64 >>> ((-ti) &&& 0x3f).toInt64.toUInt64).toInt64), .second, .unset] [(.ref b)])
 obtain ⟨cq8, q8a, q8b⟩ := Eb_x7.cell
 obtain ⟨_, _, ⟨T8, L8, k8, n8⟩, -, X8, ⟨Lc8, hQ8, l8, y8, z8⟩, st8⟩ := X7.privateBack hx (y := (⟨"java/util/BitSet", "checkInvariants", "()V"⟩ : MethodName)) hown (mvT hZ (hw _ (own_m 57 rfl))) (mvT hZ (hw _ (own_m 58 rfl))) (mvT hZ (hw _ (own_m 60 rfl))) (Cond.privateMethod_at (mvP hZ (hw _ (own_m 59 rfl)) (args := #[]))) (mvT hZ (hw _ (own_m 61 rfl))) (by decide) (backOf (W := 0) (own_ci l Z a0 hw [] b h7 n0 O0_x7 SA) hZ (hw _ (own_m 61 rfl)) (hw _ (own_m 11 rfl)) (by decide) (by decide)) (g := (mkF m 120 #[oR b, oI fi, oI ti, oI (1 : Int32), oI (1 : Int32), oL ((-1 : Int64) <<< (fi &&& 0x3f).toInt64), .second, oL (((-1 : Int64).toUInt64 >>> ((-ti) &&& 0x3f).toInt64.toUInt64).toInt64), .second, .unset] [(.ref b)])) rfl (by rw [hml]; rfl) (Steps.refl _) (a := b) (by rw [e7]; exact q8a) q8b (argsL := []) (rest := []) (lenOf own_pd2 rfl) rfl (by show 2 * 0 + _ ≤ _; exact Nat.le_of_eq rfl) (hb hby own_d7_120) (fun _ _ => ⟨rfl, e7, (by decide : 0 + 0 ≤ _), (by decide : 0 + 0 ≤ _)⟩)
 dsimp only [Pt.U, Pt.locs, Pt.cells, Pt.slots] at X8 l8 y8 z8 st8 hQ8
 subst l8 y8 z8
 obtain ⟨rfl, N8q, hh8⟩ := hQ8
 have N8 := Fr.app N7 N8q
 refine own_st (fun _ => st8.trans) ?_
 show own_Rch _ _ _ _ T8 (mkF m 123 #[oR b, oI fi, oI ti, oI (1 : Int32), oI (1 : Int32), oL ((-1 : Int64) <<< (fi &&& 0x3f).toInt64), .second, oL (((-1 : Int64).toUInt64 >>> ((-ti) &&& 0x3f).toInt64.toUInt64).toInt64), .second, .unset] [])
 refine own_retV X8 hx Bd.notSynchronized Bd.returns (hb hby own_d7_123) (by decide) (by decide) ?_
 rw [hh8]
 have eq1 := own_wi hf (show _ = ((1 : Nat) : Int) by decide)
 have eq2 := own_wi ht (show _ = ((1 : Nat) : Int) by decide)
 rw [own_clsq hc] at eq2
 have Sp : own_setP (own_w wa wb wc wd) (own_w wa (wb ||| (((-1 : Int64) <<< (fi &&& 0x3f).toInt64) &&& (((-1 : Int64).toUInt64 >>> ((-ti) &&& 0x3f).toInt64.toUInt64).toInt64))) wc wd) fi.toInt ti.toInt := own_set1 (q := 1) hc.1 hc.2.1 eq1 eq2 (fun v hv => by rcases v with _ | _ | _ | _ | v <;> first | rfl | exact absurd rfl hv) rfl
 have Hn := own_nx (c := (2 : Int32)) (a := ((1 : Nat) : Int) + 1) (by decide) hx4
 exact ⟨rfl, N8, K0_x7, _, _, _, _, _, ⟨Eb_x7, Fww4_x7, Fn4_x7, V7s, own_Wd_set hW Sp hc.1 hc.2.1 (by omega) (by rw [eq2]; exact Hn)⟩, Sp⟩
set_option maxRecDepth 65536 in
set_option maxHeartbeats 40000000 in
theorem own_set12 (l : Launch) (Z : State) (a0 : Array Value) (hw : ∀ d ∈ tables_1, d.before a0 Z = true) (ws : List Jvm.Cond) (b : Addr) (y : Addr) (ka : ClassId) (wa : Int64) (wb : Int64) (wc : Int64) (wd : Int64) (nn : Int32) (fi : Int32) (ti : Int32) (h0 : Heap) (n0 : Nat) (O0 : Old Z n0 h0) (SA : Sta Z Z.heap "java/util/BitSet" "$assertionsDisabled" "Z" (.int (1 : Int32))) (SS : own_St Z h0 b y ka wa wb wc wd nn) (hc : own_cls fi ti) (hf : (fi >>> ((6 : Int32) &&& 31)) = (1 : Int32)) (ht : ((ti - (1 : Int32)) >>> ((6 : Int32) &&& 31)) = (2 : Int32)) (ga : n0 ≤ b) (gy : n0 ≤ y) :
    MetFree l (⟨"java/util/BitSet", "set", "(II)V"⟩ : MethodName) (head1 (Jvm.Cond.code (⟨"java/util/BitSet", "set", "(II)V"⟩ : MethodName) jdk_92_method_21_code 10 none :: ws) ({ frames := 3, cells := 0, slots := 0, locals := 100 } : Room)) (fun args_ U => args_ = #[(.ref b), (.int fi), (.int ti)] ∧ Z.Warmed39 U.vm ∧ U.heap = h0) (fun _ _ _ _ _ => True) (fun _ U o U' => ∃ v L, o = .returned v ∧ (own_Q_set Z b y ka wa wb wc wd fi ti h0 n0) v U'.heap L ∧ FrameEnd U o U' L ({ frames := 3, cells := 0, slots := 0, locals := 100 } : Room).cells ({ frames := 3, cells := 0, slots := 0, locals := 100 } : Room).slots) := by
 refine MetFree.of_bodySF (plainFor_of_name own_pn0) hisR ?_
 intro p e s m args below meth c s₁ Bd hml0 hP hK
 obtain ⟨rfl, hZ, hh⟩ := hP
 have hx := Bd.exec
 have hby := Bd.bytes
 have hml : c.maxLocals = 10 := hml0
 have hown : s.vm.findClass "java/util/BitSet" = some m.cls := findClass_of_methodNamed Bd.named
 have hnm := (name_of_methodNamed Bd.named Bd.method).1
 have X0 : Stand p l e ({ frames := 3, cells := 0, slots := 0, locals := 100 } : Room) s m #[(.ref b), (.int fi), (.int ti)] below meth c s₁ [] 0 0 := Stand.of_body Bd
 have e0 : s₁.heap = h0 := by rw [← hh, Bd.state]; rfl
 have N0 := Fr.nil n0
 obtain ⟨Eb, Fw, Fn, Va, hW⟩ := SS
 have ci0 : (0 : Int32).toInt = 0 := by decide
 have ci1 : (1 : Int32).toInt = 1 := by decide
 have ci2 : (2 : Int32).toInt = 2 := by decide
 have ci3 : (3 : Int32).toInt = 3 := by decide
 have ci4 : (4 : Int32).toInt = 4 := by decide
 have ci16 : (16 : Int32).toInt = 16 := by decide
 have ci256 : (256 : Int32).toInt = 256 := by decide
 have ci65536 : (65536 : Int32).toInt = 65536 := by decide
 refine own_close (s := s) (Q := (own_Q_set Z b y ka wa wb wc wd fi ti h0 n0)) (C := (({ frames := 3, cells := 0, slots := 0, locals := 100 } : Room)).cells) (N := (({ frames := 3, cells := 0, slots := 0, locals := 100 } : Room)).slots) (own_st (fun _ kt => castTop (own_ef7 m b fi ti) kt) ?_)
 have K0 := Keep.refl h0 [b, y]
 show own_Rch _ _ _ _ s₁ (mkF m 0 #[oR b, oI fi, oI ti, .unset, .unset, .unset, .unset, .unset, .unset, .unset] [])
 refine own_st (fun _ => XS.iloadN X0.here hx rfl (hb hby own_d7_0) rfl) ?_
 show own_Rch _ _ _ _ s₁ (mkF m 1 #[oR b, oI fi, oI ti, .unset, .unset, .unset, .unset, .unset, .unset, .unset] [(.int fi)])
 refine own_st (fun _ => XS.iloadN X0.here hx rfl (hb hby own_d7_1) rfl) ?_
 show own_Rch _ _ _ _ s₁ (mkF m 2 #[oR b, oI fi, oI ti, .unset, .unset, .unset, .unset, .unset, .unset, .unset] [(.int ti), (.int fi)])
 obtain ⟨_, _, ⟨T1, L1, k1, n1⟩, -, X1, ⟨Lc1, hQ1, l1, y1, z1⟩, st1⟩ := Jvm.LawKit.callS X0 hx (y := (⟨"java/util/BitSet", "checkRange", "(II)V"⟩ : MethodName)) hown (mvT hZ (hw _ (own_m 43 rfl))) (mvT hZ (hw _ (own_m 44 rfl))) (mvT hZ (hw _ (own_m 11 rfl))) (mvT hZ (hw _ (own_m 45 rfl))) (by decide) (backOf (W := 0) (own_cr l Z a0 hw [] fi ti h0 n0 O0 hc) hZ (hw _ (own_m 45 rfl)) (hw _ (own_m 11 rfl)) (by decide) (by decide)) (g := (mkF m 2 #[oR b, oI fi, oI ti, .unset, .unset, .unset, .unset, .unset, .unset, .unset] [(.int ti), (.int fi)])) rfl (by rw [hml]; rfl) (argsL := [(.int fi), (.int ti)]) (rest := []) (lenOf own_pd5 rfl) rfl (by show 2 * 0 + _ ≤ _; exact Nat.le_of_eq rfl) (hb hby own_d7_2) (fun _ _ => ⟨rfl, e0, (by decide : 0 + 0 ≤ _), (by decide : 0 + 0 ≤ _)⟩)
 dsimp only [Pt.U, Pt.locs, Pt.cells, Pt.slots] at X1 l1 y1 z1 st1 hQ1
 subst l1 y1 z1
 obtain ⟨rfl, N1q, hh1⟩ := hQ1
 have N1 := Fr.app N0 N1q
 refine own_st st1 ?_
 show own_Rch _ _ _ _ T1 (mkF m 5 #[oR b, oI fi, oI ti, .unset, .unset, .unset, .unset, .unset, .unset, .unset] [])
 refine own_st (fun _ => XS.iloadN X1.here hx rfl (hb hby own_d7_5) rfl) ?_
 show own_Rch _ _ _ _ T1 (mkF m 6 #[oR b, oI fi, oI ti, .unset, .unset, .unset, .unset, .unset, .unset, .unset] [(.int fi)])
 refine own_st (fun _ => XS.iloadN X1.here hx rfl (hb hby own_d7_6) rfl) ?_
 show own_Rch _ _ _ _ T1 (mkF m 7 #[oR b, oI fi, oI ti, .unset, .unset, .unset, .unset, .unset, .unset, .unset] [(.int ti), (.int fi)])
 refine own_st (fun _ => XS.icmpYes X1.here hx rfl (pc0 := 7) (pc' := 11) rfl (hb hby own_d7_7) rfl (feq ((own_clsn hc).2.1 : ¬ (fi = ti))).2 (by decide) (by decide)) ?_
 show own_Rch _ _ _ _ T1 (mkF m 11 #[oR b, oI fi, oI ti, .unset, .unset, .unset, .unset, .unset, .unset, .unset] [])
 refine own_st (fun _ => XS.iloadN X1.here hx rfl (hb hby own_d7_11) rfl) ?_
 show own_Rch _ _ _ _ T1 (mkF m 12 #[oR b, oI fi, oI ti, .unset, .unset, .unset, .unset, .unset, .unset, .unset] [(.int fi)])
 obtain ⟨_, _, ⟨T2, L2, k2, n2⟩, -, X2, ⟨Lc2, hQ2, l2, y2, z2⟩, st2⟩ := Jvm.LawKit.callS X1 hx (y := (⟨"java/util/BitSet", "wordIndex", "(I)I"⟩ : MethodName)) hown (mvT hZ (hw _ (own_m 25 rfl))) (mvT hZ (hw _ (own_m 26 rfl))) (mvT hZ (hw _ (own_m 11 rfl))) (mvT hZ (hw _ (own_m 27 rfl))) (by decide) (backOf (W := 0) (own_wordIndex l Z a0 hw [] fi (1 : Int32) h0 n0 O0 hf) hZ (hw _ (own_m 27 rfl)) (hw _ (own_m 11 rfl)) (by decide) (by decide)) (g := (mkF m 12 #[oR b, oI fi, oI ti, .unset, .unset, .unset, .unset, .unset, .unset, .unset] [(.int fi)])) rfl (by rw [hml]; rfl) (argsL := [(.int fi)]) (rest := []) (lenOf own_pd0 rfl) rfl (by show 2 * 0 + _ ≤ _; exact Nat.le_of_eq rfl) (hb hby own_d7_12) (fun _ _ => ⟨rfl, hh1, (by decide : 0 + 0 ≤ _), (by decide : 0 + 0 ≤ _)⟩)
 dsimp only [Pt.U, Pt.locs, Pt.cells, Pt.slots] at X2 l2 y2 z2 st2 hQ2
 subst l2 y2 z2
 obtain ⟨rfl, N2q, hh2⟩ := hQ2
 have N2 := Fr.app N1 N2q
 refine own_st st2 ?_
 show own_Rch _ _ _ _ T2 (mkF m 15 #[oR b, oI fi, oI ti, .unset, .unset, .unset, .unset, .unset, .unset, .unset] [(.int (1 : Int32))])
 refine own_st (fun _ => XS.istoreN X2.here hx rfl (hb hby own_d7_15) rfl (l' := #[oR b, oI fi, oI ti, oI (1 : Int32), .unset, .unset, .unset, .unset, .unset, .unset]) rfl) ?_
 show own_Rch _ _ _ _ T2 (mkF m 16 #[oR b, oI fi, oI ti, oI (1 : Int32), .unset, .unset, .unset, .unset, .unset, .unset] [])
 refine own_st (fun _ => XS.iloadN X2.here hx rfl (hb hby own_d7_16) rfl) ?_
 show own_Rch _ _ _ _ T2 (mkF m 17 #[oR b, oI fi, oI ti, oI (1 : Int32), .unset, .unset, .unset, .unset, .unset, .unset] [(.int ti)])
 refine own_st (fun _ => XS.iconst X2.here hx rfl (hb hby own_d7_17)) ?_
 show own_Rch _ _ _ _ T2 (mkF m 18 #[oR b, oI fi, oI ti, oI (1 : Int32), .unset, .unset, .unset, .unset, .unset, .unset] [(.int (1 : Int32)), (.int ti)])
 refine own_st (fun _ => XS.isub X2.here hx rfl (hb hby own_d7_18) rfl) ?_
 show own_Rch _ _ _ _ T2 (mkF m 19 #[oR b, oI fi, oI ti, oI (1 : Int32), .unset, .unset, .unset, .unset, .unset, .unset] [(.int (ti - (1 : Int32)))])
 obtain ⟨_, _, ⟨T3, L3, k3, n3⟩, -, X3, ⟨Lc3, hQ3, l3, y3, z3⟩, st3⟩ := Jvm.LawKit.callS X2 hx (y := (⟨"java/util/BitSet", "wordIndex", "(I)I"⟩ : MethodName)) hown (mvT hZ (hw _ (own_m 25 rfl))) (mvT hZ (hw _ (own_m 26 rfl))) (mvT hZ (hw _ (own_m 11 rfl))) (mvT hZ (hw _ (own_m 27 rfl))) (by decide) (backOf (W := 0) (own_wordIndex l Z a0 hw [] (ti - (1 : Int32)) (2 : Int32) h0 n0 O0 ht) hZ (hw _ (own_m 27 rfl)) (hw _ (own_m 11 rfl)) (by decide) (by decide)) (g := (mkF m 19 #[oR b, oI fi, oI ti, oI (1 : Int32), .unset, .unset, .unset, .unset, .unset, .unset] [(.int (ti - (1 : Int32)))])) rfl (by rw [hml]; rfl) (argsL := [(.int (ti - (1 : Int32)))]) (rest := []) (lenOf own_pd0 rfl) rfl (by show 2 * 0 + _ ≤ _; exact Nat.le_of_eq rfl) (hb hby own_d7_19) (fun _ _ => ⟨rfl, hh2, (by decide : 0 + 0 ≤ _), (by decide : 0 + 0 ≤ _)⟩)
 dsimp only [Pt.U, Pt.locs, Pt.cells, Pt.slots] at X3 l3 y3 z3 st3 hQ3
 subst l3 y3 z3
 obtain ⟨rfl, N3q, hh3⟩ := hQ3
 have N3 := Fr.app N2 N3q
 refine own_st st3 ?_
 show own_Rch _ _ _ _ T3 (mkF m 22 #[oR b, oI fi, oI ti, oI (1 : Int32), .unset, .unset, .unset, .unset, .unset, .unset] [(.int (2 : Int32))])
 refine own_st (fun _ => XS.istore X3.here hx rfl (hb hby own_d7_22) rfl (l' := #[oR b, oI fi, oI ti, oI (1 : Int32), oI (2 : Int32), .unset, .unset, .unset, .unset, .unset]) rfl) ?_
 show own_Rch _ _ _ _ T3 (mkF m 24 #[oR b, oI fi, oI ti, oI (1 : Int32), oI (2 : Int32), .unset, .unset, .unset, .unset, .unset] [])
 refine own_st (fun _ => XS.aloadN X3.here hx rfl (hb hby own_d7_24) rfl rfl) ?_
 show own_Rch _ _ _ _ T3 (mkF m 25 #[oR b, oI fi, oI ti, oI (1 : Int32), oI (2 : Int32), .unset, .unset, .unset, .unset, .unset] [(.ref b)])
 refine own_st (fun _ => XS.iload X3.here hx rfl (hb hby own_d7_25) rfl) ?_
 show own_Rch _ _ _ _ T3 (mkF m 27 #[oR b, oI fi, oI ti, oI (1 : Int32), oI (2 : Int32), .unset, .unset, .unset, .unset, .unset] [(.int (2 : Int32)), (.ref b)])
 obtain ⟨cq4, q4a, q4b⟩ := Eb.cell
 obtain ⟨_, _, ⟨T4, L4, k4, n4⟩, -, X4, ⟨Lc4, hQ4, l4, y4, z4⟩, st4⟩ := X3.privateBack hx (y := (⟨"java/util/BitSet", "expandTo", "(I)V"⟩ : MethodName)) hown (mvT hZ (hw _ (own_m 46 rfl))) (mvT hZ (hw _ (own_m 47 rfl))) (mvT hZ (hw _ (own_m 49 rfl))) (Cond.privateMethod_at (mvP hZ (hw _ (own_m 48 rfl)) (args := #[]))) (mvT hZ (hw _ (own_m 50 rfl))) (by decide) (backOf (W := 0) (own_ex3 l Z a0 hw [] b y ka nn [(.long wa), (.long wb), (.long wc), (.long wd), (.long (0 : Int64))] h0 n0 O0 Eb Fw Fn Va ga) hZ (hw _ (own_m 50 rfl)) (hw _ (own_m 11 rfl)) (by decide) (by decide)) (g := (mkF m 27 #[oR b, oI fi, oI ti, oI (1 : Int32), oI (2 : Int32), .unset, .unset, .unset, .unset, .unset] [(.int (2 : Int32)), (.ref b)])) rfl (by rw [hml]; rfl) (Steps.refl _) (a := b) (by rw [hh3]; exact q4a) q4b (argsL := [(.int (2 : Int32))]) (rest := []) (lenOf own_pd4 rfl) rfl (by show 2 * 0 + _ ≤ _; exact Nat.le_of_eq rfl) (hb hby own_d7_27) (fun _ _ => ⟨rfl, hh3, (by decide : 0 + 0 ≤ _), (by decide : 0 + 0 ≤ _)⟩)
 dsimp only [Pt.U, Pt.locs, Pt.cells, Pt.slots] at X4 l4 y4 z4 st4 hQ4
 subst l4 y4 z4
 obtain ⟨rfl, N4q, K4, Fww4, nx4, Fn4, hx4⟩ := hQ4
 have N4 := Fr.app N3 N4q
 refine own_st (fun _ => st4.trans) ?_
 have O0_x4 := O0.keep K4 (allS ga all0)
 have Eb_x4 := Eb.keep K4
 have Va_x4 := Va.keep K4 (ninS (Ne.symm (Exa.neArv Eb Va (hw _ (own_m 10 rfl)))) nin0)
 have K0_x4 := K0.trans K4 (allS (Or.inl (own_m 0 rfl)) all0)
 show own_Rch _ _ _ _ T4 (mkF m 30 #[oR b, oI fi, oI ti, oI (1 : Int32), oI (2 : Int32), .unset, .unset, .unset, .unset, .unset] [])
 refine own_st (X4.ldc2Long hx hown (mvT hZ (hw _ (own_m 56 rfl))) (g := (mkF m 30 #[oR b, oI fi, oI ti, oI (1 : Int32), oI (2 : Int32), .unset, .unset, .unset, .unset, .unset] [])) rfl (hb hby own_d7_30)) ?_
 show own_Rch _ _ _ _ T4 (mkF m 33 #[oR b, oI fi, oI ti, oI (1 : Int32), oI (2 : Int32), .unset, .unset, .unset, .unset, .unset] [(.long (-1 : Int64))])
 refine own_st (fun _ => XS.iloadN X4.here hx rfl (hb hby own_d7_33) rfl) ?_
 show own_Rch _ _ _ _ T4 (mkF m 34 #[oR b, oI fi, oI ti, oI (1 : Int32), oI (2 : Int32), .unset, .unset, .unset, .unset, .unset] [(.int fi), (.long (-1 : Int64))])
 refine own_st (fun _ => XS.lshl X4.here hx rfl (hb hby own_d7_34) rfl) ?_
 show own_Rch _ _ _ _ T4 (mkF m 35 #[oR b, oI fi, oI ti, oI (1 : Int32), oI (2 : Int32), .unset, .unset, .unset, .unset, .unset] [(.long ((-1 : Int64) <<< (fi &&& 0x3f).toInt64))])
 refine own_st (fun _ => XS.lstore X4.here hx rfl (hb hby own_d7_35) rfl (l' := #[oR b, oI fi, oI ti, oI (1 : Int32), oI (2 : Int32), oL ((-1 : Int64) <<< (fi &&& 0x3f).toInt64), .second, .unset, .unset, .unset]) rfl) ?_
 show own_Rch _ _ _ _ T4 (mkF m 37 #[oR b, oI fi, oI ti, oI (1 : Int32), oI (2 : Int32), oL ((-1 : Int64) <<< (fi &&& 0x3f).toInt64), .second, .unset, .unset, .unset] [])
 refine own_st (X4.ldc2Long hx hown (mvT hZ (hw _ (own_m 56 rfl))) (g := (mkF m 37 #[oR b, oI fi, oI ti, oI (1 : Int32), oI (2 : Int32), oL ((-1 : Int64) <<< (fi &&& 0x3f).toInt64), .second, .unset, .unset, .unset] [])) rfl (hb hby own_d7_37)) ?_
 show own_Rch _ _ _ _ T4 (mkF m 40 #[oR b, oI fi, oI ti, oI (1 : Int32), oI (2 : Int32), oL ((-1 : Int64) <<< (fi &&& 0x3f).toInt64), .second, .unset, .unset, .unset] [(.long (-1 : Int64))])
 refine own_st (fun _ => XS.iloadN X4.here hx rfl (hb hby own_d7_40) rfl) ?_
 show own_Rch _ _ _ _ T4 (mkF m 41 #[oR b, oI fi, oI ti, oI (1 : Int32), oI (2 : Int32), oL ((-1 : Int64) <<< (fi &&& 0x3f).toInt64), .second, .unset, .unset, .unset] [(.int ti), (.long (-1 : Int64))])
 refine own_st (fun _ => XS.ineg X4.here hx rfl (hb hby own_d7_41) rfl) ?_
 show own_Rch _ _ _ _ T4 (mkF m 42 #[oR b, oI fi, oI ti, oI (1 : Int32), oI (2 : Int32), oL ((-1 : Int64) <<< (fi &&& 0x3f).toInt64), .second, .unset, .unset, .unset] [(.int (-ti)), (.long (-1 : Int64))])
 refine own_st (fun _ => XS.lushr X4.here hx rfl (hb hby own_d7_42) rfl) ?_
 show own_Rch _ _ _ _ T4 (mkF m 43 #[oR b, oI fi, oI ti, oI (1 : Int32), oI (2 : Int32), oL ((-1 : Int64) <<< (fi &&& 0x3f).toInt64), .second, .unset, .unset, .unset] [(.long (((-1 : Int64).toUInt64 >>> ((-ti) &&& 0x3f).toInt64.toUInt64).toInt64))])
 refine own_st (fun _ => XS.lstore X4.here hx rfl (hb hby own_d7_43) rfl (l' := #[oR b, oI fi, oI ti, oI (1 : Int32), oI (2 : Int32), oL ((-1 : Int64) <<< (fi &&& 0x3f).toInt64), .second, oL (((-1 : Int64).toUInt64 >>> ((-ti) &&& 0x3f).toInt64.toUInt64).toInt64), .second, .unset]) rfl) ?_
 show own_Rch _ _ _ _ T4 (mkF m 45 #[oR b, oI fi, oI ti, oI (1 : Int32), oI (2 : Int32), oL ((-1 : Int64) <<< (fi &&& 0x3f).toInt64), .second, oL (((-1 : Int64).toUInt64 >>> ((-ti) &&& 0x3f).toInt64.toUInt64).toInt64), .second, .unset] [])
 refine own_st (fun _ => XS.iloadN X4.here hx rfl (hb hby own_d7_45) rfl) ?_
 show own_Rch _ _ _ _ T4 (mkF m 46 #[oR b, oI fi, oI ti, oI (1 : Int32), oI (2 : Int32), oL ((-1 : Int64) <<< (fi &&& 0x3f).toInt64), .second, oL (((-1 : Int64).toUInt64 >>> ((-ti) &&& 0x3f).toInt64.toUInt64).toInt64), .second, .unset] [(.int (1 : Int32))])
 refine own_st (fun _ => XS.iload X4.here hx rfl (hb hby own_d7_46) rfl) ?_
 show own_Rch _ _ _ _ T4 (mkF m 48 #[oR b, oI fi, oI ti, oI (1 : Int32), oI (2 : Int32), oL ((-1 : Int64) <<< (fi &&& 0x3f).toInt64), .second, oL (((-1 : Int64).toUInt64 >>> ((-ti) &&& 0x3f).toInt64.toUInt64).toInt64), .second, .unset] [(.int (2 : Int32)), (.int (1 : Int32))])
 refine own_st (fun _ => XS.icmpYes X4.here hx rfl (pc0 := 48) (pc' := 68) rfl (hb hby own_d7_48) rfl (feq ((by decide) : ¬ ((1 : Int32) = (2 : Int32)))).2 (by decide) (by decide)) ?_
 show own_Rch _ _ _ _ T4 (mkF m 68 #[oR b, oI fi, oI ti, oI (1 : Int32), oI (2 : Int32), oL ((-1 : Int64) <<< (fi &&& 0x3f).toInt64), .second, oL (((-1 : Int64).toUInt64 >>> ((-ti) &&& 0x3f).toInt64.toUInt64).toInt64), .second, .unset] [])
 refine own_st (fun _ => XS.aloadN X4.here hx rfl (hb hby own_d7_68) rfl rfl) ?_
 show own_Rch _ _ _ _ T4 (mkF m 69 #[oR b, oI fi, oI ti, oI (1 : Int32), oI (2 : Int32), oL ((-1 : Int64) <<< (fi &&& 0x3f).toInt64), .second, oL (((-1 : Int64).toUInt64 >>> ((-ti) &&& 0x3f).toInt64.toUInt64).toInt64), .second, .unset] [(.ref b)])
 obtain ⟨T5, X5, e5, st5⟩ := getF X4 hx hZ hown (host := "") (Or.inl (hw _ (own_m 29 rfl))) Via.refl rfl Fww4 (g := (mkF m 69 #[oR b, oI fi, oI ti, oI (1 : Int32), oI (2 : Int32), oL ((-1 : Int64) <<< (fi &&& 0x3f).toInt64), .second, oL (((-1 : Int64).toUInt64 >>> ((-ti) &&& 0x3f).toInt64.toUInt64).toInt64), .second, .unset] [(.ref b)])) rfl rfl (hb hby own_d7_69)
 refine own_st st5 ?_
 show own_Rch _ _ _ _ T5 (mkF m 72 #[oR b, oI fi, oI ti, oI (1 : Int32), oI (2 : Int32), oL ((-1 : Int64) <<< (fi &&& 0x3f).toInt64), .second, oL (((-1 : Int64).toUInt64 >>> ((-ti) &&& 0x3f).toInt64.toUInt64).toInt64), .second, .unset] [(.ref y)])
 refine own_st (fun _ => XS.iloadN X5.here hx rfl (hb hby own_d7_72) rfl) ?_
 show own_Rch _ _ _ _ T5 (mkF m 73 #[oR b, oI fi, oI ti, oI (1 : Int32), oI (2 : Int32), oL ((-1 : Int64) <<< (fi &&& 0x3f).toInt64), .second, oL (((-1 : Int64).toUInt64 >>> ((-ti) &&& 0x3f).toInt64.toUInt64).toInt64), .second, .unset] [(.int (1 : Int32)), (.ref y)])
 refine own_st (fun _ => XT.dup2 X5.here hx rfl (hb hby own_d7_73) rfl rfl rfl) ?_
 show own_Rch _ _ _ _ T5 (mkF m 74 #[oR b, oI fi, oI ti, oI (1 : Int32), oI (2 : Int32), oL ((-1 : Int64) <<< (fi &&& 0x3f).toInt64), .second, oL (((-1 : Int64).toUInt64 >>> ((-ti) &&& 0x3f).toInt64.toUInt64).toInt64), .second, .unset] [(.int (1 : Int32)), (.ref y), (.int (1 : Int32)), (.ref y)])
 obtain ⟨cl6, Ar6, q6, S6, M6, H6, G6⟩ := id Va_x4
 have hin6 : ¬ ((1 : Int32) < 0 ∨ cl6.slots.size ≤ ((1 : Int32)).toNatClampNeg) := inb_of S6 ⟨by decide, by decide⟩
 refine own_st (X5.laload hx (j := (1 : Int32)) (v := (.long wb)) (by rw [e5]; exact Ar6.1) (State.isArrayOf_alike (hZ).alike Ar6.2.1) Ar6.2.2 hin6 (H6.at hin6 rfl) (g := (mkF m 74 #[oR b, oI fi, oI ti, oI (1 : Int32), oI (2 : Int32), oL ((-1 : Int64) <<< (fi &&& 0x3f).toInt64), .second, oL (((-1 : Int64).toUInt64 >>> ((-ti) &&& 0x3f).toInt64.toUInt64).toInt64), .second, .unset] [(.int (1 : Int32)), (.ref y), (.int (1 : Int32)), (.ref y)])) rfl rfl (hb hby own_d7_74)) ?_
 show own_Rch _ _ _ _ T5 (mkF m 75 #[oR b, oI fi, oI ti, oI (1 : Int32), oI (2 : Int32), oL ((-1 : Int64) <<< (fi &&& 0x3f).toInt64), .second, oL (((-1 : Int64).toUInt64 >>> ((-ti) &&& 0x3f).toInt64.toUInt64).toInt64), .second, .unset] [(.long wb), (.int (1 : Int32)), (.ref y)])
 refine own_st (fun _ => XS.lload X5.here hx rfl (hb hby own_d7_75) rfl) ?_
 show own_Rch _ _ _ _ T5 (mkF m 77 #[oR b, oI fi, oI ti, oI (1 : Int32), oI (2 : Int32), oL ((-1 : Int64) <<< (fi &&& 0x3f).toInt64), .second, oL (((-1 : Int64).toUInt64 >>> ((-ti) &&& 0x3f).toInt64.toUInt64).toInt64), .second, .unset] [(.long ((-1 : Int64) <<< (fi &&& 0x3f).toInt64)), (.long wb), (.int (1 : Int32)), (.ref y)])
 refine own_st (fun _ => XS.lor X5.here hx rfl (hb hby own_d7_77) rfl) ?_
 show own_Rch _ _ _ _ T5 (mkF m 78 #[oR b, oI fi, oI ti, oI (1 : Int32), oI (2 : Int32), oL ((-1 : Int64) <<< (fi &&& 0x3f).toInt64), .second, oL (((-1 : Int64).toUInt64 >>> ((-ti) &&& 0x3f).toInt64.toUInt64).toInt64), .second, .unset] [(.long (wb ||| ((-1 : Int64) <<< (fi &&& 0x3f).toInt64))), (.int (1 : Int32)), (.ref y)])
 obtain ⟨cl7, Ar7, q7, S7, M7, H7, G7⟩ := id Va_x4
 have hin7 : ¬ ((1 : Int32) < 0 ∨ cl7.slots.size ≤ ((1 : Int32)).toNatClampNeg) := inb_of S7 ⟨by decide, by decide⟩
 obtain ⟨T7, h7, X7, e7, W7, st7⟩ := stJ X5 hx hZ e5 Ar7 (j := (1 : Int32)) hin7 (g := (mkF m 78 #[oR b, oI fi, oI ti, oI (1 : Int32), oI (2 : Int32), oL ((-1 : Int64) <<< (fi &&& 0x3f).toInt64), .second, oL (((-1 : Int64).toUInt64 >>> ((-ti) &&& 0x3f).toInt64.toUInt64).toInt64), .second, .unset] [(.long (wb ||| ((-1 : Int64) <<< (fi &&& 0x3f).toInt64))), (.int (1 : Int32)), (.ref y)])) rfl rfl (hb hby own_d7_78)
 have V7 := Arv.set Ar7 q7 S7 M7 H7 G7 rfl W7 1 rfl (Nat.le_of_ble_eq_true rfl)
 have V7s : Arv Z h7 y ka .long (5 : Int32) [(.long wa), (.long (wb ||| ((-1 : Int64) <<< (fi &&& 0x3f).toInt64))), (.long wc), (.long wd), (.long (0 : Int64))] (.long (0 : Int64)) := V7
 have N7 := Fr.snoc X7 N4 gy
 refine own_st st7 ?_
 have O0_x7 := O0_x4.wr W7 gy
 have Eb_x7 := Eb_x4.wr W7
 have K0_x7 := K0_x4.wr W7 (Or.inl (own_m 1 rfl))
 have Fn4_x7 := Fn4.other W7 (Or.inl (Exa.neArv Eb_x4 Va_x4 (hw _ (own_m 10 rfl))))
 have Fww4_x7 := Fww4.other W7 (Or.inl (Exa.neArv Eb_x4 Va_x4 (hw _ (own_m 10 rfl))))
 show own_Rch _ _ _ _ T7 (mkF m 79 #[oR b, oI fi, oI ti, oI (1 : Int32), oI (2 : Int32), oL ((-1 : Int64) <<< (fi &&& 0x3f).toInt64), .second, oL (((-1 : Int64).toUInt64 >>> ((-ti) &&& 0x3f).toInt64.toUInt64).toInt64), .second, .unset] [])
 refine own_st (fun _ => XS.iloadN X7.here hx rfl (hb hby own_d7_79) rfl) ?_
 show own_Rch _ _ _ _ T7 (mkF m 80 #[oR b, oI fi, oI ti, oI (1 : Int32), oI (2 : Int32), oL ((-1 : Int64) <<< (fi &&& 0x3f).toInt64), .second, oL (((-1 : Int64).toUInt64 >>> ((-ti) &&& 0x3f).toInt64.toUInt64).toInt64), .second, .unset] [(.int (1 : Int32))])
 refine own_st (fun _ => XS.iconst X7.here hx rfl (hb hby own_d7_80)) ?_
 show own_Rch _ _ _ _ T7 (mkF m 81 #[oR b, oI fi, oI ti, oI (1 : Int32), oI (2 : Int32), oL ((-1 : Int64) <<< (fi &&& 0x3f).toInt64), .second, oL (((-1 : Int64).toUInt64 >>> ((-ti) &&& 0x3f).toInt64.toUInt64).toInt64), .second, .unset] [(.int (1 : Int32)), (.int (1 : Int32))])
 refine own_st (fun _ => XS.iadd X7.here hx rfl (hb hby own_d7_81) rfl) ?_
 show own_Rch _ _ _ _ T7 (mkF m 82 #[oR b, oI fi, oI ti, oI (1 : Int32), oI (2 : Int32), oL ((-1 : Int64) <<< (fi &&& 0x3f).toInt64), .second, oL (((-1 : Int64).toUInt64 >>> ((-ti) &&& 0x3f).toInt64.toUInt64).toInt64), .second, .unset] [(.int (2 : Int32))])
 refine own_st (fun _ => XS.istore X7.here hx rfl (hb hby own_d7_82) rfl (l' := #[oR b, oI fi, oI ti, oI (1 : Int32), oI (2 : Int32), oL ((-1 : Int64) <<< (fi &&& 0x3f).toInt64), .second, oL (((-1 : Int64).toUInt64 >>> ((-ti) &&& 0x3f).toInt64.toUInt64).toInt64), .second, oI (2 : Int32)]) rfl) ?_
 show own_Rch _ _ _ _ T7 (mkF m 84 #[oR b, oI fi, oI ti, oI (1 : Int32), oI (2 : Int32), oL ((-1 : Int64) <<< (fi &&& 0x3f).toInt64), .second, oL (((-1 : Int64).toUInt64 >>> ((-ti) &&& 0x3f).toInt64.toUInt64).toInt64), .second, oI (2 : Int32)] [])
 refine own_st (fun _ => XS.iload X7.here hx rfl (hb hby own_d7_84) rfl) ?_
 show own_Rch _ _ _ _ T7 (mkF m 86 #[oR b, oI fi, oI ti, oI (1 : Int32), oI (2 : Int32), oL ((-1 : Int64) <<< (fi &&& 0x3f).toInt64), .second, oL (((-1 : Int64).toUInt64 >>> ((-ti) &&& 0x3f).toInt64.toUInt64).toInt64), .second, oI (2 : Int32)] [(.int (2 : Int32))])
 refine own_st (fun _ => XS.iload X7.here hx rfl (hb hby own_d7_86) rfl) ?_
 show own_Rch _ _ _ _ T7 (mkF m 88 #[oR b, oI fi, oI ti, oI (1 : Int32), oI (2 : Int32), oL ((-1 : Int64) <<< (fi &&& 0x3f).toInt64), .second, oL (((-1 : Int64).toUInt64 >>> ((-ti) &&& 0x3f).toInt64.toUInt64).toInt64), .second, oI (2 : Int32)] [(.int (2 : Int32)), (.int (2 : Int32))])
 refine own_st (fun _ => XS.icmpYes X7.here hx rfl (pc0 := 88) (pc' := 107) rfl (hb hby own_d7_88) rfl (flt ((by decide) : ¬ ((2 : Int32) < (2 : Int32)))).2.1 (by decide) (by decide)) ?_
 show own_Rch _ _ _ _ T7 (mkF m 107 #[oR b, oI fi, oI ti, oI (1 : Int32), oI (2 : Int32), oL ((-1 : Int64) <<< (fi &&& 0x3f).toInt64), .second, oL (((-1 : Int64).toUInt64 >>> ((-ti) &&& 0x3f).toInt64.toUInt64).toInt64), .second, oI (2 : Int32)] [])
 refine own_st (fun _ => XS.aloadN X7.here hx rfl (hb hby own_d7_107) rfl rfl) ?_
 show own_Rch _ _ _ _ T7 (mkF m 108 #[oR b, oI fi, oI ti, oI (1 : Int32), oI (2 : Int32), oL ((-1 : Int64) <<< (fi &&& 0x3f).toInt64), .second, oL (((-1 : Int64).toUInt64 >>> ((-ti) &&& 0x3f).toInt64.toUInt64).toInt64), .second, oI (2 : Int32)] [(.ref b)])
 obtain ⟨T8, X8, e8, st8⟩ := getF X7 hx hZ hown (host := "") (Or.inl (hw _ (own_m 29 rfl))) Via.refl e7 Fww4_x7 (g := (mkF m 108 #[oR b, oI fi, oI ti, oI (1 : Int32), oI (2 : Int32), oL ((-1 : Int64) <<< (fi &&& 0x3f).toInt64), .second, oL (((-1 : Int64).toUInt64 >>> ((-ti) &&& 0x3f).toInt64.toUInt64).toInt64), .second, oI (2 : Int32)] [(.ref b)])) rfl rfl (hb hby own_d7_108)
 refine own_st st8 ?_
 show own_Rch _ _ _ _ T8 (mkF m 111 #[oR b, oI fi, oI ti, oI (1 : Int32), oI (2 : Int32), oL ((-1 : Int64) <<< (fi &&& 0x3f).toInt64), .second, oL (((-1 : Int64).toUInt64 >>> ((-ti) &&& 0x3f).toInt64.toUInt64).toInt64), .second, oI (2 : Int32)] [(.ref y)])
 refine own_st (fun _ => XS.iload X8.here hx rfl (hb hby own_d7_111) rfl) ?_
 show own_Rch _ _ _ _ T8 (mkF m 113 #[oR b, oI fi, oI ti, oI (1 : Int32), oI (2 : Int32), oL ((-1 : Int64) <<< (fi &&& 0x3f).toInt64), .second, oL (((-1 : Int64).toUInt64 >>> ((-ti) &&& 0x3f).toInt64.toUInt64).toInt64), .second, oI (2 : Int32)] [(.int (2 : Int32)), (.ref y)])
 refine own_st (fun _ => XT.dup2 X8.here hx rfl (hb hby own_d7_113) rfl rfl rfl) ?_
 show own_Rch _ _ _ _ T8 (mkF m 114 #[oR b, oI fi, oI ti, oI (1 : Int32), oI (2 : Int32), oL ((-1 : Int64) <<< (fi &&& 0x3f).toInt64), .second, oL (((-1 : Int64).toUInt64 >>> ((-ti) &&& 0x3f).toInt64.toUInt64).toInt64), .second, oI (2 : Int32)] [(.int (2 : Int32)), (.ref y), (.int (2 : Int32)), (.ref y)])
 obtain ⟨cl9, Ar9, q9, S9, M9, H9, G9⟩ := id V7s
 have hin9 : ¬ ((2 : Int32) < 0 ∨ cl9.slots.size ≤ ((2 : Int32)).toNatClampNeg) := inb_of S9 ⟨by decide, by decide⟩
 refine own_st (X8.laload hx (j := (2 : Int32)) (v := (.long wc)) (by rw [e8]; exact Ar9.1) (State.isArrayOf_alike (hZ).alike Ar9.2.1) Ar9.2.2 hin9 (H9.at hin9 rfl) (g := (mkF m 114 #[oR b, oI fi, oI ti, oI (1 : Int32), oI (2 : Int32), oL ((-1 : Int64) <<< (fi &&& 0x3f).toInt64), .second, oL (((-1 : Int64).toUInt64 >>> ((-ti) &&& 0x3f).toInt64.toUInt64).toInt64), .second, oI (2 : Int32)] [(.int (2 : Int32)), (.ref y), (.int (2 : Int32)), (.ref y)])) rfl rfl (hb hby own_d7_114)) ?_
 show own_Rch _ _ _ _ T8 (mkF m 115 #[oR b, oI fi, oI ti, oI (1 : Int32), oI (2 : Int32), oL ((-1 : Int64) <<< (fi &&& 0x3f).toInt64), .second, oL (((-1 : Int64).toUInt64 >>> ((-ti) &&& 0x3f).toInt64.toUInt64).toInt64), .second, oI (2 : Int32)] [(.long wc), (.int (2 : Int32)), (.ref y)])
 refine own_st (fun _ => XS.lload X8.here hx rfl (hb hby own_d7_115) rfl) ?_
 show own_Rch _ _ _ _ T8 (mkF m 117 #[oR b, oI fi, oI ti, oI (1 : Int32), oI (2 : Int32), oL ((-1 : Int64) <<< (fi &&& 0x3f).toInt64), .second, oL (((-1 : Int64).toUInt64 >>> ((-ti) &&& 0x3f).toInt64.toUInt64).toInt64), .second, oI (2 : Int32)] [(.long (((-1 : Int64).toUInt64 >>> ((-ti) &&& 0x3f).toInt64.toUInt64).toInt64)), (.long wc), (.int (2 : Int32)), (.ref y)])
 refine own_st (fun _ => XS.lor X8.here hx rfl (hb hby own_d7_117) rfl) ?_
 show own_Rch _ _ _ _ T8 (mkF m 118 #[oR b, oI fi, oI ti, oI (1 : Int32), oI (2 : Int32), oL ((-1 : Int64) <<< (fi &&& 0x3f).toInt64), .second, oL (((-1 : Int64).toUInt64 >>> ((-ti) &&& 0x3f).toInt64.toUInt64).toInt64), .second, oI (2 : Int32)] [(.long (wc ||| (((-1 : Int64).toUInt64 >>> ((-ti) &&& 0x3f).toInt64.toUInt64).toInt64))), (.int (2 : Int32)), (.ref y)])
 obtain ⟨cl10, Ar10, q10, S10, M10, H10, G10⟩ := id V7s
 have hin10 : ¬ ((2 : Int32) < 0 ∨ cl10.slots.size ≤ ((2 : Int32)).toNatClampNeg) := inb_of S10 ⟨by decide, by decide⟩
 obtain ⟨T10, h10, X10, e10, W10, st10⟩ := stJ X8 hx hZ e8 Ar10 (j := (2 : Int32)) hin10 (g := (mkF m 118 #[oR b, oI fi, oI ti, oI (1 : Int32), oI (2 : Int32), oL ((-1 : Int64) <<< (fi &&& 0x3f).toInt64), .second, oL (((-1 : Int64).toUInt64 >>> ((-ti) &&& 0x3f).toInt64.toUInt64).toInt64), .second, oI (2 : Int32)] [(.long (wc ||| (((-1 : Int64).toUInt64 >>> ((-ti) &&& 0x3f).toInt64.toUInt64).toInt64))), (.int (2 : Int32)), (.ref y)])) rfl rfl (hb hby own_d7_118)
 have V10 := Arv.set Ar10 q10 S10 M10 H10 G10 rfl W10 2 rfl (Nat.le_of_ble_eq_true rfl)
 have V10s : Arv Z h10 y ka .long (5 : Int32) [(.long wa), (.long (wb ||| ((-1 : Int64) <<< (fi &&& 0x3f).toInt64))), (.long (wc ||| (((-1 : Int64).toUInt64 >>> ((-ti) &&& 0x3f).toInt64.toUInt64).toInt64))), (.long wd), (.long (0 : Int64))] (.long (0 : Int64)) := V10
 have N10 := Fr.snoc X10 N7 gy
 refine own_st st10 ?_
 have O0_x10 := O0_x7.wr W10 gy
 have Eb_x10 := Eb_x7.wr W10
 have K0_x10 := K0_x7.wr W10 (Or.inl (own_m 1 rfl))
 have Fn4_x10 := Fn4_x7.other W10 (Or.inl (Exa.neArv Eb_x7 V7s (hw _ (own_m 10 rfl))))
 have Fww4_x10 := Fww4_x7.other W10 (Or.inl (Exa.neArv Eb_x7 V7s (hw _ (own_m 10 rfl))))
 show own_Rch _ _ _ _ T10 (mkF m 119 #[oR b, oI fi, oI ti, oI (1 : Int32), oI (2 : Int32), oL ((-1 : Int64) <<< (fi &&& 0x3f).toInt64), .second, oL (((-1 : Int64).toUInt64 >>> ((-ti) &&& 0x3f).toInt64.toUInt64).toInt64), .second, oI (2 : Int32)] [])
 refine own_st (fun _ => XS.aloadN X10.here hx rfl (hb hby own_d7_119) rfl rfl) ?_
 show own_Rch _ _ _ _ T10 (mkF m 120 #[oR b, oI fi, oI ti, oI (1 : Int32), oI (2 : Int32), oL ((-1 : Int64) <<< (fi &&& 0x3f).toInt64), .second, oL (((-1 : Int64).toUInt64 >>> ((-ti) &&& 0x3f).toInt64.toUInt64).toInt64), .second, oI (2 : Int32)] [(.ref b)])
 obtain ⟨cq11, q11a, q11b⟩ := Eb_x10.cell
 obtain ⟨_, _, ⟨T11, L11, k11, n11⟩, -, X11, ⟨Lc11, hQ11, l11, y11, z11⟩, st11⟩ := X10.privateBack hx (y := (⟨"java/util/BitSet", "checkInvariants", "()V"⟩ : MethodName)) hown (mvT hZ (hw _ (own_m 57 rfl))) (mvT hZ (hw _ (own_m 58 rfl))) (mvT hZ (hw _ (own_m 60 rfl))) (Cond.privateMethod_at (mvP hZ (hw _ (own_m 59 rfl)) (args := #[]))) (mvT hZ (hw _ (own_m 61 rfl))) (by decide) (backOf (W := 0) (own_ci l Z a0 hw [] b h10 n0 O0_x10 SA) hZ (hw _ (own_m 61 rfl)) (hw _ (own_m 11 rfl)) (by decide) (by decide)) (g := (mkF m 120 #[oR b, oI fi, oI ti, oI (1 : Int32), oI (2 : Int32), oL ((-1 : Int64) <<< (fi &&& 0x3f).toInt64), .second, oL (((-1 : Int64).toUInt64 >>> ((-ti) &&& 0x3f).toInt64.toUInt64).toInt64), .second, oI (2 : Int32)] [(.ref b)])) rfl (by rw [hml]; rfl) (Steps.refl _) (a := b) (by rw [e10]; exact q11a) q11b (argsL := []) (rest := []) (lenOf own_pd2 rfl) rfl (by show 2 * 0 + _ ≤ _; exact Nat.le_of_eq rfl) (hb hby own_d7_120) (fun _ _ => ⟨rfl, e10, (by decide : 0 + 0 ≤ _), (by decide : 0 + 0 ≤ _)⟩)
 dsimp only [Pt.U, Pt.locs, Pt.cells, Pt.slots] at X11 l11 y11 z11 st11 hQ11
 subst l11 y11 z11
 obtain ⟨rfl, N11q, hh11⟩ := hQ11
 have N11 := Fr.app N10 N11q
 refine own_st (fun _ => st11.trans) ?_
 show own_Rch _ _ _ _ T11 (mkF m 123 #[oR b, oI fi, oI ti, oI (1 : Int32), oI (2 : Int32), oL ((-1 : Int64) <<< (fi &&& 0x3f).toInt64), .second, oL (((-1 : Int64).toUInt64 >>> ((-ti) &&& 0x3f).toInt64.toUInt64).toInt64), .second, oI (2 : Int32)] [])
 refine own_retV X11 hx Bd.notSynchronized Bd.returns (hb hby own_d7_123) (by decide) (by decide) ?_
 rw [hh11]
 have eq1 := own_wi hf (show _ = ((1 : Nat) : Int) by decide)
 have eq2 := own_wi ht (show _ = ((2 : Nat) : Int) by decide)
 rw [own_clsq hc] at eq2
 have Sp : own_setP (own_w wa wb wc wd) (own_w wa (wb ||| ((-1 : Int64) <<< (fi &&& 0x3f).toInt64)) (wc ||| (((-1 : Int64).toUInt64 >>> ((-ti) &&& 0x3f).toInt64.toUInt64).toInt64)) wd) fi.toInt ti.toInt := own_set2 (q := 1) hc.1 eq1 eq2 (fun v hv hv' => by rcases v with _ | _ | _ | _ | v <;> first | rfl | exact absurd rfl hv | exact absurd rfl hv') rfl rfl
 have Hn := own_nx (c := (3 : Int32)) (a := ((2 : Nat) : Int) + 1) (by decide) hx4
 exact ⟨rfl, N11, K0_x10, _, _, _, _, _, ⟨Eb_x10, Fww4_x10, Fn4_x10, V10s, own_Wd_set hW Sp hc.1 hc.2.1 (by omega) (by rw [eq2]; exact Hn)⟩, Sp⟩
set_option maxRecDepth 65536 in
set_option maxHeartbeats 40000000 in
theorem own_set22 (l : Launch) (Z : State) (a0 : Array Value) (hw : ∀ d ∈ tables_1, d.before a0 Z = true) (ws : List Jvm.Cond) (b : Addr) (y : Addr) (ka : ClassId) (wa : Int64) (wb : Int64) (wc : Int64) (wd : Int64) (nn : Int32) (fi : Int32) (ti : Int32) (h0 : Heap) (n0 : Nat) (O0 : Old Z n0 h0) (SA : Sta Z Z.heap "java/util/BitSet" "$assertionsDisabled" "Z" (.int (1 : Int32))) (SS : own_St Z h0 b y ka wa wb wc wd nn) (hc : own_cls fi ti) (hf : (fi >>> ((6 : Int32) &&& 31)) = (2 : Int32)) (ht : ((ti - (1 : Int32)) >>> ((6 : Int32) &&& 31)) = (2 : Int32)) (ga : n0 ≤ b) (gy : n0 ≤ y) :
    MetFree l (⟨"java/util/BitSet", "set", "(II)V"⟩ : MethodName) (head1 (Jvm.Cond.code (⟨"java/util/BitSet", "set", "(II)V"⟩ : MethodName) jdk_92_method_21_code 10 none :: ws) ({ frames := 3, cells := 0, slots := 0, locals := 100 } : Room)) (fun args_ U => args_ = #[(.ref b), (.int fi), (.int ti)] ∧ Z.Warmed39 U.vm ∧ U.heap = h0) (fun _ _ _ _ _ => True) (fun _ U o U' => ∃ v L, o = .returned v ∧ (own_Q_set Z b y ka wa wb wc wd fi ti h0 n0) v U'.heap L ∧ FrameEnd U o U' L ({ frames := 3, cells := 0, slots := 0, locals := 100 } : Room).cells ({ frames := 3, cells := 0, slots := 0, locals := 100 } : Room).slots) := by
 refine MetFree.of_bodySF (plainFor_of_name own_pn0) hisR ?_
 intro p e s m args below meth c s₁ Bd hml0 hP hK
 obtain ⟨rfl, hZ, hh⟩ := hP
 have hx := Bd.exec
 have hby := Bd.bytes
 have hml : c.maxLocals = 10 := hml0
 have hown : s.vm.findClass "java/util/BitSet" = some m.cls := findClass_of_methodNamed Bd.named
 have hnm := (name_of_methodNamed Bd.named Bd.method).1
 have X0 : Stand p l e ({ frames := 3, cells := 0, slots := 0, locals := 100 } : Room) s m #[(.ref b), (.int fi), (.int ti)] below meth c s₁ [] 0 0 := Stand.of_body Bd
 have e0 : s₁.heap = h0 := by rw [← hh, Bd.state]; rfl
 have N0 := Fr.nil n0
 obtain ⟨Eb, Fw, Fn, Va, hW⟩ := SS
 have ci0 : (0 : Int32).toInt = 0 := by decide
 have ci1 : (1 : Int32).toInt = 1 := by decide
 have ci2 : (2 : Int32).toInt = 2 := by decide
 have ci3 : (3 : Int32).toInt = 3 := by decide
 have ci4 : (4 : Int32).toInt = 4 := by decide
 have ci16 : (16 : Int32).toInt = 16 := by decide
 have ci256 : (256 : Int32).toInt = 256 := by decide
 have ci65536 : (65536 : Int32).toInt = 65536 := by decide
 refine own_close (s := s) (Q := (own_Q_set Z b y ka wa wb wc wd fi ti h0 n0)) (C := (({ frames := 3, cells := 0, slots := 0, locals := 100 } : Room)).cells) (N := (({ frames := 3, cells := 0, slots := 0, locals := 100 } : Room)).slots) (own_st (fun _ kt => castTop (own_ef7 m b fi ti) kt) ?_)
 have K0 := Keep.refl h0 [b, y]
 show own_Rch _ _ _ _ s₁ (mkF m 0 #[oR b, oI fi, oI ti, .unset, .unset, .unset, .unset, .unset, .unset, .unset] [])
 refine own_st (fun _ => XS.iloadN X0.here hx rfl (hb hby own_d7_0) rfl) ?_
 show own_Rch _ _ _ _ s₁ (mkF m 1 #[oR b, oI fi, oI ti, .unset, .unset, .unset, .unset, .unset, .unset, .unset] [(.int fi)])
 refine own_st (fun _ => XS.iloadN X0.here hx rfl (hb hby own_d7_1) rfl) ?_
 show own_Rch _ _ _ _ s₁ (mkF m 2 #[oR b, oI fi, oI ti, .unset, .unset, .unset, .unset, .unset, .unset, .unset] [(.int ti), (.int fi)])
 obtain ⟨_, _, ⟨T1, L1, k1, n1⟩, -, X1, ⟨Lc1, hQ1, l1, y1, z1⟩, st1⟩ := Jvm.LawKit.callS X0 hx (y := (⟨"java/util/BitSet", "checkRange", "(II)V"⟩ : MethodName)) hown (mvT hZ (hw _ (own_m 43 rfl))) (mvT hZ (hw _ (own_m 44 rfl))) (mvT hZ (hw _ (own_m 11 rfl))) (mvT hZ (hw _ (own_m 45 rfl))) (by decide) (backOf (W := 0) (own_cr l Z a0 hw [] fi ti h0 n0 O0 hc) hZ (hw _ (own_m 45 rfl)) (hw _ (own_m 11 rfl)) (by decide) (by decide)) (g := (mkF m 2 #[oR b, oI fi, oI ti, .unset, .unset, .unset, .unset, .unset, .unset, .unset] [(.int ti), (.int fi)])) rfl (by rw [hml]; rfl) (argsL := [(.int fi), (.int ti)]) (rest := []) (lenOf own_pd5 rfl) rfl (by show 2 * 0 + _ ≤ _; exact Nat.le_of_eq rfl) (hb hby own_d7_2) (fun _ _ => ⟨rfl, e0, (by decide : 0 + 0 ≤ _), (by decide : 0 + 0 ≤ _)⟩)
 dsimp only [Pt.U, Pt.locs, Pt.cells, Pt.slots] at X1 l1 y1 z1 st1 hQ1
 subst l1 y1 z1
 obtain ⟨rfl, N1q, hh1⟩ := hQ1
 have N1 := Fr.app N0 N1q
 refine own_st st1 ?_
 show own_Rch _ _ _ _ T1 (mkF m 5 #[oR b, oI fi, oI ti, .unset, .unset, .unset, .unset, .unset, .unset, .unset] [])
 refine own_st (fun _ => XS.iloadN X1.here hx rfl (hb hby own_d7_5) rfl) ?_
 show own_Rch _ _ _ _ T1 (mkF m 6 #[oR b, oI fi, oI ti, .unset, .unset, .unset, .unset, .unset, .unset, .unset] [(.int fi)])
 refine own_st (fun _ => XS.iloadN X1.here hx rfl (hb hby own_d7_6) rfl) ?_
 show own_Rch _ _ _ _ T1 (mkF m 7 #[oR b, oI fi, oI ti, .unset, .unset, .unset, .unset, .unset, .unset, .unset] [(.int ti), (.int fi)])
 refine own_st (fun _ => XS.icmpYes X1.here hx rfl (pc0 := 7) (pc' := 11) rfl (hb hby own_d7_7) rfl (feq ((own_clsn hc).2.1 : ¬ (fi = ti))).2 (by decide) (by decide)) ?_
 show own_Rch _ _ _ _ T1 (mkF m 11 #[oR b, oI fi, oI ti, .unset, .unset, .unset, .unset, .unset, .unset, .unset] [])
 refine own_st (fun _ => XS.iloadN X1.here hx rfl (hb hby own_d7_11) rfl) ?_
 show own_Rch _ _ _ _ T1 (mkF m 12 #[oR b, oI fi, oI ti, .unset, .unset, .unset, .unset, .unset, .unset, .unset] [(.int fi)])
 obtain ⟨_, _, ⟨T2, L2, k2, n2⟩, -, X2, ⟨Lc2, hQ2, l2, y2, z2⟩, st2⟩ := Jvm.LawKit.callS X1 hx (y := (⟨"java/util/BitSet", "wordIndex", "(I)I"⟩ : MethodName)) hown (mvT hZ (hw _ (own_m 25 rfl))) (mvT hZ (hw _ (own_m 26 rfl))) (mvT hZ (hw _ (own_m 11 rfl))) (mvT hZ (hw _ (own_m 27 rfl))) (by decide) (backOf (W := 0) (own_wordIndex l Z a0 hw [] fi (2 : Int32) h0 n0 O0 hf) hZ (hw _ (own_m 27 rfl)) (hw _ (own_m 11 rfl)) (by decide) (by decide)) (g := (mkF m 12 #[oR b, oI fi, oI ti, .unset, .unset, .unset, .unset, .unset, .unset, .unset] [(.int fi)])) rfl (by rw [hml]; rfl) (argsL := [(.int fi)]) (rest := []) (lenOf own_pd0 rfl) rfl (by show 2 * 0 + _ ≤ _; exact Nat.le_of_eq rfl) (hb hby own_d7_12) (fun _ _ => ⟨rfl, hh1, (by decide : 0 + 0 ≤ _), (by decide : 0 + 0 ≤ _)⟩)
 dsimp only [Pt.U, Pt.locs, Pt.cells, Pt.slots] at X2 l2 y2 z2 st2 hQ2
 subst l2 y2 z2
 obtain ⟨rfl, N2q, hh2⟩ := hQ2
 have N2 := Fr.app N1 N2q
 refine own_st st2 ?_
 show own_Rch _ _ _ _ T2 (mkF m 15 #[oR b, oI fi, oI ti, .unset, .unset, .unset, .unset, .unset, .unset, .unset] [(.int (2 : Int32))])
 refine own_st (fun _ => XS.istoreN X2.here hx rfl (hb hby own_d7_15) rfl (l' := #[oR b, oI fi, oI ti, oI (2 : Int32), .unset, .unset, .unset, .unset, .unset, .unset]) rfl) ?_
 show own_Rch _ _ _ _ T2 (mkF m 16 #[oR b, oI fi, oI ti, oI (2 : Int32), .unset, .unset, .unset, .unset, .unset, .unset] [])
 refine own_st (fun _ => XS.iloadN X2.here hx rfl (hb hby own_d7_16) rfl) ?_
 show own_Rch _ _ _ _ T2 (mkF m 17 #[oR b, oI fi, oI ti, oI (2 : Int32), .unset, .unset, .unset, .unset, .unset, .unset] [(.int ti)])
 refine own_st (fun _ => XS.iconst X2.here hx rfl (hb hby own_d7_17)) ?_
 show own_Rch _ _ _ _ T2 (mkF m 18 #[oR b, oI fi, oI ti, oI (2 : Int32), .unset, .unset, .unset, .unset, .unset, .unset] [(.int (1 : Int32)), (.int ti)])
 refine own_st (fun _ => XS.isub X2.here hx rfl (hb hby own_d7_18) rfl) ?_
 show own_Rch _ _ _ _ T2 (mkF m 19 #[oR b, oI fi, oI ti, oI (2 : Int32), .unset, .unset, .unset, .unset, .unset, .unset] [(.int (ti - (1 : Int32)))])
 obtain ⟨_, _, ⟨T3, L3, k3, n3⟩, -, X3, ⟨Lc3, hQ3, l3, y3, z3⟩, st3⟩ := Jvm.LawKit.callS X2 hx (y := (⟨"java/util/BitSet", "wordIndex", "(I)I"⟩ : MethodName)) hown (mvT hZ (hw _ (own_m 25 rfl))) (mvT hZ (hw _ (own_m 26 rfl))) (mvT hZ (hw _ (own_m 11 rfl))) (mvT hZ (hw _ (own_m 27 rfl))) (by decide) (backOf (W := 0) (own_wordIndex l Z a0 hw [] (ti - (1 : Int32)) (2 : Int32) h0 n0 O0 ht) hZ (hw _ (own_m 27 rfl)) (hw _ (own_m 11 rfl)) (by decide) (by decide)) (g := (mkF m 19 #[oR b, oI fi, oI ti, oI (2 : Int32), .unset, .unset, .unset, .unset, .unset, .unset] [(.int (ti - (1 : Int32)))])) rfl (by rw [hml]; rfl) (argsL := [(.int (ti - (1 : Int32)))]) (rest := []) (lenOf own_pd0 rfl) rfl (by show 2 * 0 + _ ≤ _; exact Nat.le_of_eq rfl) (hb hby own_d7_19) (fun _ _ => ⟨rfl, hh2, (by decide : 0 + 0 ≤ _), (by decide : 0 + 0 ≤ _)⟩)
 dsimp only [Pt.U, Pt.locs, Pt.cells, Pt.slots] at X3 l3 y3 z3 st3 hQ3
 subst l3 y3 z3
 obtain ⟨rfl, N3q, hh3⟩ := hQ3
 have N3 := Fr.app N2 N3q
 refine own_st st3 ?_
 show own_Rch _ _ _ _ T3 (mkF m 22 #[oR b, oI fi, oI ti, oI (2 : Int32), .unset, .unset, .unset, .unset, .unset, .unset] [(.int (2 : Int32))])
 refine own_st (fun _ => XS.istore X3.here hx rfl (hb hby own_d7_22) rfl (l' := #[oR b, oI fi, oI ti, oI (2 : Int32), oI (2 : Int32), .unset, .unset, .unset, .unset, .unset]) rfl) ?_
 show own_Rch _ _ _ _ T3 (mkF m 24 #[oR b, oI fi, oI ti, oI (2 : Int32), oI (2 : Int32), .unset, .unset, .unset, .unset, .unset] [])
 refine own_st (fun _ => XS.aloadN X3.here hx rfl (hb hby own_d7_24) rfl rfl) ?_
 show own_Rch _ _ _ _ T3 (mkF m 25 #[oR b, oI fi, oI ti, oI (2 : Int32), oI (2 : Int32), .unset, .unset, .unset, .unset, .unset] [(.ref b)])
 refine own_st (fun _ => XS.iload X3.here hx rfl (hb hby own_d7_25) rfl) ?_
 show own_Rch _ _ _ _ T3 (mkF m 27 #[oR b, oI fi, oI ti, oI (2 : Int32), oI (2 : Int32), .unset, .unset, .unset, .unset, .unset] [(.int (2 : Int32)), (.ref b)])
 obtain ⟨cq4, q4a, q4b⟩ := Eb.cell
 obtain ⟨_, _, ⟨T4, L4, k4, n4⟩, -, X4, ⟨Lc4, hQ4, l4, y4, z4⟩, st4⟩ := X3.privateBack hx (y := (⟨"java/util/BitSet", "expandTo", "(I)V"⟩ : MethodName)) hown (mvT hZ (hw _ (own_m 46 rfl))) (mvT hZ (hw _ (own_m 47 rfl))) (mvT hZ (hw _ (own_m 49 rfl))) (Cond.privateMethod_at (mvP hZ (hw _ (own_m 48 rfl)) (args := #[]))) (mvT hZ (hw _ (own_m 50 rfl))) (by decide) (backOf (W := 0) (own_ex3 l Z a0 hw [] b y ka nn [(.long wa), (.long wb), (.long wc), (.long wd), (.long (0 : Int64))] h0 n0 O0 Eb Fw Fn Va ga) hZ (hw _ (own_m 50 rfl)) (hw _ (own_m 11 rfl)) (by decide) (by decide)) (g := (mkF m 27 #[oR b, oI fi, oI ti, oI (2 : Int32), oI (2 : Int32), .unset, .unset, .unset, .unset, .unset] [(.int (2 : Int32)), (.ref b)])) rfl (by rw [hml]; rfl) (Steps.refl _) (a := b) (by rw [hh3]; exact q4a) q4b (argsL := [(.int (2 : Int32))]) (rest := []) (lenOf own_pd4 rfl) rfl (by show 2 * 0 + _ ≤ _; exact Nat.le_of_eq rfl) (hb hby own_d7_27) (fun _ _ => ⟨rfl, hh3, (by decide : 0 + 0 ≤ _), (by decide : 0 + 0 ≤ _)⟩)
 dsimp only [Pt.U, Pt.locs, Pt.cells, Pt.slots] at X4 l4 y4 z4 st4 hQ4
 subst l4 y4 z4
 obtain ⟨rfl, N4q, K4, Fww4, nx4, Fn4, hx4⟩ := hQ4
 have N4 := Fr.app N3 N4q
 refine own_st (fun _ => st4.trans) ?_
 have O0_x4 := O0.keep K4 (allS ga all0)
 have Eb_x4 := Eb.keep K4
 have Va_x4 := Va.keep K4 (ninS (Ne.symm (Exa.neArv Eb Va (hw _ (own_m 10 rfl)))) nin0)
 have K0_x4 := K0.trans K4 (allS (Or.inl (own_m 0 rfl)) all0)
 show own_Rch _ _ _ _ T4 (mkF m 30 #[oR b, oI fi, oI ti, oI (2 : Int32), oI (2 : Int32), .unset, .unset, .unset, .unset, .unset] [])
 refine own_st (X4.ldc2Long hx hown (mvT hZ (hw _ (own_m 56 rfl))) (g := (mkF m 30 #[oR b, oI fi, oI ti, oI (2 : Int32), oI (2 : Int32), .unset, .unset, .unset, .unset, .unset] [])) rfl (hb hby own_d7_30)) ?_
 show own_Rch _ _ _ _ T4 (mkF m 33 #[oR b, oI fi, oI ti, oI (2 : Int32), oI (2 : Int32), .unset, .unset, .unset, .unset, .unset] [(.long (-1 : Int64))])
 refine own_st (fun _ => XS.iloadN X4.here hx rfl (hb hby own_d7_33) rfl) ?_
 show own_Rch _ _ _ _ T4 (mkF m 34 #[oR b, oI fi, oI ti, oI (2 : Int32), oI (2 : Int32), .unset, .unset, .unset, .unset, .unset] [(.int fi), (.long (-1 : Int64))])
 refine own_st (fun _ => XS.lshl X4.here hx rfl (hb hby own_d7_34) rfl) ?_
 show own_Rch _ _ _ _ T4 (mkF m 35 #[oR b, oI fi, oI ti, oI (2 : Int32), oI (2 : Int32), .unset, .unset, .unset, .unset, .unset] [(.long ((-1 : Int64) <<< (fi &&& 0x3f).toInt64))])
 refine own_st (fun _ => XS.lstore X4.here hx rfl (hb hby own_d7_35) rfl (l' := #[oR b, oI fi, oI ti, oI (2 : Int32), oI (2 : Int32), oL ((-1 : Int64) <<< (fi &&& 0x3f).toInt64), .second, .unset, .unset, .unset]) rfl) ?_
 show own_Rch _ _ _ _ T4 (mkF m 37 #[oR b, oI fi, oI ti, oI (2 : Int32), oI (2 : Int32), oL ((-1 : Int64) <<< (fi &&& 0x3f).toInt64), .second, .unset, .unset, .unset] [])
 refine own_st (X4.ldc2Long hx hown (mvT hZ (hw _ (own_m 56 rfl))) (g := (mkF m 37 #[oR b, oI fi, oI ti, oI (2 : Int32), oI (2 : Int32), oL ((-1 : Int64) <<< (fi &&& 0x3f).toInt64), .second, .unset, .unset, .unset] [])) rfl (hb hby own_d7_37)) ?_
 show own_Rch _ _ _ _ T4 (mkF m 40 #[oR b, oI fi, oI ti, oI (2 : Int32), oI (2 : Int32), oL ((-1 : Int64) <<< (fi &&& 0x3f).toInt64), .second, .unset, .unset, .unset] [(.long (-1 : Int64))])
 refine own_st (fun _ => XS.iloadN X4.here hx rfl (hb hby own_d7_40) rfl) ?_
 show own_Rch _ _ _ _ T4 (mkF m 41 #[oR b, oI fi, oI ti, oI (2 : Int32), oI (2 : Int32), oL ((-1 : Int64) <<< (fi &&& 0x3f).toInt64), .second, .unset, .unset, .unset] [(.int ti), (.long (-1 : Int64))])
 refine own_st (fun _ => XS.ineg X4.here hx rfl (hb hby own_d7_41) rfl) ?_
 show own_Rch _ _ _ _ T4 (mkF m 42 #[oR b, oI fi, oI ti, oI (2 : Int32), oI (2 : Int32), oL ((-1 : Int64) <<< (fi &&& 0x3f).toInt64), .second, .unset, .unset, .unset] [(.int (-ti)), (.long (-1 : Int64))])
 refine own_st (fun _ => XS.lushr X4.here hx rfl (hb hby own_d7_42) rfl) ?_
 show own_Rch _ _ _ _ T4 (mkF m 43 #[oR b, oI fi, oI ti, oI (2 : Int32), oI (2 : Int32), oL ((-1 : Int64) <<< (fi &&& 0x3f).toInt64), .second, .unset, .unset, .unset] [(.long (((-1 : Int64).toUInt64 >>> ((-ti) &&& 0x3f).toInt64.toUInt64).toInt64))])
 refine own_st (fun _ => XS.lstore X4.here hx rfl (hb hby own_d7_43) rfl (l' := #[oR b, oI fi, oI ti, oI (2 : Int32), oI (2 : Int32), oL ((-1 : Int64) <<< (fi &&& 0x3f).toInt64), .second, oL (((-1 : Int64).toUInt64 >>> ((-ti) &&& 0x3f).toInt64.toUInt64).toInt64), .second, .unset]) rfl) ?_
 show own_Rch _ _ _ _ T4 (mkF m 45 #[oR b, oI fi, oI ti, oI (2 : Int32), oI (2 : Int32), oL ((-1 : Int64) <<< (fi &&& 0x3f).toInt64), .second, oL (((-1 : Int64).toUInt64 >>> ((-ti) &&& 0x3f).toInt64.toUInt64).toInt64), .second, .unset] [])
 refine own_st (fun _ => XS.iloadN X4.here hx rfl (hb hby own_d7_45) rfl) ?_
 show own_Rch _ _ _ _ T4 (mkF m 46 #[oR b, oI fi, oI ti, oI (2 : Int32), oI (2 : Int32), oL ((-1 : Int64) <<< (fi &&& 0x3f).toInt64), .second, oL (((-1 : Int64).toUInt64 >>> ((-ti) &&& 0x3f).toInt64.toUInt64).toInt64), .second, .unset] [(.int (2 : Int32))])
 refine own_st (fun _ => XS.iload X4.here hx rfl (hb hby own_d7_46) rfl) ?_
 show own_Rch _ _ _ _ T4 (mkF m 48 #[oR b, oI fi, oI ti, oI (2 : Int32), oI (2 : Int32), oL ((-1 : Int64) <<< (fi &&& 0x3f).toInt64), .second, oL (((-1 : Int64).toUInt64 >>> ((-ti) &&& 0x3f).toInt64.toUInt64).toInt64), .second, .unset] [(.int (2 : Int32)), (.int (2 : Int32))])
 refine own_st (fun _ => XS.icmpNo X4.here hx rfl (hb hby own_d7_48) rfl (teq (rfl : (2 : Int32) = (2 : Int32))).2) ?_
 show own_Rch _ _ _ _ T4 (mkF m 51 #[oR b, oI fi, oI ti, oI (2 : Int32), oI (2 : Int32), oL ((-1 : Int64) <<< (fi &&& 0x3f).toInt64), .second, oL (((-1 : Int64).toUInt64 >>> ((-ti) &&& 0x3f).toInt64.toUInt64).toInt64), .second, .unset] [])
 refine own_st (fun _ => XS.aloadN X4.here hx rfl (hb hby own_d7_51) rfl rfl) ?_
 show own_Rch _ _ _ _ T4 (mkF m 52 #[oR b, oI fi, oI ti, oI (2 : Int32), oI (2 : Int32), oL ((-1 : Int64) <<< (fi &&& 0x3f).toInt64), .second, oL (((-1 : Int64).toUInt64 >>> ((-ti) &&& 0x3f).toInt64.toUInt64).toInt64), .second, .unset] [(.ref b)])
 obtain ⟨T5, X5, e5, st5⟩ := getF X4 hx hZ hown (host := "") (Or.inl (hw _ (own_m 29 rfl))) Via.refl rfl Fww4 (g := (mkF m 52 #[oR b, oI fi, oI ti, oI (2 : Int32), oI (2 : Int32), oL ((-1 : Int64) <<< (fi &&& 0x3f).toInt64), .second, oL (((-1 : Int64).toUInt64 >>> ((-ti) &&& 0x3f).toInt64.toUInt64).toInt64), .second, .unset] [(.ref b)])) rfl rfl (hb hby own_d7_52)
 refine own_st st5 ?_
 show own_Rch _ _ _ _ T5 (mkF m 55 #[oR b, oI fi, oI ti, oI (2 : Int32), oI (2 : Int32), oL ((-1 : Int64) <<< (fi &&& 0x3f).toInt64), .second, oL (((-1 : Int64).toUInt64 >>> ((-ti) &&& 0x3f).toInt64.toUInt64).toInt64), .second, .unset] [(.ref y)])
 refine own_st (fun _ => XS.iloadN X5.here hx rfl (hb hby own_d7_55) rfl) ?_
 show own_Rch _ _ _ _ T5 (mkF m 56 #[oR b, oI fi, oI ti, oI (2 : Int32), oI (2 : Int32), oL ((-1 : Int64) <<< (fi &&& 0x3f).toInt64), .second, oL (((-1 : Int64).toUInt64 >>> ((-ti) &&& 0x3f).toInt64.toUInt64).toInt64), .second, .unset] [(.int (2 : Int32)), (.ref y)])
 refine own_st (fun _ => XT.dup2 X5.here hx rfl (hb hby own_d7_56) rfl rfl rfl) ?_
 show own_Rch _ _ _ _ T5 (mkF m 57 #[oR b, oI fi, oI ti, oI (2 : Int32), oI (2 : Int32), oL ((-1 : Int64) <<< (fi &&& 0x3f).toInt64), .second, oL (((-1 : Int64).toUInt64 >>> ((-ti) &&& 0x3f).toInt64.toUInt64).toInt64), .second, .unset] [(.int (2 : Int32)), (.ref y), (.int (2 : Int32)), (.ref y)])
 obtain ⟨cl6, Ar6, q6, S6, M6, H6, G6⟩ := id Va_x4
 have hin6 : ¬ ((2 : Int32) < 0 ∨ cl6.slots.size ≤ ((2 : Int32)).toNatClampNeg) := inb_of S6 ⟨by decide, by decide⟩
 refine own_st (X5.laload hx (j := (2 : Int32)) (v := (.long wc)) (by rw [e5]; exact Ar6.1) (State.isArrayOf_alike (hZ).alike Ar6.2.1) Ar6.2.2 hin6 (H6.at hin6 rfl) (g := (mkF m 57 #[oR b, oI fi, oI ti, oI (2 : Int32), oI (2 : Int32), oL ((-1 : Int64) <<< (fi &&& 0x3f).toInt64), .second, oL (((-1 : Int64).toUInt64 >>> ((-ti) &&& 0x3f).toInt64.toUInt64).toInt64), .second, .unset] [(.int (2 : Int32)), (.ref y), (.int (2 : Int32)), (.ref y)])) rfl rfl (hb hby own_d7_57)) ?_
 show own_Rch _ _ _ _ T5 (mkF m 58 #[oR b, oI fi, oI ti, oI (2 : Int32), oI (2 : Int32), oL ((-1 : Int64) <<< (fi &&& 0x3f).toInt64), .second, oL (((-1 : Int64).toUInt64 >>> ((-ti) &&& 0x3f).toInt64.toUInt64).toInt64), .second, .unset] [(.long wc), (.int (2 : Int32)), (.ref y)])
 refine own_st (fun _ => XS.lload X5.here hx rfl (hb hby own_d7_58) rfl) ?_
 show own_Rch _ _ _ _ T5 (mkF m 60 #[oR b, oI fi, oI ti, oI (2 : Int32), oI (2 : Int32), oL ((-1 : Int64) <<< (fi &&& 0x3f).toInt64), .second, oL (((-1 : Int64).toUInt64 >>> ((-ti) &&& 0x3f).toInt64.toUInt64).toInt64), .second, .unset] [(.long ((-1 : Int64) <<< (fi &&& 0x3f).toInt64)), (.long wc), (.int (2 : Int32)), (.ref y)])
 refine own_st (fun _ => XS.lload X5.here hx rfl (hb hby own_d7_60) rfl) ?_
 show own_Rch _ _ _ _ T5 (mkF m 62 #[oR b, oI fi, oI ti, oI (2 : Int32), oI (2 : Int32), oL ((-1 : Int64) <<< (fi &&& 0x3f).toInt64), .second, oL (((-1 : Int64).toUInt64 >>> ((-ti) &&& 0x3f).toInt64.toUInt64).toInt64), .second, .unset] [(.long (((-1 : Int64).toUInt64 >>> ((-ti) &&& 0x3f).toInt64.toUInt64).toInt64)), (.long ((-1 : Int64) <<< (fi &&& 0x3f).toInt64)), (.long wc), (.int (2 : Int32)), (.ref y)])
 refine own_st (fun _ => XS.land X5.here hx rfl (hb hby own_d7_62) rfl) ?_
 show own_Rch _ _ _ _ T5 (mkF m 63 #[oR b, oI fi, oI ti, oI (2 : Int32), oI (2 : Int32), oL ((-1 : Int64) <<< (fi &&& 0x3f).toInt64), .second, oL (((-1 : Int64).toUInt64 >>> ((-ti) &&& 0x3f).toInt64.toUInt64).toInt64), .second, .unset] [(.long (((-1 : Int64) <<< (fi &&& 0x3f).toInt64) &&& (((-1 : Int64).toUInt64 >>> ((-ti) &&& 0x3f).toInt64.toUInt64).toInt64))), (.long wc), (.int (2 : Int32)), (.ref y)])
 refine own_st (fun _ => XS.lor X5.here hx rfl (hb hby own_d7_63) rfl) ?_
 show own_Rch _ _ _ _ T5 (mkF m 64 #[oR b, oI fi, oI ti, oI (2 : Int32), oI (2 : Int32), oL ((-1 : Int64) <<< (fi &&& 0x3f).toInt64), .second, oL (((-1 : Int64).toUInt64 >>> ((-ti) &&& 0x3f).toInt64.toUInt64).toInt64), .second, .unset] [(.long (wc ||| (((-1 : Int64) <<< (fi &&& 0x3f).toInt64) &&& (((-1 : Int64).toUInt64 >>> ((-ti) &&& 0x3f).toInt64.toUInt64).toInt64)))), (.int (2 : Int32)), (.ref y)])
 obtain ⟨cl7, Ar7, q7, S7, M7, H7, G7⟩ := id Va_x4
 have hin7 : ¬ ((2 : Int32) < 0 ∨ cl7.slots.size ≤ ((2 : Int32)).toNatClampNeg) := inb_of S7 ⟨by decide, by decide⟩
 obtain ⟨T7, h7, X7, e7, W7, st7⟩ := stJ X5 hx hZ e5 Ar7 (j := (2 : Int32)) hin7 (g := (mkF m 64 #[oR b, oI fi, oI ti, oI (2 : Int32), oI (2 : Int32), oL ((-1 : Int64) <<< (fi &&& 0x3f).toInt64), .second, oL (((-1 : Int64).toUInt64 >>> ((-ti) &&& 0x3f).toInt64.toUInt64).toInt64), .second, .unset] [(.long (wc ||| (((-1 : Int64) <<< (fi &&& 0x3f).toInt64) &&& (((-1 : Int64).toUInt64 >>> ((-ti) &&& 0x3f).toInt64.toUInt64).toInt64)))), (.int (2 : Int32)), (.ref y)])) rfl rfl (hb hby own_d7_64)
 have V7 := Arv.set Ar7 q7 S7 M7 H7 G7 rfl W7 2 rfl (Nat.le_of_ble_eq_true rfl)
 have V7s : Arv Z h7 y ka .long (5 : Int32) [(.long wa), (.long wb), (.long (wc ||| (((-1 : Int64) <<< (fi &&& 0x3f).toInt64) &&& (((-1 : Int64).toUInt64 >>> ((-ti) &&& 0x3f).toInt64.toUInt64).toInt64)))), (.long wd), (.long (0 : Int64))] (.long (0 : Int64)) := V7
 have N7 := Fr.snoc X7 N4 gy
 refine own_st st7 ?_
 have O0_x7 := O0_x4.wr W7 gy
 have Eb_x7 := Eb_x4.wr W7
 have K0_x7 := K0_x4.wr W7 (Or.inl (own_m 1 rfl))
 have Fn4_x7 := Fn4.other W7 (Or.inl (Exa.neArv Eb_x4 Va_x4 (hw _ (own_m 10 rfl))))
 have Fww4_x7 := Fww4.other W7 (Or.inl (Exa.neArv Eb_x4 Va_x4 (hw _ (own_m 10 rfl))))
 show own_Rch _ _ _ _ T7 (mkF m 65 #[oR b, oI fi, oI ti, oI (2 : Int32), oI (2 : Int32), oL ((-1 : Int64) <<< (fi &&& 0x3f).toInt64), .second, oL (((-1 : Int64).toUInt64 >>> ((-ti) &&& 0x3f).toInt64.toUInt64).toInt64), .second, .unset] [])
 refine own_st (fun _ => XS.goto X7.here hx rfl (pc0 := 65) (pc' := 119) rfl (hb hby own_d7_65) (by decide) (by decide)) ?_
 show own_Rch _ _ _ _ T7 (mkF m 119 #[oR b, oI fi, oI ti, oI (2 : Int32), oI (2 : Int32), oL ((-1 : Int64) <<< (fi &&& 0x3f).toInt64), .second, oL (((-1 : Int64).toUInt64 >>> ((-ti) &&& 0x3f).toInt64.toUInt64).toInt64), .second, .unset] [])
 refine own_st (fun _ => XS.aloadN X7.here hx rfl (hb hby own_d7_119) rfl rfl) ?_
 show own_Rch _ _ _ _ T7 (mkF m 120 #[oR b, oI fi, oI ti, oI (2 : Int32), oI (2 : Int32), oL ((-1 : Int64) <<< (fi &&& 0x3f).toInt64), .second, oL (((-1 : Int64).toUInt64 >>> ((-ti) &&& 0x3f).toInt64.toUInt64).toInt64), .second, .unset] [(.ref b)])
 obtain ⟨cq8, q8a, q8b⟩ := Eb_x7.cell
 obtain ⟨_, _, ⟨T8, L8, k8, n8⟩, -, X8, ⟨Lc8, hQ8, l8, y8, z8⟩, st8⟩ := X7.privateBack hx (y := (⟨"java/util/BitSet", "checkInvariants", "()V"⟩ : MethodName)) hown (mvT hZ (hw _ (own_m 57 rfl))) (mvT hZ (hw _ (own_m 58 rfl))) (mvT hZ (hw _ (own_m 60 rfl))) (Cond.privateMethod_at (mvP hZ (hw _ (own_m 59 rfl)) (args := #[]))) (mvT hZ (hw _ (own_m 61 rfl))) (by decide) (backOf (W := 0) (own_ci l Z a0 hw [] b h7 n0 O0_x7 SA) hZ (hw _ (own_m 61 rfl)) (hw _ (own_m 11 rfl)) (by decide) (by decide)) (g := (mkF m 120 #[oR b, oI fi, oI ti, oI (2 : Int32), oI (2 : Int32), oL ((-1 : Int64) <<< (fi &&& 0x3f).toInt64), .second, oL (((-1 : Int64).toUInt64 >>> ((-ti) &&& 0x3f).toInt64.toUInt64).toInt64), .second, .unset] [(.ref b)])) rfl (by rw [hml]; rfl) (Steps.refl _) (a := b) (by rw [e7]; exact q8a) q8b (argsL := []) (rest := []) (lenOf own_pd2 rfl) rfl (by show 2 * 0 + _ ≤ _; exact Nat.le_of_eq rfl) (hb hby own_d7_120) (fun _ _ => ⟨rfl, e7, (by decide : 0 + 0 ≤ _), (by decide : 0 + 0 ≤ _)⟩)
 dsimp only [Pt.U, Pt.locs, Pt.cells, Pt.slots] at X8 l8 y8 z8 st8 hQ8
 subst l8 y8 z8
 obtain ⟨rfl, N8q, hh8⟩ := hQ8
 have N8 := Fr.app N7 N8q
 refine own_st (fun _ => st8.trans) ?_
 show own_Rch _ _ _ _ T8 (mkF m 123 #[oR b, oI fi, oI ti, oI (2 : Int32), oI (2 : Int32), oL ((-1 : Int64) <<< (fi &&& 0x3f).toInt64), .second, oL (((-1 : Int64).toUInt64 >>> ((-ti) &&& 0x3f).toInt64.toUInt64).toInt64), .second, .unset] [])
 refine own_retV X8 hx Bd.notSynchronized Bd.returns (hb hby own_d7_123) (by decide) (by decide) ?_
 rw [hh8]
 have eq1 := own_wi hf (show _ = ((2 : Nat) : Int) by decide)
 have eq2 := own_wi ht (show _ = ((2 : Nat) : Int) by decide)
 rw [own_clsq hc] at eq2
 have Sp : own_setP (own_w wa wb wc wd) (own_w wa wb (wc ||| (((-1 : Int64) <<< (fi &&& 0x3f).toInt64) &&& (((-1 : Int64).toUInt64 >>> ((-ti) &&& 0x3f).toInt64.toUInt64).toInt64))) wd) fi.toInt ti.toInt := own_set1 (q := 2) hc.1 hc.2.1 eq1 eq2 (fun v hv => by rcases v with _ | _ | _ | _ | v <;> first | rfl | exact absurd rfl hv) rfl
 have Hn := own_nx (c := (3 : Int32)) (a := ((2 : Nat) : Int) + 1) (by decide) hx4
 exact ⟨rfl, N8, K0_x7, _, _, _, _, _, ⟨Eb_x7, Fww4_x7, Fn4_x7, V7s, own_Wd_set hW Sp hc.1 hc.2.1 (by omega) (by rw [eq2]; exact Hn)⟩, Sp⟩
set_option maxRecDepth 65536 in
set_option maxHeartbeats 40000000 in
theorem own_set33 (l : Launch) (Z : State) (a0 : Array Value) (hw : ∀ d ∈ tables_1, d.before a0 Z = true) (ws : List Jvm.Cond) (b : Addr) (y : Addr) (ka : ClassId) (wa : Int64) (wb : Int64) (wc : Int64) (wd : Int64) (nn : Int32) (fi : Int32) (ti : Int32) (h0 : Heap) (n0 : Nat) (O0 : Old Z n0 h0) (SA : Sta Z Z.heap "java/util/BitSet" "$assertionsDisabled" "Z" (.int (1 : Int32))) (SS : own_St Z h0 b y ka wa wb wc wd nn) (hc : own_cls fi ti) (hf : (fi >>> ((6 : Int32) &&& 31)) = (3 : Int32)) (ht : ((ti - (1 : Int32)) >>> ((6 : Int32) &&& 31)) = (3 : Int32)) (ga : n0 ≤ b) (gy : n0 ≤ y) :
    MetFree l (⟨"java/util/BitSet", "set", "(II)V"⟩ : MethodName) (head1 (Jvm.Cond.code (⟨"java/util/BitSet", "set", "(II)V"⟩ : MethodName) jdk_92_method_21_code 10 none :: ws) ({ frames := 3, cells := 0, slots := 0, locals := 100 } : Room)) (fun args_ U => args_ = #[(.ref b), (.int fi), (.int ti)] ∧ Z.Warmed39 U.vm ∧ U.heap = h0) (fun _ _ _ _ _ => True) (fun _ U o U' => ∃ v L, o = .returned v ∧ (own_Q_set Z b y ka wa wb wc wd fi ti h0 n0) v U'.heap L ∧ FrameEnd U o U' L ({ frames := 3, cells := 0, slots := 0, locals := 100 } : Room).cells ({ frames := 3, cells := 0, slots := 0, locals := 100 } : Room).slots) := by
 refine MetFree.of_bodySF (plainFor_of_name own_pn0) hisR ?_
 intro p e s m args below meth c s₁ Bd hml0 hP hK
 obtain ⟨rfl, hZ, hh⟩ := hP
 have hx := Bd.exec
 have hby := Bd.bytes
 have hml : c.maxLocals = 10 := hml0
 have hown : s.vm.findClass "java/util/BitSet" = some m.cls := findClass_of_methodNamed Bd.named
 have hnm := (name_of_methodNamed Bd.named Bd.method).1
 have X0 : Stand p l e ({ frames := 3, cells := 0, slots := 0, locals := 100 } : Room) s m #[(.ref b), (.int fi), (.int ti)] below meth c s₁ [] 0 0 := Stand.of_body Bd
 have e0 : s₁.heap = h0 := by rw [← hh, Bd.state]; rfl
 have N0 := Fr.nil n0
 obtain ⟨Eb, Fw, Fn, Va, hW⟩ := SS
 have ci0 : (0 : Int32).toInt = 0 := by decide
 have ci1 : (1 : Int32).toInt = 1 := by decide
 have ci2 : (2 : Int32).toInt = 2 := by decide
 have ci3 : (3 : Int32).toInt = 3 := by decide
 have ci4 : (4 : Int32).toInt = 4 := by decide
 have ci16 : (16 : Int32).toInt = 16 := by decide
 have ci256 : (256 : Int32).toInt = 256 := by decide
 have ci65536 : (65536 : Int32).toInt = 65536 := by decide
 refine own_close (s := s) (Q := (own_Q_set Z b y ka wa wb wc wd fi ti h0 n0)) (C := (({ frames := 3, cells := 0, slots := 0, locals := 100 } : Room)).cells) (N := (({ frames := 3, cells := 0, slots := 0, locals := 100 } : Room)).slots) (own_st (fun _ kt => castTop (own_ef7 m b fi ti) kt) ?_)
 have K0 := Keep.refl h0 [b, y]
 show own_Rch _ _ _ _ s₁ (mkF m 0 #[oR b, oI fi, oI ti, .unset, .unset, .unset, .unset, .unset, .unset, .unset] [])
 refine own_st (fun _ => XS.iloadN X0.here hx rfl (hb hby own_d7_0) rfl) ?_
 show own_Rch _ _ _ _ s₁ (mkF m 1 #[oR b, oI fi, oI ti, .unset, .unset, .unset, .unset, .unset, .unset, .unset] [(.int fi)])
 refine own_st (fun _ => XS.iloadN X0.here hx rfl (hb hby own_d7_1) rfl) ?_
 show own_Rch _ _ _ _ s₁ (mkF m 2 #[oR b, oI fi, oI ti, .unset, .unset, .unset, .unset, .unset, .unset, .unset] [(.int ti), (.int fi)])
 obtain ⟨_, _, ⟨T1, L1, k1, n1⟩, -, X1, ⟨Lc1, hQ1, l1, y1, z1⟩, st1⟩ := Jvm.LawKit.callS X0 hx (y := (⟨"java/util/BitSet", "checkRange", "(II)V"⟩ : MethodName)) hown (mvT hZ (hw _ (own_m 43 rfl))) (mvT hZ (hw _ (own_m 44 rfl))) (mvT hZ (hw _ (own_m 11 rfl))) (mvT hZ (hw _ (own_m 45 rfl))) (by decide) (backOf (W := 0) (own_cr l Z a0 hw [] fi ti h0 n0 O0 hc) hZ (hw _ (own_m 45 rfl)) (hw _ (own_m 11 rfl)) (by decide) (by decide)) (g := (mkF m 2 #[oR b, oI fi, oI ti, .unset, .unset, .unset, .unset, .unset, .unset, .unset] [(.int ti), (.int fi)])) rfl (by rw [hml]; rfl) (argsL := [(.int fi), (.int ti)]) (rest := []) (lenOf own_pd5 rfl) rfl (by show 2 * 0 + _ ≤ _; exact Nat.le_of_eq rfl) (hb hby own_d7_2) (fun _ _ => ⟨rfl, e0, (by decide : 0 + 0 ≤ _), (by decide : 0 + 0 ≤ _)⟩)
 dsimp only [Pt.U, Pt.locs, Pt.cells, Pt.slots] at X1 l1 y1 z1 st1 hQ1
 subst l1 y1 z1
 obtain ⟨rfl, N1q, hh1⟩ := hQ1
 have N1 := Fr.app N0 N1q
 refine own_st st1 ?_
 show own_Rch _ _ _ _ T1 (mkF m 5 #[oR b, oI fi, oI ti, .unset, .unset, .unset, .unset, .unset, .unset, .unset] [])
 refine own_st (fun _ => XS.iloadN X1.here hx rfl (hb hby own_d7_5) rfl) ?_
 show own_Rch _ _ _ _ T1 (mkF m 6 #[oR b, oI fi, oI ti, .unset, .unset, .unset, .unset, .unset, .unset, .unset] [(.int fi)])
 refine own_st (fun _ => XS.iloadN X1.here hx rfl (hb hby own_d7_6) rfl) ?_
 show own_Rch _ _ _ _ T1 (mkF m 7 #[oR b, oI fi, oI ti, .unset, .unset, .unset, .unset, .unset, .unset, .unset] [(.int ti), (.int fi)])
 refine own_st (fun _ => XS.icmpYes X1.here hx rfl (pc0 := 7) (pc' := 11) rfl (hb hby own_d7_7) rfl (feq ((own_clsn hc).2.1 : ¬ (fi = ti))).2 (by decide) (by decide)) ?_
 show own_Rch _ _ _ _ T1 (mkF m 11 #[oR b, oI fi, oI ti, .unset, .unset, .unset, .unset, .unset, .unset, .unset] [])
 refine own_st (fun _ => XS.iloadN X1.here hx rfl (hb hby own_d7_11) rfl) ?_
 show own_Rch _ _ _ _ T1 (mkF m 12 #[oR b, oI fi, oI ti, .unset, .unset, .unset, .unset, .unset, .unset, .unset] [(.int fi)])
 obtain ⟨_, _, ⟨T2, L2, k2, n2⟩, -, X2, ⟨Lc2, hQ2, l2, y2, z2⟩, st2⟩ := Jvm.LawKit.callS X1 hx (y := (⟨"java/util/BitSet", "wordIndex", "(I)I"⟩ : MethodName)) hown (mvT hZ (hw _ (own_m 25 rfl))) (mvT hZ (hw _ (own_m 26 rfl))) (mvT hZ (hw _ (own_m 11 rfl))) (mvT hZ (hw _ (own_m 27 rfl))) (by decide) (backOf (W := 0) (own_wordIndex l Z a0 hw [] fi (3 : Int32) h0 n0 O0 hf) hZ (hw _ (own_m 27 rfl)) (hw _ (own_m 11 rfl)) (by decide) (by decide)) (g := (mkF m 12 #[oR b, oI fi, oI ti, .unset, .unset, .unset, .unset, .unset, .unset, .unset] [(.int fi)])) rfl (by rw [hml]; rfl) (argsL := [(.int fi)]) (rest := []) (lenOf own_pd0 rfl) rfl (by show 2 * 0 + _ ≤ _; exact Nat.le_of_eq rfl) (hb hby own_d7_12) (fun _ _ => ⟨rfl, hh1, (by decide : 0 + 0 ≤ _), (by decide : 0 + 0 ≤ _)⟩)
 dsimp only [Pt.U, Pt.locs, Pt.cells, Pt.slots] at X2 l2 y2 z2 st2 hQ2
 subst l2 y2 z2
 obtain ⟨rfl, N2q, hh2⟩ := hQ2
 have N2 := Fr.app N1 N2q
 refine own_st st2 ?_
 show own_Rch _ _ _ _ T2 (mkF m 15 #[oR b, oI fi, oI ti, .unset, .unset, .unset, .unset, .unset, .unset, .unset] [(.int (3 : Int32))])
 refine own_st (fun _ => XS.istoreN X2.here hx rfl (hb hby own_d7_15) rfl (l' := #[oR b, oI fi, oI ti, oI (3 : Int32), .unset, .unset, .unset, .unset, .unset, .unset]) rfl) ?_
 show own_Rch _ _ _ _ T2 (mkF m 16 #[oR b, oI fi, oI ti, oI (3 : Int32), .unset, .unset, .unset, .unset, .unset, .unset] [])
 refine own_st (fun _ => XS.iloadN X2.here hx rfl (hb hby own_d7_16) rfl) ?_
 show own_Rch _ _ _ _ T2 (mkF m 17 #[oR b, oI fi, oI ti, oI (3 : Int32), .unset, .unset, .unset, .unset, .unset, .unset] [(.int ti)])
 refine own_st (fun _ => XS.iconst X2.here hx rfl (hb hby own_d7_17)) ?_
 show own_Rch _ _ _ _ T2 (mkF m 18 #[oR b, oI fi, oI ti, oI (3 : Int32), .unset, .unset, .unset, .unset, .unset, .unset] [(.int (1 : Int32)), (.int ti)])
 refine own_st (fun _ => XS.isub X2.here hx rfl (hb hby own_d7_18) rfl) ?_
 show own_Rch _ _ _ _ T2 (mkF m 19 #[oR b, oI fi, oI ti, oI (3 : Int32), .unset, .unset, .unset, .unset, .unset, .unset] [(.int (ti - (1 : Int32)))])
 obtain ⟨_, _, ⟨T3, L3, k3, n3⟩, -, X3, ⟨Lc3, hQ3, l3, y3, z3⟩, st3⟩ := Jvm.LawKit.callS X2 hx (y := (⟨"java/util/BitSet", "wordIndex", "(I)I"⟩ : MethodName)) hown (mvT hZ (hw _ (own_m 25 rfl))) (mvT hZ (hw _ (own_m 26 rfl))) (mvT hZ (hw _ (own_m 11 rfl))) (mvT hZ (hw _ (own_m 27 rfl))) (by decide) (backOf (W := 0) (own_wordIndex l Z a0 hw [] (ti - (1 : Int32)) (3 : Int32) h0 n0 O0 ht) hZ (hw _ (own_m 27 rfl)) (hw _ (own_m 11 rfl)) (by decide) (by decide)) (g := (mkF m 19 #[oR b, oI fi, oI ti, oI (3 : Int32), .unset, .unset, .unset, .unset, .unset, .unset] [(.int (ti - (1 : Int32)))])) rfl (by rw [hml]; rfl) (argsL := [(.int (ti - (1 : Int32)))]) (rest := []) (lenOf own_pd0 rfl) rfl (by show 2 * 0 + _ ≤ _; exact Nat.le_of_eq rfl) (hb hby own_d7_19) (fun _ _ => ⟨rfl, hh2, (by decide : 0 + 0 ≤ _), (by decide : 0 + 0 ≤ _)⟩)
 dsimp only [Pt.U, Pt.locs, Pt.cells, Pt.slots] at X3 l3 y3 z3 st3 hQ3
 subst l3 y3 z3
 obtain ⟨rfl, N3q, hh3⟩ := hQ3
 have N3 := Fr.app N2 N3q
 refine own_st st3 ?_
 show own_Rch _ _ _ _ T3 (mkF m 22 #[oR b, oI fi, oI ti, oI (3 : Int32), .unset, .unset, .unset, .unset, .unset, .unset] [(.int (3 : Int32))])
 refine own_st (fun _ => XS.istore X3.here hx rfl (hb hby own_d7_22) rfl (l' := #[oR b, oI fi, oI ti, oI (3 : Int32), oI (3 : Int32), .unset, .unset, .unset, .unset, .unset]) rfl) ?_
 show own_Rch _ _ _ _ T3 (mkF m 24 #[oR b, oI fi, oI ti, oI (3 : Int32), oI (3 : Int32), .unset, .unset, .unset, .unset, .unset] [])
 refine own_st (fun _ => XS.aloadN X3.here hx rfl (hb hby own_d7_24) rfl rfl) ?_
 show own_Rch _ _ _ _ T3 (mkF m 25 #[oR b, oI fi, oI ti, oI (3 : Int32), oI (3 : Int32), .unset, .unset, .unset, .unset, .unset] [(.ref b)])
 refine own_st (fun _ => XS.iload X3.here hx rfl (hb hby own_d7_25) rfl) ?_
 show own_Rch _ _ _ _ T3 (mkF m 27 #[oR b, oI fi, oI ti, oI (3 : Int32), oI (3 : Int32), .unset, .unset, .unset, .unset, .unset] [(.int (3 : Int32)), (.ref b)])
 obtain ⟨cq4, q4a, q4b⟩ := Eb.cell
 obtain ⟨_, _, ⟨T4, L4, k4, n4⟩, -, X4, ⟨Lc4, hQ4, l4, y4, z4⟩, st4⟩ := X3.privateBack hx (y := (⟨"java/util/BitSet", "expandTo", "(I)V"⟩ : MethodName)) hown (mvT hZ (hw _ (own_m 46 rfl))) (mvT hZ (hw _ (own_m 47 rfl))) (mvT hZ (hw _ (own_m 49 rfl))) (Cond.privateMethod_at (mvP hZ (hw _ (own_m 48 rfl)) (args := #[]))) (mvT hZ (hw _ (own_m 50 rfl))) (by decide) (backOf (W := 0) (own_ex4 l Z a0 hw [] b y ka nn [(.long wa), (.long wb), (.long wc), (.long wd), (.long (0 : Int64))] h0 n0 O0 Eb Fw Fn Va ga) hZ (hw _ (own_m 50 rfl)) (hw _ (own_m 11 rfl)) (by decide) (by decide)) (g := (mkF m 27 #[oR b, oI fi, oI ti, oI (3 : Int32), oI (3 : Int32), .unset, .unset, .unset, .unset, .unset] [(.int (3 : Int32)), (.ref b)])) rfl (by rw [hml]; rfl) (Steps.refl _) (a := b) (by rw [hh3]; exact q4a) q4b (argsL := [(.int (3 : Int32))]) (rest := []) (lenOf own_pd4 rfl) rfl (by show 2 * 0 + _ ≤ _; exact Nat.le_of_eq rfl) (hb hby own_d7_27) (fun _ _ => ⟨rfl, hh3, (by decide : 0 + 0 ≤ _), (by decide : 0 + 0 ≤ _)⟩)
 dsimp only [Pt.U, Pt.locs, Pt.cells, Pt.slots] at X4 l4 y4 z4 st4 hQ4
 subst l4 y4 z4
 obtain ⟨rfl, N4q, K4, Fww4, nx4, Fn4, hx4⟩ := hQ4
 have N4 := Fr.app N3 N4q
 refine own_st (fun _ => st4.trans) ?_
 have O0_x4 := O0.keep K4 (allS ga all0)
 have Eb_x4 := Eb.keep K4
 have Va_x4 := Va.keep K4 (ninS (Ne.symm (Exa.neArv Eb Va (hw _ (own_m 10 rfl)))) nin0)
 have K0_x4 := K0.trans K4 (allS (Or.inl (own_m 0 rfl)) all0)
 show own_Rch _ _ _ _ T4 (mkF m 30 #[oR b, oI fi, oI ti, oI (3 : Int32), oI (3 : Int32), .unset, .unset, .unset, .unset, .unset] [])
 refine own_st (X4.ldc2Long hx hown (mvT hZ (hw _ (own_m 56 rfl))) (g := (mkF m 30 #[oR b, oI fi, oI ti, oI (3 : Int32), oI (3 : Int32), .unset, .unset, .unset, .unset, .unset] [])) rfl (hb hby own_d7_30)) ?_
 show own_Rch _ _ _ _ T4 (mkF m 33 #[oR b, oI fi, oI ti, oI (3 : Int32), oI (3 : Int32), .unset, .unset, .unset, .unset, .unset] [(.long (-1 : Int64))])
 refine own_st (fun _ => XS.iloadN X4.here hx rfl (hb hby own_d7_33) rfl) ?_
 show own_Rch _ _ _ _ T4 (mkF m 34 #[oR b, oI fi, oI ti, oI (3 : Int32), oI (3 : Int32), .unset, .unset, .unset, .unset, .unset] [(.int fi), (.long (-1 : Int64))])
 refine own_st (fun _ => XS.lshl X4.here hx rfl (hb hby own_d7_34) rfl) ?_
 show own_Rch _ _ _ _ T4 (mkF m 35 #[oR b, oI fi, oI ti, oI (3 : Int32), oI (3 : Int32), .unset, .unset, .unset, .unset, .unset] [(.long ((-1 : Int64) <<< (fi &&& 0x3f).toInt64))])
 refine own_st (fun _ => XS.lstore X4.here hx rfl (hb hby own_d7_35) rfl (l' := #[oR b, oI fi, oI ti, oI (3 : Int32), oI (3 : Int32), oL ((-1 : Int64) <<< (fi &&& 0x3f).toInt64), .second, .unset, .unset, .unset]) rfl) ?_
 show own_Rch _ _ _ _ T4 (mkF m 37 #[oR b, oI fi, oI ti, oI (3 : Int32), oI (3 : Int32), oL ((-1 : Int64) <<< (fi &&& 0x3f).toInt64), .second, .unset, .unset, .unset] [])
 refine own_st (X4.ldc2Long hx hown (mvT hZ (hw _ (own_m 56 rfl))) (g := (mkF m 37 #[oR b, oI fi, oI ti, oI (3 : Int32), oI (3 : Int32), oL ((-1 : Int64) <<< (fi &&& 0x3f).toInt64), .second, .unset, .unset, .unset] [])) rfl (hb hby own_d7_37)) ?_
 show own_Rch _ _ _ _ T4 (mkF m 40 #[oR b, oI fi, oI ti, oI (3 : Int32), oI (3 : Int32), oL ((-1 : Int64) <<< (fi &&& 0x3f).toInt64), .second, .unset, .unset, .unset] [(.long (-1 : Int64))])
 refine own_st (fun _ => XS.iloadN X4.here hx rfl (hb hby own_d7_40) rfl) ?_
 show own_Rch _ _ _ _ T4 (mkF m 41 #[oR b, oI fi, oI ti, oI (3 : Int32), oI (3 : Int32), oL ((-1 : Int64) <<< (fi &&& 0x3f).toInt64), .second, .unset, .unset, .unset] [(.int ti), (.long (-1 : Int64))])
 refine own_st (fun _ => XS.ineg X4.here hx rfl (hb hby own_d7_41) rfl) ?_
 show own_Rch _ _ _ _ T4 (mkF m 42 #[oR b, oI fi, oI ti, oI (3 : Int32), oI (3 : Int32), oL ((-1 : Int64) <<< (fi &&& 0x3f).toInt64), .second, .unset, .unset, .unset] [(.int (-ti)), (.long (-1 : Int64))])
 refine own_st (fun _ => XS.lushr X4.here hx rfl (hb hby own_d7_42) rfl) ?_
 show own_Rch _ _ _ _ T4 (mkF m 43 #[oR b, oI fi, oI ti, oI (3 : Int32), oI (3 : Int32), oL ((-1 : Int64) <<< (fi &&& 0x3f).toInt64), .second, .unset, .unset, .unset] [(.long (((-1 : Int64).toUInt64 >>> ((-ti) &&& 0x3f).toInt64.toUInt64).toInt64))])
 refine own_st (fun _ => XS.lstore X4.here hx rfl (hb hby own_d7_43) rfl (l' := #[oR b, oI fi, oI ti, oI (3 : Int32), oI (3 : Int32), oL ((-1 : Int64) <<< (fi &&& 0x3f).toInt64), .second, oL (((-1 : Int64).toUInt64 >>> ((-ti) &&& 0x3f).toInt64.toUInt64).toInt64), .second, .unset]) rfl) ?_
 show own_Rch _ _ _ _ T4 (mkF m 45 #[oR b, oI fi, oI ti, oI (3 : Int32), oI (3 : Int32), oL ((-1 : Int64) <<< (fi &&& 0x3f).toInt64), .second, oL (((-1 : Int64).toUInt64 >>> ((-ti) &&& 0x3f).toInt64.toUInt64).toInt64), .second, .unset] [])
 refine own_st (fun _ => XS.iloadN X4.here hx rfl (hb hby own_d7_45) rfl) ?_
 show own_Rch _ _ _ _ T4 (mkF m 46 #[oR b, oI fi, oI ti, oI (3 : Int32), oI (3 : Int32), oL ((-1 : Int64) <<< (fi &&& 0x3f).toInt64), .second, oL (((-1 : Int64).toUInt64 >>> ((-ti) &&& 0x3f).toInt64.toUInt64).toInt64), .second, .unset] [(.int (3 : Int32))])
 refine own_st (fun _ => XS.iload X4.here hx rfl (hb hby own_d7_46) rfl) ?_
 show own_Rch _ _ _ _ T4 (mkF m 48 #[oR b, oI fi, oI ti, oI (3 : Int32), oI (3 : Int32), oL ((-1 : Int64) <<< (fi &&& 0x3f).toInt64), .second, oL (((-1 : Int64).toUInt64 >>> ((-ti) &&& 0x3f).toInt64.toUInt64).toInt64), .second, .unset] [(.int (3 : Int32)), (.int (3 : Int32))])
 refine own_st (fun _ => XS.icmpNo X4.here hx rfl (hb hby own_d7_48) rfl (teq (rfl : (3 : Int32) = (3 : Int32))).2) ?_
 show own_Rch _ _ _ _ T4 (mkF m 51 #[oR b, oI fi, oI ti, oI (3 : Int32), oI (3 : Int32), oL ((-1 : Int64) <<< (fi &&& 0x3f).toInt64), .second, oL (((-1 : Int64).toUInt64 >>> ((-ti) &&& 0x3f).toInt64.toUInt64).toInt64), .second, .unset] [])
 refine own_st (fun _ => XS.aloadN X4.here hx rfl (hb hby own_d7_51) rfl rfl) ?_
 show own_Rch _ _ _ _ T4 (mkF m 52 #[oR b, oI fi, oI ti, oI (3 : Int32), oI (3 : Int32), oL ((-1 : Int64) <<< (fi &&& 0x3f).toInt64), .second, oL (((-1 : Int64).toUInt64 >>> ((-ti) &&& 0x3f).toInt64.toUInt64).toInt64), .second, .unset] [(.ref b)])
 obtain ⟨T5, X5, e5, st5⟩ := getF X4 hx hZ hown (host := "") (Or.inl (hw _ (own_m 29 rfl))) Via.refl rfl Fww4 (g := (mkF m 52 #[oR b, oI fi, oI ti, oI (3 : Int32), oI (3 : Int32), oL ((-1 : Int64) <<< (fi &&& 0x3f).toInt64), .second, oL (((-1 : Int64).toUInt64 >>> ((-ti) &&& 0x3f).toInt64.toUInt64).toInt64), .second, .unset] [(.ref b)])) rfl rfl (hb hby own_d7_52)
 refine own_st st5 ?_
 show own_Rch _ _ _ _ T5 (mkF m 55 #[oR b, oI fi, oI ti, oI (3 : Int32), oI (3 : Int32), oL ((-1 : Int64) <<< (fi &&& 0x3f).toInt64), .second, oL (((-1 : Int64).toUInt64 >>> ((-ti) &&& 0x3f).toInt64.toUInt64).toInt64), .second, .unset] [(.ref y)])
 refine own_st (fun _ => XS.iloadN X5.here hx rfl (hb hby own_d7_55) rfl) ?_
 show own_Rch _ _ _ _ T5 (mkF m 56 #[oR b, oI fi, oI ti, oI (3 : Int32), oI (3 : Int32), oL ((-1 : Int64) <<< (fi &&& 0x3f).toInt64), .second, oL (((-1 : Int64).toUInt64 >>> ((-ti) &&& 0x3f).toInt64.toUInt64).toInt64), .second, .unset] [(.int (3 : Int32)), (.ref y)])
 refine own_st (fun _ => XT.dup2 X5.here hx rfl (hb hby own_d7_56) rfl rfl rfl) ?_
 show own_Rch _ _ _ _ T5 (mkF m 57 #[oR b, oI fi, oI ti, oI (3 : Int32), oI (3 : Int32), oL ((-1 : Int64) <<< (fi &&& 0x3f).toInt64), .second, oL (((-1 : Int64).toUInt64 >>> ((-ti) &&& 0x3f).toInt64.toUInt64).toInt64), .second, .unset] [(.int (3 : Int32)), (.ref y), (.int (3 : Int32)), (.ref y)])
 obtain ⟨cl6, Ar6, q6, S6, M6, H6, G6⟩ := id Va_x4
 have hin6 : ¬ ((3 : Int32) < 0 ∨ cl6.slots.size ≤ ((3 : Int32)).toNatClampNeg) := inb_of S6 ⟨by decide, by decide⟩
 refine own_st (X5.laload hx (j := (3 : Int32)) (v := (.long wd)) (by rw [e5]; exact Ar6.1) (State.isArrayOf_alike (hZ).alike Ar6.2.1) Ar6.2.2 hin6 (H6.at hin6 rfl) (g := (mkF m 57 #[oR b, oI fi, oI ti, oI (3 : Int32), oI (3 : Int32), oL ((-1 : Int64) <<< (fi &&& 0x3f).toInt64), .second, oL (((-1 : Int64).toUInt64 >>> ((-ti) &&& 0x3f).toInt64.toUInt64).toInt64), .second, .unset] [(.int (3 : Int32)), (.ref y), (.int (3 : Int32)), (.ref y)])) rfl rfl (hb hby own_d7_57)) ?_
 show own_Rch _ _ _ _ T5 (mkF m 58 #[oR b, oI fi, oI ti, oI (3 : Int32), oI (3 : Int32), oL ((-1 : Int64) <<< (fi &&& 0x3f).toInt64), .second, oL (((-1 : Int64).toUInt64 >>> ((-ti) &&& 0x3f).toInt64.toUInt64).toInt64), .second, .unset] [(.long wd), (.int (3 : Int32)), (.ref y)])
 refine own_st (fun _ => XS.lload X5.here hx rfl (hb hby own_d7_58) rfl) ?_
 show own_Rch _ _ _ _ T5 (mkF m 60 #[oR b, oI fi, oI ti, oI (3 : Int32), oI (3 : Int32), oL ((-1 : Int64) <<< (fi &&& 0x3f).toInt64), .second, oL (((-1 : Int64).toUInt64 >>> ((-ti) &&& 0x3f).toInt64.toUInt64).toInt64), .second, .unset] [(.long ((-1 : Int64) <<< (fi &&& 0x3f).toInt64)), (.long wd), (.int (3 : Int32)), (.ref y)])
 refine own_st (fun _ => XS.lload X5.here hx rfl (hb hby own_d7_60) rfl) ?_
 show own_Rch _ _ _ _ T5 (mkF m 62 #[oR b, oI fi, oI ti, oI (3 : Int32), oI (3 : Int32), oL ((-1 : Int64) <<< (fi &&& 0x3f).toInt64), .second, oL (((-1 : Int64).toUInt64 >>> ((-ti) &&& 0x3f).toInt64.toUInt64).toInt64), .second, .unset] [(.long (((-1 : Int64).toUInt64 >>> ((-ti) &&& 0x3f).toInt64.toUInt64).toInt64)), (.long ((-1 : Int64) <<< (fi &&& 0x3f).toInt64)), (.long wd), (.int (3 : Int32)), (.ref y)])
 refine own_st (fun _ => XS.land X5.here hx rfl (hb hby own_d7_62) rfl) ?_
 show own_Rch _ _ _ _ T5 (mkF m 63 #[oR b, oI fi, oI ti, oI (3 : Int32), oI (3 : Int32), oL ((-1 : Int64) <<< (fi &&& 0x3f).toInt64), .second, oL (((-1 : Int64).toUInt64 >>> ((-ti) &&& 0x3f).toInt64.toUInt64).toInt64), .second, .unset] [(.long (((-1 : Int64) <<< (fi &&& 0x3f).toInt64) &&& (((-1 : Int64).toUInt64 >>> ((-ti) &&& 0x3f).toInt64.toUInt64).toInt64))), (.long wd), (.int (3 : Int32)), (.ref y)])
 refine own_st (fun _ => XS.lor X5.here hx rfl (hb hby own_d7_63) rfl) ?_
 show own_Rch _ _ _ _ T5 (mkF m 64 #[oR b, oI fi, oI ti, oI (3 : Int32), oI (3 : Int32), oL ((-1 : Int64) <<< (fi &&& 0x3f).toInt64), .second, oL (((-1 : Int64).toUInt64 >>> ((-ti) &&& 0x3f).toInt64.toUInt64).toInt64), .second, .unset] [(.long (wd ||| (((-1 : Int64) <<< (fi &&& 0x3f).toInt64) &&& (((-1 : Int64).toUInt64 >>> ((-ti) &&& 0x3f).toInt64.toUInt64).toInt64)))), (.int (3 : Int32)), (.ref y)])
 obtain ⟨cl7, Ar7, q7, S7, M7, H7, G7⟩ := id Va_x4
 have hin7 : ¬ ((3 : Int32) < 0 ∨ cl7.slots.size ≤ ((3 : Int32)).toNatClampNeg) := inb_of S7 ⟨by decide, by decide⟩
 obtain ⟨T7, h7, X7, e7, W7, st7⟩ := stJ X5 hx hZ e5 Ar7 (j := (3 : Int32)) hin7 (g := (mkF m 64 #[oR b, oI fi, oI ti, oI (3 : Int32), oI (3 : Int32), oL ((-1 : Int64) <<< (fi &&& 0x3f).toInt64), .second, oL (((-1 : Int64).toUInt64 >>> ((-ti) &&& 0x3f).toInt64.toUInt64).toInt64), .second, .unset] [(.long (wd ||| (((-1 : Int64) <<< (fi &&& 0x3f).toInt64) &&& (((-1 : Int64).toUInt64 >>> ((-ti) &&& 0x3f).toInt64.toUInt64).toInt64)))), (.int (3 : Int32)), (.ref y)])) rfl rfl (hb hby own_d7_64)
 have V7 := Arv.set Ar7 q7 S7 M7 H7 G7 rfl W7 3 rfl (Nat.le_of_ble_eq_true rfl)
 have V7s : Arv Z h7 y ka .long (5 : Int32) [(.long wa), (.long wb), (.long wc), (.long (wd ||| (((-1 : Int64) <<< (fi &&& 0x3f).toInt64) &&& (((-1 : Int64).toUInt64 >>> ((-ti) &&& 0x3f).toInt64.toUInt64).toInt64)))), (.long (0 : Int64))] (.long (0 : Int64)) := V7
 have N7 := Fr.snoc X7 N4 gy
 refine own_st st7 ?_
 have O0_x7 := O0_x4.wr W7 gy
 have Eb_x7 := Eb_x4.wr W7
 have K0_x7 := K0_x4.wr W7 (Or.inl (own_m 1 rfl))
 have Fn4_x7 := Fn4.other W7 (Or.inl (Exa.neArv Eb_x4 Va_x4 (hw _ (own_m 10 rfl))))
 have Fww4_x7 := Fww4.other W7 (Or.inl (Exa.neArv Eb_x4 Va_x4 (hw _ (own_m 10 rfl))))
 show own_Rch _ _ _ _ T7 (mkF m 65 #[oR b, oI fi, oI ti, oI (3 : Int32), oI (3 : Int32), oL ((-1 : Int64) <<< (fi &&& 0x3f).toInt64), .second, oL (((-1 : Int64).toUInt64 >>> ((-ti) &&& 0x3f).toInt64.toUInt64).toInt64), .second, .unset] [])
 refine own_st (fun _ => XS.goto X7.here hx rfl (pc0 := 65) (pc' := 119) rfl (hb hby own_d7_65) (by decide) (by decide)) ?_
 show own_Rch _ _ _ _ T7 (mkF m 119 #[oR b, oI fi, oI ti, oI (3 : Int32), oI (3 : Int32), oL ((-1 : Int64) <<< (fi &&& 0x3f).toInt64), .second, oL (((-1 : Int64).toUInt64 >>> ((-ti) &&& 0x3f).toInt64.toUInt64).toInt64), .second, .unset] [])
 refine own_st (fun _ => XS.aloadN X7.here hx rfl (hb hby own_d7_119) rfl rfl) ?_
 show own_Rch _ _ _ _ T7 (mkF m 120 #[oR b, oI fi, oI ti, oI (3 : Int32), oI (3 : Int32), oL ((-1 : Int64) <<< (fi &&& 0x3f).toInt64), .second, oL (((-1 : Int64).toUInt64 >>> ((-ti) &&& 0x3f).toInt64.toUInt64).toInt64), .second, .unset] [(.ref b)])
 obtain ⟨cq8, q8a, q8b⟩ := Eb_x7.cell
 obtain ⟨_, _, ⟨T8, L8, k8, n8⟩, -, X8, ⟨Lc8, hQ8, l8, y8, z8⟩, st8⟩ := X7.privateBack hx (y := (⟨"java/util/BitSet", "checkInvariants", "()V"⟩ : MethodName)) hown (mvT hZ (hw _ (own_m 57 rfl))) (mvT hZ (hw _ (own_m 58 rfl))) (mvT hZ (hw _ (own_m 60 rfl))) (Cond.privateMethod_at (mvP hZ (hw _ (own_m 59 rfl)) (args := #[]))) (mvT hZ (hw _ (own_m 61 rfl))) (by decide) (backOf (W := 0) (own_ci l Z a0 hw [] b h7 n0 O0_x7 SA) hZ (hw _ (own_m 61 rfl)) (hw _ (own_m 11 rfl)) (by decide) (by decide)) (g := (mkF m 120 #[oR b, oI fi, oI ti, oI (3 : Int32), oI (3 : Int32), oL ((-1 : Int64) <<< (fi &&& 0x3f).toInt64), .second, oL (((-1 : Int64).toUInt64 >>> ((-ti) &&& 0x3f).toInt64.toUInt64).toInt64), .second, .unset] [(.ref b)])) rfl (by rw [hml]; rfl) (Steps.refl _) (a := b) (by rw [e7]; exact q8a) q8b (argsL := []) (rest := []) (lenOf own_pd2 rfl) rfl (by show 2 * 0 + _ ≤ _; exact Nat.le_of_eq rfl) (hb hby own_d7_120) (fun _ _ => ⟨rfl, e7, (by decide : 0 + 0 ≤ _), (by decide : 0 + 0 ≤ _)⟩)
 dsimp only [Pt.U, Pt.locs, Pt.cells, Pt.slots] at X8 l8 y8 z8 st8 hQ8
 subst l8 y8 z8
 obtain ⟨rfl, N8q, hh8⟩ := hQ8
 have N8 := Fr.app N7 N8q
 refine own_st (fun _ => st8.trans) ?_
 show own_Rch _ _ _ _ T8 (mkF m 123 #[oR b, oI fi, oI ti, oI (3 : Int32), oI (3 : Int32), oL ((-1 : Int64) <<< (fi &&& 0x3f).toInt64), .second, oL (((-1 : Int64).toUInt64 >>> ((-ti) &&& 0x3f).toInt64.toUInt64).toInt64), .second, .unset] [])
 refine own_retV X8 hx Bd.notSynchronized Bd.returns (hb hby own_d7_123) (by decide) (by decide) ?_
 rw [hh8]
 have eq1 := own_wi hf (show _ = ((3 : Nat) : Int) by decide)
 have eq2 := own_wi ht (show _ = ((3 : Nat) : Int) by decide)
 rw [own_clsq hc] at eq2
 have Sp : own_setP (own_w wa wb wc wd) (own_w wa wb wc (wd ||| (((-1 : Int64) <<< (fi &&& 0x3f).toInt64) &&& (((-1 : Int64).toUInt64 >>> ((-ti) &&& 0x3f).toInt64.toUInt64).toInt64)))) fi.toInt ti.toInt := own_set1 (q := 3) hc.1 hc.2.1 eq1 eq2 (fun v hv => by rcases v with _ | _ | _ | _ | v <;> first | rfl | exact absurd rfl hv) rfl
 have Hn := own_nx (c := (4 : Int32)) (a := ((3 : Nat) : Int) + 1) (by decide) hx4
 exact ⟨rfl, N8, K0_x7, _, _, _, _, _, ⟨Eb_x7, Fww4_x7, Fn4_x7, V7s, own_Wd_set hW Sp hc.1 hc.2.1 (by omega) (by rw [eq2]; exact Hn)⟩, Sp⟩
theorem own_set (l : Launch) (Z : State) (a0 : Array Value) (hw : ∀ d ∈ tables_1, d.before a0 Z = true) (ws : List Jvm.Cond) (b : Addr) (y : Addr) (ka : ClassId) (wa : Int64) (wb : Int64) (wc : Int64) (wd : Int64) (nn : Int32) (fi ti : Int32) (h0 : Heap) (n0 : Nat) (O0 : Old Z n0 h0) (SA : Sta Z Z.heap "java/util/BitSet" "$assertionsDisabled" "Z" (.int (1 : Int32))) (SS : own_St Z h0 b y ka wa wb wc wd nn) (hc : own_cls fi ti) (ga : n0 ≤ b) (gy : n0 ≤ y) :
    MetFree l (⟨"java/util/BitSet", "set", "(II)V"⟩ : MethodName) (head1 (Jvm.Cond.code (⟨"java/util/BitSet", "set", "(II)V"⟩ : MethodName) jdk_92_method_21_code 10 none :: ws) ({ frames := 3, cells := 0, slots := 0, locals := 100 } : Room)) (fun args_ U => args_ = #[(.ref b), (.int fi), (.int ti)] ∧ Z.Warmed39 U.vm ∧ U.heap = h0) (fun _ _ _ _ _ => True) (fun _ U o U' => ∃ v L, o = .returned v ∧ (own_Q_set Z b y ka wa wb wc wd fi ti h0 n0) v U'.heap L ∧ FrameEnd U o U' L ({ frames := 3, cells := 0, slots := 0, locals := 100 } : Room).cells ({ frames := 3, cells := 0, slots := 0, locals := 100 } : Room).slots) := by
  rcases own_cls6 hc with ⟨hf, ht⟩ | ⟨hf, ht⟩ | ⟨hf, ht⟩ | ⟨hf, ht⟩ | ⟨hf, ht⟩ | ⟨hf, ht⟩
  · exact own_set00 l Z a0 hw ws b y ka wa wb wc wd nn fi ti h0 n0 O0 SA SS hc hf ht ga gy
  · exact own_set01 l Z a0 hw ws b y ka wa wb wc wd nn fi ti h0 n0 O0 SA SS hc hf ht ga gy
  · exact own_set11 l Z a0 hw ws b y ka wa wb wc wd nn fi ti h0 n0 O0 SA SS hc hf ht ga gy
  · exact own_set12 l Z a0 hw ws b y ka wa wb wc wd nn fi ti h0 n0 O0 SA SS hc hf ht ga gy
  · exact own_set22 l Z a0 hw ws b y ka wa wb wc wd nn fi ti h0 n0 O0 SA SS hc hf ht ga gy
  · exact own_set33 l Z a0 hw ws b y ka wa wb wc wd nn fi ti h0 n0 O0 SA SS hc hf ht ga gy
theorem own_ef4 (m : MethodId) (x0 : Addr) (x1 : Int32) : entryFrame m #[(.ref x0), (.int x1)] 2 = mkF m 0 #[.val (.ref x0), .val (.int x1)] [] := by first | (simp [entryFrame, mkF, argsToLocals, Value.category]; done) | rfl
theorem own_d4_0 : decode jdk_92_method_6_code 0 = .ok (.aload_n 0, 1) := by decide +kernel
theorem own_d4_1 : decode jdk_92_method_6_code 1 = .ok (.iload_n 1, 1) := by decide +kernel
theorem own_d4_2 : decode jdk_92_method_6_code 2 = .ok (.iconst 1, 1) := by decide +kernel
theorem own_d4_3 : decode jdk_92_method_6_code 3 = .ok (.isub, 1) := by decide +kernel
theorem own_d4_4 : decode jdk_92_method_6_code 4 = .ok (.invokestatic 52, 3) := by decide +kernel
theorem own_d4_7 : decode jdk_92_method_6_code 7 = .ok (.iconst 1, 1) := by decide +kernel
theorem own_d4_8 : decode jdk_92_method_6_code 8 = .ok (.iadd, 1) := by decide +kernel
theorem own_d4_9 : decode jdk_92_method_6_code 9 = .ok (.newarray .long, 2) := by decide +kernel
theorem own_d4_11 : decode jdk_92_method_6_code 11 = .ok (.putfield 11, 3) := by decide +kernel
theorem own_d4_14 : decode jdk_92_method_6_code 14 = .ok (.return_, 1) := by decide +kernel
def own_Q_own_iw (Z : State) (b : Addr) (h0 : Heap) (n0 : Nat) (v : Option Value) (h : Heap) (L : List Loc) : Prop := v = none ∧ Fr n0 L ∧ Keep h0 h [b] ∧ ∃ (y : Addr) (ka : ClassId), Fld Z h b "java/util/BitSet" "words" "[J" (.ref y) ∧ Fld Z h b "java/util/BitSet" "wordsInUse" "I" (.int (0 : Int32)) ∧ Fld Z h b "java/util/BitSet" "sizeIsSticky" "Z" (.int (0 : Int32)) ∧ Arv Z h y ka .long (5 : Int32) [(.long (0 : Int64)), (.long (0 : Int64)), (.long (0 : Int64)), (.long (0 : Int64)), (.long (0 : Int64))] (.long (0 : Int64)) ∧ h0.size ≤ y
set_option maxRecDepth 65536 in
set_option maxHeartbeats 40000000 in
theorem own_iw (l : Launch) (Z : State) (a0 : Array Value) (hw : ∀ d ∈ tables_1, d.before a0 Z = true) (ws : List Jvm.Cond) (b : Addr) (h0 : Heap) (n0 : Nat) (O0 : Old Z n0 h0) (Eb : Exa Z h0 b "java/util/BitSet") (Fw : Fld Z h0 b "java/util/BitSet" "words" "[J" .null) (Fn : Fld Z h0 b "java/util/BitSet" "wordsInUse" "I" (.int (0 : Int32))) (Fs : Fld Z h0 b "java/util/BitSet" "sizeIsSticky" "Z" (.int (0 : Int32))) (ga : n0 ≤ b) :
    MetFree l (⟨"java/util/BitSet", "initWords", "(I)V"⟩ : MethodName) (head1 (Jvm.Cond.code (⟨"java/util/BitSet", "initWords", "(I)V"⟩ : MethodName) jdk_92_method_6_code 2 none :: ws) ({ frames := 1, cells := 1, slots := 5, locals := 13 } : Room)) (fun args_ U => args_ = #[(.ref b), (.int (257 : Int32))] ∧ Z.Warmed39 U.vm ∧ U.heap = h0) (fun _ _ _ _ _ => True) (fun _ U o U' => ∃ v L, o = .returned v ∧ (own_Q_own_iw Z b h0 n0) v U'.heap L ∧ FrameEnd U o U' L ({ frames := 1, cells := 1, slots := 5, locals := 13 } : Room).cells ({ frames := 1, cells := 1, slots := 5, locals := 13 } : Room).slots) := by
 refine MetFree.of_bodySF (plainFor_of_name own_pn0) hisR ?_
 intro p e s m args below meth c s₁ Bd hml0 hP hK
 obtain ⟨rfl, hZ, hh⟩ := hP
 have hx := Bd.exec
 have hby := Bd.bytes
 have hml : c.maxLocals = 2 := hml0
 have hown : s.vm.findClass "java/util/BitSet" = some m.cls := findClass_of_methodNamed Bd.named
 have hnm := (name_of_methodNamed Bd.named Bd.method).1
 have X0 : Stand p l e ({ frames := 1, cells := 1, slots := 5, locals := 13 } : Room) s m #[(.ref b), (.int (257 : Int32))] below meth c s₁ [] 0 0 := Stand.of_body Bd
 have e0 : s₁.heap = h0 := by rw [← hh, Bd.state]; rfl
 have N0 := Fr.nil n0
 refine own_close (s := s) (Q := (own_Q_own_iw Z b h0 n0)) (C := (({ frames := 1, cells := 1, slots := 5, locals := 13 } : Room)).cells) (N := (({ frames := 1, cells := 1, slots := 5, locals := 13 } : Room)).slots) (own_st (fun _ kt => castTop (own_ef4 m b (257 : Int32)) kt) ?_)
 have K0 := Keep.refl h0 [b]
 show own_Rch _ _ _ _ s₁ (mkF m 0 #[oR b, oI (257 : Int32)] [])
 refine own_st (fun _ => XS.aloadN X0.here hx rfl (hb hby own_d4_0) rfl rfl) ?_
 show own_Rch _ _ _ _ s₁ (mkF m 1 #[oR b, oI (257 : Int32)] [(.ref b)])
 refine own_st (fun _ => XS.iloadN X0.here hx rfl (hb hby own_d4_1) rfl) ?_
 show own_Rch _ _ _ _ s₁ (mkF m 2 #[oR b, oI (257 : Int32)] [(.int (257 : Int32)), (.ref b)])
 refine own_st (fun _ => XS.iconst X0.here hx rfl (hb hby own_d4_2)) ?_
 show own_Rch _ _ _ _ s₁ (mkF m 3 #[oR b, oI (257 : Int32)] [(.int (1 : Int32)), (.int (257 : Int32)), (.ref b)])
 refine own_st (fun _ => XS.isub X0.here hx rfl (hb hby own_d4_3) rfl) ?_
 show own_Rch _ _ _ _ s₁ (mkF m 4 #[oR b, oI (257 : Int32)] [(.int (256 : Int32)), (.ref b)])
 obtain ⟨_, _, ⟨T1, L1, k1, n1⟩, -, X1, ⟨Lc1, hQ1, l1, y1, z1⟩, st1⟩ := Jvm.LawKit.callS X0 hx (y := (⟨"java/util/BitSet", "wordIndex", "(I)I"⟩ : MethodName)) hown (mvT hZ (hw _ (own_m 25 rfl))) (mvT hZ (hw _ (own_m 26 rfl))) (mvT hZ (hw _ (own_m 11 rfl))) (mvT hZ (hw _ (own_m 27 rfl))) (by decide) (backOf (W := 1) (own_wordIndex l Z a0 hw [] (256 : Int32) (4 : Int32) h0 n0 O0 (by decide)) hZ (hw _ (own_m 27 rfl)) (hw _ (own_m 11 rfl)) (by decide) (by decide)) (g := (mkF m 4 #[oR b, oI (257 : Int32)] [(.int (256 : Int32)), (.ref b)])) rfl (by rw [hml]; rfl) (argsL := [(.int (256 : Int32))]) (rest := [(.ref b)]) (lenOf own_pd0 rfl) rfl (by show 2 * 0 + _ ≤ _; exact Nat.le_of_eq rfl) (hb hby own_d4_4) (fun _ _ => ⟨rfl, e0, (by decide : 0 + 0 ≤ _), (by decide : 0 + 0 ≤ _)⟩)
 dsimp only [Pt.U, Pt.locs, Pt.cells, Pt.slots] at X1 l1 y1 z1 st1 hQ1
 subst l1 y1 z1
 obtain ⟨rfl, N1q, hh1⟩ := hQ1
 have N1 := Fr.app N0 N1q
 refine own_st st1 ?_
 show own_Rch _ _ _ _ T1 (mkF m 7 #[oR b, oI (257 : Int32)] [(.int (4 : Int32)), (.ref b)])
 refine own_st (fun _ => XS.iconst X1.here hx rfl (hb hby own_d4_7)) ?_
 show own_Rch _ _ _ _ T1 (mkF m 8 #[oR b, oI (257 : Int32)] [(.int (1 : Int32)), (.int (4 : Int32)), (.ref b)])
 refine own_st (fun _ => XS.iadd X1.here hx rfl (hb hby own_d4_8) rfl) ?_
 show own_Rch _ _ _ _ T1 (mkF m 9 #[oR b, oI (257 : Int32)] [(.int (5 : Int32)), (.ref b)])
 obtain ⟨T2, h2, k2, X2, e2, E2, A2, st2⟩ := newP X1 hx hZ (hw _ (own_m 28 rfl)) hh1 (g := (mkF m 9 #[oR b, oI (257 : Int32)] [(.int (5 : Int32)), (.ref b)])) rfl (hb hby own_d4_9) rfl (by decide) (cap := 5) (by decide) (by decide) (by decide) (by decide)
 obtain ⟨b2, g2⟩ : ∃ z, z = h0.size := ⟨_, rfl⟩
 rw [← g2] at A2 st2
 have ge2 : n0 ≤ b2 := by rw [g2]; exact own_old_le O0
 have ne2_b : b ≠ b2 := by rw [g2]; exact Nat.ne_of_lt Eb.lt
 have sz2 : h0.size ≤ b2 := by rw [g2]; exact K0.1
 have O0_x2 := O0.ext E2
 have Eb_x2 := Eb.ext E2
 have Fw_x2 := Fw.ext E2
 have Fn_x2 := Fn.ext E2
 have Fs_x2 := Fs.ext E2
 have K0_x2 := K0.ext E2
 refine own_st st2 ?_
 have V2 := Arv.new A2 (by decide)
 have V2p : Arv Z h2 b2 k2 .long (5 : Int32) [(.long (0 : Int64)), (.long (0 : Int64)), (.long (0 : Int64)), (.long (0 : Int64)), (.long (0 : Int64))] (.long (0 : Int64)) := V2.pad (pad_rep [] (.long (0 : Int64)) 5)
 show own_Rch _ _ _ _ T2 (mkF m 11 #[oR b, oI (257 : Int32)] [(.ref b2), (.ref b)])
 obtain ⟨T3, h3, X3, e3, W3, st3⟩ := putF X2 hx hZ hown (host := "") (Or.inl (hw _ (own_m 29 rfl))) Via.refl e2 Fw_x2 Eb_x2 (Or.inl (hw _ (own_m 30 rfl))) (hw _ (own_m 10 rfl)) (ty := (.array .long)) (by decide) rfl rfl (g := (mkF m 11 #[oR b, oI (257 : Int32)] [(.ref b2), (.ref b)])) rfl rfl (hb hby own_d4_11)
 refine own_st st3 ?_
 have Fw3 := Fw_x2.same W3
 have N3 := Fr.snoc X3 N1 ga
 have O0_x3 := O0_x2.wr W3 ga
 have Eb_x3 := Eb_x2.wr W3
 have Fn_x3 := Fn_x2.other W3 (Or.inr (slot_ne (Or.inl (hw _ (own_m 17 rfl))) (Or.inl (hw _ (own_m 30 rfl))) (by decide) (t := .int) (t' := (.array .long)) (by decide) (by decide)))
 have Fs_x3 := Fs_x2.other W3 (Or.inr (slot_ne (Or.inl (hw _ (own_m 19 rfl))) (Or.inl (hw _ (own_m 30 rfl))) (by decide) (t := .boolean) (t' := (.array .long)) (by decide) (by decide)))
 have K0_x3 := K0_x2.wr W3 (Or.inl (own_m 0 rfl))
 have V2p_x3 := V2p.other W3 (Ne.symm ne2_b)
 show own_Rch _ _ _ _ T3 (mkF m 14 #[oR b, oI (257 : Int32)] [])
 refine own_retV X3 hx Bd.notSynchronized Bd.returns (hb hby own_d4_14) (by decide) (by decide) ?_
 rw [e3]
 exact ⟨rfl, N3, K0_x3, _, _, Fw3, Fn_x3, Fs_x3, V2p_x3, sz2⟩
theorem own_ef3 (m : MethodId) (x0 : Addr) (x1 : Int32) : entryFrame m #[(.ref x0), (.int x1)] 2 = mkF m 0 #[.val (.ref x0), .val (.int x1)] [] := by first | (simp [entryFrame, mkF, argsToLocals, Value.category]; done) | rfl
theorem own_d3_0 : decode jdk_92_method_5_code 0 = .ok (.aload_n 0, 1) := by decide +kernel
theorem own_d3_1 : decode jdk_92_method_5_code 1 = .ok (.invokespecial 21, 3) := by decide +kernel
theorem own_d3_4 : decode jdk_92_method_5_code 4 = .ok (.aload_n 0, 1) := by decide +kernel
theorem own_d3_5 : decode jdk_92_method_5_code 5 = .ok (.iconst 0, 1) := by decide +kernel
theorem own_d3_6 : decode jdk_92_method_5_code 6 = .ok (.putfield 7, 3) := by decide +kernel
theorem own_d3_9 : decode jdk_92_method_5_code 9 = .ok (.aload_n 0, 1) := by decide +kernel
theorem own_d3_10 : decode jdk_92_method_5_code 10 = .ok (.iconst 0, 1) := by decide +kernel
theorem own_d3_11 : decode jdk_92_method_5_code 11 = .ok (.putfield 24, 3) := by decide +kernel
theorem own_d3_14 : decode jdk_92_method_5_code 14 = .ok (.iload_n 1, 1) := by decide +kernel
theorem own_d3_15 : decode jdk_92_method_5_code 15 = .ok (.ifCond .ge 30, 3) := by decide +kernel
theorem own_d3_45 : decode jdk_92_method_5_code 45 = .ok (.aload_n 0, 1) := by decide +kernel
theorem own_d3_46 : decode jdk_92_method_5_code 46 = .ok (.iload_n 1, 1) := by decide +kernel
theorem own_d3_47 : decode jdk_92_method_5_code 47 = .ok (.invokevirtual 27, 3) := by decide +kernel
theorem own_d3_50 : decode jdk_92_method_5_code 50 = .ok (.aload_n 0, 1) := by decide +kernel
theorem own_d3_51 : decode jdk_92_method_5_code 51 = .ok (.iconst 1, 1) := by decide +kernel
theorem own_d3_52 : decode jdk_92_method_5_code 52 = .ok (.putfield 24, 3) := by decide +kernel
theorem own_d3_55 : decode jdk_92_method_5_code 55 = .ok (.return_, 1) := by decide +kernel
def own_Q_own_bsi (Z : State) (b : Addr) (h0 : Heap) (n0 : Nat) (v : Option Value) (h : Heap) (L : List Loc) : Prop := v = none ∧ Fr n0 L ∧ Keep h0 h [b] ∧ ∃ (y : Addr) (ka : ClassId), own_St Z h b y ka (0 : Int64) (0 : Int64) (0 : Int64) (0 : Int64) (0 : Int32) ∧ h0.size ≤ y
set_option maxRecDepth 65536 in
set_option maxHeartbeats 40000000 in
theorem own_bsi (l : Launch) (Z : State) (a0 : Array Value) (hw : ∀ d ∈ tables_1, d.before a0 Z = true) (ws : List Jvm.Cond) (b : Addr) (h0 : Heap) (n0 : Nat) (O0 : Old Z n0 h0) (Eb : Exa Z h0 b "java/util/BitSet") (Fw : Fld Z h0 b "java/util/BitSet" "words" "[J" .null) (Fn : Fld Z h0 b "java/util/BitSet" "wordsInUse" "I" (.int (0 : Int32))) (Fs : Fld Z h0 b "java/util/BitSet" "sizeIsSticky" "Z" (.int (0 : Int32))) (ga : n0 ≤ b) :
    MetFree l (⟨"java/util/BitSet", "<init>", "(I)V"⟩ : MethodName) (head1 (Jvm.Cond.code (⟨"java/util/BitSet", "<init>", "(I)V"⟩ : MethodName) jdk_92_method_5_code 2 none :: ws) ({ frames := 2, cells := 1, slots := 5, locals := 26 } : Room)) (fun args_ U => args_ = #[(.ref b), (.int (257 : Int32))] ∧ Z.Warmed39 U.vm ∧ U.heap = h0) (fun _ _ _ _ _ => True) (fun _ U o U' => ∃ v L, o = .returned v ∧ (own_Q_own_bsi Z b h0 n0) v U'.heap L ∧ FrameEnd U o U' L ({ frames := 2, cells := 1, slots := 5, locals := 26 } : Room).cells ({ frames := 2, cells := 1, slots := 5, locals := 26 } : Room).slots) := by
 refine MetFree.of_bodySF (plainFor_of_name own_pn0) hisR ?_
 intro p e s m args below meth c s₁ Bd hml0 hP hK
 obtain ⟨rfl, hZ, hh⟩ := hP
 have hx := Bd.exec
 have hby := Bd.bytes
 have hml : c.maxLocals = 2 := hml0
 have hown : s.vm.findClass "java/util/BitSet" = some m.cls := findClass_of_methodNamed Bd.named
 have hnm := (name_of_methodNamed Bd.named Bd.method).1
 have X0 : Stand p l e ({ frames := 2, cells := 1, slots := 5, locals := 26 } : Room) s m #[(.ref b), (.int (257 : Int32))] below meth c s₁ [] 0 0 := Stand.of_body Bd
 have e0 : s₁.heap = h0 := by rw [← hh, Bd.state]; rfl
 have N0 := Fr.nil n0
 refine own_close (s := s) (Q := (own_Q_own_bsi Z b h0 n0)) (C := (({ frames := 2, cells := 1, slots := 5, locals := 26 } : Room)).cells) (N := (({ frames := 2, cells := 1, slots := 5, locals := 26 } : Room)).slots) (own_st (fun _ kt => castTop (own_ef3 m b (257 : Int32)) kt) ?_)
 have K0 := Keep.refl h0 [b]
 show own_Rch _ _ _ _ s₁ (mkF m 0 #[oR b, oI (257 : Int32)] [])
 refine own_st (fun _ => XS.aloadN X0.here hx rfl (hb hby own_d3_0) rfl rfl) ?_
 show own_Rch _ _ _ _ s₁ (mkF m 1 #[oR b, oI (257 : Int32)] [(.ref b)])
 obtain ⟨T1, X1, e1, st1⟩ := initO X0 hx hZ hown (hw _ (own_m 15 rfl)) (hw _ (own_m 7 rfl)) (hw _ (own_m 8 rfl)) e0 (g := (mkF m 1 #[oR b, oI (257 : Int32)] [(.ref b)])) rfl (by rw [hml]; rfl) rfl (hb hby own_d3_1) (by decide) (W := 0) (by show 2 * 0 + _ ≤ _; exact Nat.le_of_eq rfl) (by decide)
 refine own_st st1 ?_
 show own_Rch _ _ _ _ T1 (mkF m 4 #[oR b, oI (257 : Int32)] [])
 refine own_st (fun _ => XS.aloadN X1.here hx rfl (hb hby own_d3_4) rfl rfl) ?_
 show own_Rch _ _ _ _ T1 (mkF m 5 #[oR b, oI (257 : Int32)] [(.ref b)])
 refine own_st (fun _ => XS.iconst X1.here hx rfl (hb hby own_d3_5)) ?_
 show own_Rch _ _ _ _ T1 (mkF m 6 #[oR b, oI (257 : Int32)] [(.int (0 : Int32)), (.ref b)])
 obtain ⟨T2, h2, X2, e2, W2, st2⟩ := putF X1 hx hZ hown (host := "") (Or.inl (hw _ (own_m 16 rfl))) Via.refl e1 Fn Eb (Or.inl (hw _ (own_m 17 rfl))) (hw _ (own_m 10 rfl)) (ty := .int) (by decide) rfl rfl (g := (mkF m 6 #[oR b, oI (257 : Int32)] [(.int (0 : Int32)), (.ref b)])) rfl rfl (hb hby own_d3_6)
 refine own_st st2 ?_
 have Fw2 := Fn.same W2
 have N2 := Fr.snoc X2 N0 ga
 have O0_x2 := O0.wr W2 ga
 have Eb_x2 := Eb.wr W2
 have Fw_x2 := Fw.other W2 (Or.inr (slot_ne (Or.inl (hw _ (own_m 30 rfl))) (Or.inl (hw _ (own_m 17 rfl))) (by decide) (t := (.array .long)) (t' := .int) (by decide) (by decide)))
 have Fs_x2 := Fs.other W2 (Or.inr (slot_ne (Or.inl (hw _ (own_m 19 rfl))) (Or.inl (hw _ (own_m 17 rfl))) (by decide) (t := .boolean) (t' := .int) (by decide) (by decide)))
 have K0_x2 := K0.wr W2 (Or.inl (own_m 0 rfl))
 show own_Rch _ _ _ _ T2 (mkF m 9 #[oR b, oI (257 : Int32)] [])
 refine own_st (fun _ => XS.aloadN X2.here hx rfl (hb hby own_d3_9) rfl rfl) ?_
 show own_Rch _ _ _ _ T2 (mkF m 10 #[oR b, oI (257 : Int32)] [(.ref b)])
 refine own_st (fun _ => XS.iconst X2.here hx rfl (hb hby own_d3_10)) ?_
 show own_Rch _ _ _ _ T2 (mkF m 11 #[oR b, oI (257 : Int32)] [(.int (0 : Int32)), (.ref b)])
 obtain ⟨T3, h3, X3, e3, W3, st3⟩ := putFN X2 hx hZ hown (hw _ (own_m 18 rfl)) Via.refl e2 Fs_x2 Eb_x2 (Or.inl (hw _ (own_m 19 rfl))) (hw _ (own_m 10 rfl)) (ty := .boolean) (v' := (.int (0 : Int32))) (by decide) rfl (by decide) (g := (mkF m 11 #[oR b, oI (257 : Int32)] [(.int (0 : Int32)), (.ref b)])) rfl rfl (hb hby own_d3_11)
 refine own_st st3 ?_
 have Fw3 := Fs_x2.same W3
 have N3 := Fr.snoc X3 N2 ga
 have O0_x3 := O0_x2.wr W3 ga
 have Eb_x3 := Eb_x2.wr W3
 have Fw_x3 := Fw_x2.other W3 (Or.inr (slot_ne (Or.inl (hw _ (own_m 30 rfl))) (Or.inl (hw _ (own_m 19 rfl))) (by decide) (t := (.array .long)) (t' := .boolean) (by decide) (by decide)))
 have Fw2_x3 := Fw2.other W3 (Or.inr (slot_ne (Or.inl (hw _ (own_m 17 rfl))) (Or.inl (hw _ (own_m 19 rfl))) (by decide) (t := .int) (t' := .boolean) (by decide) (by decide)))
 have K0_x3 := K0_x2.wr W3 (Or.inl (own_m 0 rfl))
 show own_Rch _ _ _ _ T3 (mkF m 14 #[oR b, oI (257 : Int32)] [])
 refine own_st (fun _ => XS.iloadN X3.here hx rfl (hb hby own_d3_14) rfl) ?_
 show own_Rch _ _ _ _ T3 (mkF m 15 #[oR b, oI (257 : Int32)] [(.int (257 : Int32))])
 refine own_st (fun _ => XS.ifYes X3.here hx rfl (pc0 := 15) (pc' := 45) rfl (hb hby own_d3_15) rfl ((if0 _ _).trans (flt ((by decide) : ¬ ((257 : Int32) < (0 : Int32)))).2.1) (by decide) (by decide)) ?_
 show own_Rch _ _ _ _ T3 (mkF m 45 #[oR b, oI (257 : Int32)] [])
 refine own_st (fun _ => XS.aloadN X3.here hx rfl (hb hby own_d3_45) rfl rfl) ?_
 show own_Rch _ _ _ _ T3 (mkF m 46 #[oR b, oI (257 : Int32)] [(.ref b)])
 refine own_st (fun _ => XS.iloadN X3.here hx rfl (hb hby own_d3_46) rfl) ?_
 show own_Rch _ _ _ _ T3 (mkF m 47 #[oR b, oI (257 : Int32)] [(.int (257 : Int32)), (.ref b)])
 obtain ⟨cq4, q4a, q4b⟩ := Eb_x3.cell
 obtain ⟨_, _, ⟨T4, L4, k4, n4⟩, -, X4, ⟨Lc4, hQ4, l4, y4, z4⟩, st4⟩ := X3.privateBack hx (y := (⟨"java/util/BitSet", "initWords", "(I)V"⟩ : MethodName)) hown (mvT hZ (hw _ (own_m 20 rfl))) (mvT hZ (hw _ (own_m 21 rfl))) (mvT hZ (hw _ (own_m 23 rfl))) (Cond.privateMethod_at (mvP hZ (hw _ (own_m 22 rfl)) (args := #[]))) (mvT hZ (hw _ (own_m 24 rfl))) (by decide) (backOf (W := 0) (own_iw l Z a0 hw [] b h3 n0 O0_x3 Eb_x3 Fw_x3 Fw2_x3 Fw3 ga) hZ (hw _ (own_m 24 rfl)) (hw _ (own_m 11 rfl)) (by decide) (by decide)) (g := (mkF m 47 #[oR b, oI (257 : Int32)] [(.int (257 : Int32)), (.ref b)])) rfl (by rw [hml]; rfl) (Steps.refl _) (a := b) (by rw [e3]; exact q4a) q4b (argsL := [(.int (257 : Int32))]) (rest := []) (lenOf own_pd4 rfl) rfl (by show 2 * 0 + _ ≤ _; exact Nat.le_of_eq rfl) (hb hby own_d3_47) (fun _ _ => ⟨rfl, e3, (by decide : 0 + 1 ≤ _), (by decide : 0 + 5 ≤ _)⟩)
 dsimp only [Pt.U, Pt.locs, Pt.cells, Pt.slots] at X4 l4 y4 z4 st4 hQ4
 subst l4 y4 z4
 obtain ⟨rfl, N4q, K4, yy4, ka4, Fw4, Fn4, Fs4, Va4, hy4⟩ := hQ4
 have N4 := Fr.app N3 N4q
 refine own_st (fun _ => st4.trans) ?_
 have ne4_b_yy4 : b ≠ yy4 := Nat.ne_of_lt (Nat.lt_of_lt_of_le Eb_x3.lt hy4)
 have ge4_yy4 : n0 ≤ yy4 := Nat.le_trans (own_old_le O0_x3) hy4
 have sz4_yy4 : h0.size ≤ yy4 := Nat.le_trans K0_x3.1 hy4
 have O0_x4 := O0_x3.keep K4 (allS ga all0)
 have Eb_x4 := Eb_x3.keep K4
 have K0_x4 := K0_x3.trans K4 (allS (Or.inl (own_m 0 rfl)) all0)
 show own_Rch _ _ _ _ T4 (mkF m 50 #[oR b, oI (257 : Int32)] [])
 refine own_st (fun _ => XS.aloadN X4.here hx rfl (hb hby own_d3_50) rfl rfl) ?_
 show own_Rch _ _ _ _ T4 (mkF m 51 #[oR b, oI (257 : Int32)] [(.ref b)])
 refine own_st (fun _ => XS.iconst X4.here hx rfl (hb hby own_d3_51)) ?_
 show own_Rch _ _ _ _ T4 (mkF m 52 #[oR b, oI (257 : Int32)] [(.int (1 : Int32)), (.ref b)])
 obtain ⟨T5, h5, X5, e5, W5, st5⟩ := putFN X4 hx hZ hown (hw _ (own_m 18 rfl)) Via.refl rfl Fs4 Eb_x4 (Or.inl (hw _ (own_m 19 rfl))) (hw _ (own_m 10 rfl)) (ty := .boolean) (v' := (.int (1 : Int32))) (by decide) rfl (by decide) (g := (mkF m 52 #[oR b, oI (257 : Int32)] [(.int (1 : Int32)), (.ref b)])) rfl rfl (hb hby own_d3_52)
 refine own_st st5 ?_
 have Fw5 := Fs4.same W5
 have N5 := Fr.snoc X5 N4 ga
 have O0_x5 := O0_x4.wr W5 ga
 have Eb_x5 := Eb_x4.wr W5
 have K0_x5 := K0_x4.wr W5 (Or.inl (own_m 0 rfl))
 have Fw4_x5 := Fw4.other W5 (Or.inr (slot_ne (Or.inl (hw _ (own_m 30 rfl))) (Or.inl (hw _ (own_m 19 rfl))) (by decide) (t := (.array .long)) (t' := .boolean) (by decide) (by decide)))
 have Fn4_x5 := Fn4.other W5 (Or.inr (slot_ne (Or.inl (hw _ (own_m 17 rfl))) (Or.inl (hw _ (own_m 19 rfl))) (by decide) (t := .int) (t' := .boolean) (by decide) (by decide)))
 have Va4_x5 := Va4.other W5 (Ne.symm ne4_b_yy4)
 show own_Rch _ _ _ _ T5 (mkF m 55 #[oR b, oI (257 : Int32)] [])
 refine own_retV X5 hx Bd.notSynchronized Bd.returns (hb hby own_d3_55) (by decide) (by decide) ?_
 rw [e5]
 exact ⟨rfl, N5, K0_x5, _, _, ⟨Eb_x5, Fw4_x5, Fn4_x5, Va4_x5, own_Wd0⟩, sz4_yy4⟩
theorem own_pn3 : plainName "com/example/lightweave/lightweave/LinkSlots$Bits" = true := by first | (simp [plainName, overriddenIn]; done) | decide +kernel
theorem own_ef1 (m : MethodId) (x0 : Addr) (x1 : Int32) : entryFrame m #[(.ref x0), (.int x1)] 2 = mkF m 0 #[.val (.ref x0), .val (.int x1)] [] := by first | (simp [entryFrame, mkF, argsToLocals, Value.category]; done) | rfl
theorem own_d1_0 : decode prog_35_method_1_code 0 = .ok (.aload_n 0, 1) := by decide +kernel
theorem own_d1_1 : decode prog_35_method_1_code 1 = .ok (.invokespecial 1, 3) := by decide +kernel
theorem own_d1_4 : decode prog_35_method_1_code 4 = .ok (.aload_n 0, 1) := by decide +kernel
theorem own_d1_5 : decode prog_35_method_1_code 5 = .ok (.new 7, 3) := by decide +kernel
theorem own_d1_8 : decode prog_35_method_1_code 8 = .ok (.dup, 1) := by decide +kernel
theorem own_d1_9 : decode prog_35_method_1_code 9 = .ok (.iload_n 1, 1) := by decide +kernel
theorem own_d1_10 : decode prog_35_method_1_code 10 = .ok (.iconst 1, 1) := by decide +kernel
theorem own_d1_11 : decode prog_35_method_1_code 11 = .ok (.iadd, 1) := by decide +kernel
theorem own_d1_12 : decode prog_35_method_1_code 12 = .ok (.invokespecial 9, 3) := by decide +kernel
theorem own_d1_15 : decode prog_35_method_1_code 15 = .ok (.putfield 12, 3) := by decide +kernel
theorem own_d1_18 : decode prog_35_method_1_code 18 = .ok (.return_, 1) := by decide +kernel
def own_Q_own_bti (Z : State) (u : Addr) (h0 : Heap) (n0 : Nat) (v : Option Value) (h : Heap) (L : List Loc) : Prop := v = none ∧ Fr n0 L ∧ Keep h0 h [u] ∧ ∃ (b y : Addr) (ka : ClassId), Fld Z h u "com/example/lightweave/lightweave/LinkSlots$Bits" "used" "Ljava/util/BitSet;" (.ref b) ∧ own_St Z h b y ka (0 : Int64) (0 : Int64) (0 : Int64) (0 : Int64) (0 : Int32) ∧ h0.size ≤ b ∧ h0.size ≤ y
set_option maxRecDepth 65536 in
set_option maxHeartbeats 40000000 in
theorem own_bti (l : Launch) (Z : State) (a0 : Array Value) (hw : ∀ d ∈ tables_1, d.before a0 Z = true) (ws : List Jvm.Cond) (u : Addr) (h0 : Heap) (n0 : Nat) (O0 : Old Z n0 h0) (Eu : Exa Z h0 u "com/example/lightweave/lightweave/LinkSlots$Bits") (Fu : Fld Z h0 u "com/example/lightweave/lightweave/LinkSlots$Bits" "used" "Ljava/util/BitSet;" .null) (gu : n0 ≤ u) :
    MetFree l (⟨"com/example/lightweave/lightweave/LinkSlots$Bits", "<init>", "(I)V"⟩ : MethodName) (head1 (Jvm.Cond.code (⟨"com/example/lightweave/lightweave/LinkSlots$Bits", "<init>", "(I)V"⟩ : MethodName) prog_35_method_1_code 2 none :: ws) ({ frames := 3, cells := 2, slots := 8, locals := 41 } : Room)) (fun args_ U => args_ = #[(.ref u), (.int (256 : Int32))] ∧ Z.Warmed39 U.vm ∧ U.heap = h0) (fun _ _ _ _ _ => True) (fun _ U o U' => ∃ v L, o = .returned v ∧ (own_Q_own_bti Z u h0 n0) v U'.heap L ∧ FrameEnd U o U' L ({ frames := 3, cells := 2, slots := 8, locals := 41 } : Room).cells ({ frames := 3, cells := 2, slots := 8, locals := 41 } : Room).slots) := by
 refine MetFree.of_bodySF (plainFor_of_name own_pn3) hisR ?_
 intro p e s m args below meth c s₁ Bd hml0 hP hK
 obtain ⟨rfl, hZ, hh⟩ := hP
 have hx := Bd.exec
 have hby := Bd.bytes
 have hml : c.maxLocals = 2 := hml0
 have hown : s.vm.findClass "com/example/lightweave/lightweave/LinkSlots$Bits" = some m.cls := findClass_of_methodNamed Bd.named
 have hnm := (name_of_methodNamed Bd.named Bd.method).1
 have X0 : Stand p l e ({ frames := 3, cells := 2, slots := 8, locals := 41 } : Room) s m #[(.ref u), (.int (256 : Int32))] below meth c s₁ [] 0 0 := Stand.of_body Bd
 have e0 : s₁.heap = h0 := by rw [← hh, Bd.state]; rfl
 have N0 := Fr.nil n0
 refine own_close (s := s) (Q := (own_Q_own_bti Z u h0 n0)) (C := (({ frames := 3, cells := 2, slots := 8, locals := 41 } : Room)).cells) (N := (({ frames := 3, cells := 2, slots := 8, locals := 41 } : Room)).slots) (own_st (fun _ kt => castTop (own_ef1 m u (256 : Int32)) kt) ?_)
 have K0 := Keep.refl h0 [u]
 show own_Rch _ _ _ _ s₁ (mkF m 0 #[oR u, oI (256 : Int32)] [])
 refine own_st (fun _ => XS.aloadN X0.here hx rfl (hb hby own_d1_0) rfl rfl) ?_
 show own_Rch _ _ _ _ s₁ (mkF m 1 #[oR u, oI (256 : Int32)] [(.ref u)])
 obtain ⟨T1, X1, e1, st1⟩ := initO X0 hx hZ hown (hw _ (own_m 6 rfl)) (hw _ (own_m 7 rfl)) (hw _ (own_m 8 rfl)) e0 (g := (mkF m 1 #[oR u, oI (256 : Int32)] [(.ref u)])) rfl (by rw [hml]; rfl) rfl (hb hby own_d1_1) (by decide) (W := 0) (by show 2 * 0 + _ ≤ _; exact Nat.le_of_eq rfl) (by decide)
 refine own_st st1 ?_
 show own_Rch _ _ _ _ T1 (mkF m 4 #[oR u, oI (256 : Int32)] [])
 refine own_st (fun _ => XS.aloadN X1.here hx rfl (hb hby own_d1_4) rfl rfl) ?_
 show own_Rch _ _ _ _ T1 (mkF m 5 #[oR u, oI (256 : Int32)] [(.ref u)])
 obtain ⟨T2, h2, X2, e2, E2, A2, D2, U2, st2⟩ := newO X1 hx hZ hown (hw _ (own_m 9 rfl)) (hw _ (own_m 10 rfl)) (hw _ (own_m 11 rfl)) e1 (g := (mkF m 5 #[oR u, oI (256 : Int32)] [(.ref u)])) rfl (hb hby own_d1_5) (by decide) (by decide)
 obtain ⟨b2, g2⟩ : ∃ z, z = h0.size := ⟨_, rfl⟩
 rw [← g2] at A2 D2 U2 st2
 have ge2 : n0 ≤ b2 := by rw [g2]; exact own_old_le O0
 have ne2_u : u ≠ b2 := by rw [g2]; exact Nat.ne_of_lt Eu.lt
 have sz2 : h0.size ≤ b2 := by rw [g2]; exact K0.1
 have O0_x2 := O0.ext E2
 have Eu_x2 := Eu.ext E2
 have Fu_x2 := Fu.ext E2
 have K0_x2 := K0.ext E2
 refine own_st st2 ?_
 have F2_wordsInUse : Fld Z h2 b2 "java/util/BitSet" "wordsInUse" "I" (.int (0 : Int32)) := D2 (Or.inl (hw _ (own_m 17 rfl))) (ty := .int) (by decide)
 have F2_sizeIsSticky : Fld Z h2 b2 "java/util/BitSet" "sizeIsSticky" "Z" (.int (0 : Int32)) := D2 (Or.inl (hw _ (own_m 19 rfl))) (ty := .boolean) (by decide)
 have F2_words : Fld Z h2 b2 "java/util/BitSet" "words" "[J" .null := D2 (Or.inl (hw _ (own_m 30 rfl))) (ty := (.array .long)) (by decide)
 show own_Rch _ _ _ _ T2 (mkF m 8 #[oR u, oI (256 : Int32)] [(.ref b2), (.ref u)])
 refine own_st (fun _ => XS.dup X2.here hx rfl (hb hby own_d1_8) rfl rfl) ?_
 show own_Rch _ _ _ _ T2 (mkF m 9 #[oR u, oI (256 : Int32)] [(.ref b2), (.ref b2), (.ref u)])
 refine own_st (fun _ => XS.iloadN X2.here hx rfl (hb hby own_d1_9) rfl) ?_
 show own_Rch _ _ _ _ T2 (mkF m 10 #[oR u, oI (256 : Int32)] [(.int (256 : Int32)), (.ref b2), (.ref b2), (.ref u)])
 refine own_st (fun _ => XS.iconst X2.here hx rfl (hb hby own_d1_10)) ?_
 show own_Rch _ _ _ _ T2 (mkF m 11 #[oR u, oI (256 : Int32)] [(.int (1 : Int32)), (.int (256 : Int32)), (.ref b2), (.ref b2), (.ref u)])
 refine own_st (fun _ => XS.iadd X2.here hx rfl (hb hby own_d1_11) rfl) ?_
 show own_Rch _ _ _ _ T2 (mkF m 12 #[oR u, oI (256 : Int32)] [(.int (257 : Int32)), (.ref b2), (.ref b2), (.ref u)])
 obtain ⟨_, _, ⟨T3, L3, k3, n3⟩, -, X3, ⟨Lc3, hQ3, l3, y3, z3⟩, st3⟩ := X2.specialBack hx (y := (⟨"java/util/BitSet", "<init>", "(I)V"⟩ : MethodName)) rfl hown (mvT hZ (hw _ (own_m 12 rfl))) (mvT hZ (hw _ (own_m 13 rfl))) (mvT hZ (hw _ (own_m 14 rfl))) (by decide) (backOf (W := 2) (own_bsi l Z a0 hw [] b2 h2 n0 O0_x2 A2 F2_words F2_wordsInUse F2_sizeIsSticky ge2) hZ (hw _ (own_m 14 rfl)) (hw _ (own_m 11 rfl)) (by decide) (by decide)) (g := (mkF m 12 #[oR u, oI (256 : Int32)] [(.int (257 : Int32)), (.ref b2), (.ref b2), (.ref u)])) rfl (by rw [hml]; rfl) (Steps.refl _) (a := b2) (argsL := [(.int (257 : Int32))]) (rest := [(.ref b2), (.ref u)]) (lenOf own_pd4 rfl) rfl (by show 2 * 0 + _ ≤ _; exact Nat.le_of_eq rfl) (hb hby own_d1_12) (fun _ _ => ⟨rfl, e2, (by decide : 1 + 1 ≤ _), (by decide : 3 + 5 ≤ _)⟩)
 dsimp only [Pt.U, Pt.locs, Pt.cells, Pt.slots] at X3 l3 y3 z3 st3 hQ3
 subst l3 y3 z3
 obtain ⟨rfl, N3q, K3, yy3, ka3, ⟨Eb3, Fw3, Fn3, Va3, Wd3⟩, hy3⟩ := hQ3
 have N3 := Fr.app N0 N3q
 refine own_st (fun _ => st3.trans) ?_
 have ne3_u_yy3 : u ≠ yy3 := Nat.ne_of_lt (Nat.lt_of_lt_of_le Eu_x2.lt hy3)
 have ne3_b2_yy3 : b2 ≠ yy3 := Nat.ne_of_lt (Nat.lt_of_lt_of_le F2_wordsInUse.lt hy3)
 have ge3_yy3 : n0 ≤ yy3 := Nat.le_trans (own_old_le O0_x2) hy3
 have sz3_yy3 : h0.size ≤ yy3 := Nat.le_trans K0_x2.1 hy3
 have O0_x3 := O0_x2.keep K3 (allS ge2 all0)
 have Eu_x3 := Eu_x2.keep K3
 have Fu_x3 := Fu_x2.keep K3 (ninS ne2_u nin0)
 have K0_x3 := K0_x2.trans K3 (allS (Or.inr sz2) all0)
 have A2_x3 := A2.keep K3
 show own_Rch _ _ _ _ T3 (mkF m 15 #[oR u, oI (256 : Int32)] [(.ref b2), (.ref u)])
 obtain ⟨T4, h4, X4, e4, W4, st4⟩ := putF X3 hx hZ hown (host := "") (Or.inl (hw _ (own_m 31 rfl))) Via.refl rfl Fu_x3 Eu_x3 (Or.inr ⟨(hw _ (own_m 32 rfl)), rfl, hnm⟩) (hw _ (own_m 1 rfl)) (ty := (.object "java/util/BitSet")) (by decide) rfl rfl (g := (mkF m 15 #[oR u, oI (256 : Int32)] [(.ref b2), (.ref u)])) rfl rfl (hb hby own_d1_15)
 refine own_st st4 ?_
 have Fw4 := Fu_x3.same W4
 have N4 := Fr.snoc X4 N3 gu
 have O0_x4 := O0_x3.wr W4 gu
 have Eu_x4 := Eu_x3.wr W4
 have K0_x4 := K0_x3.wr W4 (Or.inl (own_m 0 rfl))
 have Eb3_x4 := Eb3.wr W4
 have Fw3_x4 := Fw3.other W4 (Or.inl (Ne.symm ne2_u))
 have Fn3_x4 := Fn3.other W4 (Or.inl (Ne.symm ne2_u))
 have Va3_x4 := Va3.other W4 (Ne.symm ne3_u_yy3)
 show own_Rch _ _ _ _ T4 (mkF m 18 #[oR u, oI (256 : Int32)] [])
 refine own_retV X4 hx Bd.notSynchronized Bd.returns (hb hby own_d1_18) (by decide) (by decide) ?_
 rw [e4]
 exact ⟨rfl, N4, K0_x4, _, _, _, Fw4, ⟨Eb3_x4, Fw3_x4, Fn3_x4, Va3_x4, Wd3⟩, sz2, sz3_yy3⟩
theorem own_ef6 (m : MethodId) (x0 : Addr) (x1 : Int32) (x2 : Int32) : entryFrame m #[(.ref x0), (.int x1), (.int x2)] 3 = mkF m 0 #[.val (.ref x0), .val (.int x1), .val (.int x2)] [] := by first | (simp [entryFrame, mkF, argsToLocals, Value.category]; done) | rfl
theorem own_d6_0 : decode prog_35_method_5_code 0 = .ok (.aload_n 0, 1) := by decide +kernel
theorem own_d6_1 : decode prog_35_method_5_code 1 = .ok (.getfield 12, 3) := by decide +kernel
theorem own_d6_4 : decode prog_35_method_5_code 4 = .ok (.iload_n 1, 1) := by decide +kernel
theorem own_d6_5 : decode prog_35_method_5_code 5 = .ok (.iload_n 2, 1) := by decide +kernel
theorem own_d6_6 : decode prog_35_method_5_code 6 = .ok (.iconst 1, 1) := by decide +kernel
theorem own_d6_7 : decode prog_35_method_5_code 7 = .ok (.iadd, 1) := by decide +kernel
theorem own_d6_8 : decode prog_35_method_5_code 8 = .ok (.invokevirtual 39, 3) := by decide +kernel
theorem own_d6_11 : decode prog_35_method_5_code 11 = .ok (.return_, 1) := by decide +kernel
set_option maxRecDepth 65536 in
set_option maxHeartbeats 40000000 in
theorem own_occ (l : Launch) (Z : State) (a0 : Array Value) (hw : ∀ d ∈ tables_1, d.before a0 Z = true) (ws : List Jvm.Cond) (u : Addr) (b : Addr) (y : Addr) (ka : ClassId) (wa : Int64) (wb : Int64) (wc : Int64) (wd : Int64) (nn : Int32) (fi : Int32) (li : Int32) (h0 : Heap) (n0 : Nat) (O0 : Old Z n0 h0) (SA : Sta Z Z.heap "java/util/BitSet" "$assertionsDisabled" "Z" (.int (1 : Int32))) (Fu : Fld Z h0 u "com/example/lightweave/lightweave/LinkSlots$Bits" "used" "Ljava/util/BitSet;" (.ref b)) (SS : own_St Z h0 b y ka wa wb wc wd nn) (hc : own_cls fi (li + (1 : Int32))) (ga : n0 ≤ b) (gy : n0 ≤ y) :
    MetFree l (⟨"com/example/lightweave/lightweave/LinkSlots$Bits", "occupy", "(II)V"⟩ : MethodName) (head1 (Jvm.Cond.code (⟨"com/example/lightweave/lightweave/LinkSlots$Bits", "occupy", "(II)V"⟩ : MethodName) prog_35_method_5_code 3 none :: ws) ({ frames := 4, cells := 0, slots := 0, locals := 121 } : Room)) (fun args_ U => args_ = #[(.ref u), (.int fi), (.int li)] ∧ Z.Warmed39 U.vm ∧ U.heap = h0) (fun _ _ _ _ _ => True) (fun _ U o U' => ∃ v L, o = .returned v ∧ (own_Q_set Z b y ka wa wb wc wd fi (li + (1 : Int32)) h0 n0) v U'.heap L ∧ FrameEnd U o U' L ({ frames := 4, cells := 0, slots := 0, locals := 121 } : Room).cells ({ frames := 4, cells := 0, slots := 0, locals := 121 } : Room).slots) := by
 refine MetFree.of_bodySF (plainFor_of_name own_pn3) hisR ?_
 intro p e s m args below meth c s₁ Bd hml0 hP hK
 obtain ⟨rfl, hZ, hh⟩ := hP
 have hx := Bd.exec
 have hby := Bd.bytes
 have hml : c.maxLocals = 3 := hml0
 have hown : s.vm.findClass "com/example/lightweave/lightweave/LinkSlots$Bits" = some m.cls := findClass_of_methodNamed Bd.named
 have hnm := (name_of_methodNamed Bd.named Bd.method).1
 have X0 : Stand p l e ({ frames := 4, cells := 0, slots := 0, locals := 121 } : Room) s m #[(.ref u), (.int fi), (.int li)] below meth c s₁ [] 0 0 := Stand.of_body Bd
 have e0 : s₁.heap = h0 := by rw [← hh, Bd.state]; rfl
 have N0 := Fr.nil n0
 obtain ⟨Eb, Fw, Fn, Va, hW⟩ := SS
 have ci0 : (0 : Int32).toInt = 0 := by decide
 have ci1 : (1 : Int32).toInt = 1 := by decide
 have ci2 : (2 : Int32).toInt = 2 := by decide
 have ci3 : (3 : Int32).toInt = 3 := by decide
 have ci4 : (4 : Int32).toInt = 4 := by decide
 have ci16 : (16 : Int32).toInt = 16 := by decide
 have ci256 : (256 : Int32).toInt = 256 := by decide
 have ci65536 : (65536 : Int32).toInt = 65536 := by decide
 refine own_close (s := s) (Q := (own_Q_set Z b y ka wa wb wc wd fi (li + (1 : Int32)) h0 n0)) (C := (({ frames := 4, cells := 0, slots := 0, locals := 121 } : Room)).cells) (N := (({ frames := 4, cells := 0, slots := 0, locals := 121 } : Room)).slots) (own_st (fun _ kt => castTop (own_ef6 m u fi li) kt) ?_)
 have K0 := Keep.refl h0 [b, y]
 show own_Rch _ _ _ _ s₁ (mkF m 0 #[oR u, oI fi, oI li] [])
 refine own_st (fun _ => XS.aloadN X0.here hx rfl (hb hby own_d6_0) rfl rfl) ?_
 show own_Rch _ _ _ _ s₁ (mkF m 1 #[oR u, oI fi, oI li] [(.ref u)])
 obtain ⟨T1, X1, e1, st1⟩ := getF X0 hx hZ hown (host := "") (Or.inl (hw _ (own_m 31 rfl))) Via.refl e0 Fu (g := (mkF m 1 #[oR u, oI fi, oI li] [(.ref u)])) rfl rfl (hb hby own_d6_1)
 refine own_st st1 ?_
 show own_Rch _ _ _ _ T1 (mkF m 4 #[oR u, oI fi, oI li] [(.ref b)])
 refine own_st (fun _ => XS.iloadN X1.here hx rfl (hb hby own_d6_4) rfl) ?_
 show own_Rch _ _ _ _ T1 (mkF m 5 #[oR u, oI fi, oI li] [(.int fi), (.ref b)])
 refine own_st (fun _ => XS.iloadN X1.here hx rfl (hb hby own_d6_5) rfl) ?_
 show own_Rch _ _ _ _ T1 (mkF m 6 #[oR u, oI fi, oI li] [(.int li), (.int fi), (.ref b)])
 refine own_st (fun _ => XS.iconst X1.here hx rfl (hb hby own_d6_6)) ?_
 show own_Rch _ _ _ _ T1 (mkF m 7 #[oR u, oI fi, oI li] [(.int (1 : Int32)), (.int li), (.int fi), (.ref b)])
 refine own_st (fun _ => XS.iadd X1.here hx rfl (hb hby own_d6_7) rfl) ?_
 show own_Rch _ _ _ _ T1 (mkF m 8 #[oR u, oI fi, oI li] [(.int (li + (1 : Int32))), (.int fi), (.ref b)])
 obtain ⟨cq2, kq2, q2a, q2b, q2c⟩ := isOf hZ e1 Eb
 obtain ⟨_, _, ⟨T2, L2, k2, n2⟩, -, X2, ⟨Lc2, hQ2, l2, y2, z2⟩, st2⟩ := X1.virtualBack hx (y := (⟨"java/util/BitSet", "set", "(II)V"⟩ : MethodName)) (z := (⟨"java/util/BitSet", "set", "(II)V"⟩ : MethodName)) hown (mvT hZ (hw _ (own_m 38 rfl))) (mvT hZ (hw _ (own_m 39 rfl))) (notFace_of_selects (args := #[]) (mvT hZ (hw _ (own_m 41 rfl)))) (mvT hZ (hw _ (own_m 41 rfl))) (mvT hZ (hw _ (own_m 40 rfl))) (by decide) (backOf (W := 0) (own_set l Z a0 hw [] b y ka wa wb wc wd nn fi (li + (1 : Int32)) h0 n0 O0 SA ⟨Eb, Fw, Fn, Va, hW⟩ hc ga gy) hZ (hw _ (own_m 42 rfl)) (hw _ (own_m 11 rfl)) (by decide) (by decide)) q2a q2c (g := (mkF m 8 #[oR u, oI fi, oI li] [(.int (li + (1 : Int32))), (.int fi), (.ref b)])) rfl (by rw [hml]; rfl) (Steps.refl _) (argsL := [(.int fi), (.int (li + (1 : Int32)))]) (rest := []) (lenOf own_pd5 rfl) rfl (by show 2 * 0 + _ ≤ _; exact Nat.le_of_eq rfl) (hb hby own_d6_8) (fun _ _ => ⟨rfl, e1, (by decide : 0 + 0 ≤ _), (by decide : 0 + 0 ≤ _)⟩)
 dsimp only [Pt.U, Pt.locs, Pt.cells, Pt.slots] at X2 l2 y2 z2 st2 hQ2
 subst l2 y2 z2
 obtain ⟨rfl, N2q, K2, wa2, wb2, wc2, wd2, nx2, St2, Sp2⟩ := hQ2
 have N2 := Fr.app N0 N2q
 refine own_st (fun _ => st2.trans) ?_
 have O0_x2 := O0.keep K2 (allS ga (allS gy all0))
 have Eb_x2 := Eb.keep K2
 have K0_x2 := K0.trans K2 (allS (Or.inl (own_m 0 rfl)) (allS (Or.inl (own_m 1 rfl)) all0))
 show own_Rch _ _ _ _ T2 (mkF m 11 #[oR u, oI fi, oI li] [])
 refine own_retV X2 hx Bd.notSynchronized Bd.returns (hb hby own_d6_11) (by decide) (by decide) ?_
 exact ⟨rfl, N2, K0_x2, _, _, _, _, _, St2, Sp2⟩
theorem own_ef12 (m : MethodId) (x0 : Addr) (x1 : Int32) (x2 : Int32) : entryFrame m #[(.ref x0), (.int x1), (.int x2)] 4 = mkF m 0 #[.val (.ref x0), .val (.int x1), .val (.int x2), .unset] [] := by first | (simp [entryFrame, mkF, argsToLocals, Value.category]; done) | rfl
theorem own_d12_0 : decode prog_35_method_2_code 0 = .ok (.aload_n 0, 1) := by decide +kernel
theorem own_d12_1 : decode prog_35_method_2_code 1 = .ok (.getfield 12, 3) := by decide +kernel
theorem own_d12_4 : decode prog_35_method_2_code 4 = .ok (.iload_n 2, 1) := by decide +kernel
theorem own_d12_5 : decode prog_35_method_2_code 5 = .ok (.invokevirtual 18, 3) := by decide +kernel
theorem own_d12_8 : decode prog_35_method_2_code 8 = .ok (.istore_n 3, 1) := by decide +kernel
theorem own_d12_9 : decode prog_35_method_2_code 9 = .ok (.iload_n 3, 1) := by decide +kernel
theorem own_d12_10 : decode prog_35_method_2_code 10 = .ok (.iload_n 1, 1) := by decide +kernel
theorem own_d12_11 : decode prog_35_method_2_code 11 = .ok (.if_icmp .lt 16, 3) := by decide +kernel
theorem own_d12_27 : decode prog_35_method_2_code 27 = .ok (.iconst 0, 1) := by decide +kernel
theorem own_d12_28 : decode prog_35_method_2_code 28 = .ok (.ireturn, 1) := by decide +kernel
theorem own_d12_14 : decode prog_35_method_2_code 14 = .ok (.aload_n 0, 1) := by decide +kernel
theorem own_d12_15 : decode prog_35_method_2_code 15 = .ok (.getfield 12, 3) := by decide +kernel
theorem own_d12_18 : decode prog_35_method_2_code 18 = .ok (.iload_n 3, 1) := by decide +kernel
theorem own_d12_19 : decode prog_35_method_2_code 19 = .ok (.invokevirtual 22, 3) := by decide +kernel
theorem own_d12_22 : decode prog_35_method_2_code 22 = .ok (.iconst 1, 1) := by decide +kernel
theorem own_d12_23 : decode prog_35_method_2_code 23 = .ok (.isub, 1) := by decide +kernel
theorem own_d12_24 : decode prog_35_method_2_code 24 = .ok (.goto 4, 3) := by decide +kernel
set_option maxRecDepth 65536 in
set_option maxHeartbeats 40000000 in
theorem own_busy (l : Launch) (Z : State) (a0 : Array Value) (hw : ∀ d ∈ tables_1, d.before a0 Z = true) (ws : List Jvm.Cond) (u : Addr) (b : Addr) (y : Addr) (ka : ClassId) (wa : Int64) (wb : Int64) (wc : Int64) (wd : Int64) (nn : Int32) (fi : Int32) (ti : Int32) (h0 : Heap) (n0 : Nat) (O0 : Old Z n0 h0) (SA : Sta Z Z.heap "java/util/BitSet" "$assertionsDisabled" "Z" (.int (1 : Int32))) (Fu : Fld Z h0 u "com/example/lightweave/lightweave/LinkSlots$Bits" "used" "Ljava/util/BitSet;" (.ref b)) (SS : own_St Z h0 b y ka wa wb wc wd nn) (hf0 : 0 ≤ fi.toInt) (ht0 : 0 ≤ ti.toInt) (ht1 : ti.toInt < 256) :
    MetFree l (⟨"com/example/lightweave/lightweave/LinkSlots$Bits", "busyTo", "(II)I"⟩ : MethodName) (head1 (Jvm.Cond.code (⟨"com/example/lightweave/lightweave/LinkSlots$Bits", "busyTo", "(II)I"⟩ : MethodName) prog_35_method_2_code 4 (some .int) :: ws) ({ frames := 4, cells := 0, slots := 0, locals := 116 } : Room)) (fun args_ U => args_ = #[(.ref u), (.int fi), (.int ti)] ∧ Z.Warmed39 U.vm ∧ U.heap = h0) (fun _ _ _ _ _ => True) (fun _ U o U' => ∃ v L, o = .returned v ∧ (own_Q_i (fun r => own_busyP (own_w wa wb wc wd) fi.toInt ti.toInt r.toInt) h0 n0) v U'.heap L ∧ FrameEnd U o U' L ({ frames := 4, cells := 0, slots := 0, locals := 116 } : Room).cells ({ frames := 4, cells := 0, slots := 0, locals := 116 } : Room).slots) := by
 refine MetFree.of_bodySF (plainFor_of_name own_pn3) hisR ?_
 intro p e s m args below meth c s₁ Bd hml0 hP hK
 obtain ⟨rfl, hZ, hh⟩ := hP
 have hx := Bd.exec
 have hby := Bd.bytes
 have hml : c.maxLocals = 4 := hml0
 have hown : s.vm.findClass "com/example/lightweave/lightweave/LinkSlots$Bits" = some m.cls := findClass_of_methodNamed Bd.named
 have hnm := (name_of_methodNamed Bd.named Bd.method).1
 have X0 : Stand p l e ({ frames := 4, cells := 0, slots := 0, locals := 116 } : Room) s m #[(.ref u), (.int fi), (.int ti)] below meth c s₁ [] 0 0 := Stand.of_body Bd
 have e0 : s₁.heap = h0 := by rw [← hh, Bd.state]; rfl
 have N0 := Fr.nil n0
 obtain ⟨Eb, Fw, Fn, Va, hW⟩ := SS
 have ci0 : (0 : Int32).toInt = 0 := by decide
 have ci1 : (1 : Int32).toInt = 1 := by decide
 have ci2 : (2 : Int32).toInt = 2 := by decide
 have ci3 : (3 : Int32).toInt = 3 := by decide
 have ci4 : (4 : Int32).toInt = 4 := by decide
 have ci16 : (16 : Int32).toInt = 16 := by decide
 have ci256 : (256 : Int32).toInt = 256 := by decide
 have ci65536 : (65536 : Int32).toInt = 65536 := by decide
 refine own_close (s := s) (Q := (own_Q_i (fun r => own_busyP (own_w wa wb wc wd) fi.toInt ti.toInt r.toInt) h0 n0)) (C := (({ frames := 4, cells := 0, slots := 0, locals := 116 } : Room)).cells) (N := (({ frames := 4, cells := 0, slots := 0, locals := 116 } : Room)).slots) (own_st (fun _ kt => castTop (own_ef12 m u fi ti) kt) ?_)
 show own_Rch _ _ _ _ s₁ (mkF m 0 #[oR u, oI fi, oI ti, .unset] [])
 refine own_st (fun _ => XS.aloadN X0.here hx rfl (hb hby own_d12_0) rfl rfl) ?_
 show own_Rch _ _ _ _ s₁ (mkF m 1 #[oR u, oI fi, oI ti, .unset] [(.ref u)])
 obtain ⟨T1, X1, e1, st1⟩ := getF X0 hx hZ hown (host := "") (Or.inl (hw _ (own_m 31 rfl))) Via.refl e0 Fu (g := (mkF m 1 #[oR u, oI fi, oI ti, .unset] [(.ref u)])) rfl rfl (hb hby own_d12_1)
 refine own_st st1 ?_
 show own_Rch _ _ _ _ T1 (mkF m 4 #[oR u, oI fi, oI ti, .unset] [(.ref b)])
 refine own_st (fun _ => XS.iloadN X1.here hx rfl (hb hby own_d12_4) rfl) ?_
 show own_Rch _ _ _ _ T1 (mkF m 5 #[oR u, oI fi, oI ti, .unset] [(.int ti), (.ref b)])
 obtain ⟨cq2, kq2, q2a, q2b, q2c⟩ := isOf hZ e1 Eb
 obtain ⟨_, _, ⟨T2, L2, k2, n2⟩, -, X2, ⟨Lc2, hQ2, l2, y2, z2⟩, st2⟩ := X1.virtualBack hx (y := (⟨"java/util/BitSet", "previousSetBit", "(I)I"⟩ : MethodName)) (z := (⟨"java/util/BitSet", "previousSetBit", "(I)I"⟩ : MethodName)) hown (mvT hZ (hw _ (own_m 68 rfl))) (mvT hZ (hw _ (own_m 69 rfl))) (notFace_of_selects (args := #[]) (mvT hZ (hw _ (own_m 71 rfl)))) (mvT hZ (hw _ (own_m 71 rfl))) (mvT hZ (hw _ (own_m 70 rfl))) (by decide) (backOf (W := 0) (own_prev l Z a0 hw [] b y ka wa wb wc wd nn ti h0 n0 O0 SA ⟨Eb, Fw, Fn, Va, hW⟩ ht0 ht1) hZ (hw _ (own_m 72 rfl)) (hw _ (own_m 11 rfl)) (by decide) (by decide)) q2a q2c (g := (mkF m 5 #[oR u, oI fi, oI ti, .unset] [(.int ti), (.ref b)])) rfl (by rw [hml]; rfl) (Steps.refl _) (argsL := [(.int ti)]) (rest := []) (lenOf own_pd0 rfl) rfl (by show 2 * 0 + _ ≤ _; exact Nat.le_of_eq rfl) (hb hby own_d12_5) (fun _ _ => ⟨rfl, e1, (by decide : 0 + 0 ≤ _), (by decide : 0 + 0 ≤ _)⟩)
 dsimp only [Pt.U, Pt.locs, Pt.cells, Pt.slots] at X2 l2 y2 z2 st2 hQ2
 subst l2 y2 z2
 obtain ⟨rr2, rfl, N2q, hh2, pv2⟩ := hQ2
 have N2 := Fr.app N0 N2q
 refine own_st (fun _ => st2.trans) ?_
 show own_Rch _ _ _ _ T2 (mkF m 8 #[oR u, oI fi, oI ti, .unset] [(.int rr2)])
 refine own_st (fun _ => XS.istoreN X2.here hx rfl (hb hby own_d12_8) rfl (l' := #[oR u, oI fi, oI ti, oI rr2]) rfl) ?_
 show own_Rch _ _ _ _ T2 (mkF m 9 #[oR u, oI fi, oI ti, oI rr2] [])
 refine own_st (fun _ => XS.iloadN X2.here hx rfl (hb hby own_d12_9) rfl) ?_
 show own_Rch _ _ _ _ T2 (mkF m 10 #[oR u, oI fi, oI ti, oI rr2] [(.int rr2)])
 refine own_st (fun _ => XS.iloadN X2.here hx rfl (hb hby own_d12_10) rfl) ?_
 show own_Rch _ _ _ _ T2 (mkF m 11 #[oR u, oI fi, oI ti, oI rr2] [(.int fi), (.int rr2)])
 by_cases hc11_3 : rr2 < fi
 · -- pc 11: True
  refine own_st (fun _ => XS.icmpYes X2.here hx rfl (pc0 := 11) (pc' := 27) rfl (hb hby own_d12_11) rfl (tlt hc11_3).1 (by decide) (by decide)) ?_
  show own_Rch _ _ _ _ T2 (mkF m 27 #[oR u, oI fi, oI ti, oI rr2] [])
  refine own_st (fun _ => XS.iconst X2.here hx rfl (hb hby own_d12_27)) ?_
  show own_Rch _ _ _ _ T2 (mkF m 28 #[oR u, oI fi, oI ti, oI rr2] [(.int (0 : Int32))])
  refine own_retI X2 hx Bd.notSynchronized Bd.returns (hb hby own_d12_28) (by decide) (by decide) ?_
  rw [hh2]
  exact ⟨_, rfl, N2, rfl, own_busyZ pv2 hc11_3⟩
 · -- pc 11: False
  refine own_st (fun _ => XS.icmpNo X2.here hx rfl (hb hby own_d12_11) rfl (flt hc11_3).1) ?_
  show own_Rch _ _ _ _ T2 (mkF m 14 #[oR u, oI fi, oI ti, oI rr2] [])
  refine own_st (fun _ => XS.aloadN X2.here hx rfl (hb hby own_d12_14) rfl rfl) ?_
  show own_Rch _ _ _ _ T2 (mkF m 15 #[oR u, oI fi, oI ti, oI rr2] [(.ref u)])
  obtain ⟨T4, X4, e4, st4⟩ := getF X2 hx hZ hown (host := "") (Or.inl (hw _ (own_m 31 rfl))) Via.refl hh2 Fu (g := (mkF m 15 #[oR u, oI fi, oI ti, oI rr2] [(.ref u)])) rfl rfl (hb hby own_d12_15)
  refine own_st st4 ?_
  show own_Rch _ _ _ _ T4 (mkF m 18 #[oR u, oI fi, oI ti, oI rr2] [(.ref b)])
  refine own_st (fun _ => XS.iloadN X4.here hx rfl (hb hby own_d12_18) rfl) ?_
  show own_Rch _ _ _ _ T4 (mkF m 19 #[oR u, oI fi, oI ti, oI rr2] [(.int rr2), (.ref b)])
  obtain ⟨cq5, kq5, q5a, q5b, q5c⟩ := isOf hZ e4 Eb
  obtain ⟨_, _, ⟨T5, L5, k5, n5⟩, -, X5, ⟨Lc5, hQ5, l5, y5, z5⟩, st5⟩ := X4.virtualBack hx (y := (⟨"java/util/BitSet", "nextClearBit", "(I)I"⟩ : MethodName)) (z := (⟨"java/util/BitSet", "nextClearBit", "(I)I"⟩ : MethodName)) hown (mvT hZ (hw _ (own_m 82 rfl))) (mvT hZ (hw _ (own_m 83 rfl))) (notFace_of_selects (args := #[]) (mvT hZ (hw _ (own_m 85 rfl)))) (mvT hZ (hw _ (own_m 85 rfl))) (mvT hZ (hw _ (own_m 84 rfl))) (by decide) (backOf (W := 0) (own_next l Z a0 hw [] b y ka wa wb wc wd nn rr2 h0 n0 O0 SA ⟨Eb, Fw, Fn, Va, hW⟩ (own_gele hc11_3 hf0) (Int.lt_of_le_of_lt (own_prevlt pv2 ht0) ht1)) hZ (hw _ (own_m 86 rfl)) (hw _ (own_m 11 rfl)) (by decide) (by decide)) q5a q5c (g := (mkF m 19 #[oR u, oI fi, oI ti, oI rr2] [(.int rr2), (.ref b)])) rfl (by rw [hml]; rfl) (Steps.refl _) (argsL := [(.int rr2)]) (rest := []) (lenOf own_pd0 rfl) rfl (by show 2 * 0 + _ ≤ _; exact Nat.le_of_eq rfl) (hb hby own_d12_19) (fun _ _ => ⟨rfl, e4, (by decide : 0 + 0 ≤ _), (by decide : 0 + 0 ≤ _)⟩)
  dsimp only [Pt.U, Pt.locs, Pt.cells, Pt.slots] at X5 l5 y5 z5 st5 hQ5
  subst l5 y5 z5
  obtain ⟨rr5, rfl, N5q, hh5, nx5⟩ := hQ5
  have N5 := Fr.app N2 N5q
  refine own_st (fun _ => st5.trans) ?_
  show own_Rch _ _ _ _ T5 (mkF m 22 #[oR u, oI fi, oI ti, oI rr2] [(.int rr5)])
  refine own_st (fun _ => XS.iconst X5.here hx rfl (hb hby own_d12_22)) ?_
  show own_Rch _ _ _ _ T5 (mkF m 23 #[oR u, oI fi, oI ti, oI rr2] [(.int (1 : Int32)), (.int rr5)])
  refine own_st (fun _ => XS.isub X5.here hx rfl (hb hby own_d12_23) rfl) ?_
  show own_Rch _ _ _ _ T5 (mkF m 24 #[oR u, oI fi, oI ti, oI rr2] [(.int (rr5 - (1 : Int32)))])
  refine own_st (fun _ => XS.goto X5.here hx rfl (pc0 := 24) (pc' := 28) rfl (hb hby own_d12_24) (by decide) (by decide)) ?_
  show own_Rch _ _ _ _ T5 (mkF m 28 #[oR u, oI fi, oI ti, oI rr2] [(.int (rr5 - (1 : Int32)))])
  refine own_retI X5 hx Bd.notSynchronized Bd.returns (hb hby own_d12_28) (by decide) (by decide) ?_
  rw [hh5]
  exact ⟨_, rfl, N5, rfl, own_busyN pv2 hc11_3 nx5⟩
theorem own_ef21 (m : MethodId) (x0 : Int32) (x1 : Int32) : entryFrame m #[(.int x0), (.int x1)] 2 = mkF m 0 #[.val (.int x0), .val (.int x1)] [] := by first | (simp [entryFrame, mkF, argsToLocals, Value.category]; done) | rfl
theorem own_d21_0 : decode jdk_29_method_65_code 0 = .ok (.iload_n 0, 1) := by decide +kernel
theorem own_d21_1 : decode jdk_29_method_65_code 1 = .ok (.iload_n 1, 1) := by decide +kernel
theorem own_d21_2 : decode jdk_29_method_65_code 2 = .ok (.if_icmp .lt 7, 3) := by decide +kernel
theorem own_d21_9 : decode jdk_29_method_65_code 9 = .ok (.iload_n 1, 1) := by decide +kernel
theorem own_d21_10 : decode jdk_29_method_65_code 10 = .ok (.ireturn, 1) := by decide +kernel
theorem own_d21_5 : decode jdk_29_method_65_code 5 = .ok (.iload_n 0, 1) := by decide +kernel
theorem own_d21_6 : decode jdk_29_method_65_code 6 = .ok (.goto 4, 3) := by decide +kernel
def own_Q_own_max (Z : State) (xa : Int32) (xb : Int32) (h0 : Heap) (n0 : Nat) (v : Option Value) (h : Heap) (L : List Loc) : Prop := ∃ r : Int32, v = some (.int r) ∧ Fr n0 L ∧ h = h0 ∧ ((xa < xb → r = xb) ∧ (¬ xa < xb → r = xa))
set_option maxRecDepth 65536 in
set_option maxHeartbeats 40000000 in
theorem own_max (l : Launch) (Z : State) (a0 : Array Value) (hw : ∀ d ∈ tables_1, d.before a0 Z = true) (ws : List Jvm.Cond) (xa : Int32) (xb : Int32) (h0 : Heap) (n0 : Nat) (O0 : Old Z n0 h0) :
    MetFree l (⟨"java/lang/Math", "max", "(II)I"⟩ : MethodName) (head1 (Jvm.Cond.code (⟨"java/lang/Math", "max", "(II)I"⟩ : MethodName) jdk_29_method_65_code 2 (some .int) :: ws) ({ frames := 0, cells := 0, slots := 0, locals := 0 } : Room)) (fun args_ U => args_ = #[(.int xa), (.int xb)] ∧ Z.Warmed39 U.vm ∧ U.heap = h0) (fun _ _ _ _ _ => True) (fun _ U o U' => ∃ v L, o = .returned v ∧ (own_Q_own_max Z xa xb h0 n0) v U'.heap L ∧ FrameEnd U o U' L ({ frames := 0, cells := 0, slots := 0, locals := 0 } : Room).cells ({ frames := 0, cells := 0, slots := 0, locals := 0 } : Room).slots) := by
 refine MetFree.of_bodySF (Jvm.Free.JP.mathPlain rfl (by decide +kernel)) hisR ?_
 intro p e s m args below meth c s₁ Bd hml0 hP hK
 obtain ⟨rfl, hZ, hh⟩ := hP
 have hx := Bd.exec
 have hby := Bd.bytes
 have hml : c.maxLocals = 2 := hml0
 have hown : s.vm.findClass "java/lang/Math" = some m.cls := findClass_of_methodNamed Bd.named
 have hnm := (name_of_methodNamed Bd.named Bd.method).1
 have X0 : Stand p l e ({ frames := 0, cells := 0, slots := 0, locals := 0 } : Room) s m #[(.int xa), (.int xb)] below meth c s₁ [] 0 0 := Stand.of_body Bd
 have e0 : s₁.heap = h0 := by rw [← hh, Bd.state]; rfl
 have N0 := Fr.nil n0
 refine own_close (s := s) (Q := (own_Q_own_max Z xa xb h0 n0)) (C := (({ frames := 0, cells := 0, slots := 0, locals := 0 } : Room)).cells) (N := (({ frames := 0, cells := 0, slots := 0, locals := 0 } : Room)).slots) (own_st (fun _ kt => castTop (own_ef21 m xa xb) kt) ?_)
 show own_Rch _ _ _ _ s₁ (mkF m 0 #[oI xa, oI xb] [])
 refine own_st (fun _ => XS.iloadN X0.here hx rfl (hb hby own_d21_0) rfl) ?_
 show own_Rch _ _ _ _ s₁ (mkF m 1 #[oI xa, oI xb] [(.int xa)])
 refine own_st (fun _ => XS.iloadN X0.here hx rfl (hb hby own_d21_1) rfl) ?_
 show own_Rch _ _ _ _ s₁ (mkF m 2 #[oI xa, oI xb] [(.int xb), (.int xa)])
 by_cases hc2_1 : xa < xb
 · -- pc 2: True
  refine own_st (fun _ => XS.icmpYes X0.here hx rfl (pc0 := 2) (pc' := 9) rfl (hb hby own_d21_2) rfl (tlt hc2_1).1 (by decide) (by decide)) ?_
  show own_Rch _ _ _ _ s₁ (mkF m 9 #[oI xa, oI xb] [])
  refine own_st (fun _ => XS.iloadN X0.here hx rfl (hb hby own_d21_9) rfl) ?_
  show own_Rch _ _ _ _ s₁ (mkF m 10 #[oI xa, oI xb] [(.int xb)])
  refine own_retI X0 hx Bd.notSynchronized Bd.returns (hb hby own_d21_10) (by decide) (by decide) ?_
  rw [e0]
  exact ⟨_, rfl, N0, rfl, fun _ => rfl, fun q => absurd hc2_1 q⟩
 · -- pc 2: False
  refine own_st (fun _ => XS.icmpNo X0.here hx rfl (hb hby own_d21_2) rfl (flt hc2_1).1) ?_
  show own_Rch _ _ _ _ s₁ (mkF m 5 #[oI xa, oI xb] [])
  refine own_st (fun _ => XS.iloadN X0.here hx rfl (hb hby own_d21_5) rfl) ?_
  show own_Rch _ _ _ _ s₁ (mkF m 6 #[oI xa, oI xb] [(.int xa)])
  refine own_st (fun _ => XS.goto X0.here hx rfl (pc0 := 6) (pc' := 10) rfl (hb hby own_d21_6) (by decide) (by decide)) ?_
  show own_Rch _ _ _ _ s₁ (mkF m 10 #[oI xa, oI xb] [(.int xa)])
  refine own_retI X0 hx Bd.notSynchronized Bd.returns (hb hby own_d21_10) (by decide) (by decide) ?_
  rw [e0]
  exact ⟨_, rfl, N0, rfl, fun q => absurd q hc2_1, fun _ => rfl⟩
theorem own_ef19 (m : MethodId) (x0 : Addr) : entryFrame m #[(.ref x0)] 1 = mkF m 0 #[.val (.ref x0)] [] := by first | (simp [entryFrame, mkF, argsToLocals, Value.category]; done) | rfl
theorem own_d19_0 : decode prog_35_method_4_code 0 = .ok (.iconst 0, 1) := by decide +kernel
theorem own_d19_1 : decode prog_35_method_4_code 1 = .ok (.aload_n 0, 1) := by decide +kernel
theorem own_d19_2 : decode prog_35_method_4_code 2 = .ok (.getfield 12, 3) := by decide +kernel
theorem own_d19_5 : decode prog_35_method_4_code 5 = .ok (.invokevirtual 29, 3) := by decide +kernel
theorem own_d19_8 : decode prog_35_method_4_code 8 = .ok (.iconst 1, 1) := by decide +kernel
theorem own_d19_9 : decode prog_35_method_4_code 9 = .ok (.isub, 1) := by decide +kernel
theorem own_d19_10 : decode prog_35_method_4_code 10 = .ok (.invokestatic 33, 3) := by decide +kernel
theorem own_pd6 : parseMethodDescriptor "(II)I" = some ⟨[.int, .int], some .int⟩ := by decide +kernel
theorem own_d19_13 : decode prog_35_method_4_code 13 = .ok (.ireturn, 1) := by decide +kernel
set_option maxRecDepth 65536 in
set_option maxHeartbeats 40000000 in
theorem own_topc (l : Launch) (Z : State) (a0 : Array Value) (hw : ∀ d ∈ tables_1, d.before a0 Z = true) (ws : List Jvm.Cond) (u : Addr) (b : Addr) (y : Addr) (ka : ClassId) (wa : Int64) (wb : Int64) (wc : Int64) (wd : Int64) (nn : Int32) (h0 : Heap) (n0 : Nat) (O0 : Old Z n0 h0) (Fu : Fld Z h0 u "com/example/lightweave/lightweave/LinkSlots$Bits" "used" "Ljava/util/BitSet;" (.ref b)) (SS : own_St Z h0 b y ka wa wb wc wd nn) :
    MetFree l (⟨"com/example/lightweave/lightweave/LinkSlots$Bits", "top", "()I"⟩ : MethodName) (head1 (Jvm.Cond.code (⟨"com/example/lightweave/lightweave/LinkSlots$Bits", "top", "()I"⟩ : MethodName) prog_35_method_4_code 1 (some .int) :: ws) ({ frames := 3, cells := 0, slots := 0, locals := 73 } : Room)) (fun args_ U => args_ = #[(.ref u)] ∧ Z.Warmed39 U.vm ∧ U.heap = h0) (fun _ _ _ _ _ => True) (fun _ U o U' => ∃ v L, o = .returned v ∧ (own_Q_i (fun r => own_maxP (own_w wa wb wc wd) r.toInt) h0 n0) v U'.heap L ∧ FrameEnd U o U' L ({ frames := 3, cells := 0, slots := 0, locals := 73 } : Room).cells ({ frames := 3, cells := 0, slots := 0, locals := 73 } : Room).slots) := by
 refine MetFree.of_bodySF (plainFor_of_name own_pn3) hisR ?_
 intro p e s m args below meth c s₁ Bd hml0 hP hK
 obtain ⟨rfl, hZ, hh⟩ := hP
 have hx := Bd.exec
 have hby := Bd.bytes
 have hml : c.maxLocals = 1 := hml0
 have hown : s.vm.findClass "com/example/lightweave/lightweave/LinkSlots$Bits" = some m.cls := findClass_of_methodNamed Bd.named
 have hnm := (name_of_methodNamed Bd.named Bd.method).1
 have X0 : Stand p l e ({ frames := 3, cells := 0, slots := 0, locals := 73 } : Room) s m #[(.ref u)] below meth c s₁ [] 0 0 := Stand.of_body Bd
 have e0 : s₁.heap = h0 := by rw [← hh, Bd.state]; rfl
 have N0 := Fr.nil n0
 obtain ⟨Eb, Fw, Fn, Va, hW⟩ := SS
 have ci0 : (0 : Int32).toInt = 0 := by decide
 have ci1 : (1 : Int32).toInt = 1 := by decide
 have ci2 : (2 : Int32).toInt = 2 := by decide
 have ci3 : (3 : Int32).toInt = 3 := by decide
 have ci4 : (4 : Int32).toInt = 4 := by decide
 have ci16 : (16 : Int32).toInt = 16 := by decide
 have ci256 : (256 : Int32).toInt = 256 := by decide
 have ci65536 : (65536 : Int32).toInt = 65536 := by decide
 refine own_close (s := s) (Q := (own_Q_i (fun r => own_maxP (own_w wa wb wc wd) r.toInt) h0 n0)) (C := (({ frames := 3, cells := 0, slots := 0, locals := 73 } : Room)).cells) (N := (({ frames := 3, cells := 0, slots := 0, locals := 73 } : Room)).slots) (own_st (fun _ kt => castTop (own_ef19 m u) kt) ?_)
 show own_Rch _ _ _ _ s₁ (mkF m 0 #[oR u] [])
 refine own_st (fun _ => XS.iconst X0.here hx rfl (hb hby own_d19_0)) ?_
 show own_Rch _ _ _ _ s₁ (mkF m 1 #[oR u] [(.int (0 : Int32))])
 refine own_st (fun _ => XS.aloadN X0.here hx rfl (hb hby own_d19_1) rfl rfl) ?_
 show own_Rch _ _ _ _ s₁ (mkF m 2 #[oR u] [(.ref u), (.int (0 : Int32))])
 obtain ⟨T1, X1, e1, st1⟩ := getF X0 hx hZ hown (host := "") (Or.inl (hw _ (own_m 31 rfl))) Via.refl e0 Fu (g := (mkF m 2 #[oR u] [(.ref u), (.int (0 : Int32))])) rfl rfl (hb hby own_d19_2)
 refine own_st st1 ?_
 show own_Rch _ _ _ _ T1 (mkF m 5 #[oR u] [(.ref b), (.int (0 : Int32))])
 obtain ⟨cq2, kq2, q2a, q2b, q2c⟩ := isOf hZ e1 Eb
 obtain ⟨_, _, ⟨T2, L2, k2, n2⟩, -, X2, ⟨Lc2, hQ2, l2, y2, z2⟩, st2⟩ := X1.virtualBack hx (y := (⟨"java/util/BitSet", "length", "()I"⟩ : MethodName)) (z := (⟨"java/util/BitSet", "length", "()I"⟩ : MethodName)) hown (mvT hZ (hw _ (own_m 98 rfl))) (mvT hZ (hw _ (own_m 99 rfl))) (notFace_of_selects (args := #[]) (mvT hZ (hw _ (own_m 101 rfl)))) (mvT hZ (hw _ (own_m 101 rfl))) (mvT hZ (hw _ (own_m 100 rfl))) (by decide) (backOf (W := 1) (own_length l Z a0 hw [] b y ka wa wb wc wd nn h0 n0 O0 ⟨Eb, Fw, Fn, Va, hW⟩) hZ (hw _ (own_m 102 rfl)) (hw _ (own_m 11 rfl)) (by decide) (by decide)) q2a q2c (g := (mkF m 5 #[oR u] [(.ref b), (.int (0 : Int32))])) rfl (by rw [hml]; rfl) (Steps.refl _) (argsL := []) (rest := [(.int (0 : Int32))]) (lenOf own_pd3 rfl) rfl (by show 2 * 0 + _ ≤ _; exact Nat.le_of_eq rfl) (hb hby own_d19_5) (fun _ _ => ⟨rfl, e1, (by decide : 0 + 0 ≤ _), (by decide : 0 + 0 ≤ _)⟩)
 dsimp only [Pt.U, Pt.locs, Pt.cells, Pt.slots] at X2 l2 y2 z2 st2 hQ2
 subst l2 y2 z2
 obtain ⟨rr2, rfl, N2q, hh2, tp2⟩ := hQ2
 have N2 := Fr.app N0 N2q
 refine own_st (fun _ => st2.trans) ?_
 show own_Rch _ _ _ _ T2 (mkF m 8 #[oR u] [(.int rr2), (.int (0 : Int32))])
 refine own_st (fun _ => XS.iconst X2.here hx rfl (hb hby own_d19_8)) ?_
 show own_Rch _ _ _ _ T2 (mkF m 9 #[oR u] [(.int (1 : Int32)), (.int rr2), (.int (0 : Int32))])
 refine own_st (fun _ => XS.isub X2.here hx rfl (hb hby own_d19_9) rfl) ?_
 show own_Rch _ _ _ _ T2 (mkF m 10 #[oR u] [(.int (rr2 - (1 : Int32))), (.int (0 : Int32))])
 obtain ⟨_, _, ⟨T3, L3, k3, n3⟩, -, X3, ⟨Lc3, hQ3, l3, y3, z3⟩, st3⟩ := Jvm.LawKit.callS X2 hx (y := (⟨"java/lang/Math", "max", "(II)I"⟩ : MethodName)) hown (mvT hZ (hw _ (own_m 103 rfl))) (mvT hZ (hw _ (own_m 104 rfl))) (mvT hZ (hw _ (own_m 105 rfl))) (mvT hZ (hw _ (own_m 106 rfl))) (by decide) (backOf (W := 0) (own_max l Z a0 hw [] (0 : Int32) (rr2 - (1 : Int32)) h0 n0 O0 ) hZ (hw _ (own_m 106 rfl)) (hw _ (own_m 105 rfl)) (by decide) (by decide)) (g := (mkF m 10 #[oR u] [(.int (rr2 - (1 : Int32))), (.int (0 : Int32))])) rfl (by rw [hml]; rfl) (argsL := [(.int (0 : Int32)), (.int (rr2 - (1 : Int32)))]) (rest := []) (lenOf own_pd6 rfl) rfl (by show 2 * 0 + _ ≤ _; exact Nat.le_of_eq rfl) (hb hby own_d19_10) (fun _ _ => ⟨rfl, hh2, (by decide : 0 + 0 ≤ _), (by decide : 0 + 0 ≤ _)⟩)
 dsimp only [Pt.U, Pt.locs, Pt.cells, Pt.slots] at X3 l3 y3 z3 st3 hQ3
 subst l3 y3 z3
 obtain ⟨rr3, rfl, N3q, hh3, mx3⟩ := hQ3
 have N3 := Fr.app N2 N3q
 refine own_st st3 ?_
 show own_Rch _ _ _ _ T3 (mkF m 13 #[oR u] [(.int rr3)])
 refine own_retI X3 hx Bd.notSynchronized Bd.returns (hb hby own_d19_13) (by decide) (by decide) ?_
 rw [hh3]
 exact ⟨_, rfl, N3, rfl, own_maxA tp2 mx3.1 mx3.2⟩
theorem own_pn4 : plainName "com/example/lightweave/lightweave/BitsOccupyPinLaw" = true := by first | (simp [plainName, overriddenIn]; done) | decide +kernel
theorem own_ef0 (m : MethodId) (x0 : Int32) (x1 : Int32) (x2 : Int32) : entryFrame m #[(.int x0), (.int x1), (.int x2)] maxLocals = mkF m 0 #[.val (.int x0), .val (.int x1), .val (.int x2), .unset, .unset, .unset, .unset, .unset, .unset, .unset] [] := by first | (simp [entryFrame, mkF, argsToLocals, Value.category, maxLocals]; done) | rfl
def own_Q_own_rm0 (Z : State) (p0 : Int32) (p1 : Int32) (p2 : Int32) (h0 : Heap) (n0 : Nat) (v : Option Value) (h : Heap) (L : List Loc) : Prop := v = some (.int (1 : Int32)) ∧ Fr n0 L
set_option maxRecDepth 65536 in
set_option maxHeartbeats 40000000 in
theorem own_rm0 (l : Launch) (Z : State) (a0 : Array Value) (hw : ∀ d ∈ tables_1, d.before a0 Z = true) (ws : List Jvm.Cond) (p0 : Int32) (p1 : Int32) (p2 : Int32) (h0 : Heap) (n0 : Nat) (O0 : Old Z n0 h0) (SA : Sta Z Z.heap "java/util/BitSet" "$assertionsDisabled" "Z" (.int (1 : Int32))) :
    MetFree l x (head1 (Jvm.Cond.code x code maxLocals ret :: ws) room_1) (fun args_ U => args_ = #[(.int p0), (.int p1), (.int p2)] ∧ Z.Warmed39 U.vm ∧ U.heap = h0) (fun _ _ _ _ _ => True) (fun _ U o U' => ∃ v L, o = .returned v ∧ (own_Q_own_rm0 Z p0 p1 p2 h0 n0) v U'.heap L ∧ FrameEnd U o U' L room_1.cells room_1.slots) := by
 refine MetFree.of_bodySF (plainFor_of_name own_pn4) hisR ?_
 intro p e s m args below meth c s₁ Bd hml0 hP hK
 obtain ⟨rfl, hZ, hh⟩ := hP
 have hx := Bd.exec
 have hby := Bd.bytes
 have hml : c.maxLocals = 10 := hml0
 have hown : s.vm.findClass "com/example/lightweave/lightweave/BitsOccupyPinLaw" = some m.cls := findClass_of_methodNamed Bd.named
 have hnm := (name_of_methodNamed Bd.named Bd.method).1
 have X0 : Stand p l e room_1 s m #[(.int p0), (.int p1), (.int p2)] below meth c s₁ [] 0 0 := Stand.of_body Bd
 have e0 : s₁.heap = h0 := by rw [← hh, Bd.state]; rfl
 have N0 := Fr.nil n0
 have ci0 : (0 : Int32).toInt = 0 := by decide
 have ci1 : (1 : Int32).toInt = 1 := by decide
 have ci2 : (2 : Int32).toInt = 2 := by decide
 have ci3 : (3 : Int32).toInt = 3 := by decide
 have ci4 : (4 : Int32).toInt = 4 := by decide
 have ci16 : (16 : Int32).toInt = 16 := by decide
 have ci256 : (256 : Int32).toInt = 256 := by decide
 have ci65536 : (65536 : Int32).toInt = 65536 := by decide
 refine own_close (s := s) (Q := (own_Q_own_rm0 Z p0 p1 p2 h0 n0)) (C := (room_1).cells) (N := (room_1).slots) (own_st (fun _ kt => castTop (own_ef0 m p0 p1 p2) kt) ?_)
 show own_Rch _ _ _ _ s₁ (mkF m 0 #[oI p0, oI p1, oI p2, .unset, .unset, .unset, .unset, .unset, .unset, .unset] [])
 refine own_st (fun _ => XS.iconst X0.here hx rfl (hb hby at_0)) ?_
 show own_Rch _ _ _ _ s₁ (mkF m 1 #[oI p0, oI p1, oI p2, .unset, .unset, .unset, .unset, .unset, .unset, .unset] [(.int (1 : Int32))])
 refine own_st (fun _ => XS.iloadN X0.here hx rfl (hb hby at_1) rfl) ?_
 show own_Rch _ _ _ _ s₁ (mkF m 2 #[oI p0, oI p1, oI p2, .unset, .unset, .unset, .unset, .unset, .unset, .unset] [(.int p0), (.int (1 : Int32))])
 refine own_st (fun _ => XS.bipush X0.here hx rfl (hb hby at_2)) ?_
 show own_Rch _ _ _ _ s₁ (mkF m 4 #[oI p0, oI p1, oI p2, .unset, .unset, .unset, .unset, .unset, .unset, .unset] [(.int (127 : Int32)), (.int p0), (.int (1 : Int32))])
 refine own_st (fun _ => XS.iand X0.here hx rfl (hb hby at_4) rfl) ?_
 show own_Rch _ _ _ _ s₁ (mkF m 5 #[oI p0, oI p1, oI p2, .unset, .unset, .unset, .unset, .unset, .unset, .unset] [(.int (p0 &&& (127 : Int32))), (.int (1 : Int32))])
 refine own_st (fun _ => XS.iadd X0.here hx rfl (hb hby at_5) rfl) ?_
 show own_Rch _ _ _ _ s₁ (mkF m 6 #[oI p0, oI p1, oI p2, .unset, .unset, .unset, .unset, .unset, .unset, .unset] [(.int ((1 : Int32) + (p0 &&& (127 : Int32))))])
 refine own_st (fun _ => XS.istoreN X0.here hx rfl (hb hby at_6) rfl (l' := #[oI p0, oI p1, oI p2, oI ((1 : Int32) + (p0 &&& (127 : Int32))), .unset, .unset, .unset, .unset, .unset, .unset]) rfl) ?_
 show own_Rch _ _ _ _ s₁ (mkF m 7 #[oI p0, oI p1, oI p2, oI ((1 : Int32) + (p0 &&& (127 : Int32))), .unset, .unset, .unset, .unset, .unset, .unset] [])
 refine own_st (fun _ => XS.iloadN X0.here hx rfl (hb hby at_7) rfl) ?_
 show own_Rch _ _ _ _ s₁ (mkF m 8 #[oI p0, oI p1, oI p2, oI ((1 : Int32) + (p0 &&& (127 : Int32))), .unset, .unset, .unset, .unset, .unset, .unset] [(.int ((1 : Int32) + (p0 &&& (127 : Int32))))])
 refine own_st (fun _ => XS.iloadN X0.here hx rfl (hb hby at_8) rfl) ?_
 show own_Rch _ _ _ _ s₁ (mkF m 9 #[oI p0, oI p1, oI p2, oI ((1 : Int32) + (p0 &&& (127 : Int32))), .unset, .unset, .unset, .unset, .unset, .unset] [(.int p1), (.int ((1 : Int32) + (p0 &&& (127 : Int32))))])
 refine own_st (fun _ => XS.bipush X0.here hx rfl (hb hby at_9)) ?_
 show own_Rch _ _ _ _ s₁ (mkF m 11 #[oI p0, oI p1, oI p2, oI ((1 : Int32) + (p0 &&& (127 : Int32))), .unset, .unset, .unset, .unset, .unset, .unset] [(.int (63 : Int32)), (.int p1), (.int ((1 : Int32) + (p0 &&& (127 : Int32))))])
 refine own_st (fun _ => XS.iand X0.here hx rfl (hb hby at_11) rfl) ?_
 show own_Rch _ _ _ _ s₁ (mkF m 12 #[oI p0, oI p1, oI p2, oI ((1 : Int32) + (p0 &&& (127 : Int32))), .unset, .unset, .unset, .unset, .unset, .unset] [(.int (p1 &&& (63 : Int32))), (.int ((1 : Int32) + (p0 &&& (127 : Int32))))])
 refine own_st (fun _ => XS.iadd X0.here hx rfl (hb hby at_12) rfl) ?_
 show own_Rch _ _ _ _ s₁ (mkF m 13 #[oI p0, oI p1, oI p2, oI ((1 : Int32) + (p0 &&& (127 : Int32))), .unset, .unset, .unset, .unset, .unset, .unset] [(.int (((1 : Int32) + (p0 &&& (127 : Int32))) + (p1 &&& (63 : Int32))))])
 refine own_st (fun _ => XS.istore X0.here hx rfl (hb hby at_13) rfl (l' := #[oI p0, oI p1, oI p2, oI ((1 : Int32) + (p0 &&& (127 : Int32))), oI (((1 : Int32) + (p0 &&& (127 : Int32))) + (p1 &&& (63 : Int32))), .unset, .unset, .unset, .unset, .unset]) rfl) ?_
 show own_Rch _ _ _ _ s₁ (mkF m 15 #[oI p0, oI p1, oI p2, oI ((1 : Int32) + (p0 &&& (127 : Int32))), oI (((1 : Int32) + (p0 &&& (127 : Int32))) + (p1 &&& (63 : Int32))), .unset, .unset, .unset, .unset, .unset] [])
 refine own_st (fun _ => XS.iloadN X0.here hx rfl (hb hby at_15) rfl) ?_
 show own_Rch _ _ _ _ s₁ (mkF m 16 #[oI p0, oI p1, oI p2, oI ((1 : Int32) + (p0 &&& (127 : Int32))), oI (((1 : Int32) + (p0 &&& (127 : Int32))) + (p1 &&& (63 : Int32))), .unset, .unset, .unset, .unset, .unset] [(.int p2)])
 refine own_st (fun _ => XS.iconst X0.here hx rfl (hb hby at_16)) ?_
 show own_Rch _ _ _ _ s₁ (mkF m 17 #[oI p0, oI p1, oI p2, oI ((1 : Int32) + (p0 &&& (127 : Int32))), oI (((1 : Int32) + (p0 &&& (127 : Int32))) + (p1 &&& (63 : Int32))), .unset, .unset, .unset, .unset, .unset] [(.int (1 : Int32)), (.int p2)])
 refine own_st (fun _ => XS.iand X0.here hx rfl (hb hby at_17) rfl) ?_
 show own_Rch _ _ _ _ s₁ (mkF m 18 #[oI p0, oI p1, oI p2, oI ((1 : Int32) + (p0 &&& (127 : Int32))), oI (((1 : Int32) + (p0 &&& (127 : Int32))) + (p1 &&& (63 : Int32))), .unset, .unset, .unset, .unset, .unset] [(.int (p2 &&& (1 : Int32)))])
 by_cases hc18_1 : (p2 &&& (1 : Int32)) = (0 : Int32)
 · -- pc 18: True
  refine own_st (fun _ => XS.ifYes X0.here hx rfl (pc0 := 18) (pc' := 25) rfl (hb hby at_18) rfl ((if0 _ _).trans (teq hc18_1).1) (by decide) (by decide)) ?_
  show own_Rch _ _ _ _ s₁ (mkF m 25 #[oI p0, oI p1, oI p2, oI ((1 : Int32) + (p0 &&& (127 : Int32))), oI (((1 : Int32) + (p0 &&& (127 : Int32))) + (p1 &&& (63 : Int32))), .unset, .unset, .unset, .unset, .unset] [])
  refine own_st (fun _ => XS.iconst X0.here hx rfl (hb hby at_25)) ?_
  show own_Rch _ _ _ _ s₁ (mkF m 26 #[oI p0, oI p1, oI p2, oI ((1 : Int32) + (p0 &&& (127 : Int32))), oI (((1 : Int32) + (p0 &&& (127 : Int32))) + (p1 &&& (63 : Int32))), .unset, .unset, .unset, .unset, .unset] [(.int (0 : Int32))])
  refine own_st (fun _ => XS.istore X0.here hx rfl (hb hby at_26) rfl (l' := #[oI p0, oI p1, oI p2, oI ((1 : Int32) + (p0 &&& (127 : Int32))), oI (((1 : Int32) + (p0 &&& (127 : Int32))) + (p1 &&& (63 : Int32))), oI (0 : Int32), .unset, .unset, .unset, .unset]) rfl) ?_
  show own_Rch _ _ _ _ s₁ (mkF m 28 #[oI p0, oI p1, oI p2, oI ((1 : Int32) + (p0 &&& (127 : Int32))), oI (((1 : Int32) + (p0 &&& (127 : Int32))) + (p1 &&& (63 : Int32))), oI (0 : Int32), .unset, .unset, .unset, .unset] [])
  refine own_st (fun _ => XS.sipush X0.here hx rfl (hb hby at_28)) ?_
  show own_Rch _ _ _ _ s₁ (mkF m 31 #[oI p0, oI p1, oI p2, oI ((1 : Int32) + (p0 &&& (127 : Int32))), oI (((1 : Int32) + (p0 &&& (127 : Int32))) + (p1 &&& (63 : Int32))), oI (0 : Int32), .unset, .unset, .unset, .unset] [(.int (200 : Int32))])
  refine own_st (fun _ => XS.iloadN X0.here hx rfl (hb hby at_31) rfl) ?_
  show own_Rch _ _ _ _ s₁ (mkF m 32 #[oI p0, oI p1, oI p2, oI ((1 : Int32) + (p0 &&& (127 : Int32))), oI (((1 : Int32) + (p0 &&& (127 : Int32))) + (p1 &&& (63 : Int32))), oI (0 : Int32), .unset, .unset, .unset, .unset] [(.int p2), (.int (200 : Int32))])
  refine own_st (fun _ => XS.iconst X0.here hx rfl (hb hby at_32)) ?_
  show own_Rch _ _ _ _ s₁ (mkF m 33 #[oI p0, oI p1, oI p2, oI ((1 : Int32) + (p0 &&& (127 : Int32))), oI (((1 : Int32) + (p0 &&& (127 : Int32))) + (p1 &&& (63 : Int32))), oI (0 : Int32), .unset, .unset, .unset, .unset] [(.int (1 : Int32)), (.int p2), (.int (200 : Int32))])
  refine own_st (fun _ => XS.iushr X0.here hx rfl (hb hby at_33) rfl) ?_
  show own_Rch _ _ _ _ s₁ (mkF m 34 #[oI p0, oI p1, oI p2, oI ((1 : Int32) + (p0 &&& (127 : Int32))), oI (((1 : Int32) + (p0 &&& (127 : Int32))) + (p1 &&& (63 : Int32))), oI (0 : Int32), .unset, .unset, .unset, .unset] [(.int ((p2.toUInt32 >>> ((1 : Int32) &&& 31).toUInt32).toInt32)), (.int (200 : Int32))])
  refine own_st (fun _ => XS.bipush X0.here hx rfl (hb hby at_34)) ?_
  show own_Rch _ _ _ _ s₁ (mkF m 36 #[oI p0, oI p1, oI p2, oI ((1 : Int32) + (p0 &&& (127 : Int32))), oI (((1 : Int32) + (p0 &&& (127 : Int32))) + (p1 &&& (63 : Int32))), oI (0 : Int32), .unset, .unset, .unset, .unset] [(.int (15 : Int32)), (.int ((p2.toUInt32 >>> ((1 : Int32) &&& 31).toUInt32).toInt32)), (.int (200 : Int32))])
  refine own_st (fun _ => XS.iand X0.here hx rfl (hb hby at_36) rfl) ?_
  show own_Rch _ _ _ _ s₁ (mkF m 37 #[oI p0, oI p1, oI p2, oI ((1 : Int32) + (p0 &&& (127 : Int32))), oI (((1 : Int32) + (p0 &&& (127 : Int32))) + (p1 &&& (63 : Int32))), oI (0 : Int32), .unset, .unset, .unset, .unset] [(.int (((p2.toUInt32 >>> ((1 : Int32) &&& 31).toUInt32).toInt32) &&& (15 : Int32))), (.int (200 : Int32))])
  refine own_st (fun _ => XS.iadd X0.here hx rfl (hb hby at_37) rfl) ?_
  show own_Rch _ _ _ _ s₁ (mkF m 38 #[oI p0, oI p1, oI p2, oI ((1 : Int32) + (p0 &&& (127 : Int32))), oI (((1 : Int32) + (p0 &&& (127 : Int32))) + (p1 &&& (63 : Int32))), oI (0 : Int32), .unset, .unset, .unset, .unset] [(.int ((200 : Int32) + (((p2.toUInt32 >>> ((1 : Int32) &&& 31).toUInt32).toInt32) &&& (15 : Int32))))])
  refine own_st (fun _ => XS.istore X0.here hx rfl (hb hby at_38) rfl (l' := #[oI p0, oI p1, oI p2, oI ((1 : Int32) + (p0 &&& (127 : Int32))), oI (((1 : Int32) + (p0 &&& (127 : Int32))) + (p1 &&& (63 : Int32))), oI (0 : Int32), oI ((200 : Int32) + (((p2.toUInt32 >>> ((1 : Int32) &&& 31).toUInt32).toInt32) &&& (15 : Int32))), .unset, .unset, .unset]) rfl) ?_
  show own_Rch _ _ _ _ s₁ (mkF m 40 #[oI p0, oI p1, oI p2, oI ((1 : Int32) + (p0 &&& (127 : Int32))), oI (((1 : Int32) + (p0 &&& (127 : Int32))) + (p1 &&& (63 : Int32))), oI (0 : Int32), oI ((200 : Int32) + (((p2.toUInt32 >>> ((1 : Int32) &&& 31).toUInt32).toInt32) &&& (15 : Int32))), .unset, .unset, .unset] [])
  refine own_st (fun _ => XS.iload X0.here hx rfl (hb hby at_40) rfl) ?_
  show own_Rch _ _ _ _ s₁ (mkF m 42 #[oI p0, oI p1, oI p2, oI ((1 : Int32) + (p0 &&& (127 : Int32))), oI (((1 : Int32) + (p0 &&& (127 : Int32))) + (p1 &&& (63 : Int32))), oI (0 : Int32), oI ((200 : Int32) + (((p2.toUInt32 >>> ((1 : Int32) &&& 31).toUInt32).toInt32) &&& (15 : Int32))), .unset, .unset, .unset] [(.int ((200 : Int32) + (((p2.toUInt32 >>> ((1 : Int32) &&& 31).toUInt32).toInt32) &&& (15 : Int32))))])
  refine own_st (fun _ => XS.iloadN X0.here hx rfl (hb hby at_42) rfl) ?_
  show own_Rch _ _ _ _ s₁ (mkF m 43 #[oI p0, oI p1, oI p2, oI ((1 : Int32) + (p0 &&& (127 : Int32))), oI (((1 : Int32) + (p0 &&& (127 : Int32))) + (p1 &&& (63 : Int32))), oI (0 : Int32), oI ((200 : Int32) + (((p2.toUInt32 >>> ((1 : Int32) &&& 31).toUInt32).toInt32) &&& (15 : Int32))), .unset, .unset, .unset] [(.int p2), (.int ((200 : Int32) + (((p2.toUInt32 >>> ((1 : Int32) &&& 31).toUInt32).toInt32) &&& (15 : Int32))))])
  refine own_st (fun _ => XS.iconst X0.here hx rfl (hb hby at_43)) ?_
  show own_Rch _ _ _ _ s₁ (mkF m 44 #[oI p0, oI p1, oI p2, oI ((1 : Int32) + (p0 &&& (127 : Int32))), oI (((1 : Int32) + (p0 &&& (127 : Int32))) + (p1 &&& (63 : Int32))), oI (0 : Int32), oI ((200 : Int32) + (((p2.toUInt32 >>> ((1 : Int32) &&& 31).toUInt32).toInt32) &&& (15 : Int32))), .unset, .unset, .unset] [(.int (5 : Int32)), (.int p2), (.int ((200 : Int32) + (((p2.toUInt32 >>> ((1 : Int32) &&& 31).toUInt32).toInt32) &&& (15 : Int32))))])
  refine own_st (fun _ => XS.iushr X0.here hx rfl (hb hby at_44) rfl) ?_
  show own_Rch _ _ _ _ s₁ (mkF m 45 #[oI p0, oI p1, oI p2, oI ((1 : Int32) + (p0 &&& (127 : Int32))), oI (((1 : Int32) + (p0 &&& (127 : Int32))) + (p1 &&& (63 : Int32))), oI (0 : Int32), oI ((200 : Int32) + (((p2.toUInt32 >>> ((1 : Int32) &&& 31).toUInt32).toInt32) &&& (15 : Int32))), .unset, .unset, .unset] [(.int ((p2.toUInt32 >>> ((5 : Int32) &&& 31).toUInt32).toInt32)), (.int ((200 : Int32) + (((p2.toUInt32 >>> ((1 : Int32) &&& 31).toUInt32).toInt32) &&& (15 : Int32))))])
  refine own_st (fun _ => XS.bipush X0.here hx rfl (hb hby at_45)) ?_
  show own_Rch _ _ _ _ s₁ (mkF m 47 #[oI p0, oI p1, oI p2, oI ((1 : Int32) + (p0 &&& (127 : Int32))), oI (((1 : Int32) + (p0 &&& (127 : Int32))) + (p1 &&& (63 : Int32))), oI (0 : Int32), oI ((200 : Int32) + (((p2.toUInt32 >>> ((1 : Int32) &&& 31).toUInt32).toInt32) &&& (15 : Int32))), .unset, .unset, .unset] [(.int (31 : Int32)), (.int ((p2.toUInt32 >>> ((5 : Int32) &&& 31).toUInt32).toInt32)), (.int ((200 : Int32) + (((p2.toUInt32 >>> ((1 : Int32) &&& 31).toUInt32).toInt32) &&& (15 : Int32))))])
  refine own_st (fun _ => XS.iand X0.here hx rfl (hb hby at_47) rfl) ?_
  show own_Rch _ _ _ _ s₁ (mkF m 48 #[oI p0, oI p1, oI p2, oI ((1 : Int32) + (p0 &&& (127 : Int32))), oI (((1 : Int32) + (p0 &&& (127 : Int32))) + (p1 &&& (63 : Int32))), oI (0 : Int32), oI ((200 : Int32) + (((p2.toUInt32 >>> ((1 : Int32) &&& 31).toUInt32).toInt32) &&& (15 : Int32))), .unset, .unset, .unset] [(.int (((p2.toUInt32 >>> ((5 : Int32) &&& 31).toUInt32).toInt32) &&& (31 : Int32))), (.int ((200 : Int32) + (((p2.toUInt32 >>> ((1 : Int32) &&& 31).toUInt32).toInt32) &&& (15 : Int32))))])
  refine own_st (fun _ => XS.iadd X0.here hx rfl (hb hby at_48) rfl) ?_
  show own_Rch _ _ _ _ s₁ (mkF m 49 #[oI p0, oI p1, oI p2, oI ((1 : Int32) + (p0 &&& (127 : Int32))), oI (((1 : Int32) + (p0 &&& (127 : Int32))) + (p1 &&& (63 : Int32))), oI (0 : Int32), oI ((200 : Int32) + (((p2.toUInt32 >>> ((1 : Int32) &&& 31).toUInt32).toInt32) &&& (15 : Int32))), .unset, .unset, .unset] [(.int (((200 : Int32) + (((p2.toUInt32 >>> ((1 : Int32) &&& 31).toUInt32).toInt32) &&& (15 : Int32))) + (((p2.toUInt32 >>> ((5 : Int32) &&& 31).toUInt32).toInt32) &&& (31 : Int32))))])
  refine own_st (fun _ => XS.istore X0.here hx rfl (hb hby at_49) rfl (l' := #[oI p0, oI p1, oI p2, oI ((1 : Int32) + (p0 &&& (127 : Int32))), oI (((1 : Int32) + (p0 &&& (127 : Int32))) + (p1 &&& (63 : Int32))), oI (0 : Int32), oI ((200 : Int32) + (((p2.toUInt32 >>> ((1 : Int32) &&& 31).toUInt32).toInt32) &&& (15 : Int32))), oI (((200 : Int32) + (((p2.toUInt32 >>> ((1 : Int32) &&& 31).toUInt32).toInt32) &&& (15 : Int32))) + (((p2.toUInt32 >>> ((5 : Int32) &&& 31).toUInt32).toInt32) &&& (31 : Int32))), .unset, .unset]) rfl) ?_
  show own_Rch _ _ _ _ s₁ (mkF m 51 #[oI p0, oI p1, oI p2, oI ((1 : Int32) + (p0 &&& (127 : Int32))), oI (((1 : Int32) + (p0 &&& (127 : Int32))) + (p1 &&& (63 : Int32))), oI (0 : Int32), oI ((200 : Int32) + (((p2.toUInt32 >>> ((1 : Int32) &&& 31).toUInt32).toInt32) &&& (15 : Int32))), oI (((200 : Int32) + (((p2.toUInt32 >>> ((1 : Int32) &&& 31).toUInt32).toInt32) &&& (15 : Int32))) + (((p2.toUInt32 >>> ((5 : Int32) &&& 31).toUInt32).toInt32) &&& (31 : Int32))), .unset, .unset] [])
  have bf := own_rf p0
  generalize ((1 : Int32) + (p0 &&& (127 : Int32))) = vf at bf ⊢
  have bl := own_rl vf p1 (63 : Int32) (show _ = (63 : Int) by decide) (by decide) (by decide) (by omega) (by omega)
  generalize (vf + (p1 &&& (63 : Int32))) = vl at bl ⊢
  have bpf := own_rl (200 : Int32) ((p2.toUInt32 >>> ((1 : Int32) &&& 31).toUInt32).toInt32) (15 : Int32) (show _ = (15 : Int) by decide) (by decide) (by decide) (by decide) (by decide)
  rw [show (200 : Int32).toInt = 200 by decide] at bpf
  generalize ((200 : Int32) + (((p2.toUInt32 >>> ((1 : Int32) &&& 31).toUInt32).toInt32) &&& (15 : Int32))) = vpf at bpf ⊢
  have bpl := own_rl vpf ((p2.toUInt32 >>> ((5 : Int32) &&& 31).toUInt32).toInt32) (31 : Int32) (show _ = (31 : Int) by decide) (by decide) (by decide) (by omega) (by omega)
  generalize (vpf + (((p2.toUInt32 >>> ((5 : Int32) &&& 31).toUInt32).toInt32) &&& (31 : Int32))) = vpl at bpl ⊢
  have el1 : (vl + (1 : Int32)).toInt = vl.toInt + 1 := own_sm rfl (by decide) (by omega) (by omega)
  have epl1 : (vpl + (1 : Int32)).toInt = vpl.toInt + 1 := own_sm rfl (by decide) (by omega) (by omega)
  have ef1 : (vf - (1 : Int32)).toInt = vf.toInt - 1 := own_sb rfl (by decide) (by omega) (by omega)
  have c199 : (199 : Int32).toInt = 199 := by decide
  show own_Rch _ _ _ _ s₁ (mkF m 51 #[oI p0, oI p1, oI p2, oI vf, oI vl, oI (0 : Int32), oI vpf, oI vpl, .unset, .unset] [])
  obtain ⟨T2, h2, X2, e2, E2, A2, D2, U2, st2⟩ := newO X0 hx hZ hown (hw _ (own_m 0 rfl)) (hw _ (own_m 1 rfl)) (hw _ (own_m 2 rfl)) e0 (g := (mkF m 51 #[oI p0, oI p1, oI p2, oI vf, oI vl, oI (0 : Int32), oI vpf, oI vpl, .unset, .unset] [])) rfl (hb hby at_51) (by decide) (by decide)
  obtain ⟨b2, g2⟩ : ∃ z, z = h0.size := ⟨_, rfl⟩
  rw [← g2] at A2 D2 U2 st2
  have ge2 : n0 ≤ b2 := by rw [g2]; exact own_old_le O0
  have O0_x2 := O0.ext E2
  refine own_st st2 ?_
  have F2_used : Fld Z h2 b2 "com/example/lightweave/lightweave/LinkSlots$Bits" "used" "Ljava/util/BitSet;" .null := D2 (Or.inr (hw _ (own_m 32 rfl))) (ty := (.object "java/util/BitSet")) (by decide)
  show own_Rch _ _ _ _ T2 (mkF m 54 #[oI p0, oI p1, oI p2, oI vf, oI vl, oI (0 : Int32), oI vpf, oI vpl, .unset, .unset] [(.ref b2)])
  refine own_st (fun _ => XS.dup X2.here hx rfl (hb hby at_54) rfl rfl) ?_
  show own_Rch _ _ _ _ T2 (mkF m 55 #[oI p0, oI p1, oI p2, oI vf, oI vl, oI (0 : Int32), oI vpf, oI vpl, .unset, .unset] [(.ref b2), (.ref b2)])
  refine own_st (fun _ => XS.sipush X2.here hx rfl (hb hby at_55)) ?_
  show own_Rch _ _ _ _ T2 (mkF m 58 #[oI p0, oI p1, oI p2, oI vf, oI vl, oI (0 : Int32), oI vpf, oI vpl, .unset, .unset] [(.int (256 : Int32)), (.ref b2), (.ref b2)])
  obtain ⟨_, _, ⟨T3, L3, k3, n3⟩, -, X3, ⟨Lc3, hQ3, l3, y3, z3⟩, st3⟩ := X2.specialBack hx (y := (⟨"com/example/lightweave/lightweave/LinkSlots$Bits", "<init>", "(I)V"⟩ : MethodName)) rfl hown (mvT hZ (hw _ (own_m 3 rfl))) (mvT hZ (hw _ (own_m 4 rfl))) (mvT hZ (hw _ (own_m 5 rfl))) (by decide) (backOf (W := 1) (own_bti l Z a0 hw [] b2 h2 n0 O0_x2 A2 F2_used ge2) hZ (hw _ (own_m 5 rfl)) (hw _ (own_m 2 rfl)) (by decide) (by decide)) (g := (mkF m 58 #[oI p0, oI p1, oI p2, oI vf, oI vl, oI (0 : Int32), oI vpf, oI vpl, .unset, .unset] [(.int (256 : Int32)), (.ref b2), (.ref b2)])) rfl (by rw [hml]; rfl) (Steps.refl _) (a := b2) (argsL := [(.int (256 : Int32))]) (rest := [(.ref b2)]) (lenOf own_pd4 rfl) rfl (by show 2 * 0 + _ ≤ _; exact Nat.le_of_eq rfl) (hb hby at_58) (fun _ _ => ⟨rfl, e2, (by decide : 1 + 2 ≤ _), (by decide : 1 + 8 ≤ _)⟩)
  dsimp only [Pt.U, Pt.locs, Pt.cells, Pt.slots] at X3 l3 y3 z3 st3 hQ3
  subst l3 y3 z3
  obtain ⟨rfl, N3q, K3, bb3, yy3, ka3, Fu3, ⟨Eb3, Fw3, Fn3, Va3, Wd3⟩, hb3, hy3⟩ := hQ3
  have N3 := Fr.app N0 N3q
  refine own_st (fun _ => st3.trans) ?_
  have ne3_b2_bb3 : b2 ≠ bb3 := Nat.ne_of_lt (Nat.lt_of_lt_of_le F2_used.lt hb3)
  have ge3_bb3 : n0 ≤ bb3 := Nat.le_trans (own_old_le O0_x2) hb3
  have ne3_b2_yy3 : b2 ≠ yy3 := Nat.ne_of_lt (Nat.lt_of_lt_of_le F2_used.lt hy3)
  have ge3_yy3 : n0 ≤ yy3 := Nat.le_trans (own_old_le O0_x2) hy3
  have O0_x3 := O0_x2.keep K3 (allS ge2 all0)
  have A2_x3 := A2.keep K3
  show own_Rch _ _ _ _ T3 (mkF m 61 #[oI p0, oI p1, oI p2, oI vf, oI vl, oI (0 : Int32), oI vpf, oI vpl, .unset, .unset] [(.ref b2)])
  refine own_st (fun _ => XS.astore X3.here hx rfl (hb hby at_61) rfl rfl (l' := #[oI p0, oI p1, oI p2, oI vf, oI vl, oI (0 : Int32), oI vpf, oI vpl, oR b2, .unset]) rfl) ?_
  show own_Rch _ _ _ _ T3 (mkF m 63 #[oI p0, oI p1, oI p2, oI vf, oI vl, oI (0 : Int32), oI vpf, oI vpl, oR b2, .unset] [])
  refine own_st (fun _ => XS.iload X3.here hx rfl (hb hby at_63) rfl) ?_
  show own_Rch _ _ _ _ T3 (mkF m 65 #[oI p0, oI p1, oI p2, oI vf, oI vl, oI (0 : Int32), oI vpf, oI vpl, oR b2, .unset] [(.int (0 : Int32))])
  refine own_st (fun _ => XS.ifYes X3.here hx rfl (pc0 := 65) (pc' := 77) rfl (hb hby at_65) rfl ((if0 _ _).trans (teq (rfl : (0 : Int32) = (0 : Int32))).1) (by decide) (by decide)) ?_
  show own_Rch _ _ _ _ T3 (mkF m 77 #[oI p0, oI p1, oI p2, oI vf, oI vl, oI (0 : Int32), oI vpf, oI vpl, oR b2, .unset] [])
  refine own_st (fun _ => XS.aload X3.here hx rfl (hb hby at_77) rfl rfl) ?_
  show own_Rch _ _ _ _ T3 (mkF m 79 #[oI p0, oI p1, oI p2, oI vf, oI vl, oI (0 : Int32), oI vpf, oI vpl, oR b2, .unset] [(.ref b2)])
  refine own_st (fun _ => XS.iloadN X3.here hx rfl (hb hby at_79) rfl) ?_
  show own_Rch _ _ _ _ T3 (mkF m 80 #[oI p0, oI p1, oI p2, oI vf, oI vl, oI (0 : Int32), oI vpf, oI vpl, oR b2, .unset] [(.int vf), (.ref b2)])
  refine own_st (fun _ => XS.iload X3.here hx rfl (hb hby at_80) rfl) ?_
  show own_Rch _ _ _ _ T3 (mkF m 82 #[oI p0, oI p1, oI p2, oI vf, oI vl, oI (0 : Int32), oI vpf, oI vpl, oR b2, .unset] [(.int vl), (.int vf), (.ref b2)])
  obtain ⟨cq4, kq4, q4a, q4b, q4c⟩ := isOf hZ rfl A2_x3
  obtain ⟨_, _, ⟨T4, L4, k4, n4⟩, -, X4, ⟨Lc4, hQ4, l4, y4, z4⟩, st4⟩ := X3.virtualBack hx (y := (⟨"com/example/lightweave/lightweave/LinkSlots$Bits", "occupy", "(II)V"⟩ : MethodName)) (z := (⟨"com/example/lightweave/lightweave/LinkSlots$Bits", "occupy", "(II)V"⟩ : MethodName)) hown (mvT hZ (hw _ (own_m 33 rfl))) (mvT hZ (hw _ (own_m 34 rfl))) (notFace_of_selects (args := #[]) (mvT hZ (hw _ (own_m 36 rfl)))) (mvT hZ (hw _ (own_m 36 rfl))) (mvT hZ (hw _ (own_m 35 rfl))) (by decide) (backOf (W := 0) (own_occ l Z a0 hw [] b2 bb3 yy3 ka3 (0 : Int64) (0 : Int64) (0 : Int64) (0 : Int64) (0 : Int32) vf vl T3.heap n0 O0_x3 SA Fu3 ⟨Eb3, Fw3, Fn3, Va3, Wd3⟩ (own_clsA (by omega) (by omega) (by omega)) ge3_bb3 ge3_yy3) hZ (hw _ (own_m 37 rfl)) (hw _ (own_m 2 rfl)) (by decide) (by decide)) q4a q4c (g := (mkF m 82 #[oI p0, oI p1, oI p2, oI vf, oI vl, oI (0 : Int32), oI vpf, oI vpl, oR b2, .unset] [(.int vl), (.int vf), (.ref b2)])) rfl (by rw [hml]; rfl) (Steps.refl _) (argsL := [(.int vf), (.int vl)]) (rest := []) (lenOf own_pd5 rfl) rfl (by show 2 * 0 + _ ≤ _; exact Nat.le_of_eq rfl) (hb hby at_82) (fun _ _ => ⟨rfl, rfl, (by decide : 3 + 0 ≤ _), (by decide : 9 + 0 ≤ _)⟩)
  dsimp only [Pt.U, Pt.locs, Pt.cells, Pt.slots] at X4 l4 y4 z4 st4 hQ4
  subst l4 y4 z4
  obtain ⟨rfl, N4q, K4, wa4, wb4, wc4, wd4, nx4, ⟨Eb4, Fw4, Fn4, Va4, Wd4⟩, Sp4⟩ := hQ4
  have N4 := Fr.app N3 N4q
  refine own_st (fun _ => st4.trans) ?_
  have O0_x4 := O0_x3.keep K4 (allS ge3_bb3 (allS ge3_yy3 all0))
  have A2_x4 := A2_x3.keep K4
  have Fu3_x4 := Fu3.keep K4 (ninS ne3_b2_bb3 (ninS ne3_b2_yy3 nin0))
  have Eb3_x4 := Eb3.keep K4
  have HB := own_HB1 el1 Sp4
  show own_Rch _ _ _ _ T4 (mkF m 85 #[oI p0, oI p1, oI p2, oI vf, oI vl, oI (0 : Int32), oI vpf, oI vpl, oR b2, .unset] [])
  refine own_st (fun _ => XS.aload X4.here hx rfl (hb hby at_85) rfl rfl) ?_
  show own_Rch _ _ _ _ T4 (mkF m 87 #[oI p0, oI p1, oI p2, oI vf, oI vl, oI (0 : Int32), oI vpf, oI vpl, oR b2, .unset] [(.ref b2)])
  refine own_st (fun _ => XS.iloadN X4.here hx rfl (hb hby at_87) rfl) ?_
  show own_Rch _ _ _ _ T4 (mkF m 88 #[oI p0, oI p1, oI p2, oI vf, oI vl, oI (0 : Int32), oI vpf, oI vpl, oR b2, .unset] [(.int vf), (.ref b2)])
  refine own_st (fun _ => XS.iloadN X4.here hx rfl (hb hby at_88) rfl) ?_
  show own_Rch _ _ _ _ T4 (mkF m 89 #[oI p0, oI p1, oI p2, oI vf, oI vl, oI (0 : Int32), oI vpf, oI vpl, oR b2, .unset] [(.int vf), (.int vf), (.ref b2)])
  obtain ⟨cq5, kq5, q5a, q5b, q5c⟩ := isOf hZ rfl A2_x4
  obtain ⟨_, _, ⟨T5, L5, k5, n5⟩, -, X5, ⟨Lc5, hQ5, l5, y5, z5⟩, st5⟩ := X4.virtualBack hx (y := (⟨"com/example/lightweave/lightweave/LinkSlots$Bits", "busyTo", "(II)I"⟩ : MethodName)) (z := (⟨"com/example/lightweave/lightweave/LinkSlots$Bits", "busyTo", "(II)I"⟩ : MethodName)) hown (mvT hZ (hw _ (own_m 63 rfl))) (mvT hZ (hw _ (own_m 64 rfl))) (notFace_of_selects (args := #[]) (mvT hZ (hw _ (own_m 66 rfl)))) (mvT hZ (hw _ (own_m 66 rfl))) (mvT hZ (hw _ (own_m 65 rfl))) (by decide) (backOf (W := 0) (own_busy l Z a0 hw [] b2 bb3 yy3 ka3 wa4 wb4 wc4 wd4 nx4 vf vf T4.heap n0 O0_x4 SA Fu3_x4 ⟨Eb4, Fw4, Fn4, Va4, Wd4⟩ (by omega) (by omega) (by omega)) hZ (hw _ (own_m 67 rfl)) (hw _ (own_m 2 rfl)) (by decide) (by decide)) q5a q5c (g := (mkF m 89 #[oI p0, oI p1, oI p2, oI vf, oI vl, oI (0 : Int32), oI vpf, oI vpl, oR b2, .unset] [(.int vf), (.int vf), (.ref b2)])) rfl (by rw [hml]; rfl) (Steps.refl _) (argsL := [(.int vf), (.int vf)]) (rest := []) (lenOf own_pd6 rfl) rfl (by show 2 * 0 + _ ≤ _; exact Nat.le_of_eq rfl) (hb hby at_89) (fun _ _ => ⟨rfl, rfl, (by decide : 3 + 0 ≤ _), (by decide : 9 + 0 ≤ _)⟩)
  dsimp only [Pt.U, Pt.locs, Pt.cells, Pt.slots] at X5 l5 y5 z5 st5 hQ5
  subst l5 y5 z5
  obtain ⟨rr5, rfl, N5q, hh5, bz5⟩ := hQ5
  have N5 := Fr.app N4 N5q
  refine own_st (fun _ => st5.trans) ?_
  show own_Rch _ _ _ _ T5 (mkF m 92 #[oI p0, oI p1, oI p2, oI vf, oI vl, oI (0 : Int32), oI vpf, oI vpl, oR b2, .unset] [(.int rr5)])
  refine own_st (fun _ => XS.iload X5.here hx rfl (hb hby at_92) rfl) ?_
  show own_Rch _ _ _ _ T5 (mkF m 94 #[oI p0, oI p1, oI p2, oI vf, oI vl, oI (0 : Int32), oI vpf, oI vpl, oR b2, .unset] [(.int vl), (.int rr5)])
  refine own_st (fun _ => XS.icmpNo X5.here hx rfl (hb hby at_94) rfl (teq ((Int32.toInt_inj.mp (own_busy_hit (by omega) (by omega) (fun j h1 h2 => (HB j).mpr (by omega)) (fun j h1 q => by have := (HB j).mp q; omega) bz5)) : rr5 = vl)).2) ?_
  show own_Rch _ _ _ _ T5 (mkF m 97 #[oI p0, oI p1, oI p2, oI vf, oI vl, oI (0 : Int32), oI vpf, oI vpl, oR b2, .unset] [])
  refine own_st (fun _ => XS.iconst X5.here hx rfl (hb hby at_97)) ?_
  show own_Rch _ _ _ _ T5 (mkF m 98 #[oI p0, oI p1, oI p2, oI vf, oI vl, oI (0 : Int32), oI vpf, oI vpl, oR b2, .unset] [(.int (1 : Int32))])
  refine own_st (fun _ => XS.goto X5.here hx rfl (pc0 := 98) (pc' := 102) rfl (hb hby at_98) (by decide) (by decide)) ?_
  show own_Rch _ _ _ _ T5 (mkF m 102 #[oI p0, oI p1, oI p2, oI vf, oI vl, oI (0 : Int32), oI vpf, oI vpl, oR b2, .unset] [(.int (1 : Int32))])
  refine own_st (fun _ => XS.istore X5.here hx rfl (hb hby at_102) rfl (l' := #[oI p0, oI p1, oI p2, oI vf, oI vl, oI (0 : Int32), oI vpf, oI vpl, oR b2, oI (1 : Int32)]) rfl) ?_
  show own_Rch _ _ _ _ T5 (mkF m 104 #[oI p0, oI p1, oI p2, oI vf, oI vl, oI (0 : Int32), oI vpf, oI vpl, oR b2, oI (1 : Int32)] [])
  refine own_st (fun _ => XS.iload X5.here hx rfl (hb hby at_104) rfl) ?_
  show own_Rch _ _ _ _ T5 (mkF m 106 #[oI p0, oI p1, oI p2, oI vf, oI vl, oI (0 : Int32), oI vpf, oI vpl, oR b2, oI (1 : Int32)] [(.int (1 : Int32))])
  refine own_st (fun _ => XS.ifNo X5.here hx rfl (hb hby at_106) rfl ((if0 _ _).trans (feq ((by decide) : ¬ ((1 : Int32) = (0 : Int32)))).1)) ?_
  show own_Rch _ _ _ _ T5 (mkF m 109 #[oI p0, oI p1, oI p2, oI vf, oI vl, oI (0 : Int32), oI vpf, oI vpl, oR b2, oI (1 : Int32)] [])
  refine own_st (fun _ => XS.aload X5.here hx rfl (hb hby at_109) rfl rfl) ?_
  show own_Rch _ _ _ _ T5 (mkF m 111 #[oI p0, oI p1, oI p2, oI vf, oI vl, oI (0 : Int32), oI vpf, oI vpl, oR b2, oI (1 : Int32)] [(.ref b2)])
  obtain ⟨cq6, kq6, q6a, q6b, q6c⟩ := isOf hZ hh5 A2_x4
  obtain ⟨_, _, ⟨T6, L6, k6, n6⟩, -, X6, ⟨Lc6, hQ6, l6, y6, z6⟩, st6⟩ := X5.virtualBack hx (y := (⟨"com/example/lightweave/lightweave/LinkSlots$Bits", "top", "()I"⟩ : MethodName)) (z := (⟨"com/example/lightweave/lightweave/LinkSlots$Bits", "top", "()I"⟩ : MethodName)) hown (mvT hZ (hw _ (own_m 93 rfl))) (mvT hZ (hw _ (own_m 94 rfl))) (notFace_of_selects (args := #[]) (mvT hZ (hw _ (own_m 96 rfl)))) (mvT hZ (hw _ (own_m 96 rfl))) (mvT hZ (hw _ (own_m 95 rfl))) (by decide) (backOf (W := 0) (own_topc l Z a0 hw [] b2 bb3 yy3 ka3 wa4 wb4 wc4 wd4 nx4 T4.heap n0 O0_x4 Fu3_x4 ⟨Eb4, Fw4, Fn4, Va4, Wd4⟩) hZ (hw _ (own_m 97 rfl)) (hw _ (own_m 2 rfl)) (by decide) (by decide)) q6a q6c (g := (mkF m 111 #[oI p0, oI p1, oI p2, oI vf, oI vl, oI (0 : Int32), oI vpf, oI vpl, oR b2, oI (1 : Int32)] [(.ref b2)])) rfl (by rw [hml]; rfl) (Steps.refl _) (argsL := []) (rest := []) (lenOf own_pd3 rfl) rfl (by show 2 * 0 + _ ≤ _; exact Nat.le_of_eq rfl) (hb hby at_111) (fun _ _ => ⟨rfl, hh5, (by decide : 3 + 0 ≤ _), (by decide : 9 + 0 ≤ _)⟩)
  dsimp only [Pt.U, Pt.locs, Pt.cells, Pt.slots] at X6 l6 y6 z6 st6 hQ6
  subst l6 y6 z6
  obtain ⟨rr6, rfl, N6q, hh6, bz6⟩ := hQ6
  have N6 := Fr.app N5 N6q
  refine own_st (fun _ => st6.trans) ?_
  show own_Rch _ _ _ _ T6 (mkF m 114 #[oI p0, oI p1, oI p2, oI vf, oI vl, oI (0 : Int32), oI vpf, oI vpl, oR b2, oI (1 : Int32)] [(.int rr6)])
  refine own_st (fun _ => XS.iload X6.here hx rfl (hb hby at_114) rfl) ?_
  show own_Rch _ _ _ _ T6 (mkF m 116 #[oI p0, oI p1, oI p2, oI vf, oI vl, oI (0 : Int32), oI vpf, oI vpl, oR b2, oI (1 : Int32)] [(.int (0 : Int32)), (.int rr6)])
  refine own_st (fun _ => XS.ifYes X6.here hx rfl (pc0 := 116) (pc' := 124) rfl (hb hby at_116) rfl ((if0 _ _).trans (teq (rfl : (0 : Int32) = (0 : Int32))).1) (by decide) (by decide)) ?_
  show own_Rch _ _ _ _ T6 (mkF m 124 #[oI p0, oI p1, oI p2, oI vf, oI vl, oI (0 : Int32), oI vpf, oI vpl, oR b2, oI (1 : Int32)] [(.int rr6)])
  refine own_st (fun _ => XS.iload X6.here hx rfl (hb hby at_124) rfl) ?_
  show own_Rch _ _ _ _ T6 (mkF m 126 #[oI p0, oI p1, oI p2, oI vf, oI vl, oI (0 : Int32), oI vpf, oI vpl, oR b2, oI (1 : Int32)] [(.int vl), (.int rr6)])
  refine own_st (fun _ => XS.icmpNo X6.here hx rfl (hb hby at_126) rfl (teq ((Int32.toInt_inj.mp (own_max_val (by omega) (fun j h1 => (HB j).mpr (by omega)) (fun j h1 q => by have := (HB j).mp q; omega) bz6)) : rr6 = vl)).2) ?_
  show own_Rch _ _ _ _ T6 (mkF m 129 #[oI p0, oI p1, oI p2, oI vf, oI vl, oI (0 : Int32), oI vpf, oI vpl, oR b2, oI (1 : Int32)] [])
  refine own_st (fun _ => XS.iconst X6.here hx rfl (hb hby at_129)) ?_
  show own_Rch _ _ _ _ T6 (mkF m 130 #[oI p0, oI p1, oI p2, oI vf, oI vl, oI (0 : Int32), oI vpf, oI vpl, oR b2, oI (1 : Int32)] [(.int (1 : Int32))])
  refine own_st (fun _ => XS.goto X6.here hx rfl (pc0 := 130) (pc' := 134) rfl (hb hby at_130) (by decide) (by decide)) ?_
  show own_Rch _ _ _ _ T6 (mkF m 134 #[oI p0, oI p1, oI p2, oI vf, oI vl, oI (0 : Int32), oI vpf, oI vpl, oR b2, oI (1 : Int32)] [(.int (1 : Int32))])
  refine own_st (fun _ => XS.istore X6.here hx rfl (hb hby at_134) rfl (l' := #[oI p0, oI p1, oI p2, oI vf, oI vl, oI (0 : Int32), oI vpf, oI vpl, oR b2, oI (1 : Int32)]) rfl) ?_
  show own_Rch _ _ _ _ T6 (mkF m 136 #[oI p0, oI p1, oI p2, oI vf, oI vl, oI (0 : Int32), oI vpf, oI vpl, oR b2, oI (1 : Int32)] [])
  refine own_st (fun _ => XS.iloadN X6.here hx rfl (hb hby at_136) rfl) ?_
  show own_Rch _ _ _ _ T6 (mkF m 137 #[oI p0, oI p1, oI p2, oI vf, oI vl, oI (0 : Int32), oI vpf, oI vpl, oR b2, oI (1 : Int32)] [(.int vf)])
  refine own_st (fun _ => XS.iconst X6.here hx rfl (hb hby at_137)) ?_
  show own_Rch _ _ _ _ T6 (mkF m 138 #[oI p0, oI p1, oI p2, oI vf, oI vl, oI (0 : Int32), oI vpf, oI vpl, oR b2, oI (1 : Int32)] [(.int (1 : Int32)), (.int vf)])
  by_cases hc138_7 : (1 : Int32) < vf
  · -- pc 138: True
   refine own_st (fun _ => XS.icmpNo X6.here hx rfl (hb hby at_138) rfl (tlt hc138_7).2.2.2) ?_
   show own_Rch _ _ _ _ T6 (mkF m 141 #[oI p0, oI p1, oI p2, oI vf, oI vl, oI (0 : Int32), oI vpf, oI vpl, oR b2, oI (1 : Int32)] [])
   refine own_st (fun _ => XS.iload X6.here hx rfl (hb hby at_141) rfl) ?_
   show own_Rch _ _ _ _ T6 (mkF m 143 #[oI p0, oI p1, oI p2, oI vf, oI vl, oI (0 : Int32), oI vpf, oI vpl, oR b2, oI (1 : Int32)] [(.int (1 : Int32))])
   refine own_st (fun _ => XS.ifNo X6.here hx rfl (hb hby at_143) rfl ((if0 _ _).trans (feq ((by decide) : ¬ ((1 : Int32) = (0 : Int32)))).1)) ?_
   show own_Rch _ _ _ _ T6 (mkF m 146 #[oI p0, oI p1, oI p2, oI vf, oI vl, oI (0 : Int32), oI vpf, oI vpl, oR b2, oI (1 : Int32)] [])
   refine own_st (fun _ => XS.aload X6.here hx rfl (hb hby at_146) rfl rfl) ?_
   show own_Rch _ _ _ _ T6 (mkF m 148 #[oI p0, oI p1, oI p2, oI vf, oI vl, oI (0 : Int32), oI vpf, oI vpl, oR b2, oI (1 : Int32)] [(.ref b2)])
   refine own_st (fun _ => XS.iconst X6.here hx rfl (hb hby at_148)) ?_
   show own_Rch _ _ _ _ T6 (mkF m 149 #[oI p0, oI p1, oI p2, oI vf, oI vl, oI (0 : Int32), oI vpf, oI vpl, oR b2, oI (1 : Int32)] [(.int (1 : Int32)), (.ref b2)])
   refine own_st (fun _ => XS.iloadN X6.here hx rfl (hb hby at_149) rfl) ?_
   show own_Rch _ _ _ _ T6 (mkF m 150 #[oI p0, oI p1, oI p2, oI vf, oI vl, oI (0 : Int32), oI vpf, oI vpl, oR b2, oI (1 : Int32)] [(.int vf), (.int (1 : Int32)), (.ref b2)])
   refine own_st (fun _ => XS.iconst X6.here hx rfl (hb hby at_150)) ?_
   show own_Rch _ _ _ _ T6 (mkF m 151 #[oI p0, oI p1, oI p2, oI vf, oI vl, oI (0 : Int32), oI vpf, oI vpl, oR b2, oI (1 : Int32)] [(.int (1 : Int32)), (.int vf), (.int (1 : Int32)), (.ref b2)])
   refine own_st (fun _ => XS.isub X6.here hx rfl (hb hby at_151) rfl) ?_
   show own_Rch _ _ _ _ T6 (mkF m 152 #[oI p0, oI p1, oI p2, oI vf, oI vl, oI (0 : Int32), oI vpf, oI vpl, oR b2, oI (1 : Int32)] [(.int (vf - (1 : Int32))), (.int (1 : Int32)), (.ref b2)])
   obtain ⟨cq8, kq8, q8a, q8b, q8c⟩ := isOf hZ hh6 A2_x4
   obtain ⟨_, _, ⟨T8, L8, k8, n8⟩, -, X8, ⟨Lc8, hQ8, l8, y8, z8⟩, st8⟩ := X6.virtualBack hx (y := (⟨"com/example/lightweave/lightweave/LinkSlots$Bits", "busyTo", "(II)I"⟩ : MethodName)) (z := (⟨"com/example/lightweave/lightweave/LinkSlots$Bits", "busyTo", "(II)I"⟩ : MethodName)) hown (mvT hZ (hw _ (own_m 63 rfl))) (mvT hZ (hw _ (own_m 64 rfl))) (notFace_of_selects (args := #[]) (mvT hZ (hw _ (own_m 66 rfl)))) (mvT hZ (hw _ (own_m 66 rfl))) (mvT hZ (hw _ (own_m 65 rfl))) (by decide) (backOf (W := 0) (own_busy l Z a0 hw [] b2 bb3 yy3 ka3 wa4 wb4 wc4 wd4 nx4 (1 : Int32) (vf - (1 : Int32)) T4.heap n0 O0_x4 SA Fu3_x4 ⟨Eb4, Fw4, Fn4, Va4, Wd4⟩ (by omega) (by omega) (by omega)) hZ (hw _ (own_m 67 rfl)) (hw _ (own_m 2 rfl)) (by decide) (by decide)) q8a q8c (g := (mkF m 152 #[oI p0, oI p1, oI p2, oI vf, oI vl, oI (0 : Int32), oI vpf, oI vpl, oR b2, oI (1 : Int32)] [(.int (vf - (1 : Int32))), (.int (1 : Int32)), (.ref b2)])) rfl (by rw [hml]; rfl) (Steps.refl _) (argsL := [(.int (1 : Int32)), (.int (vf - (1 : Int32)))]) (rest := []) (lenOf own_pd6 rfl) rfl (by show 2 * 0 + _ ≤ _; exact Nat.le_of_eq rfl) (hb hby at_152) (fun _ _ => ⟨rfl, hh6, (by decide : 3 + 0 ≤ _), (by decide : 9 + 0 ≤ _)⟩)
   dsimp only [Pt.U, Pt.locs, Pt.cells, Pt.slots] at X8 l8 y8 z8 st8 hQ8
   subst l8 y8 z8
   obtain ⟨rr8, rfl, N8q, hh8, bz8⟩ := hQ8
   have N8 := Fr.app N6 N8q
   refine own_st (fun _ => st8.trans) ?_
   show own_Rch _ _ _ _ T8 (mkF m 155 #[oI p0, oI p1, oI p2, oI vf, oI vl, oI (0 : Int32), oI vpf, oI vpl, oR b2, oI (1 : Int32)] [(.int rr8)])
   refine own_st (fun _ => XS.ifNo X8.here hx rfl (hb hby at_155) rfl ((if0 _ _).trans (teq ((Int32.toInt_inj.mp ((own_busy_none (by omega) (fun j h1 h2 q => by have := (HB j).mp q; omega) bz8).trans ci0.symm)) : rr8 = (0 : Int32))).2)) ?_
   show own_Rch _ _ _ _ T8 (mkF m 158 #[oI p0, oI p1, oI p2, oI vf, oI vl, oI (0 : Int32), oI vpf, oI vpl, oR b2, oI (1 : Int32)] [])
   refine own_st (fun _ => XS.iconst X8.here hx rfl (hb hby at_158)) ?_
   show own_Rch _ _ _ _ T8 (mkF m 159 #[oI p0, oI p1, oI p2, oI vf, oI vl, oI (0 : Int32), oI vpf, oI vpl, oR b2, oI (1 : Int32)] [(.int (1 : Int32))])
   refine own_st (fun _ => XS.goto X8.here hx rfl (pc0 := 159) (pc' := 163) rfl (hb hby at_159) (by decide) (by decide)) ?_
   show own_Rch _ _ _ _ T8 (mkF m 163 #[oI p0, oI p1, oI p2, oI vf, oI vl, oI (0 : Int32), oI vpf, oI vpl, oR b2, oI (1 : Int32)] [(.int (1 : Int32))])
   refine own_st (fun _ => XS.istore X8.here hx rfl (hb hby at_163) rfl (l' := #[oI p0, oI p1, oI p2, oI vf, oI vl, oI (0 : Int32), oI vpf, oI vpl, oR b2, oI (1 : Int32)]) rfl) ?_
   show own_Rch _ _ _ _ T8 (mkF m 165 #[oI p0, oI p1, oI p2, oI vf, oI vl, oI (0 : Int32), oI vpf, oI vpl, oR b2, oI (1 : Int32)] [])
   refine own_st (fun _ => XS.iload X8.here hx rfl (hb hby at_165) rfl) ?_
   show own_Rch _ _ _ _ T8 (mkF m 167 #[oI p0, oI p1, oI p2, oI vf, oI vl, oI (0 : Int32), oI vpf, oI vpl, oR b2, oI (1 : Int32)] [(.int (1 : Int32))])
   refine own_st (fun _ => XS.ifNo X8.here hx rfl (hb hby at_167) rfl ((if0 _ _).trans (feq ((by decide) : ¬ ((1 : Int32) = (0 : Int32)))).1)) ?_
   show own_Rch _ _ _ _ T8 (mkF m 170 #[oI p0, oI p1, oI p2, oI vf, oI vl, oI (0 : Int32), oI vpf, oI vpl, oR b2, oI (1 : Int32)] [])
   refine own_st (fun _ => XS.aload X8.here hx rfl (hb hby at_170) rfl rfl) ?_
   show own_Rch _ _ _ _ T8 (mkF m 172 #[oI p0, oI p1, oI p2, oI vf, oI vl, oI (0 : Int32), oI vpf, oI vpl, oR b2, oI (1 : Int32)] [(.ref b2)])
   refine own_st (fun _ => XS.iload X8.here hx rfl (hb hby at_172) rfl) ?_
   show own_Rch _ _ _ _ T8 (mkF m 174 #[oI p0, oI p1, oI p2, oI vf, oI vl, oI (0 : Int32), oI vpf, oI vpl, oR b2, oI (1 : Int32)] [(.int vl), (.ref b2)])
   refine own_st (fun _ => XS.iconst X8.here hx rfl (hb hby at_174)) ?_
   show own_Rch _ _ _ _ T8 (mkF m 175 #[oI p0, oI p1, oI p2, oI vf, oI vl, oI (0 : Int32), oI vpf, oI vpl, oR b2, oI (1 : Int32)] [(.int (1 : Int32)), (.int vl), (.ref b2)])
   refine own_st (fun _ => XS.iadd X8.here hx rfl (hb hby at_175) rfl) ?_
   show own_Rch _ _ _ _ T8 (mkF m 176 #[oI p0, oI p1, oI p2, oI vf, oI vl, oI (0 : Int32), oI vpf, oI vpl, oR b2, oI (1 : Int32)] [(.int (vl + (1 : Int32))), (.ref b2)])
   refine own_st (fun _ => XS.sipush X8.here hx rfl (hb hby at_176)) ?_
   show own_Rch _ _ _ _ T8 (mkF m 179 #[oI p0, oI p1, oI p2, oI vf, oI vl, oI (0 : Int32), oI vpf, oI vpl, oR b2, oI (1 : Int32)] [(.int (199 : Int32)), (.int (vl + (1 : Int32))), (.ref b2)])
   obtain ⟨cq9, kq9, q9a, q9b, q9c⟩ := isOf hZ hh8 A2_x4
   obtain ⟨_, _, ⟨T9, L9, k9, n9⟩, -, X9, ⟨Lc9, hQ9, l9, y9, z9⟩, st9⟩ := X8.virtualBack hx (y := (⟨"com/example/lightweave/lightweave/LinkSlots$Bits", "busyTo", "(II)I"⟩ : MethodName)) (z := (⟨"com/example/lightweave/lightweave/LinkSlots$Bits", "busyTo", "(II)I"⟩ : MethodName)) hown (mvT hZ (hw _ (own_m 63 rfl))) (mvT hZ (hw _ (own_m 64 rfl))) (notFace_of_selects (args := #[]) (mvT hZ (hw _ (own_m 66 rfl)))) (mvT hZ (hw _ (own_m 66 rfl))) (mvT hZ (hw _ (own_m 65 rfl))) (by decide) (backOf (W := 0) (own_busy l Z a0 hw [] b2 bb3 yy3 ka3 wa4 wb4 wc4 wd4 nx4 (vl + (1 : Int32)) (199 : Int32) T4.heap n0 O0_x4 SA Fu3_x4 ⟨Eb4, Fw4, Fn4, Va4, Wd4⟩ (by omega) (by omega) (by omega)) hZ (hw _ (own_m 67 rfl)) (hw _ (own_m 2 rfl)) (by decide) (by decide)) q9a q9c (g := (mkF m 179 #[oI p0, oI p1, oI p2, oI vf, oI vl, oI (0 : Int32), oI vpf, oI vpl, oR b2, oI (1 : Int32)] [(.int (199 : Int32)), (.int (vl + (1 : Int32))), (.ref b2)])) rfl (by rw [hml]; rfl) (Steps.refl _) (argsL := [(.int (vl + (1 : Int32))), (.int (199 : Int32))]) (rest := []) (lenOf own_pd6 rfl) rfl (by show 2 * 0 + _ ≤ _; exact Nat.le_of_eq rfl) (hb hby at_179) (fun _ _ => ⟨rfl, hh8, (by decide : 3 + 0 ≤ _), (by decide : 9 + 0 ≤ _)⟩)
   dsimp only [Pt.U, Pt.locs, Pt.cells, Pt.slots] at X9 l9 y9 z9 st9 hQ9
   subst l9 y9 z9
   obtain ⟨rr9, rfl, N9q, hh9, bz9⟩ := hQ9
   have N9 := Fr.app N8 N9q
   refine own_st (fun _ => st9.trans) ?_
   show own_Rch _ _ _ _ T9 (mkF m 182 #[oI p0, oI p1, oI p2, oI vf, oI vl, oI (0 : Int32), oI vpf, oI vpl, oR b2, oI (1 : Int32)] [(.int rr9)])
   refine own_st (fun _ => XS.ifNo X9.here hx rfl (hb hby at_182) rfl ((if0 _ _).trans (teq ((Int32.toInt_inj.mp ((own_busy_none (by omega) (fun j h1 h2 q => by have := (HB j).mp q; omega) bz9).trans ci0.symm)) : rr9 = (0 : Int32))).2)) ?_
   show own_Rch _ _ _ _ T9 (mkF m 185 #[oI p0, oI p1, oI p2, oI vf, oI vl, oI (0 : Int32), oI vpf, oI vpl, oR b2, oI (1 : Int32)] [])
   refine own_st (fun _ => XS.iconst X9.here hx rfl (hb hby at_185)) ?_
   show own_Rch _ _ _ _ T9 (mkF m 186 #[oI p0, oI p1, oI p2, oI vf, oI vl, oI (0 : Int32), oI vpf, oI vpl, oR b2, oI (1 : Int32)] [(.int (1 : Int32))])
   refine own_st (fun _ => XS.goto X9.here hx rfl (pc0 := 186) (pc' := 190) rfl (hb hby at_186) (by decide) (by decide)) ?_
   show own_Rch _ _ _ _ T9 (mkF m 190 #[oI p0, oI p1, oI p2, oI vf, oI vl, oI (0 : Int32), oI vpf, oI vpl, oR b2, oI (1 : Int32)] [(.int (1 : Int32))])
   refine own_st (fun _ => XS.istore X9.here hx rfl (hb hby at_190) rfl (l' := #[oI p0, oI p1, oI p2, oI vf, oI vl, oI (0 : Int32), oI vpf, oI vpl, oR b2, oI (1 : Int32)]) rfl) ?_
   show own_Rch _ _ _ _ T9 (mkF m 192 #[oI p0, oI p1, oI p2, oI vf, oI vl, oI (0 : Int32), oI vpf, oI vpl, oR b2, oI (1 : Int32)] [])
   refine own_st (fun _ => XS.iload X9.here hx rfl (hb hby at_192) rfl) ?_
   show own_Rch _ _ _ _ T9 (mkF m 194 #[oI p0, oI p1, oI p2, oI vf, oI vl, oI (0 : Int32), oI vpf, oI vpl, oR b2, oI (1 : Int32)] [(.int (0 : Int32))])
   refine own_st (fun _ => XS.ifYes X9.here hx rfl (pc0 := 194) (pc' := 223) rfl (hb hby at_194) rfl ((if0 _ _).trans (teq (rfl : (0 : Int32) = (0 : Int32))).1) (by decide) (by decide)) ?_
   show own_Rch _ _ _ _ T9 (mkF m 223 #[oI p0, oI p1, oI p2, oI vf, oI vl, oI (0 : Int32), oI vpf, oI vpl, oR b2, oI (1 : Int32)] [])
   refine own_st (fun _ => XS.iload X9.here hx rfl (hb hby at_223) rfl) ?_
   show own_Rch _ _ _ _ T9 (mkF m 225 #[oI p0, oI p1, oI p2, oI vf, oI vl, oI (0 : Int32), oI vpf, oI vpl, oR b2, oI (1 : Int32)] [(.int (1 : Int32))])
   refine own_retN (t := .boolean) (by simp) X9 hx Bd.notSynchronized Bd.returns (hb hby at_225) (by decide) (by decide) ?_
   rw [hh9]
   exact ⟨rfl, N9⟩
  · -- pc 138: False
   refine own_st (fun _ => XS.icmpYes X6.here hx rfl (pc0 := 138) (pc' := 165) rfl (hb hby at_138) rfl (flt hc138_7).2.2.2 (by decide) (by decide)) ?_
   show own_Rch _ _ _ _ T6 (mkF m 165 #[oI p0, oI p1, oI p2, oI vf, oI vl, oI (0 : Int32), oI vpf, oI vpl, oR b2, oI (1 : Int32)] [])
   refine own_st (fun _ => XS.iload X6.here hx rfl (hb hby at_165) rfl) ?_
   show own_Rch _ _ _ _ T6 (mkF m 167 #[oI p0, oI p1, oI p2, oI vf, oI vl, oI (0 : Int32), oI vpf, oI vpl, oR b2, oI (1 : Int32)] [(.int (1 : Int32))])
   refine own_st (fun _ => XS.ifNo X6.here hx rfl (hb hby at_167) rfl ((if0 _ _).trans (feq ((by decide) : ¬ ((1 : Int32) = (0 : Int32)))).1)) ?_
   show own_Rch _ _ _ _ T6 (mkF m 170 #[oI p0, oI p1, oI p2, oI vf, oI vl, oI (0 : Int32), oI vpf, oI vpl, oR b2, oI (1 : Int32)] [])
   refine own_st (fun _ => XS.aload X6.here hx rfl (hb hby at_170) rfl rfl) ?_
   show own_Rch _ _ _ _ T6 (mkF m 172 #[oI p0, oI p1, oI p2, oI vf, oI vl, oI (0 : Int32), oI vpf, oI vpl, oR b2, oI (1 : Int32)] [(.ref b2)])
   refine own_st (fun _ => XS.iload X6.here hx rfl (hb hby at_172) rfl) ?_
   show own_Rch _ _ _ _ T6 (mkF m 174 #[oI p0, oI p1, oI p2, oI vf, oI vl, oI (0 : Int32), oI vpf, oI vpl, oR b2, oI (1 : Int32)] [(.int vl), (.ref b2)])
   refine own_st (fun _ => XS.iconst X6.here hx rfl (hb hby at_174)) ?_
   show own_Rch _ _ _ _ T6 (mkF m 175 #[oI p0, oI p1, oI p2, oI vf, oI vl, oI (0 : Int32), oI vpf, oI vpl, oR b2, oI (1 : Int32)] [(.int (1 : Int32)), (.int vl), (.ref b2)])
   refine own_st (fun _ => XS.iadd X6.here hx rfl (hb hby at_175) rfl) ?_
   show own_Rch _ _ _ _ T6 (mkF m 176 #[oI p0, oI p1, oI p2, oI vf, oI vl, oI (0 : Int32), oI vpf, oI vpl, oR b2, oI (1 : Int32)] [(.int (vl + (1 : Int32))), (.ref b2)])
   refine own_st (fun _ => XS.sipush X6.here hx rfl (hb hby at_176)) ?_
   show own_Rch _ _ _ _ T6 (mkF m 179 #[oI p0, oI p1, oI p2, oI vf, oI vl, oI (0 : Int32), oI vpf, oI vpl, oR b2, oI (1 : Int32)] [(.int (199 : Int32)), (.int (vl + (1 : Int32))), (.ref b2)])
   obtain ⟨cq10, kq10, q10a, q10b, q10c⟩ := isOf hZ hh6 A2_x4
   obtain ⟨_, _, ⟨T10, L10, k10, n10⟩, -, X10, ⟨Lc10, hQ10, l10, y10, z10⟩, st10⟩ := X6.virtualBack hx (y := (⟨"com/example/lightweave/lightweave/LinkSlots$Bits", "busyTo", "(II)I"⟩ : MethodName)) (z := (⟨"com/example/lightweave/lightweave/LinkSlots$Bits", "busyTo", "(II)I"⟩ : MethodName)) hown (mvT hZ (hw _ (own_m 63 rfl))) (mvT hZ (hw _ (own_m 64 rfl))) (notFace_of_selects (args := #[]) (mvT hZ (hw _ (own_m 66 rfl)))) (mvT hZ (hw _ (own_m 66 rfl))) (mvT hZ (hw _ (own_m 65 rfl))) (by decide) (backOf (W := 0) (own_busy l Z a0 hw [] b2 bb3 yy3 ka3 wa4 wb4 wc4 wd4 nx4 (vl + (1 : Int32)) (199 : Int32) T4.heap n0 O0_x4 SA Fu3_x4 ⟨Eb4, Fw4, Fn4, Va4, Wd4⟩ (by omega) (by omega) (by omega)) hZ (hw _ (own_m 67 rfl)) (hw _ (own_m 2 rfl)) (by decide) (by decide)) q10a q10c (g := (mkF m 179 #[oI p0, oI p1, oI p2, oI vf, oI vl, oI (0 : Int32), oI vpf, oI vpl, oR b2, oI (1 : Int32)] [(.int (199 : Int32)), (.int (vl + (1 : Int32))), (.ref b2)])) rfl (by rw [hml]; rfl) (Steps.refl _) (argsL := [(.int (vl + (1 : Int32))), (.int (199 : Int32))]) (rest := []) (lenOf own_pd6 rfl) rfl (by show 2 * 0 + _ ≤ _; exact Nat.le_of_eq rfl) (hb hby at_179) (fun _ _ => ⟨rfl, hh6, (by decide : 3 + 0 ≤ _), (by decide : 9 + 0 ≤ _)⟩)
   dsimp only [Pt.U, Pt.locs, Pt.cells, Pt.slots] at X10 l10 y10 z10 st10 hQ10
   subst l10 y10 z10
   obtain ⟨rr10, rfl, N10q, hh10, bz10⟩ := hQ10
   have N10 := Fr.app N6 N10q
   refine own_st (fun _ => st10.trans) ?_
   show own_Rch _ _ _ _ T10 (mkF m 182 #[oI p0, oI p1, oI p2, oI vf, oI vl, oI (0 : Int32), oI vpf, oI vpl, oR b2, oI (1 : Int32)] [(.int rr10)])
   refine own_st (fun _ => XS.ifNo X10.here hx rfl (hb hby at_182) rfl ((if0 _ _).trans (teq ((Int32.toInt_inj.mp ((own_busy_none (by omega) (fun j h1 h2 q => by have := (HB j).mp q; omega) bz10).trans ci0.symm)) : rr10 = (0 : Int32))).2)) ?_
   show own_Rch _ _ _ _ T10 (mkF m 185 #[oI p0, oI p1, oI p2, oI vf, oI vl, oI (0 : Int32), oI vpf, oI vpl, oR b2, oI (1 : Int32)] [])
   refine own_st (fun _ => XS.iconst X10.here hx rfl (hb hby at_185)) ?_
   show own_Rch _ _ _ _ T10 (mkF m 186 #[oI p0, oI p1, oI p2, oI vf, oI vl, oI (0 : Int32), oI vpf, oI vpl, oR b2, oI (1 : Int32)] [(.int (1 : Int32))])
   refine own_st (fun _ => XS.goto X10.here hx rfl (pc0 := 186) (pc' := 190) rfl (hb hby at_186) (by decide) (by decide)) ?_
   show own_Rch _ _ _ _ T10 (mkF m 190 #[oI p0, oI p1, oI p2, oI vf, oI vl, oI (0 : Int32), oI vpf, oI vpl, oR b2, oI (1 : Int32)] [(.int (1 : Int32))])
   refine own_st (fun _ => XS.istore X10.here hx rfl (hb hby at_190) rfl (l' := #[oI p0, oI p1, oI p2, oI vf, oI vl, oI (0 : Int32), oI vpf, oI vpl, oR b2, oI (1 : Int32)]) rfl) ?_
   show own_Rch _ _ _ _ T10 (mkF m 192 #[oI p0, oI p1, oI p2, oI vf, oI vl, oI (0 : Int32), oI vpf, oI vpl, oR b2, oI (1 : Int32)] [])
   refine own_st (fun _ => XS.iload X10.here hx rfl (hb hby at_192) rfl) ?_
   show own_Rch _ _ _ _ T10 (mkF m 194 #[oI p0, oI p1, oI p2, oI vf, oI vl, oI (0 : Int32), oI vpf, oI vpl, oR b2, oI (1 : Int32)] [(.int (0 : Int32))])
   refine own_st (fun _ => XS.ifYes X10.here hx rfl (pc0 := 194) (pc' := 223) rfl (hb hby at_194) rfl ((if0 _ _).trans (teq (rfl : (0 : Int32) = (0 : Int32))).1) (by decide) (by decide)) ?_
   show own_Rch _ _ _ _ T10 (mkF m 223 #[oI p0, oI p1, oI p2, oI vf, oI vl, oI (0 : Int32), oI vpf, oI vpl, oR b2, oI (1 : Int32)] [])
   refine own_st (fun _ => XS.iload X10.here hx rfl (hb hby at_223) rfl) ?_
   show own_Rch _ _ _ _ T10 (mkF m 225 #[oI p0, oI p1, oI p2, oI vf, oI vl, oI (0 : Int32), oI vpf, oI vpl, oR b2, oI (1 : Int32)] [(.int (1 : Int32))])
   refine own_retN (t := .boolean) (by simp) X10 hx Bd.notSynchronized Bd.returns (hb hby at_225) (by decide) (by decide) ?_
   rw [hh10]
   exact ⟨rfl, N10⟩
 · -- pc 18: False
  refine own_st (fun _ => XS.ifNo X0.here hx rfl (hb hby at_18) rfl ((if0 _ _).trans (feq hc18_1).1)) ?_
  show own_Rch _ _ _ _ s₁ (mkF m 21 #[oI p0, oI p1, oI p2, oI ((1 : Int32) + (p0 &&& (127 : Int32))), oI (((1 : Int32) + (p0 &&& (127 : Int32))) + (p1 &&& (63 : Int32))), .unset, .unset, .unset, .unset, .unset] [])
  refine own_st (fun _ => XS.iconst X0.here hx rfl (hb hby at_21)) ?_
  show own_Rch _ _ _ _ s₁ (mkF m 22 #[oI p0, oI p1, oI p2, oI ((1 : Int32) + (p0 &&& (127 : Int32))), oI (((1 : Int32) + (p0 &&& (127 : Int32))) + (p1 &&& (63 : Int32))), .unset, .unset, .unset, .unset, .unset] [(.int (1 : Int32))])
  refine own_st (fun _ => XS.goto X0.here hx rfl (pc0 := 22) (pc' := 26) rfl (hb hby at_22) (by decide) (by decide)) ?_
  show own_Rch _ _ _ _ s₁ (mkF m 26 #[oI p0, oI p1, oI p2, oI ((1 : Int32) + (p0 &&& (127 : Int32))), oI (((1 : Int32) + (p0 &&& (127 : Int32))) + (p1 &&& (63 : Int32))), .unset, .unset, .unset, .unset, .unset] [(.int (1 : Int32))])
  refine own_st (fun _ => XS.istore X0.here hx rfl (hb hby at_26) rfl (l' := #[oI p0, oI p1, oI p2, oI ((1 : Int32) + (p0 &&& (127 : Int32))), oI (((1 : Int32) + (p0 &&& (127 : Int32))) + (p1 &&& (63 : Int32))), oI (1 : Int32), .unset, .unset, .unset, .unset]) rfl) ?_
  show own_Rch _ _ _ _ s₁ (mkF m 28 #[oI p0, oI p1, oI p2, oI ((1 : Int32) + (p0 &&& (127 : Int32))), oI (((1 : Int32) + (p0 &&& (127 : Int32))) + (p1 &&& (63 : Int32))), oI (1 : Int32), .unset, .unset, .unset, .unset] [])
  refine own_st (fun _ => XS.sipush X0.here hx rfl (hb hby at_28)) ?_
  show own_Rch _ _ _ _ s₁ (mkF m 31 #[oI p0, oI p1, oI p2, oI ((1 : Int32) + (p0 &&& (127 : Int32))), oI (((1 : Int32) + (p0 &&& (127 : Int32))) + (p1 &&& (63 : Int32))), oI (1 : Int32), .unset, .unset, .unset, .unset] [(.int (200 : Int32))])
  refine own_st (fun _ => XS.iloadN X0.here hx rfl (hb hby at_31) rfl) ?_
  show own_Rch _ _ _ _ s₁ (mkF m 32 #[oI p0, oI p1, oI p2, oI ((1 : Int32) + (p0 &&& (127 : Int32))), oI (((1 : Int32) + (p0 &&& (127 : Int32))) + (p1 &&& (63 : Int32))), oI (1 : Int32), .unset, .unset, .unset, .unset] [(.int p2), (.int (200 : Int32))])
  refine own_st (fun _ => XS.iconst X0.here hx rfl (hb hby at_32)) ?_
  show own_Rch _ _ _ _ s₁ (mkF m 33 #[oI p0, oI p1, oI p2, oI ((1 : Int32) + (p0 &&& (127 : Int32))), oI (((1 : Int32) + (p0 &&& (127 : Int32))) + (p1 &&& (63 : Int32))), oI (1 : Int32), .unset, .unset, .unset, .unset] [(.int (1 : Int32)), (.int p2), (.int (200 : Int32))])
  refine own_st (fun _ => XS.iushr X0.here hx rfl (hb hby at_33) rfl) ?_
  show own_Rch _ _ _ _ s₁ (mkF m 34 #[oI p0, oI p1, oI p2, oI ((1 : Int32) + (p0 &&& (127 : Int32))), oI (((1 : Int32) + (p0 &&& (127 : Int32))) + (p1 &&& (63 : Int32))), oI (1 : Int32), .unset, .unset, .unset, .unset] [(.int ((p2.toUInt32 >>> ((1 : Int32) &&& 31).toUInt32).toInt32)), (.int (200 : Int32))])
  refine own_st (fun _ => XS.bipush X0.here hx rfl (hb hby at_34)) ?_
  show own_Rch _ _ _ _ s₁ (mkF m 36 #[oI p0, oI p1, oI p2, oI ((1 : Int32) + (p0 &&& (127 : Int32))), oI (((1 : Int32) + (p0 &&& (127 : Int32))) + (p1 &&& (63 : Int32))), oI (1 : Int32), .unset, .unset, .unset, .unset] [(.int (15 : Int32)), (.int ((p2.toUInt32 >>> ((1 : Int32) &&& 31).toUInt32).toInt32)), (.int (200 : Int32))])
  refine own_st (fun _ => XS.iand X0.here hx rfl (hb hby at_36) rfl) ?_
  show own_Rch _ _ _ _ s₁ (mkF m 37 #[oI p0, oI p1, oI p2, oI ((1 : Int32) + (p0 &&& (127 : Int32))), oI (((1 : Int32) + (p0 &&& (127 : Int32))) + (p1 &&& (63 : Int32))), oI (1 : Int32), .unset, .unset, .unset, .unset] [(.int (((p2.toUInt32 >>> ((1 : Int32) &&& 31).toUInt32).toInt32) &&& (15 : Int32))), (.int (200 : Int32))])
  refine own_st (fun _ => XS.iadd X0.here hx rfl (hb hby at_37) rfl) ?_
  show own_Rch _ _ _ _ s₁ (mkF m 38 #[oI p0, oI p1, oI p2, oI ((1 : Int32) + (p0 &&& (127 : Int32))), oI (((1 : Int32) + (p0 &&& (127 : Int32))) + (p1 &&& (63 : Int32))), oI (1 : Int32), .unset, .unset, .unset, .unset] [(.int ((200 : Int32) + (((p2.toUInt32 >>> ((1 : Int32) &&& 31).toUInt32).toInt32) &&& (15 : Int32))))])
  refine own_st (fun _ => XS.istore X0.here hx rfl (hb hby at_38) rfl (l' := #[oI p0, oI p1, oI p2, oI ((1 : Int32) + (p0 &&& (127 : Int32))), oI (((1 : Int32) + (p0 &&& (127 : Int32))) + (p1 &&& (63 : Int32))), oI (1 : Int32), oI ((200 : Int32) + (((p2.toUInt32 >>> ((1 : Int32) &&& 31).toUInt32).toInt32) &&& (15 : Int32))), .unset, .unset, .unset]) rfl) ?_
  show own_Rch _ _ _ _ s₁ (mkF m 40 #[oI p0, oI p1, oI p2, oI ((1 : Int32) + (p0 &&& (127 : Int32))), oI (((1 : Int32) + (p0 &&& (127 : Int32))) + (p1 &&& (63 : Int32))), oI (1 : Int32), oI ((200 : Int32) + (((p2.toUInt32 >>> ((1 : Int32) &&& 31).toUInt32).toInt32) &&& (15 : Int32))), .unset, .unset, .unset] [])
  refine own_st (fun _ => XS.iload X0.here hx rfl (hb hby at_40) rfl) ?_
  show own_Rch _ _ _ _ s₁ (mkF m 42 #[oI p0, oI p1, oI p2, oI ((1 : Int32) + (p0 &&& (127 : Int32))), oI (((1 : Int32) + (p0 &&& (127 : Int32))) + (p1 &&& (63 : Int32))), oI (1 : Int32), oI ((200 : Int32) + (((p2.toUInt32 >>> ((1 : Int32) &&& 31).toUInt32).toInt32) &&& (15 : Int32))), .unset, .unset, .unset] [(.int ((200 : Int32) + (((p2.toUInt32 >>> ((1 : Int32) &&& 31).toUInt32).toInt32) &&& (15 : Int32))))])
  refine own_st (fun _ => XS.iloadN X0.here hx rfl (hb hby at_42) rfl) ?_
  show own_Rch _ _ _ _ s₁ (mkF m 43 #[oI p0, oI p1, oI p2, oI ((1 : Int32) + (p0 &&& (127 : Int32))), oI (((1 : Int32) + (p0 &&& (127 : Int32))) + (p1 &&& (63 : Int32))), oI (1 : Int32), oI ((200 : Int32) + (((p2.toUInt32 >>> ((1 : Int32) &&& 31).toUInt32).toInt32) &&& (15 : Int32))), .unset, .unset, .unset] [(.int p2), (.int ((200 : Int32) + (((p2.toUInt32 >>> ((1 : Int32) &&& 31).toUInt32).toInt32) &&& (15 : Int32))))])
  refine own_st (fun _ => XS.iconst X0.here hx rfl (hb hby at_43)) ?_
  show own_Rch _ _ _ _ s₁ (mkF m 44 #[oI p0, oI p1, oI p2, oI ((1 : Int32) + (p0 &&& (127 : Int32))), oI (((1 : Int32) + (p0 &&& (127 : Int32))) + (p1 &&& (63 : Int32))), oI (1 : Int32), oI ((200 : Int32) + (((p2.toUInt32 >>> ((1 : Int32) &&& 31).toUInt32).toInt32) &&& (15 : Int32))), .unset, .unset, .unset] [(.int (5 : Int32)), (.int p2), (.int ((200 : Int32) + (((p2.toUInt32 >>> ((1 : Int32) &&& 31).toUInt32).toInt32) &&& (15 : Int32))))])
  refine own_st (fun _ => XS.iushr X0.here hx rfl (hb hby at_44) rfl) ?_
  show own_Rch _ _ _ _ s₁ (mkF m 45 #[oI p0, oI p1, oI p2, oI ((1 : Int32) + (p0 &&& (127 : Int32))), oI (((1 : Int32) + (p0 &&& (127 : Int32))) + (p1 &&& (63 : Int32))), oI (1 : Int32), oI ((200 : Int32) + (((p2.toUInt32 >>> ((1 : Int32) &&& 31).toUInt32).toInt32) &&& (15 : Int32))), .unset, .unset, .unset] [(.int ((p2.toUInt32 >>> ((5 : Int32) &&& 31).toUInt32).toInt32)), (.int ((200 : Int32) + (((p2.toUInt32 >>> ((1 : Int32) &&& 31).toUInt32).toInt32) &&& (15 : Int32))))])
  refine own_st (fun _ => XS.bipush X0.here hx rfl (hb hby at_45)) ?_
  show own_Rch _ _ _ _ s₁ (mkF m 47 #[oI p0, oI p1, oI p2, oI ((1 : Int32) + (p0 &&& (127 : Int32))), oI (((1 : Int32) + (p0 &&& (127 : Int32))) + (p1 &&& (63 : Int32))), oI (1 : Int32), oI ((200 : Int32) + (((p2.toUInt32 >>> ((1 : Int32) &&& 31).toUInt32).toInt32) &&& (15 : Int32))), .unset, .unset, .unset] [(.int (31 : Int32)), (.int ((p2.toUInt32 >>> ((5 : Int32) &&& 31).toUInt32).toInt32)), (.int ((200 : Int32) + (((p2.toUInt32 >>> ((1 : Int32) &&& 31).toUInt32).toInt32) &&& (15 : Int32))))])
  refine own_st (fun _ => XS.iand X0.here hx rfl (hb hby at_47) rfl) ?_
  show own_Rch _ _ _ _ s₁ (mkF m 48 #[oI p0, oI p1, oI p2, oI ((1 : Int32) + (p0 &&& (127 : Int32))), oI (((1 : Int32) + (p0 &&& (127 : Int32))) + (p1 &&& (63 : Int32))), oI (1 : Int32), oI ((200 : Int32) + (((p2.toUInt32 >>> ((1 : Int32) &&& 31).toUInt32).toInt32) &&& (15 : Int32))), .unset, .unset, .unset] [(.int (((p2.toUInt32 >>> ((5 : Int32) &&& 31).toUInt32).toInt32) &&& (31 : Int32))), (.int ((200 : Int32) + (((p2.toUInt32 >>> ((1 : Int32) &&& 31).toUInt32).toInt32) &&& (15 : Int32))))])
  refine own_st (fun _ => XS.iadd X0.here hx rfl (hb hby at_48) rfl) ?_
  show own_Rch _ _ _ _ s₁ (mkF m 49 #[oI p0, oI p1, oI p2, oI ((1 : Int32) + (p0 &&& (127 : Int32))), oI (((1 : Int32) + (p0 &&& (127 : Int32))) + (p1 &&& (63 : Int32))), oI (1 : Int32), oI ((200 : Int32) + (((p2.toUInt32 >>> ((1 : Int32) &&& 31).toUInt32).toInt32) &&& (15 : Int32))), .unset, .unset, .unset] [(.int (((200 : Int32) + (((p2.toUInt32 >>> ((1 : Int32) &&& 31).toUInt32).toInt32) &&& (15 : Int32))) + (((p2.toUInt32 >>> ((5 : Int32) &&& 31).toUInt32).toInt32) &&& (31 : Int32))))])
  refine own_st (fun _ => XS.istore X0.here hx rfl (hb hby at_49) rfl (l' := #[oI p0, oI p1, oI p2, oI ((1 : Int32) + (p0 &&& (127 : Int32))), oI (((1 : Int32) + (p0 &&& (127 : Int32))) + (p1 &&& (63 : Int32))), oI (1 : Int32), oI ((200 : Int32) + (((p2.toUInt32 >>> ((1 : Int32) &&& 31).toUInt32).toInt32) &&& (15 : Int32))), oI (((200 : Int32) + (((p2.toUInt32 >>> ((1 : Int32) &&& 31).toUInt32).toInt32) &&& (15 : Int32))) + (((p2.toUInt32 >>> ((5 : Int32) &&& 31).toUInt32).toInt32) &&& (31 : Int32))), .unset, .unset]) rfl) ?_
  show own_Rch _ _ _ _ s₁ (mkF m 51 #[oI p0, oI p1, oI p2, oI ((1 : Int32) + (p0 &&& (127 : Int32))), oI (((1 : Int32) + (p0 &&& (127 : Int32))) + (p1 &&& (63 : Int32))), oI (1 : Int32), oI ((200 : Int32) + (((p2.toUInt32 >>> ((1 : Int32) &&& 31).toUInt32).toInt32) &&& (15 : Int32))), oI (((200 : Int32) + (((p2.toUInt32 >>> ((1 : Int32) &&& 31).toUInt32).toInt32) &&& (15 : Int32))) + (((p2.toUInt32 >>> ((5 : Int32) &&& 31).toUInt32).toInt32) &&& (31 : Int32))), .unset, .unset] [])
  have bf := own_rf p0
  generalize ((1 : Int32) + (p0 &&& (127 : Int32))) = vf at bf ⊢
  have bl := own_rl vf p1 (63 : Int32) (show _ = (63 : Int) by decide) (by decide) (by decide) (by omega) (by omega)
  generalize (vf + (p1 &&& (63 : Int32))) = vl at bl ⊢
  have bpf := own_rl (200 : Int32) ((p2.toUInt32 >>> ((1 : Int32) &&& 31).toUInt32).toInt32) (15 : Int32) (show _ = (15 : Int) by decide) (by decide) (by decide) (by decide) (by decide)
  rw [show (200 : Int32).toInt = 200 by decide] at bpf
  generalize ((200 : Int32) + (((p2.toUInt32 >>> ((1 : Int32) &&& 31).toUInt32).toInt32) &&& (15 : Int32))) = vpf at bpf ⊢
  have bpl := own_rl vpf ((p2.toUInt32 >>> ((5 : Int32) &&& 31).toUInt32).toInt32) (31 : Int32) (show _ = (31 : Int) by decide) (by decide) (by decide) (by omega) (by omega)
  generalize (vpf + (((p2.toUInt32 >>> ((5 : Int32) &&& 31).toUInt32).toInt32) &&& (31 : Int32))) = vpl at bpl ⊢
  have el1 : (vl + (1 : Int32)).toInt = vl.toInt + 1 := own_sm rfl (by decide) (by omega) (by omega)
  have epl1 : (vpl + (1 : Int32)).toInt = vpl.toInt + 1 := own_sm rfl (by decide) (by omega) (by omega)
  have ef1 : (vf - (1 : Int32)).toInt = vf.toInt - 1 := own_sb rfl (by decide) (by omega) (by omega)
  have c199 : (199 : Int32).toInt = 199 := by decide
  show own_Rch _ _ _ _ s₁ (mkF m 51 #[oI p0, oI p1, oI p2, oI vf, oI vl, oI (1 : Int32), oI vpf, oI vpl, .unset, .unset] [])
  obtain ⟨T11, h11, X11, e11, E11, A11, D11, U11, st11⟩ := newO X0 hx hZ hown (hw _ (own_m 0 rfl)) (hw _ (own_m 1 rfl)) (hw _ (own_m 2 rfl)) e0 (g := (mkF m 51 #[oI p0, oI p1, oI p2, oI vf, oI vl, oI (1 : Int32), oI vpf, oI vpl, .unset, .unset] [])) rfl (hb hby at_51) (by decide) (by decide)
  obtain ⟨b11, g11⟩ : ∃ z, z = h0.size := ⟨_, rfl⟩
  rw [← g11] at A11 D11 U11 st11
  have ge11 : n0 ≤ b11 := by rw [g11]; exact own_old_le O0
  have O0_x11 := O0.ext E11
  refine own_st st11 ?_
  have F11_used : Fld Z h11 b11 "com/example/lightweave/lightweave/LinkSlots$Bits" "used" "Ljava/util/BitSet;" .null := D11 (Or.inr (hw _ (own_m 32 rfl))) (ty := (.object "java/util/BitSet")) (by decide)
  show own_Rch _ _ _ _ T11 (mkF m 54 #[oI p0, oI p1, oI p2, oI vf, oI vl, oI (1 : Int32), oI vpf, oI vpl, .unset, .unset] [(.ref b11)])
  refine own_st (fun _ => XS.dup X11.here hx rfl (hb hby at_54) rfl rfl) ?_
  show own_Rch _ _ _ _ T11 (mkF m 55 #[oI p0, oI p1, oI p2, oI vf, oI vl, oI (1 : Int32), oI vpf, oI vpl, .unset, .unset] [(.ref b11), (.ref b11)])
  refine own_st (fun _ => XS.sipush X11.here hx rfl (hb hby at_55)) ?_
  show own_Rch _ _ _ _ T11 (mkF m 58 #[oI p0, oI p1, oI p2, oI vf, oI vl, oI (1 : Int32), oI vpf, oI vpl, .unset, .unset] [(.int (256 : Int32)), (.ref b11), (.ref b11)])
  obtain ⟨_, _, ⟨T12, L12, k12, n12⟩, -, X12, ⟨Lc12, hQ12, l12, y12, z12⟩, st12⟩ := X11.specialBack hx (y := (⟨"com/example/lightweave/lightweave/LinkSlots$Bits", "<init>", "(I)V"⟩ : MethodName)) rfl hown (mvT hZ (hw _ (own_m 3 rfl))) (mvT hZ (hw _ (own_m 4 rfl))) (mvT hZ (hw _ (own_m 5 rfl))) (by decide) (backOf (W := 1) (own_bti l Z a0 hw [] b11 h11 n0 O0_x11 A11 F11_used ge11) hZ (hw _ (own_m 5 rfl)) (hw _ (own_m 2 rfl)) (by decide) (by decide)) (g := (mkF m 58 #[oI p0, oI p1, oI p2, oI vf, oI vl, oI (1 : Int32), oI vpf, oI vpl, .unset, .unset] [(.int (256 : Int32)), (.ref b11), (.ref b11)])) rfl (by rw [hml]; rfl) (Steps.refl _) (a := b11) (argsL := [(.int (256 : Int32))]) (rest := [(.ref b11)]) (lenOf own_pd4 rfl) rfl (by show 2 * 0 + _ ≤ _; exact Nat.le_of_eq rfl) (hb hby at_58) (fun _ _ => ⟨rfl, e11, (by decide : 1 + 2 ≤ _), (by decide : 1 + 8 ≤ _)⟩)
  dsimp only [Pt.U, Pt.locs, Pt.cells, Pt.slots] at X12 l12 y12 z12 st12 hQ12
  subst l12 y12 z12
  obtain ⟨rfl, N12q, K12, bb12, yy12, ka12, Fu12, ⟨Eb12, Fw12, Fn12, Va12, Wd12⟩, hb12, hy12⟩ := hQ12
  have N12 := Fr.app N0 N12q
  refine own_st (fun _ => st12.trans) ?_
  have ne12_b11_bb12 : b11 ≠ bb12 := Nat.ne_of_lt (Nat.lt_of_lt_of_le F11_used.lt hb12)
  have ge12_bb12 : n0 ≤ bb12 := Nat.le_trans (own_old_le O0_x11) hb12
  have ne12_b11_yy12 : b11 ≠ yy12 := Nat.ne_of_lt (Nat.lt_of_lt_of_le F11_used.lt hy12)
  have ge12_yy12 : n0 ≤ yy12 := Nat.le_trans (own_old_le O0_x11) hy12
  have O0_x12 := O0_x11.keep K12 (allS ge11 all0)
  have A11_x12 := A11.keep K12
  show own_Rch _ _ _ _ T12 (mkF m 61 #[oI p0, oI p1, oI p2, oI vf, oI vl, oI (1 : Int32), oI vpf, oI vpl, .unset, .unset] [(.ref b11)])
  refine own_st (fun _ => XS.astore X12.here hx rfl (hb hby at_61) rfl rfl (l' := #[oI p0, oI p1, oI p2, oI vf, oI vl, oI (1 : Int32), oI vpf, oI vpl, oR b11, .unset]) rfl) ?_
  show own_Rch _ _ _ _ T12 (mkF m 63 #[oI p0, oI p1, oI p2, oI vf, oI vl, oI (1 : Int32), oI vpf, oI vpl, oR b11, .unset] [])
  refine own_st (fun _ => XS.iload X12.here hx rfl (hb hby at_63) rfl) ?_
  show own_Rch _ _ _ _ T12 (mkF m 65 #[oI p0, oI p1, oI p2, oI vf, oI vl, oI (1 : Int32), oI vpf, oI vpl, oR b11, .unset] [(.int (1 : Int32))])
  refine own_st (fun _ => XS.ifNo X12.here hx rfl (hb hby at_65) rfl ((if0 _ _).trans (feq ((by decide) : ¬ ((1 : Int32) = (0 : Int32)))).1)) ?_
  show own_Rch _ _ _ _ T12 (mkF m 68 #[oI p0, oI p1, oI p2, oI vf, oI vl, oI (1 : Int32), oI vpf, oI vpl, oR b11, .unset] [])
  refine own_st (fun _ => XS.aload X12.here hx rfl (hb hby at_68) rfl rfl) ?_
  show own_Rch _ _ _ _ T12 (mkF m 70 #[oI p0, oI p1, oI p2, oI vf, oI vl, oI (1 : Int32), oI vpf, oI vpl, oR b11, .unset] [(.ref b11)])
  refine own_st (fun _ => XS.iload X12.here hx rfl (hb hby at_70) rfl) ?_
  show own_Rch _ _ _ _ T12 (mkF m 72 #[oI p0, oI p1, oI p2, oI vf, oI vl, oI (1 : Int32), oI vpf, oI vpl, oR b11, .unset] [(.int vpf), (.ref b11)])
  refine own_st (fun _ => XS.iload X12.here hx rfl (hb hby at_72) rfl) ?_
  show own_Rch _ _ _ _ T12 (mkF m 74 #[oI p0, oI p1, oI p2, oI vf, oI vl, oI (1 : Int32), oI vpf, oI vpl, oR b11, .unset] [(.int vpl), (.int vpf), (.ref b11)])
  obtain ⟨cq13, kq13, q13a, q13b, q13c⟩ := isOf hZ rfl A11_x12
  obtain ⟨_, _, ⟨T13, L13, k13, n13⟩, -, X13, ⟨Lc13, hQ13, l13, y13, z13⟩, st13⟩ := X12.virtualBack hx (y := (⟨"com/example/lightweave/lightweave/LinkSlots$Bits", "occupy", "(II)V"⟩ : MethodName)) (z := (⟨"com/example/lightweave/lightweave/LinkSlots$Bits", "occupy", "(II)V"⟩ : MethodName)) hown (mvT hZ (hw _ (own_m 33 rfl))) (mvT hZ (hw _ (own_m 34 rfl))) (notFace_of_selects (args := #[]) (mvT hZ (hw _ (own_m 36 rfl)))) (mvT hZ (hw _ (own_m 36 rfl))) (mvT hZ (hw _ (own_m 35 rfl))) (by decide) (backOf (W := 0) (own_occ l Z a0 hw [] b11 bb12 yy12 ka12 (0 : Int64) (0 : Int64) (0 : Int64) (0 : Int64) (0 : Int32) vpf vpl T12.heap n0 O0_x12 SA Fu12 ⟨Eb12, Fw12, Fn12, Va12, Wd12⟩ (own_clsA (by omega) (by omega) (by omega)) ge12_bb12 ge12_yy12) hZ (hw _ (own_m 37 rfl)) (hw _ (own_m 2 rfl)) (by decide) (by decide)) q13a q13c (g := (mkF m 74 #[oI p0, oI p1, oI p2, oI vf, oI vl, oI (1 : Int32), oI vpf, oI vpl, oR b11, .unset] [(.int vpl), (.int vpf), (.ref b11)])) rfl (by rw [hml]; rfl) (Steps.refl _) (argsL := [(.int vpf), (.int vpl)]) (rest := []) (lenOf own_pd5 rfl) rfl (by show 2 * 0 + _ ≤ _; exact Nat.le_of_eq rfl) (hb hby at_74) (fun _ _ => ⟨rfl, rfl, (by decide : 3 + 0 ≤ _), (by decide : 9 + 0 ≤ _)⟩)
  dsimp only [Pt.U, Pt.locs, Pt.cells, Pt.slots] at X13 l13 y13 z13 st13 hQ13
  subst l13 y13 z13
  obtain ⟨rfl, N13q, K13, wa13, wb13, wc13, wd13, nx13, ⟨Eb13, Fw13, Fn13, Va13, Wd13⟩, Sp13⟩ := hQ13
  have N13 := Fr.app N12 N13q
  refine own_st (fun _ => st13.trans) ?_
  have O0_x13 := O0_x12.keep K13 (allS ge12_bb12 (allS ge12_yy12 all0))
  have A11_x13 := A11_x12.keep K13
  have Fu12_x13 := Fu12.keep K13 (ninS ne12_b11_bb12 (ninS ne12_b11_yy12 nin0))
  have Eb12_x13 := Eb12.keep K13
  show own_Rch _ _ _ _ T13 (mkF m 77 #[oI p0, oI p1, oI p2, oI vf, oI vl, oI (1 : Int32), oI vpf, oI vpl, oR b11, .unset] [])
  refine own_st (fun _ => XS.aload X13.here hx rfl (hb hby at_77) rfl rfl) ?_
  show own_Rch _ _ _ _ T13 (mkF m 79 #[oI p0, oI p1, oI p2, oI vf, oI vl, oI (1 : Int32), oI vpf, oI vpl, oR b11, .unset] [(.ref b11)])
  refine own_st (fun _ => XS.iloadN X13.here hx rfl (hb hby at_79) rfl) ?_
  show own_Rch _ _ _ _ T13 (mkF m 80 #[oI p0, oI p1, oI p2, oI vf, oI vl, oI (1 : Int32), oI vpf, oI vpl, oR b11, .unset] [(.int vf), (.ref b11)])
  refine own_st (fun _ => XS.iload X13.here hx rfl (hb hby at_80) rfl) ?_
  show own_Rch _ _ _ _ T13 (mkF m 82 #[oI p0, oI p1, oI p2, oI vf, oI vl, oI (1 : Int32), oI vpf, oI vpl, oR b11, .unset] [(.int vl), (.int vf), (.ref b11)])
  obtain ⟨cq14, kq14, q14a, q14b, q14c⟩ := isOf hZ rfl A11_x13
  obtain ⟨_, _, ⟨T14, L14, k14, n14⟩, -, X14, ⟨Lc14, hQ14, l14, y14, z14⟩, st14⟩ := X13.virtualBack hx (y := (⟨"com/example/lightweave/lightweave/LinkSlots$Bits", "occupy", "(II)V"⟩ : MethodName)) (z := (⟨"com/example/lightweave/lightweave/LinkSlots$Bits", "occupy", "(II)V"⟩ : MethodName)) hown (mvT hZ (hw _ (own_m 33 rfl))) (mvT hZ (hw _ (own_m 34 rfl))) (notFace_of_selects (args := #[]) (mvT hZ (hw _ (own_m 36 rfl)))) (mvT hZ (hw _ (own_m 36 rfl))) (mvT hZ (hw _ (own_m 35 rfl))) (by decide) (backOf (W := 0) (own_occ l Z a0 hw [] b11 bb12 yy12 ka12 wa13 wb13 wc13 wd13 nx13 vf vl T13.heap n0 O0_x13 SA Fu12_x13 ⟨Eb13, Fw13, Fn13, Va13, Wd13⟩ (own_clsA (by omega) (by omega) (by omega)) ge12_bb12 ge12_yy12) hZ (hw _ (own_m 37 rfl)) (hw _ (own_m 2 rfl)) (by decide) (by decide)) q14a q14c (g := (mkF m 82 #[oI p0, oI p1, oI p2, oI vf, oI vl, oI (1 : Int32), oI vpf, oI vpl, oR b11, .unset] [(.int vl), (.int vf), (.ref b11)])) rfl (by rw [hml]; rfl) (Steps.refl _) (argsL := [(.int vf), (.int vl)]) (rest := []) (lenOf own_pd5 rfl) rfl (by show 2 * 0 + _ ≤ _; exact Nat.le_of_eq rfl) (hb hby at_82) (fun _ _ => ⟨rfl, rfl, (by decide : 3 + 0 ≤ _), (by decide : 9 + 0 ≤ _)⟩)
  dsimp only [Pt.U, Pt.locs, Pt.cells, Pt.slots] at X14 l14 y14 z14 st14 hQ14
  subst l14 y14 z14
  obtain ⟨rfl, N14q, K14, wa14, wb14, wc14, wd14, nx14, ⟨Eb14, Fw14, Fn14, Va14, Wd14⟩, Sp14⟩ := hQ14
  have N14 := Fr.app N13 N14q
  refine own_st (fun _ => st14.trans) ?_
  have O0_x14 := O0_x13.keep K14 (allS ge12_bb12 (allS ge12_yy12 all0))
  have A11_x14 := A11_x13.keep K14
  have Fu12_x14 := Fu12_x13.keep K14 (ninS ne12_b11_bb12 (ninS ne12_b11_yy12 nin0))
  have Eb13_x14 := Eb13.keep K14
  have HB := own_HB2 epl1 el1 Sp13 Sp14
  show own_Rch _ _ _ _ T14 (mkF m 85 #[oI p0, oI p1, oI p2, oI vf, oI vl, oI (1 : Int32), oI vpf, oI vpl, oR b11, .unset] [])
  refine own_st (fun _ => XS.aload X14.here hx rfl (hb hby at_85) rfl rfl) ?_
  show own_Rch _ _ _ _ T14 (mkF m 87 #[oI p0, oI p1, oI p2, oI vf, oI vl, oI (1 : Int32), oI vpf, oI vpl, oR b11, .unset] [(.ref b11)])
  refine own_st (fun _ => XS.iloadN X14.here hx rfl (hb hby at_87) rfl) ?_
  show own_Rch _ _ _ _ T14 (mkF m 88 #[oI p0, oI p1, oI p2, oI vf, oI vl, oI (1 : Int32), oI vpf, oI vpl, oR b11, .unset] [(.int vf), (.ref b11)])
  refine own_st (fun _ => XS.iloadN X14.here hx rfl (hb hby at_88) rfl) ?_
  show own_Rch _ _ _ _ T14 (mkF m 89 #[oI p0, oI p1, oI p2, oI vf, oI vl, oI (1 : Int32), oI vpf, oI vpl, oR b11, .unset] [(.int vf), (.int vf), (.ref b11)])
  obtain ⟨cq15, kq15, q15a, q15b, q15c⟩ := isOf hZ rfl A11_x14
  obtain ⟨_, _, ⟨T15, L15, k15, n15⟩, -, X15, ⟨Lc15, hQ15, l15, y15, z15⟩, st15⟩ := X14.virtualBack hx (y := (⟨"com/example/lightweave/lightweave/LinkSlots$Bits", "busyTo", "(II)I"⟩ : MethodName)) (z := (⟨"com/example/lightweave/lightweave/LinkSlots$Bits", "busyTo", "(II)I"⟩ : MethodName)) hown (mvT hZ (hw _ (own_m 63 rfl))) (mvT hZ (hw _ (own_m 64 rfl))) (notFace_of_selects (args := #[]) (mvT hZ (hw _ (own_m 66 rfl)))) (mvT hZ (hw _ (own_m 66 rfl))) (mvT hZ (hw _ (own_m 65 rfl))) (by decide) (backOf (W := 0) (own_busy l Z a0 hw [] b11 bb12 yy12 ka12 wa14 wb14 wc14 wd14 nx14 vf vf T14.heap n0 O0_x14 SA Fu12_x14 ⟨Eb14, Fw14, Fn14, Va14, Wd14⟩ (by omega) (by omega) (by omega)) hZ (hw _ (own_m 67 rfl)) (hw _ (own_m 2 rfl)) (by decide) (by decide)) q15a q15c (g := (mkF m 89 #[oI p0, oI p1, oI p2, oI vf, oI vl, oI (1 : Int32), oI vpf, oI vpl, oR b11, .unset] [(.int vf), (.int vf), (.ref b11)])) rfl (by rw [hml]; rfl) (Steps.refl _) (argsL := [(.int vf), (.int vf)]) (rest := []) (lenOf own_pd6 rfl) rfl (by show 2 * 0 + _ ≤ _; exact Nat.le_of_eq rfl) (hb hby at_89) (fun _ _ => ⟨rfl, rfl, (by decide : 3 + 0 ≤ _), (by decide : 9 + 0 ≤ _)⟩)
  dsimp only [Pt.U, Pt.locs, Pt.cells, Pt.slots] at X15 l15 y15 z15 st15 hQ15
  subst l15 y15 z15
  obtain ⟨rr15, rfl, N15q, hh15, bz15⟩ := hQ15
  have N15 := Fr.app N14 N15q
  refine own_st (fun _ => st15.trans) ?_
  show own_Rch _ _ _ _ T15 (mkF m 92 #[oI p0, oI p1, oI p2, oI vf, oI vl, oI (1 : Int32), oI vpf, oI vpl, oR b11, .unset] [(.int rr15)])
  refine own_st (fun _ => XS.iload X15.here hx rfl (hb hby at_92) rfl) ?_
  show own_Rch _ _ _ _ T15 (mkF m 94 #[oI p0, oI p1, oI p2, oI vf, oI vl, oI (1 : Int32), oI vpf, oI vpl, oR b11, .unset] [(.int vl), (.int rr15)])
  refine own_st (fun _ => XS.icmpNo X15.here hx rfl (hb hby at_94) rfl (teq ((Int32.toInt_inj.mp (own_busy_hit (by omega) (by omega) (fun j h1 h2 => (HB j).mpr (by omega)) (fun j h1 q => by have := (HB j).mp q; omega) bz15)) : rr15 = vl)).2) ?_
  show own_Rch _ _ _ _ T15 (mkF m 97 #[oI p0, oI p1, oI p2, oI vf, oI vl, oI (1 : Int32), oI vpf, oI vpl, oR b11, .unset] [])
  refine own_st (fun _ => XS.iconst X15.here hx rfl (hb hby at_97)) ?_
  show own_Rch _ _ _ _ T15 (mkF m 98 #[oI p0, oI p1, oI p2, oI vf, oI vl, oI (1 : Int32), oI vpf, oI vpl, oR b11, .unset] [(.int (1 : Int32))])
  refine own_st (fun _ => XS.goto X15.here hx rfl (pc0 := 98) (pc' := 102) rfl (hb hby at_98) (by decide) (by decide)) ?_
  show own_Rch _ _ _ _ T15 (mkF m 102 #[oI p0, oI p1, oI p2, oI vf, oI vl, oI (1 : Int32), oI vpf, oI vpl, oR b11, .unset] [(.int (1 : Int32))])
  refine own_st (fun _ => XS.istore X15.here hx rfl (hb hby at_102) rfl (l' := #[oI p0, oI p1, oI p2, oI vf, oI vl, oI (1 : Int32), oI vpf, oI vpl, oR b11, oI (1 : Int32)]) rfl) ?_
  show own_Rch _ _ _ _ T15 (mkF m 104 #[oI p0, oI p1, oI p2, oI vf, oI vl, oI (1 : Int32), oI vpf, oI vpl, oR b11, oI (1 : Int32)] [])
  refine own_st (fun _ => XS.iload X15.here hx rfl (hb hby at_104) rfl) ?_
  show own_Rch _ _ _ _ T15 (mkF m 106 #[oI p0, oI p1, oI p2, oI vf, oI vl, oI (1 : Int32), oI vpf, oI vpl, oR b11, oI (1 : Int32)] [(.int (1 : Int32))])
  refine own_st (fun _ => XS.ifNo X15.here hx rfl (hb hby at_106) rfl ((if0 _ _).trans (feq ((by decide) : ¬ ((1 : Int32) = (0 : Int32)))).1)) ?_
  show own_Rch _ _ _ _ T15 (mkF m 109 #[oI p0, oI p1, oI p2, oI vf, oI vl, oI (1 : Int32), oI vpf, oI vpl, oR b11, oI (1 : Int32)] [])
  refine own_st (fun _ => XS.aload X15.here hx rfl (hb hby at_109) rfl rfl) ?_
  show own_Rch _ _ _ _ T15 (mkF m 111 #[oI p0, oI p1, oI p2, oI vf, oI vl, oI (1 : Int32), oI vpf, oI vpl, oR b11, oI (1 : Int32)] [(.ref b11)])
  obtain ⟨cq16, kq16, q16a, q16b, q16c⟩ := isOf hZ hh15 A11_x14
  obtain ⟨_, _, ⟨T16, L16, k16, n16⟩, -, X16, ⟨Lc16, hQ16, l16, y16, z16⟩, st16⟩ := X15.virtualBack hx (y := (⟨"com/example/lightweave/lightweave/LinkSlots$Bits", "top", "()I"⟩ : MethodName)) (z := (⟨"com/example/lightweave/lightweave/LinkSlots$Bits", "top", "()I"⟩ : MethodName)) hown (mvT hZ (hw _ (own_m 93 rfl))) (mvT hZ (hw _ (own_m 94 rfl))) (notFace_of_selects (args := #[]) (mvT hZ (hw _ (own_m 96 rfl)))) (mvT hZ (hw _ (own_m 96 rfl))) (mvT hZ (hw _ (own_m 95 rfl))) (by decide) (backOf (W := 0) (own_topc l Z a0 hw [] b11 bb12 yy12 ka12 wa14 wb14 wc14 wd14 nx14 T14.heap n0 O0_x14 Fu12_x14 ⟨Eb14, Fw14, Fn14, Va14, Wd14⟩) hZ (hw _ (own_m 97 rfl)) (hw _ (own_m 2 rfl)) (by decide) (by decide)) q16a q16c (g := (mkF m 111 #[oI p0, oI p1, oI p2, oI vf, oI vl, oI (1 : Int32), oI vpf, oI vpl, oR b11, oI (1 : Int32)] [(.ref b11)])) rfl (by rw [hml]; rfl) (Steps.refl _) (argsL := []) (rest := []) (lenOf own_pd3 rfl) rfl (by show 2 * 0 + _ ≤ _; exact Nat.le_of_eq rfl) (hb hby at_111) (fun _ _ => ⟨rfl, hh15, (by decide : 3 + 0 ≤ _), (by decide : 9 + 0 ≤ _)⟩)
  dsimp only [Pt.U, Pt.locs, Pt.cells, Pt.slots] at X16 l16 y16 z16 st16 hQ16
  subst l16 y16 z16
  obtain ⟨rr16, rfl, N16q, hh16, bz16⟩ := hQ16
  have N16 := Fr.app N15 N16q
  refine own_st (fun _ => st16.trans) ?_
  show own_Rch _ _ _ _ T16 (mkF m 114 #[oI p0, oI p1, oI p2, oI vf, oI vl, oI (1 : Int32), oI vpf, oI vpl, oR b11, oI (1 : Int32)] [(.int rr16)])
  refine own_st (fun _ => XS.iload X16.here hx rfl (hb hby at_114) rfl) ?_
  show own_Rch _ _ _ _ T16 (mkF m 116 #[oI p0, oI p1, oI p2, oI vf, oI vl, oI (1 : Int32), oI vpf, oI vpl, oR b11, oI (1 : Int32)] [(.int (1 : Int32)), (.int rr16)])
  refine own_st (fun _ => XS.ifNo X16.here hx rfl (hb hby at_116) rfl ((if0 _ _).trans (feq ((by decide) : ¬ ((1 : Int32) = (0 : Int32)))).1)) ?_
  show own_Rch _ _ _ _ T16 (mkF m 119 #[oI p0, oI p1, oI p2, oI vf, oI vl, oI (1 : Int32), oI vpf, oI vpl, oR b11, oI (1 : Int32)] [(.int rr16)])
  refine own_st (fun _ => XS.iload X16.here hx rfl (hb hby at_119) rfl) ?_
  show own_Rch _ _ _ _ T16 (mkF m 121 #[oI p0, oI p1, oI p2, oI vf, oI vl, oI (1 : Int32), oI vpf, oI vpl, oR b11, oI (1 : Int32)] [(.int vpl), (.int rr16)])
  refine own_st (fun _ => XS.goto X16.here hx rfl (pc0 := 121) (pc' := 126) rfl (hb hby at_121) (by decide) (by decide)) ?_
  show own_Rch _ _ _ _ T16 (mkF m 126 #[oI p0, oI p1, oI p2, oI vf, oI vl, oI (1 : Int32), oI vpf, oI vpl, oR b11, oI (1 : Int32)] [(.int vpl), (.int rr16)])
  refine own_st (fun _ => XS.icmpNo X16.here hx rfl (hb hby at_126) rfl (teq ((Int32.toInt_inj.mp (own_max_val (by omega) (fun j h1 => (HB j).mpr (by omega)) (fun j h1 q => by have := (HB j).mp q; omega) bz16)) : rr16 = vpl)).2) ?_
  show own_Rch _ _ _ _ T16 (mkF m 129 #[oI p0, oI p1, oI p2, oI vf, oI vl, oI (1 : Int32), oI vpf, oI vpl, oR b11, oI (1 : Int32)] [])
  refine own_st (fun _ => XS.iconst X16.here hx rfl (hb hby at_129)) ?_
  show own_Rch _ _ _ _ T16 (mkF m 130 #[oI p0, oI p1, oI p2, oI vf, oI vl, oI (1 : Int32), oI vpf, oI vpl, oR b11, oI (1 : Int32)] [(.int (1 : Int32))])
  refine own_st (fun _ => XS.goto X16.here hx rfl (pc0 := 130) (pc' := 134) rfl (hb hby at_130) (by decide) (by decide)) ?_
  show own_Rch _ _ _ _ T16 (mkF m 134 #[oI p0, oI p1, oI p2, oI vf, oI vl, oI (1 : Int32), oI vpf, oI vpl, oR b11, oI (1 : Int32)] [(.int (1 : Int32))])
  refine own_st (fun _ => XS.istore X16.here hx rfl (hb hby at_134) rfl (l' := #[oI p0, oI p1, oI p2, oI vf, oI vl, oI (1 : Int32), oI vpf, oI vpl, oR b11, oI (1 : Int32)]) rfl) ?_
  show own_Rch _ _ _ _ T16 (mkF m 136 #[oI p0, oI p1, oI p2, oI vf, oI vl, oI (1 : Int32), oI vpf, oI vpl, oR b11, oI (1 : Int32)] [])
  refine own_st (fun _ => XS.iloadN X16.here hx rfl (hb hby at_136) rfl) ?_
  show own_Rch _ _ _ _ T16 (mkF m 137 #[oI p0, oI p1, oI p2, oI vf, oI vl, oI (1 : Int32), oI vpf, oI vpl, oR b11, oI (1 : Int32)] [(.int vf)])
  refine own_st (fun _ => XS.iconst X16.here hx rfl (hb hby at_137)) ?_
  show own_Rch _ _ _ _ T16 (mkF m 138 #[oI p0, oI p1, oI p2, oI vf, oI vl, oI (1 : Int32), oI vpf, oI vpl, oR b11, oI (1 : Int32)] [(.int (1 : Int32)), (.int vf)])
  by_cases hc138_17 : (1 : Int32) < vf
  · -- pc 138: True
   refine own_st (fun _ => XS.icmpNo X16.here hx rfl (hb hby at_138) rfl (tlt hc138_17).2.2.2) ?_
   show own_Rch _ _ _ _ T16 (mkF m 141 #[oI p0, oI p1, oI p2, oI vf, oI vl, oI (1 : Int32), oI vpf, oI vpl, oR b11, oI (1 : Int32)] [])
   refine own_st (fun _ => XS.iload X16.here hx rfl (hb hby at_141) rfl) ?_
   show own_Rch _ _ _ _ T16 (mkF m 143 #[oI p0, oI p1, oI p2, oI vf, oI vl, oI (1 : Int32), oI vpf, oI vpl, oR b11, oI (1 : Int32)] [(.int (1 : Int32))])
   refine own_st (fun _ => XS.ifNo X16.here hx rfl (hb hby at_143) rfl ((if0 _ _).trans (feq ((by decide) : ¬ ((1 : Int32) = (0 : Int32)))).1)) ?_
   show own_Rch _ _ _ _ T16 (mkF m 146 #[oI p0, oI p1, oI p2, oI vf, oI vl, oI (1 : Int32), oI vpf, oI vpl, oR b11, oI (1 : Int32)] [])
   refine own_st (fun _ => XS.aload X16.here hx rfl (hb hby at_146) rfl rfl) ?_
   show own_Rch _ _ _ _ T16 (mkF m 148 #[oI p0, oI p1, oI p2, oI vf, oI vl, oI (1 : Int32), oI vpf, oI vpl, oR b11, oI (1 : Int32)] [(.ref b11)])
   refine own_st (fun _ => XS.iconst X16.here hx rfl (hb hby at_148)) ?_
   show own_Rch _ _ _ _ T16 (mkF m 149 #[oI p0, oI p1, oI p2, oI vf, oI vl, oI (1 : Int32), oI vpf, oI vpl, oR b11, oI (1 : Int32)] [(.int (1 : Int32)), (.ref b11)])
   refine own_st (fun _ => XS.iloadN X16.here hx rfl (hb hby at_149) rfl) ?_
   show own_Rch _ _ _ _ T16 (mkF m 150 #[oI p0, oI p1, oI p2, oI vf, oI vl, oI (1 : Int32), oI vpf, oI vpl, oR b11, oI (1 : Int32)] [(.int vf), (.int (1 : Int32)), (.ref b11)])
   refine own_st (fun _ => XS.iconst X16.here hx rfl (hb hby at_150)) ?_
   show own_Rch _ _ _ _ T16 (mkF m 151 #[oI p0, oI p1, oI p2, oI vf, oI vl, oI (1 : Int32), oI vpf, oI vpl, oR b11, oI (1 : Int32)] [(.int (1 : Int32)), (.int vf), (.int (1 : Int32)), (.ref b11)])
   refine own_st (fun _ => XS.isub X16.here hx rfl (hb hby at_151) rfl) ?_
   show own_Rch _ _ _ _ T16 (mkF m 152 #[oI p0, oI p1, oI p2, oI vf, oI vl, oI (1 : Int32), oI vpf, oI vpl, oR b11, oI (1 : Int32)] [(.int (vf - (1 : Int32))), (.int (1 : Int32)), (.ref b11)])
   obtain ⟨cq18, kq18, q18a, q18b, q18c⟩ := isOf hZ hh16 A11_x14
   obtain ⟨_, _, ⟨T18, L18, k18, n18⟩, -, X18, ⟨Lc18, hQ18, l18, y18, z18⟩, st18⟩ := X16.virtualBack hx (y := (⟨"com/example/lightweave/lightweave/LinkSlots$Bits", "busyTo", "(II)I"⟩ : MethodName)) (z := (⟨"com/example/lightweave/lightweave/LinkSlots$Bits", "busyTo", "(II)I"⟩ : MethodName)) hown (mvT hZ (hw _ (own_m 63 rfl))) (mvT hZ (hw _ (own_m 64 rfl))) (notFace_of_selects (args := #[]) (mvT hZ (hw _ (own_m 66 rfl)))) (mvT hZ (hw _ (own_m 66 rfl))) (mvT hZ (hw _ (own_m 65 rfl))) (by decide) (backOf (W := 0) (own_busy l Z a0 hw [] b11 bb12 yy12 ka12 wa14 wb14 wc14 wd14 nx14 (1 : Int32) (vf - (1 : Int32)) T14.heap n0 O0_x14 SA Fu12_x14 ⟨Eb14, Fw14, Fn14, Va14, Wd14⟩ (by omega) (by omega) (by omega)) hZ (hw _ (own_m 67 rfl)) (hw _ (own_m 2 rfl)) (by decide) (by decide)) q18a q18c (g := (mkF m 152 #[oI p0, oI p1, oI p2, oI vf, oI vl, oI (1 : Int32), oI vpf, oI vpl, oR b11, oI (1 : Int32)] [(.int (vf - (1 : Int32))), (.int (1 : Int32)), (.ref b11)])) rfl (by rw [hml]; rfl) (Steps.refl _) (argsL := [(.int (1 : Int32)), (.int (vf - (1 : Int32)))]) (rest := []) (lenOf own_pd6 rfl) rfl (by show 2 * 0 + _ ≤ _; exact Nat.le_of_eq rfl) (hb hby at_152) (fun _ _ => ⟨rfl, hh16, (by decide : 3 + 0 ≤ _), (by decide : 9 + 0 ≤ _)⟩)
   dsimp only [Pt.U, Pt.locs, Pt.cells, Pt.slots] at X18 l18 y18 z18 st18 hQ18
   subst l18 y18 z18
   obtain ⟨rr18, rfl, N18q, hh18, bz18⟩ := hQ18
   have N18 := Fr.app N16 N18q
   refine own_st (fun _ => st18.trans) ?_
   show own_Rch _ _ _ _ T18 (mkF m 155 #[oI p0, oI p1, oI p2, oI vf, oI vl, oI (1 : Int32), oI vpf, oI vpl, oR b11, oI (1 : Int32)] [(.int rr18)])
   refine own_st (fun _ => XS.ifNo X18.here hx rfl (hb hby at_155) rfl ((if0 _ _).trans (teq ((Int32.toInt_inj.mp ((own_busy_none (by omega) (fun j h1 h2 q => by have := (HB j).mp q; omega) bz18).trans ci0.symm)) : rr18 = (0 : Int32))).2)) ?_
   show own_Rch _ _ _ _ T18 (mkF m 158 #[oI p0, oI p1, oI p2, oI vf, oI vl, oI (1 : Int32), oI vpf, oI vpl, oR b11, oI (1 : Int32)] [])
   refine own_st (fun _ => XS.iconst X18.here hx rfl (hb hby at_158)) ?_
   show own_Rch _ _ _ _ T18 (mkF m 159 #[oI p0, oI p1, oI p2, oI vf, oI vl, oI (1 : Int32), oI vpf, oI vpl, oR b11, oI (1 : Int32)] [(.int (1 : Int32))])
   refine own_st (fun _ => XS.goto X18.here hx rfl (pc0 := 159) (pc' := 163) rfl (hb hby at_159) (by decide) (by decide)) ?_
   show own_Rch _ _ _ _ T18 (mkF m 163 #[oI p0, oI p1, oI p2, oI vf, oI vl, oI (1 : Int32), oI vpf, oI vpl, oR b11, oI (1 : Int32)] [(.int (1 : Int32))])
   refine own_st (fun _ => XS.istore X18.here hx rfl (hb hby at_163) rfl (l' := #[oI p0, oI p1, oI p2, oI vf, oI vl, oI (1 : Int32), oI vpf, oI vpl, oR b11, oI (1 : Int32)]) rfl) ?_
   show own_Rch _ _ _ _ T18 (mkF m 165 #[oI p0, oI p1, oI p2, oI vf, oI vl, oI (1 : Int32), oI vpf, oI vpl, oR b11, oI (1 : Int32)] [])
   refine own_st (fun _ => XS.iload X18.here hx rfl (hb hby at_165) rfl) ?_
   show own_Rch _ _ _ _ T18 (mkF m 167 #[oI p0, oI p1, oI p2, oI vf, oI vl, oI (1 : Int32), oI vpf, oI vpl, oR b11, oI (1 : Int32)] [(.int (1 : Int32))])
   refine own_st (fun _ => XS.ifNo X18.here hx rfl (hb hby at_167) rfl ((if0 _ _).trans (feq ((by decide) : ¬ ((1 : Int32) = (0 : Int32)))).1)) ?_
   show own_Rch _ _ _ _ T18 (mkF m 170 #[oI p0, oI p1, oI p2, oI vf, oI vl, oI (1 : Int32), oI vpf, oI vpl, oR b11, oI (1 : Int32)] [])
   refine own_st (fun _ => XS.aload X18.here hx rfl (hb hby at_170) rfl rfl) ?_
   show own_Rch _ _ _ _ T18 (mkF m 172 #[oI p0, oI p1, oI p2, oI vf, oI vl, oI (1 : Int32), oI vpf, oI vpl, oR b11, oI (1 : Int32)] [(.ref b11)])
   refine own_st (fun _ => XS.iload X18.here hx rfl (hb hby at_172) rfl) ?_
   show own_Rch _ _ _ _ T18 (mkF m 174 #[oI p0, oI p1, oI p2, oI vf, oI vl, oI (1 : Int32), oI vpf, oI vpl, oR b11, oI (1 : Int32)] [(.int vl), (.ref b11)])
   refine own_st (fun _ => XS.iconst X18.here hx rfl (hb hby at_174)) ?_
   show own_Rch _ _ _ _ T18 (mkF m 175 #[oI p0, oI p1, oI p2, oI vf, oI vl, oI (1 : Int32), oI vpf, oI vpl, oR b11, oI (1 : Int32)] [(.int (1 : Int32)), (.int vl), (.ref b11)])
   refine own_st (fun _ => XS.iadd X18.here hx rfl (hb hby at_175) rfl) ?_
   show own_Rch _ _ _ _ T18 (mkF m 176 #[oI p0, oI p1, oI p2, oI vf, oI vl, oI (1 : Int32), oI vpf, oI vpl, oR b11, oI (1 : Int32)] [(.int (vl + (1 : Int32))), (.ref b11)])
   refine own_st (fun _ => XS.sipush X18.here hx rfl (hb hby at_176)) ?_
   show own_Rch _ _ _ _ T18 (mkF m 179 #[oI p0, oI p1, oI p2, oI vf, oI vl, oI (1 : Int32), oI vpf, oI vpl, oR b11, oI (1 : Int32)] [(.int (199 : Int32)), (.int (vl + (1 : Int32))), (.ref b11)])
   obtain ⟨cq19, kq19, q19a, q19b, q19c⟩ := isOf hZ hh18 A11_x14
   obtain ⟨_, _, ⟨T19, L19, k19, n19⟩, -, X19, ⟨Lc19, hQ19, l19, y19, z19⟩, st19⟩ := X18.virtualBack hx (y := (⟨"com/example/lightweave/lightweave/LinkSlots$Bits", "busyTo", "(II)I"⟩ : MethodName)) (z := (⟨"com/example/lightweave/lightweave/LinkSlots$Bits", "busyTo", "(II)I"⟩ : MethodName)) hown (mvT hZ (hw _ (own_m 63 rfl))) (mvT hZ (hw _ (own_m 64 rfl))) (notFace_of_selects (args := #[]) (mvT hZ (hw _ (own_m 66 rfl)))) (mvT hZ (hw _ (own_m 66 rfl))) (mvT hZ (hw _ (own_m 65 rfl))) (by decide) (backOf (W := 0) (own_busy l Z a0 hw [] b11 bb12 yy12 ka12 wa14 wb14 wc14 wd14 nx14 (vl + (1 : Int32)) (199 : Int32) T14.heap n0 O0_x14 SA Fu12_x14 ⟨Eb14, Fw14, Fn14, Va14, Wd14⟩ (by omega) (by omega) (by omega)) hZ (hw _ (own_m 67 rfl)) (hw _ (own_m 2 rfl)) (by decide) (by decide)) q19a q19c (g := (mkF m 179 #[oI p0, oI p1, oI p2, oI vf, oI vl, oI (1 : Int32), oI vpf, oI vpl, oR b11, oI (1 : Int32)] [(.int (199 : Int32)), (.int (vl + (1 : Int32))), (.ref b11)])) rfl (by rw [hml]; rfl) (Steps.refl _) (argsL := [(.int (vl + (1 : Int32))), (.int (199 : Int32))]) (rest := []) (lenOf own_pd6 rfl) rfl (by show 2 * 0 + _ ≤ _; exact Nat.le_of_eq rfl) (hb hby at_179) (fun _ _ => ⟨rfl, hh18, (by decide : 3 + 0 ≤ _), (by decide : 9 + 0 ≤ _)⟩)
   dsimp only [Pt.U, Pt.locs, Pt.cells, Pt.slots] at X19 l19 y19 z19 st19 hQ19
   subst l19 y19 z19
   obtain ⟨rr19, rfl, N19q, hh19, bz19⟩ := hQ19
   have N19 := Fr.app N18 N19q
   refine own_st (fun _ => st19.trans) ?_
   show own_Rch _ _ _ _ T19 (mkF m 182 #[oI p0, oI p1, oI p2, oI vf, oI vl, oI (1 : Int32), oI vpf, oI vpl, oR b11, oI (1 : Int32)] [(.int rr19)])
   refine own_st (fun _ => XS.ifNo X19.here hx rfl (hb hby at_182) rfl ((if0 _ _).trans (teq ((Int32.toInt_inj.mp ((own_busy_none (by omega) (fun j h1 h2 q => by have := (HB j).mp q; omega) bz19).trans ci0.symm)) : rr19 = (0 : Int32))).2)) ?_
   show own_Rch _ _ _ _ T19 (mkF m 185 #[oI p0, oI p1, oI p2, oI vf, oI vl, oI (1 : Int32), oI vpf, oI vpl, oR b11, oI (1 : Int32)] [])
   refine own_st (fun _ => XS.iconst X19.here hx rfl (hb hby at_185)) ?_
   show own_Rch _ _ _ _ T19 (mkF m 186 #[oI p0, oI p1, oI p2, oI vf, oI vl, oI (1 : Int32), oI vpf, oI vpl, oR b11, oI (1 : Int32)] [(.int (1 : Int32))])
   refine own_st (fun _ => XS.goto X19.here hx rfl (pc0 := 186) (pc' := 190) rfl (hb hby at_186) (by decide) (by decide)) ?_
   show own_Rch _ _ _ _ T19 (mkF m 190 #[oI p0, oI p1, oI p2, oI vf, oI vl, oI (1 : Int32), oI vpf, oI vpl, oR b11, oI (1 : Int32)] [(.int (1 : Int32))])
   refine own_st (fun _ => XS.istore X19.here hx rfl (hb hby at_190) rfl (l' := #[oI p0, oI p1, oI p2, oI vf, oI vl, oI (1 : Int32), oI vpf, oI vpl, oR b11, oI (1 : Int32)]) rfl) ?_
   show own_Rch _ _ _ _ T19 (mkF m 192 #[oI p0, oI p1, oI p2, oI vf, oI vl, oI (1 : Int32), oI vpf, oI vpl, oR b11, oI (1 : Int32)] [])
   refine own_st (fun _ => XS.iload X19.here hx rfl (hb hby at_192) rfl) ?_
   show own_Rch _ _ _ _ T19 (mkF m 194 #[oI p0, oI p1, oI p2, oI vf, oI vl, oI (1 : Int32), oI vpf, oI vpl, oR b11, oI (1 : Int32)] [(.int (1 : Int32))])
   refine own_st (fun _ => XS.ifNo X19.here hx rfl (hb hby at_194) rfl ((if0 _ _).trans (feq ((by decide) : ¬ ((1 : Int32) = (0 : Int32)))).1)) ?_
   show own_Rch _ _ _ _ T19 (mkF m 197 #[oI p0, oI p1, oI p2, oI vf, oI vl, oI (1 : Int32), oI vpf, oI vpl, oR b11, oI (1 : Int32)] [])
   refine own_st (fun _ => XS.iload X19.here hx rfl (hb hby at_197) rfl) ?_
   show own_Rch _ _ _ _ T19 (mkF m 199 #[oI p0, oI p1, oI p2, oI vf, oI vl, oI (1 : Int32), oI vpf, oI vpl, oR b11, oI (1 : Int32)] [(.int (1 : Int32))])
   refine own_st (fun _ => XS.ifNo X19.here hx rfl (hb hby at_199) rfl ((if0 _ _).trans (feq ((by decide) : ¬ ((1 : Int32) = (0 : Int32)))).1)) ?_
   show own_Rch _ _ _ _ T19 (mkF m 202 #[oI p0, oI p1, oI p2, oI vf, oI vl, oI (1 : Int32), oI vpf, oI vpl, oR b11, oI (1 : Int32)] [])
   refine own_st (fun _ => XS.aload X19.here hx rfl (hb hby at_202) rfl rfl) ?_
   show own_Rch _ _ _ _ T19 (mkF m 204 #[oI p0, oI p1, oI p2, oI vf, oI vl, oI (1 : Int32), oI vpf, oI vpl, oR b11, oI (1 : Int32)] [(.ref b11)])
   refine own_st (fun _ => XS.iload X19.here hx rfl (hb hby at_204) rfl) ?_
   show own_Rch _ _ _ _ T19 (mkF m 206 #[oI p0, oI p1, oI p2, oI vf, oI vl, oI (1 : Int32), oI vpf, oI vpl, oR b11, oI (1 : Int32)] [(.int vpf), (.ref b11)])
   refine own_st (fun _ => XS.iload X19.here hx rfl (hb hby at_206) rfl) ?_
   show own_Rch _ _ _ _ T19 (mkF m 208 #[oI p0, oI p1, oI p2, oI vf, oI vl, oI (1 : Int32), oI vpf, oI vpl, oR b11, oI (1 : Int32)] [(.int vpf), (.int vpf), (.ref b11)])
   obtain ⟨cq20, kq20, q20a, q20b, q20c⟩ := isOf hZ hh19 A11_x14
   obtain ⟨_, _, ⟨T20, L20, k20, n20⟩, -, X20, ⟨Lc20, hQ20, l20, y20, z20⟩, st20⟩ := X19.virtualBack hx (y := (⟨"com/example/lightweave/lightweave/LinkSlots$Bits", "busyTo", "(II)I"⟩ : MethodName)) (z := (⟨"com/example/lightweave/lightweave/LinkSlots$Bits", "busyTo", "(II)I"⟩ : MethodName)) hown (mvT hZ (hw _ (own_m 63 rfl))) (mvT hZ (hw _ (own_m 64 rfl))) (notFace_of_selects (args := #[]) (mvT hZ (hw _ (own_m 66 rfl)))) (mvT hZ (hw _ (own_m 66 rfl))) (mvT hZ (hw _ (own_m 65 rfl))) (by decide) (backOf (W := 0) (own_busy l Z a0 hw [] b11 bb12 yy12 ka12 wa14 wb14 wc14 wd14 nx14 vpf vpf T14.heap n0 O0_x14 SA Fu12_x14 ⟨Eb14, Fw14, Fn14, Va14, Wd14⟩ (by omega) (by omega) (by omega)) hZ (hw _ (own_m 67 rfl)) (hw _ (own_m 2 rfl)) (by decide) (by decide)) q20a q20c (g := (mkF m 208 #[oI p0, oI p1, oI p2, oI vf, oI vl, oI (1 : Int32), oI vpf, oI vpl, oR b11, oI (1 : Int32)] [(.int vpf), (.int vpf), (.ref b11)])) rfl (by rw [hml]; rfl) (Steps.refl _) (argsL := [(.int vpf), (.int vpf)]) (rest := []) (lenOf own_pd6 rfl) rfl (by show 2 * 0 + _ ≤ _; exact Nat.le_of_eq rfl) (hb hby at_208) (fun _ _ => ⟨rfl, hh19, (by decide : 3 + 0 ≤ _), (by decide : 9 + 0 ≤ _)⟩)
   dsimp only [Pt.U, Pt.locs, Pt.cells, Pt.slots] at X20 l20 y20 z20 st20 hQ20
   subst l20 y20 z20
   obtain ⟨rr20, rfl, N20q, hh20, bz20⟩ := hQ20
   have N20 := Fr.app N19 N20q
   refine own_st (fun _ => st20.trans) ?_
   show own_Rch _ _ _ _ T20 (mkF m 211 #[oI p0, oI p1, oI p2, oI vf, oI vl, oI (1 : Int32), oI vpf, oI vpl, oR b11, oI (1 : Int32)] [(.int rr20)])
   refine own_st (fun _ => XS.iload X20.here hx rfl (hb hby at_211) rfl) ?_
   show own_Rch _ _ _ _ T20 (mkF m 213 #[oI p0, oI p1, oI p2, oI vf, oI vl, oI (1 : Int32), oI vpf, oI vpl, oR b11, oI (1 : Int32)] [(.int vpl), (.int rr20)])
   refine own_st (fun _ => XS.icmpNo X20.here hx rfl (hb hby at_213) rfl (teq ((Int32.toInt_inj.mp (own_busy_hit (by omega) (by omega) (fun j h1 h2 => (HB j).mpr (by omega)) (fun j h1 q => by have := (HB j).mp q; omega) bz20)) : rr20 = vpl)).2) ?_
   show own_Rch _ _ _ _ T20 (mkF m 216 #[oI p0, oI p1, oI p2, oI vf, oI vl, oI (1 : Int32), oI vpf, oI vpl, oR b11, oI (1 : Int32)] [])
   refine own_st (fun _ => XS.iconst X20.here hx rfl (hb hby at_216)) ?_
   show own_Rch _ _ _ _ T20 (mkF m 217 #[oI p0, oI p1, oI p2, oI vf, oI vl, oI (1 : Int32), oI vpf, oI vpl, oR b11, oI (1 : Int32)] [(.int (1 : Int32))])
   refine own_st (fun _ => XS.goto X20.here hx rfl (pc0 := 217) (pc' := 221) rfl (hb hby at_217) (by decide) (by decide)) ?_
   show own_Rch _ _ _ _ T20 (mkF m 221 #[oI p0, oI p1, oI p2, oI vf, oI vl, oI (1 : Int32), oI vpf, oI vpl, oR b11, oI (1 : Int32)] [(.int (1 : Int32))])
   refine own_st (fun _ => XS.istore X20.here hx rfl (hb hby at_221) rfl (l' := #[oI p0, oI p1, oI p2, oI vf, oI vl, oI (1 : Int32), oI vpf, oI vpl, oR b11, oI (1 : Int32)]) rfl) ?_
   show own_Rch _ _ _ _ T20 (mkF m 223 #[oI p0, oI p1, oI p2, oI vf, oI vl, oI (1 : Int32), oI vpf, oI vpl, oR b11, oI (1 : Int32)] [])
   refine own_st (fun _ => XS.iload X20.here hx rfl (hb hby at_223) rfl) ?_
   show own_Rch _ _ _ _ T20 (mkF m 225 #[oI p0, oI p1, oI p2, oI vf, oI vl, oI (1 : Int32), oI vpf, oI vpl, oR b11, oI (1 : Int32)] [(.int (1 : Int32))])
   refine own_retN (t := .boolean) (by simp) X20 hx Bd.notSynchronized Bd.returns (hb hby at_225) (by decide) (by decide) ?_
   rw [hh20]
   exact ⟨rfl, N20⟩
  · -- pc 138: False
   refine own_st (fun _ => XS.icmpYes X16.here hx rfl (pc0 := 138) (pc' := 165) rfl (hb hby at_138) rfl (flt hc138_17).2.2.2 (by decide) (by decide)) ?_
   show own_Rch _ _ _ _ T16 (mkF m 165 #[oI p0, oI p1, oI p2, oI vf, oI vl, oI (1 : Int32), oI vpf, oI vpl, oR b11, oI (1 : Int32)] [])
   refine own_st (fun _ => XS.iload X16.here hx rfl (hb hby at_165) rfl) ?_
   show own_Rch _ _ _ _ T16 (mkF m 167 #[oI p0, oI p1, oI p2, oI vf, oI vl, oI (1 : Int32), oI vpf, oI vpl, oR b11, oI (1 : Int32)] [(.int (1 : Int32))])
   refine own_st (fun _ => XS.ifNo X16.here hx rfl (hb hby at_167) rfl ((if0 _ _).trans (feq ((by decide) : ¬ ((1 : Int32) = (0 : Int32)))).1)) ?_
   show own_Rch _ _ _ _ T16 (mkF m 170 #[oI p0, oI p1, oI p2, oI vf, oI vl, oI (1 : Int32), oI vpf, oI vpl, oR b11, oI (1 : Int32)] [])
   refine own_st (fun _ => XS.aload X16.here hx rfl (hb hby at_170) rfl rfl) ?_
   show own_Rch _ _ _ _ T16 (mkF m 172 #[oI p0, oI p1, oI p2, oI vf, oI vl, oI (1 : Int32), oI vpf, oI vpl, oR b11, oI (1 : Int32)] [(.ref b11)])
   refine own_st (fun _ => XS.iload X16.here hx rfl (hb hby at_172) rfl) ?_
   show own_Rch _ _ _ _ T16 (mkF m 174 #[oI p0, oI p1, oI p2, oI vf, oI vl, oI (1 : Int32), oI vpf, oI vpl, oR b11, oI (1 : Int32)] [(.int vl), (.ref b11)])
   refine own_st (fun _ => XS.iconst X16.here hx rfl (hb hby at_174)) ?_
   show own_Rch _ _ _ _ T16 (mkF m 175 #[oI p0, oI p1, oI p2, oI vf, oI vl, oI (1 : Int32), oI vpf, oI vpl, oR b11, oI (1 : Int32)] [(.int (1 : Int32)), (.int vl), (.ref b11)])
   refine own_st (fun _ => XS.iadd X16.here hx rfl (hb hby at_175) rfl) ?_
   show own_Rch _ _ _ _ T16 (mkF m 176 #[oI p0, oI p1, oI p2, oI vf, oI vl, oI (1 : Int32), oI vpf, oI vpl, oR b11, oI (1 : Int32)] [(.int (vl + (1 : Int32))), (.ref b11)])
   refine own_st (fun _ => XS.sipush X16.here hx rfl (hb hby at_176)) ?_
   show own_Rch _ _ _ _ T16 (mkF m 179 #[oI p0, oI p1, oI p2, oI vf, oI vl, oI (1 : Int32), oI vpf, oI vpl, oR b11, oI (1 : Int32)] [(.int (199 : Int32)), (.int (vl + (1 : Int32))), (.ref b11)])
   obtain ⟨cq21, kq21, q21a, q21b, q21c⟩ := isOf hZ hh16 A11_x14
   obtain ⟨_, _, ⟨T21, L21, k21, n21⟩, -, X21, ⟨Lc21, hQ21, l21, y21, z21⟩, st21⟩ := X16.virtualBack hx (y := (⟨"com/example/lightweave/lightweave/LinkSlots$Bits", "busyTo", "(II)I"⟩ : MethodName)) (z := (⟨"com/example/lightweave/lightweave/LinkSlots$Bits", "busyTo", "(II)I"⟩ : MethodName)) hown (mvT hZ (hw _ (own_m 63 rfl))) (mvT hZ (hw _ (own_m 64 rfl))) (notFace_of_selects (args := #[]) (mvT hZ (hw _ (own_m 66 rfl)))) (mvT hZ (hw _ (own_m 66 rfl))) (mvT hZ (hw _ (own_m 65 rfl))) (by decide) (backOf (W := 0) (own_busy l Z a0 hw [] b11 bb12 yy12 ka12 wa14 wb14 wc14 wd14 nx14 (vl + (1 : Int32)) (199 : Int32) T14.heap n0 O0_x14 SA Fu12_x14 ⟨Eb14, Fw14, Fn14, Va14, Wd14⟩ (by omega) (by omega) (by omega)) hZ (hw _ (own_m 67 rfl)) (hw _ (own_m 2 rfl)) (by decide) (by decide)) q21a q21c (g := (mkF m 179 #[oI p0, oI p1, oI p2, oI vf, oI vl, oI (1 : Int32), oI vpf, oI vpl, oR b11, oI (1 : Int32)] [(.int (199 : Int32)), (.int (vl + (1 : Int32))), (.ref b11)])) rfl (by rw [hml]; rfl) (Steps.refl _) (argsL := [(.int (vl + (1 : Int32))), (.int (199 : Int32))]) (rest := []) (lenOf own_pd6 rfl) rfl (by show 2 * 0 + _ ≤ _; exact Nat.le_of_eq rfl) (hb hby at_179) (fun _ _ => ⟨rfl, hh16, (by decide : 3 + 0 ≤ _), (by decide : 9 + 0 ≤ _)⟩)
   dsimp only [Pt.U, Pt.locs, Pt.cells, Pt.slots] at X21 l21 y21 z21 st21 hQ21
   subst l21 y21 z21
   obtain ⟨rr21, rfl, N21q, hh21, bz21⟩ := hQ21
   have N21 := Fr.app N16 N21q
   refine own_st (fun _ => st21.trans) ?_
   show own_Rch _ _ _ _ T21 (mkF m 182 #[oI p0, oI p1, oI p2, oI vf, oI vl, oI (1 : Int32), oI vpf, oI vpl, oR b11, oI (1 : Int32)] [(.int rr21)])
   refine own_st (fun _ => XS.ifNo X21.here hx rfl (hb hby at_182) rfl ((if0 _ _).trans (teq ((Int32.toInt_inj.mp ((own_busy_none (by omega) (fun j h1 h2 q => by have := (HB j).mp q; omega) bz21).trans ci0.symm)) : rr21 = (0 : Int32))).2)) ?_
   show own_Rch _ _ _ _ T21 (mkF m 185 #[oI p0, oI p1, oI p2, oI vf, oI vl, oI (1 : Int32), oI vpf, oI vpl, oR b11, oI (1 : Int32)] [])
   refine own_st (fun _ => XS.iconst X21.here hx rfl (hb hby at_185)) ?_
   show own_Rch _ _ _ _ T21 (mkF m 186 #[oI p0, oI p1, oI p2, oI vf, oI vl, oI (1 : Int32), oI vpf, oI vpl, oR b11, oI (1 : Int32)] [(.int (1 : Int32))])
   refine own_st (fun _ => XS.goto X21.here hx rfl (pc0 := 186) (pc' := 190) rfl (hb hby at_186) (by decide) (by decide)) ?_
   show own_Rch _ _ _ _ T21 (mkF m 190 #[oI p0, oI p1, oI p2, oI vf, oI vl, oI (1 : Int32), oI vpf, oI vpl, oR b11, oI (1 : Int32)] [(.int (1 : Int32))])
   refine own_st (fun _ => XS.istore X21.here hx rfl (hb hby at_190) rfl (l' := #[oI p0, oI p1, oI p2, oI vf, oI vl, oI (1 : Int32), oI vpf, oI vpl, oR b11, oI (1 : Int32)]) rfl) ?_
   show own_Rch _ _ _ _ T21 (mkF m 192 #[oI p0, oI p1, oI p2, oI vf, oI vl, oI (1 : Int32), oI vpf, oI vpl, oR b11, oI (1 : Int32)] [])
   refine own_st (fun _ => XS.iload X21.here hx rfl (hb hby at_192) rfl) ?_
   show own_Rch _ _ _ _ T21 (mkF m 194 #[oI p0, oI p1, oI p2, oI vf, oI vl, oI (1 : Int32), oI vpf, oI vpl, oR b11, oI (1 : Int32)] [(.int (1 : Int32))])
   refine own_st (fun _ => XS.ifNo X21.here hx rfl (hb hby at_194) rfl ((if0 _ _).trans (feq ((by decide) : ¬ ((1 : Int32) = (0 : Int32)))).1)) ?_
   show own_Rch _ _ _ _ T21 (mkF m 197 #[oI p0, oI p1, oI p2, oI vf, oI vl, oI (1 : Int32), oI vpf, oI vpl, oR b11, oI (1 : Int32)] [])
   refine own_st (fun _ => XS.iload X21.here hx rfl (hb hby at_197) rfl) ?_
   show own_Rch _ _ _ _ T21 (mkF m 199 #[oI p0, oI p1, oI p2, oI vf, oI vl, oI (1 : Int32), oI vpf, oI vpl, oR b11, oI (1 : Int32)] [(.int (1 : Int32))])
   refine own_st (fun _ => XS.ifNo X21.here hx rfl (hb hby at_199) rfl ((if0 _ _).trans (feq ((by decide) : ¬ ((1 : Int32) = (0 : Int32)))).1)) ?_
   show own_Rch _ _ _ _ T21 (mkF m 202 #[oI p0, oI p1, oI p2, oI vf, oI vl, oI (1 : Int32), oI vpf, oI vpl, oR b11, oI (1 : Int32)] [])
   refine own_st (fun _ => XS.aload X21.here hx rfl (hb hby at_202) rfl rfl) ?_
   show own_Rch _ _ _ _ T21 (mkF m 204 #[oI p0, oI p1, oI p2, oI vf, oI vl, oI (1 : Int32), oI vpf, oI vpl, oR b11, oI (1 : Int32)] [(.ref b11)])
   refine own_st (fun _ => XS.iload X21.here hx rfl (hb hby at_204) rfl) ?_
   show own_Rch _ _ _ _ T21 (mkF m 206 #[oI p0, oI p1, oI p2, oI vf, oI vl, oI (1 : Int32), oI vpf, oI vpl, oR b11, oI (1 : Int32)] [(.int vpf), (.ref b11)])
   refine own_st (fun _ => XS.iload X21.here hx rfl (hb hby at_206) rfl) ?_
   show own_Rch _ _ _ _ T21 (mkF m 208 #[oI p0, oI p1, oI p2, oI vf, oI vl, oI (1 : Int32), oI vpf, oI vpl, oR b11, oI (1 : Int32)] [(.int vpf), (.int vpf), (.ref b11)])
   obtain ⟨cq22, kq22, q22a, q22b, q22c⟩ := isOf hZ hh21 A11_x14
   obtain ⟨_, _, ⟨T22, L22, k22, n22⟩, -, X22, ⟨Lc22, hQ22, l22, y22, z22⟩, st22⟩ := X21.virtualBack hx (y := (⟨"com/example/lightweave/lightweave/LinkSlots$Bits", "busyTo", "(II)I"⟩ : MethodName)) (z := (⟨"com/example/lightweave/lightweave/LinkSlots$Bits", "busyTo", "(II)I"⟩ : MethodName)) hown (mvT hZ (hw _ (own_m 63 rfl))) (mvT hZ (hw _ (own_m 64 rfl))) (notFace_of_selects (args := #[]) (mvT hZ (hw _ (own_m 66 rfl)))) (mvT hZ (hw _ (own_m 66 rfl))) (mvT hZ (hw _ (own_m 65 rfl))) (by decide) (backOf (W := 0) (own_busy l Z a0 hw [] b11 bb12 yy12 ka12 wa14 wb14 wc14 wd14 nx14 vpf vpf T14.heap n0 O0_x14 SA Fu12_x14 ⟨Eb14, Fw14, Fn14, Va14, Wd14⟩ (by omega) (by omega) (by omega)) hZ (hw _ (own_m 67 rfl)) (hw _ (own_m 2 rfl)) (by decide) (by decide)) q22a q22c (g := (mkF m 208 #[oI p0, oI p1, oI p2, oI vf, oI vl, oI (1 : Int32), oI vpf, oI vpl, oR b11, oI (1 : Int32)] [(.int vpf), (.int vpf), (.ref b11)])) rfl (by rw [hml]; rfl) (Steps.refl _) (argsL := [(.int vpf), (.int vpf)]) (rest := []) (lenOf own_pd6 rfl) rfl (by show 2 * 0 + _ ≤ _; exact Nat.le_of_eq rfl) (hb hby at_208) (fun _ _ => ⟨rfl, hh21, (by decide : 3 + 0 ≤ _), (by decide : 9 + 0 ≤ _)⟩)
   dsimp only [Pt.U, Pt.locs, Pt.cells, Pt.slots] at X22 l22 y22 z22 st22 hQ22
   subst l22 y22 z22
   obtain ⟨rr22, rfl, N22q, hh22, bz22⟩ := hQ22
   have N22 := Fr.app N21 N22q
   refine own_st (fun _ => st22.trans) ?_
   show own_Rch _ _ _ _ T22 (mkF m 211 #[oI p0, oI p1, oI p2, oI vf, oI vl, oI (1 : Int32), oI vpf, oI vpl, oR b11, oI (1 : Int32)] [(.int rr22)])
   refine own_st (fun _ => XS.iload X22.here hx rfl (hb hby at_211) rfl) ?_
   show own_Rch _ _ _ _ T22 (mkF m 213 #[oI p0, oI p1, oI p2, oI vf, oI vl, oI (1 : Int32), oI vpf, oI vpl, oR b11, oI (1 : Int32)] [(.int vpl), (.int rr22)])
   refine own_st (fun _ => XS.icmpNo X22.here hx rfl (hb hby at_213) rfl (teq ((Int32.toInt_inj.mp (own_busy_hit (by omega) (by omega) (fun j h1 h2 => (HB j).mpr (by omega)) (fun j h1 q => by have := (HB j).mp q; omega) bz22)) : rr22 = vpl)).2) ?_
   show own_Rch _ _ _ _ T22 (mkF m 216 #[oI p0, oI p1, oI p2, oI vf, oI vl, oI (1 : Int32), oI vpf, oI vpl, oR b11, oI (1 : Int32)] [])
   refine own_st (fun _ => XS.iconst X22.here hx rfl (hb hby at_216)) ?_
   show own_Rch _ _ _ _ T22 (mkF m 217 #[oI p0, oI p1, oI p2, oI vf, oI vl, oI (1 : Int32), oI vpf, oI vpl, oR b11, oI (1 : Int32)] [(.int (1 : Int32))])
   refine own_st (fun _ => XS.goto X22.here hx rfl (pc0 := 217) (pc' := 221) rfl (hb hby at_217) (by decide) (by decide)) ?_
   show own_Rch _ _ _ _ T22 (mkF m 221 #[oI p0, oI p1, oI p2, oI vf, oI vl, oI (1 : Int32), oI vpf, oI vpl, oR b11, oI (1 : Int32)] [(.int (1 : Int32))])
   refine own_st (fun _ => XS.istore X22.here hx rfl (hb hby at_221) rfl (l' := #[oI p0, oI p1, oI p2, oI vf, oI vl, oI (1 : Int32), oI vpf, oI vpl, oR b11, oI (1 : Int32)]) rfl) ?_
   show own_Rch _ _ _ _ T22 (mkF m 223 #[oI p0, oI p1, oI p2, oI vf, oI vl, oI (1 : Int32), oI vpf, oI vpl, oR b11, oI (1 : Int32)] [])
   refine own_st (fun _ => XS.iload X22.here hx rfl (hb hby at_223) rfl) ?_
   show own_Rch _ _ _ _ T22 (mkF m 225 #[oI p0, oI p1, oI p2, oI vf, oI vl, oI (1 : Int32), oI vpf, oI vpl, oR b11, oI (1 : Int32)] [(.int (1 : Int32))])
   refine own_retN (t := .boolean) (by simp) X22 hx Bd.notSynchronized Bd.returns (hb hby at_225) (by decide) (by decide) ?_
   rw [hh22]
   exact ⟨rfl, N22⟩
set_option maxRecDepth 65536 in
set_option maxHeartbeats 40000000 in
theorem own_comes {Post : Tables → Env → Array Value → State → Outcome → State → Prop} (hpost : ∀ tb e args s v u, (limb_1_1.after args s (.returned v) u = true ∧ limb_1_2.after args s (.returned v) u = true ∧ True) → FrameEnd s (.returned v) u (Jvm.fieldLocs frame_1_writes args s ++ Jvm.arrayLocs frame_1_arrays args s ++ Jvm.staticLocs frame_1_statics s) 16 128 → Post tb e args s (.returned v) u) :
    ArmFor flags0 classFile x code maxLocals ret World_1 tables_1 room_1 Calls_1 rest_1 Pre_1 Post := by
  intro l hfl _ _ p e ha hc hk s m args below hf hA hF happ hP
  obtain ⟨hcalls, hrest, hpre⟩ := hP
  obtain ⟨-, -, -, hnamed, -, -, -, hat⟩ := (Spec.applies_iff hf).mp happ
  obtain ⟨hg, hn⟩ := and_e (Cond.before_iff.mp (show (Jvm.Cond.and given_1 narrow_1).before args s = true from hpre))
  obtain ⟨g0, g1⟩ := and_e hg
  obtain ⟨g2, g3⟩ := and_e g1
  obtain ⟨g4, g5⟩ := and_e g3
  obtain ⟨w0, w1, w2, rfl⟩ : ∃ w0 w1 w2 : Value, args = #[w0, w1, w2] := by
    have hs : args.size = 3 := by simpa [Cond.value, given_1] using g0
    obtain ⟨L⟩ := args
    match L, hs with
    | [w0, w1, w2], _ => exact ⟨w0, w1, w2, rfl⟩
  have hw := fun d (hd : d ∈ tables_1) => atoms_spec (ws := Jvm.Cond.code x code maxLocals ret :: tables_1) hat d (List.mem_cons_of_mem _ hd)
  have hfit : Fit s := fun {y c} hc i hi => by
    obtain ⟨ha, rfl⟩ := Array.getElem?_eq_some_iff.mp hc
    have q := List.all_eq_true.mp ((Array.all_eq_true_iff_forall_mem.mp hF) _ (Array.getElem_mem ha)) i (List.mem_range.mpr hi)
    simpa [Array.getElem?_eq_getElem hi] using q
  obtain ⟨hsets, hown0⟩ := atoms_of _ (rest_1_c_eq ▸ (show rest_1_c.before _ s = true from hrest))
  have hr0 := Cond.before_iff.mp hown0
  obtain ⟨i0, ei0⟩ := is_v g2
  obtain rfl : w0 = (.int i0) := Option.some.inj ei0
  obtain ⟨i1, ei1⟩ := is_v g4
  obtain rfl : w1 = (.int i1) := Option.some.inj ei1
  obtain ⟨i2, ei2⟩ := is_v g5
  obtain rfl : w2 = (.int i2) := Option.some.inj ei2
  have SA := Sta.start (own_steq (Cond.before_iff.mp (hsets _ (own_m 2 rfl)))) (Or.inr ⟨(hw _ (own_m 11 rfl)), (hsets _ (own_m 0 rfl))⟩)
  obtain ⟨n, o, h1, h2, h3, _, L, rfl, ⟨rfl, N⟩, hq⟩ := own_rm0 l s _ hw tables_1 i0 i1 i2 s.heap s.heap.size (Old.start s) SA p e ha hc hk s m _ below hf ((Spec.applies_iff_loose hf).mp happ).1 ⟨rfl, State.Warmed39.refl s, rfl⟩ trivial
  refine ⟨n, _, h1, h2, h3, hpost _ _ _ _ _ _ ⟨Cond.after_iff.mpr rfl, Cond.after_iff.mpr (eq_i res_at (Term.int_eval (1)) rfl), trivial⟩ ⟨hq.1, hq.2.1, (hq.2.2.sift fun y hy => Or.inr (N y hy)).mono (by decide) (by decide)⟩⟩
theorem main_1_1 : Claimed_1_1 := own_comes fun _ _ _ _ _ _ h hF => ⟨h.1, hF⟩
theorem main_1_2 : Claimed_1_2 := own_comes fun _ _ _ _ _ _ h hF => ⟨h.2.1, hF⟩
end Jvm.Pilot.@@N@@
namespace Jvm.Pilot.@@N@@
open Jvm Jvm.ClassFile Sem Op Lib Jvm.Free Jvm.Stand Jvm.Pilot.@@N@@.Jvm.D
/-! MADE BY PROGRAM (witnessworld.py) out of the Statement's table words and the real class files: 20 classes; the members and pool entries that the words name. The judged class is class 1, her method 1. -/
namespace start1
open Jvm.ClassFile
def u (s : String) : CpInfo := .utf8 (stringToUtf16 s)
/-- a pool by its gaps: so many unusable entries, then the entry; so many at the end -/
def gap : Nat → List CpInfo → List CpInfo
  | 0, r => r
  | n + 1, r => .unusable :: gap n r
def poolList (es : List (Nat × CpInfo)) (last : Nat) : List CpInfo := es.foldr (fun e r => gap e.1 (e.2 :: r)) (gap last [])
def pool (es : List (Nat × CpInfo)) (last : Nat) : Array CpInfo := ⟨poolList es last⟩
def fileOf (pool : Array CpInfo) (this : Nat) (attrs : Array Attribute := #[]) (ms : Array MethodInfo := #[]) (fl : Nat := 33) (sup : Nat := 0) (ifs : Array Nat := #[]) (fds : Array FieldInfo := #[]) : ClassFile where
  minorVersion := 0
  majorVersion := 65
  constantPool := pool
  accessFlags := fl
  thisClass := this
  superClass := sup
  interfaces := ifs
  fields := fds
  methods := ms
  attributes := attrs
def plain (name : String) (sup : Option ClassId) : Class where
  name := name
  kind := .ordinary
  loader := none
  accessFlags := 33
  super := sup
  interfaces := #[]
  cf := none
  fields := #[]
  methods := #[]
  instanceTypes := #[]
  staticTypes := #[]
  resolved := #[]
  callSites := []
  init := .initialized
  statics := none
  mirror := none

def pool0 : Array CpInfo := pool [(5, u "<init>"), (0, u "()V"), (1, .class_ 10), (1, u "java/lang/Object")] 113

def k0c0 : Code := { maxStack := 0, maxLocals := 1, code := object_method_1_code, exceptionTable := #[], attributes := #[] }
def k0m0 : Method := { name := "<init>", desc := "()V", sig := { parameters := [], returnType := none }, accessFlags := 1, code := some k0c0 }
/-- java/lang/Object -/
def k0 : Class := { plain "java/lang/Object" none with
  accessFlags := 33
  interfaces := #[]
  cf := some (fileOf pool0 8 #[] #[{ accessFlags := 1, nameIndex := 5, descriptorIndex := 6, attributes := #[] }] 33 0 #[] #[])
  fields := #[]
  methods := #[k0m0]
  instanceTypes := #[]
  staticTypes := #[]
  resolved := Array.replicate 124 none
  statics := none }

def pool1 : Array CpInfo := pool [(2, .class_ 4), (1, u "java/lang/Object"), (0, u "<init>"), (0, u "()V"), (0, .class_ 8), (0, u "com/example/lightweave/lightweave/LinkSlots$Bits"), (0, .methodref 7 10), (0, .nameAndType 5 11), (0, u "(I)V"), (0, .methodref 7 13), (0, .nameAndType 14 15), (0, u "occupy"), (0, u "(II)V"), (0, .methodref 7 17), (0, .nameAndType 18 19), (0, u "busyTo"), (0, u "(II)I"), (0, .methodref 7 21), (0, .nameAndType 22 23), (0, u "top"), (0, u "()I"), (0, .class_ 25), (0, u "com/example/lightweave/lightweave/BitsOccupyPinLaw"), (2, u "law"), (0, u "(III)Z")] 7

def k1m0 : Method := { name := "<init>", desc := "()V", sig := { parameters := [], returnType := none }, accessFlags := 1, code := none }
def k1c1 : Code := { maxStack := 4, maxLocals := 10, code := code, exceptionTable := #[], attributes := #[] }
def k1m1 : Method := { name := "law", desc := "(III)Z", sig := { parameters := [.int, .int, .int], returnType := some .boolean }, accessFlags := 9, code := some k1c1 }
/-- com/example/lightweave/lightweave/BitsOccupyPinLaw -/
def k1 : Class := { plain "com/example/lightweave/lightweave/BitsOccupyPinLaw" (some 0) with
  accessFlags := 49
  interfaces := #[]
  cf := some (fileOf pool1 24 #[] #[{ accessFlags := 1, nameIndex := 5, descriptorIndex := 6, attributes := #[] }, { accessFlags := 9, nameIndex := 28, descriptorIndex := 29, attributes := #[] }] 49 2 #[] #[])
  fields := #[]
  methods := #[k1m0, k1m1]
  instanceTypes := #[]
  staticTypes := #[]
  resolved := Array.replicate 37 none
  statics := none }

def pool2 : Array CpInfo := pool [(1, .class_ 2), (0, u "com/example/lightweave/lightweave/LinkSlots"), (0, .class_ 4), (0, u "java/lang/Object"), (12, .class_ 18), (0, u "com/example/lightweave/lightweave/LinkSlots$Bits"), (0, .class_ 20), (0, u "com/example/lightweave/lightweave/LinkSlots$Blocks")] 4

/-- com/example/lightweave/lightweave/LinkSlots -/
def k2 : Class := { plain "com/example/lightweave/lightweave/LinkSlots" (some 0) with
  accessFlags := 1536
  interfaces := #[]
  cf := some (fileOf pool2 1 #[.nestMembers #[17, 19]] #[] 1536 3 #[] #[])
  fields := #[]
  methods := #[]
  instanceTypes := #[]
  staticTypes := #[]
  resolved := Array.replicate 25 none
  statics := none }

def pool3 : Array CpInfo := pool [(1, .methodref 2 3), (0, .class_ 4), (0, .nameAndType 5 6), (0, u "java/lang/Object"), (0, u "<init>"), (0, u "()V"), (0, .class_ 8), (0, u "java/util/BitSet"), (0, .methodref 7 10), (0, .nameAndType 5 11), (0, u "(I)V"), (0, .fieldref 13 14), (0, .class_ 15), (0, .nameAndType 16 17), (0, u "com/example/lightweave/lightweave/LinkSlots$Bits"), (0, u "used"), (0, u "Ljava/util/BitSet;"), (0, .methodref 7 19), (0, .nameAndType 20 21), (0, u "previousSetBit"), (0, u "(I)I"), (0, .methodref 7 23), (0, .nameAndType 24 21), (0, u "nextClearBit"), (4, .methodref 7 30), (0, .nameAndType 31 32), (0, u "length"), (0, u "()I"), (0, .methodref 34 35), (0, .class_ 36), (0, .nameAndType 37 38), (0, u "java/lang/Math"), (0, u "max"), (0, u "(II)I"), (0, .methodref 7 40), (0, .nameAndType 41 42), (0, u "set"), (0, u "(II)V"), (10, .class_ 54), (0, u "com/example/lightweave/lightweave/LinkSlots"), (2, u "busyTo"), (2, u "top"), (0, u "occupy")] 7

def k3c0 : Code := { maxStack := 5, maxLocals := 2, code := prog_35_method_1_code, exceptionTable := #[], attributes := #[] }
def k3m0 : Method := { name := "<init>", desc := "(I)V", sig := { parameters := [.int], returnType := none }, accessFlags := 0, code := some k3c0 }
def k3c1 : Code := { maxStack := 2, maxLocals := 4, code := prog_35_method_2_code, exceptionTable := #[], attributes := #[] }
def k3m1 : Method := { name := "busyTo", desc := "(II)I", sig := { parameters := [.int, .int], returnType := some .int }, accessFlags := 1, code := some k3c1 }
def k3c2 : Code := { maxStack := 3, maxLocals := 1, code := prog_35_method_4_code, exceptionTable := #[], attributes := #[] }
def k3m2 : Method := { name := "top", desc := "()I", sig := { parameters := [], returnType := some .int }, accessFlags := 1, code := some k3c2 }
def k3c3 : Code := { maxStack := 4, maxLocals := 3, code := prog_35_method_5_code, exceptionTable := #[], attributes := #[] }
def k3m3 : Method := { name := "occupy", desc := "(II)V", sig := { parameters := [.int, .int], returnType := none }, accessFlags := 1, code := some k3c3 }
/-- com/example/lightweave/lightweave/LinkSlots$Bits -/
def k3 : Class := { plain "com/example/lightweave/lightweave/LinkSlots$Bits" (some 0) with
  accessFlags := 49
  interfaces := #[2]
  cf := some (fileOf pool3 13 #[.nestHost 53] #[{ accessFlags := 0, nameIndex := 5, descriptorIndex := 11, attributes := #[] }, { accessFlags := 1, nameIndex := 57, descriptorIndex := 38, attributes := #[] }, { accessFlags := 1, nameIndex := 60, descriptorIndex := 32, attributes := #[] }, { accessFlags := 1, nameIndex := 61, descriptorIndex := 42, attributes := #[] }] 49 2 #[53] #[{ accessFlags := 18, nameIndex := 16, descriptorIndex := 17, attributes := #[] }])
  fields := #[{ name := "used", type := (.object "java/util/BitSet"), accessFlags := 18, slot := 0, constantValue := 0 }]
  methods := #[k3m0, k3m1, k3m2, k3m3]
  instanceTypes := #[(.object "java/util/BitSet")]
  staticTypes := #[]
  resolved := Array.replicate 69 none
  statics := none }

def pool4 : Array CpInfo := pool [(1, .class_ 2), (0, u "java/lang/Cloneable"), (0, .class_ 4), (0, u "java/lang/Object")] 2

/-- java/lang/Cloneable -/
def k4 : Class := { plain "java/lang/Cloneable" (some 0) with
  accessFlags := 1537
  interfaces := #[]
  cf := some (fileOf pool4 1 #[] #[] 1537 3 #[] #[])
  fields := #[]
  methods := #[]
  instanceTypes := #[]
  staticTypes := #[]
  resolved := Array.replicate 7 none
  statics := none }

def pool5 : Array CpInfo := pool [(1, .class_ 2), (0, u "java/io/Serializable"), (0, .class_ 4), (0, u "java/lang/Object")] 2

/-- java/io/Serializable -/
def k5 : Class := { plain "java/io/Serializable" (some 0) with
  accessFlags := 1537
  interfaces := #[]
  cf := some (fileOf pool5 1 #[] #[] 1537 3 #[] #[])
  fields := #[]
  methods := #[]
  instanceTypes := #[]
  staticTypes := #[]
  resolved := Array.replicate 7 none
  statics := none }

def pool6 : Array CpInfo := pool [(1, .class_ 2), (0, u "java/util/BitSet"), (0, .fieldref 1 4), (0, .nameAndType 5 6), (0, u "$assertionsDisabled"), (0, u "Z"), (0, .fieldref 1 8), (0, .nameAndType 9 10), (0, u "wordsInUse"), (0, u "I"), (0, .fieldref 1 12), (0, .nameAndType 13 14), (0, u "words"), (0, u "[J"), (3, .nameAndType 19 20), (0, u "<init>"), (0, u "()V"), (0, .methodref 22 18), (0, .class_ 23), (0, u "java/lang/Object"), (0, .fieldref 1 25), (0, .nameAndType 26 6), (0, u "sizeIsSticky"), (0, .methodref 1 28), (0, .nameAndType 29 30), (0, u "initWords"), (0, u "(I)V"), (21, .methodref 1 53), (0, .nameAndType 54 55), (0, u "wordIndex"), (0, u "(I)I"), (0, .methodref 1 57), (0, .nameAndType 58 20), (0, u "checkInvariants"), (18, u "()I"), (61, .methodref 1 140), (0, .nameAndType 141 30), (0, u "ensureCapacity"), (13, .methodref 1 156), (0, .nameAndType 157 30), (0, u "expandTo"), (3, .methodref 1 162), (0, .nameAndType 163 164), (0, u "checkRange"), (0, u "(II)V"), (0, .long 18446744073709551615), (3, u "set"), (7, .methodref 1 178), (0, .nameAndType 179 77), (0, u "length"), (2, .methodref 183 184), (0, .class_ 185), (0, .nameAndType 186 187), (0, u "java/lang/Long"), (0, u "numberOfTrailingZeros"), (0, u "(J)I"), (2, .methodref 183 191), (0, .nameAndType 192 187), (0, u "numberOfLeadingZeros"), (73, u "nextClearBit"), (2, .class_ 270), (0, u "java/util/BitSet$1BitSetSpliterator"), (22, u "serialPersistentFields"), (0, u "[Ljava/io/ObjectStreamField;"), (0, .class_ 296), (0, u "java/lang/Cloneable"), (0, .class_ 298), (0, u "java/io/Serializable"), (0, u "ADDRESS_BITS_PER_WORD"), (2, u "BITS_PER_WORD"), (1, u "BIT_INDEX_MASK"), (1, u "WORD_MASK"), (0, u "J"), (0, u "serialVersionUID"), (50, u "previousSetBit")] 57

def k6c0 : Code := { maxStack := 2, maxLocals := 1, code := jdk_92_method_1_code, exceptionTable := #[], attributes := #[] }
def k6m0 : Method := { name := "wordIndex", desc := "(I)I", sig := { parameters := [.int], returnType := some .int }, accessFlags := 10, code := some k6c0 }
def k6c1 : Code := { maxStack := 4, maxLocals := 1, code := jdk_92_method_2_code, exceptionTable := #[], attributes := #[] }
def k6m1 : Method := { name := "checkInvariants", desc := "()V", sig := { parameters := [], returnType := none }, accessFlags := 2, code := some k6c1 }
def k6m2 : Method := { name := "<init>", desc := "()V", sig := { parameters := [], returnType := none }, accessFlags := 1, code := none }
def k6c3 : Code := { maxStack := 4, maxLocals := 2, code := jdk_92_method_5_code, exceptionTable := #[], attributes := #[] }
def k6m3 : Method := { name := "<init>", desc := "(I)V", sig := { parameters := [.int], returnType := none }, accessFlags := 1, code := some k6c3 }
def k6c4 : Code := { maxStack := 3, maxLocals := 2, code := jdk_92_method_6_code, exceptionTable := #[], attributes := #[] }
def k6m4 : Method := { name := "initWords", desc := "(I)V", sig := { parameters := [.int], returnType := none }, accessFlags := 2, code := some k6c4 }
def k6c5 : Code := { maxStack := 3, maxLocals := 3, code := jdk_92_method_14_code, exceptionTable := #[], attributes := #[] }
def k6m5 : Method := { name := "ensureCapacity", desc := "(I)V", sig := { parameters := [.int], returnType := none }, accessFlags := 2, code := some k6c5 }
def k6c6 : Code := { maxStack := 2, maxLocals := 3, code := jdk_92_method_15_code, exceptionTable := #[], attributes := #[] }
def k6m6 : Method := { name := "expandTo", desc := "(I)V", sig := { parameters := [.int], returnType := none }, accessFlags := 2, code := some k6c6 }
def k6c7 : Code := { maxStack := 4, maxLocals := 2, code := jdk_92_method_16_code, exceptionTable := #[], attributes := #[] }
def k6m7 : Method := { name := "checkRange", desc := "(II)V", sig := { parameters := [.int, .int], returnType := none }, accessFlags := 10, code := some k6c7 }
def k6c8 : Code := { maxStack := 8, maxLocals := 10, code := jdk_92_method_21_code, exceptionTable := #[], attributes := #[] }
def k6m8 : Method := { name := "set", desc := "(II)V", sig := { parameters := [.int, .int], returnType := none }, accessFlags := 1, code := some k6c8 }
def k6c9 : Code := { maxStack := 5, maxLocals := 5, code := jdk_92_method_29_code, exceptionTable := #[], attributes := #[] }
def k6m9 : Method := { name := "nextClearBit", desc := "(I)I", sig := { parameters := [.int], returnType := some .int }, accessFlags := 1, code := some k6c9 }
def k6c10 : Code := { maxStack := 6, maxLocals := 5, code := jdk_92_method_30_code, exceptionTable := #[], attributes := #[] }
def k6m10 : Method := { name := "previousSetBit", desc := "(I)I", sig := { parameters := [.int], returnType := some .int }, accessFlags := 1, code := some k6c10 }
def k6c11 : Code := { maxStack := 5, maxLocals := 1, code := jdk_92_method_32_code, exceptionTable := #[], attributes := #[] }
def k6m11 : Method := { name := "length", desc := "()I", sig := { parameters := [], returnType := some .int }, accessFlags := 1, code := some k6c11 }
/-- java/util/BitSet -/
def k6 : Class := { plain "java/util/BitSet" (some 0) with
  accessFlags := 33
  interfaces := #[4, 5]
  cf := some (fileOf pool6 1 #[.nestMembers #[269]] #[{ accessFlags := 10, nameIndex := 54, descriptorIndex := 55, attributes := #[] }, { accessFlags := 2, nameIndex := 58, descriptorIndex := 20, attributes := #[] }, { accessFlags := 1, nameIndex := 19, descriptorIndex := 20, attributes := #[] }, { accessFlags := 1, nameIndex := 19, descriptorIndex := 30, attributes := #[] }, { accessFlags := 2, nameIndex := 29, descriptorIndex := 30, attributes := #[] }, { accessFlags := 2, nameIndex := 141, descriptorIndex := 30, attributes := #[] }, { accessFlags := 2, nameIndex := 157, descriptorIndex := 30, attributes := #[] }, { accessFlags := 10, nameIndex := 163, descriptorIndex := 164, attributes := #[] }, { accessFlags := 1, nameIndex := 169, descriptorIndex := 164, attributes := #[] }, { accessFlags := 1, nameIndex := 266, descriptorIndex := 55, attributes := #[] }, { accessFlags := 1, nameIndex := 359, descriptorIndex := 55, attributes := #[] }, { accessFlags := 1, nameIndex := 179, descriptorIndex := 77, attributes := #[] }] 33 22 #[295, 297] #[{ accessFlags := 26, nameIndex := 299, descriptorIndex := 10, attributes := #[] }, { accessFlags := 26, nameIndex := 302, descriptorIndex := 10, attributes := #[] }, { accessFlags := 26, nameIndex := 304, descriptorIndex := 10, attributes := #[] }, { accessFlags := 26, nameIndex := 306, descriptorIndex := 307, attributes := #[] }, { accessFlags := 26, nameIndex := 293, descriptorIndex := 294, attributes := #[] }, { accessFlags := 2, nameIndex := 13, descriptorIndex := 14, attributes := #[] }, { accessFlags := 130, nameIndex := 9, descriptorIndex := 10, attributes := #[] }, { accessFlags := 130, nameIndex := 26, descriptorIndex := 6, attributes := #[] }, { accessFlags := 26, nameIndex := 308, descriptorIndex := 307, attributes := #[] }, { accessFlags := 4120, nameIndex := 5, descriptorIndex := 6, attributes := #[] }])
  fields := #[{ name := "ADDRESS_BITS_PER_WORD", type := .int, accessFlags := 26, slot := 0, constantValue := 0 }, { name := "BITS_PER_WORD", type := .int, accessFlags := 26, slot := 1, constantValue := 0 }, { name := "BIT_INDEX_MASK", type := .int, accessFlags := 26, slot := 2, constantValue := 0 }, { name := "WORD_MASK", type := .long, accessFlags := 26, slot := 3, constantValue := 0 }, { name := "serialPersistentFields", type := (.array (.object "java/io/ObjectStreamField")), accessFlags := 26, slot := 4, constantValue := 0 }, { name := "words", type := (.array .long), accessFlags := 2, slot := 0, constantValue := 0 }, { name := "wordsInUse", type := .int, accessFlags := 130, slot := 1, constantValue := 0 }, { name := "sizeIsSticky", type := .boolean, accessFlags := 130, slot := 2, constantValue := 0 }, { name := "serialVersionUID", type := .long, accessFlags := 26, slot := 5, constantValue := 0 }, { name := "$assertionsDisabled", type := .boolean, accessFlags := 4120, slot := 6, constantValue := 0 }]
  methods := #[k6m0, k6m1, k6m2, k6m3, k6m4, k6m5, k6m6, k6m7, k6m8, k6m9, k6m10, k6m11]
  instanceTypes := #[(.array .long), .int, .boolean]
  staticTypes := #[.int, .int, .int, .long, (.array (.object "java/io/ObjectStreamField")), .long, .boolean]
  resolved := Array.replicate 417 none
  statics := some 0 }

def pool7 : Array CpInfo := pool [(2, .class_ 4), (1, u "java/lang/Object"), (0, u "<init>"), (0, u "()V"), (1, .class_ 10), (1, u "java/lang/Number"), (2, .class_ 14), (0, u "java/io/Serializable"), (0, u "serialVersionUID"), (0, u "J")] 20

def k7m0 : Method := { name := "<init>", desc := "()V", sig := { parameters := [], returnType := none }, accessFlags := 1, code := none }
/-- java/lang/Number -/
def k7 : Class := { plain "java/lang/Number" (some 0) with
  accessFlags := 1057
  interfaces := #[5]
  cf := some (fileOf pool7 8 #[] #[{ accessFlags := 1, nameIndex := 5, descriptorIndex := 6, attributes := #[] }] 1057 2 #[13] #[{ accessFlags := 26, nameIndex := 15, descriptorIndex := 16, attributes := #[] }])
  fields := #[{ name := "serialVersionUID", type := .long, accessFlags := 26, slot := 0, constantValue := 0 }]
  methods := #[k7m0]
  instanceTypes := #[]
  staticTypes := #[.long]
  resolved := Array.replicate 37 none
  statics := none }

def pool8 : Array CpInfo := pool [(1, .class_ 2), (0, u "java/lang/Comparable"), (0, .class_ 4), (0, u "java/lang/Object")] 7

/-- java/lang/Comparable -/
def k8 : Class := { plain "java/lang/Comparable" (some 0) with
  accessFlags := 1537
  interfaces := #[]
  cf := some (fileOf pool8 1 #[] #[] 1537 3 #[] #[])
  fields := #[]
  methods := #[]
  instanceTypes := #[]
  staticTypes := #[]
  resolved := Array.replicate 12 none
  statics := none }

def pool9 : Array CpInfo := pool [(1, .class_ 2), (0, u "java/lang/constant/Constable"), (0, .class_ 4), (0, u "java/lang/Object")] 6

/-- java/lang/constant/Constable -/
def k9 : Class := { plain "java/lang/constant/Constable" (some 0) with
  accessFlags := 1537
  interfaces := #[]
  cf := some (fileOf pool9 1 #[] #[] 1537 3 #[] #[])
  fields := #[]
  methods := #[]
  instanceTypes := #[]
  staticTypes := #[]
  resolved := Array.replicate 11 none
  statics := none }

def pool10 : Array CpInfo := pool [(1, .class_ 2), (0, u "java/lang/constant/ConstantDesc"), (0, .class_ 4), (0, u "java/lang/Object")] 32

/-- java/lang/constant/ConstantDesc -/
def k10 : Class := { plain "java/lang/constant/ConstantDesc" (some 0) with
  accessFlags := 1537
  interfaces := #[]
  cf := some (fileOf pool10 1 #[] #[] 1537 3 #[] #[])
  fields := #[]
  methods := #[]
  instanceTypes := #[]
  staticTypes := #[]
  resolved := Array.replicate 37 none
  statics := none }

def pool11 : Array CpInfo := pool [(1, .class_ 2), (0, u "java/lang/Long"), (15, .class_ 20), (1, u "java/lang/Integer"), (79, u "numberOfLeadingZeros"), (0, u "(J)I"), (133, .class_ 237), (1, u "java/lang/Long$LongCache"), (33, .class_ 272), (0, u "java/lang/Number"), (2, u "value"), (0, u "J"), (31, .methodref 18 309), (0, .nameAndType 100 310), (0, u "(I)I"), (0, .methodref 18 312), (0, .nameAndType 313 310), (0, u "numberOfTrailingZeros"), (47, u "TYPE"), (0, u "Ljava/lang/Class;"), (0, .class_ 364), (0, u "java/lang/Comparable"), (0, .class_ 366), (0, u "java/lang/constant/Constable"), (0, .class_ 368), (0, u "java/lang/constant/ConstantDesc"), (0, u "MIN_VALUE"), (1, u "MAX_VALUE"), (4, u "SIZE"), (0, u "I"), (1, u "BYTES"), (1, u "serialVersionUID")] 142

def k11c0 : Code := { maxStack := 3, maxLocals := 3, code := jdk_35_method_48_code, exceptionTable := #[], attributes := #[] }
def k11m0 : Method := { name := "numberOfLeadingZeros", desc := "(J)I", sig := { parameters := [.long], returnType := some .int }, accessFlags := 9, code := some k11c0 }
def k11c1 : Code := { maxStack := 4, maxLocals := 3, code := jdk_35_method_49_code, exceptionTable := #[], attributes := #[] }
def k11m1 : Method := { name := "numberOfTrailingZeros", desc := "(J)I", sig := { parameters := [.long], returnType := some .int }, accessFlags := 9, code := some k11c1 }
/-- java/lang/Long -/
def k11 : Class := { plain "java/lang/Long" (some 7) with
  accessFlags := 49
  interfaces := #[8, 9, 10]
  cf := some (fileOf pool11 1 #[.nestMembers #[235]] #[{ accessFlags := 9, nameIndex := 100, descriptorIndex := 101, attributes := #[] }, { accessFlags := 9, nameIndex := 313, descriptorIndex := 101, attributes := #[] }] 49 271 #[363, 365, 367] #[{ accessFlags := 25, nameIndex := 369, descriptorIndex := 276, attributes := #[] }, { accessFlags := 25, nameIndex := 371, descriptorIndex := 276, attributes := #[] }, { accessFlags := 25, nameIndex := 361, descriptorIndex := 362, attributes := #[] }, { accessFlags := 18, nameIndex := 275, descriptorIndex := 276, attributes := #[] }, { accessFlags := 25, nameIndex := 376, descriptorIndex := 377, attributes := #[] }, { accessFlags := 25, nameIndex := 379, descriptorIndex := 377, attributes := #[] }, { accessFlags := 26, nameIndex := 381, descriptorIndex := 276, attributes := #[] }])
  fields := #[{ name := "MIN_VALUE", type := .long, accessFlags := 25, slot := 0, constantValue := 0 }, { name := "MAX_VALUE", type := .long, accessFlags := 25, slot := 1, constantValue := 0 }, { name := "TYPE", type := (.object "java/lang/Class"), accessFlags := 25, slot := 2, constantValue := 0 }, { name := "value", type := .long, accessFlags := 18, slot := 0, constantValue := 0 }, { name := "SIZE", type := .int, accessFlags := 25, slot := 3, constantValue := 0 }, { name := "BYTES", type := .int, accessFlags := 25, slot := 4, constantValue := 0 }, { name := "serialVersionUID", type := .long, accessFlags := 26, slot := 5, constantValue := 0 }]
  methods := #[k11m0, k11m1]
  instanceTypes := #[.long]
  staticTypes := #[.long, .long, (.object "java/lang/Class"), .int, .int, .long]
  resolved := Array.replicate 524 none
  statics := none }

def pool12 : Array CpInfo := pool [(1, .class_ 2), (0, u "java/lang/Integer"), (16, u "digits"), (0, u "[C"), (32, u "numberOfLeadingZeros"), (0, u "(I)I"), (30, u "DigitOnes"), (0, u "[B"), (2, u "DigitTens"), (99, .class_ 190), (0, u "java/lang/Integer$IntegerCache"), (3, u "I"), (8, .class_ 204), (0, u "java/lang/Number"), (2, u "value"), (56, .integer 65536), (37, u "TYPE"), (0, u "Ljava/lang/Class;"), (0, .class_ 305), (0, u "java/lang/Comparable"), (0, .class_ 307), (0, u "java/lang/constant/Constable"), (0, .class_ 309), (0, u "java/lang/constant/ConstantDesc"), (0, u "MIN_VALUE"), (1, u "MAX_VALUE"), (3, u "SIZE"), (1, u "BYTES"), (1, u "serialVersionUID"), (0, u "J"), (84, u "numberOfTrailingZeros")] 46

def k12c0 : Code := { maxStack := 3, maxLocals := 2, code := jdk_33_method_47_code, exceptionTable := #[], attributes := #[] }
def k12m0 : Method := { name := "numberOfLeadingZeros", desc := "(I)I", sig := { parameters := [.int], returnType := some .int }, accessFlags := 9, code := some k12c0 }
def k12c1 : Code := { maxStack := 3, maxLocals := 2, code := jdk_33_method_48_code, exceptionTable := #[], attributes := #[] }
def k12m1 : Method := { name := "numberOfTrailingZeros", desc := "(I)I", sig := { parameters := [.int], returnType := some .int }, accessFlags := 9, code := some k12c1 }
/-- java/lang/Integer -/
def k12 : Class := { plain "java/lang/Integer" (some 7) with
  accessFlags := 49
  interfaces := #[8, 9, 10]
  cf := some (fileOf pool12 1 #[.nestMembers #[189]] #[{ accessFlags := 9, nameIndex := 53, descriptorIndex := 54, attributes := #[] }, { accessFlags := 9, nameIndex := 406, descriptorIndex := 54, attributes := #[] }] 49 203 #[304, 306, 308] #[{ accessFlags := 25, nameIndex := 310, descriptorIndex := 194, attributes := #[] }, { accessFlags := 25, nameIndex := 312, descriptorIndex := 194, attributes := #[] }, { accessFlags := 25, nameIndex := 302, descriptorIndex := 303, attributes := #[] }, { accessFlags := 24, nameIndex := 19, descriptorIndex := 20, attributes := #[] }, { accessFlags := 24, nameIndex := 89, descriptorIndex := 86, attributes := #[] }, { accessFlags := 24, nameIndex := 85, descriptorIndex := 86, attributes := #[] }, { accessFlags := 18, nameIndex := 207, descriptorIndex := 194, attributes := #[] }, { accessFlags := 25, nameIndex := 316, descriptorIndex := 194, attributes := #[] }, { accessFlags := 25, nameIndex := 318, descriptorIndex := 194, attributes := #[] }, { accessFlags := 26, nameIndex := 320, descriptorIndex := 321, attributes := #[] }])
  fields := #[{ name := "MIN_VALUE", type := .int, accessFlags := 25, slot := 0, constantValue := 0 }, { name := "MAX_VALUE", type := .int, accessFlags := 25, slot := 1, constantValue := 0 }, { name := "TYPE", type := (.object "java/lang/Class"), accessFlags := 25, slot := 2, constantValue := 0 }, { name := "digits", type := (.array .char), accessFlags := 24, slot := 3, constantValue := 0 }, { name := "DigitTens", type := (.array .byte), accessFlags := 24, slot := 4, constantValue := 0 }, { name := "DigitOnes", type := (.array .byte), accessFlags := 24, slot := 5, constantValue := 0 }, { name := "value", type := .int, accessFlags := 18, slot := 0, constantValue := 0 }, { name := "SIZE", type := .int, accessFlags := 25, slot := 6, constantValue := 0 }, { name := "BYTES", type := .int, accessFlags := 25, slot := 7, constantValue := 0 }, { name := "serialVersionUID", type := .long, accessFlags := 26, slot := 8, constantValue := 0 }]
  methods := #[k12m0, k12m1]
  instanceTypes := #[.int]
  staticTypes := #[.int, .int, (.object "java/lang/Class"), (.array .char), (.array .byte), (.array .byte), .int, .int, .long]
  resolved := Array.replicate 453 none
  statics := none }

def pool13 : Array CpInfo := pool [(1, .class_ 2), (0, u "java/lang/Math"), (1, .class_ 6), (1, u "java/lang/Object"), (0, u "<init>"), (0, u "()V"), (89, .class_ 100), (1, u "java/lang/Math$RandomNumberGeneratorHolder"), (71, u "negativeZeroFloatBits"), (0, u "J"), (2, u "negativeZeroDoubleBits"), (21, u "max"), (46, u "$assertionsDisabled"), (0, u "Z"), (88, u "(II)I"), (2, u "twoToTheDoubleScaleDown"), (0, u "D"), (4, u "twoToTheDoubleScaleUp"), (9, u "E"), (3, u "PI"), (2, u "TAU"), (2, u "DEGREES_TO_RADIANS"), (0, u "RADIANS_TO_DEGREES")] 94

def k13m0 : Method := { name := "<init>", desc := "()V", sig := { parameters := [], returnType := none }, accessFlags := 2, code := none }
def k13c1 : Code := { maxStack := 2, maxLocals := 2, code := jdk_29_method_65_code, exceptionTable := #[], attributes := #[] }
def k13m1 : Method := { name := "max", desc := "(II)I", sig := { parameters := [.int, .int], returnType := some .int }, accessFlags := 9, code := some k13c1 }
/-- java/lang/Math -/
def k13 : Class := { plain "java/lang/Math" (some 0) with
  accessFlags := 49
  interfaces := #[]
  cf := some (fileOf pool13 1 #[.nestMembers #[98]] #[{ accessFlags := 2, nameIndex := 7, descriptorIndex := 8, attributes := #[] }, { accessFlags := 9, nameIndex := 198, descriptorIndex := 335, attributes := #[] }] 49 4 #[] #[{ accessFlags := 25, nameIndex := 354, descriptorIndex := 339, attributes := #[] }, { accessFlags := 25, nameIndex := 358, descriptorIndex := 339, attributes := #[] }, { accessFlags := 25, nameIndex := 361, descriptorIndex := 339, attributes := #[] }, { accessFlags := 26, nameIndex := 364, descriptorIndex := 339, attributes := #[] }, { accessFlags := 26, nameIndex := 365, descriptorIndex := 339, attributes := #[] }, { accessFlags := 26, nameIndex := 172, descriptorIndex := 173, attributes := #[] }, { accessFlags := 26, nameIndex := 176, descriptorIndex := 173, attributes := #[] }, { accessFlags := 8, nameIndex := 344, descriptorIndex := 339, attributes := #[] }, { accessFlags := 8, nameIndex := 338, descriptorIndex := 339, attributes := #[] }, { accessFlags := 4120, nameIndex := 245, descriptorIndex := 246, attributes := #[] }])
  fields := #[{ name := "E", type := .double, accessFlags := 25, slot := 0, constantValue := 0 }, { name := "PI", type := .double, accessFlags := 25, slot := 1, constantValue := 0 }, { name := "TAU", type := .double, accessFlags := 25, slot := 2, constantValue := 0 }, { name := "DEGREES_TO_RADIANS", type := .double, accessFlags := 26, slot := 3, constantValue := 0 }, { name := "RADIANS_TO_DEGREES", type := .double, accessFlags := 26, slot := 4, constantValue := 0 }, { name := "negativeZeroFloatBits", type := .long, accessFlags := 26, slot := 5, constantValue := 0 }, { name := "negativeZeroDoubleBits", type := .long, accessFlags := 26, slot := 6, constantValue := 0 }, { name := "twoToTheDoubleScaleUp", type := .double, accessFlags := 8, slot := 7, constantValue := 0 }, { name := "twoToTheDoubleScaleDown", type := .double, accessFlags := 8, slot := 8, constantValue := 0 }, { name := "$assertionsDisabled", type := .boolean, accessFlags := 4120, slot := 9, constantValue := 0 }]
  methods := #[k13m0, k13m1]
  instanceTypes := #[]
  staticTypes := #[.double, .double, .double, .double, .double, .long, .long, .double, .double, .boolean]
  resolved := Array.replicate 460 none
  statics := none }

/-- the primitive byte -/
def k14 : Class := { plain "byte" none with kind := .primitive 'B', accessFlags := 0x411 }
/-- [B -/
def k15 : Class := { plain "[B" (some 0) with kind := .array 14 .byte, interfaces := #[4, 5], accessFlags := 1041 }

/-- the primitive int -/
def k16 : Class := { plain "int" none with kind := .primitive 'I', accessFlags := 0x411 }
/-- [I -/
def k17 : Class := { plain "[I" (some 0) with kind := .array 16 .int, interfaces := #[4, 5], accessFlags := 1041 }

/-- the primitive long -/
def k18 : Class := { plain "long" none with kind := .primitive 'J', accessFlags := 0x411 }
/-- [J -/
def k19 : Class := { plain "[J" (some 0) with kind := .array 18 .long, interfaces := #[4, 5], accessFlags := 1041 }

def heap : Heap := #[{ cls := 6, slots := #[.int 0, .int 0, .int 0, .long 0, .null, .long 0, .int 1], vm := .statics 6 }]
def classes : Array Class := #[k0, k1, k2, k3, k4, k5, k6, k7, k8, k9, k10, k11, k12, k13, k14, k15, k16, k17, k18, k19]
def interned : List (Array UInt16 × Addr) := []
def slotsUsed : Nat := 7
def theMethod : MethodId := ⟨1, 1⟩
def args0 : Array Value := #[.int 5, .int 66, .int 67]
def aboutOver (below : List Frame) : State where
  vm := { classes := classes, interned := interned.toArray }
  heap := heap
  slotsUsed := slotsUsed
  threads := #[{ frames := .invoking theMethod args0 :: below }]
def below0 : List Frame := [.native { method := ⟨0, 0⟩, args := #[] }]
def about1 : State := aboutOver below0
def p0 : Program := .bare "" "" ""
def e0 : Env := launch0.env 0 0 0
theorem w_frames : about1.frames = Frame.invoking theMethod args0 :: below0 := rfl
set_option maxRecDepth 65536 in
theorem w_args : argsFit about1.vm theMethod args0 = true := by decide +kernel
set_option maxRecDepth 65536 in
theorem w_heap : heapFits about1 = true := by decide +kernel
set_option maxRecDepth 65536 in
theorem w_runnable : about1.curStatus? = some .runnable := by decide +kernel
set_option maxRecDepth 65536 in
theorem w_alone : about1.alone = true := by decide +kernel
set_option maxRecDepth 65536 in
theorem w_named : about1.methodNamed? x = some theMethod := by decide +kernel
set_option maxRecDepth 65536 in
theorem w_hears : about1.hears theMethod below0 = true := by decide +kernel
set_option maxRecDepth 65536 in
theorem w_ripe : about1.ripe theMethod args0 below0 = true := by decide +kernel
theorem w_running : about1.status = .running := rfl
set_option maxRecDepth 65536 in
theorem w_room : about1.hasRoom e0.platform room_1 = true :=
  launch0.hasRoom_least _ room_1 (by decide +kernel) (by decide +kernel) (by decide +kernel) (by decide +kernel) (by decide +kernel) (by decide +kernel)
theorem allAtoms_all (ts : List Jvm.Cond) (a : Array Jvm.Value) (st : Jvm.State) : (allAtoms ts).before a st = ts.all (fun c => c.before a st) := by
  induction ts with
  | nil => rfl
  | cons c t ih =>
    show (Jvm.Cond.and c (allAtoms t)).before a st = _
    rw [Jvm.Cond.before_and, ih, List.all_cons]
def words1 : List Jvm.Cond := Jvm.Cond.code x code maxLocals ret :: tables_1
/-- a 'code' word, met by the world's own term for the bytes: nothing is compared byte by byte -/
theorem code_word {y : MethodName} {bytes : ByteArray} {mx : Nat} {rt : Option FieldType} {a : Array Value} {s : State} {m : MethodId} {meth : Method} {c : Code} (h1 : s.methodNamed? y = some m) (h2 : s.vm.method? m = some meth) (h3 : meth.code = some c) (h4 : c.code = bytes)
    (h5 : (c.maxLocals == mx && c.exceptionTable.isEmpty && decide (c.maxStack ≤ mostOperands) && decide (meth.sig.returnType = rt) && !meth.locks && decide (parseMethodDescriptor y.desc = some meth.sig)) = true) : (Jvm.Cond.code y bytes mx rt).before a s = true := by
  simp only [Bool.and_eq_true, beq_iff_eq, Bool.not_eq_true', decide_eq_true_eq] at h5
  obtain ⟨⟨⟨⟨⟨g1, g2⟩, g3⟩, g4⟩, g5⟩, g6⟩ := h5
  simp [Cond.before, Cond.holds, Cond.value, h1, h2, h3, h4, g1, g2, g3, g4, g5, g6]
def isCode : Jvm.Cond → Bool
  | .code _ _ _ _ => true
  | _ => false
theorem all_split {L : List Jvm.Cond} {P : Jvm.Cond → Bool} (h1 : L.all (fun c => isCode c || P c) = true) (h2 : ∀ c ∈ L.filter isCode, P c = true) : L.all P = true := by
  refine List.all_eq_true.mpr fun c hc => ?_
  have h := List.all_eq_true.mp h1 c hc
  rcases Bool.eq_false_or_eq_true (isCode c) with hi | hi
  · exact h2 c (List.mem_filter.mpr ⟨hc, hi⟩)
  · simpa [hi] using h
set_option maxRecDepth 65536 in
theorem w_c0 : (Jvm.Cond.code x code maxLocals ret).before args0 about1 = true := code_word (m := ⟨1, 1⟩) (meth := k1m1) (c := k1c1) (by decide +kernel) rfl rfl rfl (by decide +kernel)
set_option maxRecDepth 65536 in
theorem w_c1 : (Jvm.Cond.code ({ cls := "com/example/lightweave/lightweave/LinkSlots$Bits", name := "<init>", desc := "(I)V" } : Jvm.MethodName) prog_35_method_1_code (2 : Nat) (Option.none : Option Jvm.ClassFile.FieldType)).before args0 about1 = true := code_word (m := ⟨3, 0⟩) (meth := k3m0) (c := k3c0) (by decide +kernel) rfl rfl rfl (by decide +kernel)
set_option maxRecDepth 65536 in
theorem w_c2 : (Jvm.Cond.code ({ cls := "java/lang/Object", name := "<init>", desc := "()V" } : Jvm.MethodName) object_method_1_code (1 : Nat) (Option.none : Option Jvm.ClassFile.FieldType)).before args0 about1 = true := code_word (m := ⟨0, 0⟩) (meth := k0m0) (c := k0c0) (by decide +kernel) rfl rfl rfl (by decide +kernel)
set_option maxRecDepth 65536 in
theorem w_c3 : (Jvm.Cond.code ({ cls := "java/util/BitSet", name := "<init>", desc := "(I)V" } : Jvm.MethodName) jdk_92_method_5_code (2 : Nat) (Option.none : Option Jvm.ClassFile.FieldType)).before args0 about1 = true := code_word (m := ⟨6, 3⟩) (meth := k6m3) (c := k6c3) (by decide +kernel) rfl rfl rfl (by decide +kernel)
set_option maxRecDepth 65536 in
theorem w_c4 : (Jvm.Cond.code ({ cls := "java/util/BitSet", name := "initWords", desc := "(I)V" } : Jvm.MethodName) jdk_92_method_6_code (2 : Nat) (Option.none : Option Jvm.ClassFile.FieldType)).before args0 about1 = true := code_word (m := ⟨6, 4⟩) (meth := k6m4) (c := k6c4) (by decide +kernel) rfl rfl rfl (by decide +kernel)
set_option maxRecDepth 65536 in
theorem w_c5 : (Jvm.Cond.code ({ cls := "java/util/BitSet", name := "wordIndex", desc := "(I)I" } : Jvm.MethodName) jdk_92_method_1_code (1 : Nat) (Option.some Jvm.ClassFile.FieldType.int)).before args0 about1 = true := code_word (m := ⟨6, 0⟩) (meth := k6m0) (c := k6c0) (by decide +kernel) rfl rfl rfl (by decide +kernel)
set_option maxRecDepth 65536 in
theorem w_c6 : (Jvm.Cond.code ({ cls := "com/example/lightweave/lightweave/LinkSlots$Bits", name := "occupy", desc := "(II)V" } : Jvm.MethodName) prog_35_method_5_code (3 : Nat) (Option.none : Option Jvm.ClassFile.FieldType)).before args0 about1 = true := code_word (m := ⟨3, 3⟩) (meth := k3m3) (c := k3c3) (by decide +kernel) rfl rfl rfl (by decide +kernel)
set_option maxRecDepth 65536 in
theorem w_c7 : (Jvm.Cond.code ({ cls := "java/util/BitSet", name := "set", desc := "(II)V" } : Jvm.MethodName) jdk_92_method_21_code (10 : Nat) (Option.none : Option Jvm.ClassFile.FieldType)).before args0 about1 = true := code_word (m := ⟨6, 8⟩) (meth := k6m8) (c := k6c8) (by decide +kernel) rfl rfl rfl (by decide +kernel)
set_option maxRecDepth 65536 in
theorem w_c8 : (Jvm.Cond.code ({ cls := "java/util/BitSet", name := "checkRange", desc := "(II)V" } : Jvm.MethodName) jdk_92_method_16_code (2 : Nat) (Option.none : Option Jvm.ClassFile.FieldType)).before args0 about1 = true := code_word (m := ⟨6, 7⟩) (meth := k6m7) (c := k6c7) (by decide +kernel) rfl rfl rfl (by decide +kernel)
set_option maxRecDepth 65536 in
theorem w_c9 : (Jvm.Cond.code ({ cls := "java/util/BitSet", name := "expandTo", desc := "(I)V" } : Jvm.MethodName) jdk_92_method_15_code (3 : Nat) (Option.none : Option Jvm.ClassFile.FieldType)).before args0 about1 = true := code_word (m := ⟨6, 6⟩) (meth := k6m6) (c := k6c6) (by decide +kernel) rfl rfl rfl (by decide +kernel)
set_option maxRecDepth 65536 in
theorem w_c10 : (Jvm.Cond.code ({ cls := "java/util/BitSet", name := "ensureCapacity", desc := "(I)V" } : Jvm.MethodName) jdk_92_method_14_code (3 : Nat) (Option.none : Option Jvm.ClassFile.FieldType)).before args0 about1 = true := code_word (m := ⟨6, 5⟩) (meth := k6m5) (c := k6c5) (by decide +kernel) rfl rfl rfl (by decide +kernel)
set_option maxRecDepth 65536 in
theorem w_c11 : (Jvm.Cond.code ({ cls := "java/util/BitSet", name := "checkInvariants", desc := "()V" } : Jvm.MethodName) jdk_92_method_2_code (1 : Nat) (Option.none : Option Jvm.ClassFile.FieldType)).before args0 about1 = true := code_word (m := ⟨6, 1⟩) (meth := k6m1) (c := k6c1) (by decide +kernel) rfl rfl rfl (by decide +kernel)
set_option maxRecDepth 65536 in
theorem w_c12 : (Jvm.Cond.code ({ cls := "com/example/lightweave/lightweave/LinkSlots$Bits", name := "busyTo", desc := "(II)I" } : Jvm.MethodName) prog_35_method_2_code (4 : Nat) (Option.some Jvm.ClassFile.FieldType.int)).before args0 about1 = true := code_word (m := ⟨3, 1⟩) (meth := k3m1) (c := k3c1) (by decide +kernel) rfl rfl rfl (by decide +kernel)
set_option maxRecDepth 65536 in
theorem w_c13 : (Jvm.Cond.code ({ cls := "java/util/BitSet", name := "previousSetBit", desc := "(I)I" } : Jvm.MethodName) jdk_92_method_30_code (5 : Nat) (Option.some Jvm.ClassFile.FieldType.int)).before args0 about1 = true := code_word (m := ⟨6, 10⟩) (meth := k6m10) (c := k6c10) (by decide +kernel) rfl rfl rfl (by decide +kernel)
set_option maxRecDepth 65536 in
theorem w_c14 : (Jvm.Cond.code ({ cls := "java/lang/Long", name := "numberOfLeadingZeros", desc := "(J)I" } : Jvm.MethodName) jdk_35_method_48_code (3 : Nat) (Option.some Jvm.ClassFile.FieldType.int)).before args0 about1 = true := code_word (m := ⟨11, 0⟩) (meth := k11m0) (c := k11c0) (by decide +kernel) rfl rfl rfl (by decide +kernel)
set_option maxRecDepth 65536 in
theorem w_c15 : (Jvm.Cond.code ({ cls := "java/lang/Integer", name := "numberOfLeadingZeros", desc := "(I)I" } : Jvm.MethodName) jdk_33_method_47_code (2 : Nat) (Option.some Jvm.ClassFile.FieldType.int)).before args0 about1 = true := code_word (m := ⟨12, 0⟩) (meth := k12m0) (c := k12c0) (by decide +kernel) rfl rfl rfl (by decide +kernel)
set_option maxRecDepth 65536 in
theorem w_c16 : (Jvm.Cond.code ({ cls := "java/util/BitSet", name := "nextClearBit", desc := "(I)I" } : Jvm.MethodName) jdk_92_method_29_code (5 : Nat) (Option.some Jvm.ClassFile.FieldType.int)).before args0 about1 = true := code_word (m := ⟨6, 9⟩) (meth := k6m9) (c := k6c9) (by decide +kernel) rfl rfl rfl (by decide +kernel)
set_option maxRecDepth 65536 in
theorem w_c17 : (Jvm.Cond.code ({ cls := "java/lang/Long", name := "numberOfTrailingZeros", desc := "(J)I" } : Jvm.MethodName) jdk_35_method_49_code (3 : Nat) (Option.some Jvm.ClassFile.FieldType.int)).before args0 about1 = true := code_word (m := ⟨11, 1⟩) (meth := k11m1) (c := k11c1) (by decide +kernel) rfl rfl rfl (by decide +kernel)
set_option maxRecDepth 65536 in
theorem w_c18 : (Jvm.Cond.code ({ cls := "java/lang/Integer", name := "numberOfTrailingZeros", desc := "(I)I" } : Jvm.MethodName) jdk_33_method_48_code (2 : Nat) (Option.some Jvm.ClassFile.FieldType.int)).before args0 about1 = true := code_word (m := ⟨12, 1⟩) (meth := k12m1) (c := k12c1) (by decide +kernel) rfl rfl rfl (by decide +kernel)
set_option maxRecDepth 65536 in
theorem w_c19 : (Jvm.Cond.code ({ cls := "com/example/lightweave/lightweave/LinkSlots$Bits", name := "top", desc := "()I" } : Jvm.MethodName) prog_35_method_4_code (1 : Nat) (Option.some Jvm.ClassFile.FieldType.int)).before args0 about1 = true := code_word (m := ⟨3, 2⟩) (meth := k3m2) (c := k3c2) (by decide +kernel) rfl rfl rfl (by decide +kernel)
set_option maxRecDepth 65536 in
theorem w_c20 : (Jvm.Cond.code ({ cls := "java/util/BitSet", name := "length", desc := "()I" } : Jvm.MethodName) jdk_92_method_32_code (1 : Nat) (Option.some Jvm.ClassFile.FieldType.int)).before args0 about1 = true := code_word (m := ⟨6, 11⟩) (meth := k6m11) (c := k6c11) (by decide +kernel) rfl rfl rfl (by decide +kernel)
set_option maxRecDepth 65536 in
theorem w_c21 : (Jvm.Cond.code ({ cls := "java/lang/Math", name := "max", desc := "(II)I" } : Jvm.MethodName) jdk_29_method_65_code (2 : Nat) (Option.some Jvm.ClassFile.FieldType.int)).before args0 about1 = true := code_word (m := ⟨13, 1⟩) (meth := k13m1) (c := k13c1) (by decide +kernel) rfl rfl rfl (by decide +kernel)
def codes1 : List Jvm.Cond := [Jvm.Cond.code x code maxLocals ret, Jvm.Cond.code ({ cls := "com/example/lightweave/lightweave/LinkSlots$Bits", name := "<init>", desc := "(I)V" } : Jvm.MethodName) prog_35_method_1_code (2 : Nat) (Option.none : Option Jvm.ClassFile.FieldType), Jvm.Cond.code ({ cls := "java/lang/Object", name := "<init>", desc := "()V" } : Jvm.MethodName) object_method_1_code (1 : Nat) (Option.none : Option Jvm.ClassFile.FieldType), Jvm.Cond.code ({ cls := "java/util/BitSet", name := "<init>", desc := "(I)V" } : Jvm.MethodName) jdk_92_method_5_code (2 : Nat) (Option.none : Option Jvm.ClassFile.FieldType), Jvm.Cond.code ({ cls := "java/util/BitSet", name := "initWords", desc := "(I)V" } : Jvm.MethodName) jdk_92_method_6_code (2 : Nat) (Option.none : Option Jvm.ClassFile.FieldType), Jvm.Cond.code ({ cls := "java/util/BitSet", name := "wordIndex", desc := "(I)I" } : Jvm.MethodName) jdk_92_method_1_code (1 : Nat) (Option.some Jvm.ClassFile.FieldType.int), Jvm.Cond.code ({ cls := "com/example/lightweave/lightweave/LinkSlots$Bits", name := "occupy", desc := "(II)V" } : Jvm.MethodName) prog_35_method_5_code (3 : Nat) (Option.none : Option Jvm.ClassFile.FieldType), Jvm.Cond.code ({ cls := "java/util/BitSet", name := "set", desc := "(II)V" } : Jvm.MethodName) jdk_92_method_21_code (10 : Nat) (Option.none : Option Jvm.ClassFile.FieldType), Jvm.Cond.code ({ cls := "java/util/BitSet", name := "checkRange", desc := "(II)V" } : Jvm.MethodName) jdk_92_method_16_code (2 : Nat) (Option.none : Option Jvm.ClassFile.FieldType), Jvm.Cond.code ({ cls := "java/util/BitSet", name := "expandTo", desc := "(I)V" } : Jvm.MethodName) jdk_92_method_15_code (3 : Nat) (Option.none : Option Jvm.ClassFile.FieldType), Jvm.Cond.code ({ cls := "java/util/BitSet", name := "ensureCapacity", desc := "(I)V" } : Jvm.MethodName) jdk_92_method_14_code (3 : Nat) (Option.none : Option Jvm.ClassFile.FieldType), Jvm.Cond.code ({ cls := "java/util/BitSet", name := "checkInvariants", desc := "()V" } : Jvm.MethodName) jdk_92_method_2_code (1 : Nat) (Option.none : Option Jvm.ClassFile.FieldType), Jvm.Cond.code ({ cls := "com/example/lightweave/lightweave/LinkSlots$Bits", name := "busyTo", desc := "(II)I" } : Jvm.MethodName) prog_35_method_2_code (4 : Nat) (Option.some Jvm.ClassFile.FieldType.int), Jvm.Cond.code ({ cls := "java/util/BitSet", name := "previousSetBit", desc := "(I)I" } : Jvm.MethodName) jdk_92_method_30_code (5 : Nat) (Option.some Jvm.ClassFile.FieldType.int), Jvm.Cond.code ({ cls := "java/lang/Long", name := "numberOfLeadingZeros", desc := "(J)I" } : Jvm.MethodName) jdk_35_method_48_code (3 : Nat) (Option.some Jvm.ClassFile.FieldType.int), Jvm.Cond.code ({ cls := "java/lang/Integer", name := "numberOfLeadingZeros", desc := "(I)I" } : Jvm.MethodName) jdk_33_method_47_code (2 : Nat) (Option.some Jvm.ClassFile.FieldType.int), Jvm.Cond.code ({ cls := "java/util/BitSet", name := "nextClearBit", desc := "(I)I" } : Jvm.MethodName) jdk_92_method_29_code (5 : Nat) (Option.some Jvm.ClassFile.FieldType.int), Jvm.Cond.code ({ cls := "java/lang/Long", name := "numberOfTrailingZeros", desc := "(J)I" } : Jvm.MethodName) jdk_35_method_49_code (3 : Nat) (Option.some Jvm.ClassFile.FieldType.int), Jvm.Cond.code ({ cls := "java/lang/Integer", name := "numberOfTrailingZeros", desc := "(I)I" } : Jvm.MethodName) jdk_33_method_48_code (2 : Nat) (Option.some Jvm.ClassFile.FieldType.int), Jvm.Cond.code ({ cls := "com/example/lightweave/lightweave/LinkSlots$Bits", name := "top", desc := "()I" } : Jvm.MethodName) prog_35_method_4_code (1 : Nat) (Option.some Jvm.ClassFile.FieldType.int), Jvm.Cond.code ({ cls := "java/util/BitSet", name := "length", desc := "()I" } : Jvm.MethodName) jdk_92_method_32_code (1 : Nat) (Option.some Jvm.ClassFile.FieldType.int), Jvm.Cond.code ({ cls := "java/lang/Math", name := "max", desc := "(II)I" } : Jvm.MethodName) jdk_29_method_65_code (2 : Nat) (Option.some Jvm.ClassFile.FieldType.int)]
set_option maxRecDepth 65536 in
theorem codes_eq : words1.filter isCode = codes1 := rfl
theorem w_codes : ∀ c ∈ words1.filter isCode, c.before args0 about1 = true := by
  rw [codes_eq]
  intro c hc
  simp only [codes1, List.mem_cons, List.not_mem_nil, or_false] at hc
  rcases hc with rfl | rfl | rfl | rfl | rfl | rfl | rfl | rfl | rfl | rfl | rfl | rfl | rfl | rfl | rfl | rfl | rfl | rfl | rfl | rfl | rfl | rfl
  · exact w_c0
  · exact w_c1
  · exact w_c2
  · exact w_c3
  · exact w_c4
  · exact w_c5
  · exact w_c6
  · exact w_c7
  · exact w_c8
  · exact w_c9
  · exact w_c10
  · exact w_c11
  · exact w_c12
  · exact w_c13
  · exact w_c14
  · exact w_c15
  · exact w_c16
  · exact w_c17
  · exact w_c18
  · exact w_c19
  · exact w_c20
  · exact w_c21
set_option maxRecDepth 65536 in
theorem w_t1 : (words1.take 24).all (fun c => isCode c || c.before args0 about1) = true := by decide +kernel
set_option maxRecDepth 65536 in
theorem w_t2 : ((words1.drop 24).take 24).all (fun c => isCode c || c.before args0 about1) = true := by decide +kernel
set_option maxRecDepth 65536 in
theorem w_t3 : (((words1.drop 24).drop 24).take 24).all (fun c => isCode c || c.before args0 about1) = true := by decide +kernel
set_option maxRecDepth 65536 in
theorem w_t4 : ((((words1.drop 24).drop 24).drop 24).take 24).all (fun c => isCode c || c.before args0 about1) = true := by decide +kernel
set_option maxRecDepth 65536 in
theorem w_t5 : ((((words1.drop 24).drop 24).drop 24).drop 24).all (fun c => isCode c || c.before args0 about1) = true := by decide +kernel
theorem w_tables : (allAtoms (Jvm.Cond.code x code maxLocals ret :: tables_1)).before args0 about1 = true := by
  rw [allAtoms_all]
  show words1.all (fun c => c.before args0 about1) = true
  refine all_split ?_ w_codes
  rw [← List.take_append_drop 24 words1, List.all_append, w_t1, ← List.take_append_drop 24 (words1.drop 24), List.all_append, w_t2, ← List.take_append_drop 24 ((words1.drop 24).drop 24), List.all_append, w_t3, ← List.take_append_drop 24 (((words1.drop 24).drop 24).drop 24), List.all_append, w_t4, w_t5]
  rfl
set_option maxRecDepth 65536 in
theorem w_rest : rest_1_c.before args0 about1 = true := by decide +kernel
set_option maxRecDepth 65536 in
theorem w_case : (Jvm.Cond.and given_1 narrow_1).before args0 about1 = true := by decide +kernel
theorem w_applies : (headSpec (Jvm.Cond.code x code maxLocals ret :: tables_1) room_1).applies x e0.platform about1 = true :=
  (Spec.applies_iff w_frames).mpr ⟨w_running, w_runnable, w_alone, w_named, w_hears, w_ripe, w_room, w_tables⟩
theorem atStart : AtStart classFile x code maxLocals ret World_1 tables_1 room_1 Calls_1 rest_1 Pre_1 launch0 p0 e0 about1 theMethod args0 below0 :=
  ⟨lists_1, trivial, launch0.admits_env _ _ _, launch0.least_env, fairChoices_fair.cas, fairChoices_fair.clock, w_frames, w_args, w_heap, w_applies, trivial, w_rest, w_case⟩
end start1
theorem witness_1 : WitnessClaimed_1 := ⟨start1.p0, start1.e0, start1.about1, start1.theMethod, start1.args0, start1.below0, start1.atStart⟩
end Jvm.Pilot.@@N@@
