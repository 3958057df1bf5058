import JvmDerived
import JvmDerived.Pilot.@@N@@Statement
import JvmDerived.Pilot.@@N@@Code
set_option linter.unusedVariables false
set_option linter.unusedSimpArgs false
namespace Jvm.Pilot.@@N@@
open Jvm Jvm.ClassFile Sem Op Lib Jvm.Free Jvm.Stand Jvm.LawKit Jvm.RoadKit Bundle Jvm.Pilot.@@N@@.Jvm.D
section Own
variable {p : Program} {l : Launch} {e : Env} {R : Room} {s : State} {m : MethodId} {args : Array Value} {below : List Frame} {meth : Method} {c : Code} {T T' : State} {locs : List Loc} {cells slots C N : Nat} {Z : State} {h h' : Heap} {n0 : Nat}
/-- from the frame g over T the run comes to a state of which P holds -/
def own_Rch (p : Program) (e : Env) (below : List Frame) (P : State → Prop) (T : State) (g : JFrame) : Prop := ∃ U, Steps p.tables e below (T.setTop g) U ∧ P U
/-- the body has ended as Q says -/
def own_End (s : State) (below : List Frame) (Q : Option Value → Heap → List Loc → Prop) (C N : Nat) (U : State) : Prop := U.status = .running ∧ ∃ v L, Ended U below (.returned v) ∧ Q v U.heap L ∧ FrameEnd s (.returned v) U L C N
theorem own_st {P : State → Prop} {g g' : JFrame} (h : ∀ t, Steps p.tables e below (T'.setTop g') t → Steps p.tables e below (T.setTop g) t) (k : own_Rch p e below P T' g') : own_Rch p e below P T g := by
  obtain ⟨U, h1, h2⟩ := k
  exact ⟨U, h U h1, h2⟩
theorem own_close {Q : Option Value → Heap → List Loc → Prop} {g : JFrame} (k : own_Rch p e below (own_End s below Q C N) T g) : ∃ U o, Steps p.tables e below (T.setTop g) U ∧ U.status = .running ∧ Ended U below o ∧ ∃ v L, o = .returned v ∧ Q v U.heap L ∧ FrameEnd s o U L C N := by
  obtain ⟨U, h1, h2, v, L, h3, h4, h5⟩ := k
  exact ⟨U, _, h1, h2, h3, v, L, rfl, h4, h5⟩
theorem own_retN {Q : Option Value → Heap → List Loc → Prop} {pc : Nat} {Ls : Array Slot} {z : Int32} {t : FieldType} {rest : List Value} (ht : t = .boolean ∨ t = .byte ∨ t = .char ∨ t = .short) (X : Stand p l e R s m args below meth c T locs cells slots) (hx : p.tables.exec = Jvm.exec) (hlk : meth.locks = false) (hret : meth.sig.returnType = some t) (hd : decode c.code pc = .ok (.ireturn, 1)) (hc : cells ≤ C) (hn : slots ≤ N)
    (hq : Q (some (.int (nar t z))) T.heap locs) : own_Rch p e below (own_End s below Q C N) T (mkF m pc Ls (.int z :: rest)) := by
  obtain ⟨fs, hr, hrun, hended, hW, hsame⟩ := X.leave (v := some (.int (nar t z))) (fun h => by rw [hret] at h; cases h) hlk
  exact ⟨_, retN X hx hret ht hd hr, hrun, _, _, hended, hq, ⟨_, rfl⟩, hW, hsame.mono hc hn⟩
theorem own_retI {Q : Option Value → Heap → List Loc → Prop} {pc : Nat} {Ls : Array Slot} {z : Int32} {rest : List Value} (X : Stand p l e R s m args below meth c T locs cells slots) (hx : p.tables.exec = Jvm.exec) (hlk : meth.locks = false) (hret : meth.sig.returnType = some .int) (hd : decode c.code pc = .ok (.ireturn, 1)) (hc : cells ≤ C) (hn : slots ≤ N)
    (hq : Q (some (.int z)) T.heap locs) : own_Rch p e below (own_End s below Q C N) T (mkF m pc Ls (.int z :: rest)) := by
  obtain ⟨fs, hr, hrun, hended, hW, hsame⟩ := X.leave (v := some (.int z)) (fun h => by rw [hret] at h; cases h) hlk
  exact ⟨_, retOut X hx hret rfl (Or.inl ⟨rfl, Or.inl rfl, z, rfl⟩) hd hr, hrun, _, _, hended, hq, ⟨_, rfl⟩, hW, hsame.mono hc hn⟩
theorem own_retL {Q : Option Value → Heap → List Loc → Prop} {pc : Nat} {Ls : Array Slot} {z : Int64} {rest : List Value} (X : Stand p l e R s m args below meth c T locs cells slots) (hx : p.tables.exec = Jvm.exec) (hlk : meth.locks = false) (hret : meth.sig.returnType = some .long) (hd : decode c.code pc = .ok (.lreturn, 1)) (hc : cells ≤ C) (hn : slots ≤ N)
    (hq : Q (some (.long z)) T.heap locs) : own_Rch p e below (own_End s below Q C N) T (mkF m pc Ls (.long z :: rest)) := by
  obtain ⟨fs, hr, hrun, hended, hW, hsame⟩ := X.leave (v := some (.long z)) (fun h => by rw [hret] at h; cases h) hlk
  exact ⟨_, retOut X hx hret rfl (Or.inr (Or.inl ⟨rfl, rfl, z, rfl⟩)) hd hr, hrun, _, _, hended, hq, ⟨_, rfl⟩, hW, hsame.mono hc hn⟩
theorem own_narref {t : FieldType} {w : Value} (ht : t.isReference = true) : narrow t w = w := by cases t <;> first | rfl | (cases ht; done)
theorem own_retA {Q : Option Value → Heap → List Loc → Prop} {pc : Nat} {Ls : Array Slot} {w : Value} {t : FieldType} {rest : List Value} (ht : t.isReference = true) (hw : w.isRef = true) (X : Stand p l e R s m args below meth c T locs cells slots) (hx : p.tables.exec = Jvm.exec) (hlk : meth.locks = false) (hret : meth.sig.returnType = some t) (hd : decode c.code pc = .ok (.areturn, 1)) (hc : cells ≤ C) (hn : slots ≤ N)
    (hq : Q (some w) T.heap locs) : own_Rch p e below (own_End s below Q C N) T (mkF m pc Ls (w :: rest)) := by
  obtain ⟨fs, hr, hrun, hended, hW, hsame⟩ := X.leave (v := some w) (fun h => by rw [hret] at h; cases h) hlk
  exact ⟨_, retOut X hx hret (own_narref ht) (Or.inr (Or.inr (Or.inr (Or.inr ⟨rfl, ht, hw⟩)))) hd hr, hrun, _, _, hended, hq, ⟨_, rfl⟩, hW, hsame.mono hc hn⟩
theorem own_retV {Q : Option Value → Heap → List Loc → Prop} {pc : Nat} {Ls : Array Slot} (X : Stand p l e R s m args below meth c T locs cells slots) (hx : p.tables.exec = Jvm.exec) (hlk : meth.locks = false) (hret : meth.sig.returnType = none) (hd : decode c.code pc = .ok (.return_, 1)) (hc : cells ≤ C) (hn : slots ≤ N)
    (hq : Q none T.heap locs) : own_Rch p e below (own_End s below Q C N) T (mkF m pc Ls []) := by
  obtain ⟨fs, hr, hrun, hended, hW, hsame⟩ := X.leave (v := none) (fun _ => rfl) hlk
  exact ⟨_, X.returnOut hx hret hd hr, hrun, _, _, hended, hq, ⟨_, rfl⟩, hW, hsame.mono hc hn⟩
theorem own_psel {y : MethodName} {n : Nat} (hins : (Jvm.Cond.instantiable y.cls n).before args s = true) (hpriv : (Jvm.Cond.privateMethod y).before args s = true) (hinst : (Jvm.Cond.instanceMethod y).before args s = true) (hy : y.cls ≠ "java/lang/invoke/MethodHandle" ∧ y.cls ≠ "java/lang/invoke/VarHandle" := by decide) : (Jvm.Cond.selects y.cls y y).before args s = true := by
  obtain ⟨c, k, hc, hk, -, hniab, -, -⟩ := Cond.instantiable_spec hins
  have hni : k.isInterface = false := (Bool.or_eq_false_iff.mp hniab).1
  obtain ⟨mk, methM, hnamed, hmethM, -, -⟩ := Cond.instanceMethod_spec hinst
  have hfound : s.methodFound? y.cls y.name y.desc = some mk := State.methodFound?_of_named hnamed hy
  have hcls : mk.cls = c := Option.some.inj ((findClass_of_methodNamed hnamed).symm.trans hc)
  have hsel : selectMethod {} s.vm c mk = .method mk := selectMethod_private hmethM (Cond.privateMethod_at hpriv mk methM hnamed hmethM)
  simp only [Cond.before, Cond.holds, Cond.value, hc, hfound, hnamed, hsel, hcls, hk]
  simp; exact hni
theorem own_mvMN {a0 : Array Value} {own host : String} {y : MethodName} {index : Nat} (hZ : Z.Warmed39 s.vm) (w : (Jvm.Cond.methodLinkNest own index y host).before a0 Z = true) : (Jvm.Cond.methodLinkNest own index y host).before args s = true := (Cond.methodLinkNest_wide hZ w :)
theorem own_cat {v : Value} (h : v.isRef = true) : v.category = 1 := by cases v <;> first | rfl | (cases h; done)
theorem own_since (s : State) : s.Since s.vm 0 := (State.WarmedH.refl s).since 0
def own_EndW (s : State) (below : List Frame) (Q : Option Value → Heap → List Loc → Prop) (C N : Nat) (U : State) : Prop := U.status = .running ∧ ∃ v L, Ended U below (.returned v) ∧ Q v U.heap L ∧ ReturnedEndW s (.returned v) U L C N
theorem own_closeW {Q : Option Value → Heap → List Loc → Prop} {g : JFrame} (k : own_Rch p e below (own_EndW s below Q C N) T g) : ∃ U o, Steps p.tables e below (T.setTop g) U ∧ U.status = .running ∧ Ended U below o ∧ ∃ v L, o = .returned v ∧ Q v U.heap L ∧ ReturnedEndW s o U L C N := by
  obtain ⟨U, h1, h2, v, L, h3, h4, h5⟩ := k
  exact ⟨U, _, h1, h2, h3, v, L, rfl, h4, h5⟩
theorem own_retNW {vm0 : Vm} {k0 : Nat} {Q : Option Value → Heap → List Loc → Prop} {pc : Nat} {Ls : Array Slot} {z : Int32} {t : FieldType} {rest : List Value} (ht : t = .boolean ∨ t = .byte ∨ t = .char ∨ t = .short) (hS : s.Since vm0 k0) (hk : k0 ≤ T.heap.size) (X : Stand p l e R (s.setVm vm0) m args below meth c T locs cells slots) (hx : p.tables.exec = Jvm.exec) (hlk : meth.locks = false) (hret : meth.sig.returnType = some t) (hd : decode c.code pc = .ok (.ireturn, 1)) (hc : cells ≤ C) (hn : slots ≤ N)
    (hq : Q (some (.int (nar t z))) T.heap locs) : own_Rch p e below (own_EndW s below Q C N) T (mkF m pc Ls (.int z :: rest)) := by
  obtain ⟨fs, hr, hrun, hended, h1, h2, h3, h4⟩ := X.leaveW hS hk (v := some (.int (nar t z))) (fun h => by rw [hret] at h; cases h) hlk
  exact ⟨_, retN X hx hret ht hd hr, hrun, _, _, hended, hq, h1, h2, h3, h4.mono hc hn⟩
theorem own_retIW {vm0 : Vm} {k0 : Nat} {Q : Option Value → Heap → List Loc → Prop} {pc : Nat} {Ls : Array Slot} {z : Int32} {rest : List Value} (hS : s.Since vm0 k0) (hk : k0 ≤ T.heap.size) (X : Stand p l e R (s.setVm vm0) m args below meth c T locs cells slots) (hx : p.tables.exec = Jvm.exec) (hlk : meth.locks = false) (hret : meth.sig.returnType = some .int) (hd : decode c.code pc = .ok (.ireturn, 1)) (hc : cells ≤ C) (hn : slots ≤ N)
    (hq : Q (some (.int z)) T.heap locs) : own_Rch p e below (own_EndW s below Q C N) T (mkF m pc Ls (.int z :: rest)) := by
  obtain ⟨fs, hr, hrun, hended, h1, h2, h3, h4⟩ := X.leaveW hS hk (v := some (.int z)) (fun h => by rw [hret] at h; cases h) hlk
  exact ⟨_, retOut X hx hret rfl (Or.inl ⟨rfl, Or.inl rfl, z, rfl⟩) hd hr, hrun, _, _, hended, hq, h1, h2, h3, h4.mono hc hn⟩
theorem own_retAW {vm0 : Vm} {k0 : Nat} {Q : Option Value → Heap → List Loc → Prop} {pc : Nat} {Ls : Array Slot} {w : Value} {t : FieldType} {rest : List Value} (ht : t.isReference = true) (hw : w.isRef = true) (hS : s.Since vm0 k0) (hk : k0 ≤ T.heap.size) (X : Stand p l e R (s.setVm vm0) m args below meth c T locs cells slots) (hx : p.tables.exec = Jvm.exec) (hlk : meth.locks = false) (hret : meth.sig.returnType = some t) (hd : decode c.code pc = .ok (.areturn, 1)) (hc : cells ≤ C) (hn : slots ≤ N)
    (hq : Q (some w) T.heap locs) : own_Rch p e below (own_EndW s below Q C N) T (mkF m pc Ls (w :: rest)) := by
  obtain ⟨fs, hr, hrun, hended, h1, h2, h3, h4⟩ := X.leaveW hS hk (v := some w) (fun h => by rw [hret] at h; cases h) hlk
  exact ⟨_, retOut X hx hret (own_narref ht) (Or.inr (Or.inr (Or.inr (Or.inr ⟨rfl, ht, hw⟩)))) hd hr, hrun, _, _, hended, hq, h1, h2, h3, h4.mono hc hn⟩
theorem own_retVW {vm0 : Vm} {k0 : Nat} {Q : Option Value → Heap → List Loc → Prop} {pc : Nat} {Ls : Array Slot} (hS : s.Since vm0 k0) (hk : k0 ≤ T.heap.size) (X : Stand p l e R (s.setVm vm0) m args below meth c T locs cells slots) (hx : p.tables.exec = Jvm.exec) (hlk : meth.locks = false) (hret : meth.sig.returnType = none) (hd : decode c.code pc = .ok (.return_, 1)) (hc : cells ≤ C) (hn : slots ≤ N)
    (hq : Q none T.heap locs) : own_Rch p e below (own_EndW s below Q C N) T (mkF m pc Ls []) := by
  obtain ⟨fs, hr, hrun, hended, h1, h2, h3, h4⟩ := X.leaveW hS hk (v := none) (fun _ => rfl) hlk
  exact ⟨_, X.returnOut hx hret hd hr, hrun, _, _, hended, hq, h1, h2, h3, h4.mono hc hn⟩
def own_EndH (Z : State) (EL : List (String × Nat)) (s : State) (below : List Frame) (Q : Option Value → Heap → List Loc → Prop) (C N : Nat) (U : State) : Prop := U.status = .running ∧ ∃ v L, Ended U below (.returned v) ∧ Q v U.heap L ∧ CHr Z EL s.vm s.heap U.vm U.heap ∧ ReturnedEndW s (.returned v) U L C N
theorem own_closeH {EL : List (String × Nat)} {Q : Option Value → Heap → List Loc → Prop} {g : JFrame} (k : own_Rch p e below (own_EndH Z EL s below Q C N) T g) : ∃ U o, Steps p.tables e below (T.setTop g) U ∧ U.status = .running ∧ Ended U below o ∧ ∃ v L, o = .returned v ∧ Q v U.heap L ∧ CHr Z EL s.vm s.heap U.vm U.heap ∧ ReturnedEndW s o U L C N := by
  obtain ⟨U, h1, h2, v, L, h3, h4, h5⟩ := k
  exact ⟨U, _, h1, h2, h3, v, L, rfl, h4, h5⟩
theorem own_retNH {EL : List (String × Nat)} {vm0 : Vm} {k0 : Nat} {Q : Option Value → Heap → List Loc → Prop} {pc : Nat} {Ls : Array Slot} {z : Int32} {t : FieldType} {rest : List Value} (ht : t = .boolean ∨ t = .byte ∨ t = .char ∨ t = .short) (hcr : CHr Z EL s.vm s.heap T.vm T.heap) (hS : s.Since vm0 k0) (hk : k0 ≤ T.heap.size) (X : Stand p l e R (s.setVm vm0) m args below meth c T locs cells slots) (hx : p.tables.exec = Jvm.exec) (hlk : meth.locks = false) (hret : meth.sig.returnType = some t) (hd : decode c.code pc = .ok (.ireturn, 1)) (hc : cells ≤ C) (hn : slots ≤ N)
    (hq : Q (some (.int (nar t z))) T.heap locs) : own_Rch p e below (own_EndH Z EL s below Q C N) T (mkF m pc Ls (.int z :: rest)) := by
  obtain ⟨fs, hr, hrun, hended, h1, h2, h3, h4⟩ := X.leaveW hS hk (v := some (.int (nar t z))) (fun h => by rw [hret] at h; cases h) hlk
  exact ⟨_, retN X hx hret ht hd hr, hrun, _, _, hended, hq, hcr, h1, h2, h3, h4.mono hc hn⟩
theorem own_retIH {EL : List (String × Nat)} {vm0 : Vm} {k0 : Nat} {Q : Option Value → Heap → List Loc → Prop} {pc : Nat} {Ls : Array Slot} {z : Int32} {rest : List Value} (hcr : CHr Z EL s.vm s.heap T.vm T.heap) (hS : s.Since vm0 k0) (hk : k0 ≤ T.heap.size) (X : Stand p l e R (s.setVm vm0) m args below meth c T locs cells slots) (hx : p.tables.exec = Jvm.exec) (hlk : meth.locks = false) (hret : meth.sig.returnType = some .int) (hd : decode c.code pc = .ok (.ireturn, 1)) (hc : cells ≤ C) (hn : slots ≤ N)
    (hq : Q (some (.int z)) T.heap locs) : own_Rch p e below (own_EndH Z EL s below Q C N) T (mkF m pc Ls (.int z :: rest)) := by
  obtain ⟨fs, hr, hrun, hended, h1, h2, h3, h4⟩ := X.leaveW hS hk (v := some (.int z)) (fun h => by rw [hret] at h; cases h) hlk
  exact ⟨_, retOut X hx hret rfl (Or.inl ⟨rfl, Or.inl rfl, z, rfl⟩) hd hr, hrun, _, _, hended, hq, hcr, h1, h2, h3, h4.mono hc hn⟩
theorem own_retAH {EL : List (String × Nat)} {vm0 : Vm} {k0 : Nat} {Q : Option Value → Heap → List Loc → Prop} {pc : Nat} {Ls : Array Slot} {w : Value} {t : FieldType} {rest : List Value} (ht : t.isReference = true) (hw : w.isRef = true) (hcr : CHr Z EL s.vm s.heap T.vm T.heap) (hS : s.Since vm0 k0) (hk : k0 ≤ T.heap.size) (X : Stand p l e R (s.setVm vm0) m args below meth c T locs cells slots) (hx : p.tables.exec = Jvm.exec) (hlk : meth.locks = false) (hret : meth.sig.returnType = some t) (hd : decode c.code pc = .ok (.areturn, 1)) (hc : cells ≤ C) (hn : slots ≤ N)
    (hq : Q (some w) T.heap locs) : own_Rch p e below (own_EndH Z EL s below Q C N) T (mkF m pc Ls (w :: rest)) := by
  obtain ⟨fs, hr, hrun, hended, h1, h2, h3, h4⟩ := X.leaveW hS hk (v := some w) (fun h => by rw [hret] at h; cases h) hlk
  exact ⟨_, retOut X hx hret (own_narref ht) (Or.inr (Or.inr (Or.inr (Or.inr ⟨rfl, ht, hw⟩)))) hd hr, hrun, _, _, hended, hq, hcr, h1, h2, h3, h4.mono hc hn⟩
theorem own_retVH {EL : List (String × Nat)} {vm0 : Vm} {k0 : Nat} {Q : Option Value → Heap → List Loc → Prop} {pc : Nat} {Ls : Array Slot} (hcr : CHr Z EL s.vm s.heap T.vm T.heap) (hS : s.Since vm0 k0) (hk : k0 ≤ T.heap.size) (X : Stand p l e R (s.setVm vm0) m args below meth c T locs cells slots) (hx : p.tables.exec = Jvm.exec) (hlk : meth.locks = false) (hret : meth.sig.returnType = none) (hd : decode c.code pc = .ok (.return_, 1)) (hc : cells ≤ C) (hn : slots ≤ N)
    (hq : Q none T.heap locs) : own_Rch p e below (own_EndH Z EL s below Q C N) T (mkF m pc Ls []) := by
  obtain ⟨fs, hr, hrun, hended, h1, h2, h3, h4⟩ := X.leaveW hS hk (v := none) (fun _ => rfl) hlk
  exact ⟨_, X.returnOut hx hret hd hr, hrun, _, _, hended, hq, hcr, h1, h2, h3, h4.mono hc hn⟩
theorem own_old_le (O : Old Z n0 h) : n0 ≤ h.size := O.1 ▸ O.2.1
end Own
theorem own_cmp0 {args : Array Value} {Z : State} {t : Term} {c : Int32} (ht : t.eval args Z none [] Z = some (.int c)) (h : (Jvm.Cond.not (.eq t (.int 0))).value args Z none Z [] = some true) : ¬ c = 0 := by
  simp [Cond.value, ht, Term.eval] at h
  exact h
theorem own_char (p : Int32) : ¬ ((255 : Int32) < ((p &&& (255 : Int32)).toUInt32.toUInt16.toUInt32.toInt32)) := by
  have h1 := c_i2c (p &&& (255 : Int32))
  have h2 := c_and p (255 : Int32) (by decide)
  have h3 : (255 : Int32).toInt = 255 := by decide
  rw [Int32.lt_iff_toInt_lt]
  omega
theorem own_char0 (p : Int32) : ¬ (((p &&& (255 : Int32)).toUInt32.toUInt16.toUInt32.toInt32) < 0) := by
  have h1 := c_i2c (p &&& (255 : Int32))
  have h3 : (0 : Int32).toInt = 0 := by decide
  rw [Int32.lt_iff_toInt_lt]
  omega
def own_b (c : Int32) : Int32 := nar .byte ((nar .char c).toInt8.toInt32)
def own_len (l : List Int32) : Int32 := Int32.ofNat l.length
def own_ch (c : Int32) : Prop := 0 ≤ c.toInt ∧ c.toInt ≤ 255
theorem own_chc (p : Int32) : own_ch ((p &&& (255 : Int32)).toUInt32.toUInt16.toUInt32.toInt32) := by
  have h1 := c_i2c (p &&& (255 : Int32))
  have h2 := c_and p (255 : Int32) (by decide)
  have h3 : (255 : Int32).toInt = 255 := by decide
  unfold own_ch
  omega
theorem own_narc {c : Int32} (h : own_ch c) : (nar .char c).toInt = c.toInt := by
  have h1 := c_i2c c
  unfold own_ch at h
  show (c.toUInt32.toUInt16.toUInt32.toInt32).toInt = _
  omega
theorem own_big {c : Int32} (h : own_ch c) : ¬ ((255 : Int32) < nar .char c) := by
  rw [Int32.lt_iff_toInt_lt, own_narc h]
  have h3 : (255 : Int32).toInt = 255 := by decide
  unfold own_ch at h
  omega
def own_S9 : List Int32 := [(115 : Int32), (105 : Int32), (110 : Int32), (103 : Int32), (108 : Int32), (101 : Int32), (116 : Int32), (111 : Int32), (110 : Int32)]
def own_P9 : List Int32 := [(112 : Int32), (114 : Int32), (111 : Int32), (116 : Int32), (111 : Int32), (116 : Int32), (121 : Int32), (112 : Int32), (101 : Int32)]
theorem own_safe_null {Z : State} {h : Heap} {x : Addr} {EL : List (String × Nat)} {vm : Vm} (hal : Z.vm.Alike vm) (E : Exa Z h x "java/lang/String") (F : Fld Z h x "java/lang/String" "value" "[B" .null) : Safe Z EL vm h x := fun B => by
  obtain ⟨p, -, u, a, -, q, -, G, rfl | rfl⟩ := B
  · obtain ⟨cell, cf, k, i, f, e1, e2, -, -, -, -, e7⟩ := F
    cases (show h[q.sa]? = some q.sC from G.ha).symm.trans e1
    obtain ⟨cS, ⟨⟨-, -, -, ⟨c1, k1, i1, f1, -⟩, -, -, -, v1, -⟩, -⟩, -⟩ := G
    obtain ⟨k3, e3, -⟩ := State.fieldFound?_setVm (s := Z) hal e2
    have e4 := (show (Wst Z vm h).fieldFound? _ _ _ = _ from e3).symm.trans f1
    simp only [Option.some.injEq, Prod.mk.injEq] at e4
    rw [← e4.2.2.2, e7] at v1
    simp at v1
  · obtain ⟨cell, k, e1, e2, e3, -, -⟩ := E
    cases (show h[q.sd]? = some q.SA from G.hd).symm.trans e1
    obtain ⟨cS, -, -, f, -⟩ := G
    have f' : vm.findClass "[B" = some q.SA.cls := f
    rw [hal.findClass] at f'
    exact absurd rfl (ids_ne (Z := Z) f' e2 (by decide))

/-- a String of these bytes -/
def own_Str (Z : State) (h : Heap) (a : Addr) (l : List Int32) : Prop := ∃ (y : Addr) (k : ClassId), Exa Z h a "java/lang/String" ∧ Fld Z h a "java/lang/String" "value" "[B" (.ref y) ∧ Fld Z h a "java/lang/String" "coder" "B" (.int (0 : Int32)) ∧ Arv Z h y k .byte (own_len l) (l.map Value.int) (.int (0 : Int32))
theorem own_Str.ext {Z : State} {h h' : Heap} {a : Addr} {l : List Int32} (F : own_Str Z h a l) (E : Ext h h') : own_Str Z h' a l := by
  obtain ⟨y, k, h1, h2, h3, h4⟩ := F
  exact ⟨y, k, h1.ext E, h2.ext E, h3.ext E, h4.ext E⟩
theorem own_Str.keep0 {Z : State} {h h' : Heap} {a : Addr} {l : List Int32} (F : own_Str Z h a l) (K : Keep h h' []) : own_Str Z h' a l := by
  obtain ⟨y, k, h1, h2, h3, h4⟩ := F
  exact ⟨y, k, h1.keep K, h2.keep K nin0, h3.keep K nin0, h4.keep K nin0⟩
theorem own_Str.keep1 {Z : State} {h h' : Heap} {a d : Addr} {l : List Int32} {C : String} {n : Nat} {a0 : Array Value} (F : own_Str Z h a l) (K : Keep h h' [d]) (E : Exa Z h d C) (hC : "java/lang/String" ≠ C) (w : (Jvm.Cond.instantiable C n).before a0 Z = true) : own_Str Z h' a l := by
  obtain ⟨y, k, h1, h2, h3, h4⟩ := F
  have n1 : a ∉ [d] := ninS (Exa.ne h1 E hC) nin0
  have n2 : y ∉ [d] := ninS (Ne.symm (Exa.neArv E h4 w)) nin0
  exact ⟨y, k, h1.keep K, h2.keep K n1, h3.keep K n1, h4.keep K n2⟩
theorem own_Str.wr1 {Z : State} {h h' : Heap} {a d : Addr} {sl : Nat} {v : Value} {l : List Int32} {C : String} {n : Nat} {a0 : Array Value} (F : own_Str Z h a l) (W : Wr h h' d sl v) (E : Exa Z h d C) (hC : "java/lang/String" ≠ C) (w : (Jvm.Cond.instantiable C n).before a0 Z = true) : own_Str Z h' a l := F.keep1 (Keep.of_wr W) E hC w
theorem own_Str.lt {Z : State} {h : Heap} {a : Addr} {l : List Int32} (F : own_Str Z h a l) : a < h.size := by obtain ⟨y, k, h1, -⟩ := F; exact h1.lt
/-- null, or a String: what setScope makes of it is the list l -/
def own_V (Z : State) (h : Heap) (v : Value) (l : List Int32) : Prop := (v = .null ∧ l = own_S9) ∨ (∃ a, v = .ref a ∧ own_Str Z h a [] ∧ l = own_S9) ∨ (∃ a, v = .ref a ∧ own_Str Z h a l ∧ ¬ own_len l = 0 ∧ (l.length ≤ 3 ∨ l = own_P9))
theorem own_V.keep0 {Z : State} {h h' : Heap} {v : Value} {l : List Int32} (F : own_V Z h v l) (K : Keep h h' []) : own_V Z h' v l := by
  rcases F with F | ⟨a, h1, h2, h3⟩ | ⟨a, h1, h2, h3⟩
  · exact Or.inl F
  · exact Or.inr (Or.inl ⟨a, h1, h2.keep0 K, h3⟩)
  · exact Or.inr (Or.inr ⟨a, h1, h2.keep0 K, h3⟩)
theorem own_V.ext {Z : State} {h h' : Heap} {v : Value} {l : List Int32} (F : own_V Z h v l) (E : Ext h h') : own_V Z h' v l := by
  rcases F with F | ⟨a, h1, h2, h3⟩ | ⟨a, h1, h2, h3⟩
  · exact Or.inl F
  · exact Or.inr (Or.inl ⟨a, h1, h2.ext E, h3⟩)
  · exact Or.inr (Or.inr ⟨a, h1, h2.ext E, h3⟩)
theorem own_V.keep1 {Z : State} {h h' : Heap} {d : Addr} {v : Value} {l : List Int32} {C : String} {n : Nat} {a0 : Array Value} (F : own_V Z h v l) (K : Keep h h' [d]) (E : Exa Z h d C) (hC : "java/lang/String" ≠ C) (w : (Jvm.Cond.instantiable C n).before a0 Z = true) : own_V Z h' v l := by
  rcases F with F | ⟨a, h1, h2, h3⟩ | ⟨a, h1, h2, h3⟩
  · exact Or.inl F
  · exact Or.inr (Or.inl ⟨a, h1, h2.keep1 K E hC w, h3⟩)
  · exact Or.inr (Or.inr ⟨a, h1, h2.keep1 K E hC w, h3⟩)
theorem own_V.ref {Z : State} {h : Heap} {v : Value} {l : List Int32} (F : own_V Z h v l) : v.isRef = true := by
  rcases F with ⟨rfl, -⟩ | ⟨a, rfl, -⟩ | ⟨a, rfl, -⟩ <;> rfl
theorem own_V.ok {Z : State} {h : Heap} {v : Value} {l : List Int32} (F : own_V Z h v l) : l.length ≤ 3 ∨ l = own_P9 ∨ l = own_S9 := by
  rcases F with ⟨-, e⟩ | ⟨a, -, -, e⟩ | ⟨a, -, -, -, e⟩
  · exact Or.inr (Or.inr e)
  · exact Or.inr (Or.inr e)
  · exact e.imp id Or.inl
theorem own_le3 {l : List Int32} (h : l.length ≤ 3) : l = [] ∨ (∃ x, l = [x]) ∨ (∃ x y, l = [x, y]) ∨ (∃ x y z, l = [x, y, z]) := by
  cases l with
  | nil => exact Or.inl rfl
  | cons x l => cases l with
    | nil => exact Or.inr (Or.inl ⟨x, rfl⟩)
    | cons y l => cases l with
      | nil => exact Or.inr (Or.inr (Or.inl ⟨x, y, rfl⟩))
      | cons z l => cases l with
        | nil => exact Or.inr (Or.inr (Or.inr ⟨x, y, z, rfl⟩))
        | cons w l => simp only [List.length_cons] at h; omega
theorem own_len1 (x : Int32) : own_len [x] = (1 : Int32) := by simp [own_len]
theorem own_len2 (x y : Int32) : own_len [x, y] = (2 : Int32) := by simp [own_len]
theorem own_len3 (x y z : Int32) : own_len [x, y, z] = (3 : Int32) := by simp [own_len]
theorem own_and3 (p : Int32) : (p &&& (3 : Int32)) = 0 ∨ (p &&& (3 : Int32)) = 1 ∨ (p &&& (3 : Int32)) = 2 ∨ (p &&& (3 : Int32)) = 3 := by
  have h := c_and p (3 : Int32) (by decide)
  have e3 : (3 : Int32).toInt = 3 := by decide
  have e0 : (0 : Int32).toInt = 0 := by decide
  have e1 : (1 : Int32).toInt = 1 := by decide
  have e2 : (2 : Int32).toInt = 2 := by decide
  simp only [← Int32.toInt_inj]
  omega
def own_Q_r (r : Int32) (h0 : Heap) (n0 : Nat) (v : Option Value) (h : Heap) (L : List Loc) : Prop := v = some (.int r) ∧ Fr n0 L ∧ h = h0
def own_Q_any (h0 : Heap) (n0 : Nat) (v : Option Value) (h : Heap) (L : List Loc) : Prop := ∃ r : Int32, v = some (.int r) ∧ Fr n0 L ∧ h = h0
theorem own_wS {Z : State} {a0 : Array Value} (hw : ∀ d ∈ tables_1, d.before a0 Z = true) : ∀ a ∈ Bundle.stringAtoms, a.before a0 Z = true := by
  intro a ha
  simp only [Bundle.stringAtoms, List.mem_cons, List.not_mem_nil, or_false] at ha
  rcases ha with rfl | rfl | rfl | rfl | rfl | rfl | rfl
  · exact (hw _ (List.mem_of_getElem? (i := 9) rfl))
  · exact (hw _ (List.mem_of_getElem? (i := 8) rfl))
  · exact (hw _ (List.mem_of_getElem? (i := 26) rfl))
  · exact (hw _ (List.mem_of_getElem? (i := 36) rfl))
  · exact (hw _ (List.mem_of_getElem? (i := 34) rfl))
  · exact (hw _ (List.mem_of_getElem? (i := 69) rfl))
  · exact (hw _ (List.mem_of_getElem? (i := 70) rfl))
theorem own_hEL {Z : State} {a0 : Array Value} (hw : ∀ d ∈ tables_1, d.before a0 Z = true) : EW Z a0 consts_1 := (EW.cons (hw _ (List.mem_of_getElem? (i := 68) rfl)) (by decide) (EW.cons (hw _ (List.mem_of_getElem? (i := 97) rfl)) (by decide) (EW.cons (hw _ (List.mem_of_getElem? (i := 80) rfl)) (by decide) (EW.cons (hw _ (List.mem_of_getElem? (i := 71) rfl)) (by decide) (EW.cons (hw _ (List.mem_of_getElem? (i := 101) rfl)) (by decide) EW.nil)))))
theorem own_pn0 : plainName "java/lang/StringLatin1" = true := by first | (simp [plainName, overriddenIn]; done) | decide +kernel
theorem own_ef15 (m : MethodId) (x0 : Addr) (x1 : Addr) : entryFrame m #[(.ref x0), (.ref x1)] 3 = mkF m 0 #[.val (.ref x0), .val (.ref x1), .unset] [] := by first | (simp [entryFrame, mkF, argsToLocals, Value.category]; done) | rfl
theorem own_d15_0 : decode jdk_43_method_13_code 0 = .ok (.aload_n 0, 1) := by decide +kernel
theorem own_d15_1 : decode jdk_43_method_13_code 1 = .ok (.arraylength, 1) := by decide +kernel
theorem own_d15_2 : decode jdk_43_method_13_code 2 = .ok (.aload_n 1, 1) := by decide +kernel
theorem own_d15_3 : decode jdk_43_method_13_code 3 = .ok (.arraylength, 1) := by decide +kernel
theorem own_d15_4 : decode jdk_43_method_13_code 4 = .ok (.if_icmp .ne 30, 3) := by decide +kernel
theorem own_d15_7 : decode jdk_43_method_13_code 7 = .ok (.iconst 0, 1) := by decide +kernel
theorem own_d15_8 : decode jdk_43_method_13_code 8 = .ok (.istore_n 2, 1) := by decide +kernel
theorem own_d15_9 : decode jdk_43_method_13_code 9 = .ok (.iload_n 2, 1) := by decide +kernel
theorem own_d15_10 : decode jdk_43_method_13_code 10 = .ok (.aload_n 0, 1) := by decide +kernel
theorem own_d15_11 : decode jdk_43_method_13_code 11 = .ok (.arraylength, 1) := by decide +kernel
theorem own_d15_12 : decode jdk_43_method_13_code 12 = .ok (.if_icmp .ge 20, 3) := by decide +kernel
theorem own_d15_32 : decode jdk_43_method_13_code 32 = .ok (.iconst 1, 1) := by decide +kernel
theorem own_d15_33 : decode jdk_43_method_13_code 33 = .ok (.ireturn, 1) := by decide +kernel
set_option maxRecDepth 65536 in
set_option maxHeartbeats 40000000 in
theorem own_ls0 (l : Launch) (Z : State) (a0 : Array Value) (hw : ∀ d ∈ tables_1, d.before a0 Z = true) (ws : List Jvm.Cond) (a : Addr) (b : Addr) (ka : ClassId) (kb : ClassId) (h0 : Heap) (n0 : Nat) (O0 : Old Z n0 h0) (VA : Arv Z h0 a ka .byte (0 : Int32) [] (.int (0 : Int32))) (VB : Arv Z h0 b kb .byte (0 : Int32) [] (.int (0 : Int32))) :
    MetFree l (⟨"java/lang/StringLatin1", "equals", "([B[B)Z"⟩ : MethodName) (head1 (Jvm.Cond.code (⟨"java/lang/StringLatin1", "equals", "([B[B)Z"⟩ : MethodName) jdk_43_method_13_code 3 (some .boolean) :: ws) ({ frames := 0, cells := 0, slots := 0, locals := 0 } : Room)) (fun args_ U => args_ = #[(.ref a), (.ref b)] ∧ Z.Warmed39 U.vm ∧ U.heap = h0) (fun _ _ _ _ _ => True) (fun _ U o U' => ∃ v L, o = .returned v ∧ (own_Q_r (1 : Int32) h0 n0) v U'.heap L ∧ FrameEnd U o U' L ({ frames := 0, cells := 0, slots := 0, locals := 0 } : Room).cells ({ frames := 0, cells := 0, slots := 0, locals := 0 } : Room).slots) := by
  refine MetFree.of_bodySF (plainFor_of_name own_pn0) hisR ?_
  intro p e s m args below meth c s₁ Bd hml0 hP hK
  obtain ⟨rfl, hZ, hh⟩ := hP
  have hx := Bd.exec
  have hby := Bd.bytes
  have hml : c.maxLocals = 3 := hml0
  have hown : s.vm.findClass "java/lang/StringLatin1" = some m.cls := findClass_of_methodNamed Bd.named
  have hnm := (name_of_methodNamed Bd.named Bd.method).1
  have X0 : Stand p l e ({ frames := 0, cells := 0, slots := 0, locals := 0 } : Room) s m #[(.ref a), (.ref b)] below meth c s₁ [] 0 0 := Stand.of_body Bd
  have e0 : s₁.heap = h0 := by rw [← hh, Bd.state]; rfl
  have N0 := Fr.nil n0
  refine own_close (s := s) (Q := (own_Q_r (1 : Int32) h0 n0)) (C := (({ frames := 0, cells := 0, slots := 0, locals := 0 } : Room)).cells) (N := (({ frames := 0, cells := 0, slots := 0, locals := 0 } : Room)).slots) (own_st (fun _ kt => castTop (own_ef15 m a b) kt) ?_)
  show own_Rch p e below _ s₁ (mkF m 0 #[.val (.ref a), .val (.ref b), .unset] [])
  refine own_st (fun _ kt => XS.aloadN X0.here hx rfl (hb hby own_d15_0) rfl rfl  kt) ?_
  show own_Rch p e below _ s₁ (mkF m 1 #[.val (.ref a), .val (.ref b), .unset] [(.ref a)])
  obtain ⟨cl1, Ar1, -, S1, M1, -, -⟩ := id VA
  refine own_st (X0.arraylength hx (by rw [e0]; exact Ar1.1) (State.isArrayOf_alike (hZ).alike Ar1.2.1) (g := (mkF m 1 #[.val (.ref a), .val (.ref b), .unset] [(.ref a)])) rfl rfl (hb hby own_d15_1)) ?_
  rw [len_of S1 M1]
  show own_Rch p e below _ s₁ (mkF m 2 #[.val (.ref a), .val (.ref b), .unset] [(.int (0 : Int32))])
  refine own_st (fun _ kt => XS.aloadN X0.here hx rfl (hb hby own_d15_2) rfl rfl  kt) ?_
  show own_Rch p e below _ s₁ (mkF m 3 #[.val (.ref a), .val (.ref b), .unset] [(.ref b), (.int (0 : Int32))])
  obtain ⟨cl2, Ar2, -, S2, M2, -, -⟩ := id VB
  refine own_st (X0.arraylength hx (by rw [e0]; exact Ar2.1) (State.isArrayOf_alike (hZ).alike Ar2.2.1) (g := (mkF m 3 #[.val (.ref a), .val (.ref b), .unset] [(.ref b), (.int (0 : Int32))])) rfl rfl (hb hby own_d15_3)) ?_
  rw [len_of S2 M2]
  show own_Rch p e below _ s₁ (mkF m 4 #[.val (.ref a), .val (.ref b), .unset] [(.int (0 : Int32)), (.int (0 : Int32))])
  refine own_st (fun _ kt => XS.icmpNo X0.here hx rfl (hb hby own_d15_4) rfl (teq (rfl : (0 : Int32) = (0 : Int32))).2 kt) ?_
  show own_Rch p e below _ s₁ (mkF m 7 #[.val (.ref a), .val (.ref b), .unset] [])
  refine own_st (fun _ kt => XS.iconst X0.here hx rfl (hb hby own_d15_7) kt) ?_
  show own_Rch p e below _ s₁ (mkF m 8 #[.val (.ref a), .val (.ref b), .unset] [(.int (0 : Int32))])
  refine own_st (fun _ kt => XS.istoreN X0.here hx rfl (hb hby own_d15_8) rfl (l' := #[.val (.ref a), .val (.ref b), .val (.int (0 : Int32))]) rfl kt) ?_
  show own_Rch p e below _ s₁ (mkF m 9 #[.val (.ref a), .val (.ref b), .val (.int (0 : Int32))] [])
  refine own_st (fun _ kt => XS.iloadN X0.here hx rfl (hb hby own_d15_9) rfl  kt) ?_
  show own_Rch p e below _ s₁ (mkF m 10 #[.val (.ref a), .val (.ref b), .val (.int (0 : Int32))] [(.int (0 : Int32))])
  refine own_st (fun _ kt => XS.aloadN X0.here hx rfl (hb hby own_d15_10) rfl rfl  kt) ?_
  show own_Rch p e below _ s₁ (mkF m 11 #[.val (.ref a), .val (.ref b), .val (.int (0 : Int32))] [(.ref a), (.int (0 : Int32))])
  obtain ⟨cl3, Ar3, -, S3, M3, -, -⟩ := id VA
  refine own_st (X0.arraylength hx (by rw [e0]; exact Ar3.1) (State.isArrayOf_alike (hZ).alike Ar3.2.1) (g := (mkF m 11 #[.val (.ref a), .val (.ref b), .val (.int (0 : Int32))] [(.ref a), (.int (0 : Int32))])) rfl rfl (hb hby own_d15_11)) ?_
  rw [len_of S3 M3]
  show own_Rch p e below _ s₁ (mkF m 12 #[.val (.ref a), .val (.ref b), .val (.int (0 : Int32))] [(.int (0 : Int32)), (.int (0 : Int32))])
  refine own_st (fun _ kt => XS.icmpYes X0.here hx rfl (pc0 := 12) (pc' := 32) rfl (hb hby own_d15_12) rfl (flt ((by decide) : ¬ ((0 : Int32) < (0 : Int32)))).2.1 (by decide) (by decide) kt) ?_
  show own_Rch p e below _ s₁ (mkF m 32 #[.val (.ref a), .val (.ref b), .val (.int (0 : Int32))] [])
  refine own_st (fun _ kt => XS.iconst X0.here hx rfl (hb hby own_d15_32) kt) ?_
  show own_Rch p e below _ s₁ (mkF m 33 #[.val (.ref a), .val (.ref b), .val (.int (0 : Int32))] [(.int (1 : Int32))])
  refine own_retN (t := .boolean) (by simp) X0 hx Bd.notSynchronized Bd.returns (hb hby own_d15_33) (by decide) (by decide) ?_
  rw [e0]
  exact ⟨rfl, N0, rfl⟩
theorem own_d15_15 : decode jdk_43_method_13_code 15 = .ok (.aload_n 0, 1) := by decide +kernel
theorem own_d15_16 : decode jdk_43_method_13_code 16 = .ok (.iload_n 2, 1) := by decide +kernel
theorem own_d15_17 : decode jdk_43_method_13_code 17 = .ok (.baload, 1) := by decide +kernel
theorem own_d15_18 : decode jdk_43_method_13_code 18 = .ok (.aload_n 1, 1) := by decide +kernel
theorem own_d15_19 : decode jdk_43_method_13_code 19 = .ok (.iload_n 2, 1) := by decide +kernel
theorem own_d15_20 : decode jdk_43_method_13_code 20 = .ok (.baload, 1) := by decide +kernel
theorem own_d15_21 : decode jdk_43_method_13_code 21 = .ok (.if_icmp .eq 5, 3) := by decide +kernel
theorem own_d15_26 : decode jdk_43_method_13_code 26 = .ok (.iinc 2 1, 3) := by decide +kernel
theorem own_d15_29 : decode jdk_43_method_13_code 29 = .ok (.goto (-20), 3) := by decide +kernel
set_option maxRecDepth 65536 in
set_option maxHeartbeats 40000000 in
theorem own_ls1 (l : Launch) (Z : State) (a0 : Array Value) (hw : ∀ d ∈ tables_1, d.before a0 Z = true) (ws : List Jvm.Cond) (a : Addr) (b : Addr) (ka : ClassId) (kb : ClassId) (x0 : Int32) (h0 : Heap) (n0 : Nat) (O0 : Old Z n0 h0) (VA : Arv Z h0 a ka .byte (1 : Int32) [(.int x0)] (.int (0 : Int32))) (VB : Arv Z h0 b kb .byte (1 : Int32) [(.int x0)] (.int (0 : Int32))) :
    MetFree l (⟨"java/lang/StringLatin1", "equals", "([B[B)Z"⟩ : MethodName) (head1 (Jvm.Cond.code (⟨"java/lang/StringLatin1", "equals", "([B[B)Z"⟩ : MethodName) jdk_43_method_13_code 3 (some .boolean) :: ws) ({ frames := 0, cells := 0, slots := 0, locals := 0 } : Room)) (fun args_ U => args_ = #[(.ref a), (.ref b)] ∧ Z.Warmed39 U.vm ∧ U.heap = h0) (fun _ _ _ _ _ => True) (fun _ U o U' => ∃ v L, o = .returned v ∧ (own_Q_r (1 : Int32) h0 n0) v U'.heap L ∧ FrameEnd U o U' L ({ frames := 0, cells := 0, slots := 0, locals := 0 } : Room).cells ({ frames := 0, cells := 0, slots := 0, locals := 0 } : Room).slots) := by
  refine MetFree.of_bodySF (plainFor_of_name own_pn0) hisR ?_
  intro p e s m args below meth c s₁ Bd hml0 hP hK
  obtain ⟨rfl, hZ, hh⟩ := hP
  have hx := Bd.exec
  have hby := Bd.bytes
  have hml : c.maxLocals = 3 := hml0
  have hown : s.vm.findClass "java/lang/StringLatin1" = some m.cls := findClass_of_methodNamed Bd.named
  have hnm := (name_of_methodNamed Bd.named Bd.method).1
  have X0 : Stand p l e ({ frames := 0, cells := 0, slots := 0, locals := 0 } : Room) s m #[(.ref a), (.ref b)] below meth c s₁ [] 0 0 := Stand.of_body Bd
  have e0 : s₁.heap = h0 := by rw [← hh, Bd.state]; rfl
  have N0 := Fr.nil n0
  refine own_close (s := s) (Q := (own_Q_r (1 : Int32) h0 n0)) (C := (({ frames := 0, cells := 0, slots := 0, locals := 0 } : Room)).cells) (N := (({ frames := 0, cells := 0, slots := 0, locals := 0 } : Room)).slots) (own_st (fun _ kt => castTop (own_ef15 m a b) kt) ?_)
  show own_Rch p e below _ s₁ (mkF m 0 #[.val (.ref a), .val (.ref b), .unset] [])
  refine own_st (fun _ kt => XS.aloadN X0.here hx rfl (hb hby own_d15_0) rfl rfl  kt) ?_
  show own_Rch p e below _ s₁ (mkF m 1 #[.val (.ref a), .val (.ref b), .unset] [(.ref a)])
  obtain ⟨cl1, Ar1, -, S1, M1, -, -⟩ := id VA
  refine own_st (X0.arraylength hx (by rw [e0]; exact Ar1.1) (State.isArrayOf_alike (hZ).alike Ar1.2.1) (g := (mkF m 1 #[.val (.ref a), .val (.ref b), .unset] [(.ref a)])) rfl rfl (hb hby own_d15_1)) ?_
  rw [len_of S1 M1]
  show own_Rch p e below _ s₁ (mkF m 2 #[.val (.ref a), .val (.ref b), .unset] [(.int (1 : Int32))])
  refine own_st (fun _ kt => XS.aloadN X0.here hx rfl (hb hby own_d15_2) rfl rfl  kt) ?_
  show own_Rch p e below _ s₁ (mkF m 3 #[.val (.ref a), .val (.ref b), .unset] [(.ref b), (.int (1 : Int32))])
  obtain ⟨cl2, Ar2, -, S2, M2, -, -⟩ := id VB
  refine own_st (X0.arraylength hx (by rw [e0]; exact Ar2.1) (State.isArrayOf_alike (hZ).alike Ar2.2.1) (g := (mkF m 3 #[.val (.ref a), .val (.ref b), .unset] [(.ref b), (.int (1 : Int32))])) rfl rfl (hb hby own_d15_3)) ?_
  rw [len_of S2 M2]
  show own_Rch p e below _ s₁ (mkF m 4 #[.val (.ref a), .val (.ref b), .unset] [(.int (1 : Int32)), (.int (1 : Int32))])
  refine own_st (fun _ kt => XS.icmpNo X0.here hx rfl (hb hby own_d15_4) rfl (teq (rfl : (1 : Int32) = (1 : Int32))).2 kt) ?_
  show own_Rch p e below _ s₁ (mkF m 7 #[.val (.ref a), .val (.ref b), .unset] [])
  refine own_st (fun _ kt => XS.iconst X0.here hx rfl (hb hby own_d15_7) kt) ?_
  show own_Rch p e below _ s₁ (mkF m 8 #[.val (.ref a), .val (.ref b), .unset] [(.int (0 : Int32))])
  refine own_st (fun _ kt => XS.istoreN X0.here hx rfl (hb hby own_d15_8) rfl (l' := #[.val (.ref a), .val (.ref b), .val (.int (0 : Int32))]) rfl kt) ?_
  show own_Rch p e below _ s₁ (mkF m 9 #[.val (.ref a), .val (.ref b), .val (.int (0 : Int32))] [])
  refine own_st (fun _ kt => XS.iloadN X0.here hx rfl (hb hby own_d15_9) rfl  kt) ?_
  show own_Rch p e below _ s₁ (mkF m 10 #[.val (.ref a), .val (.ref b), .val (.int (0 : Int32))] [(.int (0 : Int32))])
  refine own_st (fun _ kt => XS.aloadN X0.here hx rfl (hb hby own_d15_10) rfl rfl  kt) ?_
  show own_Rch p e below _ s₁ (mkF m 11 #[.val (.ref a), .val (.ref b), .val (.int (0 : Int32))] [(.ref a), (.int (0 : Int32))])
  obtain ⟨cl3, Ar3, -, S3, M3, -, -⟩ := id VA
  refine own_st (X0.arraylength hx (by rw [e0]; exact Ar3.1) (State.isArrayOf_alike (hZ).alike Ar3.2.1) (g := (mkF m 11 #[.val (.ref a), .val (.ref b), .val (.int (0 : Int32))] [(.ref a), (.int (0 : Int32))])) rfl rfl (hb hby own_d15_11)) ?_
  rw [len_of S3 M3]
  show own_Rch p e below _ s₁ (mkF m 12 #[.val (.ref a), .val (.ref b), .val (.int (0 : Int32))] [(.int (1 : Int32)), (.int (0 : Int32))])
  refine own_st (fun _ kt => XS.icmpNo X0.here hx rfl (hb hby own_d15_12) rfl (tlt ((by decide) : (0 : Int32) < (1 : Int32))).2.1 kt) ?_
  show own_Rch p e below _ s₁ (mkF m 15 #[.val (.ref a), .val (.ref b), .val (.int (0 : Int32))] [])
  refine own_st (fun _ kt => XS.aloadN X0.here hx rfl (hb hby own_d15_15) rfl rfl  kt) ?_
  show own_Rch p e below _ s₁ (mkF m 16 #[.val (.ref a), .val (.ref b), .val (.int (0 : Int32))] [(.ref a)])
  refine own_st (fun _ kt => XS.iloadN X0.here hx rfl (hb hby own_d15_16) rfl  kt) ?_
  show own_Rch p e below _ s₁ (mkF m 17 #[.val (.ref a), .val (.ref b), .val (.int (0 : Int32))] [(.int (0 : Int32)), (.ref a)])
  obtain ⟨cl4, Ar4, q4, S4, M4, H4, G4⟩ := id VA
  have hin4 : ¬ ((0 : Int32) < 0 ∨ cl4.slots.size ≤ ((0 : Int32)).toNatClampNeg) := inb_of S4 ⟨by decide, by decide⟩
  refine own_st (X0.baloadBytes hx (j := (0 : Int32)) (v := (.int x0)) (by rw [e0]; exact Ar4.1) (State.isArrayOf_alike (hZ).alike Ar4.2.1) Ar4.2.2 hin4 (H4.at hin4 rfl) (g := (mkF m 17 #[.val (.ref a), .val (.ref b), .val (.int (0 : Int32))] [(.int (0 : Int32)), (.ref a)])) rfl rfl (hb hby own_d15_17)) ?_
  show own_Rch p e below _ s₁ (mkF m 18 #[.val (.ref a), .val (.ref b), .val (.int (0 : Int32))] [(.int x0)])
  refine own_st (fun _ kt => XS.aloadN X0.here hx rfl (hb hby own_d15_18) rfl rfl  kt) ?_
  show own_Rch p e below _ s₁ (mkF m 19 #[.val (.ref a), .val (.ref b), .val (.int (0 : Int32))] [(.ref b), (.int x0)])
  refine own_st (fun _ kt => XS.iloadN X0.here hx rfl (hb hby own_d15_19) rfl  kt) ?_
  show own_Rch p e below _ s₁ (mkF m 20 #[.val (.ref a), .val (.ref b), .val (.int (0 : Int32))] [(.int (0 : Int32)), (.ref b), (.int x0)])
  obtain ⟨cl5, Ar5, q5, S5, M5, H5, G5⟩ := id VB
  have hin5 : ¬ ((0 : Int32) < 0 ∨ cl5.slots.size ≤ ((0 : Int32)).toNatClampNeg) := inb_of S5 ⟨by decide, by decide⟩
  refine own_st (X0.baloadBytes hx (j := (0 : Int32)) (v := (.int x0)) (by rw [e0]; exact Ar5.1) (State.isArrayOf_alike (hZ).alike Ar5.2.1) Ar5.2.2 hin5 (H5.at hin5 rfl) (g := (mkF m 20 #[.val (.ref a), .val (.ref b), .val (.int (0 : Int32))] [(.int (0 : Int32)), (.ref b), (.int x0)])) rfl rfl (hb hby own_d15_20)) ?_
  show own_Rch p e below _ s₁ (mkF m 21 #[.val (.ref a), .val (.ref b), .val (.int (0 : Int32))] [(.int x0), (.int x0)])
  refine own_st (fun _ kt => XS.icmpYes X0.here hx rfl (pc0 := 21) (pc' := 26) rfl (hb hby own_d15_21) rfl (teq (rfl : x0 = x0)).1 (by decide) (by decide) kt) ?_
  show own_Rch p e below _ s₁ (mkF m 26 #[.val (.ref a), .val (.ref b), .val (.int (0 : Int32))] [])
  refine own_st (fun _ kt => XS.iinc X0.here hx rfl (hb hby own_d15_26) rfl (l' := #[.val (.ref a), .val (.ref b), .val (.int (1 : Int32))]) rfl kt) ?_
  show own_Rch p e below _ s₁ (mkF m 29 #[.val (.ref a), .val (.ref b), .val (.int (1 : Int32))] [])
  refine own_st (fun _ kt => XS.goto X0.here hx rfl (pc0 := 29) (pc' := 9) rfl (hb hby own_d15_29) (by decide) (by decide) kt) ?_
  show own_Rch p e below _ s₁ (mkF m 9 #[.val (.ref a), .val (.ref b), .val (.int (1 : Int32))] [])
  refine own_st (fun _ kt => XS.iloadN X0.here hx rfl (hb hby own_d15_9) rfl  kt) ?_
  show own_Rch p e below _ s₁ (mkF m 10 #[.val (.ref a), .val (.ref b), .val (.int (1 : Int32))] [(.int (1 : Int32))])
  refine own_st (fun _ kt => XS.aloadN X0.here hx rfl (hb hby own_d15_10) rfl rfl  kt) ?_
  show own_Rch p e below _ s₁ (mkF m 11 #[.val (.ref a), .val (.ref b), .val (.int (1 : Int32))] [(.ref a), (.int (1 : Int32))])
  obtain ⟨cl6, Ar6, -, S6, M6, -, -⟩ := id VA
  refine own_st (X0.arraylength hx (by rw [e0]; exact Ar6.1) (State.isArrayOf_alike (hZ).alike Ar6.2.1) (g := (mkF m 11 #[.val (.ref a), .val (.ref b), .val (.int (1 : Int32))] [(.ref a), (.int (1 : Int32))])) rfl rfl (hb hby own_d15_11)) ?_
  rw [len_of S6 M6]
  show own_Rch p e below _ s₁ (mkF m 12 #[.val (.ref a), .val (.ref b), .val (.int (1 : Int32))] [(.int (1 : Int32)), (.int (1 : Int32))])
  refine own_st (fun _ kt => XS.icmpYes X0.here hx rfl (pc0 := 12) (pc' := 32) rfl (hb hby own_d15_12) rfl (flt ((by decide) : ¬ ((1 : Int32) < (1 : Int32)))).2.1 (by decide) (by decide) kt) ?_
  show own_Rch p e below _ s₁ (mkF m 32 #[.val (.ref a), .val (.ref b), .val (.int (1 : Int32))] [])
  refine own_st (fun _ kt => XS.iconst X0.here hx rfl (hb hby own_d15_32) kt) ?_
  show own_Rch p e below _ s₁ (mkF m 33 #[.val (.ref a), .val (.ref b), .val (.int (1 : Int32))] [(.int (1 : Int32))])
  refine own_retN (t := .boolean) (by simp) X0 hx Bd.notSynchronized Bd.returns (hb hby own_d15_33) (by decide) (by decide) ?_
  rw [e0]
  exact ⟨rfl, N0, rfl⟩
set_option maxRecDepth 65536 in
set_option maxHeartbeats 40000000 in
theorem own_ls2 (l : Launch) (Z : State) (a0 : Array Value) (hw : ∀ d ∈ tables_1, d.before a0 Z = true) (ws : List Jvm.Cond) (a : Addr) (b : Addr) (ka : ClassId) (kb : ClassId) (x0 : Int32) (x1 : Int32) (h0 : Heap) (n0 : Nat) (O0 : Old Z n0 h0) (VA : Arv Z h0 a ka .byte (2 : Int32) [(.int x0), (.int x1)] (.int (0 : Int32))) (VB : Arv Z h0 b kb .byte (2 : Int32) [(.int x0), (.int x1)] (.int (0 : Int32))) :
    MetFree l (⟨"java/lang/StringLatin1", "equals", "([B[B)Z"⟩ : MethodName) (head1 (Jvm.Cond.code (⟨"java/lang/StringLatin1", "equals", "([B[B)Z"⟩ : MethodName) jdk_43_method_13_code 3 (some .boolean) :: ws) ({ frames := 0, cells := 0, slots := 0, locals := 0 } : Room)) (fun args_ U => args_ = #[(.ref a), (.ref b)] ∧ Z.Warmed39 U.vm ∧ U.heap = h0) (fun _ _ _ _ _ => True) (fun _ U o U' => ∃ v L, o = .returned v ∧ (own_Q_r (1 : Int32) h0 n0) v U'.heap L ∧ FrameEnd U o U' L ({ frames := 0, cells := 0, slots := 0, locals := 0 } : Room).cells ({ frames := 0, cells := 0, slots := 0, locals := 0 } : Room).slots) := by
  refine MetFree.of_bodySF (plainFor_of_name own_pn0) hisR ?_
  intro p e s m args below meth c s₁ Bd hml0 hP hK
  obtain ⟨rfl, hZ, hh⟩ := hP
  have hx := Bd.exec
  have hby := Bd.bytes
  have hml : c.maxLocals = 3 := hml0
  have hown : s.vm.findClass "java/lang/StringLatin1" = some m.cls := findClass_of_methodNamed Bd.named
  have hnm := (name_of_methodNamed Bd.named Bd.method).1
  have X0 : Stand p l e ({ frames := 0, cells := 0, slots := 0, locals := 0 } : Room) s m #[(.ref a), (.ref b)] below meth c s₁ [] 0 0 := Stand.of_body Bd
  have e0 : s₁.heap = h0 := by rw [← hh, Bd.state]; rfl
  have N0 := Fr.nil n0
  refine own_close (s := s) (Q := (own_Q_r (1 : Int32) h0 n0)) (C := (({ frames := 0, cells := 0, slots := 0, locals := 0 } : Room)).cells) (N := (({ frames := 0, cells := 0, slots := 0, locals := 0 } : Room)).slots) (own_st (fun _ kt => castTop (own_ef15 m a b) kt) ?_)
  show own_Rch p e below _ s₁ (mkF m 0 #[.val (.ref a), .val (.ref b), .unset] [])
  refine own_st (fun _ kt => XS.aloadN X0.here hx rfl (hb hby own_d15_0) rfl rfl  kt) ?_
  show own_Rch p e below _ s₁ (mkF m 1 #[.val (.ref a), .val (.ref b), .unset] [(.ref a)])
  obtain ⟨cl1, Ar1, -, S1, M1, -, -⟩ := id VA
  refine own_st (X0.arraylength hx (by rw [e0]; exact Ar1.1) (State.isArrayOf_alike (hZ).alike Ar1.2.1) (g := (mkF m 1 #[.val (.ref a), .val (.ref b), .unset] [(.ref a)])) rfl rfl (hb hby own_d15_1)) ?_
  rw [len_of S1 M1]
  show own_Rch p e below _ s₁ (mkF m 2 #[.val (.ref a), .val (.ref b), .unset] [(.int (2 : Int32))])
  refine own_st (fun _ kt => XS.aloadN X0.here hx rfl (hb hby own_d15_2) rfl rfl  kt) ?_
  show own_Rch p e below _ s₁ (mkF m 3 #[.val (.ref a), .val (.ref b), .unset] [(.ref b), (.int (2 : Int32))])
  obtain ⟨cl2, Ar2, -, S2, M2, -, -⟩ := id VB
  refine own_st (X0.arraylength hx (by rw [e0]; exact Ar2.1) (State.isArrayOf_alike (hZ).alike Ar2.2.1) (g := (mkF m 3 #[.val (.ref a), .val (.ref b), .unset] [(.ref b), (.int (2 : Int32))])) rfl rfl (hb hby own_d15_3)) ?_
  rw [len_of S2 M2]
  show own_Rch p e below _ s₁ (mkF m 4 #[.val (.ref a), .val (.ref b), .unset] [(.int (2 : Int32)), (.int (2 : Int32))])
  refine own_st (fun _ kt => XS.icmpNo X0.here hx rfl (hb hby own_d15_4) rfl (teq (rfl : (2 : Int32) = (2 : Int32))).2 kt) ?_
  show own_Rch p e below _ s₁ (mkF m 7 #[.val (.ref a), .val (.ref b), .unset] [])
  refine own_st (fun _ kt => XS.iconst X0.here hx rfl (hb hby own_d15_7) kt) ?_
  show own_Rch p e below _ s₁ (mkF m 8 #[.val (.ref a), .val (.ref b), .unset] [(.int (0 : Int32))])
  refine own_st (fun _ kt => XS.istoreN X0.here hx rfl (hb hby own_d15_8) rfl (l' := #[.val (.ref a), .val (.ref b), .val (.int (0 : Int32))]) rfl kt) ?_
  show own_Rch p e below _ s₁ (mkF m 9 #[.val (.ref a), .val (.ref b), .val (.int (0 : Int32))] [])
  refine own_st (fun _ kt => XS.iloadN X0.here hx rfl (hb hby own_d15_9) rfl  kt) ?_
  show own_Rch p e below _ s₁ (mkF m 10 #[.val (.ref a), .val (.ref b), .val (.int (0 : Int32))] [(.int (0 : Int32))])
  refine own_st (fun _ kt => XS.aloadN X0.here hx rfl (hb hby own_d15_10) rfl rfl  kt) ?_
  show own_Rch p e below _ s₁ (mkF m 11 #[.val (.ref a), .val (.ref b), .val (.int (0 : Int32))] [(.ref a), (.int (0 : Int32))])
  obtain ⟨cl3, Ar3, -, S3, M3, -, -⟩ := id VA
  refine own_st (X0.arraylength hx (by rw [e0]; exact Ar3.1) (State.isArrayOf_alike (hZ).alike Ar3.2.1) (g := (mkF m 11 #[.val (.ref a), .val (.ref b), .val (.int (0 : Int32))] [(.ref a), (.int (0 : Int32))])) rfl rfl (hb hby own_d15_11)) ?_
  rw [len_of S3 M3]
  show own_Rch p e below _ s₁ (mkF m 12 #[.val (.ref a), .val (.ref b), .val (.int (0 : Int32))] [(.int (2 : Int32)), (.int (0 : Int32))])
  refine own_st (fun _ kt => XS.icmpNo X0.here hx rfl (hb hby own_d15_12) rfl (tlt ((by decide) : (0 : Int32) < (2 : Int32))).2.1 kt) ?_
  show own_Rch p e below _ s₁ (mkF m 15 #[.val (.ref a), .val (.ref b), .val (.int (0 : Int32))] [])
  refine own_st (fun _ kt => XS.aloadN X0.here hx rfl (hb hby own_d15_15) rfl rfl  kt) ?_
  show own_Rch p e below _ s₁ (mkF m 16 #[.val (.ref a), .val (.ref b), .val (.int (0 : Int32))] [(.ref a)])
  refine own_st (fun _ kt => XS.iloadN X0.here hx rfl (hb hby own_d15_16) rfl  kt) ?_
  show own_Rch p e below _ s₁ (mkF m 17 #[.val (.ref a), .val (.ref b), .val (.int (0 : Int32))] [(.int (0 : Int32)), (.ref a)])
  obtain ⟨cl4, Ar4, q4, S4, M4, H4, G4⟩ := id VA
  have hin4 : ¬ ((0 : Int32) < 0 ∨ cl4.slots.size ≤ ((0 : Int32)).toNatClampNeg) := inb_of S4 ⟨by decide, by decide⟩
  refine own_st (X0.baloadBytes hx (j := (0 : Int32)) (v := (.int x0)) (by rw [e0]; exact Ar4.1) (State.isArrayOf_alike (hZ).alike Ar4.2.1) Ar4.2.2 hin4 (H4.at hin4 rfl) (g := (mkF m 17 #[.val (.ref a), .val (.ref b), .val (.int (0 : Int32))] [(.int (0 : Int32)), (.ref a)])) rfl rfl (hb hby own_d15_17)) ?_
  show own_Rch p e below _ s₁ (mkF m 18 #[.val (.ref a), .val (.ref b), .val (.int (0 : Int32))] [(.int x0)])
  refine own_st (fun _ kt => XS.aloadN X0.here hx rfl (hb hby own_d15_18) rfl rfl  kt) ?_
  show own_Rch p e below _ s₁ (mkF m 19 #[.val (.ref a), .val (.ref b), .val (.int (0 : Int32))] [(.ref b), (.int x0)])
  refine own_st (fun _ kt => XS.iloadN X0.here hx rfl (hb hby own_d15_19) rfl  kt) ?_
  show own_Rch p e below _ s₁ (mkF m 20 #[.val (.ref a), .val (.ref b), .val (.int (0 : Int32))] [(.int (0 : Int32)), (.ref b), (.int x0)])
  obtain ⟨cl5, Ar5, q5, S5, M5, H5, G5⟩ := id VB
  have hin5 : ¬ ((0 : Int32) < 0 ∨ cl5.slots.size ≤ ((0 : Int32)).toNatClampNeg) := inb_of S5 ⟨by decide, by decide⟩
  refine own_st (X0.baloadBytes hx (j := (0 : Int32)) (v := (.int x0)) (by rw [e0]; exact Ar5.1) (State.isArrayOf_alike (hZ).alike Ar5.2.1) Ar5.2.2 hin5 (H5.at hin5 rfl) (g := (mkF m 20 #[.val (.ref a), .val (.ref b), .val (.int (0 : Int32))] [(.int (0 : Int32)), (.ref b), (.int x0)])) rfl rfl (hb hby own_d15_20)) ?_
  show own_Rch p e below _ s₁ (mkF m 21 #[.val (.ref a), .val (.ref b), .val (.int (0 : Int32))] [(.int x0), (.int x0)])
  refine own_st (fun _ kt => XS.icmpYes X0.here hx rfl (pc0 := 21) (pc' := 26) rfl (hb hby own_d15_21) rfl (teq (rfl : x0 = x0)).1 (by decide) (by decide) kt) ?_
  show own_Rch p e below _ s₁ (mkF m 26 #[.val (.ref a), .val (.ref b), .val (.int (0 : Int32))] [])
  refine own_st (fun _ kt => XS.iinc X0.here hx rfl (hb hby own_d15_26) rfl (l' := #[.val (.ref a), .val (.ref b), .val (.int (1 : Int32))]) rfl kt) ?_
  show own_Rch p e below _ s₁ (mkF m 29 #[.val (.ref a), .val (.ref b), .val (.int (1 : Int32))] [])
  refine own_st (fun _ kt => XS.goto X0.here hx rfl (pc0 := 29) (pc' := 9) rfl (hb hby own_d15_29) (by decide) (by decide) kt) ?_
  show own_Rch p e below _ s₁ (mkF m 9 #[.val (.ref a), .val (.ref b), .val (.int (1 : Int32))] [])
  refine own_st (fun _ kt => XS.iloadN X0.here hx rfl (hb hby own_d15_9) rfl  kt) ?_
  show own_Rch p e below _ s₁ (mkF m 10 #[.val (.ref a), .val (.ref b), .val (.int (1 : Int32))] [(.int (1 : Int32))])
  refine own_st (fun _ kt => XS.aloadN X0.here hx rfl (hb hby own_d15_10) rfl rfl  kt) ?_
  show own_Rch p e below _ s₁ (mkF m 11 #[.val (.ref a), .val (.ref b), .val (.int (1 : Int32))] [(.ref a), (.int (1 : Int32))])
  obtain ⟨cl6, Ar6, -, S6, M6, -, -⟩ := id VA
  refine own_st (X0.arraylength hx (by rw [e0]; exact Ar6.1) (State.isArrayOf_alike (hZ).alike Ar6.2.1) (g := (mkF m 11 #[.val (.ref a), .val (.ref b), .val (.int (1 : Int32))] [(.ref a), (.int (1 : Int32))])) rfl rfl (hb hby own_d15_11)) ?_
  rw [len_of S6 M6]
  show own_Rch p e below _ s₁ (mkF m 12 #[.val (.ref a), .val (.ref b), .val (.int (1 : Int32))] [(.int (2 : Int32)), (.int (1 : Int32))])
  refine own_st (fun _ kt => XS.icmpNo X0.here hx rfl (hb hby own_d15_12) rfl (tlt ((by decide) : (1 : Int32) < (2 : Int32))).2.1 kt) ?_
  show own_Rch p e below _ s₁ (mkF m 15 #[.val (.ref a), .val (.ref b), .val (.int (1 : Int32))] [])
  refine own_st (fun _ kt => XS.aloadN X0.here hx rfl (hb hby own_d15_15) rfl rfl  kt) ?_
  show own_Rch p e below _ s₁ (mkF m 16 #[.val (.ref a), .val (.ref b), .val (.int (1 : Int32))] [(.ref a)])
  refine own_st (fun _ kt => XS.iloadN X0.here hx rfl (hb hby own_d15_16) rfl  kt) ?_
  show own_Rch p e below _ s₁ (mkF m 17 #[.val (.ref a), .val (.ref b), .val (.int (1 : Int32))] [(.int (1 : Int32)), (.ref a)])
  obtain ⟨cl7, Ar7, q7, S7, M7, H7, G7⟩ := id VA
  have hin7 : ¬ ((1 : Int32) < 0 ∨ cl7.slots.size ≤ ((1 : Int32)).toNatClampNeg) := inb_of S7 ⟨by decide, by decide⟩
  refine own_st (X0.baloadBytes hx (j := (1 : Int32)) (v := (.int x1)) (by rw [e0]; exact Ar7.1) (State.isArrayOf_alike (hZ).alike Ar7.2.1) Ar7.2.2 hin7 (H7.at hin7 rfl) (g := (mkF m 17 #[.val (.ref a), .val (.ref b), .val (.int (1 : Int32))] [(.int (1 : Int32)), (.ref a)])) rfl rfl (hb hby own_d15_17)) ?_
  show own_Rch p e below _ s₁ (mkF m 18 #[.val (.ref a), .val (.ref b), .val (.int (1 : Int32))] [(.int x1)])
  refine own_st (fun _ kt => XS.aloadN X0.here hx rfl (hb hby own_d15_18) rfl rfl  kt) ?_
  show own_Rch p e below _ s₁ (mkF m 19 #[.val (.ref a), .val (.ref b), .val (.int (1 : Int32))] [(.ref b), (.int x1)])
  refine own_st (fun _ kt => XS.iloadN X0.here hx rfl (hb hby own_d15_19) rfl  kt) ?_
  show own_Rch p e below _ s₁ (mkF m 20 #[.val (.ref a), .val (.ref b), .val (.int (1 : Int32))] [(.int (1 : Int32)), (.ref b), (.int x1)])
  obtain ⟨cl8, Ar8, q8, S8, M8, H8, G8⟩ := id VB
  have hin8 : ¬ ((1 : Int32) < 0 ∨ cl8.slots.size ≤ ((1 : Int32)).toNatClampNeg) := inb_of S8 ⟨by decide, by decide⟩
  refine own_st (X0.baloadBytes hx (j := (1 : Int32)) (v := (.int x1)) (by rw [e0]; exact Ar8.1) (State.isArrayOf_alike (hZ).alike Ar8.2.1) Ar8.2.2 hin8 (H8.at hin8 rfl) (g := (mkF m 20 #[.val (.ref a), .val (.ref b), .val (.int (1 : Int32))] [(.int (1 : Int32)), (.ref b), (.int x1)])) rfl rfl (hb hby own_d15_20)) ?_
  show own_Rch p e below _ s₁ (mkF m 21 #[.val (.ref a), .val (.ref b), .val (.int (1 : Int32))] [(.int x1), (.int x1)])
  refine own_st (fun _ kt => XS.icmpYes X0.here hx rfl (pc0 := 21) (pc' := 26) rfl (hb hby own_d15_21) rfl (teq (rfl : x1 = x1)).1 (by decide) (by decide) kt) ?_
  show own_Rch p e below _ s₁ (mkF m 26 #[.val (.ref a), .val (.ref b), .val (.int (1 : Int32))] [])
  refine own_st (fun _ kt => XS.iinc X0.here hx rfl (hb hby own_d15_26) rfl (l' := #[.val (.ref a), .val (.ref b), .val (.int (2 : Int32))]) rfl kt) ?_
  show own_Rch p e below _ s₁ (mkF m 29 #[.val (.ref a), .val (.ref b), .val (.int (2 : Int32))] [])
  refine own_st (fun _ kt => XS.goto X0.here hx rfl (pc0 := 29) (pc' := 9) rfl (hb hby own_d15_29) (by decide) (by decide) kt) ?_
  show own_Rch p e below _ s₁ (mkF m 9 #[.val (.ref a), .val (.ref b), .val (.int (2 : Int32))] [])
  refine own_st (fun _ kt => XS.iloadN X0.here hx rfl (hb hby own_d15_9) rfl  kt) ?_
  show own_Rch p e below _ s₁ (mkF m 10 #[.val (.ref a), .val (.ref b), .val (.int (2 : Int32))] [(.int (2 : Int32))])
  refine own_st (fun _ kt => XS.aloadN X0.here hx rfl (hb hby own_d15_10) rfl rfl  kt) ?_
  show own_Rch p e below _ s₁ (mkF m 11 #[.val (.ref a), .val (.ref b), .val (.int (2 : Int32))] [(.ref a), (.int (2 : Int32))])
  obtain ⟨cl9, Ar9, -, S9, M9, -, -⟩ := id VA
  refine own_st (X0.arraylength hx (by rw [e0]; exact Ar9.1) (State.isArrayOf_alike (hZ).alike Ar9.2.1) (g := (mkF m 11 #[.val (.ref a), .val (.ref b), .val (.int (2 : Int32))] [(.ref a), (.int (2 : Int32))])) rfl rfl (hb hby own_d15_11)) ?_
  rw [len_of S9 M9]
  show own_Rch p e below _ s₁ (mkF m 12 #[.val (.ref a), .val (.ref b), .val (.int (2 : Int32))] [(.int (2 : Int32)), (.int (2 : Int32))])
  refine own_st (fun _ kt => XS.icmpYes X0.here hx rfl (pc0 := 12) (pc' := 32) rfl (hb hby own_d15_12) rfl (flt ((by decide) : ¬ ((2 : Int32) < (2 : Int32)))).2.1 (by decide) (by decide) kt) ?_
  show own_Rch p e below _ s₁ (mkF m 32 #[.val (.ref a), .val (.ref b), .val (.int (2 : Int32))] [])
  refine own_st (fun _ kt => XS.iconst X0.here hx rfl (hb hby own_d15_32) kt) ?_
  show own_Rch p e below _ s₁ (mkF m 33 #[.val (.ref a), .val (.ref b), .val (.int (2 : Int32))] [(.int (1 : Int32))])
  refine own_retN (t := .boolean) (by simp) X0 hx Bd.notSynchronized Bd.returns (hb hby own_d15_33) (by decide) (by decide) ?_
  rw [e0]
  exact ⟨rfl, N0, rfl⟩
set_option maxRecDepth 65536 in
set_option maxHeartbeats 40000000 in
theorem own_ls3 (l : Launch) (Z : State) (a0 : Array Value) (hw : ∀ d ∈ tables_1, d.before a0 Z = true) (ws : List Jvm.Cond) (a : Addr) (b : Addr) (ka : ClassId) (kb : ClassId) (x0 : Int32) (x1 : Int32) (x2 : Int32) (h0 : Heap) (n0 : Nat) (O0 : Old Z n0 h0) (VA : Arv Z h0 a ka .byte (3 : Int32) [(.int x0), (.int x1), (.int x2)] (.int (0 : Int32))) (VB : Arv Z h0 b kb .byte (3 : Int32) [(.int x0), (.int x1), (.int x2)] (.int (0 : Int32))) :
    MetFree l (⟨"java/lang/StringLatin1", "equals", "([B[B)Z"⟩ : MethodName) (head1 (Jvm.Cond.code (⟨"java/lang/StringLatin1", "equals", "([B[B)Z"⟩ : MethodName) jdk_43_method_13_code 3 (some .boolean) :: ws) ({ frames := 0, cells := 0, slots := 0, locals := 0 } : Room)) (fun args_ U => args_ = #[(.ref a), (.ref b)] ∧ Z.Warmed39 U.vm ∧ U.heap = h0) (fun _ _ _ _ _ => True) (fun _ U o U' => ∃ v L, o = .returned v ∧ (own_Q_r (1 : Int32) h0 n0) v U'.heap L ∧ FrameEnd U o U' L ({ frames := 0, cells := 0, slots := 0, locals := 0 } : Room).cells ({ frames := 0, cells := 0, slots := 0, locals := 0 } : Room).slots) := by
  refine MetFree.of_bodySF (plainFor_of_name own_pn0) hisR ?_
  intro p e s m args below meth c s₁ Bd hml0 hP hK
  obtain ⟨rfl, hZ, hh⟩ := hP
  have hx := Bd.exec
  have hby := Bd.bytes
  have hml : c.maxLocals = 3 := hml0
  have hown : s.vm.findClass "java/lang/StringLatin1" = some m.cls := findClass_of_methodNamed Bd.named
  have hnm := (name_of_methodNamed Bd.named Bd.method).1
  have X0 : Stand p l e ({ frames := 0, cells := 0, slots := 0, locals := 0 } : Room) s m #[(.ref a), (.ref b)] below meth c s₁ [] 0 0 := Stand.of_body Bd
  have e0 : s₁.heap = h0 := by rw [← hh, Bd.state]; rfl
  have N0 := Fr.nil n0
  refine own_close (s := s) (Q := (own_Q_r (1 : Int32) h0 n0)) (C := (({ frames := 0, cells := 0, slots := 0, locals := 0 } : Room)).cells) (N := (({ frames := 0, cells := 0, slots := 0, locals := 0 } : Room)).slots) (own_st (fun _ kt => castTop (own_ef15 m a b) kt) ?_)
  show own_Rch p e below _ s₁ (mkF m 0 #[.val (.ref a), .val (.ref b), .unset] [])
  refine own_st (fun _ kt => XS.aloadN X0.here hx rfl (hb hby own_d15_0) rfl rfl  kt) ?_
  show own_Rch p e below _ s₁ (mkF m 1 #[.val (.ref a), .val (.ref b), .unset] [(.ref a)])
  obtain ⟨cl1, Ar1, -, S1, M1, -, -⟩ := id VA
  refine own_st (X0.arraylength hx (by rw [e0]; exact Ar1.1) (State.isArrayOf_alike (hZ).alike Ar1.2.1) (g := (mkF m 1 #[.val (.ref a), .val (.ref b), .unset] [(.ref a)])) rfl rfl (hb hby own_d15_1)) ?_
  rw [len_of S1 M1]
  show own_Rch p e below _ s₁ (mkF m 2 #[.val (.ref a), .val (.ref b), .unset] [(.int (3 : Int32))])
  refine own_st (fun _ kt => XS.aloadN X0.here hx rfl (hb hby own_d15_2) rfl rfl  kt) ?_
  show own_Rch p e below _ s₁ (mkF m 3 #[.val (.ref a), .val (.ref b), .unset] [(.ref b), (.int (3 : Int32))])
  obtain ⟨cl2, Ar2, -, S2, M2, -, -⟩ := id VB
  refine own_st (X0.arraylength hx (by rw [e0]; exact Ar2.1) (State.isArrayOf_alike (hZ).alike Ar2.2.1) (g := (mkF m 3 #[.val (.ref a), .val (.ref b), .unset] [(.ref b), (.int (3 : Int32))])) rfl rfl (hb hby own_d15_3)) ?_
  rw [len_of S2 M2]
  show own_Rch p e below _ s₁ (mkF m 4 #[.val (.ref a), .val (.ref b), .unset] [(.int (3 : Int32)), (.int (3 : Int32))])
  refine own_st (fun _ kt => XS.icmpNo X0.here hx rfl (hb hby own_d15_4) rfl (teq (rfl : (3 : Int32) = (3 : Int32))).2 kt) ?_
  show own_Rch p e below _ s₁ (mkF m 7 #[.val (.ref a), .val (.ref b), .unset] [])
  refine own_st (fun _ kt => XS.iconst X0.here hx rfl (hb hby own_d15_7) kt) ?_
  show own_Rch p e below _ s₁ (mkF m 8 #[.val (.ref a), .val (.ref b), .unset] [(.int (0 : Int32))])
  refine own_st (fun _ kt => XS.istoreN X0.here hx rfl (hb hby own_d15_8) rfl (l' := #[.val (.ref a), .val (.ref b), .val (.int (0 : Int32))]) rfl kt) ?_
  show own_Rch p e below _ s₁ (mkF m 9 #[.val (.ref a), .val (.ref b), .val (.int (0 : Int32))] [])
  refine own_st (fun _ kt => XS.iloadN X0.here hx rfl (hb hby own_d15_9) rfl  kt) ?_
  show own_Rch p e below _ s₁ (mkF m 10 #[.val (.ref a), .val (.ref b), .val (.int (0 : Int32))] [(.int (0 : Int32))])
  refine own_st (fun _ kt => XS.aloadN X0.here hx rfl (hb hby own_d15_10) rfl rfl  kt) ?_
  show own_Rch p e below _ s₁ (mkF m 11 #[.val (.ref a), .val (.ref b), .val (.int (0 : Int32))] [(.ref a), (.int (0 : Int32))])
  obtain ⟨cl3, Ar3, -, S3, M3, -, -⟩ := id VA
  refine own_st (X0.arraylength hx (by rw [e0]; exact Ar3.1) (State.isArrayOf_alike (hZ).alike Ar3.2.1) (g := (mkF m 11 #[.val (.ref a), .val (.ref b), .val (.int (0 : Int32))] [(.ref a), (.int (0 : Int32))])) rfl rfl (hb hby own_d15_11)) ?_
  rw [len_of S3 M3]
  show own_Rch p e below _ s₁ (mkF m 12 #[.val (.ref a), .val (.ref b), .val (.int (0 : Int32))] [(.int (3 : Int32)), (.int (0 : Int32))])
  refine own_st (fun _ kt => XS.icmpNo X0.here hx rfl (hb hby own_d15_12) rfl (tlt ((by decide) : (0 : Int32) < (3 : Int32))).2.1 kt) ?_
  show own_Rch p e below _ s₁ (mkF m 15 #[.val (.ref a), .val (.ref b), .val (.int (0 : Int32))] [])
  refine own_st (fun _ kt => XS.aloadN X0.here hx rfl (hb hby own_d15_15) rfl rfl  kt) ?_
  show own_Rch p e below _ s₁ (mkF m 16 #[.val (.ref a), .val (.ref b), .val (.int (0 : Int32))] [(.ref a)])
  refine own_st (fun _ kt => XS.iloadN X0.here hx rfl (hb hby own_d15_16) rfl  kt) ?_
  show own_Rch p e below _ s₁ (mkF m 17 #[.val (.ref a), .val (.ref b), .val (.int (0 : Int32))] [(.int (0 : Int32)), (.ref a)])
  obtain ⟨cl4, Ar4, q4, S4, M4, H4, G4⟩ := id VA
  have hin4 : ¬ ((0 : Int32) < 0 ∨ cl4.slots.size ≤ ((0 : Int32)).toNatClampNeg) := inb_of S4 ⟨by decide, by decide⟩
  refine own_st (X0.baloadBytes hx (j := (0 : Int32)) (v := (.int x0)) (by rw [e0]; exact Ar4.1) (State.isArrayOf_alike (hZ).alike Ar4.2.1) Ar4.2.2 hin4 (H4.at hin4 rfl) (g := (mkF m 17 #[.val (.ref a), .val (.ref b), .val (.int (0 : Int32))] [(.int (0 : Int32)), (.ref a)])) rfl rfl (hb hby own_d15_17)) ?_
  show own_Rch p e below _ s₁ (mkF m 18 #[.val (.ref a), .val (.ref b), .val (.int (0 : Int32))] [(.int x0)])
  refine own_st (fun _ kt => XS.aloadN X0.here hx rfl (hb hby own_d15_18) rfl rfl  kt) ?_
  show own_Rch p e below _ s₁ (mkF m 19 #[.val (.ref a), .val (.ref b), .val (.int (0 : Int32))] [(.ref b), (.int x0)])
  refine own_st (fun _ kt => XS.iloadN X0.here hx rfl (hb hby own_d15_19) rfl  kt) ?_
  show own_Rch p e below _ s₁ (mkF m 20 #[.val (.ref a), .val (.ref b), .val (.int (0 : Int32))] [(.int (0 : Int32)), (.ref b), (.int x0)])
  obtain ⟨cl5, Ar5, q5, S5, M5, H5, G5⟩ := id VB
  have hin5 : ¬ ((0 : Int32) < 0 ∨ cl5.slots.size ≤ ((0 : Int32)).toNatClampNeg) := inb_of S5 ⟨by decide, by decide⟩
  refine own_st (X0.baloadBytes hx (j := (0 : Int32)) (v := (.int x0)) (by rw [e0]; exact Ar5.1) (State.isArrayOf_alike (hZ).alike Ar5.2.1) Ar5.2.2 hin5 (H5.at hin5 rfl) (g := (mkF m 20 #[.val (.ref a), .val (.ref b), .val (.int (0 : Int32))] [(.int (0 : Int32)), (.ref b), (.int x0)])) rfl rfl (hb hby own_d15_20)) ?_
  show own_Rch p e below _ s₁ (mkF m 21 #[.val (.ref a), .val (.ref b), .val (.int (0 : Int32))] [(.int x0), (.int x0)])
  refine own_st (fun _ kt => XS.icmpYes X0.here hx rfl (pc0 := 21) (pc' := 26) rfl (hb hby own_d15_21) rfl (teq (rfl : x0 = x0)).1 (by decide) (by decide) kt) ?_
  show own_Rch p e below _ s₁ (mkF m 26 #[.val (.ref a), .val (.ref b), .val (.int (0 : Int32))] [])
  refine own_st (fun _ kt => XS.iinc X0.here hx rfl (hb hby own_d15_26) rfl (l' := #[.val (.ref a), .val (.ref b), .val (.int (1 : Int32))]) rfl kt) ?_
  show own_Rch p e below _ s₁ (mkF m 29 #[.val (.ref a), .val (.ref b), .val (.int (1 : Int32))] [])
  refine own_st (fun _ kt => XS.goto X0.here hx rfl (pc0 := 29) (pc' := 9) rfl (hb hby own_d15_29) (by decide) (by decide) kt) ?_
  show own_Rch p e below _ s₁ (mkF m 9 #[.val (.ref a), .val (.ref b), .val (.int (1 : Int32))] [])
  refine own_st (fun _ kt => XS.iloadN X0.here hx rfl (hb hby own_d15_9) rfl  kt) ?_
  show own_Rch p e below _ s₁ (mkF m 10 #[.val (.ref a), .val (.ref b), .val (.int (1 : Int32))] [(.int (1 : Int32))])
  refine own_st (fun _ kt => XS.aloadN X0.here hx rfl (hb hby own_d15_10) rfl rfl  kt) ?_
  show own_Rch p e below _ s₁ (mkF m 11 #[.val (.ref a), .val (.ref b), .val (.int (1 : Int32))] [(.ref a), (.int (1 : Int32))])
  obtain ⟨cl6, Ar6, -, S6, M6, -, -⟩ := id VA
  refine own_st (X0.arraylength hx (by rw [e0]; exact Ar6.1) (State.isArrayOf_alike (hZ).alike Ar6.2.1) (g := (mkF m 11 #[.val (.ref a), .val (.ref b), .val (.int (1 : Int32))] [(.ref a), (.int (1 : Int32))])) rfl rfl (hb hby own_d15_11)) ?_
  rw [len_of S6 M6]
  show own_Rch p e below _ s₁ (mkF m 12 #[.val (.ref a), .val (.ref b), .val (.int (1 : Int32))] [(.int (3 : Int32)), (.int (1 : Int32))])
  refine own_st (fun _ kt => XS.icmpNo X0.here hx rfl (hb hby own_d15_12) rfl (tlt ((by decide) : (1 : Int32) < (3 : Int32))).2.1 kt) ?_
  show own_Rch p e below _ s₁ (mkF m 15 #[.val (.ref a), .val (.ref b), .val (.int (1 : Int32))] [])
  refine own_st (fun _ kt => XS.aloadN X0.here hx rfl (hb hby own_d15_15) rfl rfl  kt) ?_
  show own_Rch p e below _ s₁ (mkF m 16 #[.val (.ref a), .val (.ref b), .val (.int (1 : Int32))] [(.ref a)])
  refine own_st (fun _ kt => XS.iloadN X0.here hx rfl (hb hby own_d15_16) rfl  kt) ?_
  show own_Rch p e below _ s₁ (mkF m 17 #[.val (.ref a), .val (.ref b), .val (.int (1 : Int32))] [(.int (1 : Int32)), (.ref a)])
  obtain ⟨cl7, Ar7, q7, S7, M7, H7, G7⟩ := id VA
  have hin7 : ¬ ((1 : Int32) < 0 ∨ cl7.slots.size ≤ ((1 : Int32)).toNatClampNeg) := inb_of S7 ⟨by decide, by decide⟩
  refine own_st (X0.baloadBytes hx (j := (1 : Int32)) (v := (.int x1)) (by rw [e0]; exact Ar7.1) (State.isArrayOf_alike (hZ).alike Ar7.2.1) Ar7.2.2 hin7 (H7.at hin7 rfl) (g := (mkF m 17 #[.val (.ref a), .val (.ref b), .val (.int (1 : Int32))] [(.int (1 : Int32)), (.ref a)])) rfl rfl (hb hby own_d15_17)) ?_
  show own_Rch p e below _ s₁ (mkF m 18 #[.val (.ref a), .val (.ref b), .val (.int (1 : Int32))] [(.int x1)])
  refine own_st (fun _ kt => XS.aloadN X0.here hx rfl (hb hby own_d15_18) rfl rfl  kt) ?_
  show own_Rch p e below _ s₁ (mkF m 19 #[.val (.ref a), .val (.ref b), .val (.int (1 : Int32))] [(.ref b), (.int x1)])
  refine own_st (fun _ kt => XS.iloadN X0.here hx rfl (hb hby own_d15_19) rfl  kt) ?_
  show own_Rch p e below _ s₁ (mkF m 20 #[.val (.ref a), .val (.ref b), .val (.int (1 : Int32))] [(.int (1 : Int32)), (.ref b), (.int x1)])
  obtain ⟨cl8, Ar8, q8, S8, M8, H8, G8⟩ := id VB
  have hin8 : ¬ ((1 : Int32) < 0 ∨ cl8.slots.size ≤ ((1 : Int32)).toNatClampNeg) := inb_of S8 ⟨by decide, by decide⟩
  refine own_st (X0.baloadBytes hx (j := (1 : Int32)) (v := (.int x1)) (by rw [e0]; exact Ar8.1) (State.isArrayOf_alike (hZ).alike Ar8.2.1) Ar8.2.2 hin8 (H8.at hin8 rfl) (g := (mkF m 20 #[.val (.ref a), .val (.ref b), .val (.int (1 : Int32))] [(.int (1 : Int32)), (.ref b), (.int x1)])) rfl rfl (hb hby own_d15_20)) ?_
  show own_Rch p e below _ s₁ (mkF m 21 #[.val (.ref a), .val (.ref b), .val (.int (1 : Int32))] [(.int x1), (.int x1)])
  refine own_st (fun _ kt => XS.icmpYes X0.here hx rfl (pc0 := 21) (pc' := 26) rfl (hb hby own_d15_21) rfl (teq (rfl : x1 = x1)).1 (by decide) (by decide) kt) ?_
  show own_Rch p e below _ s₁ (mkF m 26 #[.val (.ref a), .val (.ref b), .val (.int (1 : Int32))] [])
  refine own_st (fun _ kt => XS.iinc X0.here hx rfl (hb hby own_d15_26) rfl (l' := #[.val (.ref a), .val (.ref b), .val (.int (2 : Int32))]) rfl kt) ?_
  show own_Rch p e below _ s₁ (mkF m 29 #[.val (.ref a), .val (.ref b), .val (.int (2 : Int32))] [])
  refine own_st (fun _ kt => XS.goto X0.here hx rfl (pc0 := 29) (pc' := 9) rfl (hb hby own_d15_29) (by decide) (by decide) kt) ?_
  show own_Rch p e below _ s₁ (mkF m 9 #[.val (.ref a), .val (.ref b), .val (.int (2 : Int32))] [])
  refine own_st (fun _ kt => XS.iloadN X0.here hx rfl (hb hby own_d15_9) rfl  kt) ?_
  show own_Rch p e below _ s₁ (mkF m 10 #[.val (.ref a), .val (.ref b), .val (.int (2 : Int32))] [(.int (2 : Int32))])
  refine own_st (fun _ kt => XS.aloadN X0.here hx rfl (hb hby own_d15_10) rfl rfl  kt) ?_
  show own_Rch p e below _ s₁ (mkF m 11 #[.val (.ref a), .val (.ref b), .val (.int (2 : Int32))] [(.ref a), (.int (2 : Int32))])
  obtain ⟨cl9, Ar9, -, S9, M9, -, -⟩ := id VA
  refine own_st (X0.arraylength hx (by rw [e0]; exact Ar9.1) (State.isArrayOf_alike (hZ).alike Ar9.2.1) (g := (mkF m 11 #[.val (.ref a), .val (.ref b), .val (.int (2 : Int32))] [(.ref a), (.int (2 : Int32))])) rfl rfl (hb hby own_d15_11)) ?_
  rw [len_of S9 M9]
  show own_Rch p e below _ s₁ (mkF m 12 #[.val (.ref a), .val (.ref b), .val (.int (2 : Int32))] [(.int (3 : Int32)), (.int (2 : Int32))])
  refine own_st (fun _ kt => XS.icmpNo X0.here hx rfl (hb hby own_d15_12) rfl (tlt ((by decide) : (2 : Int32) < (3 : Int32))).2.1 kt) ?_
  show own_Rch p e below _ s₁ (mkF m 15 #[.val (.ref a), .val (.ref b), .val (.int (2 : Int32))] [])
  refine own_st (fun _ kt => XS.aloadN X0.here hx rfl (hb hby own_d15_15) rfl rfl  kt) ?_
  show own_Rch p e below _ s₁ (mkF m 16 #[.val (.ref a), .val (.ref b), .val (.int (2 : Int32))] [(.ref a)])
  refine own_st (fun _ kt => XS.iloadN X0.here hx rfl (hb hby own_d15_16) rfl  kt) ?_
  show own_Rch p e below _ s₁ (mkF m 17 #[.val (.ref a), .val (.ref b), .val (.int (2 : Int32))] [(.int (2 : Int32)), (.ref a)])
  obtain ⟨cl10, Ar10, q10, S10, M10, H10, G10⟩ := id VA
  have hin10 : ¬ ((2 : Int32) < 0 ∨ cl10.slots.size ≤ ((2 : Int32)).toNatClampNeg) := inb_of S10 ⟨by decide, by decide⟩
  refine own_st (X0.baloadBytes hx (j := (2 : Int32)) (v := (.int x2)) (by rw [e0]; exact Ar10.1) (State.isArrayOf_alike (hZ).alike Ar10.2.1) Ar10.2.2 hin10 (H10.at hin10 rfl) (g := (mkF m 17 #[.val (.ref a), .val (.ref b), .val (.int (2 : Int32))] [(.int (2 : Int32)), (.ref a)])) rfl rfl (hb hby own_d15_17)) ?_
  show own_Rch p e below _ s₁ (mkF m 18 #[.val (.ref a), .val (.ref b), .val (.int (2 : Int32))] [(.int x2)])
  refine own_st (fun _ kt => XS.aloadN X0.here hx rfl (hb hby own_d15_18) rfl rfl  kt) ?_
  show own_Rch p e below _ s₁ (mkF m 19 #[.val (.ref a), .val (.ref b), .val (.int (2 : Int32))] [(.ref b), (.int x2)])
  refine own_st (fun _ kt => XS.iloadN X0.here hx rfl (hb hby own_d15_19) rfl  kt) ?_
  show own_Rch p e below _ s₁ (mkF m 20 #[.val (.ref a), .val (.ref b), .val (.int (2 : Int32))] [(.int (2 : Int32)), (.ref b), (.int x2)])
  obtain ⟨cl11, Ar11, q11, S11, M11, H11, G11⟩ := id VB
  have hin11 : ¬ ((2 : Int32) < 0 ∨ cl11.slots.size ≤ ((2 : Int32)).toNatClampNeg) := inb_of S11 ⟨by decide, by decide⟩
  refine own_st (X0.baloadBytes hx (j := (2 : Int32)) (v := (.int x2)) (by rw [e0]; exact Ar11.1) (State.isArrayOf_alike (hZ).alike Ar11.2.1) Ar11.2.2 hin11 (H11.at hin11 rfl) (g := (mkF m 20 #[.val (.ref a), .val (.ref b), .val (.int (2 : Int32))] [(.int (2 : Int32)), (.ref b), (.int x2)])) rfl rfl (hb hby own_d15_20)) ?_
  show own_Rch p e below _ s₁ (mkF m 21 #[.val (.ref a), .val (.ref b), .val (.int (2 : Int32))] [(.int x2), (.int x2)])
  refine own_st (fun _ kt => XS.icmpYes X0.here hx rfl (pc0 := 21) (pc' := 26) rfl (hb hby own_d15_21) rfl (teq (rfl : x2 = x2)).1 (by decide) (by decide) kt) ?_
  show own_Rch p e below _ s₁ (mkF m 26 #[.val (.ref a), .val (.ref b), .val (.int (2 : Int32))] [])
  refine own_st (fun _ kt => XS.iinc X0.here hx rfl (hb hby own_d15_26) rfl (l' := #[.val (.ref a), .val (.ref b), .val (.int (3 : Int32))]) rfl kt) ?_
  show own_Rch p e below _ s₁ (mkF m 29 #[.val (.ref a), .val (.ref b), .val (.int (3 : Int32))] [])
  refine own_st (fun _ kt => XS.goto X0.here hx rfl (pc0 := 29) (pc' := 9) rfl (hb hby own_d15_29) (by decide) (by decide) kt) ?_
  show own_Rch p e below _ s₁ (mkF m 9 #[.val (.ref a), .val (.ref b), .val (.int (3 : Int32))] [])
  refine own_st (fun _ kt => XS.iloadN X0.here hx rfl (hb hby own_d15_9) rfl  kt) ?_
  show own_Rch p e below _ s₁ (mkF m 10 #[.val (.ref a), .val (.ref b), .val (.int (3 : Int32))] [(.int (3 : Int32))])
  refine own_st (fun _ kt => XS.aloadN X0.here hx rfl (hb hby own_d15_10) rfl rfl  kt) ?_
  show own_Rch p e below _ s₁ (mkF m 11 #[.val (.ref a), .val (.ref b), .val (.int (3 : Int32))] [(.ref a), (.int (3 : Int32))])
  obtain ⟨cl12, Ar12, -, S12, M12, -, -⟩ := id VA
  refine own_st (X0.arraylength hx (by rw [e0]; exact Ar12.1) (State.isArrayOf_alike (hZ).alike Ar12.2.1) (g := (mkF m 11 #[.val (.ref a), .val (.ref b), .val (.int (3 : Int32))] [(.ref a), (.int (3 : Int32))])) rfl rfl (hb hby own_d15_11)) ?_
  rw [len_of S12 M12]
  show own_Rch p e below _ s₁ (mkF m 12 #[.val (.ref a), .val (.ref b), .val (.int (3 : Int32))] [(.int (3 : Int32)), (.int (3 : Int32))])
  refine own_st (fun _ kt => XS.icmpYes X0.here hx rfl (pc0 := 12) (pc' := 32) rfl (hb hby own_d15_12) rfl (flt ((by decide) : ¬ ((3 : Int32) < (3 : Int32)))).2.1 (by decide) (by decide) kt) ?_
  show own_Rch p e below _ s₁ (mkF m 32 #[.val (.ref a), .val (.ref b), .val (.int (3 : Int32))] [])
  refine own_st (fun _ kt => XS.iconst X0.here hx rfl (hb hby own_d15_32) kt) ?_
  show own_Rch p e below _ s₁ (mkF m 33 #[.val (.ref a), .val (.ref b), .val (.int (3 : Int32))] [(.int (1 : Int32))])
  refine own_retN (t := .boolean) (by simp) X0 hx Bd.notSynchronized Bd.returns (hb hby own_d15_33) (by decide) (by decide) ?_
  rw [e0]
  exact ⟨rfl, N0, rfl⟩
set_option maxRecDepth 65536 in
set_option maxHeartbeats 40000000 in
theorem own_ls9 (l : Launch) (Z : State) (a0 : Array Value) (hw : ∀ d ∈ tables_1, d.before a0 Z = true) (ws : List Jvm.Cond) (a : Addr) (b : Addr) (ka : ClassId) (kb : ClassId) (x0 : Int32) (x1 : Int32) (x2 : Int32) (x3 : Int32) (x4 : Int32) (x5 : Int32) (x6 : Int32) (x7 : Int32) (x8 : Int32) (h0 : Heap) (n0 : Nat) (O0 : Old Z n0 h0) (VA : Arv Z h0 a ka .byte (9 : Int32) [(.int x0), (.int x1), (.int x2), (.int x3), (.int x4), (.int x5), (.int x6), (.int x7), (.int x8)] (.int (0 : Int32))) (VB : Arv Z h0 b kb .byte (9 : Int32) [(.int x0), (.int x1), (.int x2), (.int x3), (.int x4), (.int x5), (.int x6), (.int x7), (.int x8)] (.int (0 : Int32))) :
    MetFree l (⟨"java/lang/StringLatin1", "equals", "([B[B)Z"⟩ : MethodName) (head1 (Jvm.Cond.code (⟨"java/lang/StringLatin1", "equals", "([B[B)Z"⟩ : MethodName) jdk_43_method_13_code 3 (some .boolean) :: ws) ({ frames := 0, cells := 0, slots := 0, locals := 0 } : Room)) (fun args_ U => args_ = #[(.ref a), (.ref b)] ∧ Z.Warmed39 U.vm ∧ U.heap = h0) (fun _ _ _ _ _ => True) (fun _ U o U' => ∃ v L, o = .returned v ∧ (own_Q_r (1 : Int32) h0 n0) v U'.heap L ∧ FrameEnd U o U' L ({ frames := 0, cells := 0, slots := 0, locals := 0 } : Room).cells ({ frames := 0, cells := 0, slots := 0, locals := 0 } : Room).slots) := by
  refine MetFree.of_bodySF (plainFor_of_name own_pn0) hisR ?_
  intro p e s m args below meth c s₁ Bd hml0 hP hK
  obtain ⟨rfl, hZ, hh⟩ := hP
  have hx := Bd.exec
  have hby := Bd.bytes
  have hml : c.maxLocals = 3 := hml0
  have hown : s.vm.findClass "java/lang/StringLatin1" = some m.cls := findClass_of_methodNamed Bd.named
  have hnm := (name_of_methodNamed Bd.named Bd.method).1
  have X0 : Stand p l e ({ frames := 0, cells := 0, slots := 0, locals := 0 } : Room) s m #[(.ref a), (.ref b)] below meth c s₁ [] 0 0 := Stand.of_body Bd
  have e0 : s₁.heap = h0 := by rw [← hh, Bd.state]; rfl
  have N0 := Fr.nil n0
  refine own_close (s := s) (Q := (own_Q_r (1 : Int32) h0 n0)) (C := (({ frames := 0, cells := 0, slots := 0, locals := 0 } : Room)).cells) (N := (({ frames := 0, cells := 0, slots := 0, locals := 0 } : Room)).slots) (own_st (fun _ kt => castTop (own_ef15 m a b) kt) ?_)
  show own_Rch p e below _ s₁ (mkF m 0 #[.val (.ref a), .val (.ref b), .unset] [])
  refine own_st (fun _ kt => XS.aloadN X0.here hx rfl (hb hby own_d15_0) rfl rfl  kt) ?_
  show own_Rch p e below _ s₁ (mkF m 1 #[.val (.ref a), .val (.ref b), .unset] [(.ref a)])
  obtain ⟨cl1, Ar1, -, S1, M1, -, -⟩ := id VA
  refine own_st (X0.arraylength hx (by rw [e0]; exact Ar1.1) (State.isArrayOf_alike (hZ).alike Ar1.2.1) (g := (mkF m 1 #[.val (.ref a), .val (.ref b), .unset] [(.ref a)])) rfl rfl (hb hby own_d15_1)) ?_
  rw [len_of S1 M1]
  show own_Rch p e below _ s₁ (mkF m 2 #[.val (.ref a), .val (.ref b), .unset] [(.int (9 : Int32))])
  refine own_st (fun _ kt => XS.aloadN X0.here hx rfl (hb hby own_d15_2) rfl rfl  kt) ?_
  show own_Rch p e below _ s₁ (mkF m 3 #[.val (.ref a), .val (.ref b), .unset] [(.ref b), (.int (9 : Int32))])
  obtain ⟨cl2, Ar2, -, S2, M2, -, -⟩ := id VB
  refine own_st (X0.arraylength hx (by rw [e0]; exact Ar2.1) (State.isArrayOf_alike (hZ).alike Ar2.2.1) (g := (mkF m 3 #[.val (.ref a), .val (.ref b), .unset] [(.ref b), (.int (9 : Int32))])) rfl rfl (hb hby own_d15_3)) ?_
  rw [len_of S2 M2]
  show own_Rch p e below _ s₁ (mkF m 4 #[.val (.ref a), .val (.ref b), .unset] [(.int (9 : Int32)), (.int (9 : Int32))])
  refine own_st (fun _ kt => XS.icmpNo X0.here hx rfl (hb hby own_d15_4) rfl (teq (rfl : (9 : Int32) = (9 : Int32))).2 kt) ?_
  show own_Rch p e below _ s₁ (mkF m 7 #[.val (.ref a), .val (.ref b), .unset] [])
  refine own_st (fun _ kt => XS.iconst X0.here hx rfl (hb hby own_d15_7) kt) ?_
  show own_Rch p e below _ s₁ (mkF m 8 #[.val (.ref a), .val (.ref b), .unset] [(.int (0 : Int32))])
  refine own_st (fun _ kt => XS.istoreN X0.here hx rfl (hb hby own_d15_8) rfl (l' := #[.val (.ref a), .val (.ref b), .val (.int (0 : Int32))]) rfl kt) ?_
  show own_Rch p e below _ s₁ (mkF m 9 #[.val (.ref a), .val (.ref b), .val (.int (0 : Int32))] [])
  refine own_st (fun _ kt => XS.iloadN X0.here hx rfl (hb hby own_d15_9) rfl  kt) ?_
  show own_Rch p e below _ s₁ (mkF m 10 #[.val (.ref a), .val (.ref b), .val (.int (0 : Int32))] [(.int (0 : Int32))])
  refine own_st (fun _ kt => XS.aloadN X0.here hx rfl (hb hby own_d15_10) rfl rfl  kt) ?_
  show own_Rch p e below _ s₁ (mkF m 11 #[.val (.ref a), .val (.ref b), .val (.int (0 : Int32))] [(.ref a), (.int (0 : Int32))])
  obtain ⟨cl3, Ar3, -, S3, M3, -, -⟩ := id VA
  refine own_st (X0.arraylength hx (by rw [e0]; exact Ar3.1) (State.isArrayOf_alike (hZ).alike Ar3.2.1) (g := (mkF m 11 #[.val (.ref a), .val (.ref b), .val (.int (0 : Int32))] [(.ref a), (.int (0 : Int32))])) rfl rfl (hb hby own_d15_11)) ?_
  rw [len_of S3 M3]
  show own_Rch p e below _ s₁ (mkF m 12 #[.val (.ref a), .val (.ref b), .val (.int (0 : Int32))] [(.int (9 : Int32)), (.int (0 : Int32))])
  refine own_st (fun _ kt => XS.icmpNo X0.here hx rfl (hb hby own_d15_12) rfl (tlt ((by decide) : (0 : Int32) < (9 : Int32))).2.1 kt) ?_
  show own_Rch p e below _ s₁ (mkF m 15 #[.val (.ref a), .val (.ref b), .val (.int (0 : Int32))] [])
  refine own_st (fun _ kt => XS.aloadN X0.here hx rfl (hb hby own_d15_15) rfl rfl  kt) ?_
  show own_Rch p e below _ s₁ (mkF m 16 #[.val (.ref a), .val (.ref b), .val (.int (0 : Int32))] [(.ref a)])
  refine own_st (fun _ kt => XS.iloadN X0.here hx rfl (hb hby own_d15_16) rfl  kt) ?_
  show own_Rch p e below _ s₁ (mkF m 17 #[.val (.ref a), .val (.ref b), .val (.int (0 : Int32))] [(.int (0 : Int32)), (.ref a)])
  obtain ⟨cl4, Ar4, q4, S4, M4, H4, G4⟩ := id VA
  have hin4 : ¬ ((0 : Int32) < 0 ∨ cl4.slots.size ≤ ((0 : Int32)).toNatClampNeg) := inb_of S4 ⟨by decide, by decide⟩
  refine own_st (X0.baloadBytes hx (j := (0 : Int32)) (v := (.int x0)) (by rw [e0]; exact Ar4.1) (State.isArrayOf_alike (hZ).alike Ar4.2.1) Ar4.2.2 hin4 (H4.at hin4 rfl) (g := (mkF m 17 #[.val (.ref a), .val (.ref b), .val (.int (0 : Int32))] [(.int (0 : Int32)), (.ref a)])) rfl rfl (hb hby own_d15_17)) ?_
  show own_Rch p e below _ s₁ (mkF m 18 #[.val (.ref a), .val (.ref b), .val (.int (0 : Int32))] [(.int x0)])
  refine own_st (fun _ kt => XS.aloadN X0.here hx rfl (hb hby own_d15_18) rfl rfl  kt) ?_
  show own_Rch p e below _ s₁ (mkF m 19 #[.val (.ref a), .val (.ref b), .val (.int (0 : Int32))] [(.ref b), (.int x0)])
  refine own_st (fun _ kt => XS.iloadN X0.here hx rfl (hb hby own_d15_19) rfl  kt) ?_
  show own_Rch p e below _ s₁ (mkF m 20 #[.val (.ref a), .val (.ref b), .val (.int (0 : Int32))] [(.int (0 : Int32)), (.ref b), (.int x0)])
  obtain ⟨cl5, Ar5, q5, S5, M5, H5, G5⟩ := id VB
  have hin5 : ¬ ((0 : Int32) < 0 ∨ cl5.slots.size ≤ ((0 : Int32)).toNatClampNeg) := inb_of S5 ⟨by decide, by decide⟩
  refine own_st (X0.baloadBytes hx (j := (0 : Int32)) (v := (.int x0)) (by rw [e0]; exact Ar5.1) (State.isArrayOf_alike (hZ).alike Ar5.2.1) Ar5.2.2 hin5 (H5.at hin5 rfl) (g := (mkF m 20 #[.val (.ref a), .val (.ref b), .val (.int (0 : Int32))] [(.int (0 : Int32)), (.ref b), (.int x0)])) rfl rfl (hb hby own_d15_20)) ?_
  show own_Rch p e below _ s₁ (mkF m 21 #[.val (.ref a), .val (.ref b), .val (.int (0 : Int32))] [(.int x0), (.int x0)])
  refine own_st (fun _ kt => XS.icmpYes X0.here hx rfl (pc0 := 21) (pc' := 26) rfl (hb hby own_d15_21) rfl (teq (rfl : x0 = x0)).1 (by decide) (by decide) kt) ?_
  show own_Rch p e below _ s₁ (mkF m 26 #[.val (.ref a), .val (.ref b), .val (.int (0 : Int32))] [])
  refine own_st (fun _ kt => XS.iinc X0.here hx rfl (hb hby own_d15_26) rfl (l' := #[.val (.ref a), .val (.ref b), .val (.int (1 : Int32))]) rfl kt) ?_
  show own_Rch p e below _ s₁ (mkF m 29 #[.val (.ref a), .val (.ref b), .val (.int (1 : Int32))] [])
  refine own_st (fun _ kt => XS.goto X0.here hx rfl (pc0 := 29) (pc' := 9) rfl (hb hby own_d15_29) (by decide) (by decide) kt) ?_
  show own_Rch p e below _ s₁ (mkF m 9 #[.val (.ref a), .val (.ref b), .val (.int (1 : Int32))] [])
  refine own_st (fun _ kt => XS.iloadN X0.here hx rfl (hb hby own_d15_9) rfl  kt) ?_
  show own_Rch p e below _ s₁ (mkF m 10 #[.val (.ref a), .val (.ref b), .val (.int (1 : Int32))] [(.int (1 : Int32))])
  refine own_st (fun _ kt => XS.aloadN X0.here hx rfl (hb hby own_d15_10) rfl rfl  kt) ?_
  show own_Rch p e below _ s₁ (mkF m 11 #[.val (.ref a), .val (.ref b), .val (.int (1 : Int32))] [(.ref a), (.int (1 : Int32))])
  obtain ⟨cl6, Ar6, -, S6, M6, -, -⟩ := id VA
  refine own_st (X0.arraylength hx (by rw [e0]; exact Ar6.1) (State.isArrayOf_alike (hZ).alike Ar6.2.1) (g := (mkF m 11 #[.val (.ref a), .val (.ref b), .val (.int (1 : Int32))] [(.ref a), (.int (1 : Int32))])) rfl rfl (hb hby own_d15_11)) ?_
  rw [len_of S6 M6]
  show own_Rch p e below _ s₁ (mkF m 12 #[.val (.ref a), .val (.ref b), .val (.int (1 : Int32))] [(.int (9 : Int32)), (.int (1 : Int32))])
  refine own_st (fun _ kt => XS.icmpNo X0.here hx rfl (hb hby own_d15_12) rfl (tlt ((by decide) : (1 : Int32) < (9 : Int32))).2.1 kt) ?_
  show own_Rch p e below _ s₁ (mkF m 15 #[.val (.ref a), .val (.ref b), .val (.int (1 : Int32))] [])
  refine own_st (fun _ kt => XS.aloadN X0.here hx rfl (hb hby own_d15_15) rfl rfl  kt) ?_
  show own_Rch p e below _ s₁ (mkF m 16 #[.val (.ref a), .val (.ref b), .val (.int (1 : Int32))] [(.ref a)])
  refine own_st (fun _ kt => XS.iloadN X0.here hx rfl (hb hby own_d15_16) rfl  kt) ?_
  show own_Rch p e below _ s₁ (mkF m 17 #[.val (.ref a), .val (.ref b), .val (.int (1 : Int32))] [(.int (1 : Int32)), (.ref a)])
  obtain ⟨cl7, Ar7, q7, S7, M7, H7, G7⟩ := id VA
  have hin7 : ¬ ((1 : Int32) < 0 ∨ cl7.slots.size ≤ ((1 : Int32)).toNatClampNeg) := inb_of S7 ⟨by decide, by decide⟩
  refine own_st (X0.baloadBytes hx (j := (1 : Int32)) (v := (.int x1)) (by rw [e0]; exact Ar7.1) (State.isArrayOf_alike (hZ).alike Ar7.2.1) Ar7.2.2 hin7 (H7.at hin7 rfl) (g := (mkF m 17 #[.val (.ref a), .val (.ref b), .val (.int (1 : Int32))] [(.int (1 : Int32)), (.ref a)])) rfl rfl (hb hby own_d15_17)) ?_
  show own_Rch p e below _ s₁ (mkF m 18 #[.val (.ref a), .val (.ref b), .val (.int (1 : Int32))] [(.int x1)])
  refine own_st (fun _ kt => XS.aloadN X0.here hx rfl (hb hby own_d15_18) rfl rfl  kt) ?_
  show own_Rch p e below _ s₁ (mkF m 19 #[.val (.ref a), .val (.ref b), .val (.int (1 : Int32))] [(.ref b), (.int x1)])
  refine own_st (fun _ kt => XS.iloadN X0.here hx rfl (hb hby own_d15_19) rfl  kt) ?_
  show own_Rch p e below _ s₁ (mkF m 20 #[.val (.ref a), .val (.ref b), .val (.int (1 : Int32))] [(.int (1 : Int32)), (.ref b), (.int x1)])
  obtain ⟨cl8, Ar8, q8, S8, M8, H8, G8⟩ := id VB
  have hin8 : ¬ ((1 : Int32) < 0 ∨ cl8.slots.size ≤ ((1 : Int32)).toNatClampNeg) := inb_of S8 ⟨by decide, by decide⟩
  refine own_st (X0.baloadBytes hx (j := (1 : Int32)) (v := (.int x1)) (by rw [e0]; exact Ar8.1) (State.isArrayOf_alike (hZ).alike Ar8.2.1) Ar8.2.2 hin8 (H8.at hin8 rfl) (g := (mkF m 20 #[.val (.ref a), .val (.ref b), .val (.int (1 : Int32))] [(.int (1 : Int32)), (.ref b), (.int x1)])) rfl rfl (hb hby own_d15_20)) ?_
  show own_Rch p e below _ s₁ (mkF m 21 #[.val (.ref a), .val (.ref b), .val (.int (1 : Int32))] [(.int x1), (.int x1)])
  refine own_st (fun _ kt => XS.icmpYes X0.here hx rfl (pc0 := 21) (pc' := 26) rfl (hb hby own_d15_21) rfl (teq (rfl : x1 = x1)).1 (by decide) (by decide) kt) ?_
  show own_Rch p e below _ s₁ (mkF m 26 #[.val (.ref a), .val (.ref b), .val (.int (1 : Int32))] [])
  refine own_st (fun _ kt => XS.iinc X0.here hx rfl (hb hby own_d15_26) rfl (l' := #[.val (.ref a), .val (.ref b), .val (.int (2 : Int32))]) rfl kt) ?_
  show own_Rch p e below _ s₁ (mkF m 29 #[.val (.ref a), .val (.ref b), .val (.int (2 : Int32))] [])
  refine own_st (fun _ kt => XS.goto X0.here hx rfl (pc0 := 29) (pc' := 9) rfl (hb hby own_d15_29) (by decide) (by decide) kt) ?_
  show own_Rch p e below _ s₁ (mkF m 9 #[.val (.ref a), .val (.ref b), .val (.int (2 : Int32))] [])
  refine own_st (fun _ kt => XS.iloadN X0.here hx rfl (hb hby own_d15_9) rfl  kt) ?_
  show own_Rch p e below _ s₁ (mkF m 10 #[.val (.ref a), .val (.ref b), .val (.int (2 : Int32))] [(.int (2 : Int32))])
  refine own_st (fun _ kt => XS.aloadN X0.here hx rfl (hb hby own_d15_10) rfl rfl  kt) ?_
  show own_Rch p e below _ s₁ (mkF m 11 #[.val (.ref a), .val (.ref b), .val (.int (2 : Int32))] [(.ref a), (.int (2 : Int32))])
  obtain ⟨cl9, Ar9, -, S9, M9, -, -⟩ := id VA
  refine own_st (X0.arraylength hx (by rw [e0]; exact Ar9.1) (State.isArrayOf_alike (hZ).alike Ar9.2.1) (g := (mkF m 11 #[.val (.ref a), .val (.ref b), .val (.int (2 : Int32))] [(.ref a), (.int (2 : Int32))])) rfl rfl (hb hby own_d15_11)) ?_
  rw [len_of S9 M9]
  show own_Rch p e below _ s₁ (mkF m 12 #[.val (.ref a), .val (.ref b), .val (.int (2 : Int32))] [(.int (9 : Int32)), (.int (2 : Int32))])
  refine own_st (fun _ kt => XS.icmpNo X0.here hx rfl (hb hby own_d15_12) rfl (tlt ((by decide) : (2 : Int32) < (9 : Int32))).2.1 kt) ?_
  show own_Rch p e below _ s₁ (mkF m 15 #[.val (.ref a), .val (.ref b), .val (.int (2 : Int32))] [])
  refine own_st (fun _ kt => XS.aloadN X0.here hx rfl (hb hby own_d15_15) rfl rfl  kt) ?_
  show own_Rch p e below _ s₁ (mkF m 16 #[.val (.ref a), .val (.ref b), .val (.int (2 : Int32))] [(.ref a)])
  refine own_st (fun _ kt => XS.iloadN X0.here hx rfl (hb hby own_d15_16) rfl  kt) ?_
  show own_Rch p e below _ s₁ (mkF m 17 #[.val (.ref a), .val (.ref b), .val (.int (2 : Int32))] [(.int (2 : Int32)), (.ref a)])
  obtain ⟨cl10, Ar10, q10, S10, M10, H10, G10⟩ := id VA
  have hin10 : ¬ ((2 : Int32) < 0 ∨ cl10.slots.size ≤ ((2 : Int32)).toNatClampNeg) := inb_of S10 ⟨by decide, by decide⟩
  refine own_st (X0.baloadBytes hx (j := (2 : Int32)) (v := (.int x2)) (by rw [e0]; exact Ar10.1) (State.isArrayOf_alike (hZ).alike Ar10.2.1) Ar10.2.2 hin10 (H10.at hin10 rfl) (g := (mkF m 17 #[.val (.ref a), .val (.ref b), .val (.int (2 : Int32))] [(.int (2 : Int32)), (.ref a)])) rfl rfl (hb hby own_d15_17)) ?_
  show own_Rch p e below _ s₁ (mkF m 18 #[.val (.ref a), .val (.ref b), .val (.int (2 : Int32))] [(.int x2)])
  refine own_st (fun _ kt => XS.aloadN X0.here hx rfl (hb hby own_d15_18) rfl rfl  kt) ?_
  show own_Rch p e below _ s₁ (mkF m 19 #[.val (.ref a), .val (.ref b), .val (.int (2 : Int32))] [(.ref b), (.int x2)])
  refine own_st (fun _ kt => XS.iloadN X0.here hx rfl (hb hby own_d15_19) rfl  kt) ?_
  show own_Rch p e below _ s₁ (mkF m 20 #[.val (.ref a), .val (.ref b), .val (.int (2 : Int32))] [(.int (2 : Int32)), (.ref b), (.int x2)])
  obtain ⟨cl11, Ar11, q11, S11, M11, H11, G11⟩ := id VB
  have hin11 : ¬ ((2 : Int32) < 0 ∨ cl11.slots.size ≤ ((2 : Int32)).toNatClampNeg) := inb_of S11 ⟨by decide, by decide⟩
  refine own_st (X0.baloadBytes hx (j := (2 : Int32)) (v := (.int x2)) (by rw [e0]; exact Ar11.1) (State.isArrayOf_alike (hZ).alike Ar11.2.1) Ar11.2.2 hin11 (H11.at hin11 rfl) (g := (mkF m 20 #[.val (.ref a), .val (.ref b), .val (.int (2 : Int32))] [(.int (2 : Int32)), (.ref b), (.int x2)])) rfl rfl (hb hby own_d15_20)) ?_
  show own_Rch p e below _ s₁ (mkF m 21 #[.val (.ref a), .val (.ref b), .val (.int (2 : Int32))] [(.int x2), (.int x2)])
  refine own_st (fun _ kt => XS.icmpYes X0.here hx rfl (pc0 := 21) (pc' := 26) rfl (hb hby own_d15_21) rfl (teq (rfl : x2 = x2)).1 (by decide) (by decide) kt) ?_
  show own_Rch p e below _ s₁ (mkF m 26 #[.val (.ref a), .val (.ref b), .val (.int (2 : Int32))] [])
  refine own_st (fun _ kt => XS.iinc X0.here hx rfl (hb hby own_d15_26) rfl (l' := #[.val (.ref a), .val (.ref b), .val (.int (3 : Int32))]) rfl kt) ?_
  show own_Rch p e below _ s₁ (mkF m 29 #[.val (.ref a), .val (.ref b), .val (.int (3 : Int32))] [])
  refine own_st (fun _ kt => XS.goto X0.here hx rfl (pc0 := 29) (pc' := 9) rfl (hb hby own_d15_29) (by decide) (by decide) kt) ?_
  show own_Rch p e below _ s₁ (mkF m 9 #[.val (.ref a), .val (.ref b), .val (.int (3 : Int32))] [])
  refine own_st (fun _ kt => XS.iloadN X0.here hx rfl (hb hby own_d15_9) rfl  kt) ?_
  show own_Rch p e below _ s₁ (mkF m 10 #[.val (.ref a), .val (.ref b), .val (.int (3 : Int32))] [(.int (3 : Int32))])
  refine own_st (fun _ kt => XS.aloadN X0.here hx rfl (hb hby own_d15_10) rfl rfl  kt) ?_
  show own_Rch p e below _ s₁ (mkF m 11 #[.val (.ref a), .val (.ref b), .val (.int (3 : Int32))] [(.ref a), (.int (3 : Int32))])
  obtain ⟨cl12, Ar12, -, S12, M12, -, -⟩ := id VA
  refine own_st (X0.arraylength hx (by rw [e0]; exact Ar12.1) (State.isArrayOf_alike (hZ).alike Ar12.2.1) (g := (mkF m 11 #[.val (.ref a), .val (.ref b), .val (.int (3 : Int32))] [(.ref a), (.int (3 : Int32))])) rfl rfl (hb hby own_d15_11)) ?_
  rw [len_of S12 M12]
  show own_Rch p e below _ s₁ (mkF m 12 #[.val (.ref a), .val (.ref b), .val (.int (3 : Int32))] [(.int (9 : Int32)), (.int (3 : Int32))])
  refine own_st (fun _ kt => XS.icmpNo X0.here hx rfl (hb hby own_d15_12) rfl (tlt ((by decide) : (3 : Int32) < (9 : Int32))).2.1 kt) ?_
  show own_Rch p e below _ s₁ (mkF m 15 #[.val (.ref a), .val (.ref b), .val (.int (3 : Int32))] [])
  refine own_st (fun _ kt => XS.aloadN X0.here hx rfl (hb hby own_d15_15) rfl rfl  kt) ?_
  show own_Rch p e below _ s₁ (mkF m 16 #[.val (.ref a), .val (.ref b), .val (.int (3 : Int32))] [(.ref a)])
  refine own_st (fun _ kt => XS.iloadN X0.here hx rfl (hb hby own_d15_16) rfl  kt) ?_
  show own_Rch p e below _ s₁ (mkF m 17 #[.val (.ref a), .val (.ref b), .val (.int (3 : Int32))] [(.int (3 : Int32)), (.ref a)])
  obtain ⟨cl13, Ar13, q13, S13, M13, H13, G13⟩ := id VA
  have hin13 : ¬ ((3 : Int32) < 0 ∨ cl13.slots.size ≤ ((3 : Int32)).toNatClampNeg) := inb_of S13 ⟨by decide, by decide⟩
  refine own_st (X0.baloadBytes hx (j := (3 : Int32)) (v := (.int x3)) (by rw [e0]; exact Ar13.1) (State.isArrayOf_alike (hZ).alike Ar13.2.1) Ar13.2.2 hin13 (H13.at hin13 rfl) (g := (mkF m 17 #[.val (.ref a), .val (.ref b), .val (.int (3 : Int32))] [(.int (3 : Int32)), (.ref a)])) rfl rfl (hb hby own_d15_17)) ?_
  show own_Rch p e below _ s₁ (mkF m 18 #[.val (.ref a), .val (.ref b), .val (.int (3 : Int32))] [(.int x3)])
  refine own_st (fun _ kt => XS.aloadN X0.here hx rfl (hb hby own_d15_18) rfl rfl  kt) ?_
  show own_Rch p e below _ s₁ (mkF m 19 #[.val (.ref a), .val (.ref b), .val (.int (3 : Int32))] [(.ref b), (.int x3)])
  refine own_st (fun _ kt => XS.iloadN X0.here hx rfl (hb hby own_d15_19) rfl  kt) ?_
  show own_Rch p e below _ s₁ (mkF m 20 #[.val (.ref a), .val (.ref b), .val (.int (3 : Int32))] [(.int (3 : Int32)), (.ref b), (.int x3)])
  obtain ⟨cl14, Ar14, q14, S14, M14, H14, G14⟩ := id VB
  have hin14 : ¬ ((3 : Int32) < 0 ∨ cl14.slots.size ≤ ((3 : Int32)).toNatClampNeg) := inb_of S14 ⟨by decide, by decide⟩
  refine own_st (X0.baloadBytes hx (j := (3 : Int32)) (v := (.int x3)) (by rw [e0]; exact Ar14.1) (State.isArrayOf_alike (hZ).alike Ar14.2.1) Ar14.2.2 hin14 (H14.at hin14 rfl) (g := (mkF m 20 #[.val (.ref a), .val (.ref b), .val (.int (3 : Int32))] [(.int (3 : Int32)), (.ref b), (.int x3)])) rfl rfl (hb hby own_d15_20)) ?_
  show own_Rch p e below _ s₁ (mkF m 21 #[.val (.ref a), .val (.ref b), .val (.int (3 : Int32))] [(.int x3), (.int x3)])
  refine own_st (fun _ kt => XS.icmpYes X0.here hx rfl (pc0 := 21) (pc' := 26) rfl (hb hby own_d15_21) rfl (teq (rfl : x3 = x3)).1 (by decide) (by decide) kt) ?_
  show own_Rch p e below _ s₁ (mkF m 26 #[.val (.ref a), .val (.ref b), .val (.int (3 : Int32))] [])
  refine own_st (fun _ kt => XS.iinc X0.here hx rfl (hb hby own_d15_26) rfl (l' := #[.val (.ref a), .val (.ref b), .val (.int (4 : Int32))]) rfl kt) ?_
  show own_Rch p e below _ s₁ (mkF m 29 #[.val (.ref a), .val (.ref b), .val (.int (4 : Int32))] [])
  refine own_st (fun _ kt => XS.goto X0.here hx rfl (pc0 := 29) (pc' := 9) rfl (hb hby own_d15_29) (by decide) (by decide) kt) ?_
  show own_Rch p e below _ s₁ (mkF m 9 #[.val (.ref a), .val (.ref b), .val (.int (4 : Int32))] [])
  refine own_st (fun _ kt => XS.iloadN X0.here hx rfl (hb hby own_d15_9) rfl  kt) ?_
  show own_Rch p e below _ s₁ (mkF m 10 #[.val (.ref a), .val (.ref b), .val (.int (4 : Int32))] [(.int (4 : Int32))])
  refine own_st (fun _ kt => XS.aloadN X0.here hx rfl (hb hby own_d15_10) rfl rfl  kt) ?_
  show own_Rch p e below _ s₁ (mkF m 11 #[.val (.ref a), .val (.ref b), .val (.int (4 : Int32))] [(.ref a), (.int (4 : Int32))])
  obtain ⟨cl15, Ar15, -, S15, M15, -, -⟩ := id VA
  refine own_st (X0.arraylength hx (by rw [e0]; exact Ar15.1) (State.isArrayOf_alike (hZ).alike Ar15.2.1) (g := (mkF m 11 #[.val (.ref a), .val (.ref b), .val (.int (4 : Int32))] [(.ref a), (.int (4 : Int32))])) rfl rfl (hb hby own_d15_11)) ?_
  rw [len_of S15 M15]
  show own_Rch p e below _ s₁ (mkF m 12 #[.val (.ref a), .val (.ref b), .val (.int (4 : Int32))] [(.int (9 : Int32)), (.int (4 : Int32))])
  refine own_st (fun _ kt => XS.icmpNo X0.here hx rfl (hb hby own_d15_12) rfl (tlt ((by decide) : (4 : Int32) < (9 : Int32))).2.1 kt) ?_
  show own_Rch p e below _ s₁ (mkF m 15 #[.val (.ref a), .val (.ref b), .val (.int (4 : Int32))] [])
  refine own_st (fun _ kt => XS.aloadN X0.here hx rfl (hb hby own_d15_15) rfl rfl  kt) ?_
  show own_Rch p e below _ s₁ (mkF m 16 #[.val (.ref a), .val (.ref b), .val (.int (4 : Int32))] [(.ref a)])
  refine own_st (fun _ kt => XS.iloadN X0.here hx rfl (hb hby own_d15_16) rfl  kt) ?_
  show own_Rch p e below _ s₁ (mkF m 17 #[.val (.ref a), .val (.ref b), .val (.int (4 : Int32))] [(.int (4 : Int32)), (.ref a)])
  obtain ⟨cl16, Ar16, q16, S16, M16, H16, G16⟩ := id VA
  have hin16 : ¬ ((4 : Int32) < 0 ∨ cl16.slots.size ≤ ((4 : Int32)).toNatClampNeg) := inb_of S16 ⟨by decide, by decide⟩
  refine own_st (X0.baloadBytes hx (j := (4 : Int32)) (v := (.int x4)) (by rw [e0]; exact Ar16.1) (State.isArrayOf_alike (hZ).alike Ar16.2.1) Ar16.2.2 hin16 (H16.at hin16 rfl) (g := (mkF m 17 #[.val (.ref a), .val (.ref b), .val (.int (4 : Int32))] [(.int (4 : Int32)), (.ref a)])) rfl rfl (hb hby own_d15_17)) ?_
  show own_Rch p e below _ s₁ (mkF m 18 #[.val (.ref a), .val (.ref b), .val (.int (4 : Int32))] [(.int x4)])
  refine own_st (fun _ kt => XS.aloadN X0.here hx rfl (hb hby own_d15_18) rfl rfl  kt) ?_
  show own_Rch p e below _ s₁ (mkF m 19 #[.val (.ref a), .val (.ref b), .val (.int (4 : Int32))] [(.ref b), (.int x4)])
  refine own_st (fun _ kt => XS.iloadN X0.here hx rfl (hb hby own_d15_19) rfl  kt) ?_
  show own_Rch p e below _ s₁ (mkF m 20 #[.val (.ref a), .val (.ref b), .val (.int (4 : Int32))] [(.int (4 : Int32)), (.ref b), (.int x4)])
  obtain ⟨cl17, Ar17, q17, S17, M17, H17, G17⟩ := id VB
  have hin17 : ¬ ((4 : Int32) < 0 ∨ cl17.slots.size ≤ ((4 : Int32)).toNatClampNeg) := inb_of S17 ⟨by decide, by decide⟩
  refine own_st (X0.baloadBytes hx (j := (4 : Int32)) (v := (.int x4)) (by rw [e0]; exact Ar17.1) (State.isArrayOf_alike (hZ).alike Ar17.2.1) Ar17.2.2 hin17 (H17.at hin17 rfl) (g := (mkF m 20 #[.val (.ref a), .val (.ref b), .val (.int (4 : Int32))] [(.int (4 : Int32)), (.ref b), (.int x4)])) rfl rfl (hb hby own_d15_20)) ?_
  show own_Rch p e below _ s₁ (mkF m 21 #[.val (.ref a), .val (.ref b), .val (.int (4 : Int32))] [(.int x4), (.int x4)])
  refine own_st (fun _ kt => XS.icmpYes X0.here hx rfl (pc0 := 21) (pc' := 26) rfl (hb hby own_d15_21) rfl (teq (rfl : x4 = x4)).1 (by decide) (by decide) kt) ?_
  show own_Rch p e below _ s₁ (mkF m 26 #[.val (.ref a), .val (.ref b), .val (.int (4 : Int32))] [])
  refine own_st (fun _ kt => XS.iinc X0.here hx rfl (hb hby own_d15_26) rfl (l' := #[.val (.ref a), .val (.ref b), .val (.int (5 : Int32))]) rfl kt) ?_
  show own_Rch p e below _ s₁ (mkF m 29 #[.val (.ref a), .val (.ref b), .val (.int (5 : Int32))] [])
  refine own_st (fun _ kt => XS.goto X0.here hx rfl (pc0 := 29) (pc' := 9) rfl (hb hby own_d15_29) (by decide) (by decide) kt) ?_
  show own_Rch p e below _ s₁ (mkF m 9 #[.val (.ref a), .val (.ref b), .val (.int (5 : Int32))] [])
  refine own_st (fun _ kt => XS.iloadN X0.here hx rfl (hb hby own_d15_9) rfl  kt) ?_
  show own_Rch p e below _ s₁ (mkF m 10 #[.val (.ref a), .val (.ref b), .val (.int (5 : Int32))] [(.int (5 : Int32))])
  refine own_st (fun _ kt => XS.aloadN X0.here hx rfl (hb hby own_d15_10) rfl rfl  kt) ?_
  show own_Rch p e below _ s₁ (mkF m 11 #[.val (.ref a), .val (.ref b), .val (.int (5 : Int32))] [(.ref a), (.int (5 : Int32))])
  obtain ⟨cl18, Ar18, -, S18, M18, -, -⟩ := id VA
  refine own_st (X0.arraylength hx (by rw [e0]; exact Ar18.1) (State.isArrayOf_alike (hZ).alike Ar18.2.1) (g := (mkF m 11 #[.val (.ref a), .val (.ref b), .val (.int (5 : Int32))] [(.ref a), (.int (5 : Int32))])) rfl rfl (hb hby own_d15_11)) ?_
  rw [len_of S18 M18]
  show own_Rch p e below _ s₁ (mkF m 12 #[.val (.ref a), .val (.ref b), .val (.int (5 : Int32))] [(.int (9 : Int32)), (.int (5 : Int32))])
  refine own_st (fun _ kt => XS.icmpNo X0.here hx rfl (hb hby own_d15_12) rfl (tlt ((by decide) : (5 : Int32) < (9 : Int32))).2.1 kt) ?_
  show own_Rch p e below _ s₁ (mkF m 15 #[.val (.ref a), .val (.ref b), .val (.int (5 : Int32))] [])
  refine own_st (fun _ kt => XS.aloadN X0.here hx rfl (hb hby own_d15_15) rfl rfl  kt) ?_
  show own_Rch p e below _ s₁ (mkF m 16 #[.val (.ref a), .val (.ref b), .val (.int (5 : Int32))] [(.ref a)])
  refine own_st (fun _ kt => XS.iloadN X0.here hx rfl (hb hby own_d15_16) rfl  kt) ?_
  show own_Rch p e below _ s₁ (mkF m 17 #[.val (.ref a), .val (.ref b), .val (.int (5 : Int32))] [(.int (5 : Int32)), (.ref a)])
  obtain ⟨cl19, Ar19, q19, S19, M19, H19, G19⟩ := id VA
  have hin19 : ¬ ((5 : Int32) < 0 ∨ cl19.slots.size ≤ ((5 : Int32)).toNatClampNeg) := inb_of S19 ⟨by decide, by decide⟩
  refine own_st (X0.baloadBytes hx (j := (5 : Int32)) (v := (.int x5)) (by rw [e0]; exact Ar19.1) (State.isArrayOf_alike (hZ).alike Ar19.2.1) Ar19.2.2 hin19 (H19.at hin19 rfl) (g := (mkF m 17 #[.val (.ref a), .val (.ref b), .val (.int (5 : Int32))] [(.int (5 : Int32)), (.ref a)])) rfl rfl (hb hby own_d15_17)) ?_
  show own_Rch p e below _ s₁ (mkF m 18 #[.val (.ref a), .val (.ref b), .val (.int (5 : Int32))] [(.int x5)])
  refine own_st (fun _ kt => XS.aloadN X0.here hx rfl (hb hby own_d15_18) rfl rfl  kt) ?_
  show own_Rch p e below _ s₁ (mkF m 19 #[.val (.ref a), .val (.ref b), .val (.int (5 : Int32))] [(.ref b), (.int x5)])
  refine own_st (fun _ kt => XS.iloadN X0.here hx rfl (hb hby own_d15_19) rfl  kt) ?_
  show own_Rch p e below _ s₁ (mkF m 20 #[.val (.ref a), .val (.ref b), .val (.int (5 : Int32))] [(.int (5 : Int32)), (.ref b), (.int x5)])
  obtain ⟨cl20, Ar20, q20, S20, M20, H20, G20⟩ := id VB
  have hin20 : ¬ ((5 : Int32) < 0 ∨ cl20.slots.size ≤ ((5 : Int32)).toNatClampNeg) := inb_of S20 ⟨by decide, by decide⟩
  refine own_st (X0.baloadBytes hx (j := (5 : Int32)) (v := (.int x5)) (by rw [e0]; exact Ar20.1) (State.isArrayOf_alike (hZ).alike Ar20.2.1) Ar20.2.2 hin20 (H20.at hin20 rfl) (g := (mkF m 20 #[.val (.ref a), .val (.ref b), .val (.int (5 : Int32))] [(.int (5 : Int32)), (.ref b), (.int x5)])) rfl rfl (hb hby own_d15_20)) ?_
  show own_Rch p e below _ s₁ (mkF m 21 #[.val (.ref a), .val (.ref b), .val (.int (5 : Int32))] [(.int x5), (.int x5)])
  refine own_st (fun _ kt => XS.icmpYes X0.here hx rfl (pc0 := 21) (pc' := 26) rfl (hb hby own_d15_21) rfl (teq (rfl : x5 = x5)).1 (by decide) (by decide) kt) ?_
  show own_Rch p e below _ s₁ (mkF m 26 #[.val (.ref a), .val (.ref b), .val (.int (5 : Int32))] [])
  refine own_st (fun _ kt => XS.iinc X0.here hx rfl (hb hby own_d15_26) rfl (l' := #[.val (.ref a), .val (.ref b), .val (.int (6 : Int32))]) rfl kt) ?_
  show own_Rch p e below _ s₁ (mkF m 29 #[.val (.ref a), .val (.ref b), .val (.int (6 : Int32))] [])
  refine own_st (fun _ kt => XS.goto X0.here hx rfl (pc0 := 29) (pc' := 9) rfl (hb hby own_d15_29) (by decide) (by decide) kt) ?_
  show own_Rch p e below _ s₁ (mkF m 9 #[.val (.ref a), .val (.ref b), .val (.int (6 : Int32))] [])
  refine own_st (fun _ kt => XS.iloadN X0.here hx rfl (hb hby own_d15_9) rfl  kt) ?_
  show own_Rch p e below _ s₁ (mkF m 10 #[.val (.ref a), .val (.ref b), .val (.int (6 : Int32))] [(.int (6 : Int32))])
  refine own_st (fun _ kt => XS.aloadN X0.here hx rfl (hb hby own_d15_10) rfl rfl  kt) ?_
  show own_Rch p e below _ s₁ (mkF m 11 #[.val (.ref a), .val (.ref b), .val (.int (6 : Int32))] [(.ref a), (.int (6 : Int32))])
  obtain ⟨cl21, Ar21, -, S21, M21, -, -⟩ := id VA
  refine own_st (X0.arraylength hx (by rw [e0]; exact Ar21.1) (State.isArrayOf_alike (hZ).alike Ar21.2.1) (g := (mkF m 11 #[.val (.ref a), .val (.ref b), .val (.int (6 : Int32))] [(.ref a), (.int (6 : Int32))])) rfl rfl (hb hby own_d15_11)) ?_
  rw [len_of S21 M21]
  show own_Rch p e below _ s₁ (mkF m 12 #[.val (.ref a), .val (.ref b), .val (.int (6 : Int32))] [(.int (9 : Int32)), (.int (6 : Int32))])
  refine own_st (fun _ kt => XS.icmpNo X0.here hx rfl (hb hby own_d15_12) rfl (tlt ((by decide) : (6 : Int32) < (9 : Int32))).2.1 kt) ?_
  show own_Rch p e below _ s₁ (mkF m 15 #[.val (.ref a), .val (.ref b), .val (.int (6 : Int32))] [])
  refine own_st (fun _ kt => XS.aloadN X0.here hx rfl (hb hby own_d15_15) rfl rfl  kt) ?_
  show own_Rch p e below _ s₁ (mkF m 16 #[.val (.ref a), .val (.ref b), .val (.int (6 : Int32))] [(.ref a)])
  refine own_st (fun _ kt => XS.iloadN X0.here hx rfl (hb hby own_d15_16) rfl  kt) ?_
  show own_Rch p e below _ s₁ (mkF m 17 #[.val (.ref a), .val (.ref b), .val (.int (6 : Int32))] [(.int (6 : Int32)), (.ref a)])
  obtain ⟨cl22, Ar22, q22, S22, M22, H22, G22⟩ := id VA
  have hin22 : ¬ ((6 : Int32) < 0 ∨ cl22.slots.size ≤ ((6 : Int32)).toNatClampNeg) := inb_of S22 ⟨by decide, by decide⟩
  refine own_st (X0.baloadBytes hx (j := (6 : Int32)) (v := (.int x6)) (by rw [e0]; exact Ar22.1) (State.isArrayOf_alike (hZ).alike Ar22.2.1) Ar22.2.2 hin22 (H22.at hin22 rfl) (g := (mkF m 17 #[.val (.ref a), .val (.ref b), .val (.int (6 : Int32))] [(.int (6 : Int32)), (.ref a)])) rfl rfl (hb hby own_d15_17)) ?_
  show own_Rch p e below _ s₁ (mkF m 18 #[.val (.ref a), .val (.ref b), .val (.int (6 : Int32))] [(.int x6)])
  refine own_st (fun _ kt => XS.aloadN X0.here hx rfl (hb hby own_d15_18) rfl rfl  kt) ?_
  show own_Rch p e below _ s₁ (mkF m 19 #[.val (.ref a), .val (.ref b), .val (.int (6 : Int32))] [(.ref b), (.int x6)])
  refine own_st (fun _ kt => XS.iloadN X0.here hx rfl (hb hby own_d15_19) rfl  kt) ?_
  show own_Rch p e below _ s₁ (mkF m 20 #[.val (.ref a), .val (.ref b), .val (.int (6 : Int32))] [(.int (6 : Int32)), (.ref b), (.int x6)])
  obtain ⟨cl23, Ar23, q23, S23, M23, H23, G23⟩ := id VB
  have hin23 : ¬ ((6 : Int32) < 0 ∨ cl23.slots.size ≤ ((6 : Int32)).toNatClampNeg) := inb_of S23 ⟨by decide, by decide⟩
  refine own_st (X0.baloadBytes hx (j := (6 : Int32)) (v := (.int x6)) (by rw [e0]; exact Ar23.1) (State.isArrayOf_alike (hZ).alike Ar23.2.1) Ar23.2.2 hin23 (H23.at hin23 rfl) (g := (mkF m 20 #[.val (.ref a), .val (.ref b), .val (.int (6 : Int32))] [(.int (6 : Int32)), (.ref b), (.int x6)])) rfl rfl (hb hby own_d15_20)) ?_
  show own_Rch p e below _ s₁ (mkF m 21 #[.val (.ref a), .val (.ref b), .val (.int (6 : Int32))] [(.int x6), (.int x6)])
  refine own_st (fun _ kt => XS.icmpYes X0.here hx rfl (pc0 := 21) (pc' := 26) rfl (hb hby own_d15_21) rfl (teq (rfl : x6 = x6)).1 (by decide) (by decide) kt) ?_
  show own_Rch p e below _ s₁ (mkF m 26 #[.val (.ref a), .val (.ref b), .val (.int (6 : Int32))] [])
  refine own_st (fun _ kt => XS.iinc X0.here hx rfl (hb hby own_d15_26) rfl (l' := #[.val (.ref a), .val (.ref b), .val (.int (7 : Int32))]) rfl kt) ?_
  show own_Rch p e below _ s₁ (mkF m 29 #[.val (.ref a), .val (.ref b), .val (.int (7 : Int32))] [])
  refine own_st (fun _ kt => XS.goto X0.here hx rfl (pc0 := 29) (pc' := 9) rfl (hb hby own_d15_29) (by decide) (by decide) kt) ?_
  show own_Rch p e below _ s₁ (mkF m 9 #[.val (.ref a), .val (.ref b), .val (.int (7 : Int32))] [])
  refine own_st (fun _ kt => XS.iloadN X0.here hx rfl (hb hby own_d15_9) rfl  kt) ?_
  show own_Rch p e below _ s₁ (mkF m 10 #[.val (.ref a), .val (.ref b), .val (.int (7 : Int32))] [(.int (7 : Int32))])
  refine own_st (fun _ kt => XS.aloadN X0.here hx rfl (hb hby own_d15_10) rfl rfl  kt) ?_
  show own_Rch p e below _ s₁ (mkF m 11 #[.val (.ref a), .val (.ref b), .val (.int (7 : Int32))] [(.ref a), (.int (7 : Int32))])
  obtain ⟨cl24, Ar24, -, S24, M24, -, -⟩ := id VA
  refine own_st (X0.arraylength hx (by rw [e0]; exact Ar24.1) (State.isArrayOf_alike (hZ).alike Ar24.2.1) (g := (mkF m 11 #[.val (.ref a), .val (.ref b), .val (.int (7 : Int32))] [(.ref a), (.int (7 : Int32))])) rfl rfl (hb hby own_d15_11)) ?_
  rw [len_of S24 M24]
  show own_Rch p e below _ s₁ (mkF m 12 #[.val (.ref a), .val (.ref b), .val (.int (7 : Int32))] [(.int (9 : Int32)), (.int (7 : Int32))])
  refine own_st (fun _ kt => XS.icmpNo X0.here hx rfl (hb hby own_d15_12) rfl (tlt ((by decide) : (7 : Int32) < (9 : Int32))).2.1 kt) ?_
  show own_Rch p e below _ s₁ (mkF m 15 #[.val (.ref a), .val (.ref b), .val (.int (7 : Int32))] [])
  refine own_st (fun _ kt => XS.aloadN X0.here hx rfl (hb hby own_d15_15) rfl rfl  kt) ?_
  show own_Rch p e below _ s₁ (mkF m 16 #[.val (.ref a), .val (.ref b), .val (.int (7 : Int32))] [(.ref a)])
  refine own_st (fun _ kt => XS.iloadN X0.here hx rfl (hb hby own_d15_16) rfl  kt) ?_
  show own_Rch p e below _ s₁ (mkF m 17 #[.val (.ref a), .val (.ref b), .val (.int (7 : Int32))] [(.int (7 : Int32)), (.ref a)])
  obtain ⟨cl25, Ar25, q25, S25, M25, H25, G25⟩ := id VA
  have hin25 : ¬ ((7 : Int32) < 0 ∨ cl25.slots.size ≤ ((7 : Int32)).toNatClampNeg) := inb_of S25 ⟨by decide, by decide⟩
  refine own_st (X0.baloadBytes hx (j := (7 : Int32)) (v := (.int x7)) (by rw [e0]; exact Ar25.1) (State.isArrayOf_alike (hZ).alike Ar25.2.1) Ar25.2.2 hin25 (H25.at hin25 rfl) (g := (mkF m 17 #[.val (.ref a), .val (.ref b), .val (.int (7 : Int32))] [(.int (7 : Int32)), (.ref a)])) rfl rfl (hb hby own_d15_17)) ?_
  show own_Rch p e below _ s₁ (mkF m 18 #[.val (.ref a), .val (.ref b), .val (.int (7 : Int32))] [(.int x7)])
  refine own_st (fun _ kt => XS.aloadN X0.here hx rfl (hb hby own_d15_18) rfl rfl  kt) ?_
  show own_Rch p e below _ s₁ (mkF m 19 #[.val (.ref a), .val (.ref b), .val (.int (7 : Int32))] [(.ref b), (.int x7)])
  refine own_st (fun _ kt => XS.iloadN X0.here hx rfl (hb hby own_d15_19) rfl  kt) ?_
  show own_Rch p e below _ s₁ (mkF m 20 #[.val (.ref a), .val (.ref b), .val (.int (7 : Int32))] [(.int (7 : Int32)), (.ref b), (.int x7)])
  obtain ⟨cl26, Ar26, q26, S26, M26, H26, G26⟩ := id VB
  have hin26 : ¬ ((7 : Int32) < 0 ∨ cl26.slots.size ≤ ((7 : Int32)).toNatClampNeg) := inb_of S26 ⟨by decide, by decide⟩
  refine own_st (X0.baloadBytes hx (j := (7 : Int32)) (v := (.int x7)) (by rw [e0]; exact Ar26.1) (State.isArrayOf_alike (hZ).alike Ar26.2.1) Ar26.2.2 hin26 (H26.at hin26 rfl) (g := (mkF m 20 #[.val (.ref a), .val (.ref b), .val (.int (7 : Int32))] [(.int (7 : Int32)), (.ref b), (.int x7)])) rfl rfl (hb hby own_d15_20)) ?_
  show own_Rch p e below _ s₁ (mkF m 21 #[.val (.ref a), .val (.ref b), .val (.int (7 : Int32))] [(.int x7), (.int x7)])
  refine own_st (fun _ kt => XS.icmpYes X0.here hx rfl (pc0 := 21) (pc' := 26) rfl (hb hby own_d15_21) rfl (teq (rfl : x7 = x7)).1 (by decide) (by decide) kt) ?_
  show own_Rch p e below _ s₁ (mkF m 26 #[.val (.ref a), .val (.ref b), .val (.int (7 : Int32))] [])
  refine own_st (fun _ kt => XS.iinc X0.here hx rfl (hb hby own_d15_26) rfl (l' := #[.val (.ref a), .val (.ref b), .val (.int (8 : Int32))]) rfl kt) ?_
  show own_Rch p e below _ s₁ (mkF m 29 #[.val (.ref a), .val (.ref b), .val (.int (8 : Int32))] [])
  refine own_st (fun _ kt => XS.goto X0.here hx rfl (pc0 := 29) (pc' := 9) rfl (hb hby own_d15_29) (by decide) (by decide) kt) ?_
  show own_Rch p e below _ s₁ (mkF m 9 #[.val (.ref a), .val (.ref b), .val (.int (8 : Int32))] [])
  refine own_st (fun _ kt => XS.iloadN X0.here hx rfl (hb hby own_d15_9) rfl  kt) ?_
  show own_Rch p e below _ s₁ (mkF m 10 #[.val (.ref a), .val (.ref b), .val (.int (8 : Int32))] [(.int (8 : Int32))])
  refine own_st (fun _ kt => XS.aloadN X0.here hx rfl (hb hby own_d15_10) rfl rfl  kt) ?_
  show own_Rch p e below _ s₁ (mkF m 11 #[.val (.ref a), .val (.ref b), .val (.int (8 : Int32))] [(.ref a), (.int (8 : Int32))])
  obtain ⟨cl27, Ar27, -, S27, M27, -, -⟩ := id VA
  refine own_st (X0.arraylength hx (by rw [e0]; exact Ar27.1) (State.isArrayOf_alike (hZ).alike Ar27.2.1) (g := (mkF m 11 #[.val (.ref a), .val (.ref b), .val (.int (8 : Int32))] [(.ref a), (.int (8 : Int32))])) rfl rfl (hb hby own_d15_11)) ?_
  rw [len_of S27 M27]
  show own_Rch p e below _ s₁ (mkF m 12 #[.val (.ref a), .val (.ref b), .val (.int (8 : Int32))] [(.int (9 : Int32)), (.int (8 : Int32))])
  refine own_st (fun _ kt => XS.icmpNo X0.here hx rfl (hb hby own_d15_12) rfl (tlt ((by decide) : (8 : Int32) < (9 : Int32))).2.1 kt) ?_
  show own_Rch p e below _ s₁ (mkF m 15 #[.val (.ref a), .val (.ref b), .val (.int (8 : Int32))] [])
  refine own_st (fun _ kt => XS.aloadN X0.here hx rfl (hb hby own_d15_15) rfl rfl  kt) ?_
  show own_Rch p e below _ s₁ (mkF m 16 #[.val (.ref a), .val (.ref b), .val (.int (8 : Int32))] [(.ref a)])
  refine own_st (fun _ kt => XS.iloadN X0.here hx rfl (hb hby own_d15_16) rfl  kt) ?_
  show own_Rch p e below _ s₁ (mkF m 17 #[.val (.ref a), .val (.ref b), .val (.int (8 : Int32))] [(.int (8 : Int32)), (.ref a)])
  obtain ⟨cl28, Ar28, q28, S28, M28, H28, G28⟩ := id VA
  have hin28 : ¬ ((8 : Int32) < 0 ∨ cl28.slots.size ≤ ((8 : Int32)).toNatClampNeg) := inb_of S28 ⟨by decide, by decide⟩
  refine own_st (X0.baloadBytes hx (j := (8 : Int32)) (v := (.int x8)) (by rw [e0]; exact Ar28.1) (State.isArrayOf_alike (hZ).alike Ar28.2.1) Ar28.2.2 hin28 (H28.at hin28 rfl) (g := (mkF m 17 #[.val (.ref a), .val (.ref b), .val (.int (8 : Int32))] [(.int (8 : Int32)), (.ref a)])) rfl rfl (hb hby own_d15_17)) ?_
  show own_Rch p e below _ s₁ (mkF m 18 #[.val (.ref a), .val (.ref b), .val (.int (8 : Int32))] [(.int x8)])
  refine own_st (fun _ kt => XS.aloadN X0.here hx rfl (hb hby own_d15_18) rfl rfl  kt) ?_
  show own_Rch p e below _ s₁ (mkF m 19 #[.val (.ref a), .val (.ref b), .val (.int (8 : Int32))] [(.ref b), (.int x8)])
  refine own_st (fun _ kt => XS.iloadN X0.here hx rfl (hb hby own_d15_19) rfl  kt) ?_
  show own_Rch p e below _ s₁ (mkF m 20 #[.val (.ref a), .val (.ref b), .val (.int (8 : Int32))] [(.int (8 : Int32)), (.ref b), (.int x8)])
  obtain ⟨cl29, Ar29, q29, S29, M29, H29, G29⟩ := id VB
  have hin29 : ¬ ((8 : Int32) < 0 ∨ cl29.slots.size ≤ ((8 : Int32)).toNatClampNeg) := inb_of S29 ⟨by decide, by decide⟩
  refine own_st (X0.baloadBytes hx (j := (8 : Int32)) (v := (.int x8)) (by rw [e0]; exact Ar29.1) (State.isArrayOf_alike (hZ).alike Ar29.2.1) Ar29.2.2 hin29 (H29.at hin29 rfl) (g := (mkF m 20 #[.val (.ref a), .val (.ref b), .val (.int (8 : Int32))] [(.int (8 : Int32)), (.ref b), (.int x8)])) rfl rfl (hb hby own_d15_20)) ?_
  show own_Rch p e below _ s₁ (mkF m 21 #[.val (.ref a), .val (.ref b), .val (.int (8 : Int32))] [(.int x8), (.int x8)])
  refine own_st (fun _ kt => XS.icmpYes X0.here hx rfl (pc0 := 21) (pc' := 26) rfl (hb hby own_d15_21) rfl (teq (rfl : x8 = x8)).1 (by decide) (by decide) kt) ?_
  show own_Rch p e below _ s₁ (mkF m 26 #[.val (.ref a), .val (.ref b), .val (.int (8 : Int32))] [])
  refine own_st (fun _ kt => XS.iinc X0.here hx rfl (hb hby own_d15_26) rfl (l' := #[.val (.ref a), .val (.ref b), .val (.int (9 : Int32))]) rfl kt) ?_
  show own_Rch p e below _ s₁ (mkF m 29 #[.val (.ref a), .val (.ref b), .val (.int (9 : Int32))] [])
  refine own_st (fun _ kt => XS.goto X0.here hx rfl (pc0 := 29) (pc' := 9) rfl (hb hby own_d15_29) (by decide) (by decide) kt) ?_
  show own_Rch p e below _ s₁ (mkF m 9 #[.val (.ref a), .val (.ref b), .val (.int (9 : Int32))] [])
  refine own_st (fun _ kt => XS.iloadN X0.here hx rfl (hb hby own_d15_9) rfl  kt) ?_
  show own_Rch p e below _ s₁ (mkF m 10 #[.val (.ref a), .val (.ref b), .val (.int (9 : Int32))] [(.int (9 : Int32))])
  refine own_st (fun _ kt => XS.aloadN X0.here hx rfl (hb hby own_d15_10) rfl rfl  kt) ?_
  show own_Rch p e below _ s₁ (mkF m 11 #[.val (.ref a), .val (.ref b), .val (.int (9 : Int32))] [(.ref a), (.int (9 : Int32))])
  obtain ⟨cl30, Ar30, -, S30, M30, -, -⟩ := id VA
  refine own_st (X0.arraylength hx (by rw [e0]; exact Ar30.1) (State.isArrayOf_alike (hZ).alike Ar30.2.1) (g := (mkF m 11 #[.val (.ref a), .val (.ref b), .val (.int (9 : Int32))] [(.ref a), (.int (9 : Int32))])) rfl rfl (hb hby own_d15_11)) ?_
  rw [len_of S30 M30]
  show own_Rch p e below _ s₁ (mkF m 12 #[.val (.ref a), .val (.ref b), .val (.int (9 : Int32))] [(.int (9 : Int32)), (.int (9 : Int32))])
  refine own_st (fun _ kt => XS.icmpYes X0.here hx rfl (pc0 := 12) (pc' := 32) rfl (hb hby own_d15_12) rfl (flt ((by decide) : ¬ ((9 : Int32) < (9 : Int32)))).2.1 (by decide) (by decide) kt) ?_
  show own_Rch p e below _ s₁ (mkF m 32 #[.val (.ref a), .val (.ref b), .val (.int (9 : Int32))] [])
  refine own_st (fun _ kt => XS.iconst X0.here hx rfl (hb hby own_d15_32) kt) ?_
  show own_Rch p e below _ s₁ (mkF m 33 #[.val (.ref a), .val (.ref b), .val (.int (9 : Int32))] [(.int (1 : Int32))])
  refine own_retN (t := .boolean) (by simp) X0 hx Bd.notSynchronized Bd.returns (hb hby own_d15_33) (by decide) (by decide) ?_
  rw [e0]
  exact ⟨rfl, N0, rfl⟩
theorem own_lenP : own_len own_P9 = (9 : Int32) := by decide
theorem own_lenS : own_len own_S9 = (9 : Int32) := by decide
set_option maxHeartbeats 4000000 in
theorem own_lsame (l : Launch) (Z : State) (a0 : Array Value) (hw : ∀ d ∈ tables_1, d.before a0 Z = true) (ws : List Jvm.Cond) (a b : Addr) (ka kb : ClassId) (l1 : List Int32) (h0 : Heap) (n0 : Nat) (O0 : Old Z n0 h0) (VA : Arv Z h0 a ka .byte (own_len l1) (l1.map Value.int) (.int (0 : Int32))) (VB : Arv Z h0 b kb .byte (own_len l1) (l1.map Value.int) (.int (0 : Int32))) (g1 : l1.length ≤ 3 ∨ l1 = own_P9 ∨ l1 = own_S9) :
    MetFree l (⟨"java/lang/StringLatin1", "equals", "([B[B)Z"⟩ : MethodName) (head1 (Jvm.Cond.code (⟨"java/lang/StringLatin1", "equals", "([B[B)Z"⟩ : MethodName) jdk_43_method_13_code 3 (some .boolean) :: ws) ({ frames := 0, cells := 0, slots := 0, locals := 0 } : Room)) (fun args_ U => args_ = #[(.ref a), (.ref b)] ∧ Z.Warmed39 U.vm ∧ U.heap = h0) (fun _ _ _ _ _ => True) (fun _ U o U' => ∃ v L, o = .returned v ∧ (own_Q_r (1 : Int32) h0 n0) v U'.heap L ∧ FrameEnd U o U' L ({ frames := 0, cells := 0, slots := 0, locals := 0 } : Room).cells ({ frames := 0, cells := 0, slots := 0, locals := 0 } : Room).slots) := by
  rcases g1 with g | rfl | rfl
  · rcases own_le3 g with rfl | ⟨x0, rfl⟩ | ⟨x0, x1, rfl⟩ | ⟨x0, x1, x2, rfl⟩
    · exact own_ls0 l Z a0 hw ws a b ka kb  h0 n0 O0 VA VB
    · rw [own_len1 x0] at VA VB; exact own_ls1 l Z a0 hw ws a b ka kb x0 h0 n0 O0 VA VB
    · rw [own_len2 x0 x1] at VA VB; exact own_ls2 l Z a0 hw ws a b ka kb x0 x1 h0 n0 O0 VA VB
    · rw [own_len3 x0 x1 x2] at VA VB; exact own_ls3 l Z a0 hw ws a b ka kb x0 x1 x2 h0 n0 O0 VA VB
  · rw [own_lenP] at VA VB; exact own_ls9 l Z a0 hw ws a b ka kb (112 : Int32) (114 : Int32) (111 : Int32) (116 : Int32) (111 : Int32) (116 : Int32) (121 : Int32) (112 : Int32) (101 : Int32) h0 n0 O0 VA VB
  · rw [own_lenS] at VA VB; exact own_ls9 l Z a0 hw ws a b ka kb (115 : Int32) (105 : Int32) (110 : Int32) (103 : Int32) (108 : Int32) (101 : Int32) (116 : Int32) (111 : Int32) (110 : Int32) h0 n0 O0 VA VB
theorem own_d15_34 : decode jdk_43_method_13_code 34 = .ok (.iconst 0, 1) := by decide +kernel
theorem own_d15_35 : decode jdk_43_method_13_code 35 = .ok (.ireturn, 1) := by decide +kernel
set_option maxRecDepth 65536 in
set_option maxHeartbeats 40000000 in
theorem own_leqn (l : Launch) (Z : State) (a0 : Array Value) (hw : ∀ d ∈ tables_1, d.before a0 Z = true) (ws : List Jvm.Cond) (a : Addr) (b : Addr) (ka : ClassId) (kb : ClassId) (l1 : List Int32) (l2 : List Int32) (h0 : Heap) (n0 : Nat) (O0 : Old Z n0 h0) (VA : Arv Z h0 a ka .byte (own_len l1) (l1.map Value.int) (.int (0 : Int32))) (VB : Arv Z h0 b kb .byte (own_len l2) (l2.map Value.int) (.int (0 : Int32))) (hz : ¬ own_len l1 = own_len l2) :
    MetFree l (⟨"java/lang/StringLatin1", "equals", "([B[B)Z"⟩ : MethodName) (head1 (Jvm.Cond.code (⟨"java/lang/StringLatin1", "equals", "([B[B)Z"⟩ : MethodName) jdk_43_method_13_code 3 (some .boolean) :: ws) ({ frames := 0, cells := 0, slots := 0, locals := 0 } : Room)) (fun args_ U => args_ = #[(.ref a), (.ref b)] ∧ Z.Warmed39 U.vm ∧ U.heap = h0) (fun _ _ _ _ _ => True) (fun _ U o U' => ∃ v L, o = .returned v ∧ (own_Q_r (0 : Int32) h0 n0) v U'.heap L ∧ FrameEnd U o U' L ({ frames := 0, cells := 0, slots := 0, locals := 0 } : Room).cells ({ frames := 0, cells := 0, slots := 0, locals := 0 } : Room).slots) := by
  refine MetFree.of_bodySF (plainFor_of_name own_pn0) hisR ?_
  intro p e s m args below meth c s₁ Bd hml0 hP hK
  obtain ⟨rfl, hZ, hh⟩ := hP
  have hx := Bd.exec
  have hby := Bd.bytes
  have hml : c.maxLocals = 3 := hml0
  have hown : s.vm.findClass "java/lang/StringLatin1" = some m.cls := findClass_of_methodNamed Bd.named
  have hnm := (name_of_methodNamed Bd.named Bd.method).1
  have X0 : Stand p l e ({ frames := 0, cells := 0, slots := 0, locals := 0 } : Room) s m #[(.ref a), (.ref b)] below meth c s₁ [] 0 0 := Stand.of_body Bd
  have e0 : s₁.heap = h0 := by rw [← hh, Bd.state]; rfl
  have N0 := Fr.nil n0
  refine own_close (s := s) (Q := (own_Q_r (0 : Int32) h0 n0)) (C := (({ frames := 0, cells := 0, slots := 0, locals := 0 } : Room)).cells) (N := (({ frames := 0, cells := 0, slots := 0, locals := 0 } : Room)).slots) (own_st (fun _ kt => castTop (own_ef15 m a b) kt) ?_)
  show own_Rch p e below _ s₁ (mkF m 0 #[.val (.ref a), .val (.ref b), .unset] [])
  refine own_st (fun _ kt => XS.aloadN X0.here hx rfl (hb hby own_d15_0) rfl rfl  kt) ?_
  show own_Rch p e below _ s₁ (mkF m 1 #[.val (.ref a), .val (.ref b), .unset] [(.ref a)])
  obtain ⟨cl1, Ar1, -, S1, M1, -, -⟩ := id VA
  refine own_st (X0.arraylength hx (by rw [e0]; exact Ar1.1) (State.isArrayOf_alike (hZ).alike Ar1.2.1) (g := (mkF m 1 #[.val (.ref a), .val (.ref b), .unset] [(.ref a)])) rfl rfl (hb hby own_d15_1)) ?_
  rw [len_of S1 M1]
  show own_Rch p e below _ s₁ (mkF m 2 #[.val (.ref a), .val (.ref b), .unset] [(.int (own_len l1))])
  refine own_st (fun _ kt => XS.aloadN X0.here hx rfl (hb hby own_d15_2) rfl rfl  kt) ?_
  show own_Rch p e below _ s₁ (mkF m 3 #[.val (.ref a), .val (.ref b), .unset] [(.ref b), (.int (own_len l1))])
  obtain ⟨cl2, Ar2, -, S2, M2, -, -⟩ := id VB
  refine own_st (X0.arraylength hx (by rw [e0]; exact Ar2.1) (State.isArrayOf_alike (hZ).alike Ar2.2.1) (g := (mkF m 3 #[.val (.ref a), .val (.ref b), .unset] [(.ref b), (.int (own_len l1))])) rfl rfl (hb hby own_d15_3)) ?_
  rw [len_of S2 M2]
  show own_Rch p e below _ s₁ (mkF m 4 #[.val (.ref a), .val (.ref b), .unset] [(.int (own_len l2)), (.int (own_len l1))])
  refine own_st (fun _ kt => XS.icmpYes X0.here hx rfl (pc0 := 4) (pc' := 34) rfl (hb hby own_d15_4) rfl (feq (hz : ¬ ((own_len l1) = (own_len l2)))).2 (by decide) (by decide) kt) ?_
  show own_Rch p e below _ s₁ (mkF m 34 #[.val (.ref a), .val (.ref b), .unset] [])
  refine own_st (fun _ kt => XS.iconst X0.here hx rfl (hb hby own_d15_34) kt) ?_
  show own_Rch p e below _ s₁ (mkF m 35 #[.val (.ref a), .val (.ref b), .unset] [(.int (0 : Int32))])
  refine own_retN (t := .boolean) (by simp) X0 hx Bd.notSynchronized Bd.returns (hb hby own_d15_35) (by decide) (by decide) ?_
  rw [e0]
  exact ⟨rfl, N0, rfl⟩
theorem own_d15_24 : decode jdk_43_method_13_code 24 = .ok (.iconst 0, 1) := by decide +kernel
theorem own_d15_25 : decode jdk_43_method_13_code 25 = .ok (.ireturn, 1) := by decide +kernel
set_option maxRecDepth 65536 in
set_option maxHeartbeats 40000000 in
theorem own_leqsp (l : Launch) (Z : State) (a0 : Array Value) (hw : ∀ d ∈ tables_1, d.before a0 Z = true) (ws : List Jvm.Cond) (a : Addr) (b : Addr) (ka : ClassId) (kb : ClassId) (h0 : Heap) (n0 : Nat) (O0 : Old Z n0 h0) (VA : Arv Z h0 a ka .byte (9 : Int32) [(.int (115 : Int32)), (.int (105 : Int32)), (.int (110 : Int32)), (.int (103 : Int32)), (.int (108 : Int32)), (.int (101 : Int32)), (.int (116 : Int32)), (.int (111 : Int32)), (.int (110 : Int32))] (.int (0 : Int32))) (VB : Arv Z h0 b kb .byte (9 : Int32) [(.int (112 : Int32)), (.int (114 : Int32)), (.int (111 : Int32)), (.int (116 : Int32)), (.int (111 : Int32)), (.int (116 : Int32)), (.int (121 : Int32)), (.int (112 : Int32)), (.int (101 : Int32))] (.int (0 : Int32))) :
    MetFree l (⟨"java/lang/StringLatin1", "equals", "([B[B)Z"⟩ : MethodName) (head1 (Jvm.Cond.code (⟨"java/lang/StringLatin1", "equals", "([B[B)Z"⟩ : MethodName) jdk_43_method_13_code 3 (some .boolean) :: ws) ({ frames := 0, cells := 0, slots := 0, locals := 0 } : Room)) (fun args_ U => args_ = #[(.ref a), (.ref b)] ∧ Z.Warmed39 U.vm ∧ U.heap = h0) (fun _ _ _ _ _ => True) (fun _ U o U' => ∃ v L, o = .returned v ∧ (own_Q_r (0 : Int32) h0 n0) v U'.heap L ∧ FrameEnd U o U' L ({ frames := 0, cells := 0, slots := 0, locals := 0 } : Room).cells ({ frames := 0, cells := 0, slots := 0, locals := 0 } : Room).slots) := by
  refine MetFree.of_bodySF (plainFor_of_name own_pn0) hisR ?_
  intro p e s m args below meth c s₁ Bd hml0 hP hK
  obtain ⟨rfl, hZ, hh⟩ := hP
  have hx := Bd.exec
  have hby := Bd.bytes
  have hml : c.maxLocals = 3 := hml0
  have hown : s.vm.findClass "java/lang/StringLatin1" = some m.cls := findClass_of_methodNamed Bd.named
  have hnm := (name_of_methodNamed Bd.named Bd.method).1
  have X0 : Stand p l e ({ frames := 0, cells := 0, slots := 0, locals := 0 } : Room) s m #[(.ref a), (.ref b)] below meth c s₁ [] 0 0 := Stand.of_body Bd
  have e0 : s₁.heap = h0 := by rw [← hh, Bd.state]; rfl
  have N0 := Fr.nil n0
  refine own_close (s := s) (Q := (own_Q_r (0 : Int32) h0 n0)) (C := (({ frames := 0, cells := 0, slots := 0, locals := 0 } : Room)).cells) (N := (({ frames := 0, cells := 0, slots := 0, locals := 0 } : Room)).slots) (own_st (fun _ kt => castTop (own_ef15 m a b) kt) ?_)
  show own_Rch p e below _ s₁ (mkF m 0 #[.val (.ref a), .val (.ref b), .unset] [])
  refine own_st (fun _ kt => XS.aloadN X0.here hx rfl (hb hby own_d15_0) rfl rfl  kt) ?_
  show own_Rch p e below _ s₁ (mkF m 1 #[.val (.ref a), .val (.ref b), .unset] [(.ref a)])
  obtain ⟨cl1, Ar1, -, S1, M1, -, -⟩ := id VA
  refine own_st (X0.arraylength hx (by rw [e0]; exact Ar1.1) (State.isArrayOf_alike (hZ).alike Ar1.2.1) (g := (mkF m 1 #[.val (.ref a), .val (.ref b), .unset] [(.ref a)])) rfl rfl (hb hby own_d15_1)) ?_
  rw [len_of S1 M1]
  show own_Rch p e below _ s₁ (mkF m 2 #[.val (.ref a), .val (.ref b), .unset] [(.int (9 : Int32))])
  refine own_st (fun _ kt => XS.aloadN X0.here hx rfl (hb hby own_d15_2) rfl rfl  kt) ?_
  show own_Rch p e below _ s₁ (mkF m 3 #[.val (.ref a), .val (.ref b), .unset] [(.ref b), (.int (9 : Int32))])
  obtain ⟨cl2, Ar2, -, S2, M2, -, -⟩ := id VB
  refine own_st (X0.arraylength hx (by rw [e0]; exact Ar2.1) (State.isArrayOf_alike (hZ).alike Ar2.2.1) (g := (mkF m 3 #[.val (.ref a), .val (.ref b), .unset] [(.ref b), (.int (9 : Int32))])) rfl rfl (hb hby own_d15_3)) ?_
  rw [len_of S2 M2]
  show own_Rch p e below _ s₁ (mkF m 4 #[.val (.ref a), .val (.ref b), .unset] [(.int (9 : Int32)), (.int (9 : Int32))])
  refine own_st (fun _ kt => XS.icmpNo X0.here hx rfl (hb hby own_d15_4) rfl (teq (rfl : (9 : Int32) = (9 : Int32))).2 kt) ?_
  show own_Rch p e below _ s₁ (mkF m 7 #[.val (.ref a), .val (.ref b), .unset] [])
  refine own_st (fun _ kt => XS.iconst X0.here hx rfl (hb hby own_d15_7) kt) ?_
  show own_Rch p e below _ s₁ (mkF m 8 #[.val (.ref a), .val (.ref b), .unset] [(.int (0 : Int32))])
  refine own_st (fun _ kt => XS.istoreN X0.here hx rfl (hb hby own_d15_8) rfl (l' := #[.val (.ref a), .val (.ref b), .val (.int (0 : Int32))]) rfl kt) ?_
  show own_Rch p e below _ s₁ (mkF m 9 #[.val (.ref a), .val (.ref b), .val (.int (0 : Int32))] [])
  refine own_st (fun _ kt => XS.iloadN X0.here hx rfl (hb hby own_d15_9) rfl  kt) ?_
  show own_Rch p e below _ s₁ (mkF m 10 #[.val (.ref a), .val (.ref b), .val (.int (0 : Int32))] [(.int (0 : Int32))])
  refine own_st (fun _ kt => XS.aloadN X0.here hx rfl (hb hby own_d15_10) rfl rfl  kt) ?_
  show own_Rch p e below _ s₁ (mkF m 11 #[.val (.ref a), .val (.ref b), .val (.int (0 : Int32))] [(.ref a), (.int (0 : Int32))])
  obtain ⟨cl3, Ar3, -, S3, M3, -, -⟩ := id VA
  refine own_st (X0.arraylength hx (by rw [e0]; exact Ar3.1) (State.isArrayOf_alike (hZ).alike Ar3.2.1) (g := (mkF m 11 #[.val (.ref a), .val (.ref b), .val (.int (0 : Int32))] [(.ref a), (.int (0 : Int32))])) rfl rfl (hb hby own_d15_11)) ?_
  rw [len_of S3 M3]
  show own_Rch p e below _ s₁ (mkF m 12 #[.val (.ref a), .val (.ref b), .val (.int (0 : Int32))] [(.int (9 : Int32)), (.int (0 : Int32))])
  refine own_st (fun _ kt => XS.icmpNo X0.here hx rfl (hb hby own_d15_12) rfl (tlt ((by decide) : (0 : Int32) < (9 : Int32))).2.1 kt) ?_
  show own_Rch p e below _ s₁ (mkF m 15 #[.val (.ref a), .val (.ref b), .val (.int (0 : Int32))] [])
  refine own_st (fun _ kt => XS.aloadN X0.here hx rfl (hb hby own_d15_15) rfl rfl  kt) ?_
  show own_Rch p e below _ s₁ (mkF m 16 #[.val (.ref a), .val (.ref b), .val (.int (0 : Int32))] [(.ref a)])
  refine own_st (fun _ kt => XS.iloadN X0.here hx rfl (hb hby own_d15_16) rfl  kt) ?_
  show own_Rch p e below _ s₁ (mkF m 17 #[.val (.ref a), .val (.ref b), .val (.int (0 : Int32))] [(.int (0 : Int32)), (.ref a)])
  obtain ⟨cl4, Ar4, q4, S4, M4, H4, G4⟩ := id VA
  have hin4 : ¬ ((0 : Int32) < 0 ∨ cl4.slots.size ≤ ((0 : Int32)).toNatClampNeg) := inb_of S4 ⟨by decide, by decide⟩
  refine own_st (X0.baloadBytes hx (j := (0 : Int32)) (v := (.int (115 : Int32))) (by rw [e0]; exact Ar4.1) (State.isArrayOf_alike (hZ).alike Ar4.2.1) Ar4.2.2 hin4 (H4.at hin4 rfl) (g := (mkF m 17 #[.val (.ref a), .val (.ref b), .val (.int (0 : Int32))] [(.int (0 : Int32)), (.ref a)])) rfl rfl (hb hby own_d15_17)) ?_
  show own_Rch p e below _ s₁ (mkF m 18 #[.val (.ref a), .val (.ref b), .val (.int (0 : Int32))] [(.int (115 : Int32))])
  refine own_st (fun _ kt => XS.aloadN X0.here hx rfl (hb hby own_d15_18) rfl rfl  kt) ?_
  show own_Rch p e below _ s₁ (mkF m 19 #[.val (.ref a), .val (.ref b), .val (.int (0 : Int32))] [(.ref b), (.int (115 : Int32))])
  refine own_st (fun _ kt => XS.iloadN X0.here hx rfl (hb hby own_d15_19) rfl  kt) ?_
  show own_Rch p e below _ s₁ (mkF m 20 #[.val (.ref a), .val (.ref b), .val (.int (0 : Int32))] [(.int (0 : Int32)), (.ref b), (.int (115 : Int32))])
  obtain ⟨cl5, Ar5, q5, S5, M5, H5, G5⟩ := id VB
  have hin5 : ¬ ((0 : Int32) < 0 ∨ cl5.slots.size ≤ ((0 : Int32)).toNatClampNeg) := inb_of S5 ⟨by decide, by decide⟩
  refine own_st (X0.baloadBytes hx (j := (0 : Int32)) (v := (.int (112 : Int32))) (by rw [e0]; exact Ar5.1) (State.isArrayOf_alike (hZ).alike Ar5.2.1) Ar5.2.2 hin5 (H5.at hin5 rfl) (g := (mkF m 20 #[.val (.ref a), .val (.ref b), .val (.int (0 : Int32))] [(.int (0 : Int32)), (.ref b), (.int (115 : Int32))])) rfl rfl (hb hby own_d15_20)) ?_
  show own_Rch p e below _ s₁ (mkF m 21 #[.val (.ref a), .val (.ref b), .val (.int (0 : Int32))] [(.int (112 : Int32)), (.int (115 : Int32))])
  refine own_st (fun _ kt => XS.icmpNo X0.here hx rfl (hb hby own_d15_21) rfl (feq ((by decide) : ¬ ((115 : Int32) = (112 : Int32)))).1 kt) ?_
  show own_Rch p e below _ s₁ (mkF m 24 #[.val (.ref a), .val (.ref b), .val (.int (0 : Int32))] [])
  refine own_st (fun _ kt => XS.iconst X0.here hx rfl (hb hby own_d15_24) kt) ?_
  show own_Rch p e below _ s₁ (mkF m 25 #[.val (.ref a), .val (.ref b), .val (.int (0 : Int32))] [(.int (0 : Int32))])
  refine own_retN (t := .boolean) (by simp) X0 hx Bd.notSynchronized Bd.returns (hb hby own_d15_25) (by decide) (by decide) ?_
  rw [e0]
  exact ⟨rfl, N0, rfl⟩
theorem own_pn1 : plainName "java/lang/String" = true := by first | (simp [plainName, overriddenIn]; done) | decide +kernel
theorem own_ef11 (m : MethodId) (x0 : Addr) (x1 : Addr) : entryFrame m #[(.ref x0), (.ref x1)] 3 = mkF m 0 #[.val (.ref x0), .val (.ref x1), .unset] [] := by first | (simp [entryFrame, mkF, argsToLocals, Value.category]; done) | rfl
theorem own_d11_0 : decode jdk_42_method_66_code 0 = .ok (.aload_n 0, 1) := by decide +kernel
theorem own_d11_1 : decode jdk_42_method_66_code 1 = .ok (.aload_n 1, 1) := by decide +kernel
theorem own_d11_2 : decode jdk_42_method_66_code 2 = .ok (.if_acmp .ne 5, 3) := by decide +kernel
theorem own_d11_5 : decode jdk_42_method_66_code 5 = .ok (.iconst 1, 1) := by decide +kernel
theorem own_d11_6 : decode jdk_42_method_66_code 6 = .ok (.ireturn, 1) := by decide +kernel
theorem own_d11_7 : decode jdk_42_method_66_code 7 = .ok (.aload_n 1, 1) := by decide +kernel
theorem own_d11_8 : decode jdk_42_method_66_code 8 = .ok (.instanceof 10, 3) := by decide +kernel
theorem own_d11_11 : decode jdk_42_method_66_code 11 = .ok (.ifCond .eq 43, 3) := by decide +kernel
theorem own_d11_14 : decode jdk_42_method_66_code 14 = .ok (.aload_n 1, 1) := by decide +kernel
theorem own_d11_15 : decode jdk_42_method_66_code 15 = .ok (.checkcast 10, 3) := by decide +kernel
theorem own_d11_18 : decode jdk_42_method_66_code 18 = .ok (.astore_n 2, 1) := by decide +kernel
theorem own_d11_19 : decode jdk_42_method_66_code 19 = .ok (.getstatic 38, 3) := by decide +kernel
theorem own_d11_22 : decode jdk_42_method_66_code 22 = .ok (.ifCond .eq 14, 3) := by decide +kernel
theorem own_d11_25 : decode jdk_42_method_66_code 25 = .ok (.aload_n 0, 1) := by decide +kernel
theorem own_d11_26 : decode jdk_42_method_66_code 26 = .ok (.getfield 15, 3) := by decide +kernel
theorem own_d11_29 : decode jdk_42_method_66_code 29 = .ok (.aload_n 2, 1) := by decide +kernel
theorem own_d11_30 : decode jdk_42_method_66_code 30 = .ok (.getfield 15, 3) := by decide +kernel
theorem own_d11_33 : decode jdk_42_method_66_code 33 = .ok (.if_icmp .ne 21, 3) := by decide +kernel
theorem own_d11_36 : decode jdk_42_method_66_code 36 = .ok (.aload_n 0, 1) := by decide +kernel
theorem own_d11_37 : decode jdk_42_method_66_code 37 = .ok (.getfield 9, 3) := by decide +kernel
theorem own_d11_40 : decode jdk_42_method_66_code 40 = .ok (.aload_n 2, 1) := by decide +kernel
theorem own_d11_41 : decode jdk_42_method_66_code 41 = .ok (.getfield 9, 3) := by decide +kernel
theorem own_d11_44 : decode jdk_42_method_66_code 44 = .ok (.invokestatic 541, 3) := by decide +kernel
theorem own_pd0 : parseMethodDescriptor "([B[B)Z" = some ⟨[(.array .byte), (.array .byte)], some .boolean⟩ := by decide +kernel
theorem own_d11_47 : decode jdk_42_method_66_code 47 = .ok (.ifCond .eq 7, 3) := by decide +kernel
theorem own_d11_50 : decode jdk_42_method_66_code 50 = .ok (.iconst 1, 1) := by decide +kernel
theorem own_d11_51 : decode jdk_42_method_66_code 51 = .ok (.goto 4, 3) := by decide +kernel
theorem own_d11_55 : decode jdk_42_method_66_code 55 = .ok (.ireturn, 1) := by decide +kernel
set_option maxRecDepth 65536 in
set_option maxHeartbeats 40000000 in
theorem own_eqT (l : Launch) (Z : State) (a0 : Array Value) (hw : ∀ d ∈ tables_1, d.before a0 Z = true) (ws : List Jvm.Cond) (a : Addr) (b : Addr) (l1 : List Int32) (cs : Int32) (h0 : Heap) (n0 : Nat) (O0 : Old Z n0 h0) (SC : Sta Z Z.heap "java/lang/String" "COMPACT_STRINGS" "Z" (.int cs)) (hcs : ¬ cs = 0) (S1 : own_Str Z h0 a l1) (S2 : own_Str Z h0 b l1) (g1 : l1.length ≤ 3 ∨ l1 = own_P9 ∨ l1 = own_S9) :
    MetFree l (⟨"java/lang/String", "equals", "(Ljava/lang/Object;)Z"⟩ : MethodName) (head1 (Jvm.Cond.code (⟨"java/lang/String", "equals", "(Ljava/lang/Object;)Z"⟩ : MethodName) jdk_42_method_66_code 3 (some .boolean) :: ws) ({ frames := 1, cells := 0, slots := 0, locals := 14 } : Room)) (fun args_ U => args_ = #[(.ref a), (.ref b)] ∧ Z.Warmed39 U.vm ∧ U.heap = h0) (fun _ _ _ _ _ => True) (fun _ U o U' => ∃ v L, o = .returned v ∧ (own_Q_r (1 : Int32) h0 n0) v U'.heap L ∧ FrameEnd U o U' L ({ frames := 1, cells := 0, slots := 0, locals := 14 } : Room).cells ({ frames := 1, cells := 0, slots := 0, locals := 14 } : Room).slots) := by
  refine MetFree.of_bodySF (plainFor_of_name own_pn1) hisR ?_
  intro p e s m args below meth c s₁ Bd hml0 hP hK
  obtain ⟨rfl, hZ, hh⟩ := hP
  have hx := Bd.exec
  have hby := Bd.bytes
  have hml : c.maxLocals = 3 := hml0
  have hown : s.vm.findClass "java/lang/String" = some m.cls := findClass_of_methodNamed Bd.named
  have hnm := (name_of_methodNamed Bd.named Bd.method).1
  have X0 : Stand p l e ({ frames := 1, cells := 0, slots := 0, locals := 14 } : Room) s m #[(.ref a), (.ref b)] below meth c s₁ [] 0 0 := Stand.of_body Bd
  have e0 : s₁.heap = h0 := by rw [← hh, Bd.state]; rfl
  have N0 := Fr.nil n0
  obtain ⟨y1, k1a, Ez1, Fz1, Gz1, Vz1⟩ := S1
  obtain ⟨y2, k2a, Ez2, Fz2, Gz2, Vz2⟩ := S2
  refine own_close (s := s) (Q := (own_Q_r (1 : Int32) h0 n0)) (C := (({ frames := 1, cells := 0, slots := 0, locals := 14 } : Room)).cells) (N := (({ frames := 1, cells := 0, slots := 0, locals := 14 } : Room)).slots) (own_st (fun _ kt => castTop (own_ef11 m a b) kt) ?_)
  show own_Rch p e below _ s₁ (mkF m 0 #[.val (.ref a), .val (.ref b), .unset] [])
  refine own_st (fun _ kt => XS.aloadN X0.here hx rfl (hb hby own_d11_0) rfl rfl  kt) ?_
  show own_Rch p e below _ s₁ (mkF m 1 #[.val (.ref a), .val (.ref b), .unset] [(.ref a)])
  refine own_st (fun _ kt => XS.aloadN X0.here hx rfl (hb hby own_d11_1) rfl rfl  kt) ?_
  show own_Rch p e below _ s₁ (mkF m 2 #[.val (.ref a), .val (.ref b), .unset] [(.ref b), (.ref a)])
  by_cases ha2_1 : a = b
  · -- pc 2: True
    refine own_st (fun _ kt => Jvm.RoadKit.acmp (g := (mkF m 2 #[.val (.ref a), .val (.ref b), .unset] [(.ref b), (.ref a)])) X0 hx rfl rfl rfl (pc0 := 2) (pc' := 5) (same := true) rfl (hb hby own_d11_2) rfl (decide_eq_true (congrArg Value.ref ha2_1)) (by decide) (by decide) kt) ?_
    show own_Rch p e below _ s₁ (mkF m 5 #[.val (.ref a), .val (.ref b), .unset] [])
    refine own_st (fun _ kt => XS.iconst X0.here hx rfl (hb hby own_d11_5) kt) ?_
    show own_Rch p e below _ s₁ (mkF m 6 #[.val (.ref a), .val (.ref b), .unset] [(.int (1 : Int32))])
    refine own_retN (t := .boolean) (by simp) X0 hx Bd.notSynchronized Bd.returns (hb hby own_d11_6) (by decide) (by decide) ?_
    rw [e0]
    exact ⟨rfl, N0, rfl⟩
  · -- pc 2: False
    refine own_st (fun _ kt => Jvm.RoadKit.acmp (g := (mkF m 2 #[.val (.ref a), .val (.ref b), .unset] [(.ref b), (.ref a)])) X0 hx rfl rfl rfl (pc0 := 2) (pc' := 7) (same := false) rfl (hb hby own_d11_2) rfl (decide_eq_false fun q => ha2_1 (Value.ref.inj q)) (by decide) (by decide) kt) ?_
    show own_Rch p e below _ s₁ (mkF m 7 #[.val (.ref a), .val (.ref b), .unset] [])
    refine own_st (fun _ kt => XS.aloadN X0.here hx rfl (hb hby own_d11_7) rfl rfl  kt) ?_
    show own_Rch p e below _ s₁ (mkF m 8 #[.val (.ref a), .val (.ref b), .unset] [(.ref b)])
    obtain ⟨T2, X2, e2, st2⟩ := instY X0 hx hZ hown (hw _ (List.mem_of_getElem? (i := 92) rfl)) e0 (Ins.self Ez2) (g := (mkF m 8 #[.val (.ref a), .val (.ref b), .unset] [(.ref b)])) rfl rfl (hb hby own_d11_8)
    refine own_st st2 ?_
    show own_Rch p e below _ T2 (mkF m 11 #[.val (.ref a), .val (.ref b), .unset] [(.int (1 : Int32))])
    refine own_st (fun _ kt => XS.ifNo X2.here hx rfl (hb hby own_d11_11) rfl ((if0 _ _).trans (feq ((by decide) : ¬ ((1 : Int32) = (0 : Int32)))).1) kt) ?_
    show own_Rch p e below _ T2 (mkF m 14 #[.val (.ref a), .val (.ref b), .unset] [])
    refine own_st (fun _ kt => XS.aloadN X2.here hx rfl (hb hby own_d11_14) rfl rfl  kt) ?_
    show own_Rch p e below _ T2 (mkF m 15 #[.val (.ref a), .val (.ref b), .unset] [(.ref b)])
    obtain ⟨T3, X3, e3, st3⟩ := castY X2 hx hZ hown (hw _ (List.mem_of_getElem? (i := 92) rfl)) e2 (Ins.self Ez2) (g := (mkF m 15 #[.val (.ref a), .val (.ref b), .unset] [(.ref b)])) rfl rfl (hb hby own_d11_15)
    refine own_st st3 ?_
    show own_Rch p e below _ T3 (mkF m 18 #[.val (.ref a), .val (.ref b), .unset] [(.ref b)])
    refine own_st (fun _ kt => XS.astoreN X3.here hx rfl (hb hby own_d11_18) rfl rfl (l' := #[.val (.ref a), .val (.ref b), .val (.ref b)]) rfl kt) ?_
    show own_Rch p e below _ T3 (mkF m 19 #[.val (.ref a), .val (.ref b), .val (.ref b)] [])
    obtain ⟨T4, X4, e4, st4⟩ := getS2 X3 hx hZ hown (host := "") (Or.inl (hw _ (List.mem_of_getElem? (i := 21) rfl))) Via.refl e3 (SC.ext O0.2) (g := (mkF m 19 #[.val (.ref a), .val (.ref b), .val (.ref b)] [])) rfl (hb hby own_d11_19)
    refine own_st st4 ?_
    show own_Rch p e below _ T4 (mkF m 22 #[.val (.ref a), .val (.ref b), .val (.ref b)] [(.int cs)])
    refine own_st (fun _ kt => XS.ifNo X4.here hx rfl (hb hby own_d11_22) rfl ((if0 _ _).trans (feq (hcs : ¬ (cs = (0 : Int32)))).1) kt) ?_
    show own_Rch p e below _ T4 (mkF m 25 #[.val (.ref a), .val (.ref b), .val (.ref b)] [])
    refine own_st (fun _ kt => XS.aloadN X4.here hx rfl (hb hby own_d11_25) rfl rfl  kt) ?_
    show own_Rch p e below _ T4 (mkF m 26 #[.val (.ref a), .val (.ref b), .val (.ref b)] [(.ref a)])
    obtain ⟨T5, X5, e5, st5⟩ := getF X4 hx hZ hown (host := "") (Or.inl (hw _ (List.mem_of_getElem? (i := 33) rfl))) Via.refl e4 Gz1 (g := (mkF m 26 #[.val (.ref a), .val (.ref b), .val (.ref b)] [(.ref a)])) rfl rfl (hb hby own_d11_26)
    refine own_st st5 ?_
    show own_Rch p e below _ T5 (mkF m 29 #[.val (.ref a), .val (.ref b), .val (.ref b)] [(.int (0 : Int32))])
    refine own_st (fun _ kt => XS.aloadN X5.here hx rfl (hb hby own_d11_29) rfl rfl  kt) ?_
    show own_Rch p e below _ T5 (mkF m 30 #[.val (.ref a), .val (.ref b), .val (.ref b)] [(.ref b), (.int (0 : Int32))])
    obtain ⟨T6, X6, e6, st6⟩ := getF X5 hx hZ hown (host := "") (Or.inl (hw _ (List.mem_of_getElem? (i := 33) rfl))) Via.refl e5 Gz2 (g := (mkF m 30 #[.val (.ref a), .val (.ref b), .val (.ref b)] [(.ref b), (.int (0 : Int32))])) rfl rfl (hb hby own_d11_30)
    refine own_st st6 ?_
    show own_Rch p e below _ T6 (mkF m 33 #[.val (.ref a), .val (.ref b), .val (.ref b)] [(.int (0 : Int32)), (.int (0 : Int32))])
    refine own_st (fun _ kt => XS.icmpNo X6.here hx rfl (hb hby own_d11_33) rfl (teq (rfl : (0 : Int32) = (0 : Int32))).2 kt) ?_
    show own_Rch p e below _ T6 (mkF m 36 #[.val (.ref a), .val (.ref b), .val (.ref b)] [])
    refine own_st (fun _ kt => XS.aloadN X6.here hx rfl (hb hby own_d11_36) rfl rfl  kt) ?_
    show own_Rch p e below _ T6 (mkF m 37 #[.val (.ref a), .val (.ref b), .val (.ref b)] [(.ref a)])
    obtain ⟨T7, X7, e7, st7⟩ := getF X6 hx hZ hown (host := "") (Or.inl (hw _ (List.mem_of_getElem? (i := 35) rfl))) Via.refl e6 Fz1 (g := (mkF m 37 #[.val (.ref a), .val (.ref b), .val (.ref b)] [(.ref a)])) rfl rfl (hb hby own_d11_37)
    refine own_st st7 ?_
    show own_Rch p e below _ T7 (mkF m 40 #[.val (.ref a), .val (.ref b), .val (.ref b)] [(.ref y1)])
    refine own_st (fun _ kt => XS.aloadN X7.here hx rfl (hb hby own_d11_40) rfl rfl  kt) ?_
    show own_Rch p e below _ T7 (mkF m 41 #[.val (.ref a), .val (.ref b), .val (.ref b)] [(.ref b), (.ref y1)])
    obtain ⟨T8, X8, e8, st8⟩ := getF X7 hx hZ hown (host := "") (Or.inl (hw _ (List.mem_of_getElem? (i := 35) rfl))) Via.refl e7 Fz2 (g := (mkF m 41 #[.val (.ref a), .val (.ref b), .val (.ref b)] [(.ref b), (.ref y1)])) rfl rfl (hb hby own_d11_41)
    refine own_st st8 ?_
    show own_Rch p e below _ T8 (mkF m 44 #[.val (.ref a), .val (.ref b), .val (.ref b)] [(.ref y2), (.ref y1)])
    obtain ⟨_, _, ⟨T9, L9, k9, n9⟩, -, X9, ⟨Lc9, hQ9, l9, y9, z9⟩, st9⟩ := Jvm.LawKit.callS X8 hx (y := (⟨"java/lang/StringLatin1", "equals", "([B[B)Z"⟩ : MethodName)) hown (mvT hZ (hw _ (List.mem_of_getElem? (i := 93) rfl))) (mvT hZ (hw _ (List.mem_of_getElem? (i := 94) rfl))) (mvT hZ (hw _ (List.mem_of_getElem? (i := 95) rfl))) (mvT hZ (hw _ (List.mem_of_getElem? (i := 96) rfl))) (by decide) (backOf (W := 0) (own_lsame l Z a0 hw [] y1 y2 k1a k2a l1 h0 n0 O0 Vz1 Vz2 g1) hZ (hw _ (List.mem_of_getElem? (i := 96) rfl)) (hw _ (List.mem_of_getElem? (i := 95) rfl)) (by decide) (by decide)) (g := (mkF m 44 #[.val (.ref a), .val (.ref b), .val (.ref b)] [(.ref y2), (.ref y1)])) rfl (by rw [hml]; rfl) (argsL := [(.ref y1), (.ref y2)]) (rest := []) (lenOf own_pd0 rfl) rfl (by show 2 * 0 + _ ≤ _; exact Nat.le_of_eq rfl) (hb hby own_d11_44) (fun _ _ => ⟨rfl, e8, (by decide : 0 + 0 ≤ _), (by decide : 0 + 0 ≤ _)⟩)
    dsimp only [Pt.U, Pt.locs, Pt.cells, Pt.slots] at X9 l9 y9 z9 st9 hQ9
    subst l9 y9 z9
    obtain ⟨rfl, N9q, hh9⟩ := hQ9
    have N9 := Fr.app N0 N9q
    refine own_st st9 ?_
    show own_Rch p e below _ T9 (mkF m 47 #[.val (.ref a), .val (.ref b), .val (.ref b)] [(.int (1 : Int32))])
    refine own_st (fun _ kt => XS.ifNo X9.here hx rfl (hb hby own_d11_47) rfl ((if0 _ _).trans (feq ((by decide) : ¬ ((1 : Int32) = (0 : Int32)))).1) kt) ?_
    show own_Rch p e below _ T9 (mkF m 50 #[.val (.ref a), .val (.ref b), .val (.ref b)] [])
    refine own_st (fun _ kt => XS.iconst X9.here hx rfl (hb hby own_d11_50) kt) ?_
    show own_Rch p e below _ T9 (mkF m 51 #[.val (.ref a), .val (.ref b), .val (.ref b)] [(.int (1 : Int32))])
    refine own_st (fun _ kt => XS.goto X9.here hx rfl (pc0 := 51) (pc' := 55) rfl (hb hby own_d11_51) (by decide) (by decide) kt) ?_
    show own_Rch p e below _ T9 (mkF m 55 #[.val (.ref a), .val (.ref b), .val (.ref b)] [(.int (1 : Int32))])
    refine own_retN (t := .boolean) (by simp) X9 hx Bd.notSynchronized Bd.returns (hb hby own_d11_55) (by decide) (by decide) ?_
    rw [hh9]
    exact ⟨rfl, N9, rfl⟩
theorem own_d11_54 : decode jdk_42_method_66_code 54 = .ok (.iconst 0, 1) := by decide +kernel
set_option maxRecDepth 65536 in
set_option maxHeartbeats 40000000 in
theorem own_eqN (l : Launch) (Z : State) (a0 : Array Value) (hw : ∀ d ∈ tables_1, d.before a0 Z = true) (ws : List Jvm.Cond) (a : Addr) (b : Addr) (l1 : List Int32) (l2 : List Int32) (cs : Int32) (h0 : Heap) (n0 : Nat) (O0 : Old Z n0 h0) (SC : Sta Z Z.heap "java/lang/String" "COMPACT_STRINGS" "Z" (.int cs)) (hcs : ¬ cs = 0) (S1 : own_Str Z h0 a l1) (S2 : own_Str Z h0 b l2) (hz : ¬ own_len l1 = own_len l2) :
    MetFree l (⟨"java/lang/String", "equals", "(Ljava/lang/Object;)Z"⟩ : MethodName) (head1 (Jvm.Cond.code (⟨"java/lang/String", "equals", "(Ljava/lang/Object;)Z"⟩ : MethodName) jdk_42_method_66_code 3 (some .boolean) :: ws) ({ frames := 1, cells := 0, slots := 0, locals := 14 } : Room)) (fun args_ U => args_ = #[(.ref a), (.ref b)] ∧ Z.Warmed39 U.vm ∧ U.heap = h0) (fun _ _ _ _ _ => True) (fun _ U o U' => ∃ v L, o = .returned v ∧ (own_Q_any h0 n0) v U'.heap L ∧ FrameEnd U o U' L ({ frames := 1, cells := 0, slots := 0, locals := 14 } : Room).cells ({ frames := 1, cells := 0, slots := 0, locals := 14 } : Room).slots) := by
  refine MetFree.of_bodySF (plainFor_of_name own_pn1) hisR ?_
  intro p e s m args below meth c s₁ Bd hml0 hP hK
  obtain ⟨rfl, hZ, hh⟩ := hP
  have hx := Bd.exec
  have hby := Bd.bytes
  have hml : c.maxLocals = 3 := hml0
  have hown : s.vm.findClass "java/lang/String" = some m.cls := findClass_of_methodNamed Bd.named
  have hnm := (name_of_methodNamed Bd.named Bd.method).1
  have X0 : Stand p l e ({ frames := 1, cells := 0, slots := 0, locals := 14 } : Room) s m #[(.ref a), (.ref b)] below meth c s₁ [] 0 0 := Stand.of_body Bd
  have e0 : s₁.heap = h0 := by rw [← hh, Bd.state]; rfl
  have N0 := Fr.nil n0
  obtain ⟨y1, k1a, Ez1, Fz1, Gz1, Vz1⟩ := S1
  obtain ⟨y2, k2a, Ez2, Fz2, Gz2, Vz2⟩ := S2
  refine own_close (s := s) (Q := (own_Q_any h0 n0)) (C := (({ frames := 1, cells := 0, slots := 0, locals := 14 } : Room)).cells) (N := (({ frames := 1, cells := 0, slots := 0, locals := 14 } : Room)).slots) (own_st (fun _ kt => castTop (own_ef11 m a b) kt) ?_)
  show own_Rch p e below _ s₁ (mkF m 0 #[.val (.ref a), .val (.ref b), .unset] [])
  refine own_st (fun _ kt => XS.aloadN X0.here hx rfl (hb hby own_d11_0) rfl rfl  kt) ?_
  show own_Rch p e below _ s₁ (mkF m 1 #[.val (.ref a), .val (.ref b), .unset] [(.ref a)])
  refine own_st (fun _ kt => XS.aloadN X0.here hx rfl (hb hby own_d11_1) rfl rfl  kt) ?_
  show own_Rch p e below _ s₁ (mkF m 2 #[.val (.ref a), .val (.ref b), .unset] [(.ref b), (.ref a)])
  by_cases ha2_1 : a = b
  · -- pc 2: True
    refine own_st (fun _ kt => Jvm.RoadKit.acmp (g := (mkF m 2 #[.val (.ref a), .val (.ref b), .unset] [(.ref b), (.ref a)])) X0 hx rfl rfl rfl (pc0 := 2) (pc' := 5) (same := true) rfl (hb hby own_d11_2) rfl (decide_eq_true (congrArg Value.ref ha2_1)) (by decide) (by decide) kt) ?_
    show own_Rch p e below _ s₁ (mkF m 5 #[.val (.ref a), .val (.ref b), .unset] [])
    refine own_st (fun _ kt => XS.iconst X0.here hx rfl (hb hby own_d11_5) kt) ?_
    show own_Rch p e below _ s₁ (mkF m 6 #[.val (.ref a), .val (.ref b), .unset] [(.int (1 : Int32))])
    refine own_retN (t := .boolean) (by simp) X0 hx Bd.notSynchronized Bd.returns (hb hby own_d11_6) (by decide) (by decide) ?_
    rw [e0]
    exact ⟨_, rfl, N0, rfl⟩
  · -- pc 2: False
    refine own_st (fun _ kt => Jvm.RoadKit.acmp (g := (mkF m 2 #[.val (.ref a), .val (.ref b), .unset] [(.ref b), (.ref a)])) X0 hx rfl rfl rfl (pc0 := 2) (pc' := 7) (same := false) rfl (hb hby own_d11_2) rfl (decide_eq_false fun q => ha2_1 (Value.ref.inj q)) (by decide) (by decide) kt) ?_
    show own_Rch p e below _ s₁ (mkF m 7 #[.val (.ref a), .val (.ref b), .unset] [])
    refine own_st (fun _ kt => XS.aloadN X0.here hx rfl (hb hby own_d11_7) rfl rfl  kt) ?_
    show own_Rch p e below _ s₁ (mkF m 8 #[.val (.ref a), .val (.ref b), .unset] [(.ref b)])
    obtain ⟨T2, X2, e2, st2⟩ := instY X0 hx hZ hown (hw _ (List.mem_of_getElem? (i := 92) rfl)) e0 (Ins.self Ez2) (g := (mkF m 8 #[.val (.ref a), .val (.ref b), .unset] [(.ref b)])) rfl rfl (hb hby own_d11_8)
    refine own_st st2 ?_
    show own_Rch p e below _ T2 (mkF m 11 #[.val (.ref a), .val (.ref b), .unset] [(.int (1 : Int32))])
    refine own_st (fun _ kt => XS.ifNo X2.here hx rfl (hb hby own_d11_11) rfl ((if0 _ _).trans (feq ((by decide) : ¬ ((1 : Int32) = (0 : Int32)))).1) kt) ?_
    show own_Rch p e below _ T2 (mkF m 14 #[.val (.ref a), .val (.ref b), .unset] [])
    refine own_st (fun _ kt => XS.aloadN X2.here hx rfl (hb hby own_d11_14) rfl rfl  kt) ?_
    show own_Rch p e below _ T2 (mkF m 15 #[.val (.ref a), .val (.ref b), .unset] [(.ref b)])
    obtain ⟨T3, X3, e3, st3⟩ := castY X2 hx hZ hown (hw _ (List.mem_of_getElem? (i := 92) rfl)) e2 (Ins.self Ez2) (g := (mkF m 15 #[.val (.ref a), .val (.ref b), .unset] [(.ref b)])) rfl rfl (hb hby own_d11_15)
    refine own_st st3 ?_
    show own_Rch p e below _ T3 (mkF m 18 #[.val (.ref a), .val (.ref b), .unset] [(.ref b)])
    refine own_st (fun _ kt => XS.astoreN X3.here hx rfl (hb hby own_d11_18) rfl rfl (l' := #[.val (.ref a), .val (.ref b), .val (.ref b)]) rfl kt) ?_
    show own_Rch p e below _ T3 (mkF m 19 #[.val (.ref a), .val (.ref b), .val (.ref b)] [])
    obtain ⟨T4, X4, e4, st4⟩ := getS2 X3 hx hZ hown (host := "") (Or.inl (hw _ (List.mem_of_getElem? (i := 21) rfl))) Via.refl e3 (SC.ext O0.2) (g := (mkF m 19 #[.val (.ref a), .val (.ref b), .val (.ref b)] [])) rfl (hb hby own_d11_19)
    refine own_st st4 ?_
    show own_Rch p e below _ T4 (mkF m 22 #[.val (.ref a), .val (.ref b), .val (.ref b)] [(.int cs)])
    refine own_st (fun _ kt => XS.ifNo X4.here hx rfl (hb hby own_d11_22) rfl ((if0 _ _).trans (feq (hcs : ¬ (cs = (0 : Int32)))).1) kt) ?_
    show own_Rch p e below _ T4 (mkF m 25 #[.val (.ref a), .val (.ref b), .val (.ref b)] [])
    refine own_st (fun _ kt => XS.aloadN X4.here hx rfl (hb hby own_d11_25) rfl rfl  kt) ?_
    show own_Rch p e below _ T4 (mkF m 26 #[.val (.ref a), .val (.ref b), .val (.ref b)] [(.ref a)])
    obtain ⟨T5, X5, e5, st5⟩ := getF X4 hx hZ hown (host := "") (Or.inl (hw _ (List.mem_of_getElem? (i := 33) rfl))) Via.refl e4 Gz1 (g := (mkF m 26 #[.val (.ref a), .val (.ref b), .val (.ref b)] [(.ref a)])) rfl rfl (hb hby own_d11_26)
    refine own_st st5 ?_
    show own_Rch p e below _ T5 (mkF m 29 #[.val (.ref a), .val (.ref b), .val (.ref b)] [(.int (0 : Int32))])
    refine own_st (fun _ kt => XS.aloadN X5.here hx rfl (hb hby own_d11_29) rfl rfl  kt) ?_
    show own_Rch p e below _ T5 (mkF m 30 #[.val (.ref a), .val (.ref b), .val (.ref b)] [(.ref b), (.int (0 : Int32))])
    obtain ⟨T6, X6, e6, st6⟩ := getF X5 hx hZ hown (host := "") (Or.inl (hw _ (List.mem_of_getElem? (i := 33) rfl))) Via.refl e5 Gz2 (g := (mkF m 30 #[.val (.ref a), .val (.ref b), .val (.ref b)] [(.ref b), (.int (0 : Int32))])) rfl rfl (hb hby own_d11_30)
    refine own_st st6 ?_
    show own_Rch p e below _ T6 (mkF m 33 #[.val (.ref a), .val (.ref b), .val (.ref b)] [(.int (0 : Int32)), (.int (0 : Int32))])
    refine own_st (fun _ kt => XS.icmpNo X6.here hx rfl (hb hby own_d11_33) rfl (teq (rfl : (0 : Int32) = (0 : Int32))).2 kt) ?_
    show own_Rch p e below _ T6 (mkF m 36 #[.val (.ref a), .val (.ref b), .val (.ref b)] [])
    refine own_st (fun _ kt => XS.aloadN X6.here hx rfl (hb hby own_d11_36) rfl rfl  kt) ?_
    show own_Rch p e below _ T6 (mkF m 37 #[.val (.ref a), .val (.ref b), .val (.ref b)] [(.ref a)])
    obtain ⟨T7, X7, e7, st7⟩ := getF X6 hx hZ hown (host := "") (Or.inl (hw _ (List.mem_of_getElem? (i := 35) rfl))) Via.refl e6 Fz1 (g := (mkF m 37 #[.val (.ref a), .val (.ref b), .val (.ref b)] [(.ref a)])) rfl rfl (hb hby own_d11_37)
    refine own_st st7 ?_
    show own_Rch p e below _ T7 (mkF m 40 #[.val (.ref a), .val (.ref b), .val (.ref b)] [(.ref y1)])
    refine own_st (fun _ kt => XS.aloadN X7.here hx rfl (hb hby own_d11_40) rfl rfl  kt) ?_
    show own_Rch p e below _ T7 (mkF m 41 #[.val (.ref a), .val (.ref b), .val (.ref b)] [(.ref b), (.ref y1)])
    obtain ⟨T8, X8, e8, st8⟩ := getF X7 hx hZ hown (host := "") (Or.inl (hw _ (List.mem_of_getElem? (i := 35) rfl))) Via.refl e7 Fz2 (g := (mkF m 41 #[.val (.ref a), .val (.ref b), .val (.ref b)] [(.ref b), (.ref y1)])) rfl rfl (hb hby own_d11_41)
    refine own_st st8 ?_
    show own_Rch p e below _ T8 (mkF m 44 #[.val (.ref a), .val (.ref b), .val (.ref b)] [(.ref y2), (.ref y1)])
    obtain ⟨_, _, ⟨T9, L9, k9, n9⟩, -, X9, ⟨Lc9, hQ9, l9, y9, z9⟩, st9⟩ := Jvm.LawKit.callS X8 hx (y := (⟨"java/lang/StringLatin1", "equals", "([B[B)Z"⟩ : MethodName)) hown (mvT hZ (hw _ (List.mem_of_getElem? (i := 93) rfl))) (mvT hZ (hw _ (List.mem_of_getElem? (i := 94) rfl))) (mvT hZ (hw _ (List.mem_of_getElem? (i := 95) rfl))) (mvT hZ (hw _ (List.mem_of_getElem? (i := 96) rfl))) (by decide) (backOf (W := 0) (own_leqn l Z a0 hw [] y1 y2 k1a k2a l1 l2 h0 n0 O0 Vz1 Vz2 hz) hZ (hw _ (List.mem_of_getElem? (i := 96) rfl)) (hw _ (List.mem_of_getElem? (i := 95) rfl)) (by decide) (by decide)) (g := (mkF m 44 #[.val (.ref a), .val (.ref b), .val (.ref b)] [(.ref y2), (.ref y1)])) rfl (by rw [hml]; rfl) (argsL := [(.ref y1), (.ref y2)]) (rest := []) (lenOf own_pd0 rfl) rfl (by show 2 * 0 + _ ≤ _; exact Nat.le_of_eq rfl) (hb hby own_d11_44) (fun _ _ => ⟨rfl, e8, (by decide : 0 + 0 ≤ _), (by decide : 0 + 0 ≤ _)⟩)
    dsimp only [Pt.U, Pt.locs, Pt.cells, Pt.slots] at X9 l9 y9 z9 st9 hQ9
    subst l9 y9 z9
    obtain ⟨rfl, N9q, hh9⟩ := hQ9
    have N9 := Fr.app N0 N9q
    refine own_st st9 ?_
    show own_Rch p e below _ T9 (mkF m 47 #[.val (.ref a), .val (.ref b), .val (.ref b)] [(.int (0 : Int32))])
    refine own_st (fun _ kt => XS.ifYes X9.here hx rfl (pc0 := 47) (pc' := 54) rfl (hb hby own_d11_47) rfl ((if0 _ _).trans (teq (rfl : (0 : Int32) = (0 : Int32))).1) (by decide) (by decide) kt) ?_
    show own_Rch p e below _ T9 (mkF m 54 #[.val (.ref a), .val (.ref b), .val (.ref b)] [])
    refine own_st (fun _ kt => XS.iconst X9.here hx rfl (hb hby own_d11_54) kt) ?_
    show own_Rch p e below _ T9 (mkF m 55 #[.val (.ref a), .val (.ref b), .val (.ref b)] [(.int (0 : Int32))])
    refine own_retN (t := .boolean) (by simp) X9 hx Bd.notSynchronized Bd.returns (hb hby own_d11_55) (by decide) (by decide) ?_
    rw [hh9]
    exact ⟨_, rfl, N9, rfl⟩
set_option maxRecDepth 65536 in
set_option maxHeartbeats 40000000 in
theorem own_eqSP (l : Launch) (Z : State) (a0 : Array Value) (hw : ∀ d ∈ tables_1, d.before a0 Z = true) (ws : List Jvm.Cond) (a : Addr) (b : Addr) (cs : Int32) (h0 : Heap) (n0 : Nat) (O0 : Old Z n0 h0) (SC : Sta Z Z.heap "java/lang/String" "COMPACT_STRINGS" "Z" (.int cs)) (hcs : ¬ cs = 0) (S1 : own_Str Z h0 a own_S9) (S2 : own_Str Z h0 b own_P9) :
    MetFree l (⟨"java/lang/String", "equals", "(Ljava/lang/Object;)Z"⟩ : MethodName) (head1 (Jvm.Cond.code (⟨"java/lang/String", "equals", "(Ljava/lang/Object;)Z"⟩ : MethodName) jdk_42_method_66_code 3 (some .boolean) :: ws) ({ frames := 1, cells := 0, slots := 0, locals := 14 } : Room)) (fun args_ U => args_ = #[(.ref a), (.ref b)] ∧ Z.Warmed39 U.vm ∧ U.heap = h0) (fun _ _ _ _ _ => True) (fun _ U o U' => ∃ v L, o = .returned v ∧ (own_Q_any h0 n0) v U'.heap L ∧ FrameEnd U o U' L ({ frames := 1, cells := 0, slots := 0, locals := 14 } : Room).cells ({ frames := 1, cells := 0, slots := 0, locals := 14 } : Room).slots) := by
  refine MetFree.of_bodySF (plainFor_of_name own_pn1) hisR ?_
  intro p e s m args below meth c s₁ Bd hml0 hP hK
  obtain ⟨rfl, hZ, hh⟩ := hP
  have hx := Bd.exec
  have hby := Bd.bytes
  have hml : c.maxLocals = 3 := hml0
  have hown : s.vm.findClass "java/lang/String" = some m.cls := findClass_of_methodNamed Bd.named
  have hnm := (name_of_methodNamed Bd.named Bd.method).1
  have X0 : Stand p l e ({ frames := 1, cells := 0, slots := 0, locals := 14 } : Room) s m #[(.ref a), (.ref b)] below meth c s₁ [] 0 0 := Stand.of_body Bd
  have e0 : s₁.heap = h0 := by rw [← hh, Bd.state]; rfl
  have N0 := Fr.nil n0
  obtain ⟨y1, k1a, Ez1, Fz1, Gz1, Vz1⟩ := S1
  obtain ⟨y2, k2a, Ez2, Fz2, Gz2, Vz2⟩ := S2
  refine own_close (s := s) (Q := (own_Q_any h0 n0)) (C := (({ frames := 1, cells := 0, slots := 0, locals := 14 } : Room)).cells) (N := (({ frames := 1, cells := 0, slots := 0, locals := 14 } : Room)).slots) (own_st (fun _ kt => castTop (own_ef11 m a b) kt) ?_)
  show own_Rch p e below _ s₁ (mkF m 0 #[.val (.ref a), .val (.ref b), .unset] [])
  refine own_st (fun _ kt => XS.aloadN X0.here hx rfl (hb hby own_d11_0) rfl rfl  kt) ?_
  show own_Rch p e below _ s₁ (mkF m 1 #[.val (.ref a), .val (.ref b), .unset] [(.ref a)])
  refine own_st (fun _ kt => XS.aloadN X0.here hx rfl (hb hby own_d11_1) rfl rfl  kt) ?_
  show own_Rch p e below _ s₁ (mkF m 2 #[.val (.ref a), .val (.ref b), .unset] [(.ref b), (.ref a)])
  by_cases ha2_1 : a = b
  · -- pc 2: True
    refine own_st (fun _ kt => Jvm.RoadKit.acmp (g := (mkF m 2 #[.val (.ref a), .val (.ref b), .unset] [(.ref b), (.ref a)])) X0 hx rfl rfl rfl (pc0 := 2) (pc' := 5) (same := true) rfl (hb hby own_d11_2) rfl (decide_eq_true (congrArg Value.ref ha2_1)) (by decide) (by decide) kt) ?_
    show own_Rch p e below _ s₁ (mkF m 5 #[.val (.ref a), .val (.ref b), .unset] [])
    refine own_st (fun _ kt => XS.iconst X0.here hx rfl (hb hby own_d11_5) kt) ?_
    show own_Rch p e below _ s₁ (mkF m 6 #[.val (.ref a), .val (.ref b), .unset] [(.int (1 : Int32))])
    refine own_retN (t := .boolean) (by simp) X0 hx Bd.notSynchronized Bd.returns (hb hby own_d11_6) (by decide) (by decide) ?_
    rw [e0]
    exact ⟨_, rfl, N0, rfl⟩
  · -- pc 2: False
    refine own_st (fun _ kt => Jvm.RoadKit.acmp (g := (mkF m 2 #[.val (.ref a), .val (.ref b), .unset] [(.ref b), (.ref a)])) X0 hx rfl rfl rfl (pc0 := 2) (pc' := 7) (same := false) rfl (hb hby own_d11_2) rfl (decide_eq_false fun q => ha2_1 (Value.ref.inj q)) (by decide) (by decide) kt) ?_
    show own_Rch p e below _ s₁ (mkF m 7 #[.val (.ref a), .val (.ref b), .unset] [])
    refine own_st (fun _ kt => XS.aloadN X0.here hx rfl (hb hby own_d11_7) rfl rfl  kt) ?_
    show own_Rch p e below _ s₁ (mkF m 8 #[.val (.ref a), .val (.ref b), .unset] [(.ref b)])
    obtain ⟨T2, X2, e2, st2⟩ := instY X0 hx hZ hown (hw _ (List.mem_of_getElem? (i := 92) rfl)) e0 (Ins.self Ez2) (g := (mkF m 8 #[.val (.ref a), .val (.ref b), .unset] [(.ref b)])) rfl rfl (hb hby own_d11_8)
    refine own_st st2 ?_
    show own_Rch p e below _ T2 (mkF m 11 #[.val (.ref a), .val (.ref b), .unset] [(.int (1 : Int32))])
    refine own_st (fun _ kt => XS.ifNo X2.here hx rfl (hb hby own_d11_11) rfl ((if0 _ _).trans (feq ((by decide) : ¬ ((1 : Int32) = (0 : Int32)))).1) kt) ?_
    show own_Rch p e below _ T2 (mkF m 14 #[.val (.ref a), .val (.ref b), .unset] [])
    refine own_st (fun _ kt => XS.aloadN X2.here hx rfl (hb hby own_d11_14) rfl rfl  kt) ?_
    show own_Rch p e below _ T2 (mkF m 15 #[.val (.ref a), .val (.ref b), .unset] [(.ref b)])
    obtain ⟨T3, X3, e3, st3⟩ := castY X2 hx hZ hown (hw _ (List.mem_of_getElem? (i := 92) rfl)) e2 (Ins.self Ez2) (g := (mkF m 15 #[.val (.ref a), .val (.ref b), .unset] [(.ref b)])) rfl rfl (hb hby own_d11_15)
    refine own_st st3 ?_
    show own_Rch p e below _ T3 (mkF m 18 #[.val (.ref a), .val (.ref b), .unset] [(.ref b)])
    refine own_st (fun _ kt => XS.astoreN X3.here hx rfl (hb hby own_d11_18) rfl rfl (l' := #[.val (.ref a), .val (.ref b), .val (.ref b)]) rfl kt) ?_
    show own_Rch p e below _ T3 (mkF m 19 #[.val (.ref a), .val (.ref b), .val (.ref b)] [])
    obtain ⟨T4, X4, e4, st4⟩ := getS2 X3 hx hZ hown (host := "") (Or.inl (hw _ (List.mem_of_getElem? (i := 21) rfl))) Via.refl e3 (SC.ext O0.2) (g := (mkF m 19 #[.val (.ref a), .val (.ref b), .val (.ref b)] [])) rfl (hb hby own_d11_19)
    refine own_st st4 ?_
    show own_Rch p e below _ T4 (mkF m 22 #[.val (.ref a), .val (.ref b), .val (.ref b)] [(.int cs)])
    refine own_st (fun _ kt => XS.ifNo X4.here hx rfl (hb hby own_d11_22) rfl ((if0 _ _).trans (feq (hcs : ¬ (cs = (0 : Int32)))).1) kt) ?_
    show own_Rch p e below _ T4 (mkF m 25 #[.val (.ref a), .val (.ref b), .val (.ref b)] [])
    refine own_st (fun _ kt => XS.aloadN X4.here hx rfl (hb hby own_d11_25) rfl rfl  kt) ?_
    show own_Rch p e below _ T4 (mkF m 26 #[.val (.ref a), .val (.ref b), .val (.ref b)] [(.ref a)])
    obtain ⟨T5, X5, e5, st5⟩ := getF X4 hx hZ hown (host := "") (Or.inl (hw _ (List.mem_of_getElem? (i := 33) rfl))) Via.refl e4 Gz1 (g := (mkF m 26 #[.val (.ref a), .val (.ref b), .val (.ref b)] [(.ref a)])) rfl rfl (hb hby own_d11_26)
    refine own_st st5 ?_
    show own_Rch p e below _ T5 (mkF m 29 #[.val (.ref a), .val (.ref b), .val (.ref b)] [(.int (0 : Int32))])
    refine own_st (fun _ kt => XS.aloadN X5.here hx rfl (hb hby own_d11_29) rfl rfl  kt) ?_
    show own_Rch p e below _ T5 (mkF m 30 #[.val (.ref a), .val (.ref b), .val (.ref b)] [(.ref b), (.int (0 : Int32))])
    obtain ⟨T6, X6, e6, st6⟩ := getF X5 hx hZ hown (host := "") (Or.inl (hw _ (List.mem_of_getElem? (i := 33) rfl))) Via.refl e5 Gz2 (g := (mkF m 30 #[.val (.ref a), .val (.ref b), .val (.ref b)] [(.ref b), (.int (0 : Int32))])) rfl rfl (hb hby own_d11_30)
    refine own_st st6 ?_
    show own_Rch p e below _ T6 (mkF m 33 #[.val (.ref a), .val (.ref b), .val (.ref b)] [(.int (0 : Int32)), (.int (0 : Int32))])
    refine own_st (fun _ kt => XS.icmpNo X6.here hx rfl (hb hby own_d11_33) rfl (teq (rfl : (0 : Int32) = (0 : Int32))).2 kt) ?_
    show own_Rch p e below _ T6 (mkF m 36 #[.val (.ref a), .val (.ref b), .val (.ref b)] [])
    refine own_st (fun _ kt => XS.aloadN X6.here hx rfl (hb hby own_d11_36) rfl rfl  kt) ?_
    show own_Rch p e below _ T6 (mkF m 37 #[.val (.ref a), .val (.ref b), .val (.ref b)] [(.ref a)])
    obtain ⟨T7, X7, e7, st7⟩ := getF X6 hx hZ hown (host := "") (Or.inl (hw _ (List.mem_of_getElem? (i := 35) rfl))) Via.refl e6 Fz1 (g := (mkF m 37 #[.val (.ref a), .val (.ref b), .val (.ref b)] [(.ref a)])) rfl rfl (hb hby own_d11_37)
    refine own_st st7 ?_
    show own_Rch p e below _ T7 (mkF m 40 #[.val (.ref a), .val (.ref b), .val (.ref b)] [(.ref y1)])
    refine own_st (fun _ kt => XS.aloadN X7.here hx rfl (hb hby own_d11_40) rfl rfl  kt) ?_
    show own_Rch p e below _ T7 (mkF m 41 #[.val (.ref a), .val (.ref b), .val (.ref b)] [(.ref b), (.ref y1)])
    obtain ⟨T8, X8, e8, st8⟩ := getF X7 hx hZ hown (host := "") (Or.inl (hw _ (List.mem_of_getElem? (i := 35) rfl))) Via.refl e7 Fz2 (g := (mkF m 41 #[.val (.ref a), .val (.ref b), .val (.ref b)] [(.ref b), (.ref y1)])) rfl rfl (hb hby own_d11_41)
    refine own_st st8 ?_
    show own_Rch p e below _ T8 (mkF m 44 #[.val (.ref a), .val (.ref b), .val (.ref b)] [(.ref y2), (.ref y1)])
    obtain ⟨_, _, ⟨T9, L9, k9, n9⟩, -, X9, ⟨Lc9, hQ9, l9, y9, z9⟩, st9⟩ := Jvm.LawKit.callS X8 hx (y := (⟨"java/lang/StringLatin1", "equals", "([B[B)Z"⟩ : MethodName)) hown (mvT hZ (hw _ (List.mem_of_getElem? (i := 93) rfl))) (mvT hZ (hw _ (List.mem_of_getElem? (i := 94) rfl))) (mvT hZ (hw _ (List.mem_of_getElem? (i := 95) rfl))) (mvT hZ (hw _ (List.mem_of_getElem? (i := 96) rfl))) (by decide) (backOf (W := 0) (own_leqsp l Z a0 hw [] y1 y2 k1a k2a h0 n0 O0 Vz1 Vz2) hZ (hw _ (List.mem_of_getElem? (i := 96) rfl)) (hw _ (List.mem_of_getElem? (i := 95) rfl)) (by decide) (by decide)) (g := (mkF m 44 #[.val (.ref a), .val (.ref b), .val (.ref b)] [(.ref y2), (.ref y1)])) rfl (by rw [hml]; rfl) (argsL := [(.ref y1), (.ref y2)]) (rest := []) (lenOf own_pd0 rfl) rfl (by show 2 * 0 + _ ≤ _; exact Nat.le_of_eq rfl) (hb hby own_d11_44) (fun _ _ => ⟨rfl, e8, (by decide : 0 + 0 ≤ _), (by decide : 0 + 0 ≤ _)⟩)
    dsimp only [Pt.U, Pt.locs, Pt.cells, Pt.slots] at X9 l9 y9 z9 st9 hQ9
    subst l9 y9 z9
    obtain ⟨rfl, N9q, hh9⟩ := hQ9
    have N9 := Fr.app N0 N9q
    refine own_st st9 ?_
    show own_Rch p e below _ T9 (mkF m 47 #[.val (.ref a), .val (.ref b), .val (.ref b)] [(.int (0 : Int32))])
    refine own_st (fun _ kt => XS.ifYes X9.here hx rfl (pc0 := 47) (pc' := 54) rfl (hb hby own_d11_47) rfl ((if0 _ _).trans (teq (rfl : (0 : Int32) = (0 : Int32))).1) (by decide) (by decide) kt) ?_
    show own_Rch p e below _ T9 (mkF m 54 #[.val (.ref a), .val (.ref b), .val (.ref b)] [])
    refine own_st (fun _ kt => XS.iconst X9.here hx rfl (hb hby own_d11_54) kt) ?_
    show own_Rch p e below _ T9 (mkF m 55 #[.val (.ref a), .val (.ref b), .val (.ref b)] [(.int (0 : Int32))])
    refine own_retN (t := .boolean) (by simp) X9 hx Bd.notSynchronized Bd.returns (hb hby own_d11_55) (by decide) (by decide) ?_
    rw [hh9]
    exact ⟨_, rfl, N9, rfl⟩
theorem own_ef11n1 (m : MethodId) (x0 : Addr) : entryFrame m #[(.ref x0), .null] 3 = mkF m 0 #[.val (.ref x0), .val .null, .unset] [] := by first | (simp [entryFrame, mkF, argsToLocals, Value.category]; done) | rfl
set_option maxRecDepth 65536 in
set_option maxHeartbeats 40000000 in
theorem own_eq0 (l : Launch) (Z : State) (a0 : Array Value) (hw : ∀ d ∈ tables_1, d.before a0 Z = true) (ws : List Jvm.Cond) (a : Addr) (h0 : Heap) (n0 : Nat) (O0 : Old Z n0 h0) :
    MetFree l (⟨"java/lang/String", "equals", "(Ljava/lang/Object;)Z"⟩ : MethodName) (head1 (Jvm.Cond.code (⟨"java/lang/String", "equals", "(Ljava/lang/Object;)Z"⟩ : MethodName) jdk_42_method_66_code 3 (some .boolean) :: ws) ({ frames := 1, cells := 0, slots := 0, locals := 14 } : Room)) (fun args_ U => args_ = #[(.ref a), .null] ∧ Z.Warmed39 U.vm ∧ U.heap = h0) (fun _ _ _ _ _ => True) (fun _ U o U' => ∃ v L, o = .returned v ∧ (own_Q_any h0 n0) v U'.heap L ∧ FrameEnd U o U' L ({ frames := 1, cells := 0, slots := 0, locals := 14 } : Room).cells ({ frames := 1, cells := 0, slots := 0, locals := 14 } : Room).slots) := by
  refine MetFree.of_bodySF (plainFor_of_name own_pn1) hisR ?_
  intro p e s m args below meth c s₁ Bd hml0 hP hK
  obtain ⟨rfl, hZ, hh⟩ := hP
  have hx := Bd.exec
  have hby := Bd.bytes
  have hml : c.maxLocals = 3 := hml0
  have hown : s.vm.findClass "java/lang/String" = some m.cls := findClass_of_methodNamed Bd.named
  have hnm := (name_of_methodNamed Bd.named Bd.method).1
  have X0 : Stand p l e ({ frames := 1, cells := 0, slots := 0, locals := 14 } : Room) s m #[(.ref a), .null] below meth c s₁ [] 0 0 := Stand.of_body Bd
  have e0 : s₁.heap = h0 := by rw [← hh, Bd.state]; rfl
  have N0 := Fr.nil n0
  refine own_close (s := s) (Q := (own_Q_any h0 n0)) (C := (({ frames := 1, cells := 0, slots := 0, locals := 14 } : Room)).cells) (N := (({ frames := 1, cells := 0, slots := 0, locals := 14 } : Room)).slots) (own_st (fun _ kt => castTop (own_ef11n1 m a) kt) ?_)
  show own_Rch p e below _ s₁ (mkF m 0 #[.val (.ref a), .val .null, .unset] [])
  refine own_st (fun _ kt => XS.aloadN X0.here hx rfl (hb hby own_d11_0) rfl rfl  kt) ?_
  show own_Rch p e below _ s₁ (mkF m 1 #[.val (.ref a), .val .null, .unset] [(.ref a)])
  refine own_st (fun _ kt => XS.aloadN X0.here hx rfl (hb hby own_d11_1) rfl rfl  kt) ?_
  show own_Rch p e below _ s₁ (mkF m 2 #[.val (.ref a), .val .null, .unset] [.null, (.ref a)])
  refine own_st (fun _ kt => Jvm.RoadKit.acmp (g := (mkF m 2 #[.val (.ref a), .val .null, .unset] [.null, (.ref a)])) X0 hx rfl rfl rfl (pc0 := 2) (pc' := 7) (same := false) rfl (hb hby own_d11_2) rfl (decide_eq_false nofun) (by decide) (by decide) kt) ?_
  show own_Rch p e below _ s₁ (mkF m 7 #[.val (.ref a), .val .null, .unset] [])
  refine own_st (fun _ kt => XS.aloadN X0.here hx rfl (hb hby own_d11_7) rfl rfl  kt) ?_
  show own_Rch p e below _ s₁ (mkF m 8 #[.val (.ref a), .val .null, .unset] [.null])
  refine own_st (X0.instanceofNull hx (g := (mkF m 8 #[.val (.ref a), .val .null, .unset] [.null])) rfl rfl (hb hby own_d11_8)) ?_
  show own_Rch p e below _ s₁ (mkF m 11 #[.val (.ref a), .val .null, .unset] [(.int (0 : Int32))])
  refine own_st (fun _ kt => XS.ifYes X0.here hx rfl (pc0 := 11) (pc' := 54) rfl (hb hby own_d11_11) rfl ((if0 _ _).trans (teq (rfl : (0 : Int32) = (0 : Int32))).1) (by decide) (by decide) kt) ?_
  show own_Rch p e below _ s₁ (mkF m 54 #[.val (.ref a), .val .null, .unset] [])
  refine own_st (fun _ kt => XS.iconst X0.here hx rfl (hb hby own_d11_54) kt) ?_
  show own_Rch p e below _ s₁ (mkF m 55 #[.val (.ref a), .val .null, .unset] [(.int (0 : Int32))])
  refine own_retN (t := .boolean) (by simp) X0 hx Bd.notSynchronized Bd.returns (hb hby own_d11_55) (by decide) (by decide) ?_
  rw [e0]
  exact ⟨_, rfl, N0, rfl⟩
theorem own_ef14 (m : MethodId) (x0 : Addr) : entryFrame m #[(.ref x0)] 1 = mkF m 0 #[.val (.ref x0)] [] := by first | (simp [entryFrame, mkF, argsToLocals, Value.category]; done) | rfl
theorem own_d14_0 : decode jdk_42_method_55_code 0 = .ok (.aload_n 0, 1) := by decide +kernel
theorem own_d14_1 : decode jdk_42_method_55_code 1 = .ok (.getfield 9, 3) := by decide +kernel
theorem own_d14_4 : decode jdk_42_method_55_code 4 = .ok (.arraylength, 1) := by decide +kernel
theorem own_d14_5 : decode jdk_42_method_55_code 5 = .ok (.ifCond .ne 7, 3) := by decide +kernel
theorem own_d14_8 : decode jdk_42_method_55_code 8 = .ok (.iconst 1, 1) := by decide +kernel
theorem own_d14_9 : decode jdk_42_method_55_code 9 = .ok (.goto 4, 3) := by decide +kernel
theorem own_d14_13 : decode jdk_42_method_55_code 13 = .ok (.ireturn, 1) := by decide +kernel
def own_Q_own_ie1 (Z : State) (a : Addr) (h0 : Heap) (n0 : Nat) (v : Option Value) (h : Heap) (L : List Loc) : Prop := v = some (.int (1 : Int32)) ∧ Fr n0 L ∧ h = h0
set_option maxRecDepth 65536 in
set_option maxHeartbeats 40000000 in
theorem own_ie1 (l : Launch) (Z : State) (a0 : Array Value) (hw : ∀ d ∈ tables_1, d.before a0 Z = true) (ws : List Jvm.Cond) (a : Addr) (h0 : Heap) (n0 : Nat) (O0 : Old Z n0 h0) (S1 : own_Str Z h0 a []) :
    MetFree l (⟨"java/lang/String", "isEmpty", "()Z"⟩ : MethodName) (head1 (Jvm.Cond.code (⟨"java/lang/String", "isEmpty", "()Z"⟩ : MethodName) jdk_42_method_55_code 1 (some .boolean) :: ws) ({ frames := 0, cells := 0, slots := 0, locals := 0 } : Room)) (fun args_ U => args_ = #[(.ref a)] ∧ Z.Warmed39 U.vm ∧ U.heap = h0) (fun _ _ _ _ _ => True) (fun _ U o U' => ∃ v L, o = .returned v ∧ (own_Q_own_ie1 Z a h0 n0) v U'.heap L ∧ FrameEnd U o U' L ({ frames := 0, cells := 0, slots := 0, locals := 0 } : Room).cells ({ frames := 0, cells := 0, slots := 0, locals := 0 } : Room).slots) := by
  refine MetFree.of_bodySF (plainFor_of_name own_pn1) hisR ?_
  intro p e s m args below meth c s₁ Bd hml0 hP hK
  obtain ⟨rfl, hZ, hh⟩ := hP
  have hx := Bd.exec
  have hby := Bd.bytes
  have hml : c.maxLocals = 1 := hml0
  have hown : s.vm.findClass "java/lang/String" = some m.cls := findClass_of_methodNamed Bd.named
  have hnm := (name_of_methodNamed Bd.named Bd.method).1
  have X0 : Stand p l e ({ frames := 0, cells := 0, slots := 0, locals := 0 } : Room) s m #[(.ref a)] below meth c s₁ [] 0 0 := Stand.of_body Bd
  have e0 : s₁.heap = h0 := by rw [← hh, Bd.state]; rfl
  have N0 := Fr.nil n0
  obtain ⟨y1, k1a, Ez1, Fz1, Gz1, Vz1⟩ := S1
  refine own_close (s := s) (Q := (own_Q_own_ie1 Z a h0 n0)) (C := (({ frames := 0, cells := 0, slots := 0, locals := 0 } : Room)).cells) (N := (({ frames := 0, cells := 0, slots := 0, locals := 0 } : Room)).slots) (own_st (fun _ kt => castTop (own_ef14 m a) kt) ?_)
  show own_Rch p e below _ s₁ (mkF m 0 #[.val (.ref a)] [])
  refine own_st (fun _ kt => XS.aloadN X0.here hx rfl (hb hby own_d14_0) rfl rfl  kt) ?_
  show own_Rch p e below _ s₁ (mkF m 1 #[.val (.ref a)] [(.ref a)])
  obtain ⟨T1, X1, e1, st1⟩ := getF X0 hx hZ hown (host := "") (Or.inl (hw _ (List.mem_of_getElem? (i := 35) rfl))) Via.refl e0 Fz1 (g := (mkF m 1 #[.val (.ref a)] [(.ref a)])) rfl rfl (hb hby own_d14_1)
  refine own_st st1 ?_
  show own_Rch p e below _ T1 (mkF m 4 #[.val (.ref a)] [(.ref y1)])
  obtain ⟨cl2, Ar2, -, S2, M2, -, -⟩ := id Vz1
  refine own_st (X1.arraylength hx (by rw [e1]; exact Ar2.1) (State.isArrayOf_alike (hZ).alike Ar2.2.1) (g := (mkF m 4 #[.val (.ref a)] [(.ref y1)])) rfl rfl (hb hby own_d14_4)) ?_
  rw [len_of S2 M2]
  show own_Rch p e below _ T1 (mkF m 5 #[.val (.ref a)] [(.int (own_len []))])
  refine own_st (fun _ kt => XS.ifNo X1.here hx rfl (hb hby own_d14_5) rfl ((if0 _ _).trans (teq (rfl : (own_len []) = (0 : Int32))).2) kt) ?_
  show own_Rch p e below _ T1 (mkF m 8 #[.val (.ref a)] [])
  refine own_st (fun _ kt => XS.iconst X1.here hx rfl (hb hby own_d14_8) kt) ?_
  show own_Rch p e below _ T1 (mkF m 9 #[.val (.ref a)] [(.int (1 : Int32))])
  refine own_st (fun _ kt => XS.goto X1.here hx rfl (pc0 := 9) (pc' := 13) rfl (hb hby own_d14_9) (by decide) (by decide) kt) ?_
  show own_Rch p e below _ T1 (mkF m 13 #[.val (.ref a)] [(.int (1 : Int32))])
  refine own_retN (t := .boolean) (by simp) X1 hx Bd.notSynchronized Bd.returns (hb hby own_d14_13) (by decide) (by decide) ?_
  rw [e1]
  exact ⟨rfl, N0, rfl⟩
theorem own_d14_12 : decode jdk_42_method_55_code 12 = .ok (.iconst 0, 1) := by decide +kernel
def own_Q_own_ie0 (Z : State) (a : Addr) (l1 : List Int32) (h0 : Heap) (n0 : Nat) (v : Option Value) (h : Heap) (L : List Loc) : Prop := v = some (.int (0 : Int32)) ∧ Fr n0 L ∧ h = h0
set_option maxRecDepth 65536 in
set_option maxHeartbeats 40000000 in
theorem own_ie0 (l : Launch) (Z : State) (a0 : Array Value) (hw : ∀ d ∈ tables_1, d.before a0 Z = true) (ws : List Jvm.Cond) (a : Addr) (l1 : List Int32) (h0 : Heap) (n0 : Nat) (O0 : Old Z n0 h0) (S1 : own_Str Z h0 a l1) (hz : ¬ own_len l1 = 0) :
    MetFree l (⟨"java/lang/String", "isEmpty", "()Z"⟩ : MethodName) (head1 (Jvm.Cond.code (⟨"java/lang/String", "isEmpty", "()Z"⟩ : MethodName) jdk_42_method_55_code 1 (some .boolean) :: ws) ({ frames := 0, cells := 0, slots := 0, locals := 0 } : Room)) (fun args_ U => args_ = #[(.ref a)] ∧ Z.Warmed39 U.vm ∧ U.heap = h0) (fun _ _ _ _ _ => True) (fun _ U o U' => ∃ v L, o = .returned v ∧ (own_Q_own_ie0 Z a l1 h0 n0) v U'.heap L ∧ FrameEnd U o U' L ({ frames := 0, cells := 0, slots := 0, locals := 0 } : Room).cells ({ frames := 0, cells := 0, slots := 0, locals := 0 } : Room).slots) := by
  refine MetFree.of_bodySF (plainFor_of_name own_pn1) hisR ?_
  intro p e s m args below meth c s₁ Bd hml0 hP hK
  obtain ⟨rfl, hZ, hh⟩ := hP
  have hx := Bd.exec
  have hby := Bd.bytes
  have hml : c.maxLocals = 1 := hml0
  have hown : s.vm.findClass "java/lang/String" = some m.cls := findClass_of_methodNamed Bd.named
  have hnm := (name_of_methodNamed Bd.named Bd.method).1
  have X0 : Stand p l e ({ frames := 0, cells := 0, slots := 0, locals := 0 } : Room) s m #[(.ref a)] below meth c s₁ [] 0 0 := Stand.of_body Bd
  have e0 : s₁.heap = h0 := by rw [← hh, Bd.state]; rfl
  have N0 := Fr.nil n0
  obtain ⟨y1, k1a, Ez1, Fz1, Gz1, Vz1⟩ := S1
  refine own_close (s := s) (Q := (own_Q_own_ie0 Z a l1 h0 n0)) (C := (({ frames := 0, cells := 0, slots := 0, locals := 0 } : Room)).cells) (N := (({ frames := 0, cells := 0, slots := 0, locals := 0 } : Room)).slots) (own_st (fun _ kt => castTop (own_ef14 m a) kt) ?_)
  show own_Rch p e below _ s₁ (mkF m 0 #[.val (.ref a)] [])
  refine own_st (fun _ kt => XS.aloadN X0.here hx rfl (hb hby own_d14_0) rfl rfl  kt) ?_
  show own_Rch p e below _ s₁ (mkF m 1 #[.val (.ref a)] [(.ref a)])
  obtain ⟨T1, X1, e1, st1⟩ := getF X0 hx hZ hown (host := "") (Or.inl (hw _ (List.mem_of_getElem? (i := 35) rfl))) Via.refl e0 Fz1 (g := (mkF m 1 #[.val (.ref a)] [(.ref a)])) rfl rfl (hb hby own_d14_1)
  refine own_st st1 ?_
  show own_Rch p e below _ T1 (mkF m 4 #[.val (.ref a)] [(.ref y1)])
  obtain ⟨cl2, Ar2, -, S2, M2, -, -⟩ := id Vz1
  refine own_st (X1.arraylength hx (by rw [e1]; exact Ar2.1) (State.isArrayOf_alike (hZ).alike Ar2.2.1) (g := (mkF m 4 #[.val (.ref a)] [(.ref y1)])) rfl rfl (hb hby own_d14_4)) ?_
  rw [len_of S2 M2]
  show own_Rch p e below _ T1 (mkF m 5 #[.val (.ref a)] [(.int (own_len l1))])
  refine own_st (fun _ kt => XS.ifYes X1.here hx rfl (pc0 := 5) (pc' := 12) rfl (hb hby own_d14_5) rfl ((if0 _ _).trans (feq (hz : ¬ ((own_len l1) = (0 : Int32)))).2) (by decide) (by decide) kt) ?_
  show own_Rch p e below _ T1 (mkF m 12 #[.val (.ref a)] [])
  refine own_st (fun _ kt => XS.iconst X1.here hx rfl (hb hby own_d14_12) kt) ?_
  show own_Rch p e below _ T1 (mkF m 13 #[.val (.ref a)] [(.int (0 : Int32))])
  refine own_retN (t := .boolean) (by simp) X1 hx Bd.notSynchronized Bd.returns (hb hby own_d14_13) (by decide) (by decide) ?_
  rw [e1]
  exact ⟨rfl, N0, rfl⟩
theorem own_pn2 : plainName "java/lang/StringUTF16" = true := by first | (simp [plainName, overriddenIn]; done) | decide +kernel
theorem own_ef7 (m : MethodId) (x0 : Addr) (x1 : Int32) (x2 : Addr) (x3 : Int32) (x4 : Int32) : entryFrame m #[(.ref x0), (.int x1), (.ref x2), (.int x3), (.int x4)] 7 = mkF m 0 #[.val (.ref x0), .val (.int x1), .val (.ref x2), .val (.int x3), .val (.int x4), .unset, .unset] [] := by first | (simp [entryFrame, mkF, argsToLocals, Value.category]; done) | rfl
theorem own_d7_0 : decode jdk_52_method_21_code 0 = .ok (.iconst 0, 1) := by decide +kernel
theorem own_d7_1 : decode jdk_52_method_21_code 1 = .ok (.istore 5, 2) := by decide +kernel
theorem own_d7_3 : decode jdk_52_method_21_code 3 = .ok (.iload 5, 2) := by decide +kernel
theorem own_d7_5 : decode jdk_52_method_21_code 5 = .ok (.iload 4, 2) := by decide +kernel
theorem own_d7_7 : decode jdk_52_method_21_code 7 = .ok (.if_icmp .ge 37, 3) := by decide +kernel
theorem own_d7_10 : decode jdk_52_method_21_code 10 = .ok (.aload_n 0, 1) := by decide +kernel
theorem own_d7_11 : decode jdk_52_method_21_code 11 = .ok (.iload_n 1, 1) := by decide +kernel
theorem own_d7_12 : decode jdk_52_method_21_code 12 = .ok (.caload, 1) := by decide +kernel
theorem own_d7_13 : decode jdk_52_method_21_code 13 = .ok (.istore 6, 2) := by decide +kernel
theorem own_d7_15 : decode jdk_52_method_21_code 15 = .ok (.iload 6, 2) := by decide +kernel
theorem own_d7_17 : decode jdk_52_method_21_code 17 = .ok (.sipush 255, 3) := by decide +kernel
theorem own_d7_20 : decode jdk_52_method_21_code 20 = .ok (.if_icmp .le 6, 3) := by decide +kernel
theorem own_d7_26 : decode jdk_52_method_21_code 26 = .ok (.aload_n 2, 1) := by decide +kernel
theorem own_d7_27 : decode jdk_52_method_21_code 27 = .ok (.iload_n 3, 1) := by decide +kernel
theorem own_d7_28 : decode jdk_52_method_21_code 28 = .ok (.iload 6, 2) := by decide +kernel
theorem own_d7_30 : decode jdk_52_method_21_code 30 = .ok (.i2b, 1) := by decide +kernel
theorem own_d7_31 : decode jdk_52_method_21_code 31 = .ok (.bastore, 1) := by decide +kernel
theorem own_d7_32 : decode jdk_52_method_21_code 32 = .ok (.iinc 1 1, 3) := by decide +kernel
theorem own_d7_35 : decode jdk_52_method_21_code 35 = .ok (.iinc 3 1, 3) := by decide +kernel
theorem own_d7_38 : decode jdk_52_method_21_code 38 = .ok (.iinc 5 1, 3) := by decide +kernel
theorem own_d7_41 : decode jdk_52_method_21_code 41 = .ok (.goto (-38), 3) := by decide +kernel
theorem own_d7_44 : decode jdk_52_method_21_code 44 = .ok (.iload 4, 2) := by decide +kernel
theorem own_d7_46 : decode jdk_52_method_21_code 46 = .ok (.ireturn, 1) := by decide +kernel
def own_Q_own_c5_1 (Z : State) (r : Addr) (kr : ClassId) (b : Addr) (kb : ClassId) (c0 : Int32) (c1 : Int32) (c2 : Int32) (h0 : Heap) (n0 : Nat) (v : Option Value) (h : Heap) (L : List Loc) : Prop := v = some (.int (1 : Int32)) ∧ Fr n0 L ∧ Keep h0 h [b] ∧ Arv Z h b kb .byte (1 : Int32) [(.int (own_b c0))] (.int (0 : Int32))
set_option maxRecDepth 65536 in
set_option maxHeartbeats 40000000 in
theorem own_c5_1 (l : Launch) (Z : State) (a0 : Array Value) (hw : ∀ d ∈ tables_1, d.before a0 Z = true) (ws : List Jvm.Cond) (r : Addr) (kr : ClassId) (b : Addr) (kb : ClassId) (c0 : Int32) (c1 : Int32) (c2 : Int32) (h0 : Heap) (n0 : Nat) (O0 : Old Z n0 h0) (VR : Arv Z h0 r kr .char (1 : Int32) [(.int (nar .char c0))] (.int (0 : Int32))) (VB : Arv Z h0 b kb .byte (1 : Int32) [(.int (0 : Int32))] (.int (0 : Int32))) (gb : n0 ≤ b) (hrb : r ≠ b) (hc0 : own_ch c0) (hc1 : own_ch c1) (hc2 : own_ch c2) :
    MetFree l (⟨"java/lang/StringUTF16", "compress", "([CI[BII)I"⟩ : MethodName) (head1 (Jvm.Cond.code (⟨"java/lang/StringUTF16", "compress", "([CI[BII)I"⟩ : MethodName) jdk_52_method_21_code 7 (some .int) :: ws) ({ frames := 0, cells := 0, slots := 0, locals := 0 } : Room)) (fun args_ U => args_ = #[(.ref r), (.int (0 : Int32)), (.ref b), (.int (0 : Int32)), (.int (1 : Int32))] ∧ Z.Warmed39 U.vm ∧ U.heap = h0) (fun _ _ _ _ _ => True) (fun _ U o U' => ∃ v L, o = .returned v ∧ (own_Q_own_c5_1 Z r kr b kb c0 c1 c2 h0 n0) v U'.heap L ∧ FrameEnd U o U' L ({ frames := 0, cells := 0, slots := 0, locals := 0 } : Room).cells ({ frames := 0, cells := 0, slots := 0, locals := 0 } : Room).slots) := by
  refine MetFree.of_bodySF (plainFor_of_name own_pn2) hisR ?_
  intro p e s m args below meth c s₁ Bd hml0 hP hK
  obtain ⟨rfl, hZ, hh⟩ := hP
  have hx := Bd.exec
  have hby := Bd.bytes
  have hml : c.maxLocals = 7 := hml0
  have hown : s.vm.findClass "java/lang/StringUTF16" = some m.cls := findClass_of_methodNamed Bd.named
  have hnm := (name_of_methodNamed Bd.named Bd.method).1
  have X0 : Stand p l e ({ frames := 0, cells := 0, slots := 0, locals := 0 } : Room) s m #[(.ref r), (.int (0 : Int32)), (.ref b), (.int (0 : Int32)), (.int (1 : Int32))] below meth c s₁ [] 0 0 := Stand.of_body Bd
  have e0 : s₁.heap = h0 := by rw [← hh, Bd.state]; rfl
  have N0 := Fr.nil n0
  refine own_close (s := s) (Q := (own_Q_own_c5_1 Z r kr b kb c0 c1 c2 h0 n0)) (C := (({ frames := 0, cells := 0, slots := 0, locals := 0 } : Room)).cells) (N := (({ frames := 0, cells := 0, slots := 0, locals := 0 } : Room)).slots) (own_st (fun _ kt => castTop (own_ef7 m r (0 : Int32) b (0 : Int32) (1 : Int32)) kt) ?_)
  have K0 := Keep.refl h0 [b]
  show own_Rch p e below _ s₁ (mkF m 0 #[.val (.ref r), .val (.int (0 : Int32)), .val (.ref b), .val (.int (0 : Int32)), .val (.int (1 : Int32)), .unset, .unset] [])
  refine own_st (fun _ kt => XS.iconst X0.here hx rfl (hb hby own_d7_0) kt) ?_
  show own_Rch p e below _ s₁ (mkF m 1 #[.val (.ref r), .val (.int (0 : Int32)), .val (.ref b), .val (.int (0 : Int32)), .val (.int (1 : Int32)), .unset, .unset] [(.int (0 : Int32))])
  refine own_st (fun _ kt => XS.istore X0.here hx rfl (hb hby own_d7_1) rfl (l' := #[.val (.ref r), .val (.int (0 : Int32)), .val (.ref b), .val (.int (0 : Int32)), .val (.int (1 : Int32)), .val (.int (0 : Int32)), .unset]) rfl kt) ?_
  show own_Rch p e below _ s₁ (mkF m 3 #[.val (.ref r), .val (.int (0 : Int32)), .val (.ref b), .val (.int (0 : Int32)), .val (.int (1 : Int32)), .val (.int (0 : Int32)), .unset] [])
  refine own_st (fun _ kt => XS.iload X0.here hx rfl (hb hby own_d7_3) rfl  kt) ?_
  show own_Rch p e below _ s₁ (mkF m 5 #[.val (.ref r), .val (.int (0 : Int32)), .val (.ref b), .val (.int (0 : Int32)), .val (.int (1 : Int32)), .val (.int (0 : Int32)), .unset] [(.int (0 : Int32))])
  refine own_st (fun _ kt => XS.iload X0.here hx rfl (hb hby own_d7_5) rfl  kt) ?_
  show own_Rch p e below _ s₁ (mkF m 7 #[.val (.ref r), .val (.int (0 : Int32)), .val (.ref b), .val (.int (0 : Int32)), .val (.int (1 : Int32)), .val (.int (0 : Int32)), .unset] [(.int (1 : Int32)), (.int (0 : Int32))])
  refine own_st (fun _ kt => XS.icmpNo X0.here hx rfl (hb hby own_d7_7) rfl (tlt ((by decide) : (0 : Int32) < (1 : Int32))).2.1 kt) ?_
  show own_Rch p e below _ s₁ (mkF m 10 #[.val (.ref r), .val (.int (0 : Int32)), .val (.ref b), .val (.int (0 : Int32)), .val (.int (1 : Int32)), .val (.int (0 : Int32)), .unset] [])
  refine own_st (fun _ kt => XS.aloadN X0.here hx rfl (hb hby own_d7_10) rfl rfl  kt) ?_
  show own_Rch p e below _ s₁ (mkF m 11 #[.val (.ref r), .val (.int (0 : Int32)), .val (.ref b), .val (.int (0 : Int32)), .val (.int (1 : Int32)), .val (.int (0 : Int32)), .unset] [(.ref r)])
  refine own_st (fun _ kt => XS.iloadN X0.here hx rfl (hb hby own_d7_11) rfl  kt) ?_
  show own_Rch p e below _ s₁ (mkF m 12 #[.val (.ref r), .val (.int (0 : Int32)), .val (.ref b), .val (.int (0 : Int32)), .val (.int (1 : Int32)), .val (.int (0 : Int32)), .unset] [(.int (0 : Int32)), (.ref r)])
  obtain ⟨cl1, Ar1, q1, S1, M1, H1, G1⟩ := id VR
  have hin1 : ¬ ((0 : Int32) < 0 ∨ cl1.slots.size ≤ ((0 : Int32)).toNatClampNeg) := inb_of S1 ⟨by decide, by decide⟩
  refine own_st (X0.caload hx (j := (0 : Int32)) (v := (.int (nar .char c0))) (by rw [e0]; exact Ar1.1) (State.isArrayOf_alike (hZ).alike Ar1.2.1) Ar1.2.2 hin1 (H1.at hin1 rfl) (g := (mkF m 12 #[.val (.ref r), .val (.int (0 : Int32)), .val (.ref b), .val (.int (0 : Int32)), .val (.int (1 : Int32)), .val (.int (0 : Int32)), .unset] [(.int (0 : Int32)), (.ref r)])) rfl rfl (hb hby own_d7_12)) ?_
  show own_Rch p e below _ s₁ (mkF m 13 #[.val (.ref r), .val (.int (0 : Int32)), .val (.ref b), .val (.int (0 : Int32)), .val (.int (1 : Int32)), .val (.int (0 : Int32)), .unset] [(.int (nar .char c0))])
  refine own_st (fun _ kt => XS.istore X0.here hx rfl (hb hby own_d7_13) rfl (l' := #[.val (.ref r), .val (.int (0 : Int32)), .val (.ref b), .val (.int (0 : Int32)), .val (.int (1 : Int32)), .val (.int (0 : Int32)), .val (.int (nar .char c0))]) rfl kt) ?_
  show own_Rch p e below _ s₁ (mkF m 15 #[.val (.ref r), .val (.int (0 : Int32)), .val (.ref b), .val (.int (0 : Int32)), .val (.int (1 : Int32)), .val (.int (0 : Int32)), .val (.int (nar .char c0))] [])
  refine own_st (fun _ kt => XS.iload X0.here hx rfl (hb hby own_d7_15) rfl  kt) ?_
  show own_Rch p e below _ s₁ (mkF m 17 #[.val (.ref r), .val (.int (0 : Int32)), .val (.ref b), .val (.int (0 : Int32)), .val (.int (1 : Int32)), .val (.int (0 : Int32)), .val (.int (nar .char c0))] [(.int (nar .char c0))])
  refine own_st (fun _ kt => XS.sipush X0.here hx rfl (hb hby own_d7_17) kt) ?_
  show own_Rch p e below _ s₁ (mkF m 20 #[.val (.ref r), .val (.int (0 : Int32)), .val (.ref b), .val (.int (0 : Int32)), .val (.int (1 : Int32)), .val (.int (0 : Int32)), .val (.int (nar .char c0))] [(.int (255 : Int32)), (.int (nar .char c0))])
  refine own_st (fun _ kt => XS.icmpYes X0.here hx rfl (pc0 := 20) (pc' := 26) rfl (hb hby own_d7_20) rfl (flt (own_big hc0 : ¬ ((255 : Int32) < (nar .char c0)))).2.2.2 (by decide) (by decide) kt) ?_
  show own_Rch p e below _ s₁ (mkF m 26 #[.val (.ref r), .val (.int (0 : Int32)), .val (.ref b), .val (.int (0 : Int32)), .val (.int (1 : Int32)), .val (.int (0 : Int32)), .val (.int (nar .char c0))] [])
  refine own_st (fun _ kt => XS.aloadN X0.here hx rfl (hb hby own_d7_26) rfl rfl  kt) ?_
  show own_Rch p e below _ s₁ (mkF m 27 #[.val (.ref r), .val (.int (0 : Int32)), .val (.ref b), .val (.int (0 : Int32)), .val (.int (1 : Int32)), .val (.int (0 : Int32)), .val (.int (nar .char c0))] [(.ref b)])
  refine own_st (fun _ kt => XS.iloadN X0.here hx rfl (hb hby own_d7_27) rfl  kt) ?_
  show own_Rch p e below _ s₁ (mkF m 28 #[.val (.ref r), .val (.int (0 : Int32)), .val (.ref b), .val (.int (0 : Int32)), .val (.int (1 : Int32)), .val (.int (0 : Int32)), .val (.int (nar .char c0))] [(.int (0 : Int32)), (.ref b)])
  refine own_st (fun _ kt => XS.iload X0.here hx rfl (hb hby own_d7_28) rfl  kt) ?_
  show own_Rch p e below _ s₁ (mkF m 30 #[.val (.ref r), .val (.int (0 : Int32)), .val (.ref b), .val (.int (0 : Int32)), .val (.int (1 : Int32)), .val (.int (0 : Int32)), .val (.int (nar .char c0))] [(.int (nar .char c0)), (.int (0 : Int32)), (.ref b)])
  refine own_st (fun _ kt => XS.i2b X0.here hx rfl (hb hby own_d7_30) rfl kt) ?_
  show own_Rch p e below _ s₁ (mkF m 31 #[.val (.ref r), .val (.int (0 : Int32)), .val (.ref b), .val (.int (0 : Int32)), .val (.int (1 : Int32)), .val (.int (0 : Int32)), .val (.int (nar .char c0))] [(.int ((nar .char c0).toInt8.toInt32)), (.int (0 : Int32)), (.ref b)])
  obtain ⟨cl2, Ar2, q2, S2, M2, H2, G2⟩ := id VB
  have hin2 : ¬ ((0 : Int32) < 0 ∨ cl2.slots.size ≤ ((0 : Int32)).toNatClampNeg) := inb_of S2 ⟨by decide, by decide⟩
  obtain ⟨T2, h2, X2, e2, W2, st2⟩ := stB X0 hx hZ e0 Ar2 (j := (0 : Int32)) hin2 (g := (mkF m 31 #[.val (.ref r), .val (.int (0 : Int32)), .val (.ref b), .val (.int (0 : Int32)), .val (.int (1 : Int32)), .val (.int (0 : Int32)), .val (.int (nar .char c0))] [(.int ((nar .char c0).toInt8.toInt32)), (.int (0 : Int32)), (.ref b)])) rfl rfl (hb hby own_d7_31)
  have V2 := Arv.set Ar2 q2 S2 M2 H2 G2 (fits_nar_byte _) W2 0 rfl (Nat.le_of_ble_eq_true rfl)
  have V2s : Arv Z h2 b kb .byte (1 : Int32) [(.int (nar .byte ((nar .char c0).toInt8.toInt32)))] (.int (0 : Int32)) := V2
  have N2 := Fr.snoc X2 N0 gb
  refine own_st st2 ?_
  have O0_x2 := O0.wr W2 gb
  have VR_x2 := VR.other W2 hrb
  have K0_x2 := K0.wr W2 (Or.inl (List.mem_of_getElem? (i := 0) rfl))
  show own_Rch p e below _ T2 (mkF m 32 #[.val (.ref r), .val (.int (0 : Int32)), .val (.ref b), .val (.int (0 : Int32)), .val (.int (1 : Int32)), .val (.int (0 : Int32)), .val (.int (nar .char c0))] [])
  refine own_st (fun _ kt => XS.iinc X2.here hx rfl (hb hby own_d7_32) rfl (l' := #[.val (.ref r), .val (.int (1 : Int32)), .val (.ref b), .val (.int (0 : Int32)), .val (.int (1 : Int32)), .val (.int (0 : Int32)), .val (.int (nar .char c0))]) rfl kt) ?_
  show own_Rch p e below _ T2 (mkF m 35 #[.val (.ref r), .val (.int (1 : Int32)), .val (.ref b), .val (.int (0 : Int32)), .val (.int (1 : Int32)), .val (.int (0 : Int32)), .val (.int (nar .char c0))] [])
  refine own_st (fun _ kt => XS.iinc X2.here hx rfl (hb hby own_d7_35) rfl (l' := #[.val (.ref r), .val (.int (1 : Int32)), .val (.ref b), .val (.int (1 : Int32)), .val (.int (1 : Int32)), .val (.int (0 : Int32)), .val (.int (nar .char c0))]) rfl kt) ?_
  show own_Rch p e below _ T2 (mkF m 38 #[.val (.ref r), .val (.int (1 : Int32)), .val (.ref b), .val (.int (1 : Int32)), .val (.int (1 : Int32)), .val (.int (0 : Int32)), .val (.int (nar .char c0))] [])
  refine own_st (fun _ kt => XS.iinc X2.here hx rfl (hb hby own_d7_38) rfl (l' := #[.val (.ref r), .val (.int (1 : Int32)), .val (.ref b), .val (.int (1 : Int32)), .val (.int (1 : Int32)), .val (.int (1 : Int32)), .val (.int (nar .char c0))]) rfl kt) ?_
  show own_Rch p e below _ T2 (mkF m 41 #[.val (.ref r), .val (.int (1 : Int32)), .val (.ref b), .val (.int (1 : Int32)), .val (.int (1 : Int32)), .val (.int (1 : Int32)), .val (.int (nar .char c0))] [])
  refine own_st (fun _ kt => XS.goto X2.here hx rfl (pc0 := 41) (pc' := 3) rfl (hb hby own_d7_41) (by decide) (by decide) kt) ?_
  show own_Rch p e below _ T2 (mkF m 3 #[.val (.ref r), .val (.int (1 : Int32)), .val (.ref b), .val (.int (1 : Int32)), .val (.int (1 : Int32)), .val (.int (1 : Int32)), .val (.int (nar .char c0))] [])
  refine own_st (fun _ kt => XS.iload X2.here hx rfl (hb hby own_d7_3) rfl  kt) ?_
  show own_Rch p e below _ T2 (mkF m 5 #[.val (.ref r), .val (.int (1 : Int32)), .val (.ref b), .val (.int (1 : Int32)), .val (.int (1 : Int32)), .val (.int (1 : Int32)), .val (.int (nar .char c0))] [(.int (1 : Int32))])
  refine own_st (fun _ kt => XS.iload X2.here hx rfl (hb hby own_d7_5) rfl  kt) ?_
  show own_Rch p e below _ T2 (mkF m 7 #[.val (.ref r), .val (.int (1 : Int32)), .val (.ref b), .val (.int (1 : Int32)), .val (.int (1 : Int32)), .val (.int (1 : Int32)), .val (.int (nar .char c0))] [(.int (1 : Int32)), (.int (1 : Int32))])
  refine own_st (fun _ kt => XS.icmpYes X2.here hx rfl (pc0 := 7) (pc' := 44) rfl (hb hby own_d7_7) rfl (flt ((by decide) : ¬ ((1 : Int32) < (1 : Int32)))).2.1 (by decide) (by decide) kt) ?_
  show own_Rch p e below _ T2 (mkF m 44 #[.val (.ref r), .val (.int (1 : Int32)), .val (.ref b), .val (.int (1 : Int32)), .val (.int (1 : Int32)), .val (.int (1 : Int32)), .val (.int (nar .char c0))] [])
  refine own_st (fun _ kt => XS.iload X2.here hx rfl (hb hby own_d7_44) rfl  kt) ?_
  show own_Rch p e below _ T2 (mkF m 46 #[.val (.ref r), .val (.int (1 : Int32)), .val (.ref b), .val (.int (1 : Int32)), .val (.int (1 : Int32)), .val (.int (1 : Int32)), .val (.int (nar .char c0))] [(.int (1 : Int32))])
  refine own_retI X2 hx Bd.notSynchronized Bd.returns (hb hby own_d7_46) (by decide) (by decide) ?_
  rw [e2]
  exact ⟨rfl, N2, K0_x2, V2s⟩
theorem own_ef6 (m : MethodId) (x0 : Addr) (x1 : Int32) (x2 : Int32) : entryFrame m #[(.ref x0), (.int x1), (.int x2)] 6 = mkF m 0 #[.val (.ref x0), .val (.int x1), .val (.int x2), .unset, .unset, .unset] [] := by first | (simp [entryFrame, mkF, argsToLocals, Value.category]; done) | rfl
theorem own_d6_0 : decode jdk_52_method_16_code 0 = .ok (.iload_n 2, 1) := by decide +kernel
theorem own_d6_1 : decode jdk_52_method_16_code 1 = .ok (.newarray .byte, 2) := by decide +kernel
theorem own_d6_3 : decode jdk_52_method_16_code 3 = .ok (.astore_n 3, 1) := by decide +kernel
theorem own_d6_4 : decode jdk_52_method_16_code 4 = .ok (.aload_n 0, 1) := by decide +kernel
theorem own_d6_5 : decode jdk_52_method_16_code 5 = .ok (.iload_n 1, 1) := by decide +kernel
theorem own_d6_6 : decode jdk_52_method_16_code 6 = .ok (.aload_n 3, 1) := by decide +kernel
theorem own_d6_7 : decode jdk_52_method_16_code 7 = .ok (.iconst 0, 1) := by decide +kernel
theorem own_d6_8 : decode jdk_52_method_16_code 8 = .ok (.iload_n 2, 1) := by decide +kernel
theorem own_d6_9 : decode jdk_52_method_16_code 9 = .ok (.invokestatic 115, 3) := by decide +kernel
theorem own_pd1 : parseMethodDescriptor "([CI[BII)I" = some ⟨[(.array .char), .int, (.array .byte), .int, .int], some .int⟩ := by decide +kernel
theorem own_d6_12 : decode jdk_52_method_16_code 12 = .ok (.istore 4, 2) := by decide +kernel
theorem own_d6_14 : decode jdk_52_method_16_code 14 = .ok (.iload 4, 2) := by decide +kernel
theorem own_d6_16 : decode jdk_52_method_16_code 16 = .ok (.iload_n 2, 1) := by decide +kernel
theorem own_d6_17 : decode jdk_52_method_16_code 17 = .ok (.if_icmp .eq 40, 3) := by decide +kernel
theorem own_d6_57 : decode jdk_52_method_16_code 57 = .ok (.aload_n 3, 1) := by decide +kernel
theorem own_d6_58 : decode jdk_52_method_16_code 58 = .ok (.areturn, 1) := by decide +kernel
def own_Q_own_c3_1 (Z : State) (r : Addr) (kr : ClassId) (c0 : Int32) (c1 : Int32) (c2 : Int32) (h0 : Heap) (n0 : Nat) (v : Option Value) (h : Heap) (L : List Loc) : Prop := ∃ (b : Addr) (kb : ClassId), v = some (.ref b) ∧ Fr n0 L ∧ Keep h0 h [] ∧ h0.size ≤ b ∧ Arv Z h b kb .byte (1 : Int32) [(.int (own_b c0))] (.int (0 : Int32))
set_option maxRecDepth 65536 in
set_option maxHeartbeats 40000000 in
theorem own_c3_1 (l : Launch) (Z : State) (a0 : Array Value) (hw : ∀ d ∈ tables_1, d.before a0 Z = true) (ws : List Jvm.Cond) (r : Addr) (kr : ClassId) (c0 : Int32) (c1 : Int32) (c2 : Int32) (h0 : Heap) (n0 : Nat) (O0 : Old Z n0 h0) (VR : Arv Z h0 r kr .char (1 : Int32) [(.int (nar .char c0))] (.int (0 : Int32))) (hc0 : own_ch c0) (hc1 : own_ch c1) (hc2 : own_ch c2) :
    MetFree l (⟨"java/lang/StringUTF16", "compress", "([CII)[B"⟩ : MethodName) (head1 (Jvm.Cond.code (⟨"java/lang/StringUTF16", "compress", "([CII)[B"⟩ : MethodName) jdk_52_method_16_code 6 (some (.array .byte)) :: ws) ({ frames := 1, cells := 1, slots := 1, locals := 18 } : Room)) (fun args_ U => args_ = #[(.ref r), (.int (0 : Int32)), (.int (1 : Int32))] ∧ Z.Warmed39 U.vm ∧ U.heap = h0) (fun _ _ _ _ _ => True) (fun _ U o U' => ∃ v L, o = .returned v ∧ (own_Q_own_c3_1 Z r kr c0 c1 c2 h0 n0) v U'.heap L ∧ FrameEnd U o U' L ({ frames := 1, cells := 1, slots := 1, locals := 18 } : Room).cells ({ frames := 1, cells := 1, slots := 1, locals := 18 } : Room).slots) := by
  refine MetFree.of_bodySF (plainFor_of_name own_pn2) hisR ?_
  intro p e s m args below meth c s₁ Bd hml0 hP hK
  obtain ⟨rfl, hZ, hh⟩ := hP
  have hx := Bd.exec
  have hby := Bd.bytes
  have hml : c.maxLocals = 6 := hml0
  have hown : s.vm.findClass "java/lang/StringUTF16" = some m.cls := findClass_of_methodNamed Bd.named
  have hnm := (name_of_methodNamed Bd.named Bd.method).1
  have X0 : Stand p l e ({ frames := 1, cells := 1, slots := 1, locals := 18 } : Room) s m #[(.ref r), (.int (0 : Int32)), (.int (1 : Int32))] below meth c s₁ [] 0 0 := Stand.of_body Bd
  have e0 : s₁.heap = h0 := by rw [← hh, Bd.state]; rfl
  have N0 := Fr.nil n0
  refine own_close (s := s) (Q := (own_Q_own_c3_1 Z r kr c0 c1 c2 h0 n0)) (C := (({ frames := 1, cells := 1, slots := 1, locals := 18 } : Room)).cells) (N := (({ frames := 1, cells := 1, slots := 1, locals := 18 } : Room)).slots) (own_st (fun _ kt => castTop (own_ef6 m r (0 : Int32) (1 : Int32)) kt) ?_)
  have K0 := Keep.refl h0 []
  show own_Rch p e below _ s₁ (mkF m 0 #[.val (.ref r), .val (.int (0 : Int32)), .val (.int (1 : Int32)), .unset, .unset, .unset] [])
  refine own_st (fun _ kt => XS.iloadN X0.here hx rfl (hb hby own_d6_0) rfl  kt) ?_
  show own_Rch p e below _ s₁ (mkF m 1 #[.val (.ref r), .val (.int (0 : Int32)), .val (.int (1 : Int32)), .unset, .unset, .unset] [(.int (1 : Int32))])
  obtain ⟨T1, h1, k1, X1, e1, E1, A1, st1⟩ := newP X0 hx hZ (hw _ (List.mem_of_getElem? (i := 26) rfl)) e0 (g := (mkF m 1 #[.val (.ref r), .val (.int (0 : Int32)), .val (.int (1 : Int32)), .unset, .unset, .unset] [(.int (1 : Int32))])) rfl (hb hby own_d6_1) rfl (by decide) (cap := 1) (by decide) (by decide) (by decide) (by decide)
  obtain ⟨b1, g1⟩ : ∃ z, z = h0.size := ⟨_, rfl⟩
  rw [← g1] at A1 st1
  have ge1 : n0 ≤ b1 := by rw [g1]; exact own_old_le O0
  have ne1_r : r ≠ b1 := by rw [g1]; exact Nat.ne_of_lt VR.lt
  have sz1 : h0.size ≤ b1 := by rw [g1]; exact K0.1
  have O0_x1 := O0.ext E1
  have VR_x1 := VR.ext E1
  have K0_x1 := K0.ext E1
  refine own_st st1 ?_
  have V1 := Arv.new A1 (by decide)
  have V1p : Arv Z h1 b1 k1 .byte (1 : Int32) [(.int (0 : Int32))] (.int (0 : Int32)) := V1.pad (pad_rep [] (.int (0 : Int32)) 1)
  show own_Rch p e below _ T1 (mkF m 3 #[.val (.ref r), .val (.int (0 : Int32)), .val (.int (1 : Int32)), .unset, .unset, .unset] [(.ref b1)])
  refine own_st (fun _ kt => XS.astoreN X1.here hx rfl (hb hby own_d6_3) rfl rfl (l' := #[.val (.ref r), .val (.int (0 : Int32)), .val (.int (1 : Int32)), .val (.ref b1), .unset, .unset]) rfl kt) ?_
  show own_Rch p e below _ T1 (mkF m 4 #[.val (.ref r), .val (.int (0 : Int32)), .val (.int (1 : Int32)), .val (.ref b1), .unset, .unset] [])
  refine own_st (fun _ kt => XS.aloadN X1.here hx rfl (hb hby own_d6_4) rfl rfl  kt) ?_
  show own_Rch p e below _ T1 (mkF m 5 #[.val (.ref r), .val (.int (0 : Int32)), .val (.int (1 : Int32)), .val (.ref b1), .unset, .unset] [(.ref r)])
  refine own_st (fun _ kt => XS.iloadN X1.here hx rfl (hb hby own_d6_5) rfl  kt) ?_
  show own_Rch p e below _ T1 (mkF m 6 #[.val (.ref r), .val (.int (0 : Int32)), .val (.int (1 : Int32)), .val (.ref b1), .unset, .unset] [(.int (0 : Int32)), (.ref r)])
  refine own_st (fun _ kt => XS.aloadN X1.here hx rfl (hb hby own_d6_6) rfl rfl  kt) ?_
  show own_Rch p e below _ T1 (mkF m 7 #[.val (.ref r), .val (.int (0 : Int32)), .val (.int (1 : Int32)), .val (.ref b1), .unset, .unset] [(.ref b1), (.int (0 : Int32)), (.ref r)])
  refine own_st (fun _ kt => XS.iconst X1.here hx rfl (hb hby own_d6_7) kt) ?_
  show own_Rch p e below _ T1 (mkF m 8 #[.val (.ref r), .val (.int (0 : Int32)), .val (.int (1 : Int32)), .val (.ref b1), .unset, .unset] [(.int (0 : Int32)), (.ref b1), (.int (0 : Int32)), (.ref r)])
  refine own_st (fun _ kt => XS.iloadN X1.here hx rfl (hb hby own_d6_8) rfl  kt) ?_
  show own_Rch p e below _ T1 (mkF m 9 #[.val (.ref r), .val (.int (0 : Int32)), .val (.int (1 : Int32)), .val (.ref b1), .unset, .unset] [(.int (1 : Int32)), (.int (0 : Int32)), (.ref b1), (.int (0 : Int32)), (.ref r)])
  obtain ⟨_, _, ⟨T2, L2, k2, n2⟩, -, X2, ⟨Lc2, hQ2, l2, y2, z2⟩, st2⟩ := Jvm.LawKit.callS X1 hx (y := (⟨"java/lang/StringUTF16", "compress", "([CI[BII)I"⟩ : MethodName)) hown (mvT hZ (hw _ (List.mem_of_getElem? (i := 27) rfl))) (mvT hZ (hw _ (List.mem_of_getElem? (i := 28) rfl))) (mvT hZ (hw _ (List.mem_of_getElem? (i := 24) rfl))) (mvT hZ (hw _ (List.mem_of_getElem? (i := 29) rfl))) (by decide) (backOf (W := 0) (own_c5_1 l Z a0 hw [] r kr b1 k1 c0 c1 c2 h1 n0 O0_x1 VR_x1 V1p ge1 ne1_r hc0 hc1 hc2) hZ (hw _ (List.mem_of_getElem? (i := 29) rfl)) (hw _ (List.mem_of_getElem? (i := 24) rfl)) (by decide) (by decide)) (g := (mkF m 9 #[.val (.ref r), .val (.int (0 : Int32)), .val (.int (1 : Int32)), .val (.ref b1), .unset, .unset] [(.int (1 : Int32)), (.int (0 : Int32)), (.ref b1), (.int (0 : Int32)), (.ref r)])) rfl (by rw [hml]; rfl) (argsL := [(.ref r), (.int (0 : Int32)), (.ref b1), (.int (0 : Int32)), (.int (1 : Int32))]) (rest := []) (lenOf own_pd1 rfl) rfl (by show 2 * 0 + _ ≤ _; exact Nat.le_of_eq rfl) (hb hby own_d6_9) (fun _ _ => ⟨rfl, e1, (by decide : 1 + 0 ≤ _), (by decide : 1 + 0 ≤ _)⟩)
  dsimp only [Pt.U, Pt.locs, Pt.cells, Pt.slots] at X2 l2 y2 z2 st2 hQ2
  subst l2 y2 z2
  obtain ⟨rfl, N2q, K2, Vb2⟩ := hQ2
  have N2 := Fr.app N0 N2q
  refine own_st st2 ?_
  have O0_x2 := O0_x1.keep K2 (allS ge1 all0)
  have VR_x2 := VR_x1.keep K2 (ninS ne1_r nin0)
  have K0_x2 := K0_x1.trans K2 (allS (Or.inr sz1) all0)
  show own_Rch p e below _ T2 (mkF m 12 #[.val (.ref r), .val (.int (0 : Int32)), .val (.int (1 : Int32)), .val (.ref b1), .unset, .unset] [(.int (1 : Int32))])
  refine own_st (fun _ kt => XS.istore X2.here hx rfl (hb hby own_d6_12) rfl (l' := #[.val (.ref r), .val (.int (0 : Int32)), .val (.int (1 : Int32)), .val (.ref b1), .val (.int (1 : Int32)), .unset]) rfl kt) ?_
  show own_Rch p e below _ T2 (mkF m 14 #[.val (.ref r), .val (.int (0 : Int32)), .val (.int (1 : Int32)), .val (.ref b1), .val (.int (1 : Int32)), .unset] [])
  refine own_st (fun _ kt => XS.iload X2.here hx rfl (hb hby own_d6_14) rfl  kt) ?_
  show own_Rch p e below _ T2 (mkF m 16 #[.val (.ref r), .val (.int (0 : Int32)), .val (.int (1 : Int32)), .val (.ref b1), .val (.int (1 : Int32)), .unset] [(.int (1 : Int32))])
  refine own_st (fun _ kt => XS.iloadN X2.here hx rfl (hb hby own_d6_16) rfl  kt) ?_
  show own_Rch p e below _ T2 (mkF m 17 #[.val (.ref r), .val (.int (0 : Int32)), .val (.int (1 : Int32)), .val (.ref b1), .val (.int (1 : Int32)), .unset] [(.int (1 : Int32)), (.int (1 : Int32))])
  refine own_st (fun _ kt => XS.icmpYes X2.here hx rfl (pc0 := 17) (pc' := 57) rfl (hb hby own_d6_17) rfl (teq (rfl : (1 : Int32) = (1 : Int32))).1 (by decide) (by decide) kt) ?_
  show own_Rch p e below _ T2 (mkF m 57 #[.val (.ref r), .val (.int (0 : Int32)), .val (.int (1 : Int32)), .val (.ref b1), .val (.int (1 : Int32)), .unset] [])
  refine own_st (fun _ kt => XS.aloadN X2.here hx rfl (hb hby own_d6_57) rfl rfl  kt) ?_
  show own_Rch p e below _ T2 (mkF m 58 #[.val (.ref r), .val (.int (0 : Int32)), .val (.int (1 : Int32)), .val (.ref b1), .val (.int (1 : Int32)), .unset] [(.ref b1)])
  refine own_retA rfl rfl X2 hx Bd.notSynchronized Bd.returns (hb hby own_d6_58) (by decide) (by decide) ?_
  exact ⟨_, _, rfl, N2, K0_x2, sz1, Vb2⟩
theorem own_ef8 (m : MethodId) (x0 : Addr) (x1 : Int32) : entryFrame m #[(.ref x0), (.int x1)] 2 = mkF m 0 #[.val (.ref x0), .val (.int x1)] [] := by first | (simp [entryFrame, mkF, argsToLocals, Value.category]; done) | rfl
theorem own_d8_0 : decode jdk_52_method_15_code 0 = .ok (.iload_n 1, 1) := by decide +kernel
theorem own_d8_1 : decode jdk_52_method_15_code 1 = .ok (.aload_n 0, 1) := by decide +kernel
theorem own_d8_2 : decode jdk_52_method_15_code 2 = .ok (.arraylength, 1) := by decide +kernel
theorem own_d8_3 : decode jdk_52_method_15_code 3 = .ok (.isub, 1) := by decide +kernel
theorem own_d8_4 : decode jdk_52_method_15_code 4 = .ok (.bipush 31, 2) := by decide +kernel
theorem own_d8_6 : decode jdk_52_method_15_code 6 = .ok (.iushr, 1) := by decide +kernel
theorem own_d8_7 : decode jdk_52_method_15_code 7 = .ok (.i2b, 1) := by decide +kernel
theorem own_d8_8 : decode jdk_52_method_15_code 8 = .ok (.ireturn, 1) := by decide +kernel
def own_Q_own_cf_1 (Z : State) (b : Addr) (kb : ClassId) (vs : List Value) (h0 : Heap) (n0 : Nat) (v : Option Value) (h : Heap) (L : List Loc) : Prop := v = some (.int (0 : Int32)) ∧ Fr n0 L ∧ h = h0
set_option maxRecDepth 65536 in
set_option maxHeartbeats 40000000 in
theorem own_cf_1 (l : Launch) (Z : State) (a0 : Array Value) (hw : ∀ d ∈ tables_1, d.before a0 Z = true) (ws : List Jvm.Cond) (b : Addr) (kb : ClassId) (vs : List Value) (h0 : Heap) (n0 : Nat) (O0 : Old Z n0 h0) (VB : Arv Z h0 b kb .byte (1 : Int32) vs (.int (0 : Int32))) :
    MetFree l (⟨"java/lang/StringUTF16", "coderFromArrayLen", "([BI)B"⟩ : MethodName) (head1 (Jvm.Cond.code (⟨"java/lang/StringUTF16", "coderFromArrayLen", "([BI)B"⟩ : MethodName) jdk_52_method_15_code 2 (some .byte) :: ws) ({ frames := 0, cells := 0, slots := 0, locals := 0 } : Room)) (fun args_ U => args_ = #[(.ref b), (.int (1 : Int32))] ∧ Z.Warmed39 U.vm ∧ U.heap = h0) (fun _ _ _ _ _ => True) (fun _ U o U' => ∃ v L, o = .returned v ∧ (own_Q_own_cf_1 Z b kb vs h0 n0) v U'.heap L ∧ FrameEnd U o U' L ({ frames := 0, cells := 0, slots := 0, locals := 0 } : Room).cells ({ frames := 0, cells := 0, slots := 0, locals := 0 } : Room).slots) := by
  refine MetFree.of_bodySF (plainFor_of_name own_pn2) hisR ?_
  intro p e s m args below meth c s₁ Bd hml0 hP hK
  obtain ⟨rfl, hZ, hh⟩ := hP
  have hx := Bd.exec
  have hby := Bd.bytes
  have hml : c.maxLocals = 2 := hml0
  have hown : s.vm.findClass "java/lang/StringUTF16" = some m.cls := findClass_of_methodNamed Bd.named
  have hnm := (name_of_methodNamed Bd.named Bd.method).1
  have X0 : Stand p l e ({ frames := 0, cells := 0, slots := 0, locals := 0 } : Room) s m #[(.ref b), (.int (1 : Int32))] below meth c s₁ [] 0 0 := Stand.of_body Bd
  have e0 : s₁.heap = h0 := by rw [← hh, Bd.state]; rfl
  have N0 := Fr.nil n0
  refine own_close (s := s) (Q := (own_Q_own_cf_1 Z b kb vs h0 n0)) (C := (({ frames := 0, cells := 0, slots := 0, locals := 0 } : Room)).cells) (N := (({ frames := 0, cells := 0, slots := 0, locals := 0 } : Room)).slots) (own_st (fun _ kt => castTop (own_ef8 m b (1 : Int32)) kt) ?_)
  show own_Rch p e below _ s₁ (mkF m 0 #[.val (.ref b), .val (.int (1 : Int32))] [])
  refine own_st (fun _ kt => XS.iloadN X0.here hx rfl (hb hby own_d8_0) rfl  kt) ?_
  show own_Rch p e below _ s₁ (mkF m 1 #[.val (.ref b), .val (.int (1 : Int32))] [(.int (1 : Int32))])
  refine own_st (fun _ kt => XS.aloadN X0.here hx rfl (hb hby own_d8_1) rfl rfl  kt) ?_
  show own_Rch p e below _ s₁ (mkF m 2 #[.val (.ref b), .val (.int (1 : Int32))] [(.ref b), (.int (1 : Int32))])
  obtain ⟨cl1, Ar1, -, S1, M1, -, -⟩ := id VB
  refine own_st (X0.arraylength hx (by rw [e0]; exact Ar1.1) (State.isArrayOf_alike (hZ).alike Ar1.2.1) (g := (mkF m 2 #[.val (.ref b), .val (.int (1 : Int32))] [(.ref b), (.int (1 : Int32))])) rfl rfl (hb hby own_d8_2)) ?_
  rw [len_of S1 M1]
  show own_Rch p e below _ s₁ (mkF m 3 #[.val (.ref b), .val (.int (1 : Int32))] [(.int (1 : Int32)), (.int (1 : Int32))])
  refine own_st (fun _ kt => XS.isub X0.here hx rfl (hb hby own_d8_3) rfl kt) ?_
  show own_Rch p e below _ s₁ (mkF m 4 #[.val (.ref b), .val (.int (1 : Int32))] [(.int (0 : Int32))])
  refine own_st (fun _ kt => XS.bipush X0.here hx rfl (hb hby own_d8_4) kt) ?_
  show own_Rch p e below _ s₁ (mkF m 6 #[.val (.ref b), .val (.int (1 : Int32))] [(.int (31 : Int32)), (.int (0 : Int32))])
  refine own_st (fun _ kt => XS.iushr X0.here hx rfl (hb hby own_d8_6) rfl kt) ?_
  show own_Rch p e below _ s₁ (mkF m 7 #[.val (.ref b), .val (.int (1 : Int32))] [(.int (((0 : Int32).toUInt32 >>> ((31 : Int32) &&& 31).toUInt32).toInt32))])
  refine own_st (fun _ kt => XS.i2b X0.here hx rfl (hb hby own_d8_7) rfl kt) ?_
  show own_Rch p e below _ s₁ (mkF m 8 #[.val (.ref b), .val (.int (1 : Int32))] [(.int ((((0 : Int32).toUInt32 >>> ((31 : Int32) &&& 31).toUInt32).toInt32).toInt8.toInt32))])
  refine own_retN (t := .byte) (by simp) X0 hx Bd.notSynchronized Bd.returns (hb hby own_d8_8) (by decide) (by decide) ?_
  rw [e0]
  exact ⟨by decide, N0, rfl⟩
theorem own_ef4n4 (m : MethodId) (x0 : Addr) (x1 : Addr) (x2 : Int32) (x3 : Int32) : entryFrame m #[(.ref x0), (.ref x1), (.int x2), (.int x3), .null] 6 = mkF m 0 #[.val (.ref x0), .val (.ref x1), .val (.int x2), .val (.int x3), .val .null, .unset] [] := by first | (simp [entryFrame, mkF, argsToLocals, Value.category]; done) | rfl
theorem own_d4_0 : decode jdk_42_method_149_code 0 = .ok (.aload_n 0, 1) := by decide +kernel
theorem own_d4_1 : decode jdk_42_method_149_code 1 = .ok (.invokespecial 1, 3) := by decide +kernel
theorem own_d4_4 : decode jdk_42_method_149_code 4 = .ok (.iload_n 3, 1) := by decide +kernel
theorem own_d4_5 : decode jdk_42_method_149_code 5 = .ok (.ifCond .ne 22, 3) := by decide +kernel
theorem own_d4_27 : decode jdk_42_method_149_code 27 = .ok (.getstatic 38, 3) := by decide +kernel
theorem own_d4_30 : decode jdk_42_method_149_code 30 = .ok (.ifCond .eq 28, 3) := by decide +kernel
theorem own_d4_33 : decode jdk_42_method_149_code 33 = .ok (.aload_n 1, 1) := by decide +kernel
theorem own_d4_34 : decode jdk_42_method_149_code 34 = .ok (.iload_n 2, 1) := by decide +kernel
theorem own_d4_35 : decode jdk_42_method_149_code 35 = .ok (.iload_n 3, 1) := by decide +kernel
theorem own_d4_36 : decode jdk_42_method_149_code 36 = .ok (.invokestatic 177, 3) := by decide +kernel
theorem own_pd2 : parseMethodDescriptor "([CII)[B" = some ⟨[(.array .char), .int, .int], some (.array .byte)⟩ := by decide +kernel
theorem own_d4_39 : decode jdk_42_method_149_code 39 = .ok (.astore 5, 2) := by decide +kernel
theorem own_d4_41 : decode jdk_42_method_149_code 41 = .ok (.aload_n 0, 1) := by decide +kernel
theorem own_d4_42 : decode jdk_42_method_149_code 42 = .ok (.aload 5, 2) := by decide +kernel
theorem own_d4_44 : decode jdk_42_method_149_code 44 = .ok (.iload_n 3, 1) := by decide +kernel
theorem own_d4_45 : decode jdk_42_method_149_code 45 = .ok (.invokestatic 47, 3) := by decide +kernel
theorem own_pd3 : parseMethodDescriptor "([BI)B" = some ⟨[(.array .byte), .int], some .byte⟩ := by decide +kernel
theorem own_d4_48 : decode jdk_42_method_149_code 48 = .ok (.putfield 15, 3) := by decide +kernel
theorem own_d4_51 : decode jdk_42_method_149_code 51 = .ok (.aload_n 0, 1) := by decide +kernel
theorem own_d4_52 : decode jdk_42_method_149_code 52 = .ok (.aload 5, 2) := by decide +kernel
theorem own_d4_54 : decode jdk_42_method_149_code 54 = .ok (.putfield 9, 3) := by decide +kernel
theorem own_d4_57 : decode jdk_42_method_149_code 57 = .ok (.return_, 1) := by decide +kernel
def own_Q_own_i5_1 (Z : State) (a : Addr) (r : Addr) (kr : ClassId) (c0 : Int32) (c1 : Int32) (c2 : Int32) (cs : Int32) (h0 : Heap) (n0 : Nat) (v : Option Value) (h : Heap) (L : List Loc) : Prop := v = none ∧ Fr n0 L ∧ Keep h0 h [a] ∧ ∃ (y : Addr) (ky : ClassId), Exa Z h a "java/lang/String" ∧ Fld Z h a "java/lang/String" "value" "[B" (.ref y) ∧ Fld Z h a "java/lang/String" "coder" "B" (.int (0 : Int32)) ∧ Arv Z h y ky .byte (1 : Int32) [(.int (own_b c0))] (.int (0 : Int32))
set_option maxRecDepth 65536 in
set_option maxHeartbeats 40000000 in
theorem own_i5_1 (l : Launch) (Z : State) (a0 : Array Value) (hw : ∀ d ∈ tables_1, d.before a0 Z = true) (ws : List Jvm.Cond) (a : Addr) (r : Addr) (kr : ClassId) (c0 : Int32) (c1 : Int32) (c2 : Int32) (cs : Int32) (h0 : Heap) (n0 : Nat) (O0 : Old Z n0 h0) (SC : Sta Z Z.heap "java/lang/String" "COMPACT_STRINGS" "Z" (.int cs)) (hcs : ¬ cs = 0) (VR : Arv Z h0 r kr .char (1 : Int32) [(.int (nar .char c0))] (.int (0 : Int32))) (EA : Exa Z h0 a "java/lang/String") (FV : Fld Z h0 a "java/lang/String" "value" "[B" .null) (FC : Fld Z h0 a "java/lang/String" "coder" "B" (.int (0 : Int32))) (ga : n0 ≤ a) (hc0 : own_ch c0) (hc1 : own_ch c1) (hc2 : own_ch c2) :
    MetFree l (⟨"java/lang/String", "<init>", "([CIILjava/lang/Void;)V"⟩ : MethodName) (head1 (Jvm.Cond.code (⟨"java/lang/String", "<init>", "([CIILjava/lang/Void;)V"⟩ : MethodName) jdk_42_method_149_code 6 none :: ws) ({ frames := 2, cells := 1, slots := 1, locals := 35 } : Room)) (fun args_ U => args_ = #[(.ref a), (.ref r), (.int (0 : Int32)), (.int (1 : Int32)), .null] ∧ Z.Warmed39 U.vm ∧ U.heap = h0) (fun _ _ _ _ _ => True) (fun _ U o U' => ∃ v L, o = .returned v ∧ (own_Q_own_i5_1 Z a r kr c0 c1 c2 cs h0 n0) v U'.heap L ∧ FrameEnd U o U' L ({ frames := 2, cells := 1, slots := 1, locals := 35 } : Room).cells ({ frames := 2, cells := 1, slots := 1, locals := 35 } : Room).slots) := by
  refine MetFree.of_bodySF (plainFor_of_name own_pn1) hisR ?_
  intro p e s m args below meth c s₁ Bd hml0 hP hK
  obtain ⟨rfl, hZ, hh⟩ := hP
  have hx := Bd.exec
  have hby := Bd.bytes
  have hml : c.maxLocals = 6 := hml0
  have hown : s.vm.findClass "java/lang/String" = some m.cls := findClass_of_methodNamed Bd.named
  have hnm := (name_of_methodNamed Bd.named Bd.method).1
  have X0 : Stand p l e ({ frames := 2, cells := 1, slots := 1, locals := 35 } : Room) s m #[(.ref a), (.ref r), (.int (0 : Int32)), (.int (1 : Int32)), .null] below meth c s₁ [] 0 0 := Stand.of_body Bd
  have e0 : s₁.heap = h0 := by rw [← hh, Bd.state]; rfl
  have N0 := Fr.nil n0
  refine own_close (s := s) (Q := (own_Q_own_i5_1 Z a r kr c0 c1 c2 cs h0 n0)) (C := (({ frames := 2, cells := 1, slots := 1, locals := 35 } : Room)).cells) (N := (({ frames := 2, cells := 1, slots := 1, locals := 35 } : Room)).slots) (own_st (fun _ kt => castTop (own_ef4n4 m a r (0 : Int32) (1 : Int32)) kt) ?_)
  have K0 := Keep.refl h0 [a]
  show own_Rch p e below _ s₁ (mkF m 0 #[.val (.ref a), .val (.ref r), .val (.int (0 : Int32)), .val (.int (1 : Int32)), .val .null, .unset] [])
  refine own_st (fun _ kt => XS.aloadN X0.here hx rfl (hb hby own_d4_0) rfl rfl  kt) ?_
  show own_Rch p e below _ s₁ (mkF m 1 #[.val (.ref a), .val (.ref r), .val (.int (0 : Int32)), .val (.int (1 : Int32)), .val .null, .unset] [(.ref a)])
  obtain ⟨T1, X1, e1, st1⟩ := initO X0 hx hZ hown (hw _ (List.mem_of_getElem? (i := 18) rfl)) (hw _ (List.mem_of_getElem? (i := 19) rfl)) (hw _ (List.mem_of_getElem? (i := 20) rfl)) e0 (g := (mkF m 1 #[.val (.ref a), .val (.ref r), .val (.int (0 : Int32)), .val (.int (1 : Int32)), .val .null, .unset] [(.ref a)])) rfl (by rw [hml]; rfl) rfl (hb hby own_d4_1) (by decide) (W := 0) (by show 2 * 0 + _ ≤ _; exact Nat.le_of_eq rfl) (by decide)
  refine own_st st1 ?_
  show own_Rch p e below _ T1 (mkF m 4 #[.val (.ref a), .val (.ref r), .val (.int (0 : Int32)), .val (.int (1 : Int32)), .val .null, .unset] [])
  refine own_st (fun _ kt => XS.iloadN X1.here hx rfl (hb hby own_d4_4) rfl  kt) ?_
  show own_Rch p e below _ T1 (mkF m 5 #[.val (.ref a), .val (.ref r), .val (.int (0 : Int32)), .val (.int (1 : Int32)), .val .null, .unset] [(.int (1 : Int32))])
  refine own_st (fun _ kt => XS.ifYes X1.here hx rfl (pc0 := 5) (pc' := 27) rfl (hb hby own_d4_5) rfl ((if0 _ _).trans (feq ((by decide) : ¬ ((1 : Int32) = (0 : Int32)))).2) (by decide) (by decide) kt) ?_
  show own_Rch p e below _ T1 (mkF m 27 #[.val (.ref a), .val (.ref r), .val (.int (0 : Int32)), .val (.int (1 : Int32)), .val .null, .unset] [])
  obtain ⟨T2, X2, e2, st2⟩ := getS2 X1 hx hZ hown (host := "") (Or.inl (hw _ (List.mem_of_getElem? (i := 21) rfl))) Via.refl e1 (SC.ext O0.2) (g := (mkF m 27 #[.val (.ref a), .val (.ref r), .val (.int (0 : Int32)), .val (.int (1 : Int32)), .val .null, .unset] [])) rfl (hb hby own_d4_27)
  refine own_st st2 ?_
  show own_Rch p e below _ T2 (mkF m 30 #[.val (.ref a), .val (.ref r), .val (.int (0 : Int32)), .val (.int (1 : Int32)), .val .null, .unset] [(.int cs)])
  refine own_st (fun _ kt => XS.ifNo X2.here hx rfl (hb hby own_d4_30) rfl ((if0 _ _).trans (feq (hcs : ¬ (cs = (0 : Int32)))).1) kt) ?_
  show own_Rch p e below _ T2 (mkF m 33 #[.val (.ref a), .val (.ref r), .val (.int (0 : Int32)), .val (.int (1 : Int32)), .val .null, .unset] [])
  refine own_st (fun _ kt => XS.aloadN X2.here hx rfl (hb hby own_d4_33) rfl rfl  kt) ?_
  show own_Rch p e below _ T2 (mkF m 34 #[.val (.ref a), .val (.ref r), .val (.int (0 : Int32)), .val (.int (1 : Int32)), .val .null, .unset] [(.ref r)])
  refine own_st (fun _ kt => XS.iloadN X2.here hx rfl (hb hby own_d4_34) rfl  kt) ?_
  show own_Rch p e below _ T2 (mkF m 35 #[.val (.ref a), .val (.ref r), .val (.int (0 : Int32)), .val (.int (1 : Int32)), .val .null, .unset] [(.int (0 : Int32)), (.ref r)])
  refine own_st (fun _ kt => XS.iloadN X2.here hx rfl (hb hby own_d4_35) rfl  kt) ?_
  show own_Rch p e below _ T2 (mkF m 36 #[.val (.ref a), .val (.ref r), .val (.int (0 : Int32)), .val (.int (1 : Int32)), .val .null, .unset] [(.int (1 : Int32)), (.int (0 : Int32)), (.ref r)])
  obtain ⟨_, _, ⟨T3, L3, k3, n3⟩, -, X3, ⟨Lc3, hQ3, l3, y3, z3⟩, st3⟩ := Jvm.LawKit.callS X2 hx (y := (⟨"java/lang/StringUTF16", "compress", "([CII)[B"⟩ : MethodName)) hown (mvT hZ (hw _ (List.mem_of_getElem? (i := 22) rfl))) (mvT hZ (hw _ (List.mem_of_getElem? (i := 23) rfl))) (mvT hZ (hw _ (List.mem_of_getElem? (i := 24) rfl))) (mvT hZ (hw _ (List.mem_of_getElem? (i := 25) rfl))) (by decide) (backOf (W := 0) (own_c3_1 l Z a0 hw [] r kr c0 c1 c2 h0 n0 O0 VR hc0 hc1 hc2) hZ (hw _ (List.mem_of_getElem? (i := 25) rfl)) (hw _ (List.mem_of_getElem? (i := 24) rfl)) (by decide) (by decide)) (g := (mkF m 36 #[.val (.ref a), .val (.ref r), .val (.int (0 : Int32)), .val (.int (1 : Int32)), .val .null, .unset] [(.int (1 : Int32)), (.int (0 : Int32)), (.ref r)])) rfl (by rw [hml]; rfl) (argsL := [(.ref r), (.int (0 : Int32)), (.int (1 : Int32))]) (rest := []) (lenOf own_pd2 rfl) rfl (by show 2 * 0 + _ ≤ _; exact Nat.le_of_eq rfl) (hb hby own_d4_36) (fun _ _ => ⟨rfl, e2, (by decide : 0 + 1 ≤ _), (by decide : 0 + 1 ≤ _)⟩)
  dsimp only [Pt.U, Pt.locs, Pt.cells, Pt.slots] at X3 l3 y3 z3 st3 hQ3
  subst l3 y3 z3
  obtain ⟨by3, kb3, rfl, N3q, K3, hb3, Vb3⟩ := hQ3
  have N3 := Fr.app N0 N3q
  refine own_st st3 ?_
  have ne3_r_by3 : r ≠ by3 := Nat.ne_of_lt (Nat.lt_of_lt_of_le VR.lt hb3)
  have ne3_a_by3 : a ≠ by3 := Nat.ne_of_lt (Nat.lt_of_lt_of_le EA.lt hb3)
  have ge3_by3 : n0 ≤ by3 := Nat.le_trans (own_old_le O0) hb3
  have sz3_by3 : h0.size ≤ by3 := Nat.le_trans K0.1 hb3
  have O0_x3 := O0.keep K3 all0
  have VR_x3 := VR.keep K3 nin0
  have EA_x3 := EA.keep K3
  have FV_x3 := FV.keep K3 nin0
  have FC_x3 := FC.keep K3 nin0
  have K0_x3 := K0.trans K3 all0
  show own_Rch p e below _ T3 (mkF m 39 #[.val (.ref a), .val (.ref r), .val (.int (0 : Int32)), .val (.int (1 : Int32)), .val .null, .unset] [(.ref by3)])
  refine own_st (fun _ kt => XS.astore X3.here hx rfl (hb hby own_d4_39) rfl rfl (l' := #[.val (.ref a), .val (.ref r), .val (.int (0 : Int32)), .val (.int (1 : Int32)), .val .null, .val (.ref by3)]) rfl kt) ?_
  show own_Rch p e below _ T3 (mkF m 41 #[.val (.ref a), .val (.ref r), .val (.int (0 : Int32)), .val (.int (1 : Int32)), .val .null, .val (.ref by3)] [])
  refine own_st (fun _ kt => XS.aloadN X3.here hx rfl (hb hby own_d4_41) rfl rfl  kt) ?_
  show own_Rch p e below _ T3 (mkF m 42 #[.val (.ref a), .val (.ref r), .val (.int (0 : Int32)), .val (.int (1 : Int32)), .val .null, .val (.ref by3)] [(.ref a)])
  refine own_st (fun _ kt => XS.aload X3.here hx rfl (hb hby own_d4_42) rfl rfl  kt) ?_
  show own_Rch p e below _ T3 (mkF m 44 #[.val (.ref a), .val (.ref r), .val (.int (0 : Int32)), .val (.int (1 : Int32)), .val .null, .val (.ref by3)] [(.ref by3), (.ref a)])
  refine own_st (fun _ kt => XS.iloadN X3.here hx rfl (hb hby own_d4_44) rfl  kt) ?_
  show own_Rch p e below _ T3 (mkF m 45 #[.val (.ref a), .val (.ref r), .val (.int (0 : Int32)), .val (.int (1 : Int32)), .val .null, .val (.ref by3)] [(.int (1 : Int32)), (.ref by3), (.ref a)])
  obtain ⟨_, _, ⟨T4, L4, k4, n4⟩, -, X4, ⟨Lc4, hQ4, l4, y4, z4⟩, st4⟩ := Jvm.LawKit.callS X3 hx (y := (⟨"java/lang/StringUTF16", "coderFromArrayLen", "([BI)B"⟩ : MethodName)) hown (mvT hZ (hw _ (List.mem_of_getElem? (i := 30) rfl))) (mvT hZ (hw _ (List.mem_of_getElem? (i := 31) rfl))) (mvT hZ (hw _ (List.mem_of_getElem? (i := 24) rfl))) (mvT hZ (hw _ (List.mem_of_getElem? (i := 32) rfl))) (by decide) (backOf (W := 1) (own_cf_1 l Z a0 hw [] by3 kb3 _ T3.heap n0 O0_x3 Vb3) hZ (hw _ (List.mem_of_getElem? (i := 32) rfl)) (hw _ (List.mem_of_getElem? (i := 24) rfl)) (by decide) (by decide)) (g := (mkF m 45 #[.val (.ref a), .val (.ref r), .val (.int (0 : Int32)), .val (.int (1 : Int32)), .val .null, .val (.ref by3)] [(.int (1 : Int32)), (.ref by3), (.ref a)])) rfl (by rw [hml]; rfl) (argsL := [(.ref by3), (.int (1 : Int32))]) (rest := [(.ref a)]) (lenOf own_pd3 rfl) rfl (by show 2 * 0 + _ ≤ _; exact Nat.le_of_eq rfl) (hb hby own_d4_45) (fun _ _ => ⟨rfl, rfl, (by decide : 1 + 0 ≤ _), (by decide : 1 + 0 ≤ _)⟩)
  dsimp only [Pt.U, Pt.locs, Pt.cells, Pt.slots] at X4 l4 y4 z4 st4 hQ4
  subst l4 y4 z4
  obtain ⟨rfl, N4q, hh4⟩ := hQ4
  have N4 := Fr.app N3 N4q
  refine own_st st4 ?_
  show own_Rch p e below _ T4 (mkF m 48 #[.val (.ref a), .val (.ref r), .val (.int (0 : Int32)), .val (.int (1 : Int32)), .val .null, .val (.ref by3)] [(.int (0 : Int32)), (.ref a)])
  obtain ⟨T5, h5, X5, e5, W5, st5⟩ := putFN X4 hx hZ hown (hw _ (List.mem_of_getElem? (i := 33) rfl)) Via.refl hh4 FC_x3 EA_x3 (Or.inr ⟨(hw _ (List.mem_of_getElem? (i := 34) rfl)), rfl, hnm⟩) (hw _ (List.mem_of_getElem? (i := 8) rfl)) (ty := .byte) (v' := (.int (0 : Int32))) (by decide) rfl (by decide) (g := (mkF m 48 #[.val (.ref a), .val (.ref r), .val (.int (0 : Int32)), .val (.int (1 : Int32)), .val .null, .val (.ref by3)] [(.int (0 : Int32)), (.ref a)])) rfl rfl (hb hby own_d4_48)
  refine own_st st5 ?_
  have Fw5 := FC_x3.same W5
  have N5 := Fr.snoc X5 N4 ga
  have O0_x5 := O0_x3.wr W5 ga
  have VR_x5 := VR_x3.other W5 (Ne.symm (Exa.neArv EA VR (hw _ (List.mem_of_getElem? (i := 8) rfl))))
  have EA_x5 := EA_x3.wr W5
  have FV_x5 := FV_x3.other W5 (Or.inr (slot_ne (Or.inr (hw _ (List.mem_of_getElem? (i := 36) rfl))) (Or.inr (hw _ (List.mem_of_getElem? (i := 34) rfl))) (by decide) (t := (.array .byte)) (t' := .byte) (by decide) (by decide)))
  have K0_x5 := K0_x3.wr W5 (Or.inl (List.mem_of_getElem? (i := 0) rfl))
  have Vb3_x5 := Vb3.other W5 (Ne.symm ne3_a_by3)
  show own_Rch p e below _ T5 (mkF m 51 #[.val (.ref a), .val (.ref r), .val (.int (0 : Int32)), .val (.int (1 : Int32)), .val .null, .val (.ref by3)] [])
  refine own_st (fun _ kt => XS.aloadN X5.here hx rfl (hb hby own_d4_51) rfl rfl  kt) ?_
  show own_Rch p e below _ T5 (mkF m 52 #[.val (.ref a), .val (.ref r), .val (.int (0 : Int32)), .val (.int (1 : Int32)), .val .null, .val (.ref by3)] [(.ref a)])
  refine own_st (fun _ kt => XS.aload X5.here hx rfl (hb hby own_d4_52) rfl rfl  kt) ?_
  show own_Rch p e below _ T5 (mkF m 54 #[.val (.ref a), .val (.ref r), .val (.int (0 : Int32)), .val (.int (1 : Int32)), .val .null, .val (.ref by3)] [(.ref by3), (.ref a)])
  obtain ⟨T6, h6, X6, e6, W6, st6⟩ := putF X5 hx hZ hown (host := "") (Or.inl (hw _ (List.mem_of_getElem? (i := 35) rfl))) Via.refl e5 FV_x5 EA_x5 (Or.inr ⟨(hw _ (List.mem_of_getElem? (i := 36) rfl)), rfl, hnm⟩) (hw _ (List.mem_of_getElem? (i := 8) rfl)) (ty := (.array .byte)) (by decide) rfl rfl (g := (mkF m 54 #[.val (.ref a), .val (.ref r), .val (.int (0 : Int32)), .val (.int (1 : Int32)), .val .null, .val (.ref by3)] [(.ref by3), (.ref a)])) rfl rfl (hb hby own_d4_54)
  refine own_st st6 ?_
  have Fw6 := FV_x5.same W6
  have N6 := Fr.snoc X6 N5 ga
  have O0_x6 := O0_x5.wr W6 ga
  have VR_x6 := VR_x5.other W6 (Ne.symm (Exa.neArv EA VR (hw _ (List.mem_of_getElem? (i := 8) rfl))))
  have EA_x6 := EA_x5.wr W6
  have Fw5_x6 := Fw5.other W6 (Or.inr (slot_ne (Or.inr (hw _ (List.mem_of_getElem? (i := 34) rfl))) (Or.inr (hw _ (List.mem_of_getElem? (i := 36) rfl))) (by decide) (t := .byte) (t' := (.array .byte)) (by decide) (by decide)))
  have K0_x6 := K0_x5.wr W6 (Or.inl (List.mem_of_getElem? (i := 0) rfl))
  have Vb3_x6 := Vb3_x5.other W6 (Ne.symm ne3_a_by3)
  show own_Rch p e below _ T6 (mkF m 57 #[.val (.ref a), .val (.ref r), .val (.int (0 : Int32)), .val (.int (1 : Int32)), .val .null, .val (.ref by3)] [])
  refine own_retV X6 hx Bd.notSynchronized Bd.returns (hb hby own_d4_57) (by decide) (by decide) ?_
  rw [e6]
  exact ⟨rfl, N6, K0_x6, _, _, EA_x6, Fw6, Fw5_x6, Vb3_x6⟩
theorem own_ef3 (m : MethodId) (x0 : Addr) (x1 : Addr) : entryFrame m #[(.ref x0), (.ref x1)] 2 = mkF m 0 #[.val (.ref x0), .val (.ref x1)] [] := by first | (simp [entryFrame, mkF, argsToLocals, Value.category]; done) | rfl
theorem own_d3_0 : decode jdk_42_method_3_code 0 = .ok (.aload_n 0, 1) := by decide +kernel
theorem own_d3_1 : decode jdk_42_method_3_code 1 = .ok (.aload_n 1, 1) := by decide +kernel
theorem own_d3_2 : decode jdk_42_method_3_code 2 = .ok (.iconst 0, 1) := by decide +kernel
theorem own_d3_3 : decode jdk_42_method_3_code 3 = .ok (.aload_n 1, 1) := by decide +kernel
theorem own_d3_4 : decode jdk_42_method_3_code 4 = .ok (.arraylength, 1) := by decide +kernel
theorem own_d3_5 : decode jdk_42_method_3_code 5 = .ok (.aconst_null, 1) := by decide +kernel
theorem own_d3_6 : decode jdk_42_method_3_code 6 = .ok (.invokespecial 27, 3) := by decide +kernel
theorem own_pd4 : parseMethodDescriptor "([CIILjava/lang/Void;)V" = some ⟨[(.array .char), .int, .int, (.object "java/lang/Void")], none⟩ := by decide +kernel
theorem own_d3_9 : decode jdk_42_method_3_code 9 = .ok (.return_, 1) := by decide +kernel
def own_Q_own_i1_1 (Z : State) (a : Addr) (r : Addr) (kr : ClassId) (c0 : Int32) (c1 : Int32) (c2 : Int32) (cs : Int32) (h0 : Heap) (n0 : Nat) (v : Option Value) (h : Heap) (L : List Loc) : Prop := v = none ∧ Fr n0 L ∧ Keep h0 h [a] ∧ ∃ (y : Addr) (ky : ClassId), Exa Z h a "java/lang/String" ∧ Fld Z h a "java/lang/String" "value" "[B" (.ref y) ∧ Fld Z h a "java/lang/String" "coder" "B" (.int (0 : Int32)) ∧ Arv Z h y ky .byte (1 : Int32) [(.int (own_b c0))] (.int (0 : Int32))
set_option maxRecDepth 65536 in
set_option maxHeartbeats 40000000 in
theorem own_i1_1 (l : Launch) (Z : State) (a0 : Array Value) (hw : ∀ d ∈ tables_1, d.before a0 Z = true) (ws : List Jvm.Cond) (a : Addr) (r : Addr) (kr : ClassId) (c0 : Int32) (c1 : Int32) (c2 : Int32) (cs : Int32) (h0 : Heap) (n0 : Nat) (O0 : Old Z n0 h0) (SC : Sta Z Z.heap "java/lang/String" "COMPACT_STRINGS" "Z" (.int cs)) (hcs : ¬ cs = 0) (VR : Arv Z h0 r kr .char (1 : Int32) [(.int (nar .char c0))] (.int (0 : Int32))) (EA : Exa Z h0 a "java/lang/String") (FV : Fld Z h0 a "java/lang/String" "value" "[B" .null) (FC : Fld Z h0 a "java/lang/String" "coder" "B" (.int (0 : Int32))) (ga : n0 ≤ a) (hc0 : own_ch c0) (hc1 : own_ch c1) (hc2 : own_ch c2) :
    MetFree l (⟨"java/lang/String", "<init>", "([C)V"⟩ : MethodName) (head1 (Jvm.Cond.code (⟨"java/lang/String", "<init>", "([C)V"⟩ : MethodName) jdk_42_method_3_code 2 none :: ws) ({ frames := 3, cells := 1, slots := 1, locals := 52 } : Room)) (fun args_ U => args_ = #[(.ref a), (.ref r)] ∧ Z.Warmed39 U.vm ∧ U.heap = h0) (fun _ _ _ _ _ => True) (fun _ U o U' => ∃ v L, o = .returned v ∧ (own_Q_own_i1_1 Z a r kr c0 c1 c2 cs h0 n0) v U'.heap L ∧ FrameEnd U o U' L ({ frames := 3, cells := 1, slots := 1, locals := 52 } : Room).cells ({ frames := 3, cells := 1, slots := 1, locals := 52 } : Room).slots) := by
  refine MetFree.of_bodySF (plainFor_of_name own_pn1) hisR ?_
  intro p e s m args below meth c s₁ Bd hml0 hP hK
  obtain ⟨rfl, hZ, hh⟩ := hP
  have hx := Bd.exec
  have hby := Bd.bytes
  have hml : c.maxLocals = 2 := hml0
  have hown : s.vm.findClass "java/lang/String" = some m.cls := findClass_of_methodNamed Bd.named
  have hnm := (name_of_methodNamed Bd.named Bd.method).1
  have X0 : Stand p l e ({ frames := 3, cells := 1, slots := 1, locals := 52 } : Room) s m #[(.ref a), (.ref r)] below meth c s₁ [] 0 0 := Stand.of_body Bd
  have e0 : s₁.heap = h0 := by rw [← hh, Bd.state]; rfl
  have N0 := Fr.nil n0
  refine own_close (s := s) (Q := (own_Q_own_i1_1 Z a r kr c0 c1 c2 cs h0 n0)) (C := (({ frames := 3, cells := 1, slots := 1, locals := 52 } : Room)).cells) (N := (({ frames := 3, cells := 1, slots := 1, locals := 52 } : Room)).slots) (own_st (fun _ kt => castTop (own_ef3 m a r) kt) ?_)
  have K0 := Keep.refl h0 [a]
  show own_Rch p e below _ s₁ (mkF m 0 #[.val (.ref a), .val (.ref r)] [])
  refine own_st (fun _ kt => XS.aloadN X0.here hx rfl (hb hby own_d3_0) rfl rfl  kt) ?_
  show own_Rch p e below _ s₁ (mkF m 1 #[.val (.ref a), .val (.ref r)] [(.ref a)])
  refine own_st (fun _ kt => XS.aloadN X0.here hx rfl (hb hby own_d3_1) rfl rfl  kt) ?_
  show own_Rch p e below _ s₁ (mkF m 2 #[.val (.ref a), .val (.ref r)] [(.ref r), (.ref a)])
  refine own_st (fun _ kt => XS.iconst X0.here hx rfl (hb hby own_d3_2) kt) ?_
  show own_Rch p e below _ s₁ (mkF m 3 #[.val (.ref a), .val (.ref r)] [(.int (0 : Int32)), (.ref r), (.ref a)])
  refine own_st (fun _ kt => XS.aloadN X0.here hx rfl (hb hby own_d3_3) rfl rfl  kt) ?_
  show own_Rch p e below _ s₁ (mkF m 4 #[.val (.ref a), .val (.ref r)] [(.ref r), (.int (0 : Int32)), (.ref r), (.ref a)])
  obtain ⟨cl1, Ar1, -, S1, M1, -, -⟩ := id VR
  refine own_st (X0.arraylength hx (by rw [e0]; exact Ar1.1) (State.isArrayOf_alike (hZ).alike Ar1.2.1) (g := (mkF m 4 #[.val (.ref a), .val (.ref r)] [(.ref r), (.int (0 : Int32)), (.ref r), (.ref a)])) rfl rfl (hb hby own_d3_4)) ?_
  rw [len_of S1 M1]
  show own_Rch p e below _ s₁ (mkF m 5 #[.val (.ref a), .val (.ref r)] [(.int (1 : Int32)), (.int (0 : Int32)), (.ref r), (.ref a)])
  refine own_st (fun _ kt => XS.aconstNull X0.here hx rfl (hb hby own_d3_5) kt) ?_
  show own_Rch p e below _ s₁ (mkF m 6 #[.val (.ref a), .val (.ref r)] [.null, (.int (1 : Int32)), (.int (0 : Int32)), (.ref r), (.ref a)])
  obtain ⟨_, _, ⟨T2, L2, k2, n2⟩, -, X2, ⟨Lc2, hQ2, l2, y2, z2⟩, st2⟩ := X0.specialBack hx (y := (⟨"java/lang/String", "<init>", "([CIILjava/lang/Void;)V"⟩ : MethodName)) rfl hown (mvT hZ (hw _ (List.mem_of_getElem? (i := 14) rfl))) (mvT hZ (hw _ (List.mem_of_getElem? (i := 15) rfl))) (mvT hZ (hw _ (List.mem_of_getElem? (i := 17) rfl))) (by decide) (backOf (W := 0) (own_i5_1 l Z a0 hw [] a r kr c0 c1 c2 cs h0 n0 O0 SC hcs VR EA FV FC ga hc0 hc1 hc2) hZ (hw _ (List.mem_of_getElem? (i := 17) rfl)) (hw _ (List.mem_of_getElem? (i := 9) rfl)) (by decide) (by decide)) (g := (mkF m 6 #[.val (.ref a), .val (.ref r)] [.null, (.int (1 : Int32)), (.int (0 : Int32)), (.ref r), (.ref a)])) rfl (by rw [hml]; rfl) (Steps.refl _) (a := a) (argsL := [(.ref r), (.int (0 : Int32)), (.int (1 : Int32)), .null]) (rest := []) (lenOf own_pd4 rfl) rfl (by show 2 * 0 + _ ≤ _; exact Nat.le_of_eq rfl) (hb hby own_d3_6) (fun _ _ => ⟨rfl, e0, (by decide : 0 + 1 ≤ _), (by decide : 0 + 1 ≤ _)⟩)
  dsimp only [Pt.U, Pt.locs, Pt.cells, Pt.slots] at X2 l2 y2 z2 st2 hQ2
  subst l2 y2 z2
  obtain ⟨rfl, N2q, K2, yy2, ky2, Ea2, Fv2, Fc2, Vy2⟩ := hQ2
  have N2 := Fr.app N0 N2q
  refine own_st (fun _ kt => st2.trans kt) ?_
  have O0_x2 := O0.keep K2 (allS ga all0)
  have VR_x2 := VR.keep K2 (ninS (Ne.symm (Exa.neArv EA VR (hw _ (List.mem_of_getElem? (i := 8) rfl)))) nin0)
  have EA_x2 := EA.keep K2
  have K0_x2 := K0.trans K2 (allS (Or.inl (List.mem_of_getElem? (i := 0) rfl)) all0)
  show own_Rch p e below _ T2 (mkF m 9 #[.val (.ref a), .val (.ref r)] [])
  refine own_retV X2 hx Bd.notSynchronized Bd.returns (hb hby own_d3_9) (by decide) (by decide) ?_
  exact ⟨rfl, N2, K0_x2, _, _, Ea2, Fv2, Fc2, Vy2⟩
def own_Q_own_c5_2 (Z : State) (r : Addr) (kr : ClassId) (b : Addr) (kb : ClassId) (c0 : Int32) (c1 : Int32) (c2 : Int32) (h0 : Heap) (n0 : Nat) (v : Option Value) (h : Heap) (L : List Loc) : Prop := v = some (.int (2 : Int32)) ∧ Fr n0 L ∧ Keep h0 h [b] ∧ Arv Z h b kb .byte (2 : Int32) [(.int (own_b c0)), (.int (own_b c1))] (.int (0 : Int32))
set_option maxRecDepth 65536 in
set_option maxHeartbeats 40000000 in
theorem own_c5_2 (l : Launch) (Z : State) (a0 : Array Value) (hw : ∀ d ∈ tables_1, d.before a0 Z = true) (ws : List Jvm.Cond) (r : Addr) (kr : ClassId) (b : Addr) (kb : ClassId) (c0 : Int32) (c1 : Int32) (c2 : Int32) (h0 : Heap) (n0 : Nat) (O0 : Old Z n0 h0) (VR : Arv Z h0 r kr .char (2 : Int32) [(.int (nar .char c0)), (.int (nar .char c1))] (.int (0 : Int32))) (VB : Arv Z h0 b kb .byte (2 : Int32) [(.int (0 : Int32)), (.int (0 : Int32))] (.int (0 : Int32))) (gb : n0 ≤ b) (hrb : r ≠ b) (hc0 : own_ch c0) (hc1 : own_ch c1) (hc2 : own_ch c2) :
    MetFree l (⟨"java/lang/StringUTF16", "compress", "([CI[BII)I"⟩ : MethodName) (head1 (Jvm.Cond.code (⟨"java/lang/StringUTF16", "compress", "([CI[BII)I"⟩ : MethodName) jdk_52_method_21_code 7 (some .int) :: ws) ({ frames := 0, cells := 0, slots := 0, locals := 0 } : Room)) (fun args_ U => args_ = #[(.ref r), (.int (0 : Int32)), (.ref b), (.int (0 : Int32)), (.int (2 : Int32))] ∧ Z.Warmed39 U.vm ∧ U.heap = h0) (fun _ _ _ _ _ => True) (fun _ U o U' => ∃ v L, o = .returned v ∧ (own_Q_own_c5_2 Z r kr b kb c0 c1 c2 h0 n0) v U'.heap L ∧ FrameEnd U o U' L ({ frames := 0, cells := 0, slots := 0, locals := 0 } : Room).cells ({ frames := 0, cells := 0, slots := 0, locals := 0 } : Room).slots) := by
  refine MetFree.of_bodySF (plainFor_of_name own_pn2) hisR ?_
  intro p e s m args below meth c s₁ Bd hml0 hP hK
  obtain ⟨rfl, hZ, hh⟩ := hP
  have hx := Bd.exec
  have hby := Bd.bytes
  have hml : c.maxLocals = 7 := hml0
  have hown : s.vm.findClass "java/lang/StringUTF16" = some m.cls := findClass_of_methodNamed Bd.named
  have hnm := (name_of_methodNamed Bd.named Bd.method).1
  have X0 : Stand p l e ({ frames := 0, cells := 0, slots := 0, locals := 0 } : Room) s m #[(.ref r), (.int (0 : Int32)), (.ref b), (.int (0 : Int32)), (.int (2 : Int32))] below meth c s₁ [] 0 0 := Stand.of_body Bd
  have e0 : s₁.heap = h0 := by rw [← hh, Bd.state]; rfl
  have N0 := Fr.nil n0
  refine own_close (s := s) (Q := (own_Q_own_c5_2 Z r kr b kb c0 c1 c2 h0 n0)) (C := (({ frames := 0, cells := 0, slots := 0, locals := 0 } : Room)).cells) (N := (({ frames := 0, cells := 0, slots := 0, locals := 0 } : Room)).slots) (own_st (fun _ kt => castTop (own_ef7 m r (0 : Int32) b (0 : Int32) (2 : Int32)) kt) ?_)
  have K0 := Keep.refl h0 [b]
  show own_Rch p e below _ s₁ (mkF m 0 #[.val (.ref r), .val (.int (0 : Int32)), .val (.ref b), .val (.int (0 : Int32)), .val (.int (2 : Int32)), .unset, .unset] [])
  refine own_st (fun _ kt => XS.iconst X0.here hx rfl (hb hby own_d7_0) kt) ?_
  show own_Rch p e below _ s₁ (mkF m 1 #[.val (.ref r), .val (.int (0 : Int32)), .val (.ref b), .val (.int (0 : Int32)), .val (.int (2 : Int32)), .unset, .unset] [(.int (0 : Int32))])
  refine own_st (fun _ kt => XS.istore X0.here hx rfl (hb hby own_d7_1) rfl (l' := #[.val (.ref r), .val (.int (0 : Int32)), .val (.ref b), .val (.int (0 : Int32)), .val (.int (2 : Int32)), .val (.int (0 : Int32)), .unset]) rfl kt) ?_
  show own_Rch p e below _ s₁ (mkF m 3 #[.val (.ref r), .val (.int (0 : Int32)), .val (.ref b), .val (.int (0 : Int32)), .val (.int (2 : Int32)), .val (.int (0 : Int32)), .unset] [])
  refine own_st (fun _ kt => XS.iload X0.here hx rfl (hb hby own_d7_3) rfl  kt) ?_
  show own_Rch p e below _ s₁ (mkF m 5 #[.val (.ref r), .val (.int (0 : Int32)), .val (.ref b), .val (.int (0 : Int32)), .val (.int (2 : Int32)), .val (.int (0 : Int32)), .unset] [(.int (0 : Int32))])
  refine own_st (fun _ kt => XS.iload X0.here hx rfl (hb hby own_d7_5) rfl  kt) ?_
  show own_Rch p e below _ s₁ (mkF m 7 #[.val (.ref r), .val (.int (0 : Int32)), .val (.ref b), .val (.int (0 : Int32)), .val (.int (2 : Int32)), .val (.int (0 : Int32)), .unset] [(.int (2 : Int32)), (.int (0 : Int32))])
  refine own_st (fun _ kt => XS.icmpNo X0.here hx rfl (hb hby own_d7_7) rfl (tlt ((by decide) : (0 : Int32) < (2 : Int32))).2.1 kt) ?_
  show own_Rch p e below _ s₁ (mkF m 10 #[.val (.ref r), .val (.int (0 : Int32)), .val (.ref b), .val (.int (0 : Int32)), .val (.int (2 : Int32)), .val (.int (0 : Int32)), .unset] [])
  refine own_st (fun _ kt => XS.aloadN X0.here hx rfl (hb hby own_d7_10) rfl rfl  kt) ?_
  show own_Rch p e below _ s₁ (mkF m 11 #[.val (.ref r), .val (.int (0 : Int32)), .val (.ref b), .val (.int (0 : Int32)), .val (.int (2 : Int32)), .val (.int (0 : Int32)), .unset] [(.ref r)])
  refine own_st (fun _ kt => XS.iloadN X0.here hx rfl (hb hby own_d7_11) rfl  kt) ?_
  show own_Rch p e below _ s₁ (mkF m 12 #[.val (.ref r), .val (.int (0 : Int32)), .val (.ref b), .val (.int (0 : Int32)), .val (.int (2 : Int32)), .val (.int (0 : Int32)), .unset] [(.int (0 : Int32)), (.ref r)])
  obtain ⟨cl1, Ar1, q1, S1, M1, H1, G1⟩ := id VR
  have hin1 : ¬ ((0 : Int32) < 0 ∨ cl1.slots.size ≤ ((0 : Int32)).toNatClampNeg) := inb_of S1 ⟨by decide, by decide⟩
  refine own_st (X0.caload hx (j := (0 : Int32)) (v := (.int (nar .char c0))) (by rw [e0]; exact Ar1.1) (State.isArrayOf_alike (hZ).alike Ar1.2.1) Ar1.2.2 hin1 (H1.at hin1 rfl) (g := (mkF m 12 #[.val (.ref r), .val (.int (0 : Int32)), .val (.ref b), .val (.int (0 : Int32)), .val (.int (2 : Int32)), .val (.int (0 : Int32)), .unset] [(.int (0 : Int32)), (.ref r)])) rfl rfl (hb hby own_d7_12)) ?_
  show own_Rch p e below _ s₁ (mkF m 13 #[.val (.ref r), .val (.int (0 : Int32)), .val (.ref b), .val (.int (0 : Int32)), .val (.int (2 : Int32)), .val (.int (0 : Int32)), .unset] [(.int (nar .char c0))])
  refine own_st (fun _ kt => XS.istore X0.here hx rfl (hb hby own_d7_13) rfl (l' := #[.val (.ref r), .val (.int (0 : Int32)), .val (.ref b), .val (.int (0 : Int32)), .val (.int (2 : Int32)), .val (.int (0 : Int32)), .val (.int (nar .char c0))]) rfl kt) ?_
  show own_Rch p e below _ s₁ (mkF m 15 #[.val (.ref r), .val (.int (0 : Int32)), .val (.ref b), .val (.int (0 : Int32)), .val (.int (2 : Int32)), .val (.int (0 : Int32)), .val (.int (nar .char c0))] [])
  refine own_st (fun _ kt => XS.iload X0.here hx rfl (hb hby own_d7_15) rfl  kt) ?_
  show own_Rch p e below _ s₁ (mkF m 17 #[.val (.ref r), .val (.int (0 : Int32)), .val (.ref b), .val (.int (0 : Int32)), .val (.int (2 : Int32)), .val (.int (0 : Int32)), .val (.int (nar .char c0))] [(.int (nar .char c0))])
  refine own_st (fun _ kt => XS.sipush X0.here hx rfl (hb hby own_d7_17) kt) ?_
  show own_Rch p e below _ s₁ (mkF m 20 #[.val (.ref r), .val (.int (0 : Int32)), .val (.ref b), .val (.int (0 : Int32)), .val (.int (2 : Int32)), .val (.int (0 : Int32)), .val (.int (nar .char c0))] [(.int (255 : Int32)), (.int (nar .char c0))])
  refine own_st (fun _ kt => XS.icmpYes X0.here hx rfl (pc0 := 20) (pc' := 26) rfl (hb hby own_d7_20) rfl (flt (own_big hc0 : ¬ ((255 : Int32) < (nar .char c0)))).2.2.2 (by decide) (by decide) kt) ?_
  show own_Rch p e below _ s₁ (mkF m 26 #[.val (.ref r), .val (.int (0 : Int32)), .val (.ref b), .val (.int (0 : Int32)), .val (.int (2 : Int32)), .val (.int (0 : Int32)), .val (.int (nar .char c0))] [])
  refine own_st (fun _ kt => XS.aloadN X0.here hx rfl (hb hby own_d7_26) rfl rfl  kt) ?_
  show own_Rch p e below _ s₁ (mkF m 27 #[.val (.ref r), .val (.int (0 : Int32)), .val (.ref b), .val (.int (0 : Int32)), .val (.int (2 : Int32)), .val (.int (0 : Int32)), .val (.int (nar .char c0))] [(.ref b)])
  refine own_st (fun _ kt => XS.iloadN X0.here hx rfl (hb hby own_d7_27) rfl  kt) ?_
  show own_Rch p e below _ s₁ (mkF m 28 #[.val (.ref r), .val (.int (0 : Int32)), .val (.ref b), .val (.int (0 : Int32)), .val (.int (2 : Int32)), .val (.int (0 : Int32)), .val (.int (nar .char c0))] [(.int (0 : Int32)), (.ref b)])
  refine own_st (fun _ kt => XS.iload X0.here hx rfl (hb hby own_d7_28) rfl  kt) ?_
  show own_Rch p e below _ s₁ (mkF m 30 #[.val (.ref r), .val (.int (0 : Int32)), .val (.ref b), .val (.int (0 : Int32)), .val (.int (2 : Int32)), .val (.int (0 : Int32)), .val (.int (nar .char c0))] [(.int (nar .char c0)), (.int (0 : Int32)), (.ref b)])
  refine own_st (fun _ kt => XS.i2b X0.here hx rfl (hb hby own_d7_30) rfl kt) ?_
  show own_Rch p e below _ s₁ (mkF m 31 #[.val (.ref r), .val (.int (0 : Int32)), .val (.ref b), .val (.int (0 : Int32)), .val (.int (2 : Int32)), .val (.int (0 : Int32)), .val (.int (nar .char c0))] [(.int ((nar .char c0).toInt8.toInt32)), (.int (0 : Int32)), (.ref b)])
  obtain ⟨cl2, Ar2, q2, S2, M2, H2, G2⟩ := id VB
  have hin2 : ¬ ((0 : Int32) < 0 ∨ cl2.slots.size ≤ ((0 : Int32)).toNatClampNeg) := inb_of S2 ⟨by decide, by decide⟩
  obtain ⟨T2, h2, X2, e2, W2, st2⟩ := stB X0 hx hZ e0 Ar2 (j := (0 : Int32)) hin2 (g := (mkF m 31 #[.val (.ref r), .val (.int (0 : Int32)), .val (.ref b), .val (.int (0 : Int32)), .val (.int (2 : Int32)), .val (.int (0 : Int32)), .val (.int (nar .char c0))] [(.int ((nar .char c0).toInt8.toInt32)), (.int (0 : Int32)), (.ref b)])) rfl rfl (hb hby own_d7_31)
  have V2 := Arv.set Ar2 q2 S2 M2 H2 G2 (fits_nar_byte _) W2 0 rfl (Nat.le_of_ble_eq_true rfl)
  have V2s : Arv Z h2 b kb .byte (2 : Int32) [(.int (nar .byte ((nar .char c0).toInt8.toInt32))), (.int (0 : Int32))] (.int (0 : Int32)) := V2
  have N2 := Fr.snoc X2 N0 gb
  refine own_st st2 ?_
  have O0_x2 := O0.wr W2 gb
  have VR_x2 := VR.other W2 hrb
  have K0_x2 := K0.wr W2 (Or.inl (List.mem_of_getElem? (i := 0) rfl))
  show own_Rch p e below _ T2 (mkF m 32 #[.val (.ref r), .val (.int (0 : Int32)), .val (.ref b), .val (.int (0 : Int32)), .val (.int (2 : Int32)), .val (.int (0 : Int32)), .val (.int (nar .char c0))] [])
  refine own_st (fun _ kt => XS.iinc X2.here hx rfl (hb hby own_d7_32) rfl (l' := #[.val (.ref r), .val (.int (1 : Int32)), .val (.ref b), .val (.int (0 : Int32)), .val (.int (2 : Int32)), .val (.int (0 : Int32)), .val (.int (nar .char c0))]) rfl kt) ?_
  show own_Rch p e below _ T2 (mkF m 35 #[.val (.ref r), .val (.int (1 : Int32)), .val (.ref b), .val (.int (0 : Int32)), .val (.int (2 : Int32)), .val (.int (0 : Int32)), .val (.int (nar .char c0))] [])
  refine own_st (fun _ kt => XS.iinc X2.here hx rfl (hb hby own_d7_35) rfl (l' := #[.val (.ref r), .val (.int (1 : Int32)), .val (.ref b), .val (.int (1 : Int32)), .val (.int (2 : Int32)), .val (.int (0 : Int32)), .val (.int (nar .char c0))]) rfl kt) ?_
  show own_Rch p e below _ T2 (mkF m 38 #[.val (.ref r), .val (.int (1 : Int32)), .val (.ref b), .val (.int (1 : Int32)), .val (.int (2 : Int32)), .val (.int (0 : Int32)), .val (.int (nar .char c0))] [])
  refine own_st (fun _ kt => XS.iinc X2.here hx rfl (hb hby own_d7_38) rfl (l' := #[.val (.ref r), .val (.int (1 : Int32)), .val (.ref b), .val (.int (1 : Int32)), .val (.int (2 : Int32)), .val (.int (1 : Int32)), .val (.int (nar .char c0))]) rfl kt) ?_
  show own_Rch p e below _ T2 (mkF m 41 #[.val (.ref r), .val (.int (1 : Int32)), .val (.ref b), .val (.int (1 : Int32)), .val (.int (2 : Int32)), .val (.int (1 : Int32)), .val (.int (nar .char c0))] [])
  refine own_st (fun _ kt => XS.goto X2.here hx rfl (pc0 := 41) (pc' := 3) rfl (hb hby own_d7_41) (by decide) (by decide) kt) ?_
  show own_Rch p e below _ T2 (mkF m 3 #[.val (.ref r), .val (.int (1 : Int32)), .val (.ref b), .val (.int (1 : Int32)), .val (.int (2 : Int32)), .val (.int (1 : Int32)), .val (.int (nar .char c0))] [])
  refine own_st (fun _ kt => XS.iload X2.here hx rfl (hb hby own_d7_3) rfl  kt) ?_
  show own_Rch p e below _ T2 (mkF m 5 #[.val (.ref r), .val (.int (1 : Int32)), .val (.ref b), .val (.int (1 : Int32)), .val (.int (2 : Int32)), .val (.int (1 : Int32)), .val (.int (nar .char c0))] [(.int (1 : Int32))])
  refine own_st (fun _ kt => XS.iload X2.here hx rfl (hb hby own_d7_5) rfl  kt) ?_
  show own_Rch p e below _ T2 (mkF m 7 #[.val (.ref r), .val (.int (1 : Int32)), .val (.ref b), .val (.int (1 : Int32)), .val (.int (2 : Int32)), .val (.int (1 : Int32)), .val (.int (nar .char c0))] [(.int (2 : Int32)), (.int (1 : Int32))])
  refine own_st (fun _ kt => XS.icmpNo X2.here hx rfl (hb hby own_d7_7) rfl (tlt ((by decide) : (1 : Int32) < (2 : Int32))).2.1 kt) ?_
  show own_Rch p e below _ T2 (mkF m 10 #[.val (.ref r), .val (.int (1 : Int32)), .val (.ref b), .val (.int (1 : Int32)), .val (.int (2 : Int32)), .val (.int (1 : Int32)), .val (.int (nar .char c0))] [])
  refine own_st (fun _ kt => XS.aloadN X2.here hx rfl (hb hby own_d7_10) rfl rfl  kt) ?_
  show own_Rch p e below _ T2 (mkF m 11 #[.val (.ref r), .val (.int (1 : Int32)), .val (.ref b), .val (.int (1 : Int32)), .val (.int (2 : Int32)), .val (.int (1 : Int32)), .val (.int (nar .char c0))] [(.ref r)])
  refine own_st (fun _ kt => XS.iloadN X2.here hx rfl (hb hby own_d7_11) rfl  kt) ?_
  show own_Rch p e below _ T2 (mkF m 12 #[.val (.ref r), .val (.int (1 : Int32)), .val (.ref b), .val (.int (1 : Int32)), .val (.int (2 : Int32)), .val (.int (1 : Int32)), .val (.int (nar .char c0))] [(.int (1 : Int32)), (.ref r)])
  obtain ⟨cl3, Ar3, q3, S3, M3, H3, G3⟩ := id VR_x2
  have hin3 : ¬ ((1 : Int32) < 0 ∨ cl3.slots.size ≤ ((1 : Int32)).toNatClampNeg) := inb_of S3 ⟨by decide, by decide⟩
  refine own_st (X2.caload hx (j := (1 : Int32)) (v := (.int (nar .char c1))) (by rw [e2]; exact Ar3.1) (State.isArrayOf_alike (hZ).alike Ar3.2.1) Ar3.2.2 hin3 (H3.at hin3 rfl) (g := (mkF m 12 #[.val (.ref r), .val (.int (1 : Int32)), .val (.ref b), .val (.int (1 : Int32)), .val (.int (2 : Int32)), .val (.int (1 : Int32)), .val (.int (nar .char c0))] [(.int (1 : Int32)), (.ref r)])) rfl rfl (hb hby own_d7_12)) ?_
  show own_Rch p e below _ T2 (mkF m 13 #[.val (.ref r), .val (.int (1 : Int32)), .val (.ref b), .val (.int (1 : Int32)), .val (.int (2 : Int32)), .val (.int (1 : Int32)), .val (.int (nar .char c0))] [(.int (nar .char c1))])
  refine own_st (fun _ kt => XS.istore X2.here hx rfl (hb hby own_d7_13) rfl (l' := #[.val (.ref r), .val (.int (1 : Int32)), .val (.ref b), .val (.int (1 : Int32)), .val (.int (2 : Int32)), .val (.int (1 : Int32)), .val (.int (nar .char c1))]) rfl kt) ?_
  show own_Rch p e below _ T2 (mkF m 15 #[.val (.ref r), .val (.int (1 : Int32)), .val (.ref b), .val (.int (1 : Int32)), .val (.int (2 : Int32)), .val (.int (1 : Int32)), .val (.int (nar .char c1))] [])
  refine own_st (fun _ kt => XS.iload X2.here hx rfl (hb hby own_d7_15) rfl  kt) ?_
  show own_Rch p e below _ T2 (mkF m 17 #[.val (.ref r), .val (.int (1 : Int32)), .val (.ref b), .val (.int (1 : Int32)), .val (.int (2 : Int32)), .val (.int (1 : Int32)), .val (.int (nar .char c1))] [(.int (nar .char c1))])
  refine own_st (fun _ kt => XS.sipush X2.here hx rfl (hb hby own_d7_17) kt) ?_
  show own_Rch p e below _ T2 (mkF m 20 #[.val (.ref r), .val (.int (1 : Int32)), .val (.ref b), .val (.int (1 : Int32)), .val (.int (2 : Int32)), .val (.int (1 : Int32)), .val (.int (nar .char c1))] [(.int (255 : Int32)), (.int (nar .char c1))])
  refine own_st (fun _ kt => XS.icmpYes X2.here hx rfl (pc0 := 20) (pc' := 26) rfl (hb hby own_d7_20) rfl (flt (own_big hc1 : ¬ ((255 : Int32) < (nar .char c1)))).2.2.2 (by decide) (by decide) kt) ?_
  show own_Rch p e below _ T2 (mkF m 26 #[.val (.ref r), .val (.int (1 : Int32)), .val (.ref b), .val (.int (1 : Int32)), .val (.int (2 : Int32)), .val (.int (1 : Int32)), .val (.int (nar .char c1))] [])
  refine own_st (fun _ kt => XS.aloadN X2.here hx rfl (hb hby own_d7_26) rfl rfl  kt) ?_
  show own_Rch p e below _ T2 (mkF m 27 #[.val (.ref r), .val (.int (1 : Int32)), .val (.ref b), .val (.int (1 : Int32)), .val (.int (2 : Int32)), .val (.int (1 : Int32)), .val (.int (nar .char c1))] [(.ref b)])
  refine own_st (fun _ kt => XS.iloadN X2.here hx rfl (hb hby own_d7_27) rfl  kt) ?_
  show own_Rch p e below _ T2 (mkF m 28 #[.val (.ref r), .val (.int (1 : Int32)), .val (.ref b), .val (.int (1 : Int32)), .val (.int (2 : Int32)), .val (.int (1 : Int32)), .val (.int (nar .char c1))] [(.int (1 : Int32)), (.ref b)])
  refine own_st (fun _ kt => XS.iload X2.here hx rfl (hb hby own_d7_28) rfl  kt) ?_
  show own_Rch p e below _ T2 (mkF m 30 #[.val (.ref r), .val (.int (1 : Int32)), .val (.ref b), .val (.int (1 : Int32)), .val (.int (2 : Int32)), .val (.int (1 : Int32)), .val (.int (nar .char c1))] [(.int (nar .char c1)), (.int (1 : Int32)), (.ref b)])
  refine own_st (fun _ kt => XS.i2b X2.here hx rfl (hb hby own_d7_30) rfl kt) ?_
  show own_Rch p e below _ T2 (mkF m 31 #[.val (.ref r), .val (.int (1 : Int32)), .val (.ref b), .val (.int (1 : Int32)), .val (.int (2 : Int32)), .val (.int (1 : Int32)), .val (.int (nar .char c1))] [(.int ((nar .char c1).toInt8.toInt32)), (.int (1 : Int32)), (.ref b)])
  obtain ⟨cl4, Ar4, q4, S4, M4, H4, G4⟩ := id V2s
  have hin4 : ¬ ((1 : Int32) < 0 ∨ cl4.slots.size ≤ ((1 : Int32)).toNatClampNeg) := inb_of S4 ⟨by decide, by decide⟩
  obtain ⟨T4, h4, X4, e4, W4, st4⟩ := stB X2 hx hZ e2 Ar4 (j := (1 : Int32)) hin4 (g := (mkF m 31 #[.val (.ref r), .val (.int (1 : Int32)), .val (.ref b), .val (.int (1 : Int32)), .val (.int (2 : Int32)), .val (.int (1 : Int32)), .val (.int (nar .char c1))] [(.int ((nar .char c1).toInt8.toInt32)), (.int (1 : Int32)), (.ref b)])) rfl rfl (hb hby own_d7_31)
  have V4 := Arv.set Ar4 q4 S4 M4 H4 G4 (fits_nar_byte _) W4 1 rfl (Nat.le_of_ble_eq_true rfl)
  have V4s : Arv Z h4 b kb .byte (2 : Int32) [(.int (nar .byte ((nar .char c0).toInt8.toInt32))), (.int (nar .byte ((nar .char c1).toInt8.toInt32)))] (.int (0 : Int32)) := V4
  have N4 := Fr.snoc X4 N2 gb
  refine own_st st4 ?_
  have O0_x4 := O0_x2.wr W4 gb
  have VR_x4 := VR_x2.other W4 hrb
  have K0_x4 := K0_x2.wr W4 (Or.inl (List.mem_of_getElem? (i := 0) rfl))
  show own_Rch p e below _ T4 (mkF m 32 #[.val (.ref r), .val (.int (1 : Int32)), .val (.ref b), .val (.int (1 : Int32)), .val (.int (2 : Int32)), .val (.int (1 : Int32)), .val (.int (nar .char c1))] [])
  refine own_st (fun _ kt => XS.iinc X4.here hx rfl (hb hby own_d7_32) rfl (l' := #[.val (.ref r), .val (.int (2 : Int32)), .val (.ref b), .val (.int (1 : Int32)), .val (.int (2 : Int32)), .val (.int (1 : Int32)), .val (.int (nar .char c1))]) rfl kt) ?_
  show own_Rch p e below _ T4 (mkF m 35 #[.val (.ref r), .val (.int (2 : Int32)), .val (.ref b), .val (.int (1 : Int32)), .val (.int (2 : Int32)), .val (.int (1 : Int32)), .val (.int (nar .char c1))] [])
  refine own_st (fun _ kt => XS.iinc X4.here hx rfl (hb hby own_d7_35) rfl (l' := #[.val (.ref r), .val (.int (2 : Int32)), .val (.ref b), .val (.int (2 : Int32)), .val (.int (2 : Int32)), .val (.int (1 : Int32)), .val (.int (nar .char c1))]) rfl kt) ?_
  show own_Rch p e below _ T4 (mkF m 38 #[.val (.ref r), .val (.int (2 : Int32)), .val (.ref b), .val (.int (2 : Int32)), .val (.int (2 : Int32)), .val (.int (1 : Int32)), .val (.int (nar .char c1))] [])
  refine own_st (fun _ kt => XS.iinc X4.here hx rfl (hb hby own_d7_38) rfl (l' := #[.val (.ref r), .val (.int (2 : Int32)), .val (.ref b), .val (.int (2 : Int32)), .val (.int (2 : Int32)), .val (.int (2 : Int32)), .val (.int (nar .char c1))]) rfl kt) ?_
  show own_Rch p e below _ T4 (mkF m 41 #[.val (.ref r), .val (.int (2 : Int32)), .val (.ref b), .val (.int (2 : Int32)), .val (.int (2 : Int32)), .val (.int (2 : Int32)), .val (.int (nar .char c1))] [])
  refine own_st (fun _ kt => XS.goto X4.here hx rfl (pc0 := 41) (pc' := 3) rfl (hb hby own_d7_41) (by decide) (by decide) kt) ?_
  show own_Rch p e below _ T4 (mkF m 3 #[.val (.ref r), .val (.int (2 : Int32)), .val (.ref b), .val (.int (2 : Int32)), .val (.int (2 : Int32)), .val (.int (2 : Int32)), .val (.int (nar .char c1))] [])
  refine own_st (fun _ kt => XS.iload X4.here hx rfl (hb hby own_d7_3) rfl  kt) ?_
  show own_Rch p e below _ T4 (mkF m 5 #[.val (.ref r), .val (.int (2 : Int32)), .val (.ref b), .val (.int (2 : Int32)), .val (.int (2 : Int32)), .val (.int (2 : Int32)), .val (.int (nar .char c1))] [(.int (2 : Int32))])
  refine own_st (fun _ kt => XS.iload X4.here hx rfl (hb hby own_d7_5) rfl  kt) ?_
  show own_Rch p e below _ T4 (mkF m 7 #[.val (.ref r), .val (.int (2 : Int32)), .val (.ref b), .val (.int (2 : Int32)), .val (.int (2 : Int32)), .val (.int (2 : Int32)), .val (.int (nar .char c1))] [(.int (2 : Int32)), (.int (2 : Int32))])
  refine own_st (fun _ kt => XS.icmpYes X4.here hx rfl (pc0 := 7) (pc' := 44) rfl (hb hby own_d7_7) rfl (flt ((by decide) : ¬ ((2 : Int32) < (2 : Int32)))).2.1 (by decide) (by decide) kt) ?_
  show own_Rch p e below _ T4 (mkF m 44 #[.val (.ref r), .val (.int (2 : Int32)), .val (.ref b), .val (.int (2 : Int32)), .val (.int (2 : Int32)), .val (.int (2 : Int32)), .val (.int (nar .char c1))] [])
  refine own_st (fun _ kt => XS.iload X4.here hx rfl (hb hby own_d7_44) rfl  kt) ?_
  show own_Rch p e below _ T4 (mkF m 46 #[.val (.ref r), .val (.int (2 : Int32)), .val (.ref b), .val (.int (2 : Int32)), .val (.int (2 : Int32)), .val (.int (2 : Int32)), .val (.int (nar .char c1))] [(.int (2 : Int32))])
  refine own_retI X4 hx Bd.notSynchronized Bd.returns (hb hby own_d7_46) (by decide) (by decide) ?_
  rw [e4]
  exact ⟨rfl, N4, K0_x4, V4s⟩
def own_Q_own_c3_2 (Z : State) (r : Addr) (kr : ClassId) (c0 : Int32) (c1 : Int32) (c2 : Int32) (h0 : Heap) (n0 : Nat) (v : Option Value) (h : Heap) (L : List Loc) : Prop := ∃ (b : Addr) (kb : ClassId), v = some (.ref b) ∧ Fr n0 L ∧ Keep h0 h [] ∧ h0.size ≤ b ∧ Arv Z h b kb .byte (2 : Int32) [(.int (own_b c0)), (.int (own_b c1))] (.int (0 : Int32))
set_option maxRecDepth 65536 in
set_option maxHeartbeats 40000000 in
theorem own_c3_2 (l : Launch) (Z : State) (a0 : Array Value) (hw : ∀ d ∈ tables_1, d.before a0 Z = true) (ws : List Jvm.Cond) (r : Addr) (kr : ClassId) (c0 : Int32) (c1 : Int32) (c2 : Int32) (h0 : Heap) (n0 : Nat) (O0 : Old Z n0 h0) (VR : Arv Z h0 r kr .char (2 : Int32) [(.int (nar .char c0)), (.int (nar .char c1))] (.int (0 : Int32))) (hc0 : own_ch c0) (hc1 : own_ch c1) (hc2 : own_ch c2) :
    MetFree l (⟨"java/lang/StringUTF16", "compress", "([CII)[B"⟩ : MethodName) (head1 (Jvm.Cond.code (⟨"java/lang/StringUTF16", "compress", "([CII)[B"⟩ : MethodName) jdk_52_method_16_code 6 (some (.array .byte)) :: ws) ({ frames := 1, cells := 1, slots := 2, locals := 18 } : Room)) (fun args_ U => args_ = #[(.ref r), (.int (0 : Int32)), (.int (2 : Int32))] ∧ Z.Warmed39 U.vm ∧ U.heap = h0) (fun _ _ _ _ _ => True) (fun _ U o U' => ∃ v L, o = .returned v ∧ (own_Q_own_c3_2 Z r kr c0 c1 c2 h0 n0) v U'.heap L ∧ FrameEnd U o U' L ({ frames := 1, cells := 1, slots := 2, locals := 18 } : Room).cells ({ frames := 1, cells := 1, slots := 2, locals := 18 } : Room).slots) := by
  refine MetFree.of_bodySF (plainFor_of_name own_pn2) hisR ?_
  intro p e s m args below meth c s₁ Bd hml0 hP hK
  obtain ⟨rfl, hZ, hh⟩ := hP
  have hx := Bd.exec
  have hby := Bd.bytes
  have hml : c.maxLocals = 6 := hml0
  have hown : s.vm.findClass "java/lang/StringUTF16" = some m.cls := findClass_of_methodNamed Bd.named
  have hnm := (name_of_methodNamed Bd.named Bd.method).1
  have X0 : Stand p l e ({ frames := 1, cells := 1, slots := 2, locals := 18 } : Room) s m #[(.ref r), (.int (0 : Int32)), (.int (2 : Int32))] below meth c s₁ [] 0 0 := Stand.of_body Bd
  have e0 : s₁.heap = h0 := by rw [← hh, Bd.state]; rfl
  have N0 := Fr.nil n0
  refine own_close (s := s) (Q := (own_Q_own_c3_2 Z r kr c0 c1 c2 h0 n0)) (C := (({ frames := 1, cells := 1, slots := 2, locals := 18 } : Room)).cells) (N := (({ frames := 1, cells := 1, slots := 2, locals := 18 } : Room)).slots) (own_st (fun _ kt => castTop (own_ef6 m r (0 : Int32) (2 : Int32)) kt) ?_)
  have K0 := Keep.refl h0 []
  show own_Rch p e below _ s₁ (mkF m 0 #[.val (.ref r), .val (.int (0 : Int32)), .val (.int (2 : Int32)), .unset, .unset, .unset] [])
  refine own_st (fun _ kt => XS.iloadN X0.here hx rfl (hb hby own_d6_0) rfl  kt) ?_
  show own_Rch p e below _ s₁ (mkF m 1 #[.val (.ref r), .val (.int (0 : Int32)), .val (.int (2 : Int32)), .unset, .unset, .unset] [(.int (2 : Int32))])
  obtain ⟨T1, h1, k1, X1, e1, E1, A1, st1⟩ := newP X0 hx hZ (hw _ (List.mem_of_getElem? (i := 26) rfl)) e0 (g := (mkF m 1 #[.val (.ref r), .val (.int (0 : Int32)), .val (.int (2 : Int32)), .unset, .unset, .unset] [(.int (2 : Int32))])) rfl (hb hby own_d6_1) rfl (by decide) (cap := 2) (by decide) (by decide) (by decide) (by decide)
  obtain ⟨b1, g1⟩ : ∃ z, z = h0.size := ⟨_, rfl⟩
  rw [← g1] at A1 st1
  have ge1 : n0 ≤ b1 := by rw [g1]; exact own_old_le O0
  have ne1_r : r ≠ b1 := by rw [g1]; exact Nat.ne_of_lt VR.lt
  have sz1 : h0.size ≤ b1 := by rw [g1]; exact K0.1
  have O0_x1 := O0.ext E1
  have VR_x1 := VR.ext E1
  have K0_x1 := K0.ext E1
  refine own_st st1 ?_
  have V1 := Arv.new A1 (by decide)
  have V1p : Arv Z h1 b1 k1 .byte (2 : Int32) [(.int (0 : Int32)), (.int (0 : Int32))] (.int (0 : Int32)) := V1.pad (pad_rep [] (.int (0 : Int32)) 2)
  show own_Rch p e below _ T1 (mkF m 3 #[.val (.ref r), .val (.int (0 : Int32)), .val (.int (2 : Int32)), .unset, .unset, .unset] [(.ref b1)])
  refine own_st (fun _ kt => XS.astoreN X1.here hx rfl (hb hby own_d6_3) rfl rfl (l' := #[.val (.ref r), .val (.int (0 : Int32)), .val (.int (2 : Int32)), .val (.ref b1), .unset, .unset]) rfl kt) ?_
  show own_Rch p e below _ T1 (mkF m 4 #[.val (.ref r), .val (.int (0 : Int32)), .val (.int (2 : Int32)), .val (.ref b1), .unset, .unset] [])
  refine own_st (fun _ kt => XS.aloadN X1.here hx rfl (hb hby own_d6_4) rfl rfl  kt) ?_
  show own_Rch p e below _ T1 (mkF m 5 #[.val (.ref r), .val (.int (0 : Int32)), .val (.int (2 : Int32)), .val (.ref b1), .unset, .unset] [(.ref r)])
  refine own_st (fun _ kt => XS.iloadN X1.here hx rfl (hb hby own_d6_5) rfl  kt) ?_
  show own_Rch p e below _ T1 (mkF m 6 #[.val (.ref r), .val (.int (0 : Int32)), .val (.int (2 : Int32)), .val (.ref b1), .unset, .unset] [(.int (0 : Int32)), (.ref r)])
  refine own_st (fun _ kt => XS.aloadN X1.here hx rfl (hb hby own_d6_6) rfl rfl  kt) ?_
  show own_Rch p e below _ T1 (mkF m 7 #[.val (.ref r), .val (.int (0 : Int32)), .val (.int (2 : Int32)), .val (.ref b1), .unset, .unset] [(.ref b1), (.int (0 : Int32)), (.ref r)])
  refine own_st (fun _ kt => XS.iconst X1.here hx rfl (hb hby own_d6_7) kt) ?_
  show own_Rch p e below _ T1 (mkF m 8 #[.val (.ref r), .val (.int (0 : Int32)), .val (.int (2 : Int32)), .val (.ref b1), .unset, .unset] [(.int (0 : Int32)), (.ref b1), (.int (0 : Int32)), (.ref r)])
  refine own_st (fun _ kt => XS.iloadN X1.here hx rfl (hb hby own_d6_8) rfl  kt) ?_
  show own_Rch p e below _ T1 (mkF m 9 #[.val (.ref r), .val (.int (0 : Int32)), .val (.int (2 : Int32)), .val (.ref b1), .unset, .unset] [(.int (2 : Int32)), (.int (0 : Int32)), (.ref b1), (.int (0 : Int32)), (.ref r)])
  obtain ⟨_, _, ⟨T2, L2, k2, n2⟩, -, X2, ⟨Lc2, hQ2, l2, y2, z2⟩, st2⟩ := Jvm.LawKit.callS X1 hx (y := (⟨"java/lang/StringUTF16", "compress", "([CI[BII)I"⟩ : MethodName)) hown (mvT hZ (hw _ (List.mem_of_getElem? (i := 27) rfl))) (mvT hZ (hw _ (List.mem_of_getElem? (i := 28) rfl))) (mvT hZ (hw _ (List.mem_of_getElem? (i := 24) rfl))) (mvT hZ (hw _ (List.mem_of_getElem? (i := 29) rfl))) (by decide) (backOf (W := 0) (own_c5_2 l Z a0 hw [] r kr b1 k1 c0 c1 c2 h1 n0 O0_x1 VR_x1 V1p ge1 ne1_r hc0 hc1 hc2) hZ (hw _ (List.mem_of_getElem? (i := 29) rfl)) (hw _ (List.mem_of_getElem? (i := 24) rfl)) (by decide) (by decide)) (g := (mkF m 9 #[.val (.ref r), .val (.int (0 : Int32)), .val (.int (2 : Int32)), .val (.ref b1), .unset, .unset] [(.int (2 : Int32)), (.int (0 : Int32)), (.ref b1), (.int (0 : Int32)), (.ref r)])) rfl (by rw [hml]; rfl) (argsL := [(.ref r), (.int (0 : Int32)), (.ref b1), (.int (0 : Int32)), (.int (2 : Int32))]) (rest := []) (lenOf own_pd1 rfl) rfl (by show 2 * 0 + _ ≤ _; exact Nat.le_of_eq rfl) (hb hby own_d6_9) (fun _ _ => ⟨rfl, e1, (by decide : 1 + 0 ≤ _), (by decide : 2 + 0 ≤ _)⟩)
  dsimp only [Pt.U, Pt.locs, Pt.cells, Pt.slots] at X2 l2 y2 z2 st2 hQ2
  subst l2 y2 z2
  obtain ⟨rfl, N2q, K2, Vb2⟩ := hQ2
  have N2 := Fr.app N0 N2q
  refine own_st st2 ?_
  have O0_x2 := O0_x1.keep K2 (allS ge1 all0)
  have VR_x2 := VR_x1.keep K2 (ninS ne1_r nin0)
  have K0_x2 := K0_x1.trans K2 (allS (Or.inr sz1) all0)
  show own_Rch p e below _ T2 (mkF m 12 #[.val (.ref r), .val (.int (0 : Int32)), .val (.int (2 : Int32)), .val (.ref b1), .unset, .unset] [(.int (2 : Int32))])
  refine own_st (fun _ kt => XS.istore X2.here hx rfl (hb hby own_d6_12) rfl (l' := #[.val (.ref r), .val (.int (0 : Int32)), .val (.int (2 : Int32)), .val (.ref b1), .val (.int (2 : Int32)), .unset]) rfl kt) ?_
  show own_Rch p e below _ T2 (mkF m 14 #[.val (.ref r), .val (.int (0 : Int32)), .val (.int (2 : Int32)), .val (.ref b1), .val (.int (2 : Int32)), .unset] [])
  refine own_st (fun _ kt => XS.iload X2.here hx rfl (hb hby own_d6_14) rfl  kt) ?_
  show own_Rch p e below _ T2 (mkF m 16 #[.val (.ref r), .val (.int (0 : Int32)), .val (.int (2 : Int32)), .val (.ref b1), .val (.int (2 : Int32)), .unset] [(.int (2 : Int32))])
  refine own_st (fun _ kt => XS.iloadN X2.here hx rfl (hb hby own_d6_16) rfl  kt) ?_
  show own_Rch p e below _ T2 (mkF m 17 #[.val (.ref r), .val (.int (0 : Int32)), .val (.int (2 : Int32)), .val (.ref b1), .val (.int (2 : Int32)), .unset] [(.int (2 : Int32)), (.int (2 : Int32))])
  refine own_st (fun _ kt => XS.icmpYes X2.here hx rfl (pc0 := 17) (pc' := 57) rfl (hb hby own_d6_17) rfl (teq (rfl : (2 : Int32) = (2 : Int32))).1 (by decide) (by decide) kt) ?_
  show own_Rch p e below _ T2 (mkF m 57 #[.val (.ref r), .val (.int (0 : Int32)), .val (.int (2 : Int32)), .val (.ref b1), .val (.int (2 : Int32)), .unset] [])
  refine own_st (fun _ kt => XS.aloadN X2.here hx rfl (hb hby own_d6_57) rfl rfl  kt) ?_
  show own_Rch p e below _ T2 (mkF m 58 #[.val (.ref r), .val (.int (0 : Int32)), .val (.int (2 : Int32)), .val (.ref b1), .val (.int (2 : Int32)), .unset] [(.ref b1)])
  refine own_retA rfl rfl X2 hx Bd.notSynchronized Bd.returns (hb hby own_d6_58) (by decide) (by decide) ?_
  exact ⟨_, _, rfl, N2, K0_x2, sz1, Vb2⟩
def own_Q_own_cf_2 (Z : State) (b : Addr) (kb : ClassId) (vs : List Value) (h0 : Heap) (n0 : Nat) (v : Option Value) (h : Heap) (L : List Loc) : Prop := v = some (.int (0 : Int32)) ∧ Fr n0 L ∧ h = h0
set_option maxRecDepth 65536 in
set_option maxHeartbeats 40000000 in
theorem own_cf_2 (l : Launch) (Z : State) (a0 : Array Value) (hw : ∀ d ∈ tables_1, d.before a0 Z = true) (ws : List Jvm.Cond) (b : Addr) (kb : ClassId) (vs : List Value) (h0 : Heap) (n0 : Nat) (O0 : Old Z n0 h0) (VB : Arv Z h0 b kb .byte (2 : Int32) vs (.int (0 : Int32))) :
    MetFree l (⟨"java/lang/StringUTF16", "coderFromArrayLen", "([BI)B"⟩ : MethodName) (head1 (Jvm.Cond.code (⟨"java/lang/StringUTF16", "coderFromArrayLen", "([BI)B"⟩ : MethodName) jdk_52_method_15_code 2 (some .byte) :: ws) ({ frames := 0, cells := 0, slots := 0, locals := 0 } : Room)) (fun args_ U => args_ = #[(.ref b), (.int (2 : Int32))] ∧ Z.Warmed39 U.vm ∧ U.heap = h0) (fun _ _ _ _ _ => True) (fun _ U o U' => ∃ v L, o = .returned v ∧ (own_Q_own_cf_2 Z b kb vs h0 n0) v U'.heap L ∧ FrameEnd U o U' L ({ frames := 0, cells := 0, slots := 0, locals := 0 } : Room).cells ({ frames := 0, cells := 0, slots := 0, locals := 0 } : Room).slots) := by
  refine MetFree.of_bodySF (plainFor_of_name own_pn2) hisR ?_
  intro p e s m args below meth c s₁ Bd hml0 hP hK
  obtain ⟨rfl, hZ, hh⟩ := hP
  have hx := Bd.exec
  have hby := Bd.bytes
  have hml : c.maxLocals = 2 := hml0
  have hown : s.vm.findClass "java/lang/StringUTF16" = some m.cls := findClass_of_methodNamed Bd.named
  have hnm := (name_of_methodNamed Bd.named Bd.method).1
  have X0 : Stand p l e ({ frames := 0, cells := 0, slots := 0, locals := 0 } : Room) s m #[(.ref b), (.int (2 : Int32))] below meth c s₁ [] 0 0 := Stand.of_body Bd
  have e0 : s₁.heap = h0 := by rw [← hh, Bd.state]; rfl
  have N0 := Fr.nil n0
  refine own_close (s := s) (Q := (own_Q_own_cf_2 Z b kb vs h0 n0)) (C := (({ frames := 0, cells := 0, slots := 0, locals := 0 } : Room)).cells) (N := (({ frames := 0, cells := 0, slots := 0, locals := 0 } : Room)).slots) (own_st (fun _ kt => castTop (own_ef8 m b (2 : Int32)) kt) ?_)
  show own_Rch p e below _ s₁ (mkF m 0 #[.val (.ref b), .val (.int (2 : Int32))] [])
  refine own_st (fun _ kt => XS.iloadN X0.here hx rfl (hb hby own_d8_0) rfl  kt) ?_
  show own_Rch p e below _ s₁ (mkF m 1 #[.val (.ref b), .val (.int (2 : Int32))] [(.int (2 : Int32))])
  refine own_st (fun _ kt => XS.aloadN X0.here hx rfl (hb hby own_d8_1) rfl rfl  kt) ?_
  show own_Rch p e below _ s₁ (mkF m 2 #[.val (.ref b), .val (.int (2 : Int32))] [(.ref b), (.int (2 : Int32))])
  obtain ⟨cl1, Ar1, -, S1, M1, -, -⟩ := id VB
  refine own_st (X0.arraylength hx (by rw [e0]; exact Ar1.1) (State.isArrayOf_alike (hZ).alike Ar1.2.1) (g := (mkF m 2 #[.val (.ref b), .val (.int (2 : Int32))] [(.ref b), (.int (2 : Int32))])) rfl rfl (hb hby own_d8_2)) ?_
  rw [len_of S1 M1]
  show own_Rch p e below _ s₁ (mkF m 3 #[.val (.ref b), .val (.int (2 : Int32))] [(.int (2 : Int32)), (.int (2 : Int32))])
  refine own_st (fun _ kt => XS.isub X0.here hx rfl (hb hby own_d8_3) rfl kt) ?_
  show own_Rch p e below _ s₁ (mkF m 4 #[.val (.ref b), .val (.int (2 : Int32))] [(.int (0 : Int32))])
  refine own_st (fun _ kt => XS.bipush X0.here hx rfl (hb hby own_d8_4) kt) ?_
  show own_Rch p e below _ s₁ (mkF m 6 #[.val (.ref b), .val (.int (2 : Int32))] [(.int (31 : Int32)), (.int (0 : Int32))])
  refine own_st (fun _ kt => XS.iushr X0.here hx rfl (hb hby own_d8_6) rfl kt) ?_
  show own_Rch p e below _ s₁ (mkF m 7 #[.val (.ref b), .val (.int (2 : Int32))] [(.int (((0 : Int32).toUInt32 >>> ((31 : Int32) &&& 31).toUInt32).toInt32))])
  refine own_st (fun _ kt => XS.i2b X0.here hx rfl (hb hby own_d8_7) rfl kt) ?_
  show own_Rch p e below _ s₁ (mkF m 8 #[.val (.ref b), .val (.int (2 : Int32))] [(.int ((((0 : Int32).toUInt32 >>> ((31 : Int32) &&& 31).toUInt32).toInt32).toInt8.toInt32))])
  refine own_retN (t := .byte) (by simp) X0 hx Bd.notSynchronized Bd.returns (hb hby own_d8_8) (by decide) (by decide) ?_
  rw [e0]
  exact ⟨by decide, N0, rfl⟩
def own_Q_own_i5_2 (Z : State) (a : Addr) (r : Addr) (kr : ClassId) (c0 : Int32) (c1 : Int32) (c2 : Int32) (cs : Int32) (h0 : Heap) (n0 : Nat) (v : Option Value) (h : Heap) (L : List Loc) : Prop := v = none ∧ Fr n0 L ∧ Keep h0 h [a] ∧ ∃ (y : Addr) (ky : ClassId), Exa Z h a "java/lang/String" ∧ Fld Z h a "java/lang/String" "value" "[B" (.ref y) ∧ Fld Z h a "java/lang/String" "coder" "B" (.int (0 : Int32)) ∧ Arv Z h y ky .byte (2 : Int32) [(.int (own_b c0)), (.int (own_b c1))] (.int (0 : Int32))
set_option maxRecDepth 65536 in
set_option maxHeartbeats 40000000 in
theorem own_i5_2 (l : Launch) (Z : State) (a0 : Array Value) (hw : ∀ d ∈ tables_1, d.before a0 Z = true) (ws : List Jvm.Cond) (a : Addr) (r : Addr) (kr : ClassId) (c0 : Int32) (c1 : Int32) (c2 : Int32) (cs : Int32) (h0 : Heap) (n0 : Nat) (O0 : Old Z n0 h0) (SC : Sta Z Z.heap "java/lang/String" "COMPACT_STRINGS" "Z" (.int cs)) (hcs : ¬ cs = 0) (VR : Arv Z h0 r kr .char (2 : Int32) [(.int (nar .char c0)), (.int (nar .char c1))] (.int (0 : Int32))) (EA : Exa Z h0 a "java/lang/String") (FV : Fld Z h0 a "java/lang/String" "value" "[B" .null) (FC : Fld Z h0 a "java/lang/String" "coder" "B" (.int (0 : Int32))) (ga : n0 ≤ a) (hc0 : own_ch c0) (hc1 : own_ch c1) (hc2 : own_ch c2) :
    MetFree l (⟨"java/lang/String", "<init>", "([CIILjava/lang/Void;)V"⟩ : MethodName) (head1 (Jvm.Cond.code (⟨"java/lang/String", "<init>", "([CIILjava/lang/Void;)V"⟩ : MethodName) jdk_42_method_149_code 6 none :: ws) ({ frames := 2, cells := 1, slots := 2, locals := 35 } : Room)) (fun args_ U => args_ = #[(.ref a), (.ref r), (.int (0 : Int32)), (.int (2 : Int32)), .null] ∧ Z.Warmed39 U.vm ∧ U.heap = h0) (fun _ _ _ _ _ => True) (fun _ U o U' => ∃ v L, o = .returned v ∧ (own_Q_own_i5_2 Z a r kr c0 c1 c2 cs h0 n0) v U'.heap L ∧ FrameEnd U o U' L ({ frames := 2, cells := 1, slots := 2, locals := 35 } : Room).cells ({ frames := 2, cells := 1, slots := 2, locals := 35 } : Room).slots) := by
  refine MetFree.of_bodySF (plainFor_of_name own_pn1) hisR ?_
  intro p e s m args below meth c s₁ Bd hml0 hP hK
  obtain ⟨rfl, hZ, hh⟩ := hP
  have hx := Bd.exec
  have hby := Bd.bytes
  have hml : c.maxLocals = 6 := hml0
  have hown : s.vm.findClass "java/lang/String" = some m.cls := findClass_of_methodNamed Bd.named
  have hnm := (name_of_methodNamed Bd.named Bd.method).1
  have X0 : Stand p l e ({ frames := 2, cells := 1, slots := 2, locals := 35 } : Room) s m #[(.ref a), (.ref r), (.int (0 : Int32)), (.int (2 : Int32)), .null] below meth c s₁ [] 0 0 := Stand.of_body Bd
  have e0 : s₁.heap = h0 := by rw [← hh, Bd.state]; rfl
  have N0 := Fr.nil n0
  refine own_close (s := s) (Q := (own_Q_own_i5_2 Z a r kr c0 c1 c2 cs h0 n0)) (C := (({ frames := 2, cells := 1, slots := 2, locals := 35 } : Room)).cells) (N := (({ frames := 2, cells := 1, slots := 2, locals := 35 } : Room)).slots) (own_st (fun _ kt => castTop (own_ef4n4 m a r (0 : Int32) (2 : Int32)) kt) ?_)
  have K0 := Keep.refl h0 [a]
  show own_Rch p e below _ s₁ (mkF m 0 #[.val (.ref a), .val (.ref r), .val (.int (0 : Int32)), .val (.int (2 : Int32)), .val .null, .unset] [])
  refine own_st (fun _ kt => XS.aloadN X0.here hx rfl (hb hby own_d4_0) rfl rfl  kt) ?_
  show own_Rch p e below _ s₁ (mkF m 1 #[.val (.ref a), .val (.ref r), .val (.int (0 : Int32)), .val (.int (2 : Int32)), .val .null, .unset] [(.ref a)])
  obtain ⟨T1, X1, e1, st1⟩ := initO X0 hx hZ hown (hw _ (List.mem_of_getElem? (i := 18) rfl)) (hw _ (List.mem_of_getElem? (i := 19) rfl)) (hw _ (List.mem_of_getElem? (i := 20) rfl)) e0 (g := (mkF m 1 #[.val (.ref a), .val (.ref r), .val (.int (0 : Int32)), .val (.int (2 : Int32)), .val .null, .unset] [(.ref a)])) rfl (by rw [hml]; rfl) rfl (hb hby own_d4_1) (by decide) (W := 0) (by show 2 * 0 + _ ≤ _; exact Nat.le_of_eq rfl) (by decide)
  refine own_st st1 ?_
  show own_Rch p e below _ T1 (mkF m 4 #[.val (.ref a), .val (.ref r), .val (.int (0 : Int32)), .val (.int (2 : Int32)), .val .null, .unset] [])
  refine own_st (fun _ kt => XS.iloadN X1.here hx rfl (hb hby own_d4_4) rfl  kt) ?_
  show own_Rch p e below _ T1 (mkF m 5 #[.val (.ref a), .val (.ref r), .val (.int (0 : Int32)), .val (.int (2 : Int32)), .val .null, .unset] [(.int (2 : Int32))])
  refine own_st (fun _ kt => XS.ifYes X1.here hx rfl (pc0 := 5) (pc' := 27) rfl (hb hby own_d4_5) rfl ((if0 _ _).trans (feq ((by decide) : ¬ ((2 : Int32) = (0 : Int32)))).2) (by decide) (by decide) kt) ?_
  show own_Rch p e below _ T1 (mkF m 27 #[.val (.ref a), .val (.ref r), .val (.int (0 : Int32)), .val (.int (2 : Int32)), .val .null, .unset] [])
  obtain ⟨T2, X2, e2, st2⟩ := getS2 X1 hx hZ hown (host := "") (Or.inl (hw _ (List.mem_of_getElem? (i := 21) rfl))) Via.refl e1 (SC.ext O0.2) (g := (mkF m 27 #[.val (.ref a), .val (.ref r), .val (.int (0 : Int32)), .val (.int (2 : Int32)), .val .null, .unset] [])) rfl (hb hby own_d4_27)
  refine own_st st2 ?_
  show own_Rch p e below _ T2 (mkF m 30 #[.val (.ref a), .val (.ref r), .val (.int (0 : Int32)), .val (.int (2 : Int32)), .val .null, .unset] [(.int cs)])
  refine own_st (fun _ kt => XS.ifNo X2.here hx rfl (hb hby own_d4_30) rfl ((if0 _ _).trans (feq (hcs : ¬ (cs = (0 : Int32)))).1) kt) ?_
  show own_Rch p e below _ T2 (mkF m 33 #[.val (.ref a), .val (.ref r), .val (.int (0 : Int32)), .val (.int (2 : Int32)), .val .null, .unset] [])
  refine own_st (fun _ kt => XS.aloadN X2.here hx rfl (hb hby own_d4_33) rfl rfl  kt) ?_
  show own_Rch p e below _ T2 (mkF m 34 #[.val (.ref a), .val (.ref r), .val (.int (0 : Int32)), .val (.int (2 : Int32)), .val .null, .unset] [(.ref r)])
  refine own_st (fun _ kt => XS.iloadN X2.here hx rfl (hb hby own_d4_34) rfl  kt) ?_
  show own_Rch p e below _ T2 (mkF m 35 #[.val (.ref a), .val (.ref r), .val (.int (0 : Int32)), .val (.int (2 : Int32)), .val .null, .unset] [(.int (0 : Int32)), (.ref r)])
  refine own_st (fun _ kt => XS.iloadN X2.here hx rfl (hb hby own_d4_35) rfl  kt) ?_
  show own_Rch p e below _ T2 (mkF m 36 #[.val (.ref a), .val (.ref r), .val (.int (0 : Int32)), .val (.int (2 : Int32)), .val .null, .unset] [(.int (2 : Int32)), (.int (0 : Int32)), (.ref r)])
  obtain ⟨_, _, ⟨T3, L3, k3, n3⟩, -, X3, ⟨Lc3, hQ3, l3, y3, z3⟩, st3⟩ := Jvm.LawKit.callS X2 hx (y := (⟨"java/lang/StringUTF16", "compress", "([CII)[B"⟩ : MethodName)) hown (mvT hZ (hw _ (List.mem_of_getElem? (i := 22) rfl))) (mvT hZ (hw _ (List.mem_of_getElem? (i := 23) rfl))) (mvT hZ (hw _ (List.mem_of_getElem? (i := 24) rfl))) (mvT hZ (hw _ (List.mem_of_getElem? (i := 25) rfl))) (by decide) (backOf (W := 0) (own_c3_2 l Z a0 hw [] r kr c0 c1 c2 h0 n0 O0 VR hc0 hc1 hc2) hZ (hw _ (List.mem_of_getElem? (i := 25) rfl)) (hw _ (List.mem_of_getElem? (i := 24) rfl)) (by decide) (by decide)) (g := (mkF m 36 #[.val (.ref a), .val (.ref r), .val (.int (0 : Int32)), .val (.int (2 : Int32)), .val .null, .unset] [(.int (2 : Int32)), (.int (0 : Int32)), (.ref r)])) rfl (by rw [hml]; rfl) (argsL := [(.ref r), (.int (0 : Int32)), (.int (2 : Int32))]) (rest := []) (lenOf own_pd2 rfl) rfl (by show 2 * 0 + _ ≤ _; exact Nat.le_of_eq rfl) (hb hby own_d4_36) (fun _ _ => ⟨rfl, e2, (by decide : 0 + 1 ≤ _), (by decide : 0 + 2 ≤ _)⟩)
  dsimp only [Pt.U, Pt.locs, Pt.cells, Pt.slots] at X3 l3 y3 z3 st3 hQ3
  subst l3 y3 z3
  obtain ⟨by3, kb3, rfl, N3q, K3, hb3, Vb3⟩ := hQ3
  have N3 := Fr.app N0 N3q
  refine own_st st3 ?_
  have ne3_r_by3 : r ≠ by3 := Nat.ne_of_lt (Nat.lt_of_lt_of_le VR.lt hb3)
  have ne3_a_by3 : a ≠ by3 := Nat.ne_of_lt (Nat.lt_of_lt_of_le EA.lt hb3)
  have ge3_by3 : n0 ≤ by3 := Nat.le_trans (own_old_le O0) hb3
  have sz3_by3 : h0.size ≤ by3 := Nat.le_trans K0.1 hb3
  have O0_x3 := O0.keep K3 all0
  have VR_x3 := VR.keep K3 nin0
  have EA_x3 := EA.keep K3
  have FV_x3 := FV.keep K3 nin0
  have FC_x3 := FC.keep K3 nin0
  have K0_x3 := K0.trans K3 all0
  show own_Rch p e below _ T3 (mkF m 39 #[.val (.ref a), .val (.ref r), .val (.int (0 : Int32)), .val (.int (2 : Int32)), .val .null, .unset] [(.ref by3)])
  refine own_st (fun _ kt => XS.astore X3.here hx rfl (hb hby own_d4_39) rfl rfl (l' := #[.val (.ref a), .val (.ref r), .val (.int (0 : Int32)), .val (.int (2 : Int32)), .val .null, .val (.ref by3)]) rfl kt) ?_
  show own_Rch p e below _ T3 (mkF m 41 #[.val (.ref a), .val (.ref r), .val (.int (0 : Int32)), .val (.int (2 : Int32)), .val .null, .val (.ref by3)] [])
  refine own_st (fun _ kt => XS.aloadN X3.here hx rfl (hb hby own_d4_41) rfl rfl  kt) ?_
  show own_Rch p e below _ T3 (mkF m 42 #[.val (.ref a), .val (.ref r), .val (.int (0 : Int32)), .val (.int (2 : Int32)), .val .null, .val (.ref by3)] [(.ref a)])
  refine own_st (fun _ kt => XS.aload X3.here hx rfl (hb hby own_d4_42) rfl rfl  kt) ?_
  show own_Rch p e below _ T3 (mkF m 44 #[.val (.ref a), .val (.ref r), .val (.int (0 : Int32)), .val (.int (2 : Int32)), .val .null, .val (.ref by3)] [(.ref by3), (.ref a)])
  refine own_st (fun _ kt => XS.iloadN X3.here hx rfl (hb hby own_d4_44) rfl  kt) ?_
  show own_Rch p e below _ T3 (mkF m 45 #[.val (.ref a), .val (.ref r), .val (.int (0 : Int32)), .val (.int (2 : Int32)), .val .null, .val (.ref by3)] [(.int (2 : Int32)), (.ref by3), (.ref a)])
  obtain ⟨_, _, ⟨T4, L4, k4, n4⟩, -, X4, ⟨Lc4, hQ4, l4, y4, z4⟩, st4⟩ := Jvm.LawKit.callS X3 hx (y := (⟨"java/lang/StringUTF16", "coderFromArrayLen", "([BI)B"⟩ : MethodName)) hown (mvT hZ (hw _ (List.mem_of_getElem? (i := 30) rfl))) (mvT hZ (hw _ (List.mem_of_getElem? (i := 31) rfl))) (mvT hZ (hw _ (List.mem_of_getElem? (i := 24) rfl))) (mvT hZ (hw _ (List.mem_of_getElem? (i := 32) rfl))) (by decide) (backOf (W := 1) (own_cf_2 l Z a0 hw [] by3 kb3 _ T3.heap n0 O0_x3 Vb3) hZ (hw _ (List.mem_of_getElem? (i := 32) rfl)) (hw _ (List.mem_of_getElem? (i := 24) rfl)) (by decide) (by decide)) (g := (mkF m 45 #[.val (.ref a), .val (.ref r), .val (.int (0 : Int32)), .val (.int (2 : Int32)), .val .null, .val (.ref by3)] [(.int (2 : Int32)), (.ref by3), (.ref a)])) rfl (by rw [hml]; rfl) (argsL := [(.ref by3), (.int (2 : Int32))]) (rest := [(.ref a)]) (lenOf own_pd3 rfl) rfl (by show 2 * 0 + _ ≤ _; exact Nat.le_of_eq rfl) (hb hby own_d4_45) (fun _ _ => ⟨rfl, rfl, (by decide : 1 + 0 ≤ _), (by decide : 2 + 0 ≤ _)⟩)
  dsimp only [Pt.U, Pt.locs, Pt.cells, Pt.slots] at X4 l4 y4 z4 st4 hQ4
  subst l4 y4 z4
  obtain ⟨rfl, N4q, hh4⟩ := hQ4
  have N4 := Fr.app N3 N4q
  refine own_st st4 ?_
  show own_Rch p e below _ T4 (mkF m 48 #[.val (.ref a), .val (.ref r), .val (.int (0 : Int32)), .val (.int (2 : Int32)), .val .null, .val (.ref by3)] [(.int (0 : Int32)), (.ref a)])
  obtain ⟨T5, h5, X5, e5, W5, st5⟩ := putFN X4 hx hZ hown (hw _ (List.mem_of_getElem? (i := 33) rfl)) Via.refl hh4 FC_x3 EA_x3 (Or.inr ⟨(hw _ (List.mem_of_getElem? (i := 34) rfl)), rfl, hnm⟩) (hw _ (List.mem_of_getElem? (i := 8) rfl)) (ty := .byte) (v' := (.int (0 : Int32))) (by decide) rfl (by decide) (g := (mkF m 48 #[.val (.ref a), .val (.ref r), .val (.int (0 : Int32)), .val (.int (2 : Int32)), .val .null, .val (.ref by3)] [(.int (0 : Int32)), (.ref a)])) rfl rfl (hb hby own_d4_48)
  refine own_st st5 ?_
  have Fw5 := FC_x3.same W5
  have N5 := Fr.snoc X5 N4 ga
  have O0_x5 := O0_x3.wr W5 ga
  have VR_x5 := VR_x3.other W5 (Ne.symm (Exa.neArv EA VR (hw _ (List.mem_of_getElem? (i := 8) rfl))))
  have EA_x5 := EA_x3.wr W5
  have FV_x5 := FV_x3.other W5 (Or.inr (slot_ne (Or.inr (hw _ (List.mem_of_getElem? (i := 36) rfl))) (Or.inr (hw _ (List.mem_of_getElem? (i := 34) rfl))) (by decide) (t := (.array .byte)) (t' := .byte) (by decide) (by decide)))
  have K0_x5 := K0_x3.wr W5 (Or.inl (List.mem_of_getElem? (i := 0) rfl))
  have Vb3_x5 := Vb3.other W5 (Ne.symm ne3_a_by3)
  show own_Rch p e below _ T5 (mkF m 51 #[.val (.ref a), .val (.ref r), .val (.int (0 : Int32)), .val (.int (2 : Int32)), .val .null, .val (.ref by3)] [])
  refine own_st (fun _ kt => XS.aloadN X5.here hx rfl (hb hby own_d4_51) rfl rfl  kt) ?_
  show own_Rch p e below _ T5 (mkF m 52 #[.val (.ref a), .val (.ref r), .val (.int (0 : Int32)), .val (.int (2 : Int32)), .val .null, .val (.ref by3)] [(.ref a)])
  refine own_st (fun _ kt => XS.aload X5.here hx rfl (hb hby own_d4_52) rfl rfl  kt) ?_
  show own_Rch p e below _ T5 (mkF m 54 #[.val (.ref a), .val (.ref r), .val (.int (0 : Int32)), .val (.int (2 : Int32)), .val .null, .val (.ref by3)] [(.ref by3), (.ref a)])
  obtain ⟨T6, h6, X6, e6, W6, st6⟩ := putF X5 hx hZ hown (host := "") (Or.inl (hw _ (List.mem_of_getElem? (i := 35) rfl))) Via.refl e5 FV_x5 EA_x5 (Or.inr ⟨(hw _ (List.mem_of_getElem? (i := 36) rfl)), rfl, hnm⟩) (hw _ (List.mem_of_getElem? (i := 8) rfl)) (ty := (.array .byte)) (by decide) rfl rfl (g := (mkF m 54 #[.val (.ref a), .val (.ref r), .val (.int (0 : Int32)), .val (.int (2 : Int32)), .val .null, .val (.ref by3)] [(.ref by3), (.ref a)])) rfl rfl (hb hby own_d4_54)
  refine own_st st6 ?_
  have Fw6 := FV_x5.same W6
  have N6 := Fr.snoc X6 N5 ga
  have O0_x6 := O0_x5.wr W6 ga
  have VR_x6 := VR_x5.other W6 (Ne.symm (Exa.neArv EA VR (hw _ (List.mem_of_getElem? (i := 8) rfl))))
  have EA_x6 := EA_x5.wr W6
  have Fw5_x6 := Fw5.other W6 (Or.inr (slot_ne (Or.inr (hw _ (List.mem_of_getElem? (i := 34) rfl))) (Or.inr (hw _ (List.mem_of_getElem? (i := 36) rfl))) (by decide) (t := .byte) (t' := (.array .byte)) (by decide) (by decide)))
  have K0_x6 := K0_x5.wr W6 (Or.inl (List.mem_of_getElem? (i := 0) rfl))
  have Vb3_x6 := Vb3_x5.other W6 (Ne.symm ne3_a_by3)
  show own_Rch p e below _ T6 (mkF m 57 #[.val (.ref a), .val (.ref r), .val (.int (0 : Int32)), .val (.int (2 : Int32)), .val .null, .val (.ref by3)] [])
  refine own_retV X6 hx Bd.notSynchronized Bd.returns (hb hby own_d4_57) (by decide) (by decide) ?_
  rw [e6]
  exact ⟨rfl, N6, K0_x6, _, _, EA_x6, Fw6, Fw5_x6, Vb3_x6⟩
def own_Q_own_i1_2 (Z : State) (a : Addr) (r : Addr) (kr : ClassId) (c0 : Int32) (c1 : Int32) (c2 : Int32) (cs : Int32) (h0 : Heap) (n0 : Nat) (v : Option Value) (h : Heap) (L : List Loc) : Prop := v = none ∧ Fr n0 L ∧ Keep h0 h [a] ∧ ∃ (y : Addr) (ky : ClassId), Exa Z h a "java/lang/String" ∧ Fld Z h a "java/lang/String" "value" "[B" (.ref y) ∧ Fld Z h a "java/lang/String" "coder" "B" (.int (0 : Int32)) ∧ Arv Z h y ky .byte (2 : Int32) [(.int (own_b c0)), (.int (own_b c1))] (.int (0 : Int32))
set_option maxRecDepth 65536 in
set_option maxHeartbeats 40000000 in
theorem own_i1_2 (l : Launch) (Z : State) (a0 : Array Value) (hw : ∀ d ∈ tables_1, d.before a0 Z = true) (ws : List Jvm.Cond) (a : Addr) (r : Addr) (kr : ClassId) (c0 : Int32) (c1 : Int32) (c2 : Int32) (cs : Int32) (h0 : Heap) (n0 : Nat) (O0 : Old Z n0 h0) (SC : Sta Z Z.heap "java/lang/String" "COMPACT_STRINGS" "Z" (.int cs)) (hcs : ¬ cs = 0) (VR : Arv Z h0 r kr .char (2 : Int32) [(.int (nar .char c0)), (.int (nar .char c1))] (.int (0 : Int32))) (EA : Exa Z h0 a "java/lang/String") (FV : Fld Z h0 a "java/lang/String" "value" "[B" .null) (FC : Fld Z h0 a "java/lang/String" "coder" "B" (.int (0 : Int32))) (ga : n0 ≤ a) (hc0 : own_ch c0) (hc1 : own_ch c1) (hc2 : own_ch c2) :
    MetFree l (⟨"java/lang/String", "<init>", "([C)V"⟩ : MethodName) (head1 (Jvm.Cond.code (⟨"java/lang/String", "<init>", "([C)V"⟩ : MethodName) jdk_42_method_3_code 2 none :: ws) ({ frames := 3, cells := 1, slots := 2, locals := 52 } : Room)) (fun args_ U => args_ = #[(.ref a), (.ref r)] ∧ Z.Warmed39 U.vm ∧ U.heap = h0) (fun _ _ _ _ _ => True) (fun _ U o U' => ∃ v L, o = .returned v ∧ (own_Q_own_i1_2 Z a r kr c0 c1 c2 cs h0 n0) v U'.heap L ∧ FrameEnd U o U' L ({ frames := 3, cells := 1, slots := 2, locals := 52 } : Room).cells ({ frames := 3, cells := 1, slots := 2, locals := 52 } : Room).slots) := by
  refine MetFree.of_bodySF (plainFor_of_name own_pn1) hisR ?_
  intro p e s m args below meth c s₁ Bd hml0 hP hK
  obtain ⟨rfl, hZ, hh⟩ := hP
  have hx := Bd.exec
  have hby := Bd.bytes
  have hml : c.maxLocals = 2 := hml0
  have hown : s.vm.findClass "java/lang/String" = some m.cls := findClass_of_methodNamed Bd.named
  have hnm := (name_of_methodNamed Bd.named Bd.method).1
  have X0 : Stand p l e ({ frames := 3, cells := 1, slots := 2, locals := 52 } : Room) s m #[(.ref a), (.ref r)] below meth c s₁ [] 0 0 := Stand.of_body Bd
  have e0 : s₁.heap = h0 := by rw [← hh, Bd.state]; rfl
  have N0 := Fr.nil n0
  refine own_close (s := s) (Q := (own_Q_own_i1_2 Z a r kr c0 c1 c2 cs h0 n0)) (C := (({ frames := 3, cells := 1, slots := 2, locals := 52 } : Room)).cells) (N := (({ frames := 3, cells := 1, slots := 2, locals := 52 } : Room)).slots) (own_st (fun _ kt => castTop (own_ef3 m a r) kt) ?_)
  have K0 := Keep.refl h0 [a]
  show own_Rch p e below _ s₁ (mkF m 0 #[.val (.ref a), .val (.ref r)] [])
  refine own_st (fun _ kt => XS.aloadN X0.here hx rfl (hb hby own_d3_0) rfl rfl  kt) ?_
  show own_Rch p e below _ s₁ (mkF m 1 #[.val (.ref a), .val (.ref r)] [(.ref a)])
  refine own_st (fun _ kt => XS.aloadN X0.here hx rfl (hb hby own_d3_1) rfl rfl  kt) ?_
  show own_Rch p e below _ s₁ (mkF m 2 #[.val (.ref a), .val (.ref r)] [(.ref r), (.ref a)])
  refine own_st (fun _ kt => XS.iconst X0.here hx rfl (hb hby own_d3_2) kt) ?_
  show own_Rch p e below _ s₁ (mkF m 3 #[.val (.ref a), .val (.ref r)] [(.int (0 : Int32)), (.ref r), (.ref a)])
  refine own_st (fun _ kt => XS.aloadN X0.here hx rfl (hb hby own_d3_3) rfl rfl  kt) ?_
  show own_Rch p e below _ s₁ (mkF m 4 #[.val (.ref a), .val (.ref r)] [(.ref r), (.int (0 : Int32)), (.ref r), (.ref a)])
  obtain ⟨cl1, Ar1, -, S1, M1, -, -⟩ := id VR
  refine own_st (X0.arraylength hx (by rw [e0]; exact Ar1.1) (State.isArrayOf_alike (hZ).alike Ar1.2.1) (g := (mkF m 4 #[.val (.ref a), .val (.ref r)] [(.ref r), (.int (0 : Int32)), (.ref r), (.ref a)])) rfl rfl (hb hby own_d3_4)) ?_
  rw [len_of S1 M1]
  show own_Rch p e below _ s₁ (mkF m 5 #[.val (.ref a), .val (.ref r)] [(.int (2 : Int32)), (.int (0 : Int32)), (.ref r), (.ref a)])
  refine own_st (fun _ kt => XS.aconstNull X0.here hx rfl (hb hby own_d3_5) kt) ?_
  show own_Rch p e below _ s₁ (mkF m 6 #[.val (.ref a), .val (.ref r)] [.null, (.int (2 : Int32)), (.int (0 : Int32)), (.ref r), (.ref a)])
  obtain ⟨_, _, ⟨T2, L2, k2, n2⟩, -, X2, ⟨Lc2, hQ2, l2, y2, z2⟩, st2⟩ := X0.specialBack hx (y := (⟨"java/lang/String", "<init>", "([CIILjava/lang/Void;)V"⟩ : MethodName)) rfl hown (mvT hZ (hw _ (List.mem_of_getElem? (i := 14) rfl))) (mvT hZ (hw _ (List.mem_of_getElem? (i := 15) rfl))) (mvT hZ (hw _ (List.mem_of_getElem? (i := 17) rfl))) (by decide) (backOf (W := 0) (own_i5_2 l Z a0 hw [] a r kr c0 c1 c2 cs h0 n0 O0 SC hcs VR EA FV FC ga hc0 hc1 hc2) hZ (hw _ (List.mem_of_getElem? (i := 17) rfl)) (hw _ (List.mem_of_getElem? (i := 9) rfl)) (by decide) (by decide)) (g := (mkF m 6 #[.val (.ref a), .val (.ref r)] [.null, (.int (2 : Int32)), (.int (0 : Int32)), (.ref r), (.ref a)])) rfl (by rw [hml]; rfl) (Steps.refl _) (a := a) (argsL := [(.ref r), (.int (0 : Int32)), (.int (2 : Int32)), .null]) (rest := []) (lenOf own_pd4 rfl) rfl (by show 2 * 0 + _ ≤ _; exact Nat.le_of_eq rfl) (hb hby own_d3_6) (fun _ _ => ⟨rfl, e0, (by decide : 0 + 1 ≤ _), (by decide : 0 + 2 ≤ _)⟩)
  dsimp only [Pt.U, Pt.locs, Pt.cells, Pt.slots] at X2 l2 y2 z2 st2 hQ2
  subst l2 y2 z2
  obtain ⟨rfl, N2q, K2, yy2, ky2, Ea2, Fv2, Fc2, Vy2⟩ := hQ2
  have N2 := Fr.app N0 N2q
  refine own_st (fun _ kt => st2.trans kt) ?_
  have O0_x2 := O0.keep K2 (allS ga all0)
  have VR_x2 := VR.keep K2 (ninS (Ne.symm (Exa.neArv EA VR (hw _ (List.mem_of_getElem? (i := 8) rfl)))) nin0)
  have EA_x2 := EA.keep K2
  have K0_x2 := K0.trans K2 (allS (Or.inl (List.mem_of_getElem? (i := 0) rfl)) all0)
  show own_Rch p e below _ T2 (mkF m 9 #[.val (.ref a), .val (.ref r)] [])
  refine own_retV X2 hx Bd.notSynchronized Bd.returns (hb hby own_d3_9) (by decide) (by decide) ?_
  exact ⟨rfl, N2, K0_x2, _, _, Ea2, Fv2, Fc2, Vy2⟩
def own_Q_own_c5_3 (Z : State) (r : Addr) (kr : ClassId) (b : Addr) (kb : ClassId) (c0 : Int32) (c1 : Int32) (c2 : Int32) (h0 : Heap) (n0 : Nat) (v : Option Value) (h : Heap) (L : List Loc) : Prop := v = some (.int (3 : Int32)) ∧ Fr n0 L ∧ Keep h0 h [b] ∧ Arv Z h b kb .byte (3 : Int32) [(.int (own_b c0)), (.int (own_b c1)), (.int (own_b c2))] (.int (0 : Int32))
set_option maxRecDepth 65536 in
set_option maxHeartbeats 40000000 in
theorem own_c5_3 (l : Launch) (Z : State) (a0 : Array Value) (hw : ∀ d ∈ tables_1, d.before a0 Z = true) (ws : List Jvm.Cond) (r : Addr) (kr : ClassId) (b : Addr) (kb : ClassId) (c0 : Int32) (c1 : Int32) (c2 : Int32) (h0 : Heap) (n0 : Nat) (O0 : Old Z n0 h0) (VR : Arv Z h0 r kr .char (3 : Int32) [(.int (nar .char c0)), (.int (nar .char c1)), (.int (nar .char c2))] (.int (0 : Int32))) (VB : Arv Z h0 b kb .byte (3 : Int32) [(.int (0 : Int32)), (.int (0 : Int32)), (.int (0 : Int32))] (.int (0 : Int32))) (gb : n0 ≤ b) (hrb : r ≠ b) (hc0 : own_ch c0) (hc1 : own_ch c1) (hc2 : own_ch c2) :
    MetFree l (⟨"java/lang/StringUTF16", "compress", "([CI[BII)I"⟩ : MethodName) (head1 (Jvm.Cond.code (⟨"java/lang/StringUTF16", "compress", "([CI[BII)I"⟩ : MethodName) jdk_52_method_21_code 7 (some .int) :: ws) ({ frames := 0, cells := 0, slots := 0, locals := 0 } : Room)) (fun args_ U => args_ = #[(.ref r), (.int (0 : Int32)), (.ref b), (.int (0 : Int32)), (.int (3 : Int32))] ∧ Z.Warmed39 U.vm ∧ U.heap = h0) (fun _ _ _ _ _ => True) (fun _ U o U' => ∃ v L, o = .returned v ∧ (own_Q_own_c5_3 Z r kr b kb c0 c1 c2 h0 n0) v U'.heap L ∧ FrameEnd U o U' L ({ frames := 0, cells := 0, slots := 0, locals := 0 } : Room).cells ({ frames := 0, cells := 0, slots := 0, locals := 0 } : Room).slots) := by
  refine MetFree.of_bodySF (plainFor_of_name own_pn2) hisR ?_
  intro p e s m args below meth c s₁ Bd hml0 hP hK
  obtain ⟨rfl, hZ, hh⟩ := hP
  have hx := Bd.exec
  have hby := Bd.bytes
  have hml : c.maxLocals = 7 := hml0
  have hown : s.vm.findClass "java/lang/StringUTF16" = some m.cls := findClass_of_methodNamed Bd.named
  have hnm := (name_of_methodNamed Bd.named Bd.method).1
  have X0 : Stand p l e ({ frames := 0, cells := 0, slots := 0, locals := 0 } : Room) s m #[(.ref r), (.int (0 : Int32)), (.ref b), (.int (0 : Int32)), (.int (3 : Int32))] below meth c s₁ [] 0 0 := Stand.of_body Bd
  have e0 : s₁.heap = h0 := by rw [← hh, Bd.state]; rfl
  have N0 := Fr.nil n0
  refine own_close (s := s) (Q := (own_Q_own_c5_3 Z r kr b kb c0 c1 c2 h0 n0)) (C := (({ frames := 0, cells := 0, slots := 0, locals := 0 } : Room)).cells) (N := (({ frames := 0, cells := 0, slots := 0, locals := 0 } : Room)).slots) (own_st (fun _ kt => castTop (own_ef7 m r (0 : Int32) b (0 : Int32) (3 : Int32)) kt) ?_)
  have K0 := Keep.refl h0 [b]
  show own_Rch p e below _ s₁ (mkF m 0 #[.val (.ref r), .val (.int (0 : Int32)), .val (.ref b), .val (.int (0 : Int32)), .val (.int (3 : Int32)), .unset, .unset] [])
  refine own_st (fun _ kt => XS.iconst X0.here hx rfl (hb hby own_d7_0) kt) ?_
  show own_Rch p e below _ s₁ (mkF m 1 #[.val (.ref r), .val (.int (0 : Int32)), .val (.ref b), .val (.int (0 : Int32)), .val (.int (3 : Int32)), .unset, .unset] [(.int (0 : Int32))])
  refine own_st (fun _ kt => XS.istore X0.here hx rfl (hb hby own_d7_1) rfl (l' := #[.val (.ref r), .val (.int (0 : Int32)), .val (.ref b), .val (.int (0 : Int32)), .val (.int (3 : Int32)), .val (.int (0 : Int32)), .unset]) rfl kt) ?_
  show own_Rch p e below _ s₁ (mkF m 3 #[.val (.ref r), .val (.int (0 : Int32)), .val (.ref b), .val (.int (0 : Int32)), .val (.int (3 : Int32)), .val (.int (0 : Int32)), .unset] [])
  refine own_st (fun _ kt => XS.iload X0.here hx rfl (hb hby own_d7_3) rfl  kt) ?_
  show own_Rch p e below _ s₁ (mkF m 5 #[.val (.ref r), .val (.int (0 : Int32)), .val (.ref b), .val (.int (0 : Int32)), .val (.int (3 : Int32)), .val (.int (0 : Int32)), .unset] [(.int (0 : Int32))])
  refine own_st (fun _ kt => XS.iload X0.here hx rfl (hb hby own_d7_5) rfl  kt) ?_
  show own_Rch p e below _ s₁ (mkF m 7 #[.val (.ref r), .val (.int (0 : Int32)), .val (.ref b), .val (.int (0 : Int32)), .val (.int (3 : Int32)), .val (.int (0 : Int32)), .unset] [(.int (3 : Int32)), (.int (0 : Int32))])
  refine own_st (fun _ kt => XS.icmpNo X0.here hx rfl (hb hby own_d7_7) rfl (tlt ((by decide) : (0 : Int32) < (3 : Int32))).2.1 kt) ?_
  show own_Rch p e below _ s₁ (mkF m 10 #[.val (.ref r), .val (.int (0 : Int32)), .val (.ref b), .val (.int (0 : Int32)), .val (.int (3 : Int32)), .val (.int (0 : Int32)), .unset] [])
  refine own_st (fun _ kt => XS.aloadN X0.here hx rfl (hb hby own_d7_10) rfl rfl  kt) ?_
  show own_Rch p e below _ s₁ (mkF m 11 #[.val (.ref r), .val (.int (0 : Int32)), .val (.ref b), .val (.int (0 : Int32)), .val (.int (3 : Int32)), .val (.int (0 : Int32)), .unset] [(.ref r)])
  refine own_st (fun _ kt => XS.iloadN X0.here hx rfl (hb hby own_d7_11) rfl  kt) ?_
  show own_Rch p e below _ s₁ (mkF m 12 #[.val (.ref r), .val (.int (0 : Int32)), .val (.ref b), .val (.int (0 : Int32)), .val (.int (3 : Int32)), .val (.int (0 : Int32)), .unset] [(.int (0 : Int32)), (.ref r)])
  obtain ⟨cl1, Ar1, q1, S1, M1, H1, G1⟩ := id VR
  have hin1 : ¬ ((0 : Int32) < 0 ∨ cl1.slots.size ≤ ((0 : Int32)).toNatClampNeg) := inb_of S1 ⟨by decide, by decide⟩
  refine own_st (X0.caload hx (j := (0 : Int32)) (v := (.int (nar .char c0))) (by rw [e0]; exact Ar1.1) (State.isArrayOf_alike (hZ).alike Ar1.2.1) Ar1.2.2 hin1 (H1.at hin1 rfl) (g := (mkF m 12 #[.val (.ref r), .val (.int (0 : Int32)), .val (.ref b), .val (.int (0 : Int32)), .val (.int (3 : Int32)), .val (.int (0 : Int32)), .unset] [(.int (0 : Int32)), (.ref r)])) rfl rfl (hb hby own_d7_12)) ?_
  show own_Rch p e below _ s₁ (mkF m 13 #[.val (.ref r), .val (.int (0 : Int32)), .val (.ref b), .val (.int (0 : Int32)), .val (.int (3 : Int32)), .val (.int (0 : Int32)), .unset] [(.int (nar .char c0))])
  refine own_st (fun _ kt => XS.istore X0.here hx rfl (hb hby own_d7_13) rfl (l' := #[.val (.ref r), .val (.int (0 : Int32)), .val (.ref b), .val (.int (0 : Int32)), .val (.int (3 : Int32)), .val (.int (0 : Int32)), .val (.int (nar .char c0))]) rfl kt) ?_
  show own_Rch p e below _ s₁ (mkF m 15 #[.val (.ref r), .val (.int (0 : Int32)), .val (.ref b), .val (.int (0 : Int32)), .val (.int (3 : Int32)), .val (.int (0 : Int32)), .val (.int (nar .char c0))] [])
  refine own_st (fun _ kt => XS.iload X0.here hx rfl (hb hby own_d7_15) rfl  kt) ?_
  show own_Rch p e below _ s₁ (mkF m 17 #[.val (.ref r), .val (.int (0 : Int32)), .val (.ref b), .val (.int (0 : Int32)), .val (.int (3 : Int32)), .val (.int (0 : Int32)), .val (.int (nar .char c0))] [(.int (nar .char c0))])
  refine own_st (fun _ kt => XS.sipush X0.here hx rfl (hb hby own_d7_17) kt) ?_
  show own_Rch p e below _ s₁ (mkF m 20 #[.val (.ref r), .val (.int (0 : Int32)), .val (.ref b), .val (.int (0 : Int32)), .val (.int (3 : Int32)), .val (.int (0 : Int32)), .val (.int (nar .char c0))] [(.int (255 : Int32)), (.int (nar .char c0))])
  refine own_st (fun _ kt => XS.icmpYes X0.here hx rfl (pc0 := 20) (pc' := 26) rfl (hb hby own_d7_20) rfl (flt (own_big hc0 : ¬ ((255 : Int32) < (nar .char c0)))).2.2.2 (by decide) (by decide) kt) ?_
  show own_Rch p e below _ s₁ (mkF m 26 #[.val (.ref r), .val (.int (0 : Int32)), .val (.ref b), .val (.int (0 : Int32)), .val (.int (3 : Int32)), .val (.int (0 : Int32)), .val (.int (nar .char c0))] [])
  refine own_st (fun _ kt => XS.aloadN X0.here hx rfl (hb hby own_d7_26) rfl rfl  kt) ?_
  show own_Rch p e below _ s₁ (mkF m 27 #[.val (.ref r), .val (.int (0 : Int32)), .val (.ref b), .val (.int (0 : Int32)), .val (.int (3 : Int32)), .val (.int (0 : Int32)), .val (.int (nar .char c0))] [(.ref b)])
  refine own_st (fun _ kt => XS.iloadN X0.here hx rfl (hb hby own_d7_27) rfl  kt) ?_
  show own_Rch p e below _ s₁ (mkF m 28 #[.val (.ref r), .val (.int (0 : Int32)), .val (.ref b), .val (.int (0 : Int32)), .val (.int (3 : Int32)), .val (.int (0 : Int32)), .val (.int (nar .char c0))] [(.int (0 : Int32)), (.ref b)])
  refine own_st (fun _ kt => XS.iload X0.here hx rfl (hb hby own_d7_28) rfl  kt) ?_
  show own_Rch p e below _ s₁ (mkF m 30 #[.val (.ref r), .val (.int (0 : Int32)), .val (.ref b), .val (.int (0 : Int32)), .val (.int (3 : Int32)), .val (.int (0 : Int32)), .val (.int (nar .char c0))] [(.int (nar .char c0)), (.int (0 : Int32)), (.ref b)])
  refine own_st (fun _ kt => XS.i2b X0.here hx rfl (hb hby own_d7_30) rfl kt) ?_
  show own_Rch p e below _ s₁ (mkF m 31 #[.val (.ref r), .val (.int (0 : Int32)), .val (.ref b), .val (.int (0 : Int32)), .val (.int (3 : Int32)), .val (.int (0 : Int32)), .val (.int (nar .char c0))] [(.int ((nar .char c0).toInt8.toInt32)), (.int (0 : Int32)), (.ref b)])
  obtain ⟨cl2, Ar2, q2, S2, M2, H2, G2⟩ := id VB
  have hin2 : ¬ ((0 : Int32) < 0 ∨ cl2.slots.size ≤ ((0 : Int32)).toNatClampNeg) := inb_of S2 ⟨by decide, by decide⟩
  obtain ⟨T2, h2, X2, e2, W2, st2⟩ := stB X0 hx hZ e0 Ar2 (j := (0 : Int32)) hin2 (g := (mkF m 31 #[.val (.ref r), .val (.int (0 : Int32)), .val (.ref b), .val (.int (0 : Int32)), .val (.int (3 : Int32)), .val (.int (0 : Int32)), .val (.int (nar .char c0))] [(.int ((nar .char c0).toInt8.toInt32)), (.int (0 : Int32)), (.ref b)])) rfl rfl (hb hby own_d7_31)
  have V2 := Arv.set Ar2 q2 S2 M2 H2 G2 (fits_nar_byte _) W2 0 rfl (Nat.le_of_ble_eq_true rfl)
  have V2s : Arv Z h2 b kb .byte (3 : Int32) [(.int (nar .byte ((nar .char c0).toInt8.toInt32))), (.int (0 : Int32)), (.int (0 : Int32))] (.int (0 : Int32)) := V2
  have N2 := Fr.snoc X2 N0 gb
  refine own_st st2 ?_
  have O0_x2 := O0.wr W2 gb
  have VR_x2 := VR.other W2 hrb
  have K0_x2 := K0.wr W2 (Or.inl (List.mem_of_getElem? (i := 0) rfl))
  show own_Rch p e below _ T2 (mkF m 32 #[.val (.ref r), .val (.int (0 : Int32)), .val (.ref b), .val (.int (0 : Int32)), .val (.int (3 : Int32)), .val (.int (0 : Int32)), .val (.int (nar .char c0))] [])
  refine own_st (fun _ kt => XS.iinc X2.here hx rfl (hb hby own_d7_32) rfl (l' := #[.val (.ref r), .val (.int (1 : Int32)), .val (.ref b), .val (.int (0 : Int32)), .val (.int (3 : Int32)), .val (.int (0 : Int32)), .val (.int (nar .char c0))]) rfl kt) ?_
  show own_Rch p e below _ T2 (mkF m 35 #[.val (.ref r), .val (.int (1 : Int32)), .val (.ref b), .val (.int (0 : Int32)), .val (.int (3 : Int32)), .val (.int (0 : Int32)), .val (.int (nar .char c0))] [])
  refine own_st (fun _ kt => XS.iinc X2.here hx rfl (hb hby own_d7_35) rfl (l' := #[.val (.ref r), .val (.int (1 : Int32)), .val (.ref b), .val (.int (1 : Int32)), .val (.int (3 : Int32)), .val (.int (0 : Int32)), .val (.int (nar .char c0))]) rfl kt) ?_
  show own_Rch p e below _ T2 (mkF m 38 #[.val (.ref r), .val (.int (1 : Int32)), .val (.ref b), .val (.int (1 : Int32)), .val (.int (3 : Int32)), .val (.int (0 : Int32)), .val (.int (nar .char c0))] [])
  refine own_st (fun _ kt => XS.iinc X2.here hx rfl (hb hby own_d7_38) rfl (l' := #[.val (.ref r), .val (.int (1 : Int32)), .val (.ref b), .val (.int (1 : Int32)), .val (.int (3 : Int32)), .val (.int (1 : Int32)), .val (.int (nar .char c0))]) rfl kt) ?_
  show own_Rch p e below _ T2 (mkF m 41 #[.val (.ref r), .val (.int (1 : Int32)), .val (.ref b), .val (.int (1 : Int32)), .val (.int (3 : Int32)), .val (.int (1 : Int32)), .val (.int (nar .char c0))] [])
  refine own_st (fun _ kt => XS.goto X2.here hx rfl (pc0 := 41) (pc' := 3) rfl (hb hby own_d7_41) (by decide) (by decide) kt) ?_
  show own_Rch p e below _ T2 (mkF m 3 #[.val (.ref r), .val (.int (1 : Int32)), .val (.ref b), .val (.int (1 : Int32)), .val (.int (3 : Int32)), .val (.int (1 : Int32)), .val (.int (nar .char c0))] [])
  refine own_st (fun _ kt => XS.iload X2.here hx rfl (hb hby own_d7_3) rfl  kt) ?_
  show own_Rch p e below _ T2 (mkF m 5 #[.val (.ref r), .val (.int (1 : Int32)), .val (.ref b), .val (.int (1 : Int32)), .val (.int (3 : Int32)), .val (.int (1 : Int32)), .val (.int (nar .char c0))] [(.int (1 : Int32))])
  refine own_st (fun _ kt => XS.iload X2.here hx rfl (hb hby own_d7_5) rfl  kt) ?_
  show own_Rch p e below _ T2 (mkF m 7 #[.val (.ref r), .val (.int (1 : Int32)), .val (.ref b), .val (.int (1 : Int32)), .val (.int (3 : Int32)), .val (.int (1 : Int32)), .val (.int (nar .char c0))] [(.int (3 : Int32)), (.int (1 : Int32))])
  refine own_st (fun _ kt => XS.icmpNo X2.here hx rfl (hb hby own_d7_7) rfl (tlt ((by decide) : (1 : Int32) < (3 : Int32))).2.1 kt) ?_
  show own_Rch p e below _ T2 (mkF m 10 #[.val (.ref r), .val (.int (1 : Int32)), .val (.ref b), .val (.int (1 : Int32)), .val (.int (3 : Int32)), .val (.int (1 : Int32)), .val (.int (nar .char c0))] [])
  refine own_st (fun _ kt => XS.aloadN X2.here hx rfl (hb hby own_d7_10) rfl rfl  kt) ?_
  show own_Rch p e below _ T2 (mkF m 11 #[.val (.ref r), .val (.int (1 : Int32)), .val (.ref b), .val (.int (1 : Int32)), .val (.int (3 : Int32)), .val (.int (1 : Int32)), .val (.int (nar .char c0))] [(.ref r)])
  refine own_st (fun _ kt => XS.iloadN X2.here hx rfl (hb hby own_d7_11) rfl  kt) ?_
  show own_Rch p e below _ T2 (mkF m 12 #[.val (.ref r), .val (.int (1 : Int32)), .val (.ref b), .val (.int (1 : Int32)), .val (.int (3 : Int32)), .val (.int (1 : Int32)), .val (.int (nar .char c0))] [(.int (1 : Int32)), (.ref r)])
  obtain ⟨cl3, Ar3, q3, S3, M3, H3, G3⟩ := id VR_x2
  have hin3 : ¬ ((1 : Int32) < 0 ∨ cl3.slots.size ≤ ((1 : Int32)).toNatClampNeg) := inb_of S3 ⟨by decide, by decide⟩
  refine own_st (X2.caload hx (j := (1 : Int32)) (v := (.int (nar .char c1))) (by rw [e2]; exact Ar3.1) (State.isArrayOf_alike (hZ).alike Ar3.2.1) Ar3.2.2 hin3 (H3.at hin3 rfl) (g := (mkF m 12 #[.val (.ref r), .val (.int (1 : Int32)), .val (.ref b), .val (.int (1 : Int32)), .val (.int (3 : Int32)), .val (.int (1 : Int32)), .val (.int (nar .char c0))] [(.int (1 : Int32)), (.ref r)])) rfl rfl (hb hby own_d7_12)) ?_
  show own_Rch p e below _ T2 (mkF m 13 #[.val (.ref r), .val (.int (1 : Int32)), .val (.ref b), .val (.int (1 : Int32)), .val (.int (3 : Int32)), .val (.int (1 : Int32)), .val (.int (nar .char c0))] [(.int (nar .char c1))])
  refine own_st (fun _ kt => XS.istore X2.here hx rfl (hb hby own_d7_13) rfl (l' := #[.val (.ref r), .val (.int (1 : Int32)), .val (.ref b), .val (.int (1 : Int32)), .val (.int (3 : Int32)), .val (.int (1 : Int32)), .val (.int (nar .char c1))]) rfl kt) ?_
  show own_Rch p e below _ T2 (mkF m 15 #[.val (.ref r), .val (.int (1 : Int32)), .val (.ref b), .val (.int (1 : Int32)), .val (.int (3 : Int32)), .val (.int (1 : Int32)), .val (.int (nar .char c1))] [])
  refine own_st (fun _ kt => XS.iload X2.here hx rfl (hb hby own_d7_15) rfl  kt) ?_
  show own_Rch p e below _ T2 (mkF m 17 #[.val (.ref r), .val (.int (1 : Int32)), .val (.ref b), .val (.int (1 : Int32)), .val (.int (3 : Int32)), .val (.int (1 : Int32)), .val (.int (nar .char c1))] [(.int (nar .char c1))])
  refine own_st (fun _ kt => XS.sipush X2.here hx rfl (hb hby own_d7_17) kt) ?_
  show own_Rch p e below _ T2 (mkF m 20 #[.val (.ref r), .val (.int (1 : Int32)), .val (.ref b), .val (.int (1 : Int32)), .val (.int (3 : Int32)), .val (.int (1 : Int32)), .val (.int (nar .char c1))] [(.int (255 : Int32)), (.int (nar .char c1))])
  refine own_st (fun _ kt => XS.icmpYes X2.here hx rfl (pc0 := 20) (pc' := 26) rfl (hb hby own_d7_20) rfl (flt (own_big hc1 : ¬ ((255 : Int32) < (nar .char c1)))).2.2.2 (by decide) (by decide) kt) ?_
  show own_Rch p e below _ T2 (mkF m 26 #[.val (.ref r), .val (.int (1 : Int32)), .val (.ref b), .val (.int (1 : Int32)), .val (.int (3 : Int32)), .val (.int (1 : Int32)), .val (.int (nar .char c1))] [])
  refine own_st (fun _ kt => XS.aloadN X2.here hx rfl (hb hby own_d7_26) rfl rfl  kt) ?_
  show own_Rch p e below _ T2 (mkF m 27 #[.val (.ref r), .val (.int (1 : Int32)), .val (.ref b), .val (.int (1 : Int32)), .val (.int (3 : Int32)), .val (.int (1 : Int32)), .val (.int (nar .char c1))] [(.ref b)])
  refine own_st (fun _ kt => XS.iloadN X2.here hx rfl (hb hby own_d7_27) rfl  kt) ?_
  show own_Rch p e below _ T2 (mkF m 28 #[.val (.ref r), .val (.int (1 : Int32)), .val (.ref b), .val (.int (1 : Int32)), .val (.int (3 : Int32)), .val (.int (1 : Int32)), .val (.int (nar .char c1))] [(.int (1 : Int32)), (.ref b)])
  refine own_st (fun _ kt => XS.iload X2.here hx rfl (hb hby own_d7_28) rfl  kt) ?_
  show own_Rch p e below _ T2 (mkF m 30 #[.val (.ref r), .val (.int (1 : Int32)), .val (.ref b), .val (.int (1 : Int32)), .val (.int (3 : Int32)), .val (.int (1 : Int32)), .val (.int (nar .char c1))] [(.int (nar .char c1)), (.int (1 : Int32)), (.ref b)])
  refine own_st (fun _ kt => XS.i2b X2.here hx rfl (hb hby own_d7_30) rfl kt) ?_
  show own_Rch p e below _ T2 (mkF m 31 #[.val (.ref r), .val (.int (1 : Int32)), .val (.ref b), .val (.int (1 : Int32)), .val (.int (3 : Int32)), .val (.int (1 : Int32)), .val (.int (nar .char c1))] [(.int ((nar .char c1).toInt8.toInt32)), (.int (1 : Int32)), (.ref b)])
  obtain ⟨cl4, Ar4, q4, S4, M4, H4, G4⟩ := id V2s
  have hin4 : ¬ ((1 : Int32) < 0 ∨ cl4.slots.size ≤ ((1 : Int32)).toNatClampNeg) := inb_of S4 ⟨by decide, by decide⟩
  obtain ⟨T4, h4, X4, e4, W4, st4⟩ := stB X2 hx hZ e2 Ar4 (j := (1 : Int32)) hin4 (g := (mkF m 31 #[.val (.ref r), .val (.int (1 : Int32)), .val (.ref b), .val (.int (1 : Int32)), .val (.int (3 : Int32)), .val (.int (1 : Int32)), .val (.int (nar .char c1))] [(.int ((nar .char c1).toInt8.toInt32)), (.int (1 : Int32)), (.ref b)])) rfl rfl (hb hby own_d7_31)
  have V4 := Arv.set Ar4 q4 S4 M4 H4 G4 (fits_nar_byte _) W4 1 rfl (Nat.le_of_ble_eq_true rfl)
  have V4s : Arv Z h4 b kb .byte (3 : Int32) [(.int (nar .byte ((nar .char c0).toInt8.toInt32))), (.int (nar .byte ((nar .char c1).toInt8.toInt32))), (.int (0 : Int32))] (.int (0 : Int32)) := V4
  have N4 := Fr.snoc X4 N2 gb
  refine own_st st4 ?_
  have O0_x4 := O0_x2.wr W4 gb
  have VR_x4 := VR_x2.other W4 hrb
  have K0_x4 := K0_x2.wr W4 (Or.inl (List.mem_of_getElem? (i := 0) rfl))
  show own_Rch p e below _ T4 (mkF m 32 #[.val (.ref r), .val (.int (1 : Int32)), .val (.ref b), .val (.int (1 : Int32)), .val (.int (3 : Int32)), .val (.int (1 : Int32)), .val (.int (nar .char c1))] [])
  refine own_st (fun _ kt => XS.iinc X4.here hx rfl (hb hby own_d7_32) rfl (l' := #[.val (.ref r), .val (.int (2 : Int32)), .val (.ref b), .val (.int (1 : Int32)), .val (.int (3 : Int32)), .val (.int (1 : Int32)), .val (.int (nar .char c1))]) rfl kt) ?_
  show own_Rch p e below _ T4 (mkF m 35 #[.val (.ref r), .val (.int (2 : Int32)), .val (.ref b), .val (.int (1 : Int32)), .val (.int (3 : Int32)), .val (.int (1 : Int32)), .val (.int (nar .char c1))] [])
  refine own_st (fun _ kt => XS.iinc X4.here hx rfl (hb hby own_d7_35) rfl (l' := #[.val (.ref r), .val (.int (2 : Int32)), .val (.ref b), .val (.int (2 : Int32)), .val (.int (3 : Int32)), .val (.int (1 : Int32)), .val (.int (nar .char c1))]) rfl kt) ?_
  show own_Rch p e below _ T4 (mkF m 38 #[.val (.ref r), .val (.int (2 : Int32)), .val (.ref b), .val (.int (2 : Int32)), .val (.int (3 : Int32)), .val (.int (1 : Int32)), .val (.int (nar .char c1))] [])
  refine own_st (fun _ kt => XS.iinc X4.here hx rfl (hb hby own_d7_38) rfl (l' := #[.val (.ref r), .val (.int (2 : Int32)), .val (.ref b), .val (.int (2 : Int32)), .val (.int (3 : Int32)), .val (.int (2 : Int32)), .val (.int (nar .char c1))]) rfl kt) ?_
  show own_Rch p e below _ T4 (mkF m 41 #[.val (.ref r), .val (.int (2 : Int32)), .val (.ref b), .val (.int (2 : Int32)), .val (.int (3 : Int32)), .val (.int (2 : Int32)), .val (.int (nar .char c1))] [])
  refine own_st (fun _ kt => XS.goto X4.here hx rfl (pc0 := 41) (pc' := 3) rfl (hb hby own_d7_41) (by decide) (by decide) kt) ?_
  show own_Rch p e below _ T4 (mkF m 3 #[.val (.ref r), .val (.int (2 : Int32)), .val (.ref b), .val (.int (2 : Int32)), .val (.int (3 : Int32)), .val (.int (2 : Int32)), .val (.int (nar .char c1))] [])
  refine own_st (fun _ kt => XS.iload X4.here hx rfl (hb hby own_d7_3) rfl  kt) ?_
  show own_Rch p e below _ T4 (mkF m 5 #[.val (.ref r), .val (.int (2 : Int32)), .val (.ref b), .val (.int (2 : Int32)), .val (.int (3 : Int32)), .val (.int (2 : Int32)), .val (.int (nar .char c1))] [(.int (2 : Int32))])
  refine own_st (fun _ kt => XS.iload X4.here hx rfl (hb hby own_d7_5) rfl  kt) ?_
  show own_Rch p e below _ T4 (mkF m 7 #[.val (.ref r), .val (.int (2 : Int32)), .val (.ref b), .val (.int (2 : Int32)), .val (.int (3 : Int32)), .val (.int (2 : Int32)), .val (.int (nar .char c1))] [(.int (3 : Int32)), (.int (2 : Int32))])
  refine own_st (fun _ kt => XS.icmpNo X4.here hx rfl (hb hby own_d7_7) rfl (tlt ((by decide) : (2 : Int32) < (3 : Int32))).2.1 kt) ?_
  show own_Rch p e below _ T4 (mkF m 10 #[.val (.ref r), .val (.int (2 : Int32)), .val (.ref b), .val (.int (2 : Int32)), .val (.int (3 : Int32)), .val (.int (2 : Int32)), .val (.int (nar .char c1))] [])
  refine own_st (fun _ kt => XS.aloadN X4.here hx rfl (hb hby own_d7_10) rfl rfl  kt) ?_
  show own_Rch p e below _ T4 (mkF m 11 #[.val (.ref r), .val (.int (2 : Int32)), .val (.ref b), .val (.int (2 : Int32)), .val (.int (3 : Int32)), .val (.int (2 : Int32)), .val (.int (nar .char c1))] [(.ref r)])
  refine own_st (fun _ kt => XS.iloadN X4.here hx rfl (hb hby own_d7_11) rfl  kt) ?_
  show own_Rch p e below _ T4 (mkF m 12 #[.val (.ref r), .val (.int (2 : Int32)), .val (.ref b), .val (.int (2 : Int32)), .val (.int (3 : Int32)), .val (.int (2 : Int32)), .val (.int (nar .char c1))] [(.int (2 : Int32)), (.ref r)])
  obtain ⟨cl5, Ar5, q5, S5, M5, H5, G5⟩ := id VR_x4
  have hin5 : ¬ ((2 : Int32) < 0 ∨ cl5.slots.size ≤ ((2 : Int32)).toNatClampNeg) := inb_of S5 ⟨by decide, by decide⟩
  refine own_st (X4.caload hx (j := (2 : Int32)) (v := (.int (nar .char c2))) (by rw [e4]; exact Ar5.1) (State.isArrayOf_alike (hZ).alike Ar5.2.1) Ar5.2.2 hin5 (H5.at hin5 rfl) (g := (mkF m 12 #[.val (.ref r), .val (.int (2 : Int32)), .val (.ref b), .val (.int (2 : Int32)), .val (.int (3 : Int32)), .val (.int (2 : Int32)), .val (.int (nar .char c1))] [(.int (2 : Int32)), (.ref r)])) rfl rfl (hb hby own_d7_12)) ?_
  show own_Rch p e below _ T4 (mkF m 13 #[.val (.ref r), .val (.int (2 : Int32)), .val (.ref b), .val (.int (2 : Int32)), .val (.int (3 : Int32)), .val (.int (2 : Int32)), .val (.int (nar .char c1))] [(.int (nar .char c2))])
  refine own_st (fun _ kt => XS.istore X4.here hx rfl (hb hby own_d7_13) rfl (l' := #[.val (.ref r), .val (.int (2 : Int32)), .val (.ref b), .val (.int (2 : Int32)), .val (.int (3 : Int32)), .val (.int (2 : Int32)), .val (.int (nar .char c2))]) rfl kt) ?_
  show own_Rch p e below _ T4 (mkF m 15 #[.val (.ref r), .val (.int (2 : Int32)), .val (.ref b), .val (.int (2 : Int32)), .val (.int (3 : Int32)), .val (.int (2 : Int32)), .val (.int (nar .char c2))] [])
  refine own_st (fun _ kt => XS.iload X4.here hx rfl (hb hby own_d7_15) rfl  kt) ?_
  show own_Rch p e below _ T4 (mkF m 17 #[.val (.ref r), .val (.int (2 : Int32)), .val (.ref b), .val (.int (2 : Int32)), .val (.int (3 : Int32)), .val (.int (2 : Int32)), .val (.int (nar .char c2))] [(.int (nar .char c2))])
  refine own_st (fun _ kt => XS.sipush X4.here hx rfl (hb hby own_d7_17) kt) ?_
  show own_Rch p e below _ T4 (mkF m 20 #[.val (.ref r), .val (.int (2 : Int32)), .val (.ref b), .val (.int (2 : Int32)), .val (.int (3 : Int32)), .val (.int (2 : Int32)), .val (.int (nar .char c2))] [(.int (255 : Int32)), (.int (nar .char c2))])
  refine own_st (fun _ kt => XS.icmpYes X4.here hx rfl (pc0 := 20) (pc' := 26) rfl (hb hby own_d7_20) rfl (flt (own_big hc2 : ¬ ((255 : Int32) < (nar .char c2)))).2.2.2 (by decide) (by decide) kt) ?_
  show own_Rch p e below _ T4 (mkF m 26 #[.val (.ref r), .val (.int (2 : Int32)), .val (.ref b), .val (.int (2 : Int32)), .val (.int (3 : Int32)), .val (.int (2 : Int32)), .val (.int (nar .char c2))] [])
  refine own_st (fun _ kt => XS.aloadN X4.here hx rfl (hb hby own_d7_26) rfl rfl  kt) ?_
  show own_Rch p e below _ T4 (mkF m 27 #[.val (.ref r), .val (.int (2 : Int32)), .val (.ref b), .val (.int (2 : Int32)), .val (.int (3 : Int32)), .val (.int (2 : Int32)), .val (.int (nar .char c2))] [(.ref b)])
  refine own_st (fun _ kt => XS.iloadN X4.here hx rfl (hb hby own_d7_27) rfl  kt) ?_
  show own_Rch p e below _ T4 (mkF m 28 #[.val (.ref r), .val (.int (2 : Int32)), .val (.ref b), .val (.int (2 : Int32)), .val (.int (3 : Int32)), .val (.int (2 : Int32)), .val (.int (nar .char c2))] [(.int (2 : Int32)), (.ref b)])
  refine own_st (fun _ kt => XS.iload X4.here hx rfl (hb hby own_d7_28) rfl  kt) ?_
  show own_Rch p e below _ T4 (mkF m 30 #[.val (.ref r), .val (.int (2 : Int32)), .val (.ref b), .val (.int (2 : Int32)), .val (.int (3 : Int32)), .val (.int (2 : Int32)), .val (.int (nar .char c2))] [(.int (nar .char c2)), (.int (2 : Int32)), (.ref b)])
  refine own_st (fun _ kt => XS.i2b X4.here hx rfl (hb hby own_d7_30) rfl kt) ?_
  show own_Rch p e below _ T4 (mkF m 31 #[.val (.ref r), .val (.int (2 : Int32)), .val (.ref b), .val (.int (2 : Int32)), .val (.int (3 : Int32)), .val (.int (2 : Int32)), .val (.int (nar .char c2))] [(.int ((nar .char c2).toInt8.toInt32)), (.int (2 : Int32)), (.ref b)])
  obtain ⟨cl6, Ar6, q6, S6, M6, H6, G6⟩ := id V4s
  have hin6 : ¬ ((2 : Int32) < 0 ∨ cl6.slots.size ≤ ((2 : Int32)).toNatClampNeg) := inb_of S6 ⟨by decide, by decide⟩
  obtain ⟨T6, h6, X6, e6, W6, st6⟩ := stB X4 hx hZ e4 Ar6 (j := (2 : Int32)) hin6 (g := (mkF m 31 #[.val (.ref r), .val (.int (2 : Int32)), .val (.ref b), .val (.int (2 : Int32)), .val (.int (3 : Int32)), .val (.int (2 : Int32)), .val (.int (nar .char c2))] [(.int ((nar .char c2).toInt8.toInt32)), (.int (2 : Int32)), (.ref b)])) rfl rfl (hb hby own_d7_31)
  have V6 := Arv.set Ar6 q6 S6 M6 H6 G6 (fits_nar_byte _) W6 2 rfl (Nat.le_of_ble_eq_true rfl)
  have V6s : Arv Z h6 b kb .byte (3 : Int32) [(.int (nar .byte ((nar .char c0).toInt8.toInt32))), (.int (nar .byte ((nar .char c1).toInt8.toInt32))), (.int (nar .byte ((nar .char c2).toInt8.toInt32)))] (.int (0 : Int32)) := V6
  have N6 := Fr.snoc X6 N4 gb
  refine own_st st6 ?_
  have O0_x6 := O0_x4.wr W6 gb
  have VR_x6 := VR_x4.other W6 hrb
  have K0_x6 := K0_x4.wr W6 (Or.inl (List.mem_of_getElem? (i := 0) rfl))
  show own_Rch p e below _ T6 (mkF m 32 #[.val (.ref r), .val (.int (2 : Int32)), .val (.ref b), .val (.int (2 : Int32)), .val (.int (3 : Int32)), .val (.int (2 : Int32)), .val (.int (nar .char c2))] [])
  refine own_st (fun _ kt => XS.iinc X6.here hx rfl (hb hby own_d7_32) rfl (l' := #[.val (.ref r), .val (.int (3 : Int32)), .val (.ref b), .val (.int (2 : Int32)), .val (.int (3 : Int32)), .val (.int (2 : Int32)), .val (.int (nar .char c2))]) rfl kt) ?_
  show own_Rch p e below _ T6 (mkF m 35 #[.val (.ref r), .val (.int (3 : Int32)), .val (.ref b), .val (.int (2 : Int32)), .val (.int (3 : Int32)), .val (.int (2 : Int32)), .val (.int (nar .char c2))] [])
  refine own_st (fun _ kt => XS.iinc X6.here hx rfl (hb hby own_d7_35) rfl (l' := #[.val (.ref r), .val (.int (3 : Int32)), .val (.ref b), .val (.int (3 : Int32)), .val (.int (3 : Int32)), .val (.int (2 : Int32)), .val (.int (nar .char c2))]) rfl kt) ?_
  show own_Rch p e below _ T6 (mkF m 38 #[.val (.ref r), .val (.int (3 : Int32)), .val (.ref b), .val (.int (3 : Int32)), .val (.int (3 : Int32)), .val (.int (2 : Int32)), .val (.int (nar .char c2))] [])
  refine own_st (fun _ kt => XS.iinc X6.here hx rfl (hb hby own_d7_38) rfl (l' := #[.val (.ref r), .val (.int (3 : Int32)), .val (.ref b), .val (.int (3 : Int32)), .val (.int (3 : Int32)), .val (.int (3 : Int32)), .val (.int (nar .char c2))]) rfl kt) ?_
  show own_Rch p e below _ T6 (mkF m 41 #[.val (.ref r), .val (.int (3 : Int32)), .val (.ref b), .val (.int (3 : Int32)), .val (.int (3 : Int32)), .val (.int (3 : Int32)), .val (.int (nar .char c2))] [])
  refine own_st (fun _ kt => XS.goto X6.here hx rfl (pc0 := 41) (pc' := 3) rfl (hb hby own_d7_41) (by decide) (by decide) kt) ?_
  show own_Rch p e below _ T6 (mkF m 3 #[.val (.ref r), .val (.int (3 : Int32)), .val (.ref b), .val (.int (3 : Int32)), .val (.int (3 : Int32)), .val (.int (3 : Int32)), .val (.int (nar .char c2))] [])
  refine own_st (fun _ kt => XS.iload X6.here hx rfl (hb hby own_d7_3) rfl  kt) ?_
  show own_Rch p e below _ T6 (mkF m 5 #[.val (.ref r), .val (.int (3 : Int32)), .val (.ref b), .val (.int (3 : Int32)), .val (.int (3 : Int32)), .val (.int (3 : Int32)), .val (.int (nar .char c2))] [(.int (3 : Int32))])
  refine own_st (fun _ kt => XS.iload X6.here hx rfl (hb hby own_d7_5) rfl  kt) ?_
  show own_Rch p e below _ T6 (mkF m 7 #[.val (.ref r), .val (.int (3 : Int32)), .val (.ref b), .val (.int (3 : Int32)), .val (.int (3 : Int32)), .val (.int (3 : Int32)), .val (.int (nar .char c2))] [(.int (3 : Int32)), (.int (3 : Int32))])
  refine own_st (fun _ kt => XS.icmpYes X6.here hx rfl (pc0 := 7) (pc' := 44) rfl (hb hby own_d7_7) rfl (flt ((by decide) : ¬ ((3 : Int32) < (3 : Int32)))).2.1 (by decide) (by decide) kt) ?_
  show own_Rch p e below _ T6 (mkF m 44 #[.val (.ref r), .val (.int (3 : Int32)), .val (.ref b), .val (.int (3 : Int32)), .val (.int (3 : Int32)), .val (.int (3 : Int32)), .val (.int (nar .char c2))] [])
  refine own_st (fun _ kt => XS.iload X6.here hx rfl (hb hby own_d7_44) rfl  kt) ?_
  show own_Rch p e below _ T6 (mkF m 46 #[.val (.ref r), .val (.int (3 : Int32)), .val (.ref b), .val (.int (3 : Int32)), .val (.int (3 : Int32)), .val (.int (3 : Int32)), .val (.int (nar .char c2))] [(.int (3 : Int32))])
  refine own_retI X6 hx Bd.notSynchronized Bd.returns (hb hby own_d7_46) (by decide) (by decide) ?_
  rw [e6]
  exact ⟨rfl, N6, K0_x6, V6s⟩
def own_Q_own_c3_3 (Z : State) (r : Addr) (kr : ClassId) (c0 : Int32) (c1 : Int32) (c2 : Int32) (h0 : Heap) (n0 : Nat) (v : Option Value) (h : Heap) (L : List Loc) : Prop := ∃ (b : Addr) (kb : ClassId), v = some (.ref b) ∧ Fr n0 L ∧ Keep h0 h [] ∧ h0.size ≤ b ∧ Arv Z h b kb .byte (3 : Int32) [(.int (own_b c0)), (.int (own_b c1)), (.int (own_b c2))] (.int (0 : Int32))
set_option maxRecDepth 65536 in
set_option maxHeartbeats 40000000 in
theorem own_c3_3 (l : Launch) (Z : State) (a0 : Array Value) (hw : ∀ d ∈ tables_1, d.before a0 Z = true) (ws : List Jvm.Cond) (r : Addr) (kr : ClassId) (c0 : Int32) (c1 : Int32) (c2 : Int32) (h0 : Heap) (n0 : Nat) (O0 : Old Z n0 h0) (VR : Arv Z h0 r kr .char (3 : Int32) [(.int (nar .char c0)), (.int (nar .char c1)), (.int (nar .char c2))] (.int (0 : Int32))) (hc0 : own_ch c0) (hc1 : own_ch c1) (hc2 : own_ch c2) :
    MetFree l (⟨"java/lang/StringUTF16", "compress", "([CII)[B"⟩ : MethodName) (head1 (Jvm.Cond.code (⟨"java/lang/StringUTF16", "compress", "([CII)[B"⟩ : MethodName) jdk_52_method_16_code 6 (some (.array .byte)) :: ws) ({ frames := 1, cells := 1, slots := 3, locals := 18 } : Room)) (fun args_ U => args_ = #[(.ref r), (.int (0 : Int32)), (.int (3 : Int32))] ∧ Z.Warmed39 U.vm ∧ U.heap = h0) (fun _ _ _ _ _ => True) (fun _ U o U' => ∃ v L, o = .returned v ∧ (own_Q_own_c3_3 Z r kr c0 c1 c2 h0 n0) v U'.heap L ∧ FrameEnd U o U' L ({ frames := 1, cells := 1, slots := 3, locals := 18 } : Room).cells ({ frames := 1, cells := 1, slots := 3, locals := 18 } : Room).slots) := by
  refine MetFree.of_bodySF (plainFor_of_name own_pn2) hisR ?_
  intro p e s m args below meth c s₁ Bd hml0 hP hK
  obtain ⟨rfl, hZ, hh⟩ := hP
  have hx := Bd.exec
  have hby := Bd.bytes
  have hml : c.maxLocals = 6 := hml0
  have hown : s.vm.findClass "java/lang/StringUTF16" = some m.cls := findClass_of_methodNamed Bd.named
  have hnm := (name_of_methodNamed Bd.named Bd.method).1
  have X0 : Stand p l e ({ frames := 1, cells := 1, slots := 3, locals := 18 } : Room) s m #[(.ref r), (.int (0 : Int32)), (.int (3 : Int32))] below meth c s₁ [] 0 0 := Stand.of_body Bd
  have e0 : s₁.heap = h0 := by rw [← hh, Bd.state]; rfl
  have N0 := Fr.nil n0
  refine own_close (s := s) (Q := (own_Q_own_c3_3 Z r kr c0 c1 c2 h0 n0)) (C := (({ frames := 1, cells := 1, slots := 3, locals := 18 } : Room)).cells) (N := (({ frames := 1, cells := 1, slots := 3, locals := 18 } : Room)).slots) (own_st (fun _ kt => castTop (own_ef6 m r (0 : Int32) (3 : Int32)) kt) ?_)
  have K0 := Keep.refl h0 []
  show own_Rch p e below _ s₁ (mkF m 0 #[.val (.ref r), .val (.int (0 : Int32)), .val (.int (3 : Int32)), .unset, .unset, .unset] [])
  refine own_st (fun _ kt => XS.iloadN X0.here hx rfl (hb hby own_d6_0) rfl  kt) ?_
  show own_Rch p e below _ s₁ (mkF m 1 #[.val (.ref r), .val (.int (0 : Int32)), .val (.int (3 : Int32)), .unset, .unset, .unset] [(.int (3 : Int32))])
  obtain ⟨T1, h1, k1, X1, e1, E1, A1, st1⟩ := newP X0 hx hZ (hw _ (List.mem_of_getElem? (i := 26) rfl)) e0 (g := (mkF m 1 #[.val (.ref r), .val (.int (0 : Int32)), .val (.int (3 : Int32)), .unset, .unset, .unset] [(.int (3 : Int32))])) rfl (hb hby own_d6_1) rfl (by decide) (cap := 3) (by decide) (by decide) (by decide) (by decide)
  obtain ⟨b1, g1⟩ : ∃ z, z = h0.size := ⟨_, rfl⟩
  rw [← g1] at A1 st1
  have ge1 : n0 ≤ b1 := by rw [g1]; exact own_old_le O0
  have ne1_r : r ≠ b1 := by rw [g1]; exact Nat.ne_of_lt VR.lt
  have sz1 : h0.size ≤ b1 := by rw [g1]; exact K0.1
  have O0_x1 := O0.ext E1
  have VR_x1 := VR.ext E1
  have K0_x1 := K0.ext E1
  refine own_st st1 ?_
  have V1 := Arv.new A1 (by decide)
  have V1p : Arv Z h1 b1 k1 .byte (3 : Int32) [(.int (0 : Int32)), (.int (0 : Int32)), (.int (0 : Int32))] (.int (0 : Int32)) := V1.pad (pad_rep [] (.int (0 : Int32)) 3)
  show own_Rch p e below _ T1 (mkF m 3 #[.val (.ref r), .val (.int (0 : Int32)), .val (.int (3 : Int32)), .unset, .unset, .unset] [(.ref b1)])
  refine own_st (fun _ kt => XS.astoreN X1.here hx rfl (hb hby own_d6_3) rfl rfl (l' := #[.val (.ref r), .val (.int (0 : Int32)), .val (.int (3 : Int32)), .val (.ref b1), .unset, .unset]) rfl kt) ?_
  show own_Rch p e below _ T1 (mkF m 4 #[.val (.ref r), .val (.int (0 : Int32)), .val (.int (3 : Int32)), .val (.ref b1), .unset, .unset] [])
  refine own_st (fun _ kt => XS.aloadN X1.here hx rfl (hb hby own_d6_4) rfl rfl  kt) ?_
  show own_Rch p e below _ T1 (mkF m 5 #[.val (.ref r), .val (.int (0 : Int32)), .val (.int (3 : Int32)), .val (.ref b1), .unset, .unset] [(.ref r)])
  refine own_st (fun _ kt => XS.iloadN X1.here hx rfl (hb hby own_d6_5) rfl  kt) ?_
  show own_Rch p e below _ T1 (mkF m 6 #[.val (.ref r), .val (.int (0 : Int32)), .val (.int (3 : Int32)), .val (.ref b1), .unset, .unset] [(.int (0 : Int32)), (.ref r)])
  refine own_st (fun _ kt => XS.aloadN X1.here hx rfl (hb hby own_d6_6) rfl rfl  kt) ?_
  show own_Rch p e below _ T1 (mkF m 7 #[.val (.ref r), .val (.int (0 : Int32)), .val (.int (3 : Int32)), .val (.ref b1), .unset, .unset] [(.ref b1), (.int (0 : Int32)), (.ref r)])
  refine own_st (fun _ kt => XS.iconst X1.here hx rfl (hb hby own_d6_7) kt) ?_
  show own_Rch p e below _ T1 (mkF m 8 #[.val (.ref r), .val (.int (0 : Int32)), .val (.int (3 : Int32)), .val (.ref b1), .unset, .unset] [(.int (0 : Int32)), (.ref b1), (.int (0 : Int32)), (.ref r)])
  refine own_st (fun _ kt => XS.iloadN X1.here hx rfl (hb hby own_d6_8) rfl  kt) ?_
  show own_Rch p e below _ T1 (mkF m 9 #[.val (.ref r), .val (.int (0 : Int32)), .val (.int (3 : Int32)), .val (.ref b1), .unset, .unset] [(.int (3 : Int32)), (.int (0 : Int32)), (.ref b1), (.int (0 : Int32)), (.ref r)])
  obtain ⟨_, _, ⟨T2, L2, k2, n2⟩, -, X2, ⟨Lc2, hQ2, l2, y2, z2⟩, st2⟩ := Jvm.LawKit.callS X1 hx (y := (⟨"java/lang/StringUTF16", "compress", "([CI[BII)I"⟩ : MethodName)) hown (mvT hZ (hw _ (List.mem_of_getElem? (i := 27) rfl))) (mvT hZ (hw _ (List.mem_of_getElem? (i := 28) rfl))) (mvT hZ (hw _ (List.mem_of_getElem? (i := 24) rfl))) (mvT hZ (hw _ (List.mem_of_getElem? (i := 29) rfl))) (by decide) (backOf (W := 0) (own_c5_3 l Z a0 hw [] r kr b1 k1 c0 c1 c2 h1 n0 O0_x1 VR_x1 V1p ge1 ne1_r hc0 hc1 hc2) hZ (hw _ (List.mem_of_getElem? (i := 29) rfl)) (hw _ (List.mem_of_getElem? (i := 24) rfl)) (by decide) (by decide)) (g := (mkF m 9 #[.val (.ref r), .val (.int (0 : Int32)), .val (.int (3 : Int32)), .val (.ref b1), .unset, .unset] [(.int (3 : Int32)), (.int (0 : Int32)), (.ref b1), (.int (0 : Int32)), (.ref r)])) rfl (by rw [hml]; rfl) (argsL := [(.ref r), (.int (0 : Int32)), (.ref b1), (.int (0 : Int32)), (.int (3 : Int32))]) (rest := []) (lenOf own_pd1 rfl) rfl (by show 2 * 0 + _ ≤ _; exact Nat.le_of_eq rfl) (hb hby own_d6_9) (fun _ _ => ⟨rfl, e1, (by decide : 1 + 0 ≤ _), (by decide : 3 + 0 ≤ _)⟩)
  dsimp only [Pt.U, Pt.locs, Pt.cells, Pt.slots] at X2 l2 y2 z2 st2 hQ2
  subst l2 y2 z2
  obtain ⟨rfl, N2q, K2, Vb2⟩ := hQ2
  have N2 := Fr.app N0 N2q
  refine own_st st2 ?_
  have O0_x2 := O0_x1.keep K2 (allS ge1 all0)
  have VR_x2 := VR_x1.keep K2 (ninS ne1_r nin0)
  have K0_x2 := K0_x1.trans K2 (allS (Or.inr sz1) all0)
  show own_Rch p e below _ T2 (mkF m 12 #[.val (.ref r), .val (.int (0 : Int32)), .val (.int (3 : Int32)), .val (.ref b1), .unset, .unset] [(.int (3 : Int32))])
  refine own_st (fun _ kt => XS.istore X2.here hx rfl (hb hby own_d6_12) rfl (l' := #[.val (.ref r), .val (.int (0 : Int32)), .val (.int (3 : Int32)), .val (.ref b1), .val (.int (3 : Int32)), .unset]) rfl kt) ?_
  show own_Rch p e below _ T2 (mkF m 14 #[.val (.ref r), .val (.int (0 : Int32)), .val (.int (3 : Int32)), .val (.ref b1), .val (.int (3 : Int32)), .unset] [])
  refine own_st (fun _ kt => XS.iload X2.here hx rfl (hb hby own_d6_14) rfl  kt) ?_
  show own_Rch p e below _ T2 (mkF m 16 #[.val (.ref r), .val (.int (0 : Int32)), .val (.int (3 : Int32)), .val (.ref b1), .val (.int (3 : Int32)), .unset] [(.int (3 : Int32))])
  refine own_st (fun _ kt => XS.iloadN X2.here hx rfl (hb hby own_d6_16) rfl  kt) ?_
  show own_Rch p e below _ T2 (mkF m 17 #[.val (.ref r), .val (.int (0 : Int32)), .val (.int (3 : Int32)), .val (.ref b1), .val (.int (3 : Int32)), .unset] [(.int (3 : Int32)), (.int (3 : Int32))])
  refine own_st (fun _ kt => XS.icmpYes X2.here hx rfl (pc0 := 17) (pc' := 57) rfl (hb hby own_d6_17) rfl (teq (rfl : (3 : Int32) = (3 : Int32))).1 (by decide) (by decide) kt) ?_
  show own_Rch p e below _ T2 (mkF m 57 #[.val (.ref r), .val (.int (0 : Int32)), .val (.int (3 : Int32)), .val (.ref b1), .val (.int (3 : Int32)), .unset] [])
  refine own_st (fun _ kt => XS.aloadN X2.here hx rfl (hb hby own_d6_57) rfl rfl  kt) ?_
  show own_Rch p e below _ T2 (mkF m 58 #[.val (.ref r), .val (.int (0 : Int32)), .val (.int (3 : Int32)), .val (.ref b1), .val (.int (3 : Int32)), .unset] [(.ref b1)])
  refine own_retA rfl rfl X2 hx Bd.notSynchronized Bd.returns (hb hby own_d6_58) (by decide) (by decide) ?_
  exact ⟨_, _, rfl, N2, K0_x2, sz1, Vb2⟩
def own_Q_own_cf_3 (Z : State) (b : Addr) (kb : ClassId) (vs : List Value) (h0 : Heap) (n0 : Nat) (v : Option Value) (h : Heap) (L : List Loc) : Prop := v = some (.int (0 : Int32)) ∧ Fr n0 L ∧ h = h0
set_option maxRecDepth 65536 in
set_option maxHeartbeats 40000000 in
theorem own_cf_3 (l : Launch) (Z : State) (a0 : Array Value) (hw : ∀ d ∈ tables_1, d.before a0 Z = true) (ws : List Jvm.Cond) (b : Addr) (kb : ClassId) (vs : List Value) (h0 : Heap) (n0 : Nat) (O0 : Old Z n0 h0) (VB : Arv Z h0 b kb .byte (3 : Int32) vs (.int (0 : Int32))) :
    MetFree l (⟨"java/lang/StringUTF16", "coderFromArrayLen", "([BI)B"⟩ : MethodName) (head1 (Jvm.Cond.code (⟨"java/lang/StringUTF16", "coderFromArrayLen", "([BI)B"⟩ : MethodName) jdk_52_method_15_code 2 (some .byte) :: ws) ({ frames := 0, cells := 0, slots := 0, locals := 0 } : Room)) (fun args_ U => args_ = #[(.ref b), (.int (3 : Int32))] ∧ Z.Warmed39 U.vm ∧ U.heap = h0) (fun _ _ _ _ _ => True) (fun _ U o U' => ∃ v L, o = .returned v ∧ (own_Q_own_cf_3 Z b kb vs h0 n0) v U'.heap L ∧ FrameEnd U o U' L ({ frames := 0, cells := 0, slots := 0, locals := 0 } : Room).cells ({ frames := 0, cells := 0, slots := 0, locals := 0 } : Room).slots) := by
  refine MetFree.of_bodySF (plainFor_of_name own_pn2) hisR ?_
  intro p e s m args below meth c s₁ Bd hml0 hP hK
  obtain ⟨rfl, hZ, hh⟩ := hP
  have hx := Bd.exec
  have hby := Bd.bytes
  have hml : c.maxLocals = 2 := hml0
  have hown : s.vm.findClass "java/lang/StringUTF16" = some m.cls := findClass_of_methodNamed Bd.named
  have hnm := (name_of_methodNamed Bd.named Bd.method).1
  have X0 : Stand p l e ({ frames := 0, cells := 0, slots := 0, locals := 0 } : Room) s m #[(.ref b), (.int (3 : Int32))] below meth c s₁ [] 0 0 := Stand.of_body Bd
  have e0 : s₁.heap = h0 := by rw [← hh, Bd.state]; rfl
  have N0 := Fr.nil n0
  refine own_close (s := s) (Q := (own_Q_own_cf_3 Z b kb vs h0 n0)) (C := (({ frames := 0, cells := 0, slots := 0, locals := 0 } : Room)).cells) (N := (({ frames := 0, cells := 0, slots := 0, locals := 0 } : Room)).slots) (own_st (fun _ kt => castTop (own_ef8 m b (3 : Int32)) kt) ?_)
  show own_Rch p e below _ s₁ (mkF m 0 #[.val (.ref b), .val (.int (3 : Int32))] [])
  refine own_st (fun _ kt => XS.iloadN X0.here hx rfl (hb hby own_d8_0) rfl  kt) ?_
  show own_Rch p e below _ s₁ (mkF m 1 #[.val (.ref b), .val (.int (3 : Int32))] [(.int (3 : Int32))])
  refine own_st (fun _ kt => XS.aloadN X0.here hx rfl (hb hby own_d8_1) rfl rfl  kt) ?_
  show own_Rch p e below _ s₁ (mkF m 2 #[.val (.ref b), .val (.int (3 : Int32))] [(.ref b), (.int (3 : Int32))])
  obtain ⟨cl1, Ar1, -, S1, M1, -, -⟩ := id VB
  refine own_st (X0.arraylength hx (by rw [e0]; exact Ar1.1) (State.isArrayOf_alike (hZ).alike Ar1.2.1) (g := (mkF m 2 #[.val (.ref b), .val (.int (3 : Int32))] [(.ref b), (.int (3 : Int32))])) rfl rfl (hb hby own_d8_2)) ?_
  rw [len_of S1 M1]
  show own_Rch p e below _ s₁ (mkF m 3 #[.val (.ref b), .val (.int (3 : Int32))] [(.int (3 : Int32)), (.int (3 : Int32))])
  refine own_st (fun _ kt => XS.isub X0.here hx rfl (hb hby own_d8_3) rfl kt) ?_
  show own_Rch p e below _ s₁ (mkF m 4 #[.val (.ref b), .val (.int (3 : Int32))] [(.int (0 : Int32))])
  refine own_st (fun _ kt => XS.bipush X0.here hx rfl (hb hby own_d8_4) kt) ?_
  show own_Rch p e below _ s₁ (mkF m 6 #[.val (.ref b), .val (.int (3 : Int32))] [(.int (31 : Int32)), (.int (0 : Int32))])
  refine own_st (fun _ kt => XS.iushr X0.here hx rfl (hb hby own_d8_6) rfl kt) ?_
  show own_Rch p e below _ s₁ (mkF m 7 #[.val (.ref b), .val (.int (3 : Int32))] [(.int (((0 : Int32).toUInt32 >>> ((31 : Int32) &&& 31).toUInt32).toInt32))])
  refine own_st (fun _ kt => XS.i2b X0.here hx rfl (hb hby own_d8_7) rfl kt) ?_
  show own_Rch p e below _ s₁ (mkF m 8 #[.val (.ref b), .val (.int (3 : Int32))] [(.int ((((0 : Int32).toUInt32 >>> ((31 : Int32) &&& 31).toUInt32).toInt32).toInt8.toInt32))])
  refine own_retN (t := .byte) (by simp) X0 hx Bd.notSynchronized Bd.returns (hb hby own_d8_8) (by decide) (by decide) ?_
  rw [e0]
  exact ⟨by decide, N0, rfl⟩
def own_Q_own_i5_3 (Z : State) (a : Addr) (r : Addr) (kr : ClassId) (c0 : Int32) (c1 : Int32) (c2 : Int32) (cs : Int32) (h0 : Heap) (n0 : Nat) (v : Option Value) (h : Heap) (L : List Loc) : Prop := v = none ∧ Fr n0 L ∧ Keep h0 h [a] ∧ ∃ (y : Addr) (ky : ClassId), Exa Z h a "java/lang/String" ∧ Fld Z h a "java/lang/String" "value" "[B" (.ref y) ∧ Fld Z h a "java/lang/String" "coder" "B" (.int (0 : Int32)) ∧ Arv Z h y ky .byte (3 : Int32) [(.int (own_b c0)), (.int (own_b c1)), (.int (own_b c2))] (.int (0 : Int32))
set_option maxRecDepth 65536 in
set_option maxHeartbeats 40000000 in
theorem own_i5_3 (l : Launch) (Z : State) (a0 : Array Value) (hw : ∀ d ∈ tables_1, d.before a0 Z = true) (ws : List Jvm.Cond) (a : Addr) (r : Addr) (kr : ClassId) (c0 : Int32) (c1 : Int32) (c2 : Int32) (cs : Int32) (h0 : Heap) (n0 : Nat) (O0 : Old Z n0 h0) (SC : Sta Z Z.heap "java/lang/String" "COMPACT_STRINGS" "Z" (.int cs)) (hcs : ¬ cs = 0) (VR : Arv Z h0 r kr .char (3 : Int32) [(.int (nar .char c0)), (.int (nar .char c1)), (.int (nar .char c2))] (.int (0 : Int32))) (EA : Exa Z h0 a "java/lang/String") (FV : Fld Z h0 a "java/lang/String" "value" "[B" .null) (FC : Fld Z h0 a "java/lang/String" "coder" "B" (.int (0 : Int32))) (ga : n0 ≤ a) (hc0 : own_ch c0) (hc1 : own_ch c1) (hc2 : own_ch c2) :
    MetFree l (⟨"java/lang/String", "<init>", "([CIILjava/lang/Void;)V"⟩ : MethodName) (head1 (Jvm.Cond.code (⟨"java/lang/String", "<init>", "([CIILjava/lang/Void;)V"⟩ : MethodName) jdk_42_method_149_code 6 none :: ws) ({ frames := 2, cells := 1, slots := 3, locals := 35 } : Room)) (fun args_ U => args_ = #[(.ref a), (.ref r), (.int (0 : Int32)), (.int (3 : Int32)), .null] ∧ Z.Warmed39 U.vm ∧ U.heap = h0) (fun _ _ _ _ _ => True) (fun _ U o U' => ∃ v L, o = .returned v ∧ (own_Q_own_i5_3 Z a r kr c0 c1 c2 cs h0 n0) v U'.heap L ∧ FrameEnd U o U' L ({ frames := 2, cells := 1, slots := 3, locals := 35 } : Room).cells ({ frames := 2, cells := 1, slots := 3, locals := 35 } : Room).slots) := by
  refine MetFree.of_bodySF (plainFor_of_name own_pn1) hisR ?_
  intro p e s m args below meth c s₁ Bd hml0 hP hK
  obtain ⟨rfl, hZ, hh⟩ := hP
  have hx := Bd.exec
  have hby := Bd.bytes
  have hml : c.maxLocals = 6 := hml0
  have hown : s.vm.findClass "java/lang/String" = some m.cls := findClass_of_methodNamed Bd.named
  have hnm := (name_of_methodNamed Bd.named Bd.method).1
  have X0 : Stand p l e ({ frames := 2, cells := 1, slots := 3, locals := 35 } : Room) s m #[(.ref a), (.ref r), (.int (0 : Int32)), (.int (3 : Int32)), .null] below meth c s₁ [] 0 0 := Stand.of_body Bd
  have e0 : s₁.heap = h0 := by rw [← hh, Bd.state]; rfl
  have N0 := Fr.nil n0
  refine own_close (s := s) (Q := (own_Q_own_i5_3 Z a r kr c0 c1 c2 cs h0 n0)) (C := (({ frames := 2, cells := 1, slots := 3, locals := 35 } : Room)).cells) (N := (({ frames := 2, cells := 1, slots := 3, locals := 35 } : Room)).slots) (own_st (fun _ kt => castTop (own_ef4n4 m a r (0 : Int32) (3 : Int32)) kt) ?_)
  have K0 := Keep.refl h0 [a]
  show own_Rch p e below _ s₁ (mkF m 0 #[.val (.ref a), .val (.ref r), .val (.int (0 : Int32)), .val (.int (3 : Int32)), .val .null, .unset] [])
  refine own_st (fun _ kt => XS.aloadN X0.here hx rfl (hb hby own_d4_0) rfl rfl  kt) ?_
  show own_Rch p e below _ s₁ (mkF m 1 #[.val (.ref a), .val (.ref r), .val (.int (0 : Int32)), .val (.int (3 : Int32)), .val .null, .unset] [(.ref a)])
  obtain ⟨T1, X1, e1, st1⟩ := initO X0 hx hZ hown (hw _ (List.mem_of_getElem? (i := 18) rfl)) (hw _ (List.mem_of_getElem? (i := 19) rfl)) (hw _ (List.mem_of_getElem? (i := 20) rfl)) e0 (g := (mkF m 1 #[.val (.ref a), .val (.ref r), .val (.int (0 : Int32)), .val (.int (3 : Int32)), .val .null, .unset] [(.ref a)])) rfl (by rw [hml]; rfl) rfl (hb hby own_d4_1) (by decide) (W := 0) (by show 2 * 0 + _ ≤ _; exact Nat.le_of_eq rfl) (by decide)
  refine own_st st1 ?_
  show own_Rch p e below _ T1 (mkF m 4 #[.val (.ref a), .val (.ref r), .val (.int (0 : Int32)), .val (.int (3 : Int32)), .val .null, .unset] [])
  refine own_st (fun _ kt => XS.iloadN X1.here hx rfl (hb hby own_d4_4) rfl  kt) ?_
  show own_Rch p e below _ T1 (mkF m 5 #[.val (.ref a), .val (.ref r), .val (.int (0 : Int32)), .val (.int (3 : Int32)), .val .null, .unset] [(.int (3 : Int32))])
  refine own_st (fun _ kt => XS.ifYes X1.here hx rfl (pc0 := 5) (pc' := 27) rfl (hb hby own_d4_5) rfl ((if0 _ _).trans (feq ((by decide) : ¬ ((3 : Int32) = (0 : Int32)))).2) (by decide) (by decide) kt) ?_
  show own_Rch p e below _ T1 (mkF m 27 #[.val (.ref a), .val (.ref r), .val (.int (0 : Int32)), .val (.int (3 : Int32)), .val .null, .unset] [])
  obtain ⟨T2, X2, e2, st2⟩ := getS2 X1 hx hZ hown (host := "") (Or.inl (hw _ (List.mem_of_getElem? (i := 21) rfl))) Via.refl e1 (SC.ext O0.2) (g := (mkF m 27 #[.val (.ref a), .val (.ref r), .val (.int (0 : Int32)), .val (.int (3 : Int32)), .val .null, .unset] [])) rfl (hb hby own_d4_27)
  refine own_st st2 ?_
  show own_Rch p e below _ T2 (mkF m 30 #[.val (.ref a), .val (.ref r), .val (.int (0 : Int32)), .val (.int (3 : Int32)), .val .null, .unset] [(.int cs)])
  refine own_st (fun _ kt => XS.ifNo X2.here hx rfl (hb hby own_d4_30) rfl ((if0 _ _).trans (feq (hcs : ¬ (cs = (0 : Int32)))).1) kt) ?_
  show own_Rch p e below _ T2 (mkF m 33 #[.val (.ref a), .val (.ref r), .val (.int (0 : Int32)), .val (.int (3 : Int32)), .val .null, .unset] [])
  refine own_st (fun _ kt => XS.aloadN X2.here hx rfl (hb hby own_d4_33) rfl rfl  kt) ?_
  show own_Rch p e below _ T2 (mkF m 34 #[.val (.ref a), .val (.ref r), .val (.int (0 : Int32)), .val (.int (3 : Int32)), .val .null, .unset] [(.ref r)])
  refine own_st (fun _ kt => XS.iloadN X2.here hx rfl (hb hby own_d4_34) rfl  kt) ?_
  show own_Rch p e below _ T2 (mkF m 35 #[.val (.ref a), .val (.ref r), .val (.int (0 : Int32)), .val (.int (3 : Int32)), .val .null, .unset] [(.int (0 : Int32)), (.ref r)])
  refine own_st (fun _ kt => XS.iloadN X2.here hx rfl (hb hby own_d4_35) rfl  kt) ?_
  show own_Rch p e below _ T2 (mkF m 36 #[.val (.ref a), .val (.ref r), .val (.int (0 : Int32)), .val (.int (3 : Int32)), .val .null, .unset] [(.int (3 : Int32)), (.int (0 : Int32)), (.ref r)])
  obtain ⟨_, _, ⟨T3, L3, k3, n3⟩, -, X3, ⟨Lc3, hQ3, l3, y3, z3⟩, st3⟩ := Jvm.LawKit.callS X2 hx (y := (⟨"java/lang/StringUTF16", "compress", "([CII)[B"⟩ : MethodName)) hown (mvT hZ (hw _ (List.mem_of_getElem? (i := 22) rfl))) (mvT hZ (hw _ (List.mem_of_getElem? (i := 23) rfl))) (mvT hZ (hw _ (List.mem_of_getElem? (i := 24) rfl))) (mvT hZ (hw _ (List.mem_of_getElem? (i := 25) rfl))) (by decide) (backOf (W := 0) (own_c3_3 l Z a0 hw [] r kr c0 c1 c2 h0 n0 O0 VR hc0 hc1 hc2) hZ (hw _ (List.mem_of_getElem? (i := 25) rfl)) (hw _ (List.mem_of_getElem? (i := 24) rfl)) (by decide) (by decide)) (g := (mkF m 36 #[.val (.ref a), .val (.ref r), .val (.int (0 : Int32)), .val (.int (3 : Int32)), .val .null, .unset] [(.int (3 : Int32)), (.int (0 : Int32)), (.ref r)])) rfl (by rw [hml]; rfl) (argsL := [(.ref r), (.int (0 : Int32)), (.int (3 : Int32))]) (rest := []) (lenOf own_pd2 rfl) rfl (by show 2 * 0 + _ ≤ _; exact Nat.le_of_eq rfl) (hb hby own_d4_36) (fun _ _ => ⟨rfl, e2, (by decide : 0 + 1 ≤ _), (by decide : 0 + 3 ≤ _)⟩)
  dsimp only [Pt.U, Pt.locs, Pt.cells, Pt.slots] at X3 l3 y3 z3 st3 hQ3
  subst l3 y3 z3
  obtain ⟨by3, kb3, rfl, N3q, K3, hb3, Vb3⟩ := hQ3
  have N3 := Fr.app N0 N3q
  refine own_st st3 ?_
  have ne3_r_by3 : r ≠ by3 := Nat.ne_of_lt (Nat.lt_of_lt_of_le VR.lt hb3)
  have ne3_a_by3 : a ≠ by3 := Nat.ne_of_lt (Nat.lt_of_lt_of_le EA.lt hb3)
  have ge3_by3 : n0 ≤ by3 := Nat.le_trans (own_old_le O0) hb3
  have sz3_by3 : h0.size ≤ by3 := Nat.le_trans K0.1 hb3
  have O0_x3 := O0.keep K3 all0
  have VR_x3 := VR.keep K3 nin0
  have EA_x3 := EA.keep K3
  have FV_x3 := FV.keep K3 nin0
  have FC_x3 := FC.keep K3 nin0
  have K0_x3 := K0.trans K3 all0
  show own_Rch p e below _ T3 (mkF m 39 #[.val (.ref a), .val (.ref r), .val (.int (0 : Int32)), .val (.int (3 : Int32)), .val .null, .unset] [(.ref by3)])
  refine own_st (fun _ kt => XS.astore X3.here hx rfl (hb hby own_d4_39) rfl rfl (l' := #[.val (.ref a), .val (.ref r), .val (.int (0 : Int32)), .val (.int (3 : Int32)), .val .null, .val (.ref by3)]) rfl kt) ?_
  show own_Rch p e below _ T3 (mkF m 41 #[.val (.ref a), .val (.ref r), .val (.int (0 : Int32)), .val (.int (3 : Int32)), .val .null, .val (.ref by3)] [])
  refine own_st (fun _ kt => XS.aloadN X3.here hx rfl (hb hby own_d4_41) rfl rfl  kt) ?_
  show own_Rch p e below _ T3 (mkF m 42 #[.val (.ref a), .val (.ref r), .val (.int (0 : Int32)), .val (.int (3 : Int32)), .val .null, .val (.ref by3)] [(.ref a)])
  refine own_st (fun _ kt => XS.aload X3.here hx rfl (hb hby own_d4_42) rfl rfl  kt) ?_
  show own_Rch p e below _ T3 (mkF m 44 #[.val (.ref a), .val (.ref r), .val (.int (0 : Int32)), .val (.int (3 : Int32)), .val .null, .val (.ref by3)] [(.ref by3), (.ref a)])
  refine own_st (fun _ kt => XS.iloadN X3.here hx rfl (hb hby own_d4_44) rfl  kt) ?_
  show own_Rch p e below _ T3 (mkF m 45 #[.val (.ref a), .val (.ref r), .val (.int (0 : Int32)), .val (.int (3 : Int32)), .val .null, .val (.ref by3)] [(.int (3 : Int32)), (.ref by3), (.ref a)])
  obtain ⟨_, _, ⟨T4, L4, k4, n4⟩, -, X4, ⟨Lc4, hQ4, l4, y4, z4⟩, st4⟩ := Jvm.LawKit.callS X3 hx (y := (⟨"java/lang/StringUTF16", "coderFromArrayLen", "([BI)B"⟩ : MethodName)) hown (mvT hZ (hw _ (List.mem_of_getElem? (i := 30) rfl))) (mvT hZ (hw _ (List.mem_of_getElem? (i := 31) rfl))) (mvT hZ (hw _ (List.mem_of_getElem? (i := 24) rfl))) (mvT hZ (hw _ (List.mem_of_getElem? (i := 32) rfl))) (by decide) (backOf (W := 1) (own_cf_3 l Z a0 hw [] by3 kb3 _ T3.heap n0 O0_x3 Vb3) hZ (hw _ (List.mem_of_getElem? (i := 32) rfl)) (hw _ (List.mem_of_getElem? (i := 24) rfl)) (by decide) (by decide)) (g := (mkF m 45 #[.val (.ref a), .val (.ref r), .val (.int (0 : Int32)), .val (.int (3 : Int32)), .val .null, .val (.ref by3)] [(.int (3 : Int32)), (.ref by3), (.ref a)])) rfl (by rw [hml]; rfl) (argsL := [(.ref by3), (.int (3 : Int32))]) (rest := [(.ref a)]) (lenOf own_pd3 rfl) rfl (by show 2 * 0 + _ ≤ _; exact Nat.le_of_eq rfl) (hb hby own_d4_45) (fun _ _ => ⟨rfl, rfl, (by decide : 1 + 0 ≤ _), (by decide : 3 + 0 ≤ _)⟩)
  dsimp only [Pt.U, Pt.locs, Pt.cells, Pt.slots] at X4 l4 y4 z4 st4 hQ4
  subst l4 y4 z4
  obtain ⟨rfl, N4q, hh4⟩ := hQ4
  have N4 := Fr.app N3 N4q
  refine own_st st4 ?_
  show own_Rch p e below _ T4 (mkF m 48 #[.val (.ref a), .val (.ref r), .val (.int (0 : Int32)), .val (.int (3 : Int32)), .val .null, .val (.ref by3)] [(.int (0 : Int32)), (.ref a)])
  obtain ⟨T5, h5, X5, e5, W5, st5⟩ := putFN X4 hx hZ hown (hw _ (List.mem_of_getElem? (i := 33) rfl)) Via.refl hh4 FC_x3 EA_x3 (Or.inr ⟨(hw _ (List.mem_of_getElem? (i := 34) rfl)), rfl, hnm⟩) (hw _ (List.mem_of_getElem? (i := 8) rfl)) (ty := .byte) (v' := (.int (0 : Int32))) (by decide) rfl (by decide) (g := (mkF m 48 #[.val (.ref a), .val (.ref r), .val (.int (0 : Int32)), .val (.int (3 : Int32)), .val .null, .val (.ref by3)] [(.int (0 : Int32)), (.ref a)])) rfl rfl (hb hby own_d4_48)
  refine own_st st5 ?_
  have Fw5 := FC_x3.same W5
  have N5 := Fr.snoc X5 N4 ga
  have O0_x5 := O0_x3.wr W5 ga
  have VR_x5 := VR_x3.other W5 (Ne.symm (Exa.neArv EA VR (hw _ (List.mem_of_getElem? (i := 8) rfl))))
  have EA_x5 := EA_x3.wr W5
  have FV_x5 := FV_x3.other W5 (Or.inr (slot_ne (Or.inr (hw _ (List.mem_of_getElem? (i := 36) rfl))) (Or.inr (hw _ (List.mem_of_getElem? (i := 34) rfl))) (by decide) (t := (.array .byte)) (t' := .byte) (by decide) (by decide)))
  have K0_x5 := K0_x3.wr W5 (Or.inl (List.mem_of_getElem? (i := 0) rfl))
  have Vb3_x5 := Vb3.other W5 (Ne.symm ne3_a_by3)
  show own_Rch p e below _ T5 (mkF m 51 #[.val (.ref a), .val (.ref r), .val (.int (0 : Int32)), .val (.int (3 : Int32)), .val .null, .val (.ref by3)] [])
  refine own_st (fun _ kt => XS.aloadN X5.here hx rfl (hb hby own_d4_51) rfl rfl  kt) ?_
  show own_Rch p e below _ T5 (mkF m 52 #[.val (.ref a), .val (.ref r), .val (.int (0 : Int32)), .val (.int (3 : Int32)), .val .null, .val (.ref by3)] [(.ref a)])
  refine own_st (fun _ kt => XS.aload X5.here hx rfl (hb hby own_d4_52) rfl rfl  kt) ?_
  show own_Rch p e below _ T5 (mkF m 54 #[.val (.ref a), .val (.ref r), .val (.int (0 : Int32)), .val (.int (3 : Int32)), .val .null, .val (.ref by3)] [(.ref by3), (.ref a)])
  obtain ⟨T6, h6, X6, e6, W6, st6⟩ := putF X5 hx hZ hown (host := "") (Or.inl (hw _ (List.mem_of_getElem? (i := 35) rfl))) Via.refl e5 FV_x5 EA_x5 (Or.inr ⟨(hw _ (List.mem_of_getElem? (i := 36) rfl)), rfl, hnm⟩) (hw _ (List.mem_of_getElem? (i := 8) rfl)) (ty := (.array .byte)) (by decide) rfl rfl (g := (mkF m 54 #[.val (.ref a), .val (.ref r), .val (.int (0 : Int32)), .val (.int (3 : Int32)), .val .null, .val (.ref by3)] [(.ref by3), (.ref a)])) rfl rfl (hb hby own_d4_54)
  refine own_st st6 ?_
  have Fw6 := FV_x5.same W6
  have N6 := Fr.snoc X6 N5 ga
  have O0_x6 := O0_x5.wr W6 ga
  have VR_x6 := VR_x5.other W6 (Ne.symm (Exa.neArv EA VR (hw _ (List.mem_of_getElem? (i := 8) rfl))))
  have EA_x6 := EA_x5.wr W6
  have Fw5_x6 := Fw5.other W6 (Or.inr (slot_ne (Or.inr (hw _ (List.mem_of_getElem? (i := 34) rfl))) (Or.inr (hw _ (List.mem_of_getElem? (i := 36) rfl))) (by decide) (t := .byte) (t' := (.array .byte)) (by decide) (by decide)))
  have K0_x6 := K0_x5.wr W6 (Or.inl (List.mem_of_getElem? (i := 0) rfl))
  have Vb3_x6 := Vb3_x5.other W6 (Ne.symm ne3_a_by3)
  show own_Rch p e below _ T6 (mkF m 57 #[.val (.ref a), .val (.ref r), .val (.int (0 : Int32)), .val (.int (3 : Int32)), .val .null, .val (.ref by3)] [])
  refine own_retV X6 hx Bd.notSynchronized Bd.returns (hb hby own_d4_57) (by decide) (by decide) ?_
  rw [e6]
  exact ⟨rfl, N6, K0_x6, _, _, EA_x6, Fw6, Fw5_x6, Vb3_x6⟩
def own_Q_own_i1_3 (Z : State) (a : Addr) (r : Addr) (kr : ClassId) (c0 : Int32) (c1 : Int32) (c2 : Int32) (cs : Int32) (h0 : Heap) (n0 : Nat) (v : Option Value) (h : Heap) (L : List Loc) : Prop := v = none ∧ Fr n0 L ∧ Keep h0 h [a] ∧ ∃ (y : Addr) (ky : ClassId), Exa Z h a "java/lang/String" ∧ Fld Z h a "java/lang/String" "value" "[B" (.ref y) ∧ Fld Z h a "java/lang/String" "coder" "B" (.int (0 : Int32)) ∧ Arv Z h y ky .byte (3 : Int32) [(.int (own_b c0)), (.int (own_b c1)), (.int (own_b c2))] (.int (0 : Int32))
set_option maxRecDepth 65536 in
set_option maxHeartbeats 40000000 in
theorem own_i1_3 (l : Launch) (Z : State) (a0 : Array Value) (hw : ∀ d ∈ tables_1, d.before a0 Z = true) (ws : List Jvm.Cond) (a : Addr) (r : Addr) (kr : ClassId) (c0 : Int32) (c1 : Int32) (c2 : Int32) (cs : Int32) (h0 : Heap) (n0 : Nat) (O0 : Old Z n0 h0) (SC : Sta Z Z.heap "java/lang/String" "COMPACT_STRINGS" "Z" (.int cs)) (hcs : ¬ cs = 0) (VR : Arv Z h0 r kr .char (3 : Int32) [(.int (nar .char c0)), (.int (nar .char c1)), (.int (nar .char c2))] (.int (0 : Int32))) (EA : Exa Z h0 a "java/lang/String") (FV : Fld Z h0 a "java/lang/String" "value" "[B" .null) (FC : Fld Z h0 a "java/lang/String" "coder" "B" (.int (0 : Int32))) (ga : n0 ≤ a) (hc0 : own_ch c0) (hc1 : own_ch c1) (hc2 : own_ch c2) :
    MetFree l (⟨"java/lang/String", "<init>", "([C)V"⟩ : MethodName) (head1 (Jvm.Cond.code (⟨"java/lang/String", "<init>", "([C)V"⟩ : MethodName) jdk_42_method_3_code 2 none :: ws) ({ frames := 3, cells := 1, slots := 3, locals := 52 } : Room)) (fun args_ U => args_ = #[(.ref a), (.ref r)] ∧ Z.Warmed39 U.vm ∧ U.heap = h0) (fun _ _ _ _ _ => True) (fun _ U o U' => ∃ v L, o = .returned v ∧ (own_Q_own_i1_3 Z a r kr c0 c1 c2 cs h0 n0) v U'.heap L ∧ FrameEnd U o U' L ({ frames := 3, cells := 1, slots := 3, locals := 52 } : Room).cells ({ frames := 3, cells := 1, slots := 3, locals := 52 } : Room).slots) := by
  refine MetFree.of_bodySF (plainFor_of_name own_pn1) hisR ?_
  intro p e s m args below meth c s₁ Bd hml0 hP hK
  obtain ⟨rfl, hZ, hh⟩ := hP
  have hx := Bd.exec
  have hby := Bd.bytes
  have hml : c.maxLocals = 2 := hml0
  have hown : s.vm.findClass "java/lang/String" = some m.cls := findClass_of_methodNamed Bd.named
  have hnm := (name_of_methodNamed Bd.named Bd.method).1
  have X0 : Stand p l e ({ frames := 3, cells := 1, slots := 3, locals := 52 } : Room) s m #[(.ref a), (.ref r)] below meth c s₁ [] 0 0 := Stand.of_body Bd
  have e0 : s₁.heap = h0 := by rw [← hh, Bd.state]; rfl
  have N0 := Fr.nil n0
  refine own_close (s := s) (Q := (own_Q_own_i1_3 Z a r kr c0 c1 c2 cs h0 n0)) (C := (({ frames := 3, cells := 1, slots := 3, locals := 52 } : Room)).cells) (N := (({ frames := 3, cells := 1, slots := 3, locals := 52 } : Room)).slots) (own_st (fun _ kt => castTop (own_ef3 m a r) kt) ?_)
  have K0 := Keep.refl h0 [a]
  show own_Rch p e below _ s₁ (mkF m 0 #[.val (.ref a), .val (.ref r)] [])
  refine own_st (fun _ kt => XS.aloadN X0.here hx rfl (hb hby own_d3_0) rfl rfl  kt) ?_
  show own_Rch p e below _ s₁ (mkF m 1 #[.val (.ref a), .val (.ref r)] [(.ref a)])
  refine own_st (fun _ kt => XS.aloadN X0.here hx rfl (hb hby own_d3_1) rfl rfl  kt) ?_
  show own_Rch p e below _ s₁ (mkF m 2 #[.val (.ref a), .val (.ref r)] [(.ref r), (.ref a)])
  refine own_st (fun _ kt => XS.iconst X0.here hx rfl (hb hby own_d3_2) kt) ?_
  show own_Rch p e below _ s₁ (mkF m 3 #[.val (.ref a), .val (.ref r)] [(.int (0 : Int32)), (.ref r), (.ref a)])
  refine own_st (fun _ kt => XS.aloadN X0.here hx rfl (hb hby own_d3_3) rfl rfl  kt) ?_
  show own_Rch p e below _ s₁ (mkF m 4 #[.val (.ref a), .val (.ref r)] [(.ref r), (.int (0 : Int32)), (.ref r), (.ref a)])
  obtain ⟨cl1, Ar1, -, S1, M1, -, -⟩ := id VR
  refine own_st (X0.arraylength hx (by rw [e0]; exact Ar1.1) (State.isArrayOf_alike (hZ).alike Ar1.2.1) (g := (mkF m 4 #[.val (.ref a), .val (.ref r)] [(.ref r), (.int (0 : Int32)), (.ref r), (.ref a)])) rfl rfl (hb hby own_d3_4)) ?_
  rw [len_of S1 M1]
  show own_Rch p e below _ s₁ (mkF m 5 #[.val (.ref a), .val (.ref r)] [(.int (3 : Int32)), (.int (0 : Int32)), (.ref r), (.ref a)])
  refine own_st (fun _ kt => XS.aconstNull X0.here hx rfl (hb hby own_d3_5) kt) ?_
  show own_Rch p e below _ s₁ (mkF m 6 #[.val (.ref a), .val (.ref r)] [.null, (.int (3 : Int32)), (.int (0 : Int32)), (.ref r), (.ref a)])
  obtain ⟨_, _, ⟨T2, L2, k2, n2⟩, -, X2, ⟨Lc2, hQ2, l2, y2, z2⟩, st2⟩ := X0.specialBack hx (y := (⟨"java/lang/String", "<init>", "([CIILjava/lang/Void;)V"⟩ : MethodName)) rfl hown (mvT hZ (hw _ (List.mem_of_getElem? (i := 14) rfl))) (mvT hZ (hw _ (List.mem_of_getElem? (i := 15) rfl))) (mvT hZ (hw _ (List.mem_of_getElem? (i := 17) rfl))) (by decide) (backOf (W := 0) (own_i5_3 l Z a0 hw [] a r kr c0 c1 c2 cs h0 n0 O0 SC hcs VR EA FV FC ga hc0 hc1 hc2) hZ (hw _ (List.mem_of_getElem? (i := 17) rfl)) (hw _ (List.mem_of_getElem? (i := 9) rfl)) (by decide) (by decide)) (g := (mkF m 6 #[.val (.ref a), .val (.ref r)] [.null, (.int (3 : Int32)), (.int (0 : Int32)), (.ref r), (.ref a)])) rfl (by rw [hml]; rfl) (Steps.refl _) (a := a) (argsL := [(.ref r), (.int (0 : Int32)), (.int (3 : Int32)), .null]) (rest := []) (lenOf own_pd4 rfl) rfl (by show 2 * 0 + _ ≤ _; exact Nat.le_of_eq rfl) (hb hby own_d3_6) (fun _ _ => ⟨rfl, e0, (by decide : 0 + 1 ≤ _), (by decide : 0 + 3 ≤ _)⟩)
  dsimp only [Pt.U, Pt.locs, Pt.cells, Pt.slots] at X2 l2 y2 z2 st2 hQ2
  subst l2 y2 z2
  obtain ⟨rfl, N2q, K2, yy2, ky2, Ea2, Fv2, Fc2, Vy2⟩ := hQ2
  have N2 := Fr.app N0 N2q
  refine own_st (fun _ kt => st2.trans kt) ?_
  have O0_x2 := O0.keep K2 (allS ga all0)
  have VR_x2 := VR.keep K2 (ninS (Ne.symm (Exa.neArv EA VR (hw _ (List.mem_of_getElem? (i := 8) rfl)))) nin0)
  have EA_x2 := EA.keep K2
  have K0_x2 := K0.trans K2 (allS (Or.inl (List.mem_of_getElem? (i := 0) rfl)) all0)
  show own_Rch p e below _ T2 (mkF m 9 #[.val (.ref a), .val (.ref r)] [])
  refine own_retV X2 hx Bd.notSynchronized Bd.returns (hb hby own_d3_9) (by decide) (by decide) ?_
  exact ⟨rfl, N2, K0_x2, _, _, Ea2, Fv2, Fc2, Vy2⟩
theorem own_d4_8 : decode jdk_42_method_149_code 8 = .ok (.aload_n 0, 1) := by decide +kernel
theorem own_d4_9 : decode jdk_42_method_149_code 9 = .ok (.ldc 7, 2) := by decide +kernel
theorem own_d4_11 : decode jdk_42_method_149_code 11 = .ok (.getfield 9, 3) := by decide +kernel
theorem own_d4_14 : decode jdk_42_method_149_code 14 = .ok (.putfield 9, 3) := by decide +kernel
theorem own_d4_17 : decode jdk_42_method_149_code 17 = .ok (.aload_n 0, 1) := by decide +kernel
theorem own_d4_18 : decode jdk_42_method_149_code 18 = .ok (.ldc 7, 2) := by decide +kernel
theorem own_d4_20 : decode jdk_42_method_149_code 20 = .ok (.getfield 15, 3) := by decide +kernel
theorem own_d4_23 : decode jdk_42_method_149_code 23 = .ok (.putfield 15, 3) := by decide +kernel
theorem own_d4_26 : decode jdk_42_method_149_code 26 = .ok (.return_, 1) := by decide +kernel
def own_Q_own_i5_0 (Z : State) (a : Addr) (r : Addr) (kr : ClassId) (c0 : Int32) (c1 : Int32) (c2 : Int32) (cs : Int32) (h0 : Heap) (n0 : Nat) (v : Option Value) (h : Heap) (L : List Loc) : Prop := v = none ∧ Fr n0 L ∧ Keep h0 h [a] ∧ ∃ (y : Addr) (ky : ClassId), Exa Z h a "java/lang/String" ∧ Fld Z h a "java/lang/String" "value" "[B" (.ref y) ∧ Fld Z h a "java/lang/String" "coder" "B" (.int (0 : Int32)) ∧ Arv Z h y ky .byte (0 : Int32) [] (.int (0 : Int32))
set_option maxRecDepth 65536 in
set_option maxHeartbeats 40000000 in
theorem own_i5_0 (l : Launch) (Z : State) (a0 : Array Value) (hw : ∀ d ∈ tables_1, d.before a0 Z = true) (ws : List Jvm.Cond) (a : Addr) (r : Addr) (kr : ClassId) (c0 : Int32) (c1 : Int32) (c2 : Int32) (cs : Int32) (h0 : Heap) (n0 : Nat) (O0 : Old Z n0 h0) (SC : Sta Z Z.heap "java/lang/String" "COMPACT_STRINGS" "Z" (.int cs)) (hcs : ¬ cs = 0) (VR : Arv Z h0 r kr .char (0 : Int32) [] (.int (0 : Int32))) (EA : Exa Z h0 a "java/lang/String") (FV : Fld Z h0 a "java/lang/String" "value" "[B" .null) (FC : Fld Z h0 a "java/lang/String" "coder" "B" (.int (0 : Int32))) (ga : n0 ≤ a) (hc0 : own_ch c0) (hc1 : own_ch c1) (hc2 : own_ch c2) :
    MetFree l (⟨"java/lang/String", "<init>", "([CIILjava/lang/Void;)V"⟩ : MethodName) (head1 (Jvm.Cond.code (⟨"java/lang/String", "<init>", "([CIILjava/lang/Void;)V"⟩ : MethodName) jdk_42_method_149_code 6 none :: ws) ({ frames := 1, cells := 2, slots := 4, locals := 12 } : Room)) (fun args_ U => args_ = #[(.ref a), (.ref r), (.int (0 : Int32)), (.int (0 : Int32)), .null] ∧ Z.Warmed39 U.vm ∧ U.heap = h0 ∧ CHv Z consts_1 U.vm h0) (fun _ _ _ _ _ => True) (fun _ U o U' => ∃ v L, o = .returned v ∧ (own_Q_own_i5_0 Z a r kr c0 c1 c2 cs h0 n0) v U'.heap L ∧ CHr Z consts_1 U.vm U.heap U'.vm U'.heap ∧ ReturnedEndW U o U' L ({ frames := 1, cells := 2, slots := 4, locals := 12 } : Room).cells ({ frames := 1, cells := 2, slots := 4, locals := 12 } : Room).slots) := by
  refine MetFree.of_bodySF (plainFor_of_name own_pn1) hisR ?_
  intro p e s m args below meth c s₁ Bd hml0 hP hK
  obtain ⟨rfl, hZ, hh, hCH⟩ := hP
  have hx := Bd.exec
  have hby := Bd.bytes
  have hml : c.maxLocals = 6 := hml0
  have hown : s.vm.findClass "java/lang/String" = some m.cls := findClass_of_methodNamed Bd.named
  have hnm := (name_of_methodNamed Bd.named Bd.method).1
  have X0 : Stand p l e ({ frames := 1, cells := 2, slots := 4, locals := 12 } : Room) (s.setVm s.vm) m #[(.ref a), (.ref r), (.int (0 : Int32)), (.int (0 : Int32)), .null] below meth c s₁ [] 0 0 := Stand.of_body Bd
  have e0 : s₁.heap = h0 := by rw [← hh, Bd.state]; rfl
  have N0 := Fr.nil n0
  have hh0 : s.heap = h0 := hh
  have CR0 : CHr Z consts_1 s.vm h0 s.vm h0 := CHr.refl hCH
  have hS0 : s.Since s.vm 0 := own_since s
  have hk0 : 0 ≤ h0.size := Nat.zero_le _
  refine own_closeH (Z := Z) (EL := consts_1) (s := s) (Q := (own_Q_own_i5_0 Z a r kr c0 c1 c2 cs h0 n0)) (C := (({ frames := 1, cells := 2, slots := 4, locals := 12 } : Room)).cells) (N := (({ frames := 1, cells := 2, slots := 4, locals := 12 } : Room)).slots) (own_st (fun _ kt => castTop (own_ef4n4 m a r (0 : Int32) (0 : Int32)) kt) ?_)
  have K0 := Keep.refl h0 [a]
  have YA := own_safe_null (EL := consts_1) hZ.alike EA FV
  show own_Rch p e below _ s₁ (mkF m 0 #[.val (.ref a), .val (.ref r), .val (.int (0 : Int32)), .val (.int (0 : Int32)), .val .null, .unset] [])
  refine own_st (fun _ kt => XS.aloadN X0.here hx rfl (hb hby own_d4_0) rfl rfl  kt) ?_
  show own_Rch p e below _ s₁ (mkF m 1 #[.val (.ref a), .val (.ref r), .val (.int (0 : Int32)), .val (.int (0 : Int32)), .val .null, .unset] [(.ref a)])
  obtain ⟨T1, X1, e1, st1⟩ := initO X0 hx hZ hown (hw _ (List.mem_of_getElem? (i := 18) rfl)) (hw _ (List.mem_of_getElem? (i := 19) rfl)) (hw _ (List.mem_of_getElem? (i := 20) rfl)) e0 (g := (mkF m 1 #[.val (.ref a), .val (.ref r), .val (.int (0 : Int32)), .val (.int (0 : Int32)), .val .null, .unset] [(.ref a)])) rfl (by rw [hml]; rfl) rfl (hb hby own_d4_1) (by decide) (W := 0) (by show 2 * 0 + _ ≤ _; exact Nat.le_of_eq rfl) (by decide)
  refine own_st st1 ?_
  show own_Rch p e below _ T1 (mkF m 4 #[.val (.ref a), .val (.ref r), .val (.int (0 : Int32)), .val (.int (0 : Int32)), .val .null, .unset] [])
  refine own_st (fun _ kt => XS.iloadN X1.here hx rfl (hb hby own_d4_4) rfl  kt) ?_
  show own_Rch p e below _ T1 (mkF m 5 #[.val (.ref a), .val (.ref r), .val (.int (0 : Int32)), .val (.int (0 : Int32)), .val .null, .unset] [(.int (0 : Int32))])
  refine own_st (fun _ kt => XS.ifNo X1.here hx rfl (hb hby own_d4_5) rfl ((if0 _ _).trans (teq (rfl : (0 : Int32) = (0 : Int32))).2) kt) ?_
  show own_Rch p e below _ T1 (mkF m 8 #[.val (.ref a), .val (.ref r), .val (.int (0 : Int32)), .val (.int (0 : Int32)), .val .null, .unset] [])
  refine own_st (fun _ kt => XS.aloadN X1.here hx rfl (hb hby own_d4_8) rfl rfl  kt) ?_
  show own_Rch p e below _ T1 (mkF m 9 #[.val (.ref a), .val (.ref r), .val (.int (0 : Int32)), .val (.int (0 : Int32)), .val .null, .unset] [(.ref a)])
  obtain ⟨sl2, T2, h2, ks2, sd2, kd2, X2, e2, E2, hS2, hk2, hZ2, hown2, Es2, Fc2, Fv2, Va2, -, -, CB2, Lt2, hne2, st2⟩ := ldcCH (s := s) X1 hx hZ hown (hw _ (List.mem_of_getElem? (i := 101) rfl)) (own_wS hw) e1 hS0 hk0 (own_hEL hw) (List.mem_of_getElem? (i := 4) rfl) CR0.1 (vs := []) (z := (0 : Int32)) ⟨by decide, by decide⟩ (by decide) (by decide) (g := (mkF m 9 #[.val (.ref a), .val (.ref r), .val (.int (0 : Int32)), .val (.int (0 : Int32)), .val .null, .unset] [(.ref a)])) rfl (hb hby own_d4_9) (n := 0) (by decide) (by decide) (by decide) (by decide)
  have Yq2_a := CB2.safe EA.lt YA
  have O0_x2 := O0.ext E2
  have CR0_x2 := CR0.trans CB2
  have VR_x2 := VR.ext E2
  have EA_x2 := EA.ext E2
  have FV_x2 := FV.ext E2
  have FC_x2 := FC.ext E2
  have K0_x2 := K0.ext E2
  have nq2_a := hne2 a Yq2_a
  refine own_st st2 ?_
  show own_Rch p e below _ T2 (mkF m 11 #[.val (.ref a), .val (.ref r), .val (.int (0 : Int32)), .val (.int (0 : Int32)), .val .null, .unset] [(.ref sl2), (.ref a)])
  obtain ⟨T3, X3, e3, st3⟩ := getF X2 hx hZ2 hown2 (host := "") (Or.inl (hw _ (List.mem_of_getElem? (i := 35) rfl))) Via.refl e2 Fv2 (g := (mkF m 11 #[.val (.ref a), .val (.ref r), .val (.int (0 : Int32)), .val (.int (0 : Int32)), .val .null, .unset] [(.ref sl2), (.ref a)])) rfl rfl (hb hby own_d4_11)
  refine own_st st3 ?_
  show own_Rch p e below _ T3 (mkF m 14 #[.val (.ref a), .val (.ref r), .val (.int (0 : Int32)), .val (.int (0 : Int32)), .val .null, .unset] [(.ref sd2), (.ref a)])
  obtain ⟨T4, h4, X4, e4, W4, st4⟩ := putF X3 hx hZ2 hown2 (host := "") (Or.inl (hw _ (List.mem_of_getElem? (i := 35) rfl))) Via.refl e3 FV_x2 EA_x2 (Or.inr ⟨(hw _ (List.mem_of_getElem? (i := 36) rfl)), rfl, hnm⟩) (hw _ (List.mem_of_getElem? (i := 8) rfl)) (ty := (.array .byte)) (by decide) rfl rfl (g := (mkF m 14 #[.val (.ref a), .val (.ref r), .val (.int (0 : Int32)), .val (.int (0 : Int32)), .val .null, .unset] [(.ref sd2), (.ref a)])) rfl rfl (hb hby own_d4_14)
  refine own_st st4 ?_
  have Fw4 := FV_x2.same W4
  have N4 := Fr.snoc X4 N0 ga
  have hkk4 := Nat.le_trans hk2 (Nat.le_of_eq (Wr.size W4).symm)
  have O0_x4 := O0_x2.wr W4 ga
  have CR0_x4 := CR0_x2.trans (CHr.wr W4 Yq2_a CR0_x2.1)
  have VR_x4 := VR_x2.other W4 (Ne.symm (Exa.neArv EA VR (hw _ (List.mem_of_getElem? (i := 8) rfl))))
  have EA_x4 := EA_x2.wr W4
  have FC_x4 := FC_x2.other W4 (Or.inr (slot_ne (Or.inr (hw _ (List.mem_of_getElem? (i := 34) rfl))) (Or.inr (hw _ (List.mem_of_getElem? (i := 36) rfl))) (by decide) (t := .byte) (t' := (.array .byte)) (by decide) (by decide)))
  have K0_x4 := K0_x2.wr W4 (Or.inl (List.mem_of_getElem? (i := 0) rfl))
  have Yq2_a_x4 := Safe.wr W4 Yq2_a CR0_x2.1 Yq2_a
  have Es2_x4 := Es2.wr W4
  have Fc2_x4 := Fc2.other W4 (Or.inl (Ne.symm nq2_a.1))
  have Fv2_x4 := Fv2.other W4 (Or.inl (Ne.symm nq2_a.1))
  have Va2_x4 := Va2.other W4 (Ne.symm nq2_a.2)
  show own_Rch p e below _ T4 (mkF m 17 #[.val (.ref a), .val (.ref r), .val (.int (0 : Int32)), .val (.int (0 : Int32)), .val .null, .unset] [])
  refine own_st (fun _ kt => XS.aloadN X4.here hx rfl (hb hby own_d4_17) rfl rfl  kt) ?_
  show own_Rch p e below _ T4 (mkF m 18 #[.val (.ref a), .val (.ref r), .val (.int (0 : Int32)), .val (.int (0 : Int32)), .val .null, .unset] [(.ref a)])
  refine own_st (ldcAgain (s := s) X4 hx hZ2 hown2 (hw _ (List.mem_of_getElem? (i := 101) rfl)) Lt2 (g := (mkF m 18 #[.val (.ref a), .val (.ref r), .val (.int (0 : Int32)), .val (.int (0 : Int32)), .val .null, .unset] [(.ref a)])) rfl (hb hby own_d4_18)) ?_
  show own_Rch p e below _ T4 (mkF m 20 #[.val (.ref a), .val (.ref r), .val (.int (0 : Int32)), .val (.int (0 : Int32)), .val .null, .unset] [(.ref sl2), (.ref a)])
  obtain ⟨T6, X6, e6, st6⟩ := getF X4 hx hZ2 hown2 (host := "") (Or.inl (hw _ (List.mem_of_getElem? (i := 33) rfl))) Via.refl e4 Fc2_x4 (g := (mkF m 20 #[.val (.ref a), .val (.ref r), .val (.int (0 : Int32)), .val (.int (0 : Int32)), .val .null, .unset] [(.ref sl2), (.ref a)])) rfl rfl (hb hby own_d4_20)
  refine own_st st6 ?_
  show own_Rch p e below _ T6 (mkF m 23 #[.val (.ref a), .val (.ref r), .val (.int (0 : Int32)), .val (.int (0 : Int32)), .val .null, .unset] [(.int (0 : Int32)), (.ref a)])
  obtain ⟨T7, h7, X7, e7, W7, st7⟩ := putFN X6 hx hZ2 hown2 (hw _ (List.mem_of_getElem? (i := 33) rfl)) Via.refl e6 FC_x4 EA_x4 (Or.inr ⟨(hw _ (List.mem_of_getElem? (i := 34) rfl)), rfl, hnm⟩) (hw _ (List.mem_of_getElem? (i := 8) rfl)) (ty := .byte) (v' := (.int (0 : Int32))) (by decide) rfl (by decide) (g := (mkF m 23 #[.val (.ref a), .val (.ref r), .val (.int (0 : Int32)), .val (.int (0 : Int32)), .val .null, .unset] [(.int (0 : Int32)), (.ref a)])) rfl rfl (hb hby own_d4_23)
  refine own_st st7 ?_
  have Fw7 := FC_x4.same W7
  have N7 := Fr.snoc X7 N4 ga
  have hkk7 := Nat.le_trans hkk4 (Nat.le_of_eq (Wr.size W7).symm)
  have O0_x7 := O0_x4.wr W7 ga
  have CR0_x7 := CR0_x4.trans (CHr.wr W7 Yq2_a_x4 CR0_x4.1)
  have VR_x7 := VR_x4.other W7 (Ne.symm (Exa.neArv EA VR (hw _ (List.mem_of_getElem? (i := 8) rfl))))
  have EA_x7 := EA_x4.wr W7
  have Fw4_x7 := Fw4.other W7 (Or.inr (slot_ne (Or.inr (hw _ (List.mem_of_getElem? (i := 36) rfl))) (Or.inr (hw _ (List.mem_of_getElem? (i := 34) rfl))) (by decide) (t := (.array .byte)) (t' := .byte) (by decide) (by decide)))
  have K0_x7 := K0_x4.wr W7 (Or.inl (List.mem_of_getElem? (i := 0) rfl))
  have Yq2_a_x7 := Safe.wr W7 Yq2_a_x4 CR0_x4.1 Yq2_a_x4
  have Es2_x7 := Es2_x4.wr W7
  have Fc2_x7 := Fc2_x4.other W7 (Or.inl (Ne.symm nq2_a.1))
  have Fv2_x7 := Fv2_x4.other W7 (Or.inl (Ne.symm nq2_a.1))
  have Va2_x7 := Va2_x4.other W7 (Ne.symm nq2_a.2)
  show own_Rch p e below _ T7 (mkF m 26 #[.val (.ref a), .val (.ref r), .val (.int (0 : Int32)), .val (.int (0 : Int32)), .val .null, .unset] [])
  refine own_retVH (by rw [hh0, e7]; exact CR0_x7.trans (CHv.at (s := s) X7 hZ2 (own_hEL hw) CR0_x7.1)) (s := s) hS2 (by rw [e7]; exact hkk7) X7 hx Bd.notSynchronized Bd.returns (hb hby own_d4_26) (by decide) (by decide) ?_
  rw [e7]
  exact ⟨rfl, N7, K0_x7, _, _, EA_x7, Fw4_x7, Fw7, Va2_x7⟩
def own_Q_own_i1_0 (Z : State) (a : Addr) (r : Addr) (kr : ClassId) (c0 : Int32) (c1 : Int32) (c2 : Int32) (cs : Int32) (h0 : Heap) (n0 : Nat) (v : Option Value) (h : Heap) (L : List Loc) : Prop := v = none ∧ Fr n0 L ∧ Keep h0 h [a] ∧ ∃ (y : Addr) (ky : ClassId), Exa Z h a "java/lang/String" ∧ Fld Z h a "java/lang/String" "value" "[B" (.ref y) ∧ Fld Z h a "java/lang/String" "coder" "B" (.int (0 : Int32)) ∧ Arv Z h y ky .byte (0 : Int32) [] (.int (0 : Int32))
set_option maxRecDepth 65536 in
set_option maxHeartbeats 40000000 in
theorem own_i1_0 (l : Launch) (Z : State) (a0 : Array Value) (hw : ∀ d ∈ tables_1, d.before a0 Z = true) (ws : List Jvm.Cond) (a : Addr) (r : Addr) (kr : ClassId) (c0 : Int32) (c1 : Int32) (c2 : Int32) (cs : Int32) (h0 : Heap) (n0 : Nat) (O0 : Old Z n0 h0) (SC : Sta Z Z.heap "java/lang/String" "COMPACT_STRINGS" "Z" (.int cs)) (hcs : ¬ cs = 0) (VR : Arv Z h0 r kr .char (0 : Int32) [] (.int (0 : Int32))) (EA : Exa Z h0 a "java/lang/String") (FV : Fld Z h0 a "java/lang/String" "value" "[B" .null) (FC : Fld Z h0 a "java/lang/String" "coder" "B" (.int (0 : Int32))) (ga : n0 ≤ a) (hc0 : own_ch c0) (hc1 : own_ch c1) (hc2 : own_ch c2) :
    MetFree l (⟨"java/lang/String", "<init>", "([C)V"⟩ : MethodName) (head1 (Jvm.Cond.code (⟨"java/lang/String", "<init>", "([C)V"⟩ : MethodName) jdk_42_method_3_code 2 none :: ws) ({ frames := 2, cells := 2, slots := 4, locals := 29 } : Room)) (fun args_ U => args_ = #[(.ref a), (.ref r)] ∧ Z.Warmed39 U.vm ∧ U.heap = h0 ∧ CHv Z consts_1 U.vm h0) (fun _ _ _ _ _ => True) (fun _ U o U' => ∃ v L, o = .returned v ∧ (own_Q_own_i1_0 Z a r kr c0 c1 c2 cs h0 n0) v U'.heap L ∧ CHr Z consts_1 U.vm U.heap U'.vm U'.heap ∧ ReturnedEndW U o U' L ({ frames := 2, cells := 2, slots := 4, locals := 29 } : Room).cells ({ frames := 2, cells := 2, slots := 4, locals := 29 } : Room).slots) := by
  refine MetFree.of_bodySF (plainFor_of_name own_pn1) hisR ?_
  intro p e s m args below meth c s₁ Bd hml0 hP hK
  obtain ⟨rfl, hZ, hh, hCH⟩ := hP
  have hx := Bd.exec
  have hby := Bd.bytes
  have hml : c.maxLocals = 2 := hml0
  have hown : s.vm.findClass "java/lang/String" = some m.cls := findClass_of_methodNamed Bd.named
  have hnm := (name_of_methodNamed Bd.named Bd.method).1
  have X0 : Stand p l e ({ frames := 2, cells := 2, slots := 4, locals := 29 } : Room) (s.setVm s.vm) m #[(.ref a), (.ref r)] below meth c s₁ [] 0 0 := Stand.of_body Bd
  have e0 : s₁.heap = h0 := by rw [← hh, Bd.state]; rfl
  have N0 := Fr.nil n0
  have hh0 : s.heap = h0 := hh
  have CR0 : CHr Z consts_1 s.vm h0 s.vm h0 := CHr.refl hCH
  have hS0 : s.Since s.vm 0 := own_since s
  have hk0 : 0 ≤ h0.size := Nat.zero_le _
  refine own_closeH (Z := Z) (EL := consts_1) (s := s) (Q := (own_Q_own_i1_0 Z a r kr c0 c1 c2 cs h0 n0)) (C := (({ frames := 2, cells := 2, slots := 4, locals := 29 } : Room)).cells) (N := (({ frames := 2, cells := 2, slots := 4, locals := 29 } : Room)).slots) (own_st (fun _ kt => castTop (own_ef3 m a r) kt) ?_)
  have K0 := Keep.refl h0 [a]
  have YA := own_safe_null (EL := consts_1) hZ.alike EA FV
  show own_Rch p e below _ s₁ (mkF m 0 #[.val (.ref a), .val (.ref r)] [])
  refine own_st (fun _ kt => XS.aloadN X0.here hx rfl (hb hby own_d3_0) rfl rfl  kt) ?_
  show own_Rch p e below _ s₁ (mkF m 1 #[.val (.ref a), .val (.ref r)] [(.ref a)])
  refine own_st (fun _ kt => XS.aloadN X0.here hx rfl (hb hby own_d3_1) rfl rfl  kt) ?_
  show own_Rch p e below _ s₁ (mkF m 2 #[.val (.ref a), .val (.ref r)] [(.ref r), (.ref a)])
  refine own_st (fun _ kt => XS.iconst X0.here hx rfl (hb hby own_d3_2) kt) ?_
  show own_Rch p e below _ s₁ (mkF m 3 #[.val (.ref a), .val (.ref r)] [(.int (0 : Int32)), (.ref r), (.ref a)])
  refine own_st (fun _ kt => XS.aloadN X0.here hx rfl (hb hby own_d3_3) rfl rfl  kt) ?_
  show own_Rch p e below _ s₁ (mkF m 4 #[.val (.ref a), .val (.ref r)] [(.ref r), (.int (0 : Int32)), (.ref r), (.ref a)])
  obtain ⟨cl1, Ar1, -, S1, M1, -, -⟩ := id VR
  refine own_st (X0.arraylength hx (by rw [e0]; exact Ar1.1) (State.isArrayOf_alike (hZ).alike Ar1.2.1) (g := (mkF m 4 #[.val (.ref a), .val (.ref r)] [(.ref r), (.int (0 : Int32)), (.ref r), (.ref a)])) rfl rfl (hb hby own_d3_4)) ?_
  rw [len_of S1 M1]
  show own_Rch p e below _ s₁ (mkF m 5 #[.val (.ref a), .val (.ref r)] [(.int (0 : Int32)), (.int (0 : Int32)), (.ref r), (.ref a)])
  refine own_st (fun _ kt => XS.aconstNull X0.here hx rfl (hb hby own_d3_5) kt) ?_
  show own_Rch p e below _ s₁ (mkF m 6 #[.val (.ref a), .val (.ref r)] [.null, (.int (0 : Int32)), (.int (0 : Int32)), (.ref r), (.ref a)])
  obtain ⟨_, _, ⟨T2, L2, k2, n2⟩, -, X2, hSq2, hg2, ⟨Lc2, hQ2, l2, y2, z2, CB2⟩, st2⟩ := X0.specialBackS hx (y := (⟨"java/lang/String", "<init>", "([CIILjava/lang/Void;)V"⟩ : MethodName)) rfl hown (mvT hZ (hw _ (List.mem_of_getElem? (i := 14) rfl))) (mvT hZ (hw _ (List.mem_of_getElem? (i := 15) rfl))) (mvT hZ (hw _ (List.mem_of_getElem? (i := 17) rfl))) (by decide) (backOfSH (s := s) (W := 0) (own_i5_0 l Z a0 hw [] a r kr c0 c1 c2 cs h0 n0 O0 SC hcs VR EA FV FC ga hc0 hc1 hc2) hZ (hw _ (List.mem_of_getElem? (i := 17) rfl)) (hw _ (List.mem_of_getElem? (i := 9) rfl)) (by decide) (by decide) (own_hEL hw) CR0.1) (g := (mkF m 6 #[.val (.ref a), .val (.ref r)] [.null, (.int (0 : Int32)), (.int (0 : Int32)), (.ref r), (.ref a)])) rfl (by rw [hml]; rfl) (Steps.refl _) (a := a) (argsL := [(.ref r), (.int (0 : Int32)), (.int (0 : Int32)), .null]) (rest := []) (lenOf own_pd4 rfl) rfl (by show 2 * 0 + _ ≤ _; exact Nat.le_of_eq rfl) (hb hby own_d3_6) (fun _ _ => ⟨rfl, e0, (by decide : 0 + 2 ≤ _), (by decide : 0 + 4 ≤ _)⟩)
  dsimp only [Pt.U, Pt.locs, Pt.cells, Pt.slots] at X2 l2 y2 z2 st2 hQ2 hSq2 hg2 CB2
  subst l2 y2 z2
  obtain ⟨rfl, N2q, K2, yy2, ky2, Ea2, Fv2, Fc2, Vy2⟩ := hQ2
  have N2 := Fr.app N0 N2q
  have hS2 := foldS (s := s) hS0 (by rw [e0]; exact hk0) hSq2 hg2
  have hZ2 : Z.Warmed39 T2.vm := State.Warmed39.trans (t := s.setVm s.vm) hZ hSq2.1
  have hown2 : T2.vm.findClass "java/lang/String" = some m.cls := by rw [hSq2.1.alike.findClass]; exact hown
  refine own_st (fun _ kt => st2.trans kt) ?_
  have Yq2_a := CB2.safe EA.lt YA
  have O0_x2 := O0.keep K2 (allS ga all0)
  have CR0_x2 := CR0.trans CB2
  have VR_x2 := VR.keep K2 (ninS (Ne.symm (Exa.neArv EA VR (hw _ (List.mem_of_getElem? (i := 8) rfl)))) nin0)
  have EA_x2 := EA.keep K2
  have K0_x2 := K0.trans K2 (allS (Or.inl (List.mem_of_getElem? (i := 0) rfl)) all0)
  show own_Rch p e below _ T2 (mkF m 9 #[.val (.ref a), .val (.ref r)] [])
  refine own_retVH (by rw [hh0]; exact CR0_x2.trans (CHv.at (s := s) X2 hZ2 (own_hEL hw) CR0_x2.1)) (s := s) hS2 (Nat.le_refl T2.heap.size) X2 hx Bd.notSynchronized Bd.returns (hb hby own_d3_9) (by decide) (by decide) ?_
  exact ⟨rfl, N2, K0_x2, _, _, Ea2, Fv2, Fc2, Vy2⟩
def own_Q_str (Z : State) (P : List Int32 → Prop) (h0 : Heap) (n0 : Nat) (v : Option Value) (h : Heap) (L : List Loc) : Prop := ∃ (b : Addr) (ls : List Int32), v = some (.ref b) ∧ Fr n0 L ∧ Keep h0 h [] ∧ own_Str Z h b ls ∧ P ls
theorem own_ch0 : own_ch (0 : Int32) := by constructor <;> decide
theorem own_pn3 : plainName "com/example/cicada/cicada/BeanDefinitionGetScopePinLaw" = true := by first | (simp [plainName, overriddenIn]; done) | decide +kernel
theorem own_ef2 (m : MethodId) (x0 : Int32) (x1 : Int32) : entryFrame m #[(.int x0), (.int x1)] 6 = mkF m 0 #[.val (.int x0), .val (.int x1), .unset, .unset, .unset, .unset] [] := by first | (simp [entryFrame, mkF, argsToLocals, Value.category]; done) | rfl
theorem own_d2_0 : decode method_2_code 0 = .ok (.iload_n 0, 1) := by decide +kernel
theorem own_d2_1 : decode method_2_code 1 = .ok (.iconst 3, 1) := by decide +kernel
theorem own_d2_2 : decode method_2_code 2 = .ok (.iand, 1) := by decide +kernel
theorem own_d2_3 : decode method_2_code 3 = .ok (.istore_n 2, 1) := by decide +kernel
theorem own_d2_4 : decode method_2_code 4 = .ok (.iload_n 1, 1) := by decide +kernel
theorem own_d2_5 : decode method_2_code 5 = .ok (.sipush 255, 3) := by decide +kernel
theorem own_d2_8 : decode method_2_code 8 = .ok (.iand, 1) := by decide +kernel
theorem own_d2_9 : decode method_2_code 9 = .ok (.i2c, 1) := by decide +kernel
theorem own_d2_10 : decode method_2_code 10 = .ok (.istore_n 3, 1) := by decide +kernel
theorem own_d2_11 : decode method_2_code 11 = .ok (.iload_n 1, 1) := by decide +kernel
theorem own_d2_12 : decode method_2_code 12 = .ok (.bipush 8, 2) := by decide +kernel
theorem own_d2_14 : decode method_2_code 14 = .ok (.iushr, 1) := by decide +kernel
theorem own_d2_15 : decode method_2_code 15 = .ok (.sipush 255, 3) := by decide +kernel
theorem own_d2_18 : decode method_2_code 18 = .ok (.iand, 1) := by decide +kernel
theorem own_d2_19 : decode method_2_code 19 = .ok (.i2c, 1) := by decide +kernel
theorem own_d2_20 : decode method_2_code 20 = .ok (.istore 4, 2) := by decide +kernel
theorem own_d2_22 : decode method_2_code 22 = .ok (.iload_n 1, 1) := by decide +kernel
theorem own_d2_23 : decode method_2_code 23 = .ok (.bipush 16, 2) := by decide +kernel
theorem own_d2_25 : decode method_2_code 25 = .ok (.iushr, 1) := by decide +kernel
theorem own_d2_26 : decode method_2_code 26 = .ok (.sipush 255, 3) := by decide +kernel
theorem own_d2_29 : decode method_2_code 29 = .ok (.iand, 1) := by decide +kernel
theorem own_d2_30 : decode method_2_code 30 = .ok (.i2c, 1) := by decide +kernel
theorem own_d2_31 : decode method_2_code 31 = .ok (.istore 5, 2) := by decide +kernel
theorem own_d2_33 : decode method_2_code 33 = .ok (.iload_n 2, 1) := by decide +kernel
theorem own_d2_34 : decode method_2_code 34 = .ok (.ifCond .ne 14, 3) := by decide +kernel
theorem own_d2_37 : decode method_2_code 37 = .ok (.new 7, 3) := by decide +kernel
theorem own_d2_40 : decode method_2_code 40 = .ok (.dup, 1) := by decide +kernel
theorem own_d2_41 : decode method_2_code 41 = .ok (.iconst 0, 1) := by decide +kernel
theorem own_d2_42 : decode method_2_code 42 = .ok (.newarray .char, 2) := by decide +kernel
theorem own_d2_44 : decode method_2_code 44 = .ok (.invokespecial 9, 3) := by decide +kernel
theorem own_pd5 : parseMethodDescriptor "([C)V" = some ⟨[(.array .char)], none⟩ := by decide +kernel
theorem own_d2_47 : decode method_2_code 47 = .ok (.areturn, 1) := by decide +kernel
theorem own_d2_48 : decode method_2_code 48 = .ok (.iload_n 2, 1) := by decide +kernel
theorem own_d2_49 : decode method_2_code 49 = .ok (.iconst 1, 1) := by decide +kernel
theorem own_d2_50 : decode method_2_code 50 = .ok (.if_icmp .ne 18, 3) := by decide +kernel
theorem own_d2_53 : decode method_2_code 53 = .ok (.new 7, 3) := by decide +kernel
theorem own_d2_56 : decode method_2_code 56 = .ok (.dup, 1) := by decide +kernel
theorem own_d2_57 : decode method_2_code 57 = .ok (.iconst 1, 1) := by decide +kernel
theorem own_d2_58 : decode method_2_code 58 = .ok (.newarray .char, 2) := by decide +kernel
theorem own_d2_60 : decode method_2_code 60 = .ok (.dup, 1) := by decide +kernel
theorem own_d2_61 : decode method_2_code 61 = .ok (.iconst 0, 1) := by decide +kernel
theorem own_d2_62 : decode method_2_code 62 = .ok (.iload_n 3, 1) := by decide +kernel
theorem own_d2_63 : decode method_2_code 63 = .ok (.castore, 1) := by decide +kernel
theorem own_d2_64 : decode method_2_code 64 = .ok (.invokespecial 9, 3) := by decide +kernel
theorem own_d2_67 : decode method_2_code 67 = .ok (.areturn, 1) := by decide +kernel
theorem own_d2_68 : decode method_2_code 68 = .ok (.iload_n 2, 1) := by decide +kernel
theorem own_d2_69 : decode method_2_code 69 = .ok (.iconst 2, 1) := by decide +kernel
theorem own_d2_70 : decode method_2_code 70 = .ok (.if_icmp .ne 23, 3) := by decide +kernel
theorem own_d2_73 : decode method_2_code 73 = .ok (.new 7, 3) := by decide +kernel
theorem own_d2_76 : decode method_2_code 76 = .ok (.dup, 1) := by decide +kernel
theorem own_d2_77 : decode method_2_code 77 = .ok (.iconst 2, 1) := by decide +kernel
theorem own_d2_78 : decode method_2_code 78 = .ok (.newarray .char, 2) := by decide +kernel
theorem own_d2_80 : decode method_2_code 80 = .ok (.dup, 1) := by decide +kernel
theorem own_d2_81 : decode method_2_code 81 = .ok (.iconst 0, 1) := by decide +kernel
theorem own_d2_82 : decode method_2_code 82 = .ok (.iload_n 3, 1) := by decide +kernel
theorem own_d2_83 : decode method_2_code 83 = .ok (.castore, 1) := by decide +kernel
theorem own_d2_84 : decode method_2_code 84 = .ok (.dup, 1) := by decide +kernel
theorem own_d2_85 : decode method_2_code 85 = .ok (.iconst 1, 1) := by decide +kernel
theorem own_d2_86 : decode method_2_code 86 = .ok (.iload 4, 2) := by decide +kernel
theorem own_d2_88 : decode method_2_code 88 = .ok (.castore, 1) := by decide +kernel
theorem own_d2_89 : decode method_2_code 89 = .ok (.invokespecial 9, 3) := by decide +kernel
theorem own_d2_92 : decode method_2_code 92 = .ok (.areturn, 1) := by decide +kernel
theorem own_d2_93 : decode method_2_code 93 = .ok (.new 7, 3) := by decide +kernel
theorem own_d2_96 : decode method_2_code 96 = .ok (.dup, 1) := by decide +kernel
theorem own_d2_97 : decode method_2_code 97 = .ok (.iconst 3, 1) := by decide +kernel
theorem own_d2_98 : decode method_2_code 98 = .ok (.newarray .char, 2) := by decide +kernel
theorem own_d2_100 : decode method_2_code 100 = .ok (.dup, 1) := by decide +kernel
theorem own_d2_101 : decode method_2_code 101 = .ok (.iconst 0, 1) := by decide +kernel
theorem own_d2_102 : decode method_2_code 102 = .ok (.iload_n 3, 1) := by decide +kernel
theorem own_d2_103 : decode method_2_code 103 = .ok (.castore, 1) := by decide +kernel
theorem own_d2_104 : decode method_2_code 104 = .ok (.dup, 1) := by decide +kernel
theorem own_d2_105 : decode method_2_code 105 = .ok (.iconst 1, 1) := by decide +kernel
theorem own_d2_106 : decode method_2_code 106 = .ok (.iload 4, 2) := by decide +kernel
theorem own_d2_108 : decode method_2_code 108 = .ok (.castore, 1) := by decide +kernel
theorem own_d2_109 : decode method_2_code 109 = .ok (.dup, 1) := by decide +kernel
theorem own_d2_110 : decode method_2_code 110 = .ok (.iconst 2, 1) := by decide +kernel
theorem own_d2_111 : decode method_2_code 111 = .ok (.iload 5, 2) := by decide +kernel
theorem own_d2_113 : decode method_2_code 113 = .ok (.castore, 1) := by decide +kernel
theorem own_d2_114 : decode method_2_code 114 = .ok (.invokespecial 9, 3) := by decide +kernel
theorem own_d2_117 : decode method_2_code 117 = .ok (.areturn, 1) := by decide +kernel
set_option maxRecDepth 65536 in
set_option maxHeartbeats 40000000 in
theorem own_draw (l : Launch) (Z : State) (a0 : Array Value) (hw : ∀ d ∈ tables_1, d.before a0 Z = true) (ws : List Jvm.Cond) (p0 : Int32) (p1 : Int32) (cs : Int32) (h0 : Heap) (n0 : Nat) (O0 : Old Z n0 h0) (SC : Sta Z Z.heap "java/lang/String" "COMPACT_STRINGS" "Z" (.int cs)) (hcs : ¬ cs = 0) :
    MetFree l (⟨"com/example/cicada/cicada/BeanDefinitionGetScopePinLaw", "draw", "(II)Ljava/lang/String;"⟩ : MethodName) (head1 (Jvm.Cond.code (⟨"com/example/cicada/cicada/BeanDefinitionGetScopePinLaw", "draw", "(II)Ljava/lang/String;"⟩ : MethodName) method_2_code 6 (some (.object "java/lang/String")) :: ws) ({ frames := 4, cells := 4, slots := 10, locals := 66 } : Room)) (fun args_ U => args_ = #[(.int p0), (.int p1)] ∧ Z.Warmed39 U.vm ∧ U.heap = h0 ∧ CHv Z consts_1 U.vm h0) (fun _ _ _ _ _ => True) (fun _ U o U' => ∃ v L, o = .returned v ∧ (own_Q_str Z (fun ls => ls.length ≤ 3) h0 n0) v U'.heap L ∧ CHr Z consts_1 U.vm U.heap U'.vm U'.heap ∧ ReturnedEndW U o U' L ({ frames := 4, cells := 4, slots := 10, locals := 66 } : Room).cells ({ frames := 4, cells := 4, slots := 10, locals := 66 } : Room).slots) := by
  refine MetFree.of_bodySF (plainFor_of_name own_pn3) hisR ?_
  intro p e s m args below meth c s₁ Bd hml0 hP hK
  obtain ⟨rfl, hZ, hh, hCH⟩ := hP
  have hx := Bd.exec
  have hby := Bd.bytes
  have hml : c.maxLocals = 6 := hml0
  have hown : s.vm.findClass "com/example/cicada/cicada/BeanDefinitionGetScopePinLaw" = some m.cls := findClass_of_methodNamed Bd.named
  have hnm := (name_of_methodNamed Bd.named Bd.method).1
  have X0 : Stand p l e ({ frames := 4, cells := 4, slots := 10, locals := 66 } : Room) (s.setVm s.vm) m #[(.int p0), (.int p1)] below meth c s₁ [] 0 0 := Stand.of_body Bd
  have e0 : s₁.heap = h0 := by rw [← hh, Bd.state]; rfl
  have N0 := Fr.nil n0
  have hh0 : s.heap = h0 := hh
  have CR0 : CHr Z consts_1 s.vm h0 s.vm h0 := CHr.refl hCH
  have hS0 : s.Since s.vm 0 := own_since s
  have hk0 : 0 ≤ h0.size := Nat.zero_le _
  refine own_closeH (Z := Z) (EL := consts_1) (s := s) (Q := (own_Q_str Z (fun ls => ls.length ≤ 3) h0 n0)) (C := (({ frames := 4, cells := 4, slots := 10, locals := 66 } : Room)).cells) (N := (({ frames := 4, cells := 4, slots := 10, locals := 66 } : Room)).slots) (own_st (fun _ kt => castTop (own_ef2 m p0 p1) kt) ?_)
  have K0 := Keep.refl h0 []
  show own_Rch p e below _ s₁ (mkF m 0 #[.val (.int p0), .val (.int p1), .unset, .unset, .unset, .unset] [])
  refine own_st (fun _ kt => XS.iloadN X0.here hx rfl (hb hby own_d2_0) rfl  kt) ?_
  show own_Rch p e below _ s₁ (mkF m 1 #[.val (.int p0), .val (.int p1), .unset, .unset, .unset, .unset] [(.int p0)])
  refine own_st (fun _ kt => XS.iconst X0.here hx rfl (hb hby own_d2_1) kt) ?_
  show own_Rch p e below _ s₁ (mkF m 2 #[.val (.int p0), .val (.int p1), .unset, .unset, .unset, .unset] [(.int (3 : Int32)), (.int p0)])
  refine own_st (fun _ kt => XS.iand X0.here hx rfl (hb hby own_d2_2) rfl kt) ?_
  show own_Rch p e below _ s₁ (mkF m 3 #[.val (.int p0), .val (.int p1), .unset, .unset, .unset, .unset] [(.int (p0 &&& (3 : Int32)))])
  refine own_st (fun _ kt => XS.istoreN X0.here hx rfl (hb hby own_d2_3) rfl (l' := #[.val (.int p0), .val (.int p1), .val (.int (p0 &&& (3 : Int32))), .unset, .unset, .unset]) rfl kt) ?_
  show own_Rch p e below _ s₁ (mkF m 4 #[.val (.int p0), .val (.int p1), .val (.int (p0 &&& (3 : Int32))), .unset, .unset, .unset] [])
  refine own_st (fun _ kt => XS.iloadN X0.here hx rfl (hb hby own_d2_4) rfl  kt) ?_
  show own_Rch p e below _ s₁ (mkF m 5 #[.val (.int p0), .val (.int p1), .val (.int (p0 &&& (3 : Int32))), .unset, .unset, .unset] [(.int p1)])
  refine own_st (fun _ kt => XS.sipush X0.here hx rfl (hb hby own_d2_5) kt) ?_
  show own_Rch p e below _ s₁ (mkF m 8 #[.val (.int p0), .val (.int p1), .val (.int (p0 &&& (3 : Int32))), .unset, .unset, .unset] [(.int (255 : Int32)), (.int p1)])
  refine own_st (fun _ kt => XS.iand X0.here hx rfl (hb hby own_d2_8) rfl kt) ?_
  show own_Rch p e below _ s₁ (mkF m 9 #[.val (.int p0), .val (.int p1), .val (.int (p0 &&& (3 : Int32))), .unset, .unset, .unset] [(.int (p1 &&& (255 : Int32)))])
  refine own_st (fun _ kt => XS.i2c X0.here hx rfl (hb hby own_d2_9) rfl kt) ?_
  show own_Rch p e below _ s₁ (mkF m 10 #[.val (.int p0), .val (.int p1), .val (.int (p0 &&& (3 : Int32))), .unset, .unset, .unset] [(.int ((p1 &&& (255 : Int32)).toUInt32.toUInt16.toUInt32.toInt32))])
  refine own_st (fun _ kt => XS.istoreN X0.here hx rfl (hb hby own_d2_10) rfl (l' := #[.val (.int p0), .val (.int p1), .val (.int (p0 &&& (3 : Int32))), .val (.int ((p1 &&& (255 : Int32)).toUInt32.toUInt16.toUInt32.toInt32)), .unset, .unset]) rfl kt) ?_
  show own_Rch p e below _ s₁ (mkF m 11 #[.val (.int p0), .val (.int p1), .val (.int (p0 &&& (3 : Int32))), .val (.int ((p1 &&& (255 : Int32)).toUInt32.toUInt16.toUInt32.toInt32)), .unset, .unset] [])
  refine own_st (fun _ kt => XS.iloadN X0.here hx rfl (hb hby own_d2_11) rfl  kt) ?_
  show own_Rch p e below _ s₁ (mkF m 12 #[.val (.int p0), .val (.int p1), .val (.int (p0 &&& (3 : Int32))), .val (.int ((p1 &&& (255 : Int32)).toUInt32.toUInt16.toUInt32.toInt32)), .unset, .unset] [(.int p1)])
  refine own_st (fun _ kt => XS.bipush X0.here hx rfl (hb hby own_d2_12) kt) ?_
  show own_Rch p e below _ s₁ (mkF m 14 #[.val (.int p0), .val (.int p1), .val (.int (p0 &&& (3 : Int32))), .val (.int ((p1 &&& (255 : Int32)).toUInt32.toUInt16.toUInt32.toInt32)), .unset, .unset] [(.int (8 : Int32)), (.int p1)])
  refine own_st (fun _ kt => XS.iushr X0.here hx rfl (hb hby own_d2_14) rfl kt) ?_
  show own_Rch p e below _ s₁ (mkF m 15 #[.val (.int p0), .val (.int p1), .val (.int (p0 &&& (3 : Int32))), .val (.int ((p1 &&& (255 : Int32)).toUInt32.toUInt16.toUInt32.toInt32)), .unset, .unset] [(.int ((p1.toUInt32 >>> ((8 : Int32) &&& 31).toUInt32).toInt32))])
  refine own_st (fun _ kt => XS.sipush X0.here hx rfl (hb hby own_d2_15) kt) ?_
  show own_Rch p e below _ s₁ (mkF m 18 #[.val (.int p0), .val (.int p1), .val (.int (p0 &&& (3 : Int32))), .val (.int ((p1 &&& (255 : Int32)).toUInt32.toUInt16.toUInt32.toInt32)), .unset, .unset] [(.int (255 : Int32)), (.int ((p1.toUInt32 >>> ((8 : Int32) &&& 31).toUInt32).toInt32))])
  refine own_st (fun _ kt => XS.iand X0.here hx rfl (hb hby own_d2_18) rfl kt) ?_
  show own_Rch p e below _ s₁ (mkF m 19 #[.val (.int p0), .val (.int p1), .val (.int (p0 &&& (3 : Int32))), .val (.int ((p1 &&& (255 : Int32)).toUInt32.toUInt16.toUInt32.toInt32)), .unset, .unset] [(.int (((p1.toUInt32 >>> ((8 : Int32) &&& 31).toUInt32).toInt32) &&& (255 : Int32)))])
  refine own_st (fun _ kt => XS.i2c X0.here hx rfl (hb hby own_d2_19) rfl kt) ?_
  show own_Rch p e below _ s₁ (mkF m 20 #[.val (.int p0), .val (.int p1), .val (.int (p0 &&& (3 : Int32))), .val (.int ((p1 &&& (255 : Int32)).toUInt32.toUInt16.toUInt32.toInt32)), .unset, .unset] [(.int ((((p1.toUInt32 >>> ((8 : Int32) &&& 31).toUInt32).toInt32) &&& (255 : Int32)).toUInt32.toUInt16.toUInt32.toInt32))])
  refine own_st (fun _ kt => XS.istore X0.here hx rfl (hb hby own_d2_20) rfl (l' := #[.val (.int p0), .val (.int p1), .val (.int (p0 &&& (3 : Int32))), .val (.int ((p1 &&& (255 : Int32)).toUInt32.toUInt16.toUInt32.toInt32)), .val (.int ((((p1.toUInt32 >>> ((8 : Int32) &&& 31).toUInt32).toInt32) &&& (255 : Int32)).toUInt32.toUInt16.toUInt32.toInt32)), .unset]) rfl kt) ?_
  show own_Rch p e below _ s₁ (mkF m 22 #[.val (.int p0), .val (.int p1), .val (.int (p0 &&& (3 : Int32))), .val (.int ((p1 &&& (255 : Int32)).toUInt32.toUInt16.toUInt32.toInt32)), .val (.int ((((p1.toUInt32 >>> ((8 : Int32) &&& 31).toUInt32).toInt32) &&& (255 : Int32)).toUInt32.toUInt16.toUInt32.toInt32)), .unset] [])
  refine own_st (fun _ kt => XS.iloadN X0.here hx rfl (hb hby own_d2_22) rfl  kt) ?_
  show own_Rch p e below _ s₁ (mkF m 23 #[.val (.int p0), .val (.int p1), .val (.int (p0 &&& (3 : Int32))), .val (.int ((p1 &&& (255 : Int32)).toUInt32.toUInt16.toUInt32.toInt32)), .val (.int ((((p1.toUInt32 >>> ((8 : Int32) &&& 31).toUInt32).toInt32) &&& (255 : Int32)).toUInt32.toUInt16.toUInt32.toInt32)), .unset] [(.int p1)])
  refine own_st (fun _ kt => XS.bipush X0.here hx rfl (hb hby own_d2_23) kt) ?_
  show own_Rch p e below _ s₁ (mkF m 25 #[.val (.int p0), .val (.int p1), .val (.int (p0 &&& (3 : Int32))), .val (.int ((p1 &&& (255 : Int32)).toUInt32.toUInt16.toUInt32.toInt32)), .val (.int ((((p1.toUInt32 >>> ((8 : Int32) &&& 31).toUInt32).toInt32) &&& (255 : Int32)).toUInt32.toUInt16.toUInt32.toInt32)), .unset] [(.int (16 : Int32)), (.int p1)])
  refine own_st (fun _ kt => XS.iushr X0.here hx rfl (hb hby own_d2_25) rfl kt) ?_
  show own_Rch p e below _ s₁ (mkF m 26 #[.val (.int p0), .val (.int p1), .val (.int (p0 &&& (3 : Int32))), .val (.int ((p1 &&& (255 : Int32)).toUInt32.toUInt16.toUInt32.toInt32)), .val (.int ((((p1.toUInt32 >>> ((8 : Int32) &&& 31).toUInt32).toInt32) &&& (255 : Int32)).toUInt32.toUInt16.toUInt32.toInt32)), .unset] [(.int ((p1.toUInt32 >>> ((16 : Int32) &&& 31).toUInt32).toInt32))])
  refine own_st (fun _ kt => XS.sipush X0.here hx rfl (hb hby own_d2_26) kt) ?_
  show own_Rch p e below _ s₁ (mkF m 29 #[.val (.int p0), .val (.int p1), .val (.int (p0 &&& (3 : Int32))), .val (.int ((p1 &&& (255 : Int32)).toUInt32.toUInt16.toUInt32.toInt32)), .val (.int ((((p1.toUInt32 >>> ((8 : Int32) &&& 31).toUInt32).toInt32) &&& (255 : Int32)).toUInt32.toUInt16.toUInt32.toInt32)), .unset] [(.int (255 : Int32)), (.int ((p1.toUInt32 >>> ((16 : Int32) &&& 31).toUInt32).toInt32))])
  refine own_st (fun _ kt => XS.iand X0.here hx rfl (hb hby own_d2_29) rfl kt) ?_
  show own_Rch p e below _ s₁ (mkF m 30 #[.val (.int p0), .val (.int p1), .val (.int (p0 &&& (3 : Int32))), .val (.int ((p1 &&& (255 : Int32)).toUInt32.toUInt16.toUInt32.toInt32)), .val (.int ((((p1.toUInt32 >>> ((8 : Int32) &&& 31).toUInt32).toInt32) &&& (255 : Int32)).toUInt32.toUInt16.toUInt32.toInt32)), .unset] [(.int (((p1.toUInt32 >>> ((16 : Int32) &&& 31).toUInt32).toInt32) &&& (255 : Int32)))])
  refine own_st (fun _ kt => XS.i2c X0.here hx rfl (hb hby own_d2_30) rfl kt) ?_
  show own_Rch p e below _ s₁ (mkF m 31 #[.val (.int p0), .val (.int p1), .val (.int (p0 &&& (3 : Int32))), .val (.int ((p1 &&& (255 : Int32)).toUInt32.toUInt16.toUInt32.toInt32)), .val (.int ((((p1.toUInt32 >>> ((8 : Int32) &&& 31).toUInt32).toInt32) &&& (255 : Int32)).toUInt32.toUInt16.toUInt32.toInt32)), .unset] [(.int ((((p1.toUInt32 >>> ((16 : Int32) &&& 31).toUInt32).toInt32) &&& (255 : Int32)).toUInt32.toUInt16.toUInt32.toInt32))])
  refine own_st (fun _ kt => XS.istore X0.here hx rfl (hb hby own_d2_31) rfl (l' := #[.val (.int p0), .val (.int p1), .val (.int (p0 &&& (3 : Int32))), .val (.int ((p1 &&& (255 : Int32)).toUInt32.toUInt16.toUInt32.toInt32)), .val (.int ((((p1.toUInt32 >>> ((8 : Int32) &&& 31).toUInt32).toInt32) &&& (255 : Int32)).toUInt32.toUInt16.toUInt32.toInt32)), .val (.int ((((p1.toUInt32 >>> ((16 : Int32) &&& 31).toUInt32).toInt32) &&& (255 : Int32)).toUInt32.toUInt16.toUInt32.toInt32))]) rfl kt) ?_
  show own_Rch p e below _ s₁ (mkF m 33 #[.val (.int p0), .val (.int p1), .val (.int (p0 &&& (3 : Int32))), .val (.int ((p1 &&& (255 : Int32)).toUInt32.toUInt16.toUInt32.toInt32)), .val (.int ((((p1.toUInt32 >>> ((8 : Int32) &&& 31).toUInt32).toInt32) &&& (255 : Int32)).toUInt32.toUInt16.toUInt32.toInt32)), .val (.int ((((p1.toUInt32 >>> ((16 : Int32) &&& 31).toUInt32).toInt32) &&& (255 : Int32)).toUInt32.toUInt16.toUInt32.toInt32))] [])
  rcases own_and3 p0 with hm | hm | hm | hm
  · rw [hm]
    show own_Rch p e below _ s₁ (mkF m 33 #[.val (.int p0), .val (.int p1), .val (.int (0 : Int32)), .val (.int ((p1 &&& (255 : Int32)).toUInt32.toUInt16.toUInt32.toInt32)), .val (.int ((((p1.toUInt32 >>> ((8 : Int32) &&& 31).toUInt32).toInt32) &&& (255 : Int32)).toUInt32.toUInt16.toUInt32.toInt32)), .val (.int ((((p1.toUInt32 >>> ((16 : Int32) &&& 31).toUInt32).toInt32) &&& (255 : Int32)).toUInt32.toUInt16.toUInt32.toInt32))] [])
    refine own_st (fun _ kt => XS.iloadN X0.here hx rfl (hb hby own_d2_33) rfl  kt) ?_
    show own_Rch p e below _ s₁ (mkF m 34 #[.val (.int p0), .val (.int p1), .val (.int (0 : Int32)), .val (.int ((p1 &&& (255 : Int32)).toUInt32.toUInt16.toUInt32.toInt32)), .val (.int ((((p1.toUInt32 >>> ((8 : Int32) &&& 31).toUInt32).toInt32) &&& (255 : Int32)).toUInt32.toUInt16.toUInt32.toInt32)), .val (.int ((((p1.toUInt32 >>> ((16 : Int32) &&& 31).toUInt32).toInt32) &&& (255 : Int32)).toUInt32.toUInt16.toUInt32.toInt32))] [(.int (0 : Int32))])
    refine own_st (fun _ kt => XS.ifNo X0.here hx rfl (hb hby own_d2_34) rfl ((if0 _ _).trans (teq (rfl : (0 : Int32) = (0 : Int32))).2) kt) ?_
    show own_Rch p e below _ s₁ (mkF m 37 #[.val (.int p0), .val (.int p1), .val (.int (0 : Int32)), .val (.int ((p1 &&& (255 : Int32)).toUInt32.toUInt16.toUInt32.toInt32)), .val (.int ((((p1.toUInt32 >>> ((8 : Int32) &&& 31).toUInt32).toInt32) &&& (255 : Int32)).toUInt32.toUInt16.toUInt32.toInt32)), .val (.int ((((p1.toUInt32 >>> ((16 : Int32) &&& 31).toUInt32).toInt32) &&& (255 : Int32)).toUInt32.toUInt16.toUInt32.toInt32))] [])
    obtain ⟨T1, h1, X1, e1, E1, A1, D1, U1, st1⟩ := newO X0 hx hZ hown (hw _ (List.mem_of_getElem? (i := 7) rfl)) (hw _ (List.mem_of_getElem? (i := 8) rfl)) (hw _ (List.mem_of_getElem? (i := 9) rfl)) e0 (g := (mkF m 37 #[.val (.int p0), .val (.int p1), .val (.int (0 : Int32)), .val (.int ((p1 &&& (255 : Int32)).toUInt32.toUInt16.toUInt32.toInt32)), .val (.int ((((p1.toUInt32 >>> ((8 : Int32) &&& 31).toUInt32).toInt32) &&& (255 : Int32)).toUInt32.toUInt16.toUInt32.toInt32)), .val (.int ((((p1.toUInt32 >>> ((16 : Int32) &&& 31).toUInt32).toInt32) &&& (255 : Int32)).toUInt32.toUInt16.toUInt32.toInt32))] [])) rfl (hb hby own_d2_37) (by decide) (by decide)
    obtain ⟨b1, g1⟩ : ∃ z, z = h0.size := ⟨_, rfl⟩
    rw [← g1] at A1 D1 U1 st1
    have ge1 : n0 ≤ b1 := by rw [g1]; exact own_old_le O0
    have sz1 : h0.size ≤ b1 := by rw [g1]; exact K0.1
    have hkk1 := Nat.le_trans hk0 E1.1
    have O0_x1 := O0.ext E1
    have CR0_x1 := CR0.trans (CHr.ext E1 CR0.1)
    have K0_x1 := K0.ext E1
    have Y1 := Safe.ext E1 CR0.1 (Safe.new (Nat.le_of_eq g1.symm))
    refine own_st st1 ?_
    have F1_coder : Fld Z h1 b1 "java/lang/String" "coder" "B" (.int (0 : Int32)) := D1 (Or.inr (hw _ (List.mem_of_getElem? (i := 34) rfl))) (ty := .byte) (by decide)
    have F1_value : Fld Z h1 b1 "java/lang/String" "value" "[B" .null := D1 (Or.inr (hw _ (List.mem_of_getElem? (i := 36) rfl))) (ty := (.array .byte)) (by decide)
    show own_Rch p e below _ T1 (mkF m 40 #[.val (.int p0), .val (.int p1), .val (.int (0 : Int32)), .val (.int ((p1 &&& (255 : Int32)).toUInt32.toUInt16.toUInt32.toInt32)), .val (.int ((((p1.toUInt32 >>> ((8 : Int32) &&& 31).toUInt32).toInt32) &&& (255 : Int32)).toUInt32.toUInt16.toUInt32.toInt32)), .val (.int ((((p1.toUInt32 >>> ((16 : Int32) &&& 31).toUInt32).toInt32) &&& (255 : Int32)).toUInt32.toUInt16.toUInt32.toInt32))] [(.ref b1)])
    refine own_st (fun _ kt => XS.dup X1.here hx rfl (hb hby own_d2_40) rfl rfl kt) ?_
    show own_Rch p e below _ T1 (mkF m 41 #[.val (.int p0), .val (.int p1), .val (.int (0 : Int32)), .val (.int ((p1 &&& (255 : Int32)).toUInt32.toUInt16.toUInt32.toInt32)), .val (.int ((((p1.toUInt32 >>> ((8 : Int32) &&& 31).toUInt32).toInt32) &&& (255 : Int32)).toUInt32.toUInt16.toUInt32.toInt32)), .val (.int ((((p1.toUInt32 >>> ((16 : Int32) &&& 31).toUInt32).toInt32) &&& (255 : Int32)).toUInt32.toUInt16.toUInt32.toInt32))] [(.ref b1), (.ref b1)])
    refine own_st (fun _ kt => XS.iconst X1.here hx rfl (hb hby own_d2_41) kt) ?_
    show own_Rch p e below _ T1 (mkF m 42 #[.val (.int p0), .val (.int p1), .val (.int (0 : Int32)), .val (.int ((p1 &&& (255 : Int32)).toUInt32.toUInt16.toUInt32.toInt32)), .val (.int ((((p1.toUInt32 >>> ((8 : Int32) &&& 31).toUInt32).toInt32) &&& (255 : Int32)).toUInt32.toUInt16.toUInt32.toInt32)), .val (.int ((((p1.toUInt32 >>> ((16 : Int32) &&& 31).toUInt32).toInt32) &&& (255 : Int32)).toUInt32.toUInt16.toUInt32.toInt32))] [(.int (0 : Int32)), (.ref b1), (.ref b1)])
    obtain ⟨T2, h2, k2, X2, e2, E2, A2, st2⟩ := newP X1 hx hZ (hw _ (List.mem_of_getElem? (i := 10) rfl)) e1 (g := (mkF m 42 #[.val (.int p0), .val (.int p1), .val (.int (0 : Int32)), .val (.int ((p1 &&& (255 : Int32)).toUInt32.toUInt16.toUInt32.toInt32)), .val (.int ((((p1.toUInt32 >>> ((8 : Int32) &&& 31).toUInt32).toInt32) &&& (255 : Int32)).toUInt32.toUInt16.toUInt32.toInt32)), .val (.int ((((p1.toUInt32 >>> ((16 : Int32) &&& 31).toUInt32).toInt32) &&& (255 : Int32)).toUInt32.toUInt16.toUInt32.toInt32))] [(.int (0 : Int32)), (.ref b1), (.ref b1)])) rfl (hb hby own_d2_42) rfl (by decide) (cap := 0) (by decide) (by decide) (by decide) (by decide)
    obtain ⟨b2, g2⟩ : ∃ z, z = h1.size := ⟨_, rfl⟩
    rw [← g2] at A2 st2
    have ge2 : n0 ≤ b2 := by rw [g2]; exact own_old_le O0_x1
    have ne2_b1 : b1 ≠ b2 := by rw [g2]; exact Nat.ne_of_lt F1_coder.lt
    have sz2 : h0.size ≤ b2 := by rw [g2]; exact K0_x1.1
    have hkk2 := Nat.le_trans hkk1 E2.1
    have O0_x2 := O0_x1.ext E2
    have CR0_x2 := CR0_x1.trans (CHr.ext E2 CR0_x1.1)
    have K0_x2 := K0_x1.ext E2
    have Y1_x2 := Safe.ext E2 CR0_x1.1 Y1
    have F1_coder_x2 := F1_coder.ext E2
    have F1_value_x2 := F1_value.ext E2
    have A1_x2 := A1.ext E2
    have Y2 := Safe.ext E2 CR0_x1.1 (Safe.new (Nat.le_of_eq g2.symm))
    refine own_st st2 ?_
    have V2 := Arv.new A2 (by decide)
    have V2p : Arv Z h2 b2 k2 .char (0 : Int32) [] (.int (0 : Int32)) := V2.pad (pad_rep [] (.int (0 : Int32)) 0)
    show own_Rch p e below _ T2 (mkF m 44 #[.val (.int p0), .val (.int p1), .val (.int (0 : Int32)), .val (.int ((p1 &&& (255 : Int32)).toUInt32.toUInt16.toUInt32.toInt32)), .val (.int ((((p1.toUInt32 >>> ((8 : Int32) &&& 31).toUInt32).toInt32) &&& (255 : Int32)).toUInt32.toUInt16.toUInt32.toInt32)), .val (.int ((((p1.toUInt32 >>> ((16 : Int32) &&& 31).toUInt32).toInt32) &&& (255 : Int32)).toUInt32.toUInt16.toUInt32.toInt32))] [(.ref b2), (.ref b1), (.ref b1)])
    obtain ⟨_, _, ⟨T3, L3, k3, n3⟩, -, X3, hSq3, hg3, ⟨Lc3, hQ3, l3, y3, z3, CB3⟩, st3⟩ := X2.specialBackS hx (y := (⟨"java/lang/String", "<init>", "([C)V"⟩ : MethodName)) rfl hown (mvT hZ (hw _ (List.mem_of_getElem? (i := 11) rfl))) (mvT hZ (hw _ (List.mem_of_getElem? (i := 12) rfl))) (mvT hZ (hw _ (List.mem_of_getElem? (i := 13) rfl))) (by decide) (backOfSH (s := s) (W := 1) (own_i1_0 l Z a0 hw [] b1 b2 k2 (0 : Int32) (0 : Int32) (0 : Int32) cs h2 n0 O0_x2 SC hcs V2p A1_x2 F1_value_x2 F1_coder_x2 ge1 own_ch0 own_ch0 own_ch0) hZ (hw _ (List.mem_of_getElem? (i := 13) rfl)) (hw _ (List.mem_of_getElem? (i := 9) rfl)) (by decide) (by decide) (own_hEL hw) CR0_x2.1) (g := (mkF m 44 #[.val (.int p0), .val (.int p1), .val (.int (0 : Int32)), .val (.int ((p1 &&& (255 : Int32)).toUInt32.toUInt16.toUInt32.toInt32)), .val (.int ((((p1.toUInt32 >>> ((8 : Int32) &&& 31).toUInt32).toInt32) &&& (255 : Int32)).toUInt32.toUInt16.toUInt32.toInt32)), .val (.int ((((p1.toUInt32 >>> ((16 : Int32) &&& 31).toUInt32).toInt32) &&& (255 : Int32)).toUInt32.toUInt16.toUInt32.toInt32))] [(.ref b2), (.ref b1), (.ref b1)])) rfl (by rw [hml]; rfl) (Steps.refl _) (a := b1) (argsL := [(.ref b2)]) (rest := [(.ref b1)]) (lenOf own_pd5 rfl) rfl (by show 2 * 0 + _ ≤ _; exact Nat.le_of_eq rfl) (hb hby own_d2_44) (fun _ _ => ⟨rfl, e2, (by decide : 2 + 2 ≤ _), (by decide : 4 + 4 ≤ _)⟩)
    dsimp only [Pt.U, Pt.locs, Pt.cells, Pt.slots] at X3 l3 y3 z3 st3 hQ3 hSq3 hg3 CB3
    subst l3 y3 z3
    obtain ⟨rfl, N3q, K3, yy3, ky3, Ea3, Fv3, Fc3, Vy3⟩ := hQ3
    have N3 := Fr.app N0 N3q
    have hS3 := foldS (s := s) hS0 (by rw [e2]; exact hkk2) hSq3 hg3
    have hZ3 : Z.Warmed39 T3.vm := State.Warmed39.trans (t := s.setVm s.vm) hZ hSq3.1
    have hown3 : T3.vm.findClass "com/example/cicada/cicada/BeanDefinitionGetScopePinLaw" = some m.cls := by rw [hSq3.1.alike.findClass]; exact hown
    refine own_st (fun _ kt => st3.trans kt) ?_
    have Yq3_b1 := CB3.safe F1_coder_x2.lt Y1_x2; have Yq3_b2 := CB3.safe V2p.lt Y2
    have O0_x3 := O0_x2.keep K3 (allS ge1 all0)
    have CR0_x3 := CR0_x2.trans CB3
    have K0_x3 := K0_x2.trans K3 (allS (Or.inr sz1) all0)
    have A1_x3 := A1_x2.keep K3
    have V2p_x3 := V2p.keep K3 (ninS (Ne.symm ne2_b1) nin0)
    show own_Rch p e below _ T3 (mkF m 47 #[.val (.int p0), .val (.int p1), .val (.int (0 : Int32)), .val (.int ((p1 &&& (255 : Int32)).toUInt32.toUInt16.toUInt32.toInt32)), .val (.int ((((p1.toUInt32 >>> ((8 : Int32) &&& 31).toUInt32).toInt32) &&& (255 : Int32)).toUInt32.toUInt16.toUInt32.toInt32)), .val (.int ((((p1.toUInt32 >>> ((16 : Int32) &&& 31).toUInt32).toInt32) &&& (255 : Int32)).toUInt32.toUInt16.toUInt32.toInt32))] [(.ref b1)])
    refine own_retAH rfl rfl (by rw [hh0]; exact CR0_x3.trans (CHv.at (s := s) X3 hZ3 (own_hEL hw) CR0_x3.1)) (s := s) hS3 (Nat.le_refl T3.heap.size) X3 hx Bd.notSynchronized Bd.returns (hb hby own_d2_47) (by decide) (by decide) ?_
    exact ⟨_, [], rfl, N3, K0_x3, ⟨_, _, Ea3, Fv3, Fc3, Vy3⟩, by simp⟩
  · rw [hm]
    show own_Rch p e below _ s₁ (mkF m 33 #[.val (.int p0), .val (.int p1), .val (.int (1 : Int32)), .val (.int ((p1 &&& (255 : Int32)).toUInt32.toUInt16.toUInt32.toInt32)), .val (.int ((((p1.toUInt32 >>> ((8 : Int32) &&& 31).toUInt32).toInt32) &&& (255 : Int32)).toUInt32.toUInt16.toUInt32.toInt32)), .val (.int ((((p1.toUInt32 >>> ((16 : Int32) &&& 31).toUInt32).toInt32) &&& (255 : Int32)).toUInt32.toUInt16.toUInt32.toInt32))] [])
    refine own_st (fun _ kt => XS.iloadN X0.here hx rfl (hb hby own_d2_33) rfl  kt) ?_
    show own_Rch p e below _ s₁ (mkF m 34 #[.val (.int p0), .val (.int p1), .val (.int (1 : Int32)), .val (.int ((p1 &&& (255 : Int32)).toUInt32.toUInt16.toUInt32.toInt32)), .val (.int ((((p1.toUInt32 >>> ((8 : Int32) &&& 31).toUInt32).toInt32) &&& (255 : Int32)).toUInt32.toUInt16.toUInt32.toInt32)), .val (.int ((((p1.toUInt32 >>> ((16 : Int32) &&& 31).toUInt32).toInt32) &&& (255 : Int32)).toUInt32.toUInt16.toUInt32.toInt32))] [(.int (1 : Int32))])
    refine own_st (fun _ kt => XS.ifYes X0.here hx rfl (pc0 := 34) (pc' := 48) rfl (hb hby own_d2_34) rfl ((if0 _ _).trans (feq ((by decide) : ¬ ((1 : Int32) = (0 : Int32)))).2) (by decide) (by decide) kt) ?_
    show own_Rch p e below _ s₁ (mkF m 48 #[.val (.int p0), .val (.int p1), .val (.int (1 : Int32)), .val (.int ((p1 &&& (255 : Int32)).toUInt32.toUInt16.toUInt32.toInt32)), .val (.int ((((p1.toUInt32 >>> ((8 : Int32) &&& 31).toUInt32).toInt32) &&& (255 : Int32)).toUInt32.toUInt16.toUInt32.toInt32)), .val (.int ((((p1.toUInt32 >>> ((16 : Int32) &&& 31).toUInt32).toInt32) &&& (255 : Int32)).toUInt32.toUInt16.toUInt32.toInt32))] [])
    refine own_st (fun _ kt => XS.iloadN X0.here hx rfl (hb hby own_d2_48) rfl  kt) ?_
    show own_Rch p e below _ s₁ (mkF m 49 #[.val (.int p0), .val (.int p1), .val (.int (1 : Int32)), .val (.int ((p1 &&& (255 : Int32)).toUInt32.toUInt16.toUInt32.toInt32)), .val (.int ((((p1.toUInt32 >>> ((8 : Int32) &&& 31).toUInt32).toInt32) &&& (255 : Int32)).toUInt32.toUInt16.toUInt32.toInt32)), .val (.int ((((p1.toUInt32 >>> ((16 : Int32) &&& 31).toUInt32).toInt32) &&& (255 : Int32)).toUInt32.toUInt16.toUInt32.toInt32))] [(.int (1 : Int32))])
    refine own_st (fun _ kt => XS.iconst X0.here hx rfl (hb hby own_d2_49) kt) ?_
    show own_Rch p e below _ s₁ (mkF m 50 #[.val (.int p0), .val (.int p1), .val (.int (1 : Int32)), .val (.int ((p1 &&& (255 : Int32)).toUInt32.toUInt16.toUInt32.toInt32)), .val (.int ((((p1.toUInt32 >>> ((8 : Int32) &&& 31).toUInt32).toInt32) &&& (255 : Int32)).toUInt32.toUInt16.toUInt32.toInt32)), .val (.int ((((p1.toUInt32 >>> ((16 : Int32) &&& 31).toUInt32).toInt32) &&& (255 : Int32)).toUInt32.toUInt16.toUInt32.toInt32))] [(.int (1 : Int32)), (.int (1 : Int32))])
    refine own_st (fun _ kt => XS.icmpNo X0.here hx rfl (hb hby own_d2_50) rfl (teq (rfl : (1 : Int32) = (1 : Int32))).2 kt) ?_
    show own_Rch p e below _ s₁ (mkF m 53 #[.val (.int p0), .val (.int p1), .val (.int (1 : Int32)), .val (.int ((p1 &&& (255 : Int32)).toUInt32.toUInt16.toUInt32.toInt32)), .val (.int ((((p1.toUInt32 >>> ((8 : Int32) &&& 31).toUInt32).toInt32) &&& (255 : Int32)).toUInt32.toUInt16.toUInt32.toInt32)), .val (.int ((((p1.toUInt32 >>> ((16 : Int32) &&& 31).toUInt32).toInt32) &&& (255 : Int32)).toUInt32.toUInt16.toUInt32.toInt32))] [])
    obtain ⟨T4, h4, X4, e4, E4, A4, D4, U4, st4⟩ := newO X0 hx hZ hown (hw _ (List.mem_of_getElem? (i := 7) rfl)) (hw _ (List.mem_of_getElem? (i := 8) rfl)) (hw _ (List.mem_of_getElem? (i := 9) rfl)) e0 (g := (mkF m 53 #[.val (.int p0), .val (.int p1), .val (.int (1 : Int32)), .val (.int ((p1 &&& (255 : Int32)).toUInt32.toUInt16.toUInt32.toInt32)), .val (.int ((((p1.toUInt32 >>> ((8 : Int32) &&& 31).toUInt32).toInt32) &&& (255 : Int32)).toUInt32.toUInt16.toUInt32.toInt32)), .val (.int ((((p1.toUInt32 >>> ((16 : Int32) &&& 31).toUInt32).toInt32) &&& (255 : Int32)).toUInt32.toUInt16.toUInt32.toInt32))] [])) rfl (hb hby own_d2_53) (by decide) (by decide)
    obtain ⟨b4, g4⟩ : ∃ z, z = h0.size := ⟨_, rfl⟩
    rw [← g4] at A4 D4 U4 st4
    have ge4 : n0 ≤ b4 := by rw [g4]; exact own_old_le O0
    have sz4 : h0.size ≤ b4 := by rw [g4]; exact K0.1
    have hkk4 := Nat.le_trans hk0 E4.1
    have O0_x4 := O0.ext E4
    have CR0_x4 := CR0.trans (CHr.ext E4 CR0.1)
    have K0_x4 := K0.ext E4
    have Y4 := Safe.ext E4 CR0.1 (Safe.new (Nat.le_of_eq g4.symm))
    refine own_st st4 ?_
    have F4_coder : Fld Z h4 b4 "java/lang/String" "coder" "B" (.int (0 : Int32)) := D4 (Or.inr (hw _ (List.mem_of_getElem? (i := 34) rfl))) (ty := .byte) (by decide)
    have F4_value : Fld Z h4 b4 "java/lang/String" "value" "[B" .null := D4 (Or.inr (hw _ (List.mem_of_getElem? (i := 36) rfl))) (ty := (.array .byte)) (by decide)
    show own_Rch p e below _ T4 (mkF m 56 #[.val (.int p0), .val (.int p1), .val (.int (1 : Int32)), .val (.int ((p1 &&& (255 : Int32)).toUInt32.toUInt16.toUInt32.toInt32)), .val (.int ((((p1.toUInt32 >>> ((8 : Int32) &&& 31).toUInt32).toInt32) &&& (255 : Int32)).toUInt32.toUInt16.toUInt32.toInt32)), .val (.int ((((p1.toUInt32 >>> ((16 : Int32) &&& 31).toUInt32).toInt32) &&& (255 : Int32)).toUInt32.toUInt16.toUInt32.toInt32))] [(.ref b4)])
    refine own_st (fun _ kt => XS.dup X4.here hx rfl (hb hby own_d2_56) rfl rfl kt) ?_
    show own_Rch p e below _ T4 (mkF m 57 #[.val (.int p0), .val (.int p1), .val (.int (1 : Int32)), .val (.int ((p1 &&& (255 : Int32)).toUInt32.toUInt16.toUInt32.toInt32)), .val (.int ((((p1.toUInt32 >>> ((8 : Int32) &&& 31).toUInt32).toInt32) &&& (255 : Int32)).toUInt32.toUInt16.toUInt32.toInt32)), .val (.int ((((p1.toUInt32 >>> ((16 : Int32) &&& 31).toUInt32).toInt32) &&& (255 : Int32)).toUInt32.toUInt16.toUInt32.toInt32))] [(.ref b4), (.ref b4)])
    refine own_st (fun _ kt => XS.iconst X4.here hx rfl (hb hby own_d2_57) kt) ?_
    show own_Rch p e below _ T4 (mkF m 58 #[.val (.int p0), .val (.int p1), .val (.int (1 : Int32)), .val (.int ((p1 &&& (255 : Int32)).toUInt32.toUInt16.toUInt32.toInt32)), .val (.int ((((p1.toUInt32 >>> ((8 : Int32) &&& 31).toUInt32).toInt32) &&& (255 : Int32)).toUInt32.toUInt16.toUInt32.toInt32)), .val (.int ((((p1.toUInt32 >>> ((16 : Int32) &&& 31).toUInt32).toInt32) &&& (255 : Int32)).toUInt32.toUInt16.toUInt32.toInt32))] [(.int (1 : Int32)), (.ref b4), (.ref b4)])
    obtain ⟨T5, h5, k5, X5, e5, E5, A5, st5⟩ := newP X4 hx hZ (hw _ (List.mem_of_getElem? (i := 10) rfl)) e4 (g := (mkF m 58 #[.val (.int p0), .val (.int p1), .val (.int (1 : Int32)), .val (.int ((p1 &&& (255 : Int32)).toUInt32.toUInt16.toUInt32.toInt32)), .val (.int ((((p1.toUInt32 >>> ((8 : Int32) &&& 31).toUInt32).toInt32) &&& (255 : Int32)).toUInt32.toUInt16.toUInt32.toInt32)), .val (.int ((((p1.toUInt32 >>> ((16 : Int32) &&& 31).toUInt32).toInt32) &&& (255 : Int32)).toUInt32.toUInt16.toUInt32.toInt32))] [(.int (1 : Int32)), (.ref b4), (.ref b4)])) rfl (hb hby own_d2_58) rfl (by decide) (cap := 1) (by decide) (by decide) (by decide) (by decide)
    obtain ⟨b5, g5⟩ : ∃ z, z = h4.size := ⟨_, rfl⟩
    rw [← g5] at A5 st5
    have ge5 : n0 ≤ b5 := by rw [g5]; exact own_old_le O0_x4
    have ne5_b4 : b4 ≠ b5 := by rw [g5]; exact Nat.ne_of_lt F4_coder.lt
    have sz5 : h0.size ≤ b5 := by rw [g5]; exact K0_x4.1
    have hkk5 := Nat.le_trans hkk4 E5.1
    have O0_x5 := O0_x4.ext E5
    have CR0_x5 := CR0_x4.trans (CHr.ext E5 CR0_x4.1)
    have K0_x5 := K0_x4.ext E5
    have Y4_x5 := Safe.ext E5 CR0_x4.1 Y4
    have F4_coder_x5 := F4_coder.ext E5
    have F4_value_x5 := F4_value.ext E5
    have A4_x5 := A4.ext E5
    have Y5 := Safe.ext E5 CR0_x4.1 (Safe.new (Nat.le_of_eq g5.symm))
    refine own_st st5 ?_
    have V5 := Arv.new A5 (by decide)
    have V5p : Arv Z h5 b5 k5 .char (1 : Int32) [(.int (0 : Int32))] (.int (0 : Int32)) := V5.pad (pad_rep [] (.int (0 : Int32)) 1)
    show own_Rch p e below _ T5 (mkF m 60 #[.val (.int p0), .val (.int p1), .val (.int (1 : Int32)), .val (.int ((p1 &&& (255 : Int32)).toUInt32.toUInt16.toUInt32.toInt32)), .val (.int ((((p1.toUInt32 >>> ((8 : Int32) &&& 31).toUInt32).toInt32) &&& (255 : Int32)).toUInt32.toUInt16.toUInt32.toInt32)), .val (.int ((((p1.toUInt32 >>> ((16 : Int32) &&& 31).toUInt32).toInt32) &&& (255 : Int32)).toUInt32.toUInt16.toUInt32.toInt32))] [(.ref b5), (.ref b4), (.ref b4)])
    refine own_st (fun _ kt => XS.dup X5.here hx rfl (hb hby own_d2_60) rfl rfl kt) ?_
    show own_Rch p e below _ T5 (mkF m 61 #[.val (.int p0), .val (.int p1), .val (.int (1 : Int32)), .val (.int ((p1 &&& (255 : Int32)).toUInt32.toUInt16.toUInt32.toInt32)), .val (.int ((((p1.toUInt32 >>> ((8 : Int32) &&& 31).toUInt32).toInt32) &&& (255 : Int32)).toUInt32.toUInt16.toUInt32.toInt32)), .val (.int ((((p1.toUInt32 >>> ((16 : Int32) &&& 31).toUInt32).toInt32) &&& (255 : Int32)).toUInt32.toUInt16.toUInt32.toInt32))] [(.ref b5), (.ref b5), (.ref b4), (.ref b4)])
    refine own_st (fun _ kt => XS.iconst X5.here hx rfl (hb hby own_d2_61) kt) ?_
    show own_Rch p e below _ T5 (mkF m 62 #[.val (.int p0), .val (.int p1), .val (.int (1 : Int32)), .val (.int ((p1 &&& (255 : Int32)).toUInt32.toUInt16.toUInt32.toInt32)), .val (.int ((((p1.toUInt32 >>> ((8 : Int32) &&& 31).toUInt32).toInt32) &&& (255 : Int32)).toUInt32.toUInt16.toUInt32.toInt32)), .val (.int ((((p1.toUInt32 >>> ((16 : Int32) &&& 31).toUInt32).toInt32) &&& (255 : Int32)).toUInt32.toUInt16.toUInt32.toInt32))] [(.int (0 : Int32)), (.ref b5), (.ref b5), (.ref b4), (.ref b4)])
    refine own_st (fun _ kt => XS.iloadN X5.here hx rfl (hb hby own_d2_62) rfl  kt) ?_
    show own_Rch p e below _ T5 (mkF m 63 #[.val (.int p0), .val (.int p1), .val (.int (1 : Int32)), .val (.int ((p1 &&& (255 : Int32)).toUInt32.toUInt16.toUInt32.toInt32)), .val (.int ((((p1.toUInt32 >>> ((8 : Int32) &&& 31).toUInt32).toInt32) &&& (255 : Int32)).toUInt32.toUInt16.toUInt32.toInt32)), .val (.int ((((p1.toUInt32 >>> ((16 : Int32) &&& 31).toUInt32).toInt32) &&& (255 : Int32)).toUInt32.toUInt16.toUInt32.toInt32))] [(.int ((p1 &&& (255 : Int32)).toUInt32.toUInt16.toUInt32.toInt32)), (.int (0 : Int32)), (.ref b5), (.ref b5), (.ref b4), (.ref b4)])
    obtain ⟨cl6, Ar6, q6, S6, M6, H6, G6⟩ := id V5p
    have hin6 : ¬ ((0 : Int32) < 0 ∨ cl6.slots.size ≤ ((0 : Int32)).toNatClampNeg) := inb_of S6 ⟨by decide, by decide⟩
    obtain ⟨T6, h6, X6, e6, W6, st6⟩ := stC X5 hx hZ e5 Ar6 (j := (0 : Int32)) hin6 (g := (mkF m 63 #[.val (.int p0), .val (.int p1), .val (.int (1 : Int32)), .val (.int ((p1 &&& (255 : Int32)).toUInt32.toUInt16.toUInt32.toInt32)), .val (.int ((((p1.toUInt32 >>> ((8 : Int32) &&& 31).toUInt32).toInt32) &&& (255 : Int32)).toUInt32.toUInt16.toUInt32.toInt32)), .val (.int ((((p1.toUInt32 >>> ((16 : Int32) &&& 31).toUInt32).toInt32) &&& (255 : Int32)).toUInt32.toUInt16.toUInt32.toInt32))] [(.int ((p1 &&& (255 : Int32)).toUInt32.toUInt16.toUInt32.toInt32)), (.int (0 : Int32)), (.ref b5), (.ref b5), (.ref b4), (.ref b4)])) rfl rfl (hb hby own_d2_63)
    have V6 := Arv.set Ar6 q6 S6 M6 H6 G6 (fits_nar_char _) W6 0 rfl (Nat.le_of_ble_eq_true rfl)
    have V6s : Arv Z h6 b5 k5 .char (1 : Int32) [(.int (nar .char ((p1 &&& (255 : Int32)).toUInt32.toUInt16.toUInt32.toInt32)))] (.int (0 : Int32)) := V6
    have N6 := Fr.snoc X6 N0 ge5
    refine own_st st6 ?_
    have hkk6 := Nat.le_trans hkk5 (Nat.le_of_eq (Wr.size W6).symm)
    have O0_x6 := O0_x5.wr W6 ge5
    have CR0_x6 := CR0_x5.trans (CHr.wr W6 Y5 CR0_x5.1)
    have K0_x6 := K0_x5.wr W6 (Or.inr sz5)
    have Y4_x6 := Safe.wr W6 Y5 CR0_x5.1 Y4_x5
    have F4_coder_x6 := F4_coder_x5.other W6 (Or.inl ne5_b4)
    have F4_value_x6 := F4_value_x5.other W6 (Or.inl ne5_b4)
    have A4_x6 := A4_x5.wr W6
    have Y5_x6 := Safe.wr W6 Y5 CR0_x5.1 Y5
    show own_Rch p e below _ T6 (mkF m 64 #[.val (.int p0), .val (.int p1), .val (.int (1 : Int32)), .val (.int ((p1 &&& (255 : Int32)).toUInt32.toUInt16.toUInt32.toInt32)), .val (.int ((((p1.toUInt32 >>> ((8 : Int32) &&& 31).toUInt32).toInt32) &&& (255 : Int32)).toUInt32.toUInt16.toUInt32.toInt32)), .val (.int ((((p1.toUInt32 >>> ((16 : Int32) &&& 31).toUInt32).toInt32) &&& (255 : Int32)).toUInt32.toUInt16.toUInt32.toInt32))] [(.ref b5), (.ref b4), (.ref b4)])
    obtain ⟨_, _, ⟨T7, L7, k7, n7⟩, -, X7, ⟨Lc7, hQ7, l7, y7, z7⟩, st7⟩ := X6.specialBack hx (y := (⟨"java/lang/String", "<init>", "([C)V"⟩ : MethodName)) rfl hown (mvT hZ (hw _ (List.mem_of_getElem? (i := 11) rfl))) (mvT hZ (hw _ (List.mem_of_getElem? (i := 12) rfl))) (mvT hZ (hw _ (List.mem_of_getElem? (i := 13) rfl))) (by decide) (backOf (W := 1) (own_i1_1 l Z a0 hw [] b4 b5 k5 ((p1 &&& (255 : Int32)).toUInt32.toUInt16.toUInt32.toInt32) (0 : Int32) (0 : Int32) cs h6 n0 O0_x6 SC hcs V6s A4_x6 F4_value_x6 F4_coder_x6 ge4 (own_chc _) own_ch0 own_ch0) hZ (hw _ (List.mem_of_getElem? (i := 13) rfl)) (hw _ (List.mem_of_getElem? (i := 9) rfl)) (by decide) (by decide)) (g := (mkF m 64 #[.val (.int p0), .val (.int p1), .val (.int (1 : Int32)), .val (.int ((p1 &&& (255 : Int32)).toUInt32.toUInt16.toUInt32.toInt32)), .val (.int ((((p1.toUInt32 >>> ((8 : Int32) &&& 31).toUInt32).toInt32) &&& (255 : Int32)).toUInt32.toUInt16.toUInt32.toInt32)), .val (.int ((((p1.toUInt32 >>> ((16 : Int32) &&& 31).toUInt32).toInt32) &&& (255 : Int32)).toUInt32.toUInt16.toUInt32.toInt32))] [(.ref b5), (.ref b4), (.ref b4)])) rfl (by rw [hml]; rfl) (Steps.refl _) (a := b4) (argsL := [(.ref b5)]) (rest := [(.ref b4)]) (lenOf own_pd5 rfl) rfl (by show 2 * 0 + _ ≤ _; exact Nat.le_of_eq rfl) (hb hby own_d2_64) (fun _ _ => ⟨rfl, e6, (by decide : 2 + 1 ≤ _), (by decide : 5 + 1 ≤ _)⟩)
    dsimp only [Pt.U, Pt.locs, Pt.cells, Pt.slots] at X7 l7 y7 z7 st7 hQ7
    subst l7 y7 z7
    obtain ⟨rfl, N7q, K7, yy7, ky7, Ea7, Fv7, Fc7, Vy7⟩ := hQ7
    have N7 := Fr.app N6 N7q
    refine own_st (fun _ kt => st7.trans kt) ?_
    have hkk7 := Nat.le_trans hkk6 K7.1
    have O0_x7 := O0_x6.keep K7 (allS ge4 all0)
    have CR0_x7 := CR0_x6.trans (CHr.keep K7 (sfS Y4_x6 sf0) CR0_x6.1)
    have K0_x7 := K0_x6.trans K7 (allS (Or.inr sz4) all0)
    have Y4_x7 := Safe.keep K7 (sfS Y4_x6 sf0) CR0_x6.1 Y4_x6
    have A4_x7 := A4_x6.keep K7
    have Y5_x7 := Safe.keep K7 (sfS Y4_x6 sf0) CR0_x6.1 Y5_x6
    have V6s_x7 := V6s.keep K7 (ninS (Ne.symm ne5_b4) nin0)
    show own_Rch p e below _ T7 (mkF m 67 #[.val (.int p0), .val (.int p1), .val (.int (1 : Int32)), .val (.int ((p1 &&& (255 : Int32)).toUInt32.toUInt16.toUInt32.toInt32)), .val (.int ((((p1.toUInt32 >>> ((8 : Int32) &&& 31).toUInt32).toInt32) &&& (255 : Int32)).toUInt32.toUInt16.toUInt32.toInt32)), .val (.int ((((p1.toUInt32 >>> ((16 : Int32) &&& 31).toUInt32).toInt32) &&& (255 : Int32)).toUInt32.toUInt16.toUInt32.toInt32))] [(.ref b4)])
    refine own_retAH rfl rfl (by rw [hh0]; exact CR0_x7.trans (CHv.at (s := s) X7 hZ (own_hEL hw) CR0_x7.1)) (s := s) hS0 hkk7 X7 hx Bd.notSynchronized Bd.returns (hb hby own_d2_67) (by decide) (by decide) ?_
    exact ⟨_, [(own_b ((p1 &&& (255 : Int32)).toUInt32.toUInt16.toUInt32.toInt32))], rfl, N7, K0_x7, ⟨_, _, Ea7, Fv7, Fc7, Vy7⟩, by simp⟩
  · rw [hm]
    show own_Rch p e below _ s₁ (mkF m 33 #[.val (.int p0), .val (.int p1), .val (.int (2 : Int32)), .val (.int ((p1 &&& (255 : Int32)).toUInt32.toUInt16.toUInt32.toInt32)), .val (.int ((((p1.toUInt32 >>> ((8 : Int32) &&& 31).toUInt32).toInt32) &&& (255 : Int32)).toUInt32.toUInt16.toUInt32.toInt32)), .val (.int ((((p1.toUInt32 >>> ((16 : Int32) &&& 31).toUInt32).toInt32) &&& (255 : Int32)).toUInt32.toUInt16.toUInt32.toInt32))] [])
    refine own_st (fun _ kt => XS.iloadN X0.here hx rfl (hb hby own_d2_33) rfl  kt) ?_
    show own_Rch p e below _ s₁ (mkF m 34 #[.val (.int p0), .val (.int p1), .val (.int (2 : Int32)), .val (.int ((p1 &&& (255 : Int32)).toUInt32.toUInt16.toUInt32.toInt32)), .val (.int ((((p1.toUInt32 >>> ((8 : Int32) &&& 31).toUInt32).toInt32) &&& (255 : Int32)).toUInt32.toUInt16.toUInt32.toInt32)), .val (.int ((((p1.toUInt32 >>> ((16 : Int32) &&& 31).toUInt32).toInt32) &&& (255 : Int32)).toUInt32.toUInt16.toUInt32.toInt32))] [(.int (2 : Int32))])
    refine own_st (fun _ kt => XS.ifYes X0.here hx rfl (pc0 := 34) (pc' := 48) rfl (hb hby own_d2_34) rfl ((if0 _ _).trans (feq ((by decide) : ¬ ((2 : Int32) = (0 : Int32)))).2) (by decide) (by decide) kt) ?_
    show own_Rch p e below _ s₁ (mkF m 48 #[.val (.int p0), .val (.int p1), .val (.int (2 : Int32)), .val (.int ((p1 &&& (255 : Int32)).toUInt32.toUInt16.toUInt32.toInt32)), .val (.int ((((p1.toUInt32 >>> ((8 : Int32) &&& 31).toUInt32).toInt32) &&& (255 : Int32)).toUInt32.toUInt16.toUInt32.toInt32)), .val (.int ((((p1.toUInt32 >>> ((16 : Int32) &&& 31).toUInt32).toInt32) &&& (255 : Int32)).toUInt32.toUInt16.toUInt32.toInt32))] [])
    refine own_st (fun _ kt => XS.iloadN X0.here hx rfl (hb hby own_d2_48) rfl  kt) ?_
    show own_Rch p e below _ s₁ (mkF m 49 #[.val (.int p0), .val (.int p1), .val (.int (2 : Int32)), .val (.int ((p1 &&& (255 : Int32)).toUInt32.toUInt16.toUInt32.toInt32)), .val (.int ((((p1.toUInt32 >>> ((8 : Int32) &&& 31).toUInt32).toInt32) &&& (255 : Int32)).toUInt32.toUInt16.toUInt32.toInt32)), .val (.int ((((p1.toUInt32 >>> ((16 : Int32) &&& 31).toUInt32).toInt32) &&& (255 : Int32)).toUInt32.toUInt16.toUInt32.toInt32))] [(.int (2 : Int32))])
    refine own_st (fun _ kt => XS.iconst X0.here hx rfl (hb hby own_d2_49) kt) ?_
    show own_Rch p e below _ s₁ (mkF m 50 #[.val (.int p0), .val (.int p1), .val (.int (2 : Int32)), .val (.int ((p1 &&& (255 : Int32)).toUInt32.toUInt16.toUInt32.toInt32)), .val (.int ((((p1.toUInt32 >>> ((8 : Int32) &&& 31).toUInt32).toInt32) &&& (255 : Int32)).toUInt32.toUInt16.toUInt32.toInt32)), .val (.int ((((p1.toUInt32 >>> ((16 : Int32) &&& 31).toUInt32).toInt32) &&& (255 : Int32)).toUInt32.toUInt16.toUInt32.toInt32))] [(.int (1 : Int32)), (.int (2 : Int32))])
    refine own_st (fun _ kt => XS.icmpYes X0.here hx rfl (pc0 := 50) (pc' := 68) rfl (hb hby own_d2_50) rfl (feq ((by decide) : ¬ ((2 : Int32) = (1 : Int32)))).2 (by decide) (by decide) kt) ?_
    show own_Rch p e below _ s₁ (mkF m 68 #[.val (.int p0), .val (.int p1), .val (.int (2 : Int32)), .val (.int ((p1 &&& (255 : Int32)).toUInt32.toUInt16.toUInt32.toInt32)), .val (.int ((((p1.toUInt32 >>> ((8 : Int32) &&& 31).toUInt32).toInt32) &&& (255 : Int32)).toUInt32.toUInt16.toUInt32.toInt32)), .val (.int ((((p1.toUInt32 >>> ((16 : Int32) &&& 31).toUInt32).toInt32) &&& (255 : Int32)).toUInt32.toUInt16.toUInt32.toInt32))] [])
    refine own_st (fun _ kt => XS.iloadN X0.here hx rfl (hb hby own_d2_68) rfl  kt) ?_
    show own_Rch p e below _ s₁ (mkF m 69 #[.val (.int p0), .val (.int p1), .val (.int (2 : Int32)), .val (.int ((p1 &&& (255 : Int32)).toUInt32.toUInt16.toUInt32.toInt32)), .val (.int ((((p1.toUInt32 >>> ((8 : Int32) &&& 31).toUInt32).toInt32) &&& (255 : Int32)).toUInt32.toUInt16.toUInt32.toInt32)), .val (.int ((((p1.toUInt32 >>> ((16 : Int32) &&& 31).toUInt32).toInt32) &&& (255 : Int32)).toUInt32.toUInt16.toUInt32.toInt32))] [(.int (2 : Int32))])
    refine own_st (fun _ kt => XS.iconst X0.here hx rfl (hb hby own_d2_69) kt) ?_
    show own_Rch p e below _ s₁ (mkF m 70 #[.val (.int p0), .val (.int p1), .val (.int (2 : Int32)), .val (.int ((p1 &&& (255 : Int32)).toUInt32.toUInt16.toUInt32.toInt32)), .val (.int ((((p1.toUInt32 >>> ((8 : Int32) &&& 31).toUInt32).toInt32) &&& (255 : Int32)).toUInt32.toUInt16.toUInt32.toInt32)), .val (.int ((((p1.toUInt32 >>> ((16 : Int32) &&& 31).toUInt32).toInt32) &&& (255 : Int32)).toUInt32.toUInt16.toUInt32.toInt32))] [(.int (2 : Int32)), (.int (2 : Int32))])
    refine own_st (fun _ kt => XS.icmpNo X0.here hx rfl (hb hby own_d2_70) rfl (teq (rfl : (2 : Int32) = (2 : Int32))).2 kt) ?_
    show own_Rch p e below _ s₁ (mkF m 73 #[.val (.int p0), .val (.int p1), .val (.int (2 : Int32)), .val (.int ((p1 &&& (255 : Int32)).toUInt32.toUInt16.toUInt32.toInt32)), .val (.int ((((p1.toUInt32 >>> ((8 : Int32) &&& 31).toUInt32).toInt32) &&& (255 : Int32)).toUInt32.toUInt16.toUInt32.toInt32)), .val (.int ((((p1.toUInt32 >>> ((16 : Int32) &&& 31).toUInt32).toInt32) &&& (255 : Int32)).toUInt32.toUInt16.toUInt32.toInt32))] [])
    obtain ⟨T8, h8, X8, e8, E8, A8, D8, U8, st8⟩ := newO X0 hx hZ hown (hw _ (List.mem_of_getElem? (i := 7) rfl)) (hw _ (List.mem_of_getElem? (i := 8) rfl)) (hw _ (List.mem_of_getElem? (i := 9) rfl)) e0 (g := (mkF m 73 #[.val (.int p0), .val (.int p1), .val (.int (2 : Int32)), .val (.int ((p1 &&& (255 : Int32)).toUInt32.toUInt16.toUInt32.toInt32)), .val (.int ((((p1.toUInt32 >>> ((8 : Int32) &&& 31).toUInt32).toInt32) &&& (255 : Int32)).toUInt32.toUInt16.toUInt32.toInt32)), .val (.int ((((p1.toUInt32 >>> ((16 : Int32) &&& 31).toUInt32).toInt32) &&& (255 : Int32)).toUInt32.toUInt16.toUInt32.toInt32))] [])) rfl (hb hby own_d2_73) (by decide) (by decide)
    obtain ⟨b8, g8⟩ : ∃ z, z = h0.size := ⟨_, rfl⟩
    rw [← g8] at A8 D8 U8 st8
    have ge8 : n0 ≤ b8 := by rw [g8]; exact own_old_le O0
    have sz8 : h0.size ≤ b8 := by rw [g8]; exact K0.1
    have hkk8 := Nat.le_trans hk0 E8.1
    have O0_x8 := O0.ext E8
    have CR0_x8 := CR0.trans (CHr.ext E8 CR0.1)
    have K0_x8 := K0.ext E8
    have Y8 := Safe.ext E8 CR0.1 (Safe.new (Nat.le_of_eq g8.symm))
    refine own_st st8 ?_
    have F8_coder : Fld Z h8 b8 "java/lang/String" "coder" "B" (.int (0 : Int32)) := D8 (Or.inr (hw _ (List.mem_of_getElem? (i := 34) rfl))) (ty := .byte) (by decide)
    have F8_value : Fld Z h8 b8 "java/lang/String" "value" "[B" .null := D8 (Or.inr (hw _ (List.mem_of_getElem? (i := 36) rfl))) (ty := (.array .byte)) (by decide)
    show own_Rch p e below _ T8 (mkF m 76 #[.val (.int p0), .val (.int p1), .val (.int (2 : Int32)), .val (.int ((p1 &&& (255 : Int32)).toUInt32.toUInt16.toUInt32.toInt32)), .val (.int ((((p1.toUInt32 >>> ((8 : Int32) &&& 31).toUInt32).toInt32) &&& (255 : Int32)).toUInt32.toUInt16.toUInt32.toInt32)), .val (.int ((((p1.toUInt32 >>> ((16 : Int32) &&& 31).toUInt32).toInt32) &&& (255 : Int32)).toUInt32.toUInt16.toUInt32.toInt32))] [(.ref b8)])
    refine own_st (fun _ kt => XS.dup X8.here hx rfl (hb hby own_d2_76) rfl rfl kt) ?_
    show own_Rch p e below _ T8 (mkF m 77 #[.val (.int p0), .val (.int p1), .val (.int (2 : Int32)), .val (.int ((p1 &&& (255 : Int32)).toUInt32.toUInt16.toUInt32.toInt32)), .val (.int ((((p1.toUInt32 >>> ((8 : Int32) &&& 31).toUInt32).toInt32) &&& (255 : Int32)).toUInt32.toUInt16.toUInt32.toInt32)), .val (.int ((((p1.toUInt32 >>> ((16 : Int32) &&& 31).toUInt32).toInt32) &&& (255 : Int32)).toUInt32.toUInt16.toUInt32.toInt32))] [(.ref b8), (.ref b8)])
    refine own_st (fun _ kt => XS.iconst X8.here hx rfl (hb hby own_d2_77) kt) ?_
    show own_Rch p e below _ T8 (mkF m 78 #[.val (.int p0), .val (.int p1), .val (.int (2 : Int32)), .val (.int ((p1 &&& (255 : Int32)).toUInt32.toUInt16.toUInt32.toInt32)), .val (.int ((((p1.toUInt32 >>> ((8 : Int32) &&& 31).toUInt32).toInt32) &&& (255 : Int32)).toUInt32.toUInt16.toUInt32.toInt32)), .val (.int ((((p1.toUInt32 >>> ((16 : Int32) &&& 31).toUInt32).toInt32) &&& (255 : Int32)).toUInt32.toUInt16.toUInt32.toInt32))] [(.int (2 : Int32)), (.ref b8), (.ref b8)])
    obtain ⟨T9, h9, k9, X9, e9, E9, A9, st9⟩ := newP X8 hx hZ (hw _ (List.mem_of_getElem? (i := 10) rfl)) e8 (g := (mkF m 78 #[.val (.int p0), .val (.int p1), .val (.int (2 : Int32)), .val (.int ((p1 &&& (255 : Int32)).toUInt32.toUInt16.toUInt32.toInt32)), .val (.int ((((p1.toUInt32 >>> ((8 : Int32) &&& 31).toUInt32).toInt32) &&& (255 : Int32)).toUInt32.toUInt16.toUInt32.toInt32)), .val (.int ((((p1.toUInt32 >>> ((16 : Int32) &&& 31).toUInt32).toInt32) &&& (255 : Int32)).toUInt32.toUInt16.toUInt32.toInt32))] [(.int (2 : Int32)), (.ref b8), (.ref b8)])) rfl (hb hby own_d2_78) rfl (by decide) (cap := 2) (by decide) (by decide) (by decide) (by decide)
    obtain ⟨b9, g9⟩ : ∃ z, z = h8.size := ⟨_, rfl⟩
    rw [← g9] at A9 st9
    have ge9 : n0 ≤ b9 := by rw [g9]; exact own_old_le O0_x8
    have ne9_b8 : b8 ≠ b9 := by rw [g9]; exact Nat.ne_of_lt F8_coder.lt
    have sz9 : h0.size ≤ b9 := by rw [g9]; exact K0_x8.1
    have hkk9 := Nat.le_trans hkk8 E9.1
    have O0_x9 := O0_x8.ext E9
    have CR0_x9 := CR0_x8.trans (CHr.ext E9 CR0_x8.1)
    have K0_x9 := K0_x8.ext E9
    have Y8_x9 := Safe.ext E9 CR0_x8.1 Y8
    have F8_coder_x9 := F8_coder.ext E9
    have F8_value_x9 := F8_value.ext E9
    have A8_x9 := A8.ext E9
    have Y9 := Safe.ext E9 CR0_x8.1 (Safe.new (Nat.le_of_eq g9.symm))
    refine own_st st9 ?_
    have V9 := Arv.new A9 (by decide)
    have V9p : Arv Z h9 b9 k9 .char (2 : Int32) [(.int (0 : Int32)), (.int (0 : Int32))] (.int (0 : Int32)) := V9.pad (pad_rep [] (.int (0 : Int32)) 2)
    show own_Rch p e below _ T9 (mkF m 80 #[.val (.int p0), .val (.int p1), .val (.int (2 : Int32)), .val (.int ((p1 &&& (255 : Int32)).toUInt32.toUInt16.toUInt32.toInt32)), .val (.int ((((p1.toUInt32 >>> ((8 : Int32) &&& 31).toUInt32).toInt32) &&& (255 : Int32)).toUInt32.toUInt16.toUInt32.toInt32)), .val (.int ((((p1.toUInt32 >>> ((16 : Int32) &&& 31).toUInt32).toInt32) &&& (255 : Int32)).toUInt32.toUInt16.toUInt32.toInt32))] [(.ref b9), (.ref b8), (.ref b8)])
    refine own_st (fun _ kt => XS.dup X9.here hx rfl (hb hby own_d2_80) rfl rfl kt) ?_
    show own_Rch p e below _ T9 (mkF m 81 #[.val (.int p0), .val (.int p1), .val (.int (2 : Int32)), .val (.int ((p1 &&& (255 : Int32)).toUInt32.toUInt16.toUInt32.toInt32)), .val (.int ((((p1.toUInt32 >>> ((8 : Int32) &&& 31).toUInt32).toInt32) &&& (255 : Int32)).toUInt32.toUInt16.toUInt32.toInt32)), .val (.int ((((p1.toUInt32 >>> ((16 : Int32) &&& 31).toUInt32).toInt32) &&& (255 : Int32)).toUInt32.toUInt16.toUInt32.toInt32))] [(.ref b9), (.ref b9), (.ref b8), (.ref b8)])
    refine own_st (fun _ kt => XS.iconst X9.here hx rfl (hb hby own_d2_81) kt) ?_
    show own_Rch p e below _ T9 (mkF m 82 #[.val (.int p0), .val (.int p1), .val (.int (2 : Int32)), .val (.int ((p1 &&& (255 : Int32)).toUInt32.toUInt16.toUInt32.toInt32)), .val (.int ((((p1.toUInt32 >>> ((8 : Int32) &&& 31).toUInt32).toInt32) &&& (255 : Int32)).toUInt32.toUInt16.toUInt32.toInt32)), .val (.int ((((p1.toUInt32 >>> ((16 : Int32) &&& 31).toUInt32).toInt32) &&& (255 : Int32)).toUInt32.toUInt16.toUInt32.toInt32))] [(.int (0 : Int32)), (.ref b9), (.ref b9), (.ref b8), (.ref b8)])
    refine own_st (fun _ kt => XS.iloadN X9.here hx rfl (hb hby own_d2_82) rfl  kt) ?_
    show own_Rch p e below _ T9 (mkF m 83 #[.val (.int p0), .val (.int p1), .val (.int (2 : Int32)), .val (.int ((p1 &&& (255 : Int32)).toUInt32.toUInt16.toUInt32.toInt32)), .val (.int ((((p1.toUInt32 >>> ((8 : Int32) &&& 31).toUInt32).toInt32) &&& (255 : Int32)).toUInt32.toUInt16.toUInt32.toInt32)), .val (.int ((((p1.toUInt32 >>> ((16 : Int32) &&& 31).toUInt32).toInt32) &&& (255 : Int32)).toUInt32.toUInt16.toUInt32.toInt32))] [(.int ((p1 &&& (255 : Int32)).toUInt32.toUInt16.toUInt32.toInt32)), (.int (0 : Int32)), (.ref b9), (.ref b9), (.ref b8), (.ref b8)])
    obtain ⟨cl10, Ar10, q10, S10, M10, H10, G10⟩ := id V9p
    have hin10 : ¬ ((0 : Int32) < 0 ∨ cl10.slots.size ≤ ((0 : Int32)).toNatClampNeg) := inb_of S10 ⟨by decide, by decide⟩
    obtain ⟨T10, h10, X10, e10, W10, st10⟩ := stC X9 hx hZ e9 Ar10 (j := (0 : Int32)) hin10 (g := (mkF m 83 #[.val (.int p0), .val (.int p1), .val (.int (2 : Int32)), .val (.int ((p1 &&& (255 : Int32)).toUInt32.toUInt16.toUInt32.toInt32)), .val (.int ((((p1.toUInt32 >>> ((8 : Int32) &&& 31).toUInt32).toInt32) &&& (255 : Int32)).toUInt32.toUInt16.toUInt32.toInt32)), .val (.int ((((p1.toUInt32 >>> ((16 : Int32) &&& 31).toUInt32).toInt32) &&& (255 : Int32)).toUInt32.toUInt16.toUInt32.toInt32))] [(.int ((p1 &&& (255 : Int32)).toUInt32.toUInt16.toUInt32.toInt32)), (.int (0 : Int32)), (.ref b9), (.ref b9), (.ref b8), (.ref b8)])) rfl rfl (hb hby own_d2_83)
    have V10 := Arv.set Ar10 q10 S10 M10 H10 G10 (fits_nar_char _) W10 0 rfl (Nat.le_of_ble_eq_true rfl)
    have V10s : Arv Z h10 b9 k9 .char (2 : Int32) [(.int (nar .char ((p1 &&& (255 : Int32)).toUInt32.toUInt16.toUInt32.toInt32))), (.int (0 : Int32))] (.int (0 : Int32)) := V10
    have N10 := Fr.snoc X10 N0 ge9
    refine own_st st10 ?_
    have hkk10 := Nat.le_trans hkk9 (Nat.le_of_eq (Wr.size W10).symm)
    have O0_x10 := O0_x9.wr W10 ge9
    have CR0_x10 := CR0_x9.trans (CHr.wr W10 Y9 CR0_x9.1)
    have K0_x10 := K0_x9.wr W10 (Or.inr sz9)
    have Y8_x10 := Safe.wr W10 Y9 CR0_x9.1 Y8_x9
    have F8_coder_x10 := F8_coder_x9.other W10 (Or.inl ne9_b8)
    have F8_value_x10 := F8_value_x9.other W10 (Or.inl ne9_b8)
    have A8_x10 := A8_x9.wr W10
    have Y9_x10 := Safe.wr W10 Y9 CR0_x9.1 Y9
    show own_Rch p e below _ T10 (mkF m 84 #[.val (.int p0), .val (.int p1), .val (.int (2 : Int32)), .val (.int ((p1 &&& (255 : Int32)).toUInt32.toUInt16.toUInt32.toInt32)), .val (.int ((((p1.toUInt32 >>> ((8 : Int32) &&& 31).toUInt32).toInt32) &&& (255 : Int32)).toUInt32.toUInt16.toUInt32.toInt32)), .val (.int ((((p1.toUInt32 >>> ((16 : Int32) &&& 31).toUInt32).toInt32) &&& (255 : Int32)).toUInt32.toUInt16.toUInt32.toInt32))] [(.ref b9), (.ref b8), (.ref b8)])
    refine own_st (fun _ kt => XS.dup X10.here hx rfl (hb hby own_d2_84) rfl rfl kt) ?_
    show own_Rch p e below _ T10 (mkF m 85 #[.val (.int p0), .val (.int p1), .val (.int (2 : Int32)), .val (.int ((p1 &&& (255 : Int32)).toUInt32.toUInt16.toUInt32.toInt32)), .val (.int ((((p1.toUInt32 >>> ((8 : Int32) &&& 31).toUInt32).toInt32) &&& (255 : Int32)).toUInt32.toUInt16.toUInt32.toInt32)), .val (.int ((((p1.toUInt32 >>> ((16 : Int32) &&& 31).toUInt32).toInt32) &&& (255 : Int32)).toUInt32.toUInt16.toUInt32.toInt32))] [(.ref b9), (.ref b9), (.ref b8), (.ref b8)])
    refine own_st (fun _ kt => XS.iconst X10.here hx rfl (hb hby own_d2_85) kt) ?_
    show own_Rch p e below _ T10 (mkF m 86 #[.val (.int p0), .val (.int p1), .val (.int (2 : Int32)), .val (.int ((p1 &&& (255 : Int32)).toUInt32.toUInt16.toUInt32.toInt32)), .val (.int ((((p1.toUInt32 >>> ((8 : Int32) &&& 31).toUInt32).toInt32) &&& (255 : Int32)).toUInt32.toUInt16.toUInt32.toInt32)), .val (.int ((((p1.toUInt32 >>> ((16 : Int32) &&& 31).toUInt32).toInt32) &&& (255 : Int32)).toUInt32.toUInt16.toUInt32.toInt32))] [(.int (1 : Int32)), (.ref b9), (.ref b9), (.ref b8), (.ref b8)])
    refine own_st (fun _ kt => XS.iload X10.here hx rfl (hb hby own_d2_86) rfl  kt) ?_
    show own_Rch p e below _ T10 (mkF m 88 #[.val (.int p0), .val (.int p1), .val (.int (2 : Int32)), .val (.int ((p1 &&& (255 : Int32)).toUInt32.toUInt16.toUInt32.toInt32)), .val (.int ((((p1.toUInt32 >>> ((8 : Int32) &&& 31).toUInt32).toInt32) &&& (255 : Int32)).toUInt32.toUInt16.toUInt32.toInt32)), .val (.int ((((p1.toUInt32 >>> ((16 : Int32) &&& 31).toUInt32).toInt32) &&& (255 : Int32)).toUInt32.toUInt16.toUInt32.toInt32))] [(.int ((((p1.toUInt32 >>> ((8 : Int32) &&& 31).toUInt32).toInt32) &&& (255 : Int32)).toUInt32.toUInt16.toUInt32.toInt32)), (.int (1 : Int32)), (.ref b9), (.ref b9), (.ref b8), (.ref b8)])
    obtain ⟨cl11, Ar11, q11, S11, M11, H11, G11⟩ := id V10s
    have hin11 : ¬ ((1 : Int32) < 0 ∨ cl11.slots.size ≤ ((1 : Int32)).toNatClampNeg) := inb_of S11 ⟨by decide, by decide⟩
    obtain ⟨T11, h11, X11, e11, W11, st11⟩ := stC X10 hx hZ e10 Ar11 (j := (1 : Int32)) hin11 (g := (mkF m 88 #[.val (.int p0), .val (.int p1), .val (.int (2 : Int32)), .val (.int ((p1 &&& (255 : Int32)).toUInt32.toUInt16.toUInt32.toInt32)), .val (.int ((((p1.toUInt32 >>> ((8 : Int32) &&& 31).toUInt32).toInt32) &&& (255 : Int32)).toUInt32.toUInt16.toUInt32.toInt32)), .val (.int ((((p1.toUInt32 >>> ((16 : Int32) &&& 31).toUInt32).toInt32) &&& (255 : Int32)).toUInt32.toUInt16.toUInt32.toInt32))] [(.int ((((p1.toUInt32 >>> ((8 : Int32) &&& 31).toUInt32).toInt32) &&& (255 : Int32)).toUInt32.toUInt16.toUInt32.toInt32)), (.int (1 : Int32)), (.ref b9), (.ref b9), (.ref b8), (.ref b8)])) rfl rfl (hb hby own_d2_88)
    have V11 := Arv.set Ar11 q11 S11 M11 H11 G11 (fits_nar_char _) W11 1 rfl (Nat.le_of_ble_eq_true rfl)
    have V11s : Arv Z h11 b9 k9 .char (2 : Int32) [(.int (nar .char ((p1 &&& (255 : Int32)).toUInt32.toUInt16.toUInt32.toInt32))), (.int (nar .char ((((p1.toUInt32 >>> ((8 : Int32) &&& 31).toUInt32).toInt32) &&& (255 : Int32)).toUInt32.toUInt16.toUInt32.toInt32)))] (.int (0 : Int32)) := V11
    have N11 := Fr.snoc X11 N10 ge9
    refine own_st st11 ?_
    have hkk11 := Nat.le_trans hkk10 (Nat.le_of_eq (Wr.size W11).symm)
    have O0_x11 := O0_x10.wr W11 ge9
    have CR0_x11 := CR0_x10.trans (CHr.wr W11 Y9_x10 CR0_x10.1)
    have K0_x11 := K0_x10.wr W11 (Or.inr sz9)
    have Y8_x11 := Safe.wr W11 Y9_x10 CR0_x10.1 Y8_x10
    have F8_coder_x11 := F8_coder_x10.other W11 (Or.inl ne9_b8)
    have F8_value_x11 := F8_value_x10.other W11 (Or.inl ne9_b8)
    have A8_x11 := A8_x10.wr W11
    have Y9_x11 := Safe.wr W11 Y9_x10 CR0_x10.1 Y9_x10
    show own_Rch p e below _ T11 (mkF m 89 #[.val (.int p0), .val (.int p1), .val (.int (2 : Int32)), .val (.int ((p1 &&& (255 : Int32)).toUInt32.toUInt16.toUInt32.toInt32)), .val (.int ((((p1.toUInt32 >>> ((8 : Int32) &&& 31).toUInt32).toInt32) &&& (255 : Int32)).toUInt32.toUInt16.toUInt32.toInt32)), .val (.int ((((p1.toUInt32 >>> ((16 : Int32) &&& 31).toUInt32).toInt32) &&& (255 : Int32)).toUInt32.toUInt16.toUInt32.toInt32))] [(.ref b9), (.ref b8), (.ref b8)])
    obtain ⟨_, _, ⟨T12, L12, k12, n12⟩, -, X12, ⟨Lc12, hQ12, l12, y12, z12⟩, st12⟩ := X11.specialBack hx (y := (⟨"java/lang/String", "<init>", "([C)V"⟩ : MethodName)) rfl hown (mvT hZ (hw _ (List.mem_of_getElem? (i := 11) rfl))) (mvT hZ (hw _ (List.mem_of_getElem? (i := 12) rfl))) (mvT hZ (hw _ (List.mem_of_getElem? (i := 13) rfl))) (by decide) (backOf (W := 1) (own_i1_2 l Z a0 hw [] b8 b9 k9 ((p1 &&& (255 : Int32)).toUInt32.toUInt16.toUInt32.toInt32) ((((p1.toUInt32 >>> ((8 : Int32) &&& 31).toUInt32).toInt32) &&& (255 : Int32)).toUInt32.toUInt16.toUInt32.toInt32) (0 : Int32) cs h11 n0 O0_x11 SC hcs V11s A8_x11 F8_value_x11 F8_coder_x11 ge8 (own_chc _) (own_chc _) own_ch0) hZ (hw _ (List.mem_of_getElem? (i := 13) rfl)) (hw _ (List.mem_of_getElem? (i := 9) rfl)) (by decide) (by decide)) (g := (mkF m 89 #[.val (.int p0), .val (.int p1), .val (.int (2 : Int32)), .val (.int ((p1 &&& (255 : Int32)).toUInt32.toUInt16.toUInt32.toInt32)), .val (.int ((((p1.toUInt32 >>> ((8 : Int32) &&& 31).toUInt32).toInt32) &&& (255 : Int32)).toUInt32.toUInt16.toUInt32.toInt32)), .val (.int ((((p1.toUInt32 >>> ((16 : Int32) &&& 31).toUInt32).toInt32) &&& (255 : Int32)).toUInt32.toUInt16.toUInt32.toInt32))] [(.ref b9), (.ref b8), (.ref b8)])) rfl (by rw [hml]; rfl) (Steps.refl _) (a := b8) (argsL := [(.ref b9)]) (rest := [(.ref b8)]) (lenOf own_pd5 rfl) rfl (by show 2 * 0 + _ ≤ _; exact Nat.le_of_eq rfl) (hb hby own_d2_89) (fun _ _ => ⟨rfl, e11, (by decide : 2 + 1 ≤ _), (by decide : 6 + 2 ≤ _)⟩)
    dsimp only [Pt.U, Pt.locs, Pt.cells, Pt.slots] at X12 l12 y12 z12 st12 hQ12
    subst l12 y12 z12
    obtain ⟨rfl, N12q, K12, yy12, ky12, Ea12, Fv12, Fc12, Vy12⟩ := hQ12
    have N12 := Fr.app N11 N12q
    refine own_st (fun _ kt => st12.trans kt) ?_
    have hkk12 := Nat.le_trans hkk11 K12.1
    have O0_x12 := O0_x11.keep K12 (allS ge8 all0)
    have CR0_x12 := CR0_x11.trans (CHr.keep K12 (sfS Y8_x11 sf0) CR0_x11.1)
    have K0_x12 := K0_x11.trans K12 (allS (Or.inr sz8) all0)
    have Y8_x12 := Safe.keep K12 (sfS Y8_x11 sf0) CR0_x11.1 Y8_x11
    have A8_x12 := A8_x11.keep K12
    have Y9_x12 := Safe.keep K12 (sfS Y8_x11 sf0) CR0_x11.1 Y9_x11
    have V11s_x12 := V11s.keep K12 (ninS (Ne.symm ne9_b8) nin0)
    show own_Rch p e below _ T12 (mkF m 92 #[.val (.int p0), .val (.int p1), .val (.int (2 : Int32)), .val (.int ((p1 &&& (255 : Int32)).toUInt32.toUInt16.toUInt32.toInt32)), .val (.int ((((p1.toUInt32 >>> ((8 : Int32) &&& 31).toUInt32).toInt32) &&& (255 : Int32)).toUInt32.toUInt16.toUInt32.toInt32)), .val (.int ((((p1.toUInt32 >>> ((16 : Int32) &&& 31).toUInt32).toInt32) &&& (255 : Int32)).toUInt32.toUInt16.toUInt32.toInt32))] [(.ref b8)])
    refine own_retAH rfl rfl (by rw [hh0]; exact CR0_x12.trans (CHv.at (s := s) X12 hZ (own_hEL hw) CR0_x12.1)) (s := s) hS0 hkk12 X12 hx Bd.notSynchronized Bd.returns (hb hby own_d2_92) (by decide) (by decide) ?_
    exact ⟨_, [(own_b ((p1 &&& (255 : Int32)).toUInt32.toUInt16.toUInt32.toInt32)), (own_b ((((p1.toUInt32 >>> ((8 : Int32) &&& 31).toUInt32).toInt32) &&& (255 : Int32)).toUInt32.toUInt16.toUInt32.toInt32))], rfl, N12, K0_x12, ⟨_, _, Ea12, Fv12, Fc12, Vy12⟩, by simp⟩
  · rw [hm]
    show own_Rch p e below _ s₁ (mkF m 33 #[.val (.int p0), .val (.int p1), .val (.int (3 : Int32)), .val (.int ((p1 &&& (255 : Int32)).toUInt32.toUInt16.toUInt32.toInt32)), .val (.int ((((p1.toUInt32 >>> ((8 : Int32) &&& 31).toUInt32).toInt32) &&& (255 : Int32)).toUInt32.toUInt16.toUInt32.toInt32)), .val (.int ((((p1.toUInt32 >>> ((16 : Int32) &&& 31).toUInt32).toInt32) &&& (255 : Int32)).toUInt32.toUInt16.toUInt32.toInt32))] [])
    refine own_st (fun _ kt => XS.iloadN X0.here hx rfl (hb hby own_d2_33) rfl  kt) ?_
    show own_Rch p e below _ s₁ (mkF m 34 #[.val (.int p0), .val (.int p1), .val (.int (3 : Int32)), .val (.int ((p1 &&& (255 : Int32)).toUInt32.toUInt16.toUInt32.toInt32)), .val (.int ((((p1.toUInt32 >>> ((8 : Int32) &&& 31).toUInt32).toInt32) &&& (255 : Int32)).toUInt32.toUInt16.toUInt32.toInt32)), .val (.int ((((p1.toUInt32 >>> ((16 : Int32) &&& 31).toUInt32).toInt32) &&& (255 : Int32)).toUInt32.toUInt16.toUInt32.toInt32))] [(.int (3 : Int32))])
    refine own_st (fun _ kt => XS.ifYes X0.here hx rfl (pc0 := 34) (pc' := 48) rfl (hb hby own_d2_34) rfl ((if0 _ _).trans (feq ((by decide) : ¬ ((3 : Int32) = (0 : Int32)))).2) (by decide) (by decide) kt) ?_
    show own_Rch p e below _ s₁ (mkF m 48 #[.val (.int p0), .val (.int p1), .val (.int (3 : Int32)), .val (.int ((p1 &&& (255 : Int32)).toUInt32.toUInt16.toUInt32.toInt32)), .val (.int ((((p1.toUInt32 >>> ((8 : Int32) &&& 31).toUInt32).toInt32) &&& (255 : Int32)).toUInt32.toUInt16.toUInt32.toInt32)), .val (.int ((((p1.toUInt32 >>> ((16 : Int32) &&& 31).toUInt32).toInt32) &&& (255 : Int32)).toUInt32.toUInt16.toUInt32.toInt32))] [])
    refine own_st (fun _ kt => XS.iloadN X0.here hx rfl (hb hby own_d2_48) rfl  kt) ?_
    show own_Rch p e below _ s₁ (mkF m 49 #[.val (.int p0), .val (.int p1), .val (.int (3 : Int32)), .val (.int ((p1 &&& (255 : Int32)).toUInt32.toUInt16.toUInt32.toInt32)), .val (.int ((((p1.toUInt32 >>> ((8 : Int32) &&& 31).toUInt32).toInt32) &&& (255 : Int32)).toUInt32.toUInt16.toUInt32.toInt32)), .val (.int ((((p1.toUInt32 >>> ((16 : Int32) &&& 31).toUInt32).toInt32) &&& (255 : Int32)).toUInt32.toUInt16.toUInt32.toInt32))] [(.int (3 : Int32))])
    refine own_st (fun _ kt => XS.iconst X0.here hx rfl (hb hby own_d2_49) kt) ?_
    show own_Rch p e below _ s₁ (mkF m 50 #[.val (.int p0), .val (.int p1), .val (.int (3 : Int32)), .val (.int ((p1 &&& (255 : Int32)).toUInt32.toUInt16.toUInt32.toInt32)), .val (.int ((((p1.toUInt32 >>> ((8 : Int32) &&& 31).toUInt32).toInt32) &&& (255 : Int32)).toUInt32.toUInt16.toUInt32.toInt32)), .val (.int ((((p1.toUInt32 >>> ((16 : Int32) &&& 31).toUInt32).toInt32) &&& (255 : Int32)).toUInt32.toUInt16.toUInt32.toInt32))] [(.int (1 : Int32)), (.int (3 : Int32))])
    refine own_st (fun _ kt => XS.icmpYes X0.here hx rfl (pc0 := 50) (pc' := 68) rfl (hb hby own_d2_50) rfl (feq ((by decide) : ¬ ((3 : Int32) = (1 : Int32)))).2 (by decide) (by decide) kt) ?_
    show own_Rch p e below _ s₁ (mkF m 68 #[.val (.int p0), .val (.int p1), .val (.int (3 : Int32)), .val (.int ((p1 &&& (255 : Int32)).toUInt32.toUInt16.toUInt32.toInt32)), .val (.int ((((p1.toUInt32 >>> ((8 : Int32) &&& 31).toUInt32).toInt32) &&& (255 : Int32)).toUInt32.toUInt16.toUInt32.toInt32)), .val (.int ((((p1.toUInt32 >>> ((16 : Int32) &&& 31).toUInt32).toInt32) &&& (255 : Int32)).toUInt32.toUInt16.toUInt32.toInt32))] [])
    refine own_st (fun _ kt => XS.iloadN X0.here hx rfl (hb hby own_d2_68) rfl  kt) ?_
    show own_Rch p e below _ s₁ (mkF m 69 #[.val (.int p0), .val (.int p1), .val (.int (3 : Int32)), .val (.int ((p1 &&& (255 : Int32)).toUInt32.toUInt16.toUInt32.toInt32)), .val (.int ((((p1.toUInt32 >>> ((8 : Int32) &&& 31).toUInt32).toInt32) &&& (255 : Int32)).toUInt32.toUInt16.toUInt32.toInt32)), .val (.int ((((p1.toUInt32 >>> ((16 : Int32) &&& 31).toUInt32).toInt32) &&& (255 : Int32)).toUInt32.toUInt16.toUInt32.toInt32))] [(.int (3 : Int32))])
    refine own_st (fun _ kt => XS.iconst X0.here hx rfl (hb hby own_d2_69) kt) ?_
    show own_Rch p e below _ s₁ (mkF m 70 #[.val (.int p0), .val (.int p1), .val (.int (3 : Int32)), .val (.int ((p1 &&& (255 : Int32)).toUInt32.toUInt16.toUInt32.toInt32)), .val (.int ((((p1.toUInt32 >>> ((8 : Int32) &&& 31).toUInt32).toInt32) &&& (255 : Int32)).toUInt32.toUInt16.toUInt32.toInt32)), .val (.int ((((p1.toUInt32 >>> ((16 : Int32) &&& 31).toUInt32).toInt32) &&& (255 : Int32)).toUInt32.toUInt16.toUInt32.toInt32))] [(.int (2 : Int32)), (.int (3 : Int32))])
    refine own_st (fun _ kt => XS.icmpYes X0.here hx rfl (pc0 := 70) (pc' := 93) rfl (hb hby own_d2_70) rfl (feq ((by decide) : ¬ ((3 : Int32) = (2 : Int32)))).2 (by decide) (by decide) kt) ?_
    show own_Rch p e below _ s₁ (mkF m 93 #[.val (.int p0), .val (.int p1), .val (.int (3 : Int32)), .val (.int ((p1 &&& (255 : Int32)).toUInt32.toUInt16.toUInt32.toInt32)), .val (.int ((((p1.toUInt32 >>> ((8 : Int32) &&& 31).toUInt32).toInt32) &&& (255 : Int32)).toUInt32.toUInt16.toUInt32.toInt32)), .val (.int ((((p1.toUInt32 >>> ((16 : Int32) &&& 31).toUInt32).toInt32) &&& (255 : Int32)).toUInt32.toUInt16.toUInt32.toInt32))] [])
    obtain ⟨T13, h13, X13, e13, E13, A13, D13, U13, st13⟩ := newO X0 hx hZ hown (hw _ (List.mem_of_getElem? (i := 7) rfl)) (hw _ (List.mem_of_getElem? (i := 8) rfl)) (hw _ (List.mem_of_getElem? (i := 9) rfl)) e0 (g := (mkF m 93 #[.val (.int p0), .val (.int p1), .val (.int (3 : Int32)), .val (.int ((p1 &&& (255 : Int32)).toUInt32.toUInt16.toUInt32.toInt32)), .val (.int ((((p1.toUInt32 >>> ((8 : Int32) &&& 31).toUInt32).toInt32) &&& (255 : Int32)).toUInt32.toUInt16.toUInt32.toInt32)), .val (.int ((((p1.toUInt32 >>> ((16 : Int32) &&& 31).toUInt32).toInt32) &&& (255 : Int32)).toUInt32.toUInt16.toUInt32.toInt32))] [])) rfl (hb hby own_d2_93) (by decide) (by decide)
    obtain ⟨b13, g13⟩ : ∃ z, z = h0.size := ⟨_, rfl⟩
    rw [← g13] at A13 D13 U13 st13
    have ge13 : n0 ≤ b13 := by rw [g13]; exact own_old_le O0
    have sz13 : h0.size ≤ b13 := by rw [g13]; exact K0.1
    have hkk13 := Nat.le_trans hk0 E13.1
    have O0_x13 := O0.ext E13
    have CR0_x13 := CR0.trans (CHr.ext E13 CR0.1)
    have K0_x13 := K0.ext E13
    have Y13 := Safe.ext E13 CR0.1 (Safe.new (Nat.le_of_eq g13.symm))
    refine own_st st13 ?_
    have F13_coder : Fld Z h13 b13 "java/lang/String" "coder" "B" (.int (0 : Int32)) := D13 (Or.inr (hw _ (List.mem_of_getElem? (i := 34) rfl))) (ty := .byte) (by decide)
    have F13_value : Fld Z h13 b13 "java/lang/String" "value" "[B" .null := D13 (Or.inr (hw _ (List.mem_of_getElem? (i := 36) rfl))) (ty := (.array .byte)) (by decide)
    show own_Rch p e below _ T13 (mkF m 96 #[.val (.int p0), .val (.int p1), .val (.int (3 : Int32)), .val (.int ((p1 &&& (255 : Int32)).toUInt32.toUInt16.toUInt32.toInt32)), .val (.int ((((p1.toUInt32 >>> ((8 : Int32) &&& 31).toUInt32).toInt32) &&& (255 : Int32)).toUInt32.toUInt16.toUInt32.toInt32)), .val (.int ((((p1.toUInt32 >>> ((16 : Int32) &&& 31).toUInt32).toInt32) &&& (255 : Int32)).toUInt32.toUInt16.toUInt32.toInt32))] [(.ref b13)])
    refine own_st (fun _ kt => XS.dup X13.here hx rfl (hb hby own_d2_96) rfl rfl kt) ?_
    show own_Rch p e below _ T13 (mkF m 97 #[.val (.int p0), .val (.int p1), .val (.int (3 : Int32)), .val (.int ((p1 &&& (255 : Int32)).toUInt32.toUInt16.toUInt32.toInt32)), .val (.int ((((p1.toUInt32 >>> ((8 : Int32) &&& 31).toUInt32).toInt32) &&& (255 : Int32)).toUInt32.toUInt16.toUInt32.toInt32)), .val (.int ((((p1.toUInt32 >>> ((16 : Int32) &&& 31).toUInt32).toInt32) &&& (255 : Int32)).toUInt32.toUInt16.toUInt32.toInt32))] [(.ref b13), (.ref b13)])
    refine own_st (fun _ kt => XS.iconst X13.here hx rfl (hb hby own_d2_97) kt) ?_
    show own_Rch p e below _ T13 (mkF m 98 #[.val (.int p0), .val (.int p1), .val (.int (3 : Int32)), .val (.int ((p1 &&& (255 : Int32)).toUInt32.toUInt16.toUInt32.toInt32)), .val (.int ((((p1.toUInt32 >>> ((8 : Int32) &&& 31).toUInt32).toInt32) &&& (255 : Int32)).toUInt32.toUInt16.toUInt32.toInt32)), .val (.int ((((p1.toUInt32 >>> ((16 : Int32) &&& 31).toUInt32).toInt32) &&& (255 : Int32)).toUInt32.toUInt16.toUInt32.toInt32))] [(.int (3 : Int32)), (.ref b13), (.ref b13)])
    obtain ⟨T14, h14, k14, X14, e14, E14, A14, st14⟩ := newP X13 hx hZ (hw _ (List.mem_of_getElem? (i := 10) rfl)) e13 (g := (mkF m 98 #[.val (.int p0), .val (.int p1), .val (.int (3 : Int32)), .val (.int ((p1 &&& (255 : Int32)).toUInt32.toUInt16.toUInt32.toInt32)), .val (.int ((((p1.toUInt32 >>> ((8 : Int32) &&& 31).toUInt32).toInt32) &&& (255 : Int32)).toUInt32.toUInt16.toUInt32.toInt32)), .val (.int ((((p1.toUInt32 >>> ((16 : Int32) &&& 31).toUInt32).toInt32) &&& (255 : Int32)).toUInt32.toUInt16.toUInt32.toInt32))] [(.int (3 : Int32)), (.ref b13), (.ref b13)])) rfl (hb hby own_d2_98) rfl (by decide) (cap := 3) (by decide) (by decide) (by decide) (by decide)
    obtain ⟨b14, g14⟩ : ∃ z, z = h13.size := ⟨_, rfl⟩
    rw [← g14] at A14 st14
    have ge14 : n0 ≤ b14 := by rw [g14]; exact own_old_le O0_x13
    have ne14_b13 : b13 ≠ b14 := by rw [g14]; exact Nat.ne_of_lt F13_coder.lt
    have sz14 : h0.size ≤ b14 := by rw [g14]; exact K0_x13.1
    have hkk14 := Nat.le_trans hkk13 E14.1
    have O0_x14 := O0_x13.ext E14
    have CR0_x14 := CR0_x13.trans (CHr.ext E14 CR0_x13.1)
    have K0_x14 := K0_x13.ext E14
    have Y13_x14 := Safe.ext E14 CR0_x13.1 Y13
    have F13_coder_x14 := F13_coder.ext E14
    have F13_value_x14 := F13_value.ext E14
    have A13_x14 := A13.ext E14
    have Y14 := Safe.ext E14 CR0_x13.1 (Safe.new (Nat.le_of_eq g14.symm))
    refine own_st st14 ?_
    have V14 := Arv.new A14 (by decide)
    have V14p : Arv Z h14 b14 k14 .char (3 : Int32) [(.int (0 : Int32)), (.int (0 : Int32)), (.int (0 : Int32))] (.int (0 : Int32)) := V14.pad (pad_rep [] (.int (0 : Int32)) 3)
    show own_Rch p e below _ T14 (mkF m 100 #[.val (.int p0), .val (.int p1), .val (.int (3 : Int32)), .val (.int ((p1 &&& (255 : Int32)).toUInt32.toUInt16.toUInt32.toInt32)), .val (.int ((((p1.toUInt32 >>> ((8 : Int32) &&& 31).toUInt32).toInt32) &&& (255 : Int32)).toUInt32.toUInt16.toUInt32.toInt32)), .val (.int ((((p1.toUInt32 >>> ((16 : Int32) &&& 31).toUInt32).toInt32) &&& (255 : Int32)).toUInt32.toUInt16.toUInt32.toInt32))] [(.ref b14), (.ref b13), (.ref b13)])
    refine own_st (fun _ kt => XS.dup X14.here hx rfl (hb hby own_d2_100) rfl rfl kt) ?_
    show own_Rch p e below _ T14 (mkF m 101 #[.val (.int p0), .val (.int p1), .val (.int (3 : Int32)), .val (.int ((p1 &&& (255 : Int32)).toUInt32.toUInt16.toUInt32.toInt32)), .val (.int ((((p1.toUInt32 >>> ((8 : Int32) &&& 31).toUInt32).toInt32) &&& (255 : Int32)).toUInt32.toUInt16.toUInt32.toInt32)), .val (.int ((((p1.toUInt32 >>> ((16 : Int32) &&& 31).toUInt32).toInt32) &&& (255 : Int32)).toUInt32.toUInt16.toUInt32.toInt32))] [(.ref b14), (.ref b14), (.ref b13), (.ref b13)])
    refine own_st (fun _ kt => XS.iconst X14.here hx rfl (hb hby own_d2_101) kt) ?_
    show own_Rch p e below _ T14 (mkF m 102 #[.val (.int p0), .val (.int p1), .val (.int (3 : Int32)), .val (.int ((p1 &&& (255 : Int32)).toUInt32.toUInt16.toUInt32.toInt32)), .val (.int ((((p1.toUInt32 >>> ((8 : Int32) &&& 31).toUInt32).toInt32) &&& (255 : Int32)).toUInt32.toUInt16.toUInt32.toInt32)), .val (.int ((((p1.toUInt32 >>> ((16 : Int32) &&& 31).toUInt32).toInt32) &&& (255 : Int32)).toUInt32.toUInt16.toUInt32.toInt32))] [(.int (0 : Int32)), (.ref b14), (.ref b14), (.ref b13), (.ref b13)])
    refine own_st (fun _ kt => XS.iloadN X14.here hx rfl (hb hby own_d2_102) rfl  kt) ?_
    show own_Rch p e below _ T14 (mkF m 103 #[.val (.int p0), .val (.int p1), .val (.int (3 : Int32)), .val (.int ((p1 &&& (255 : Int32)).toUInt32.toUInt16.toUInt32.toInt32)), .val (.int ((((p1.toUInt32 >>> ((8 : Int32) &&& 31).toUInt32).toInt32) &&& (255 : Int32)).toUInt32.toUInt16.toUInt32.toInt32)), .val (.int ((((p1.toUInt32 >>> ((16 : Int32) &&& 31).toUInt32).toInt32) &&& (255 : Int32)).toUInt32.toUInt16.toUInt32.toInt32))] [(.int ((p1 &&& (255 : Int32)).toUInt32.toUInt16.toUInt32.toInt32)), (.int (0 : Int32)), (.ref b14), (.ref b14), (.ref b13), (.ref b13)])
    obtain ⟨cl15, Ar15, q15, S15, M15, H15, G15⟩ := id V14p
    have hin15 : ¬ ((0 : Int32) < 0 ∨ cl15.slots.size ≤ ((0 : Int32)).toNatClampNeg) := inb_of S15 ⟨by decide, by decide⟩
    obtain ⟨T15, h15, X15, e15, W15, st15⟩ := stC X14 hx hZ e14 Ar15 (j := (0 : Int32)) hin15 (g := (mkF m 103 #[.val (.int p0), .val (.int p1), .val (.int (3 : Int32)), .val (.int ((p1 &&& (255 : Int32)).toUInt32.toUInt16.toUInt32.toInt32)), .val (.int ((((p1.toUInt32 >>> ((8 : Int32) &&& 31).toUInt32).toInt32) &&& (255 : Int32)).toUInt32.toUInt16.toUInt32.toInt32)), .val (.int ((((p1.toUInt32 >>> ((16 : Int32) &&& 31).toUInt32).toInt32) &&& (255 : Int32)).toUInt32.toUInt16.toUInt32.toInt32))] [(.int ((p1 &&& (255 : Int32)).toUInt32.toUInt16.toUInt32.toInt32)), (.int (0 : Int32)), (.ref b14), (.ref b14), (.ref b13), (.ref b13)])) rfl rfl (hb hby own_d2_103)
    have V15 := Arv.set Ar15 q15 S15 M15 H15 G15 (fits_nar_char _) W15 0 rfl (Nat.le_of_ble_eq_true rfl)
    have V15s : Arv Z h15 b14 k14 .char (3 : Int32) [(.int (nar .char ((p1 &&& (255 : Int32)).toUInt32.toUInt16.toUInt32.toInt32))), (.int (0 : Int32)), (.int (0 : Int32))] (.int (0 : Int32)) := V15
    have N15 := Fr.snoc X15 N0 ge14
    refine own_st st15 ?_
    have hkk15 := Nat.le_trans hkk14 (Nat.le_of_eq (Wr.size W15).symm)
    have O0_x15 := O0_x14.wr W15 ge14
    have CR0_x15 := CR0_x14.trans (CHr.wr W15 Y14 CR0_x14.1)
    have K0_x15 := K0_x14.wr W15 (Or.inr sz14)
    have Y13_x15 := Safe.wr W15 Y14 CR0_x14.1 Y13_x14
    have F13_coder_x15 := F13_coder_x14.other W15 (Or.inl ne14_b13)
    have F13_value_x15 := F13_value_x14.other W15 (Or.inl ne14_b13)
    have A13_x15 := A13_x14.wr W15
    have Y14_x15 := Safe.wr W15 Y14 CR0_x14.1 Y14
    show own_Rch p e below _ T15 (mkF m 104 #[.val (.int p0), .val (.int p1), .val (.int (3 : Int32)), .val (.int ((p1 &&& (255 : Int32)).toUInt32.toUInt16.toUInt32.toInt32)), .val (.int ((((p1.toUInt32 >>> ((8 : Int32) &&& 31).toUInt32).toInt32) &&& (255 : Int32)).toUInt32.toUInt16.toUInt32.toInt32)), .val (.int ((((p1.toUInt32 >>> ((16 : Int32) &&& 31).toUInt32).toInt32) &&& (255 : Int32)).toUInt32.toUInt16.toUInt32.toInt32))] [(.ref b14), (.ref b13), (.ref b13)])
    refine own_st (fun _ kt => XS.dup X15.here hx rfl (hb hby own_d2_104) rfl rfl kt) ?_
    show own_Rch p e below _ T15 (mkF m 105 #[.val (.int p0), .val (.int p1), .val (.int (3 : Int32)), .val (.int ((p1 &&& (255 : Int32)).toUInt32.toUInt16.toUInt32.toInt32)), .val (.int ((((p1.toUInt32 >>> ((8 : Int32) &&& 31).toUInt32).toInt32) &&& (255 : Int32)).toUInt32.toUInt16.toUInt32.toInt32)), .val (.int ((((p1.toUInt32 >>> ((16 : Int32) &&& 31).toUInt32).toInt32) &&& (255 : Int32)).toUInt32.toUInt16.toUInt32.toInt32))] [(.ref b14), (.ref b14), (.ref b13), (.ref b13)])
    refine own_st (fun _ kt => XS.iconst X15.here hx rfl (hb hby own_d2_105) kt) ?_
    show own_Rch p e below _ T15 (mkF m 106 #[.val (.int p0), .val (.int p1), .val (.int (3 : Int32)), .val (.int ((p1 &&& (255 : Int32)).toUInt32.toUInt16.toUInt32.toInt32)), .val (.int ((((p1.toUInt32 >>> ((8 : Int32) &&& 31).toUInt32).toInt32) &&& (255 : Int32)).toUInt32.toUInt16.toUInt32.toInt32)), .val (.int ((((p1.toUInt32 >>> ((16 : Int32) &&& 31).toUInt32).toInt32) &&& (255 : Int32)).toUInt32.toUInt16.toUInt32.toInt32))] [(.int (1 : Int32)), (.ref b14), (.ref b14), (.ref b13), (.ref b13)])
    refine own_st (fun _ kt => XS.iload X15.here hx rfl (hb hby own_d2_106) rfl  kt) ?_
    show own_Rch p e below _ T15 (mkF m 108 #[.val (.int p0), .val (.int p1), .val (.int (3 : Int32)), .val (.int ((p1 &&& (255 : Int32)).toUInt32.toUInt16.toUInt32.toInt32)), .val (.int ((((p1.toUInt32 >>> ((8 : Int32) &&& 31).toUInt32).toInt32) &&& (255 : Int32)).toUInt32.toUInt16.toUInt32.toInt32)), .val (.int ((((p1.toUInt32 >>> ((16 : Int32) &&& 31).toUInt32).toInt32) &&& (255 : Int32)).toUInt32.toUInt16.toUInt32.toInt32))] [(.int ((((p1.toUInt32 >>> ((8 : Int32) &&& 31).toUInt32).toInt32) &&& (255 : Int32)).toUInt32.toUInt16.toUInt32.toInt32)), (.int (1 : Int32)), (.ref b14), (.ref b14), (.ref b13), (.ref b13)])
    obtain ⟨cl16, Ar16, q16, S16, M16, H16, G16⟩ := id V15s
    have hin16 : ¬ ((1 : Int32) < 0 ∨ cl16.slots.size ≤ ((1 : Int32)).toNatClampNeg) := inb_of S16 ⟨by decide, by decide⟩
    obtain ⟨T16, h16, X16, e16, W16, st16⟩ := stC X15 hx hZ e15 Ar16 (j := (1 : Int32)) hin16 (g := (mkF m 108 #[.val (.int p0), .val (.int p1), .val (.int (3 : Int32)), .val (.int ((p1 &&& (255 : Int32)).toUInt32.toUInt16.toUInt32.toInt32)), .val (.int ((((p1.toUInt32 >>> ((8 : Int32) &&& 31).toUInt32).toInt32) &&& (255 : Int32)).toUInt32.toUInt16.toUInt32.toInt32)), .val (.int ((((p1.toUInt32 >>> ((16 : Int32) &&& 31).toUInt32).toInt32) &&& (255 : Int32)).toUInt32.toUInt16.toUInt32.toInt32))] [(.int ((((p1.toUInt32 >>> ((8 : Int32) &&& 31).toUInt32).toInt32) &&& (255 : Int32)).toUInt32.toUInt16.toUInt32.toInt32)), (.int (1 : Int32)), (.ref b14), (.ref b14), (.ref b13), (.ref b13)])) rfl rfl (hb hby own_d2_108)
    have V16 := Arv.set Ar16 q16 S16 M16 H16 G16 (fits_nar_char _) W16 1 rfl (Nat.le_of_ble_eq_true rfl)
    have V16s : Arv Z h16 b14 k14 .char (3 : Int32) [(.int (nar .char ((p1 &&& (255 : Int32)).toUInt32.toUInt16.toUInt32.toInt32))), (.int (nar .char ((((p1.toUInt32 >>> ((8 : Int32) &&& 31).toUInt32).toInt32) &&& (255 : Int32)).toUInt32.toUInt16.toUInt32.toInt32))), (.int (0 : Int32))] (.int (0 : Int32)) := V16
    have N16 := Fr.snoc X16 N15 ge14
    refine own_st st16 ?_
    have hkk16 := Nat.le_trans hkk15 (Nat.le_of_eq (Wr.size W16).symm)
    have O0_x16 := O0_x15.wr W16 ge14
    have CR0_x16 := CR0_x15.trans (CHr.wr W16 Y14_x15 CR0_x15.1)
    have K0_x16 := K0_x15.wr W16 (Or.inr sz14)
    have Y13_x16 := Safe.wr W16 Y14_x15 CR0_x15.1 Y13_x15
    have F13_coder_x16 := F13_coder_x15.other W16 (Or.inl ne14_b13)
    have F13_value_x16 := F13_value_x15.other W16 (Or.inl ne14_b13)
    have A13_x16 := A13_x15.wr W16
    have Y14_x16 := Safe.wr W16 Y14_x15 CR0_x15.1 Y14_x15
    show own_Rch p e below _ T16 (mkF m 109 #[.val (.int p0), .val (.int p1), .val (.int (3 : Int32)), .val (.int ((p1 &&& (255 : Int32)).toUInt32.toUInt16.toUInt32.toInt32)), .val (.int ((((p1.toUInt32 >>> ((8 : Int32) &&& 31).toUInt32).toInt32) &&& (255 : Int32)).toUInt32.toUInt16.toUInt32.toInt32)), .val (.int ((((p1.toUInt32 >>> ((16 : Int32) &&& 31).toUInt32).toInt32) &&& (255 : Int32)).toUInt32.toUInt16.toUInt32.toInt32))] [(.ref b14), (.ref b13), (.ref b13)])
    refine own_st (fun _ kt => XS.dup X16.here hx rfl (hb hby own_d2_109) rfl rfl kt) ?_
    show own_Rch p e below _ T16 (mkF m 110 #[.val (.int p0), .val (.int p1), .val (.int (3 : Int32)), .val (.int ((p1 &&& (255 : Int32)).toUInt32.toUInt16.toUInt32.toInt32)), .val (.int ((((p1.toUInt32 >>> ((8 : Int32) &&& 31).toUInt32).toInt32) &&& (255 : Int32)).toUInt32.toUInt16.toUInt32.toInt32)), .val (.int ((((p1.toUInt32 >>> ((16 : Int32) &&& 31).toUInt32).toInt32) &&& (255 : Int32)).toUInt32.toUInt16.toUInt32.toInt32))] [(.ref b14), (.ref b14), (.ref b13), (.ref b13)])
    refine own_st (fun _ kt => XS.iconst X16.here hx rfl (hb hby own_d2_110) kt) ?_
    show own_Rch p e below _ T16 (mkF m 111 #[.val (.int p0), .val (.int p1), .val (.int (3 : Int32)), .val (.int ((p1 &&& (255 : Int32)).toUInt32.toUInt16.toUInt32.toInt32)), .val (.int ((((p1.toUInt32 >>> ((8 : Int32) &&& 31).toUInt32).toInt32) &&& (255 : Int32)).toUInt32.toUInt16.toUInt32.toInt32)), .val (.int ((((p1.toUInt32 >>> ((16 : Int32) &&& 31).toUInt32).toInt32) &&& (255 : Int32)).toUInt32.toUInt16.toUInt32.toInt32))] [(.int (2 : Int32)), (.ref b14), (.ref b14), (.ref b13), (.ref b13)])
    refine own_st (fun _ kt => XS.iload X16.here hx rfl (hb hby own_d2_111) rfl  kt) ?_
    show own_Rch p e below _ T16 (mkF m 113 #[.val (.int p0), .val (.int p1), .val (.int (3 : Int32)), .val (.int ((p1 &&& (255 : Int32)).toUInt32.toUInt16.toUInt32.toInt32)), .val (.int ((((p1.toUInt32 >>> ((8 : Int32) &&& 31).toUInt32).toInt32) &&& (255 : Int32)).toUInt32.toUInt16.toUInt32.toInt32)), .val (.int ((((p1.toUInt32 >>> ((16 : Int32) &&& 31).toUInt32).toInt32) &&& (255 : Int32)).toUInt32.toUInt16.toUInt32.toInt32))] [(.int ((((p1.toUInt32 >>> ((16 : Int32) &&& 31).toUInt32).toInt32) &&& (255 : Int32)).toUInt32.toUInt16.toUInt32.toInt32)), (.int (2 : Int32)), (.ref b14), (.ref b14), (.ref b13), (.ref b13)])
    obtain ⟨cl17, Ar17, q17, S17, M17, H17, G17⟩ := id V16s
    have hin17 : ¬ ((2 : Int32) < 0 ∨ cl17.slots.size ≤ ((2 : Int32)).toNatClampNeg) := inb_of S17 ⟨by decide, by decide⟩
    obtain ⟨T17, h17, X17, e17, W17, st17⟩ := stC X16 hx hZ e16 Ar17 (j := (2 : Int32)) hin17 (g := (mkF m 113 #[.val (.int p0), .val (.int p1), .val (.int (3 : Int32)), .val (.int ((p1 &&& (255 : Int32)).toUInt32.toUInt16.toUInt32.toInt32)), .val (.int ((((p1.toUInt32 >>> ((8 : Int32) &&& 31).toUInt32).toInt32) &&& (255 : Int32)).toUInt32.toUInt16.toUInt32.toInt32)), .val (.int ((((p1.toUInt32 >>> ((16 : Int32) &&& 31).toUInt32).toInt32) &&& (255 : Int32)).toUInt32.toUInt16.toUInt32.toInt32))] [(.int ((((p1.toUInt32 >>> ((16 : Int32) &&& 31).toUInt32).toInt32) &&& (255 : Int32)).toUInt32.toUInt16.toUInt32.toInt32)), (.int (2 : Int32)), (.ref b14), (.ref b14), (.ref b13), (.ref b13)])) rfl rfl (hb hby own_d2_113)
    have V17 := Arv.set Ar17 q17 S17 M17 H17 G17 (fits_nar_char _) W17 2 rfl (Nat.le_of_ble_eq_true rfl)
    have V17s : Arv Z h17 b14 k14 .char (3 : Int32) [(.int (nar .char ((p1 &&& (255 : Int32)).toUInt32.toUInt16.toUInt32.toInt32))), (.int (nar .char ((((p1.toUInt32 >>> ((8 : Int32) &&& 31).toUInt32).toInt32) &&& (255 : Int32)).toUInt32.toUInt16.toUInt32.toInt32))), (.int (nar .char ((((p1.toUInt32 >>> ((16 : Int32) &&& 31).toUInt32).toInt32) &&& (255 : Int32)).toUInt32.toUInt16.toUInt32.toInt32)))] (.int (0 : Int32)) := V17
    have N17 := Fr.snoc X17 N16 ge14
    refine own_st st17 ?_
    have hkk17 := Nat.le_trans hkk16 (Nat.le_of_eq (Wr.size W17).symm)
    have O0_x17 := O0_x16.wr W17 ge14
    have CR0_x17 := CR0_x16.trans (CHr.wr W17 Y14_x16 CR0_x16.1)
    have K0_x17 := K0_x16.wr W17 (Or.inr sz14)
    have Y13_x17 := Safe.wr W17 Y14_x16 CR0_x16.1 Y13_x16
    have F13_coder_x17 := F13_coder_x16.other W17 (Or.inl ne14_b13)
    have F13_value_x17 := F13_value_x16.other W17 (Or.inl ne14_b13)
    have A13_x17 := A13_x16.wr W17
    have Y14_x17 := Safe.wr W17 Y14_x16 CR0_x16.1 Y14_x16
    show own_Rch p e below _ T17 (mkF m 114 #[.val (.int p0), .val (.int p1), .val (.int (3 : Int32)), .val (.int ((p1 &&& (255 : Int32)).toUInt32.toUInt16.toUInt32.toInt32)), .val (.int ((((p1.toUInt32 >>> ((8 : Int32) &&& 31).toUInt32).toInt32) &&& (255 : Int32)).toUInt32.toUInt16.toUInt32.toInt32)), .val (.int ((((p1.toUInt32 >>> ((16 : Int32) &&& 31).toUInt32).toInt32) &&& (255 : Int32)).toUInt32.toUInt16.toUInt32.toInt32))] [(.ref b14), (.ref b13), (.ref b13)])
    obtain ⟨_, _, ⟨T18, L18, k18, n18⟩, -, X18, ⟨Lc18, hQ18, l18, y18, z18⟩, st18⟩ := X17.specialBack hx (y := (⟨"java/lang/String", "<init>", "([C)V"⟩ : MethodName)) rfl hown (mvT hZ (hw _ (List.mem_of_getElem? (i := 11) rfl))) (mvT hZ (hw _ (List.mem_of_getElem? (i := 12) rfl))) (mvT hZ (hw _ (List.mem_of_getElem? (i := 13) rfl))) (by decide) (backOf (W := 1) (own_i1_3 l Z a0 hw [] b13 b14 k14 ((p1 &&& (255 : Int32)).toUInt32.toUInt16.toUInt32.toInt32) ((((p1.toUInt32 >>> ((8 : Int32) &&& 31).toUInt32).toInt32) &&& (255 : Int32)).toUInt32.toUInt16.toUInt32.toInt32) ((((p1.toUInt32 >>> ((16 : Int32) &&& 31).toUInt32).toInt32) &&& (255 : Int32)).toUInt32.toUInt16.toUInt32.toInt32) cs h17 n0 O0_x17 SC hcs V17s A13_x17 F13_value_x17 F13_coder_x17 ge13 (own_chc _) (own_chc _) (own_chc _)) hZ (hw _ (List.mem_of_getElem? (i := 13) rfl)) (hw _ (List.mem_of_getElem? (i := 9) rfl)) (by decide) (by decide)) (g := (mkF m 114 #[.val (.int p0), .val (.int p1), .val (.int (3 : Int32)), .val (.int ((p1 &&& (255 : Int32)).toUInt32.toUInt16.toUInt32.toInt32)), .val (.int ((((p1.toUInt32 >>> ((8 : Int32) &&& 31).toUInt32).toInt32) &&& (255 : Int32)).toUInt32.toUInt16.toUInt32.toInt32)), .val (.int ((((p1.toUInt32 >>> ((16 : Int32) &&& 31).toUInt32).toInt32) &&& (255 : Int32)).toUInt32.toUInt16.toUInt32.toInt32))] [(.ref b14), (.ref b13), (.ref b13)])) rfl (by rw [hml]; rfl) (Steps.refl _) (a := b13) (argsL := [(.ref b14)]) (rest := [(.ref b13)]) (lenOf own_pd5 rfl) rfl (by show 2 * 0 + _ ≤ _; exact Nat.le_of_eq rfl) (hb hby own_d2_114) (fun _ _ => ⟨rfl, e17, (by decide : 2 + 1 ≤ _), (by decide : 7 + 3 ≤ _)⟩)
    dsimp only [Pt.U, Pt.locs, Pt.cells, Pt.slots] at X18 l18 y18 z18 st18 hQ18
    subst l18 y18 z18
    obtain ⟨rfl, N18q, K18, yy18, ky18, Ea18, Fv18, Fc18, Vy18⟩ := hQ18
    have N18 := Fr.app N17 N18q
    refine own_st (fun _ kt => st18.trans kt) ?_
    have hkk18 := Nat.le_trans hkk17 K18.1
    have O0_x18 := O0_x17.keep K18 (allS ge13 all0)
    have CR0_x18 := CR0_x17.trans (CHr.keep K18 (sfS Y13_x17 sf0) CR0_x17.1)
    have K0_x18 := K0_x17.trans K18 (allS (Or.inr sz13) all0)
    have Y13_x18 := Safe.keep K18 (sfS Y13_x17 sf0) CR0_x17.1 Y13_x17
    have A13_x18 := A13_x17.keep K18
    have Y14_x18 := Safe.keep K18 (sfS Y13_x17 sf0) CR0_x17.1 Y14_x17
    have V17s_x18 := V17s.keep K18 (ninS (Ne.symm ne14_b13) nin0)
    show own_Rch p e below _ T18 (mkF m 117 #[.val (.int p0), .val (.int p1), .val (.int (3 : Int32)), .val (.int ((p1 &&& (255 : Int32)).toUInt32.toUInt16.toUInt32.toInt32)), .val (.int ((((p1.toUInt32 >>> ((8 : Int32) &&& 31).toUInt32).toInt32) &&& (255 : Int32)).toUInt32.toUInt16.toUInt32.toInt32)), .val (.int ((((p1.toUInt32 >>> ((16 : Int32) &&& 31).toUInt32).toInt32) &&& (255 : Int32)).toUInt32.toUInt16.toUInt32.toInt32))] [(.ref b13)])
    refine own_retAH rfl rfl (by rw [hh0]; exact CR0_x18.trans (CHv.at (s := s) X18 hZ (own_hEL hw) CR0_x18.1)) (s := s) hS0 hkk18 X18 hx Bd.notSynchronized Bd.returns (hb hby own_d2_117) (by decide) (by decide) ?_
    exact ⟨_, [(own_b ((p1 &&& (255 : Int32)).toUInt32.toUInt16.toUInt32.toInt32)), (own_b ((((p1.toUInt32 >>> ((8 : Int32) &&& 31).toUInt32).toInt32) &&& (255 : Int32)).toUInt32.toUInt16.toUInt32.toInt32)), (own_b ((((p1.toUInt32 >>> ((16 : Int32) &&& 31).toUInt32).toInt32) &&& (255 : Int32)).toUInt32.toUInt16.toUInt32.toInt32))], rfl, N18, K0_x18, ⟨_, _, Ea18, Fv18, Fc18, Vy18⟩, by simp⟩
def own_Q_val (Z : State) (h0 : Heap) (n0 : Nat) (v : Option Value) (h : Heap) (L : List Loc) : Prop := ∃ (w : Value) (ls : List Int32), v = some w ∧ Fr n0 L ∧ Keep h0 h [] ∧ own_V Z h w ls
theorem own_argv {Z : State} {h0 h : Heap} {n0 : Nat} {v : Option Value} {L : List Loc} {b : Addr} {ls : List Int32} (S : own_Str Z h b ls) (hl : ls.length ≤ 3) (e : v = some (.ref b)) (N : Fr n0 L) (K : Keep h0 h []) : own_Q_val Z h0 n0 v h L := by
  rcases own_le3 hl with rfl | ⟨x0, rfl⟩ | ⟨x0, x1, rfl⟩ | ⟨x0, x1, x2, rfl⟩
  · exact ⟨_, _, e, N, K, Or.inr (Or.inl ⟨_, rfl, S, rfl⟩)⟩
  · exact ⟨_, _, e, N, K, Or.inr (Or.inr ⟨_, rfl, S, by rw [own_len1]; decide, Or.inl hl⟩)⟩
  · exact ⟨_, _, e, N, K, Or.inr (Or.inr ⟨_, rfl, S, by rw [own_len2]; decide, Or.inl hl⟩)⟩
  · exact ⟨_, _, e, N, K, Or.inr (Or.inr ⟨_, rfl, S, by rw [own_len3]; decide, Or.inl hl⟩)⟩
theorem own_ef1 (m : MethodId) (x0 : Int32) (x1 : Int32) (x2 : Int32) : entryFrame m #[(.int x0), (.int x1), (.int x2)] 3 = mkF m 0 #[.val (.int x0), .val (.int x1), .val (.int x2)] [] := by first | (simp [entryFrame, mkF, argsToLocals, Value.category]; done) | rfl
theorem own_d1_0 : decode method_3_code 0 = .ok (.iload_n 0, 1) := by decide +kernel
theorem own_d1_1 : decode method_3_code 1 = .ok (.iconst 1, 1) := by decide +kernel
theorem own_d1_2 : decode method_3_code 2 = .ok (.if_icmp .ne 5, 3) := by decide +kernel
theorem own_d1_5 : decode method_3_code 5 = .ok (.aconst_null, 1) := by decide +kernel
theorem own_d1_6 : decode method_3_code 6 = .ok (.areturn, 1) := by decide +kernel
theorem own_d1_7 : decode method_3_code 7 = .ok (.iload_n 0, 1) := by decide +kernel
theorem own_d1_8 : decode method_3_code 8 = .ok (.iconst 3, 1) := by decide +kernel
theorem own_d1_9 : decode method_3_code 9 = .ok (.if_icmp .ne 6, 3) := by decide +kernel
theorem own_d1_12 : decode method_3_code 12 = .ok (.ldc 12, 2) := by decide +kernel
theorem own_d1_14 : decode method_3_code 14 = .ok (.areturn, 1) := by decide +kernel
theorem own_d1_15 : decode method_3_code 15 = .ok (.iload_n 1, 1) := by decide +kernel
theorem own_d1_16 : decode method_3_code 16 = .ok (.iload_n 2, 1) := by decide +kernel
theorem own_d1_17 : decode method_3_code 17 = .ok (.invokestatic 14, 3) := by decide +kernel
theorem own_pd6 : parseMethodDescriptor "(II)Ljava/lang/String;" = some ⟨[.int, .int], some (.object "java/lang/String")⟩ := by decide +kernel
theorem own_d1_20 : decode method_3_code 20 = .ok (.areturn, 1) := by decide +kernel
set_option maxRecDepth 65536 in
set_option maxHeartbeats 40000000 in
theorem own_arg (l : Launch) (Z : State) (a0 : Array Value) (hw : ∀ d ∈ tables_1, d.before a0 Z = true) (ws : List Jvm.Cond) (p0 : Int32) (p1 : Int32) (p2 : Int32) (cs : Int32) (h0 : Heap) (n0 : Nat) (O0 : Old Z n0 h0) (SC : Sta Z Z.heap "java/lang/String" "COMPACT_STRINGS" "Z" (.int cs)) (hcs : ¬ cs = 0) :
    MetFree l (⟨"com/example/cicada/cicada/BeanDefinitionGetScopePinLaw", "arg", "(III)Ljava/lang/String;"⟩ : MethodName) (head1 (Jvm.Cond.code (⟨"com/example/cicada/cicada/BeanDefinitionGetScopePinLaw", "arg", "(III)Ljava/lang/String;"⟩ : MethodName) method_3_code 3 (some (.object "java/lang/String")) :: ws) ({ frames := 5, cells := 4, slots := 40, locals := 83 } : Room)) (fun args_ U => args_ = #[(.int p0), (.int p1), (.int p2)] ∧ Z.Warmed39 U.vm ∧ U.heap = h0 ∧ CHv Z consts_1 U.vm h0) (fun _ _ _ _ _ => True) (fun _ U o U' => ∃ v L, o = .returned v ∧ (own_Q_val Z h0 n0) v U'.heap L ∧ CHr Z consts_1 U.vm U.heap U'.vm U'.heap ∧ ReturnedEndW U o U' L ({ frames := 5, cells := 4, slots := 40, locals := 83 } : Room).cells ({ frames := 5, cells := 4, slots := 40, locals := 83 } : Room).slots) := by
  refine MetFree.of_bodySF (plainFor_of_name own_pn3) hisR ?_
  intro p e s m args below meth c s₁ Bd hml0 hP hK
  obtain ⟨rfl, hZ, hh, hCH⟩ := hP
  have hx := Bd.exec
  have hby := Bd.bytes
  have hml : c.maxLocals = 3 := hml0
  have hown : s.vm.findClass "com/example/cicada/cicada/BeanDefinitionGetScopePinLaw" = some m.cls := findClass_of_methodNamed Bd.named
  have hnm := (name_of_methodNamed Bd.named Bd.method).1
  have X0 : Stand p l e ({ frames := 5, cells := 4, slots := 40, locals := 83 } : Room) (s.setVm s.vm) m #[(.int p0), (.int p1), (.int p2)] below meth c s₁ [] 0 0 := Stand.of_body Bd
  have e0 : s₁.heap = h0 := by rw [← hh, Bd.state]; rfl
  have N0 := Fr.nil n0
  have hh0 : s.heap = h0 := hh
  have CR0 : CHr Z consts_1 s.vm h0 s.vm h0 := CHr.refl hCH
  have hS0 : s.Since s.vm 0 := own_since s
  have hk0 : 0 ≤ h0.size := Nat.zero_le _
  refine own_closeH (Z := Z) (EL := consts_1) (s := s) (Q := (own_Q_val Z h0 n0)) (C := (({ frames := 5, cells := 4, slots := 40, locals := 83 } : Room)).cells) (N := (({ frames := 5, cells := 4, slots := 40, locals := 83 } : Room)).slots) (own_st (fun _ kt => castTop (own_ef1 m p0 p1 p2) kt) ?_)
  have K0 := Keep.refl h0 []
  show own_Rch p e below _ s₁ (mkF m 0 #[.val (.int p0), .val (.int p1), .val (.int p2)] [])
  refine own_st (fun _ kt => XS.iloadN X0.here hx rfl (hb hby own_d1_0) rfl  kt) ?_
  show own_Rch p e below _ s₁ (mkF m 1 #[.val (.int p0), .val (.int p1), .val (.int p2)] [(.int p0)])
  refine own_st (fun _ kt => XS.iconst X0.here hx rfl (hb hby own_d1_1) kt) ?_
  show own_Rch p e below _ s₁ (mkF m 2 #[.val (.int p0), .val (.int p1), .val (.int p2)] [(.int (1 : Int32)), (.int p0)])
  by_cases hc2_1 : p0 = (1 : Int32)
  · -- pc 2: True
    refine own_st (fun _ kt => XS.icmpNo X0.here hx rfl (hb hby own_d1_2) rfl (teq hc2_1).2 kt) ?_
    show own_Rch p e below _ s₁ (mkF m 5 #[.val (.int p0), .val (.int p1), .val (.int p2)] [])
    refine own_st (fun _ kt => XS.aconstNull X0.here hx rfl (hb hby own_d1_5) kt) ?_
    show own_Rch p e below _ s₁ (mkF m 6 #[.val (.int p0), .val (.int p1), .val (.int p2)] [.null])
    refine own_retAH rfl rfl (by rw [hh0, e0]; exact CR0.trans (CHv.at (s := s) X0 hZ (own_hEL hw) CR0.1)) (s := s) hS0 (by rw [e0]; exact hk0) X0 hx Bd.notSynchronized Bd.returns (hb hby own_d1_6) (by decide) (by decide) ?_
    rw [e0]
    exact ⟨_, _, rfl, N0, K0, Or.inl ⟨rfl, rfl⟩⟩
  · -- pc 2: False
    refine own_st (fun _ kt => XS.icmpYes X0.here hx rfl (pc0 := 2) (pc' := 7) rfl (hb hby own_d1_2) rfl (feq hc2_1).2 (by decide) (by decide) kt) ?_
    show own_Rch p e below _ s₁ (mkF m 7 #[.val (.int p0), .val (.int p1), .val (.int p2)] [])
    refine own_st (fun _ kt => XS.iloadN X0.here hx rfl (hb hby own_d1_7) rfl  kt) ?_
    show own_Rch p e below _ s₁ (mkF m 8 #[.val (.int p0), .val (.int p1), .val (.int p2)] [(.int p0)])
    refine own_st (fun _ kt => XS.iconst X0.here hx rfl (hb hby own_d1_8) kt) ?_
    show own_Rch p e below _ s₁ (mkF m 9 #[.val (.int p0), .val (.int p1), .val (.int p2)] [(.int (3 : Int32)), (.int p0)])
    by_cases hc9_2 : p0 = (3 : Int32)
    · -- pc 9: True
      refine own_st (fun _ kt => XS.icmpNo X0.here hx rfl (hb hby own_d1_9) rfl (teq hc9_2).2 kt) ?_
      show own_Rch p e below _ s₁ (mkF m 12 #[.val (.int p0), .val (.int p1), .val (.int p2)] [])
      obtain ⟨sl3, T3, h3, ks3, sd3, kd3, X3, e3, E3, hS3, hk3, hZ3, hown3, Es3, Fc3, Fv3, Va3, -, -, CB3, Lt3, hne3, st3⟩ := ldcCH (s := s) X0 hx hZ hown (hw _ (List.mem_of_getElem? (i := 80) rfl)) (own_wS hw) e0 hS0 hk0 (own_hEL hw) (List.mem_of_getElem? (i := 2) rfl) CR0.1 (vs := [(.int (112 : Int32)), (.int (114 : Int32)), (.int (111 : Int32)), (.int (116 : Int32)), (.int (111 : Int32)), (.int (116 : Int32)), (.int (121 : Int32)), (.int (112 : Int32)), (.int (101 : Int32))]) (z := (9 : Int32)) ⟨by decide, by decide⟩ (by decide) (by decide) (g := (mkF m 12 #[.val (.int p0), .val (.int p1), .val (.int p2)] [])) rfl (hb hby own_d1_12) (n := 36) (by decide) (by decide) (by decide) (by decide)
      have O0_x3 := O0.ext E3
      have CR0_x3 := CR0.trans CB3
      have K0_x3 := K0.ext E3
      refine own_st st3 ?_
      show own_Rch p e below _ T3 (mkF m 14 #[.val (.int p0), .val (.int p1), .val (.int p2)] [(.ref sl3)])
      refine own_retAH rfl rfl (by rw [hh0, e3]; exact CR0_x3.trans (CHv.at (s := s) X3 hZ3 (own_hEL hw) CR0_x3.1)) (s := s) hS3 (by rw [e3]; exact hk3) X3 hx Bd.notSynchronized Bd.returns (hb hby own_d1_14) (by decide) (by decide) ?_
      rw [e3]
      exact ⟨_, own_P9, rfl, N0, K0_x3, Or.inr (Or.inr ⟨_, rfl, ⟨_, _, Es3, Fv3, Fc3, Va3⟩, by decide, Or.inr rfl⟩)⟩
    · -- pc 9: False
      refine own_st (fun _ kt => XS.icmpYes X0.here hx rfl (pc0 := 9) (pc' := 15) rfl (hb hby own_d1_9) rfl (feq hc9_2).2 (by decide) (by decide) kt) ?_
      show own_Rch p e below _ s₁ (mkF m 15 #[.val (.int p0), .val (.int p1), .val (.int p2)] [])
      refine own_st (fun _ kt => XS.iloadN X0.here hx rfl (hb hby own_d1_15) rfl  kt) ?_
      show own_Rch p e below _ s₁ (mkF m 16 #[.val (.int p0), .val (.int p1), .val (.int p2)] [(.int p1)])
      refine own_st (fun _ kt => XS.iloadN X0.here hx rfl (hb hby own_d1_16) rfl  kt) ?_
      show own_Rch p e below _ s₁ (mkF m 17 #[.val (.int p0), .val (.int p1), .val (.int p2)] [(.int p2), (.int p1)])
      obtain ⟨_, _, ⟨T4, L4, k4, n4⟩, -, X4, hSq4, hg4, ⟨Lc4, hQ4, l4, y4, z4, CB4⟩, st4⟩ := callSS X0 hx (y := (⟨"com/example/cicada/cicada/BeanDefinitionGetScopePinLaw", "draw", "(II)Ljava/lang/String;"⟩ : MethodName)) hown (mvT hZ (hw _ (List.mem_of_getElem? (i := 4) rfl))) (mvT hZ (hw _ (List.mem_of_getElem? (i := 5) rfl))) (mvT hZ (hw _ (List.mem_of_getElem? (i := 2) rfl))) (mvT hZ (hw _ (List.mem_of_getElem? (i := 6) rfl))) (by decide) (backOfSH (s := s) (W := 0) (own_draw l Z a0 hw [] p1 p2 cs h0 n0 O0 SC hcs) hZ (hw _ (List.mem_of_getElem? (i := 6) rfl)) (hw _ (List.mem_of_getElem? (i := 2) rfl)) (by decide) (by decide) (own_hEL hw) CR0.1) (g := (mkF m 17 #[.val (.int p0), .val (.int p1), .val (.int p2)] [(.int p2), (.int p1)])) rfl (by rw [hml]; rfl) (argsL := [(.int p1), (.int p2)]) (rest := []) (lenOf own_pd6 rfl) rfl (by show 2 * 0 + _ ≤ _; exact Nat.le_of_eq rfl) (hb hby own_d1_17) (fun _ _ => ⟨rfl, e0, (by decide : 0 + 4 ≤ _), (by decide : 0 + 10 ≤ _)⟩)
      dsimp only [Pt.U, Pt.locs, Pt.cells, Pt.slots] at X4 l4 y4 z4 st4 hQ4 hSq4 hg4 CB4
      subst l4 y4 z4
      obtain ⟨sb4, ll4, rfl, N4q, K4, Ss4, hl4⟩ := hQ4
      have N4 := Fr.app N0 N4q
      have hS4 := foldS (s := s) hS0 (by rw [e0]; exact hk0) hSq4 hg4
      have hZ4 : Z.Warmed39 T4.vm := State.Warmed39.trans (t := s.setVm s.vm) hZ hSq4.1
      have hown4 : T4.vm.findClass "com/example/cicada/cicada/BeanDefinitionGetScopePinLaw" = some m.cls := by rw [hSq4.1.alike.findClass]; exact hown
      refine own_st (fun _ kt => st4.trans kt) ?_
      have O0_x4 := O0.keep K4 all0
      have CR0_x4 := CR0.trans CB4
      have K0_x4 := K0.trans K4 all0
      show own_Rch p e below _ T4 (mkF m 20 #[.val (.int p0), .val (.int p1), .val (.int p2)] [(.ref sb4)])
      refine own_retAH rfl rfl (by rw [hh0]; exact CR0_x4.trans (CHv.at (s := s) X4 hZ4 (own_hEL hw) CR0_x4.1)) (s := s) hS4 (Nat.le_refl T4.heap.size) X4 hx Bd.notSynchronized Bd.returns (hb hby own_d1_20) (by decide) (by decide) ?_
      exact own_argv Ss4 hl4 rfl N4 K0_x4
/-- the definition, whose scope says the list l -/
def own_BD (Z : State) (h : Heap) (a : Addr) (l : List Int32) : Prop := Exa Z h a "com/example/cicada/cicada/BeanDefinition" ∧ (∃ u, Fld Z h a "com/example/cicada/cicada/BeanDefinition" "singleton" "Z" u) ∧ (∃ u, Fld Z h a "com/example/cicada/cicada/BeanDefinition" "prototype" "Z" u) ∧ ((Fld Z h a "com/example/cicada/cicada/BeanDefinition" "scope" "Ljava/lang/String;" .null ∧ l = own_S9) ∨ (∃ x, Fld Z h a "com/example/cicada/cicada/BeanDefinition" "scope" "Ljava/lang/String;" (.ref x) ∧ own_Str Z h x l ∧ ¬ own_len l = 0 ∧ (l.length ≤ 3 ∨ l = own_P9)))
theorem own_BD.keep0 {Z : State} {h h' : Heap} {a : Addr} {l : List Int32} (F : own_BD Z h a l) (K : Keep h h' []) : own_BD Z h' a l := by
  obtain ⟨E, ⟨u, h1⟩, ⟨w, h2⟩, h3⟩ := F
  refine ⟨E.keep K, ⟨u, h1.keep K nin0⟩, ⟨w, h2.keep K nin0⟩, ?_⟩
  rcases h3 with ⟨h3, e⟩ | ⟨x, h3, h4, e⟩
  · exact Or.inl ⟨h3.keep K nin0, e⟩
  · exact Or.inr ⟨x, h3.keep K nin0, h4.keep0 K, e⟩
theorem own_BD.ext {Z : State} {h h' : Heap} {a : Addr} {l : List Int32} (F : own_BD Z h a l) (K : Ext h h') : own_BD Z h' a l := by
  obtain ⟨E, ⟨u, h1⟩, ⟨w, h2⟩, h3⟩ := F
  refine ⟨E.ext K, ⟨u, h1.ext K⟩, ⟨w, h2.ext K⟩, ?_⟩
  rcases h3 with ⟨h3, e⟩ | ⟨x, h3, h4, e⟩
  · exact Or.inl ⟨h3.ext K, e⟩
  · exact Or.inr ⟨x, h3.ext K, h4.ext K, e⟩
theorem own_BD.lt {Z : State} {h : Heap} {a : Addr} {l : List Int32} (F : own_BD Z h a l) : a < h.size := F.1.lt
theorem own_pn4 : plainName "com/example/cicada/cicada/BeanDefinition" = true := by first | (simp [plainName, overriddenIn]; done) | decide +kernel
theorem own_ef9 (m : MethodId) (x0 : Addr) : entryFrame m #[(.ref x0)] 1 = mkF m 0 #[.val (.ref x0)] [] := by first | (simp [entryFrame, mkF, argsToLocals, Value.category]; done) | rfl
theorem own_d9_0 : decode prog_7_method_1_code 0 = .ok (.aload_n 0, 1) := by decide +kernel
theorem own_d9_1 : decode prog_7_method_1_code 1 = .ok (.invokespecial 1, 3) := by decide +kernel
theorem own_d9_4 : decode prog_7_method_1_code 4 = .ok (.aload_n 0, 1) := by decide +kernel
theorem own_d9_5 : decode prog_7_method_1_code 5 = .ok (.iconst 1, 1) := by decide +kernel
theorem own_d9_6 : decode prog_7_method_1_code 6 = .ok (.putfield 7, 3) := by decide +kernel
theorem own_d9_9 : decode prog_7_method_1_code 9 = .ok (.aload_n 0, 1) := by decide +kernel
theorem own_d9_10 : decode prog_7_method_1_code 10 = .ok (.getstatic 13, 3) := by decide +kernel
theorem own_d9_13 : decode prog_7_method_1_code 13 = .ok (.putfield 19, 3) := by decide +kernel
theorem own_d9_16 : decode prog_7_method_1_code 16 = .ok (.aload_n 0, 1) := by decide +kernel
theorem own_d9_17 : decode prog_7_method_1_code 17 = .ok (.iconst 1, 1) := by decide +kernel
theorem own_d9_18 : decode prog_7_method_1_code 18 = .ok (.putfield 22, 3) := by decide +kernel
theorem own_d9_21 : decode prog_7_method_1_code 21 = .ok (.aload_n 0, 1) := by decide +kernel
theorem own_d9_22 : decode prog_7_method_1_code 22 = .ok (.iconst 1, 1) := by decide +kernel
theorem own_d9_23 : decode prog_7_method_1_code 23 = .ok (.putfield 25, 3) := by decide +kernel
theorem own_d9_26 : decode prog_7_method_1_code 26 = .ok (.aload_n 0, 1) := by decide +kernel
theorem own_d9_27 : decode prog_7_method_1_code 27 = .ok (.iconst 1, 1) := by decide +kernel
theorem own_d9_28 : decode prog_7_method_1_code 28 = .ok (.putfield 28, 3) := by decide +kernel
theorem own_d9_31 : decode prog_7_method_1_code 31 = .ok (.aload_n 0, 1) := by decide +kernel
theorem own_d9_32 : decode prog_7_method_1_code 32 = .ok (.aconst_null, 1) := by decide +kernel
theorem own_d9_33 : decode prog_7_method_1_code 33 = .ok (.putfield 31, 3) := by decide +kernel
theorem own_d9_36 : decode prog_7_method_1_code 36 = .ok (.aload_n 0, 1) := by decide +kernel
theorem own_d9_37 : decode prog_7_method_1_code 37 = .ok (.aconst_null, 1) := by decide +kernel
theorem own_d9_38 : decode prog_7_method_1_code 38 = .ok (.putfield 35, 3) := by decide +kernel
theorem own_d9_41 : decode prog_7_method_1_code 41 = .ok (.return_, 1) := by decide +kernel
def own_Q_own_binit (Z : State) (a : Addr) (wn : Addr) (h0 : Heap) (n0 : Nat) (v : Option Value) (h : Heap) (L : List Loc) : Prop := v = none ∧ Fr n0 L ∧ Keep h0 h [a] ∧ own_BD Z h a own_S9
set_option maxRecDepth 65536 in
set_option maxHeartbeats 40000000 in
theorem own_binit (l : Launch) (Z : State) (a0 : Array Value) (hw : ∀ d ∈ tables_1, d.before a0 Z = true) (ws : List Jvm.Cond) (a : Addr) (wn : Addr) (h0 : Heap) (n0 : Nat) (O0 : Old Z n0 h0) (SN : Sta Z Z.heap "com/example/cicada/cicada/Autowire" "NO" "Lcom/example/cicada/cicada/Autowire;" (.ref wn)) (EA : Exa Z h0 a "com/example/cicada/cicada/BeanDefinition") (Q0 : Fld Z h0 a "com/example/cicada/cicada/BeanDefinition" "singleton" "Z" (.int (0 : Int32))) (Q1 : Fld Z h0 a "com/example/cicada/cicada/BeanDefinition" "autowireMode" "Lcom/example/cicada/cicada/Autowire;" .null) (Q2 : Fld Z h0 a "com/example/cicada/cicada/BeanDefinition" "autowireCandidate" "Z" (.int (0 : Int32))) (Q3 : Fld Z h0 a "com/example/cicada/cicada/BeanDefinition" "enforceInitMethod" "Z" (.int (0 : Int32))) (Q4 : Fld Z h0 a "com/example/cicada/cicada/BeanDefinition" "enforceDestroyMethod" "Z" (.int (0 : Int32))) (Q5 : Fld Z h0 a "com/example/cicada/cicada/BeanDefinition" "beanClassName" "Ljava/lang/String;" .null) (Q6 : Fld Z h0 a "com/example/cicada/cicada/BeanDefinition" "beanClass" "Ljava/lang/Class;" .null) (Q7 : Fld Z h0 a "com/example/cicada/cicada/BeanDefinition" "scope" "Ljava/lang/String;" .null) (Q8 : Fld Z h0 a "com/example/cicada/cicada/BeanDefinition" "prototype" "Z" (.int (0 : Int32))) (ga : n0 ≤ a) :
    MetFree l (⟨"com/example/cicada/cicada/BeanDefinition", "<init>", "()V"⟩ : MethodName) (head1 (Jvm.Cond.code (⟨"com/example/cicada/cicada/BeanDefinition", "<init>", "()V"⟩ : MethodName) prog_7_method_1_code 1 none :: ws) ({ frames := 1, cells := 0, slots := 0, locals := 12 } : Room)) (fun args_ U => args_ = #[(.ref a)] ∧ Z.Warmed39 U.vm ∧ U.heap = h0) (fun _ _ _ _ _ => True) (fun _ U o U' => ∃ v L, o = .returned v ∧ (own_Q_own_binit Z a wn h0 n0) v U'.heap L ∧ FrameEnd U o U' L ({ frames := 1, cells := 0, slots := 0, locals := 12 } : Room).cells ({ frames := 1, cells := 0, slots := 0, locals := 12 } : Room).slots) := by
  refine MetFree.of_bodySF (plainFor_of_name own_pn4) hisR ?_
  intro p e s m args below meth c s₁ Bd hml0 hP hK
  obtain ⟨rfl, hZ, hh⟩ := hP
  have hx := Bd.exec
  have hby := Bd.bytes
  have hml : c.maxLocals = 1 := hml0
  have hown : s.vm.findClass "com/example/cicada/cicada/BeanDefinition" = some m.cls := findClass_of_methodNamed Bd.named
  have hnm := (name_of_methodNamed Bd.named Bd.method).1
  have X0 : Stand p l e ({ frames := 1, cells := 0, slots := 0, locals := 12 } : Room) s m #[(.ref a)] below meth c s₁ [] 0 0 := Stand.of_body Bd
  have e0 : s₁.heap = h0 := by rw [← hh, Bd.state]; rfl
  have N0 := Fr.nil n0
  refine own_close (s := s) (Q := (own_Q_own_binit Z a wn h0 n0)) (C := (({ frames := 1, cells := 0, slots := 0, locals := 12 } : Room)).cells) (N := (({ frames := 1, cells := 0, slots := 0, locals := 12 } : Room)).slots) (own_st (fun _ kt => castTop (own_ef9 m a) kt) ?_)
  have K0 := Keep.refl h0 [a]
  show own_Rch p e below _ s₁ (mkF m 0 #[.val (.ref a)] [])
  refine own_st (fun _ kt => XS.aloadN X0.here hx rfl (hb hby own_d9_0) rfl rfl  kt) ?_
  show own_Rch p e below _ s₁ (mkF m 1 #[.val (.ref a)] [(.ref a)])
  obtain ⟨T1, X1, e1, st1⟩ := initO X0 hx hZ hown (hw _ (List.mem_of_getElem? (i := 43) rfl)) (hw _ (List.mem_of_getElem? (i := 19) rfl)) (hw _ (List.mem_of_getElem? (i := 20) rfl)) e0 (g := (mkF m 1 #[.val (.ref a)] [(.ref a)])) rfl (by rw [hml]; rfl) rfl (hb hby own_d9_1) (by decide) (W := 0) (by show 2 * 0 + _ ≤ _; exact Nat.le_of_eq rfl) (by decide)
  refine own_st st1 ?_
  show own_Rch p e below _ T1 (mkF m 4 #[.val (.ref a)] [])
  refine own_st (fun _ kt => XS.aloadN X1.here hx rfl (hb hby own_d9_4) rfl rfl  kt) ?_
  show own_Rch p e below _ T1 (mkF m 5 #[.val (.ref a)] [(.ref a)])
  refine own_st (fun _ kt => XS.iconst X1.here hx rfl (hb hby own_d9_5) kt) ?_
  show own_Rch p e below _ T1 (mkF m 6 #[.val (.ref a)] [(.int (1 : Int32)), (.ref a)])
  obtain ⟨T2, h2, X2, e2, W2, st2⟩ := putFN X1 hx hZ hown (hw _ (List.mem_of_getElem? (i := 44) rfl)) Via.refl e1 Q0 EA (Or.inl (hw _ (List.mem_of_getElem? (i := 45) rfl))) (hw _ (List.mem_of_getElem? (i := 38) rfl)) (ty := .boolean) (v' := (.int (1 : Int32))) (by decide) rfl (by decide) (g := (mkF m 6 #[.val (.ref a)] [(.int (1 : Int32)), (.ref a)])) rfl rfl (hb hby own_d9_6)
  refine own_st st2 ?_
  have Fw2 := Q0.same W2
  have N2 := Fr.snoc X2 N0 ga
  have O0_x2 := O0.wr W2 ga
  have EA_x2 := EA.wr W2
  have Q1_x2 := Q1.other W2 (Or.inr (slot_ne (Or.inl (hw _ (List.mem_of_getElem? (i := 50) rfl))) (Or.inl (hw _ (List.mem_of_getElem? (i := 45) rfl))) (by decide) (t := (.object "com/example/cicada/cicada/Autowire")) (t' := .boolean) (by decide) (by decide)))
  have Q2_x2 := Q2.other W2 (Or.inr (slot_ne (Or.inl (hw _ (List.mem_of_getElem? (i := 52) rfl))) (Or.inl (hw _ (List.mem_of_getElem? (i := 45) rfl))) (by decide) (t := .boolean) (t' := .boolean) (by decide) (by decide)))
  have Q3_x2 := Q3.other W2 (Or.inr (slot_ne (Or.inl (hw _ (List.mem_of_getElem? (i := 54) rfl))) (Or.inl (hw _ (List.mem_of_getElem? (i := 45) rfl))) (by decide) (t := .boolean) (t' := .boolean) (by decide) (by decide)))
  have Q4_x2 := Q4.other W2 (Or.inr (slot_ne (Or.inl (hw _ (List.mem_of_getElem? (i := 56) rfl))) (Or.inl (hw _ (List.mem_of_getElem? (i := 45) rfl))) (by decide) (t := .boolean) (t' := .boolean) (by decide) (by decide)))
  have Q5_x2 := Q5.other W2 (Or.inr (slot_ne (Or.inr (hw _ (List.mem_of_getElem? (i := 58) rfl))) (Or.inl (hw _ (List.mem_of_getElem? (i := 45) rfl))) (by decide) (t := (.object "java/lang/String")) (t' := .boolean) (by decide) (by decide)))
  have Q6_x2 := Q6.other W2 (Or.inr (slot_ne (Or.inr (hw _ (List.mem_of_getElem? (i := 60) rfl))) (Or.inl (hw _ (List.mem_of_getElem? (i := 45) rfl))) (by decide) (t := (.object "java/lang/Class")) (t' := .boolean) (by decide) (by decide)))
  have Q7_x2 := Q7.other W2 (Or.inr (slot_ne (Or.inl (hw _ (List.mem_of_getElem? (i := 67) rfl))) (Or.inl (hw _ (List.mem_of_getElem? (i := 45) rfl))) (by decide) (t := (.object "java/lang/String")) (t' := .boolean) (by decide) (by decide)))
  have Q8_x2 := Q8.other W2 (Or.inr (slot_ne (Or.inl (hw _ (List.mem_of_getElem? (i := 99) rfl))) (Or.inl (hw _ (List.mem_of_getElem? (i := 45) rfl))) (by decide) (t := .boolean) (t' := .boolean) (by decide) (by decide)))
  have K0_x2 := K0.wr W2 (Or.inl (List.mem_of_getElem? (i := 0) rfl))
  show own_Rch p e below _ T2 (mkF m 9 #[.val (.ref a)] [])
  refine own_st (fun _ kt => XS.aloadN X2.here hx rfl (hb hby own_d9_9) rfl rfl  kt) ?_
  show own_Rch p e below _ T2 (mkF m 10 #[.val (.ref a)] [(.ref a)])
  obtain ⟨T3, X3, e3, st3⟩ := getS2 X2 hx hZ hown (host := "") (Or.inl (hw _ (List.mem_of_getElem? (i := 46) rfl))) Via.refl e2 (SN.ext O0_x2.2) (g := (mkF m 10 #[.val (.ref a)] [(.ref a)])) rfl (hb hby own_d9_10)
  refine own_st st3 ?_
  show own_Rch p e below _ T3 (mkF m 13 #[.val (.ref a)] [(.ref wn), (.ref a)])
  obtain ⟨T4, h4, X4, e4, W4, st4⟩ := putF X3 hx hZ hown (host := "") (Or.inl (hw _ (List.mem_of_getElem? (i := 49) rfl))) Via.refl e3 Q1_x2 EA_x2 (Or.inl (hw _ (List.mem_of_getElem? (i := 50) rfl))) (hw _ (List.mem_of_getElem? (i := 38) rfl)) (ty := (.object "com/example/cicada/cicada/Autowire")) (by decide) rfl rfl (g := (mkF m 13 #[.val (.ref a)] [(.ref wn), (.ref a)])) rfl rfl (hb hby own_d9_13)
  refine own_st st4 ?_
  have Fw4 := Q1_x2.same W4
  have N4 := Fr.snoc X4 N2 ga
  have O0_x4 := O0_x2.wr W4 ga
  have EA_x4 := EA_x2.wr W4
  have Fw2_x4 := Fw2.other W4 (Or.inr (slot_ne (Or.inl (hw _ (List.mem_of_getElem? (i := 45) rfl))) (Or.inl (hw _ (List.mem_of_getElem? (i := 50) rfl))) (by decide) (t := .boolean) (t' := (.object "com/example/cicada/cicada/Autowire")) (by decide) (by decide)))
  have Q2_x4 := Q2_x2.other W4 (Or.inr (slot_ne (Or.inl (hw _ (List.mem_of_getElem? (i := 52) rfl))) (Or.inl (hw _ (List.mem_of_getElem? (i := 50) rfl))) (by decide) (t := .boolean) (t' := (.object "com/example/cicada/cicada/Autowire")) (by decide) (by decide)))
  have Q3_x4 := Q3_x2.other W4 (Or.inr (slot_ne (Or.inl (hw _ (List.mem_of_getElem? (i := 54) rfl))) (Or.inl (hw _ (List.mem_of_getElem? (i := 50) rfl))) (by decide) (t := .boolean) (t' := (.object "com/example/cicada/cicada/Autowire")) (by decide) (by decide)))
  have Q4_x4 := Q4_x2.other W4 (Or.inr (slot_ne (Or.inl (hw _ (List.mem_of_getElem? (i := 56) rfl))) (Or.inl (hw _ (List.mem_of_getElem? (i := 50) rfl))) (by decide) (t := .boolean) (t' := (.object "com/example/cicada/cicada/Autowire")) (by decide) (by decide)))
  have Q5_x4 := Q5_x2.other W4 (Or.inr (slot_ne (Or.inr (hw _ (List.mem_of_getElem? (i := 58) rfl))) (Or.inl (hw _ (List.mem_of_getElem? (i := 50) rfl))) (by decide) (t := (.object "java/lang/String")) (t' := (.object "com/example/cicada/cicada/Autowire")) (by decide) (by decide)))
  have Q6_x4 := Q6_x2.other W4 (Or.inr (slot_ne (Or.inr (hw _ (List.mem_of_getElem? (i := 60) rfl))) (Or.inl (hw _ (List.mem_of_getElem? (i := 50) rfl))) (by decide) (t := (.object "java/lang/Class")) (t' := (.object "com/example/cicada/cicada/Autowire")) (by decide) (by decide)))
  have Q7_x4 := Q7_x2.other W4 (Or.inr (slot_ne (Or.inl (hw _ (List.mem_of_getElem? (i := 67) rfl))) (Or.inl (hw _ (List.mem_of_getElem? (i := 50) rfl))) (by decide) (t := (.object "java/lang/String")) (t' := (.object "com/example/cicada/cicada/Autowire")) (by decide) (by decide)))
  have Q8_x4 := Q8_x2.other W4 (Or.inr (slot_ne (Or.inl (hw _ (List.mem_of_getElem? (i := 99) rfl))) (Or.inl (hw _ (List.mem_of_getElem? (i := 50) rfl))) (by decide) (t := .boolean) (t' := (.object "com/example/cicada/cicada/Autowire")) (by decide) (by decide)))
  have K0_x4 := K0_x2.wr W4 (Or.inl (List.mem_of_getElem? (i := 0) rfl))
  show own_Rch p e below _ T4 (mkF m 16 #[.val (.ref a)] [])
  refine own_st (fun _ kt => XS.aloadN X4.here hx rfl (hb hby own_d9_16) rfl rfl  kt) ?_
  show own_Rch p e below _ T4 (mkF m 17 #[.val (.ref a)] [(.ref a)])
  refine own_st (fun _ kt => XS.iconst X4.here hx rfl (hb hby own_d9_17) kt) ?_
  show own_Rch p e below _ T4 (mkF m 18 #[.val (.ref a)] [(.int (1 : Int32)), (.ref a)])
  obtain ⟨T5, h5, X5, e5, W5, st5⟩ := putFN X4 hx hZ hown (hw _ (List.mem_of_getElem? (i := 51) rfl)) Via.refl e4 Q2_x4 EA_x4 (Or.inl (hw _ (List.mem_of_getElem? (i := 52) rfl))) (hw _ (List.mem_of_getElem? (i := 38) rfl)) (ty := .boolean) (v' := (.int (1 : Int32))) (by decide) rfl (by decide) (g := (mkF m 18 #[.val (.ref a)] [(.int (1 : Int32)), (.ref a)])) rfl rfl (hb hby own_d9_18)
  refine own_st st5 ?_
  have Fw5 := Q2_x4.same W5
  have N5 := Fr.snoc X5 N4 ga
  have O0_x5 := O0_x4.wr W5 ga
  have EA_x5 := EA_x4.wr W5
  have Fw2_x5 := Fw2_x4.other W5 (Or.inr (slot_ne (Or.inl (hw _ (List.mem_of_getElem? (i := 45) rfl))) (Or.inl (hw _ (List.mem_of_getElem? (i := 52) rfl))) (by decide) (t := .boolean) (t' := .boolean) (by decide) (by decide)))
  have Fw4_x5 := Fw4.other W5 (Or.inr (slot_ne (Or.inl (hw _ (List.mem_of_getElem? (i := 50) rfl))) (Or.inl (hw _ (List.mem_of_getElem? (i := 52) rfl))) (by decide) (t := (.object "com/example/cicada/cicada/Autowire")) (t' := .boolean) (by decide) (by decide)))
  have Q3_x5 := Q3_x4.other W5 (Or.inr (slot_ne (Or.inl (hw _ (List.mem_of_getElem? (i := 54) rfl))) (Or.inl (hw _ (List.mem_of_getElem? (i := 52) rfl))) (by decide) (t := .boolean) (t' := .boolean) (by decide) (by decide)))
  have Q4_x5 := Q4_x4.other W5 (Or.inr (slot_ne (Or.inl (hw _ (List.mem_of_getElem? (i := 56) rfl))) (Or.inl (hw _ (List.mem_of_getElem? (i := 52) rfl))) (by decide) (t := .boolean) (t' := .boolean) (by decide) (by decide)))
  have Q5_x5 := Q5_x4.other W5 (Or.inr (slot_ne (Or.inr (hw _ (List.mem_of_getElem? (i := 58) rfl))) (Or.inl (hw _ (List.mem_of_getElem? (i := 52) rfl))) (by decide) (t := (.object "java/lang/String")) (t' := .boolean) (by decide) (by decide)))
  have Q6_x5 := Q6_x4.other W5 (Or.inr (slot_ne (Or.inr (hw _ (List.mem_of_getElem? (i := 60) rfl))) (Or.inl (hw _ (List.mem_of_getElem? (i := 52) rfl))) (by decide) (t := (.object "java/lang/Class")) (t' := .boolean) (by decide) (by decide)))
  have Q7_x5 := Q7_x4.other W5 (Or.inr (slot_ne (Or.inl (hw _ (List.mem_of_getElem? (i := 67) rfl))) (Or.inl (hw _ (List.mem_of_getElem? (i := 52) rfl))) (by decide) (t := (.object "java/lang/String")) (t' := .boolean) (by decide) (by decide)))
  have Q8_x5 := Q8_x4.other W5 (Or.inr (slot_ne (Or.inl (hw _ (List.mem_of_getElem? (i := 99) rfl))) (Or.inl (hw _ (List.mem_of_getElem? (i := 52) rfl))) (by decide) (t := .boolean) (t' := .boolean) (by decide) (by decide)))
  have K0_x5 := K0_x4.wr W5 (Or.inl (List.mem_of_getElem? (i := 0) rfl))
  show own_Rch p e below _ T5 (mkF m 21 #[.val (.ref a)] [])
  refine own_st (fun _ kt => XS.aloadN X5.here hx rfl (hb hby own_d9_21) rfl rfl  kt) ?_
  show own_Rch p e below _ T5 (mkF m 22 #[.val (.ref a)] [(.ref a)])
  refine own_st (fun _ kt => XS.iconst X5.here hx rfl (hb hby own_d9_22) kt) ?_
  show own_Rch p e below _ T5 (mkF m 23 #[.val (.ref a)] [(.int (1 : Int32)), (.ref a)])
  obtain ⟨T6, h6, X6, e6, W6, st6⟩ := putFN X5 hx hZ hown (hw _ (List.mem_of_getElem? (i := 53) rfl)) Via.refl e5 Q3_x5 EA_x5 (Or.inl (hw _ (List.mem_of_getElem? (i := 54) rfl))) (hw _ (List.mem_of_getElem? (i := 38) rfl)) (ty := .boolean) (v' := (.int (1 : Int32))) (by decide) rfl (by decide) (g := (mkF m 23 #[.val (.ref a)] [(.int (1 : Int32)), (.ref a)])) rfl rfl (hb hby own_d9_23)
  refine own_st st6 ?_
  have Fw6 := Q3_x5.same W6
  have N6 := Fr.snoc X6 N5 ga
  have O0_x6 := O0_x5.wr W6 ga
  have EA_x6 := EA_x5.wr W6
  have Fw2_x6 := Fw2_x5.other W6 (Or.inr (slot_ne (Or.inl (hw _ (List.mem_of_getElem? (i := 45) rfl))) (Or.inl (hw _ (List.mem_of_getElem? (i := 54) rfl))) (by decide) (t := .boolean) (t' := .boolean) (by decide) (by decide)))
  have Fw4_x6 := Fw4_x5.other W6 (Or.inr (slot_ne (Or.inl (hw _ (List.mem_of_getElem? (i := 50) rfl))) (Or.inl (hw _ (List.mem_of_getElem? (i := 54) rfl))) (by decide) (t := (.object "com/example/cicada/cicada/Autowire")) (t' := .boolean) (by decide) (by decide)))
  have Fw5_x6 := Fw5.other W6 (Or.inr (slot_ne (Or.inl (hw _ (List.mem_of_getElem? (i := 52) rfl))) (Or.inl (hw _ (List.mem_of_getElem? (i := 54) rfl))) (by decide) (t := .boolean) (t' := .boolean) (by decide) (by decide)))
  have Q4_x6 := Q4_x5.other W6 (Or.inr (slot_ne (Or.inl (hw _ (List.mem_of_getElem? (i := 56) rfl))) (Or.inl (hw _ (List.mem_of_getElem? (i := 54) rfl))) (by decide) (t := .boolean) (t' := .boolean) (by decide) (by decide)))
  have Q5_x6 := Q5_x5.other W6 (Or.inr (slot_ne (Or.inr (hw _ (List.mem_of_getElem? (i := 58) rfl))) (Or.inl (hw _ (List.mem_of_getElem? (i := 54) rfl))) (by decide) (t := (.object "java/lang/String")) (t' := .boolean) (by decide) (by decide)))
  have Q6_x6 := Q6_x5.other W6 (Or.inr (slot_ne (Or.inr (hw _ (List.mem_of_getElem? (i := 60) rfl))) (Or.inl (hw _ (List.mem_of_getElem? (i := 54) rfl))) (by decide) (t := (.object "java/lang/Class")) (t' := .boolean) (by decide) (by decide)))
  have Q7_x6 := Q7_x5.other W6 (Or.inr (slot_ne (Or.inl (hw _ (List.mem_of_getElem? (i := 67) rfl))) (Or.inl (hw _ (List.mem_of_getElem? (i := 54) rfl))) (by decide) (t := (.object "java/lang/String")) (t' := .boolean) (by decide) (by decide)))
  have Q8_x6 := Q8_x5.other W6 (Or.inr (slot_ne (Or.inl (hw _ (List.mem_of_getElem? (i := 99) rfl))) (Or.inl (hw _ (List.mem_of_getElem? (i := 54) rfl))) (by decide) (t := .boolean) (t' := .boolean) (by decide) (by decide)))
  have K0_x6 := K0_x5.wr W6 (Or.inl (List.mem_of_getElem? (i := 0) rfl))
  show own_Rch p e below _ T6 (mkF m 26 #[.val (.ref a)] [])
  refine own_st (fun _ kt => XS.aloadN X6.here hx rfl (hb hby own_d9_26) rfl rfl  kt) ?_
  show own_Rch p e below _ T6 (mkF m 27 #[.val (.ref a)] [(.ref a)])
  refine own_st (fun _ kt => XS.iconst X6.here hx rfl (hb hby own_d9_27) kt) ?_
  show own_Rch p e below _ T6 (mkF m 28 #[.val (.ref a)] [(.int (1 : Int32)), (.ref a)])
  obtain ⟨T7, h7, X7, e7, W7, st7⟩ := putFN X6 hx hZ hown (hw _ (List.mem_of_getElem? (i := 55) rfl)) Via.refl e6 Q4_x6 EA_x6 (Or.inl (hw _ (List.mem_of_getElem? (i := 56) rfl))) (hw _ (List.mem_of_getElem? (i := 38) rfl)) (ty := .boolean) (v' := (.int (1 : Int32))) (by decide) rfl (by decide) (g := (mkF m 28 #[.val (.ref a)] [(.int (1 : Int32)), (.ref a)])) rfl rfl (hb hby own_d9_28)
  refine own_st st7 ?_
  have Fw7 := Q4_x6.same W7
  have N7 := Fr.snoc X7 N6 ga
  have O0_x7 := O0_x6.wr W7 ga
  have EA_x7 := EA_x6.wr W7
  have Fw2_x7 := Fw2_x6.other W7 (Or.inr (slot_ne (Or.inl (hw _ (List.mem_of_getElem? (i := 45) rfl))) (Or.inl (hw _ (List.mem_of_getElem? (i := 56) rfl))) (by decide) (t := .boolean) (t' := .boolean) (by decide) (by decide)))
  have Fw4_x7 := Fw4_x6.other W7 (Or.inr (slot_ne (Or.inl (hw _ (List.mem_of_getElem? (i := 50) rfl))) (Or.inl (hw _ (List.mem_of_getElem? (i := 56) rfl))) (by decide) (t := (.object "com/example/cicada/cicada/Autowire")) (t' := .boolean) (by decide) (by decide)))
  have Fw5_x7 := Fw5_x6.other W7 (Or.inr (slot_ne (Or.inl (hw _ (List.mem_of_getElem? (i := 52) rfl))) (Or.inl (hw _ (List.mem_of_getElem? (i := 56) rfl))) (by decide) (t := .boolean) (t' := .boolean) (by decide) (by decide)))
  have Fw6_x7 := Fw6.other W7 (Or.inr (slot_ne (Or.inl (hw _ (List.mem_of_getElem? (i := 54) rfl))) (Or.inl (hw _ (List.mem_of_getElem? (i := 56) rfl))) (by decide) (t := .boolean) (t' := .boolean) (by decide) (by decide)))
  have Q5_x7 := Q5_x6.other W7 (Or.inr (slot_ne (Or.inr (hw _ (List.mem_of_getElem? (i := 58) rfl))) (Or.inl (hw _ (List.mem_of_getElem? (i := 56) rfl))) (by decide) (t := (.object "java/lang/String")) (t' := .boolean) (by decide) (by decide)))
  have Q6_x7 := Q6_x6.other W7 (Or.inr (slot_ne (Or.inr (hw _ (List.mem_of_getElem? (i := 60) rfl))) (Or.inl (hw _ (List.mem_of_getElem? (i := 56) rfl))) (by decide) (t := (.object "java/lang/Class")) (t' := .boolean) (by decide) (by decide)))
  have Q7_x7 := Q7_x6.other W7 (Or.inr (slot_ne (Or.inl (hw _ (List.mem_of_getElem? (i := 67) rfl))) (Or.inl (hw _ (List.mem_of_getElem? (i := 56) rfl))) (by decide) (t := (.object "java/lang/String")) (t' := .boolean) (by decide) (by decide)))
  have Q8_x7 := Q8_x6.other W7 (Or.inr (slot_ne (Or.inl (hw _ (List.mem_of_getElem? (i := 99) rfl))) (Or.inl (hw _ (List.mem_of_getElem? (i := 56) rfl))) (by decide) (t := .boolean) (t' := .boolean) (by decide) (by decide)))
  have K0_x7 := K0_x6.wr W7 (Or.inl (List.mem_of_getElem? (i := 0) rfl))
  show own_Rch p e below _ T7 (mkF m 31 #[.val (.ref a)] [])
  refine own_st (fun _ kt => XS.aloadN X7.here hx rfl (hb hby own_d9_31) rfl rfl  kt) ?_
  show own_Rch p e below _ T7 (mkF m 32 #[.val (.ref a)] [(.ref a)])
  refine own_st (fun _ kt => XS.aconstNull X7.here hx rfl (hb hby own_d9_32) kt) ?_
  show own_Rch p e below _ T7 (mkF m 33 #[.val (.ref a)] [.null, (.ref a)])
  obtain ⟨T8, h8, X8, e8, W8, st8⟩ := putF X7 hx hZ hown (host := "") (Or.inl (hw _ (List.mem_of_getElem? (i := 57) rfl))) Via.refl e7 Q5_x7 EA_x7 (Or.inr ⟨(hw _ (List.mem_of_getElem? (i := 58) rfl)), rfl, hnm⟩) (hw _ (List.mem_of_getElem? (i := 38) rfl)) (ty := (.object "java/lang/String")) (by decide) rfl rfl (g := (mkF m 33 #[.val (.ref a)] [.null, (.ref a)])) rfl rfl (hb hby own_d9_33)
  refine own_st st8 ?_
  have Fw8 := Q5_x7.same W8
  have N8 := Fr.snoc X8 N7 ga
  have O0_x8 := O0_x7.wr W8 ga
  have EA_x8 := EA_x7.wr W8
  have Fw2_x8 := Fw2_x7.other W8 (Or.inr (slot_ne (Or.inl (hw _ (List.mem_of_getElem? (i := 45) rfl))) (Or.inr (hw _ (List.mem_of_getElem? (i := 58) rfl))) (by decide) (t := .boolean) (t' := (.object "java/lang/String")) (by decide) (by decide)))
  have Fw4_x8 := Fw4_x7.other W8 (Or.inr (slot_ne (Or.inl (hw _ (List.mem_of_getElem? (i := 50) rfl))) (Or.inr (hw _ (List.mem_of_getElem? (i := 58) rfl))) (by decide) (t := (.object "com/example/cicada/cicada/Autowire")) (t' := (.object "java/lang/String")) (by decide) (by decide)))
  have Fw5_x8 := Fw5_x7.other W8 (Or.inr (slot_ne (Or.inl (hw _ (List.mem_of_getElem? (i := 52) rfl))) (Or.inr (hw _ (List.mem_of_getElem? (i := 58) rfl))) (by decide) (t := .boolean) (t' := (.object "java/lang/String")) (by decide) (by decide)))
  have Fw6_x8 := Fw6_x7.other W8 (Or.inr (slot_ne (Or.inl (hw _ (List.mem_of_getElem? (i := 54) rfl))) (Or.inr (hw _ (List.mem_of_getElem? (i := 58) rfl))) (by decide) (t := .boolean) (t' := (.object "java/lang/String")) (by decide) (by decide)))
  have Fw7_x8 := Fw7.other W8 (Or.inr (slot_ne (Or.inl (hw _ (List.mem_of_getElem? (i := 56) rfl))) (Or.inr (hw _ (List.mem_of_getElem? (i := 58) rfl))) (by decide) (t := .boolean) (t' := (.object "java/lang/String")) (by decide) (by decide)))
  have Q6_x8 := Q6_x7.other W8 (Or.inr (slot_ne (Or.inr (hw _ (List.mem_of_getElem? (i := 60) rfl))) (Or.inr (hw _ (List.mem_of_getElem? (i := 58) rfl))) (by decide) (t := (.object "java/lang/Class")) (t' := (.object "java/lang/String")) (by decide) (by decide)))
  have Q7_x8 := Q7_x7.other W8 (Or.inr (slot_ne (Or.inl (hw _ (List.mem_of_getElem? (i := 67) rfl))) (Or.inr (hw _ (List.mem_of_getElem? (i := 58) rfl))) (by decide) (t := (.object "java/lang/String")) (t' := (.object "java/lang/String")) (by decide) (by decide)))
  have Q8_x8 := Q8_x7.other W8 (Or.inr (slot_ne (Or.inl (hw _ (List.mem_of_getElem? (i := 99) rfl))) (Or.inr (hw _ (List.mem_of_getElem? (i := 58) rfl))) (by decide) (t := .boolean) (t' := (.object "java/lang/String")) (by decide) (by decide)))
  have K0_x8 := K0_x7.wr W8 (Or.inl (List.mem_of_getElem? (i := 0) rfl))
  show own_Rch p e below _ T8 (mkF m 36 #[.val (.ref a)] [])
  refine own_st (fun _ kt => XS.aloadN X8.here hx rfl (hb hby own_d9_36) rfl rfl  kt) ?_
  show own_Rch p e below _ T8 (mkF m 37 #[.val (.ref a)] [(.ref a)])
  refine own_st (fun _ kt => XS.aconstNull X8.here hx rfl (hb hby own_d9_37) kt) ?_
  show own_Rch p e below _ T8 (mkF m 38 #[.val (.ref a)] [.null, (.ref a)])
  obtain ⟨T9, h9, X9, e9, W9, st9⟩ := putF X8 hx hZ hown (host := "") (Or.inl (hw _ (List.mem_of_getElem? (i := 59) rfl))) Via.refl e8 Q6_x8 EA_x8 (Or.inr ⟨(hw _ (List.mem_of_getElem? (i := 60) rfl)), rfl, hnm⟩) (hw _ (List.mem_of_getElem? (i := 38) rfl)) (ty := (.object "java/lang/Class")) (by decide) rfl rfl (g := (mkF m 38 #[.val (.ref a)] [.null, (.ref a)])) rfl rfl (hb hby own_d9_38)
  refine own_st st9 ?_
  have Fw9 := Q6_x8.same W9
  have N9 := Fr.snoc X9 N8 ga
  have O0_x9 := O0_x8.wr W9 ga
  have EA_x9 := EA_x8.wr W9
  have Fw2_x9 := Fw2_x8.other W9 (Or.inr (slot_ne (Or.inl (hw _ (List.mem_of_getElem? (i := 45) rfl))) (Or.inr (hw _ (List.mem_of_getElem? (i := 60) rfl))) (by decide) (t := .boolean) (t' := (.object "java/lang/Class")) (by decide) (by decide)))
  have Fw4_x9 := Fw4_x8.other W9 (Or.inr (slot_ne (Or.inl (hw _ (List.mem_of_getElem? (i := 50) rfl))) (Or.inr (hw _ (List.mem_of_getElem? (i := 60) rfl))) (by decide) (t := (.object "com/example/cicada/cicada/Autowire")) (t' := (.object "java/lang/Class")) (by decide) (by decide)))
  have Fw5_x9 := Fw5_x8.other W9 (Or.inr (slot_ne (Or.inl (hw _ (List.mem_of_getElem? (i := 52) rfl))) (Or.inr (hw _ (List.mem_of_getElem? (i := 60) rfl))) (by decide) (t := .boolean) (t' := (.object "java/lang/Class")) (by decide) (by decide)))
  have Fw6_x9 := Fw6_x8.other W9 (Or.inr (slot_ne (Or.inl (hw _ (List.mem_of_getElem? (i := 54) rfl))) (Or.inr (hw _ (List.mem_of_getElem? (i := 60) rfl))) (by decide) (t := .boolean) (t' := (.object "java/lang/Class")) (by decide) (by decide)))
  have Fw7_x9 := Fw7_x8.other W9 (Or.inr (slot_ne (Or.inl (hw _ (List.mem_of_getElem? (i := 56) rfl))) (Or.inr (hw _ (List.mem_of_getElem? (i := 60) rfl))) (by decide) (t := .boolean) (t' := (.object "java/lang/Class")) (by decide) (by decide)))
  have Fw8_x9 := Fw8.other W9 (Or.inr (slot_ne (Or.inr (hw _ (List.mem_of_getElem? (i := 58) rfl))) (Or.inr (hw _ (List.mem_of_getElem? (i := 60) rfl))) (by decide) (t := (.object "java/lang/String")) (t' := (.object "java/lang/Class")) (by decide) (by decide)))
  have Q7_x9 := Q7_x8.other W9 (Or.inr (slot_ne (Or.inl (hw _ (List.mem_of_getElem? (i := 67) rfl))) (Or.inr (hw _ (List.mem_of_getElem? (i := 60) rfl))) (by decide) (t := (.object "java/lang/String")) (t' := (.object "java/lang/Class")) (by decide) (by decide)))
  have Q8_x9 := Q8_x8.other W9 (Or.inr (slot_ne (Or.inl (hw _ (List.mem_of_getElem? (i := 99) rfl))) (Or.inr (hw _ (List.mem_of_getElem? (i := 60) rfl))) (by decide) (t := .boolean) (t' := (.object "java/lang/Class")) (by decide) (by decide)))
  have K0_x9 := K0_x8.wr W9 (Or.inl (List.mem_of_getElem? (i := 0) rfl))
  show own_Rch p e below _ T9 (mkF m 41 #[.val (.ref a)] [])
  refine own_retV X9 hx Bd.notSynchronized Bd.returns (hb hby own_d9_41) (by decide) (by decide) ?_
  rw [e9]
  exact ⟨rfl, N9, K0_x9, EA_x9, ⟨_, Fw2_x9⟩, ⟨_, Q8_x9⟩, Or.inl ⟨Q7_x9, rfl⟩⟩
def own_Q_get (Z : State) (l1 : List Int32) (h0 : Heap) (n0 : Nat) (v : Option Value) (h : Heap) (L : List Loc) : Prop := ∃ b : Addr, v = some (.ref b) ∧ Fr n0 L ∧ Keep h0 h [] ∧ own_Str Z h b l1
theorem own_ef10 (m : MethodId) (x0 : Addr) : entryFrame m #[(.ref x0)] 1 = mkF m 0 #[.val (.ref x0)] [] := by first | (simp [entryFrame, mkF, argsToLocals, Value.category]; done) | rfl
theorem own_d10_0 : decode prog_7_method_6_code 0 = .ok (.aload_n 0, 1) := by decide +kernel
theorem own_d10_1 : decode prog_7_method_6_code 1 = .ok (.getfield 57, 3) := by decide +kernel
theorem own_d10_4 : decode prog_7_method_6_code 4 = .ok (.ifnull 10, 3) := by decide +kernel
theorem own_d10_14 : decode prog_7_method_6_code 14 = .ok (.ldc 60, 2) := by decide +kernel
theorem own_d10_16 : decode prog_7_method_6_code 16 = .ok (.areturn, 1) := by decide +kernel
set_option maxRecDepth 65536 in
set_option maxHeartbeats 40000000 in
theorem own_get0 (l : Launch) (Z : State) (a0 : Array Value) (hw : ∀ d ∈ tables_1, d.before a0 Z = true) (ws : List Jvm.Cond) (a : Addr) (h0 : Heap) (n0 : Nat) (O0 : Old Z n0 h0) (F1 : Fld Z h0 a "com/example/cicada/cicada/BeanDefinition" "scope" "Ljava/lang/String;" .null) :
    MetFree l (⟨"com/example/cicada/cicada/BeanDefinition", "getScope", "()Ljava/lang/String;"⟩ : MethodName) (head1 (Jvm.Cond.code (⟨"com/example/cicada/cicada/BeanDefinition", "getScope", "()Ljava/lang/String;"⟩ : MethodName) prog_7_method_6_code 1 (some (.object "java/lang/String")) :: ws) ({ frames := 0, cells := 2, slots := 40, locals := 0 } : Room)) (fun args_ U => args_ = #[(.ref a)] ∧ Z.Warmed39 U.vm ∧ U.heap = h0 ∧ CHv Z consts_1 U.vm h0) (fun _ _ _ _ _ => True) (fun _ U o U' => ∃ v L, o = .returned v ∧ (own_Q_get Z own_S9 h0 n0) v U'.heap L ∧ CHr Z consts_1 U.vm U.heap U'.vm U'.heap ∧ ReturnedEndW U o U' L ({ frames := 0, cells := 2, slots := 40, locals := 0 } : Room).cells ({ frames := 0, cells := 2, slots := 40, locals := 0 } : Room).slots) := by
  refine MetFree.of_bodySF (plainFor_of_name own_pn4) hisR ?_
  intro p e s m args below meth c s₁ Bd hml0 hP hK
  obtain ⟨rfl, hZ, hh, hCH⟩ := hP
  have hx := Bd.exec
  have hby := Bd.bytes
  have hml : c.maxLocals = 1 := hml0
  have hown : s.vm.findClass "com/example/cicada/cicada/BeanDefinition" = some m.cls := findClass_of_methodNamed Bd.named
  have hnm := (name_of_methodNamed Bd.named Bd.method).1
  have X0 : Stand p l e ({ frames := 0, cells := 2, slots := 40, locals := 0 } : Room) (s.setVm s.vm) m #[(.ref a)] below meth c s₁ [] 0 0 := Stand.of_body Bd
  have e0 : s₁.heap = h0 := by rw [← hh, Bd.state]; rfl
  have N0 := Fr.nil n0
  have hh0 : s.heap = h0 := hh
  have CR0 : CHr Z consts_1 s.vm h0 s.vm h0 := CHr.refl hCH
  have hS0 : s.Since s.vm 0 := own_since s
  have hk0 : 0 ≤ h0.size := Nat.zero_le _
  refine own_closeH (Z := Z) (EL := consts_1) (s := s) (Q := (own_Q_get Z own_S9 h0 n0)) (C := (({ frames := 0, cells := 2, slots := 40, locals := 0 } : Room)).cells) (N := (({ frames := 0, cells := 2, slots := 40, locals := 0 } : Room)).slots) (own_st (fun _ kt => castTop (own_ef10 m a) kt) ?_)
  have K0 := Keep.refl h0 []
  show own_Rch p e below _ s₁ (mkF m 0 #[.val (.ref a)] [])
  refine own_st (fun _ kt => XS.aloadN X0.here hx rfl (hb hby own_d10_0) rfl rfl  kt) ?_
  show own_Rch p e below _ s₁ (mkF m 1 #[.val (.ref a)] [(.ref a)])
  obtain ⟨T1, X1, e1, st1⟩ := getF X0 hx hZ hown (host := "") (Or.inl (hw _ (List.mem_of_getElem? (i := 66) rfl))) Via.refl e0 F1 (g := (mkF m 1 #[.val (.ref a)] [(.ref a)])) rfl rfl (hb hby own_d10_1)
  refine own_st st1 ?_
  show own_Rch p e below _ T1 (mkF m 4 #[.val (.ref a)] [.null])
  refine own_st (fun _ kt => XS.ifnullYes X1.here hx rfl (pc0 := 4) (pc' := 14) rfl (hb hby own_d10_4) rfl (by decide) (by decide) kt) ?_
  show own_Rch p e below _ T1 (mkF m 14 #[.val (.ref a)] [])
  obtain ⟨sl2, T2, h2, ks2, sd2, kd2, X2, e2, E2, hS2, hk2, hZ2, hown2, Es2, Fc2, Fv2, Va2, -, -, CB2, Lt2, hne2, st2⟩ := ldcCH (s := s) X1 hx hZ hown (hw _ (List.mem_of_getElem? (i := 68) rfl)) (own_wS hw) e1 hS0 hk0 (own_hEL hw) (List.mem_of_getElem? (i := 0) rfl) CR0.1 (vs := [(.int (115 : Int32)), (.int (105 : Int32)), (.int (110 : Int32)), (.int (103 : Int32)), (.int (108 : Int32)), (.int (101 : Int32)), (.int (116 : Int32)), (.int (111 : Int32)), (.int (110 : Int32))]) (z := (9 : Int32)) ⟨by decide, by decide⟩ (by decide) (by decide) (g := (mkF m 14 #[.val (.ref a)] [])) rfl (hb hby own_d10_14) (n := 36) (by decide) (by decide) (by decide) (by decide)
  have O0_x2 := O0.ext E2
  have CR0_x2 := CR0.trans CB2
  have F1_x2 := F1.ext E2
  have K0_x2 := K0.ext E2
  refine own_st st2 ?_
  show own_Rch p e below _ T2 (mkF m 16 #[.val (.ref a)] [(.ref sl2)])
  refine own_retAH rfl rfl (by rw [hh0, e2]; exact CR0_x2.trans (CHv.at (s := s) X2 hZ2 (own_hEL hw) CR0_x2.1)) (s := s) hS2 (by rw [e2]; exact hk2) X2 hx Bd.notSynchronized Bd.returns (hb hby own_d10_16) (by decide) (by decide) ?_
  rw [e2]
  exact ⟨_, rfl, N0, K0_x2, ⟨_, _, Es2, Fv2, Fc2, Va2⟩⟩
theorem own_d10_7 : decode prog_7_method_6_code 7 = .ok (.aload_n 0, 1) := by decide +kernel
theorem own_d10_8 : decode prog_7_method_6_code 8 = .ok (.getfield 57, 3) := by decide +kernel
theorem own_d10_11 : decode prog_7_method_6_code 11 = .ok (.goto 5, 3) := by decide +kernel
set_option maxRecDepth 65536 in
set_option maxHeartbeats 40000000 in
theorem own_get1 (l : Launch) (Z : State) (a0 : Array Value) (hw : ∀ d ∈ tables_1, d.before a0 Z = true) (ws : List Jvm.Cond) (a : Addr) (x : Addr) (l1 : List Int32) (h0 : Heap) (n0 : Nat) (O0 : Old Z n0 h0) (F1 : Fld Z h0 a "com/example/cicada/cicada/BeanDefinition" "scope" "Ljava/lang/String;" (.ref x)) (S1 : own_Str Z h0 x l1) :
    MetFree l (⟨"com/example/cicada/cicada/BeanDefinition", "getScope", "()Ljava/lang/String;"⟩ : MethodName) (head1 (Jvm.Cond.code (⟨"com/example/cicada/cicada/BeanDefinition", "getScope", "()Ljava/lang/String;"⟩ : MethodName) prog_7_method_6_code 1 (some (.object "java/lang/String")) :: ws) ({ frames := 0, cells := 2, slots := 40, locals := 0 } : Room)) (fun args_ U => args_ = #[(.ref a)] ∧ Z.Warmed39 U.vm ∧ U.heap = h0 ∧ CHv Z consts_1 U.vm h0) (fun _ _ _ _ _ => True) (fun _ U o U' => ∃ v L, o = .returned v ∧ (own_Q_get Z l1 h0 n0) v U'.heap L ∧ CHr Z consts_1 U.vm U.heap U'.vm U'.heap ∧ ReturnedEndW U o U' L ({ frames := 0, cells := 2, slots := 40, locals := 0 } : Room).cells ({ frames := 0, cells := 2, slots := 40, locals := 0 } : Room).slots) := by
  refine MetFree.of_bodySF (plainFor_of_name own_pn4) hisR ?_
  intro p e s m args below meth c s₁ Bd hml0 hP hK
  obtain ⟨rfl, hZ, hh, hCH⟩ := hP
  have hx := Bd.exec
  have hby := Bd.bytes
  have hml : c.maxLocals = 1 := hml0
  have hown : s.vm.findClass "com/example/cicada/cicada/BeanDefinition" = some m.cls := findClass_of_methodNamed Bd.named
  have hnm := (name_of_methodNamed Bd.named Bd.method).1
  have X0 : Stand p l e ({ frames := 0, cells := 2, slots := 40, locals := 0 } : Room) (s.setVm s.vm) m #[(.ref a)] below meth c s₁ [] 0 0 := Stand.of_body Bd
  have e0 : s₁.heap = h0 := by rw [← hh, Bd.state]; rfl
  have N0 := Fr.nil n0
  have hh0 : s.heap = h0 := hh
  have CR0 : CHr Z consts_1 s.vm h0 s.vm h0 := CHr.refl hCH
  have hS0 : s.Since s.vm 0 := own_since s
  have hk0 : 0 ≤ h0.size := Nat.zero_le _
  refine own_closeH (Z := Z) (EL := consts_1) (s := s) (Q := (own_Q_get Z l1 h0 n0)) (C := (({ frames := 0, cells := 2, slots := 40, locals := 0 } : Room)).cells) (N := (({ frames := 0, cells := 2, slots := 40, locals := 0 } : Room)).slots) (own_st (fun _ kt => castTop (own_ef10 m a) kt) ?_)
  have K0 := Keep.refl h0 []
  show own_Rch p e below _ s₁ (mkF m 0 #[.val (.ref a)] [])
  refine own_st (fun _ kt => XS.aloadN X0.here hx rfl (hb hby own_d10_0) rfl rfl  kt) ?_
  show own_Rch p e below _ s₁ (mkF m 1 #[.val (.ref a)] [(.ref a)])
  obtain ⟨T1, X1, e1, st1⟩ := getF X0 hx hZ hown (host := "") (Or.inl (hw _ (List.mem_of_getElem? (i := 66) rfl))) Via.refl e0 F1 (g := (mkF m 1 #[.val (.ref a)] [(.ref a)])) rfl rfl (hb hby own_d10_1)
  refine own_st st1 ?_
  show own_Rch p e below _ T1 (mkF m 4 #[.val (.ref a)] [(.ref x)])
  refine own_st (fun _ kt => XS.ifnullNo X1.here hx rfl (hb hby own_d10_4) rfl kt) ?_
  show own_Rch p e below _ T1 (mkF m 7 #[.val (.ref a)] [])
  refine own_st (fun _ kt => XS.aloadN X1.here hx rfl (hb hby own_d10_7) rfl rfl  kt) ?_
  show own_Rch p e below _ T1 (mkF m 8 #[.val (.ref a)] [(.ref a)])
  obtain ⟨T2, X2, e2, st2⟩ := getF X1 hx hZ hown (host := "") (Or.inl (hw _ (List.mem_of_getElem? (i := 66) rfl))) Via.refl e1 F1 (g := (mkF m 8 #[.val (.ref a)] [(.ref a)])) rfl rfl (hb hby own_d10_8)
  refine own_st st2 ?_
  show own_Rch p e below _ T2 (mkF m 11 #[.val (.ref a)] [(.ref x)])
  refine own_st (fun _ kt => XS.goto X2.here hx rfl (pc0 := 11) (pc' := 16) rfl (hb hby own_d10_11) (by decide) (by decide) kt) ?_
  show own_Rch p e below _ T2 (mkF m 16 #[.val (.ref a)] [(.ref x)])
  refine own_retAH rfl rfl (by rw [hh0, e2]; exact CR0.trans (CHv.at (s := s) X2 hZ (own_hEL hw) CR0.1)) (s := s) hS0 (by rw [e2]; exact hk0) X2 hx Bd.notSynchronized Bd.returns (hb hby own_d10_16) (by decide) (by decide) ?_
  rw [e2]
  exact ⟨_, rfl, N0, K0, S1⟩
theorem own_get (l : Launch) (Z : State) (a0 : Array Value) (hw : ∀ d ∈ tables_1, d.before a0 Z = true) (ws : List Jvm.Cond) (a : Addr) (l1 : List Int32) (h0 : Heap) (n0 : Nat) (O0 : Old Z n0 h0) (B : own_BD Z h0 a l1) :
    MetFree l (⟨"com/example/cicada/cicada/BeanDefinition", "getScope", "()Ljava/lang/String;"⟩ : MethodName) (head1 (Jvm.Cond.code (⟨"com/example/cicada/cicada/BeanDefinition", "getScope", "()Ljava/lang/String;"⟩ : MethodName) prog_7_method_6_code 1 (some (.object "java/lang/String")) :: ws) ({ frames := 0, cells := 2, slots := 40, locals := 0 } : Room)) (fun args_ U => args_ = #[(.ref a)] ∧ Z.Warmed39 U.vm ∧ U.heap = h0 ∧ CHv Z consts_1 U.vm h0) (fun _ _ _ _ _ => True) (fun _ U o U' => ∃ v L, o = .returned v ∧ (own_Q_get Z l1 h0 n0) v U'.heap L ∧ CHr Z consts_1 U.vm U.heap U'.vm U'.heap ∧ ReturnedEndW U o U' L ({ frames := 0, cells := 2, slots := 40, locals := 0 } : Room).cells ({ frames := 0, cells := 2, slots := 40, locals := 0 } : Room).slots) := by
  obtain ⟨-, -, -, ⟨F, rfl⟩ | ⟨x, F, S, -⟩⟩ := B
  · exact own_get0 l Z a0 hw ws a h0 n0 O0 F
  · exact own_get1 l Z a0 hw ws a x l1 h0 n0 O0 F S
theorem own_ef12n2 (m : MethodId) (x0 : Addr) (x1 : Int32) : entryFrame m #[(.ref x0), (.int x1), .null] 3 = mkF m 0 #[.val (.ref x0), .val (.int x1), .val .null] [] := by first | (simp [entryFrame, mkF, argsToLocals, Value.category]; done) | rfl
theorem own_d12_0 : decode method_4_code 0 = .ok (.iload_n 1, 1) := by decide +kernel
theorem own_d12_1 : decode method_4_code 1 = .ok (.ifCond .ne 5, 3) := by decide +kernel
theorem own_d12_4 : decode method_4_code 4 = .ok (.aload_n 0, 1) := by decide +kernel
theorem own_d12_5 : decode method_4_code 5 = .ok (.areturn, 1) := by decide +kernel
set_option maxRecDepth 65536 in
set_option maxHeartbeats 40000000 in
theorem own_af0n (l : Launch) (Z : State) (a0 : Array Value) (hw : ∀ d ∈ tables_1, d.before a0 Z = true) (ws : List Jvm.Cond) (w : Addr) (l1 : List Int32) (h0 : Heap) (n0 : Nat) (O0 : Old Z n0 h0) (SW : own_Str Z h0 w l1) :
    MetFree l (⟨"com/example/cicada/cicada/BeanDefinitionGetScopePinLaw", "after", "(Ljava/lang/String;ILjava/lang/String;)Ljava/lang/String;"⟩ : MethodName) (head1 (Jvm.Cond.code (⟨"com/example/cicada/cicada/BeanDefinitionGetScopePinLaw", "after", "(Ljava/lang/String;ILjava/lang/String;)Ljava/lang/String;"⟩ : MethodName) method_4_code 3 (some (.object "java/lang/String")) :: ws) ({ frames := 1, cells := 2, slots := 40, locals := 12 } : Room)) (fun args_ U => args_ = #[(.ref w), (.int (0 : Int32)), .null] ∧ Z.Warmed39 U.vm ∧ U.heap = h0 ∧ CHv Z consts_1 U.vm h0) (fun _ _ _ _ _ => True) (fun _ U o U' => ∃ v L, o = .returned v ∧ (own_Q_get Z l1 h0 n0) v U'.heap L ∧ CHr Z consts_1 U.vm U.heap U'.vm U'.heap ∧ ReturnedEndW U o U' L ({ frames := 1, cells := 2, slots := 40, locals := 12 } : Room).cells ({ frames := 1, cells := 2, slots := 40, locals := 12 } : Room).slots) := by
  refine MetFree.of_bodySF (plainFor_of_name own_pn3) hisR ?_
  intro p e s m args below meth c s₁ Bd hml0 hP hK
  obtain ⟨rfl, hZ, hh, hCH⟩ := hP
  have hx := Bd.exec
  have hby := Bd.bytes
  have hml : c.maxLocals = 3 := hml0
  have hown : s.vm.findClass "com/example/cicada/cicada/BeanDefinitionGetScopePinLaw" = some m.cls := findClass_of_methodNamed Bd.named
  have hnm := (name_of_methodNamed Bd.named Bd.method).1
  have X0 : Stand p l e ({ frames := 1, cells := 2, slots := 40, locals := 12 } : Room) (s.setVm s.vm) m #[(.ref w), (.int (0 : Int32)), .null] below meth c s₁ [] 0 0 := Stand.of_body Bd
  have e0 : s₁.heap = h0 := by rw [← hh, Bd.state]; rfl
  have N0 := Fr.nil n0
  have hh0 : s.heap = h0 := hh
  have CR0 : CHr Z consts_1 s.vm h0 s.vm h0 := CHr.refl hCH
  have hS0 : s.Since s.vm 0 := own_since s
  have hk0 : 0 ≤ h0.size := Nat.zero_le _
  refine own_closeH (Z := Z) (EL := consts_1) (s := s) (Q := (own_Q_get Z l1 h0 n0)) (C := (({ frames := 1, cells := 2, slots := 40, locals := 12 } : Room)).cells) (N := (({ frames := 1, cells := 2, slots := 40, locals := 12 } : Room)).slots) (own_st (fun _ kt => castTop (own_ef12n2 m w (0 : Int32)) kt) ?_)
  have K0 := Keep.refl h0 []
  show own_Rch p e below _ s₁ (mkF m 0 #[.val (.ref w), .val (.int (0 : Int32)), .val .null] [])
  refine own_st (fun _ kt => XS.iloadN X0.here hx rfl (hb hby own_d12_0) rfl  kt) ?_
  show own_Rch p e below _ s₁ (mkF m 1 #[.val (.ref w), .val (.int (0 : Int32)), .val .null] [(.int (0 : Int32))])
  refine own_st (fun _ kt => XS.ifNo X0.here hx rfl (hb hby own_d12_1) rfl ((if0 _ _).trans (teq (rfl : (0 : Int32) = (0 : Int32))).2) kt) ?_
  show own_Rch p e below _ s₁ (mkF m 4 #[.val (.ref w), .val (.int (0 : Int32)), .val .null] [])
  refine own_st (fun _ kt => XS.aloadN X0.here hx rfl (hb hby own_d12_4) rfl rfl  kt) ?_
  show own_Rch p e below _ s₁ (mkF m 5 #[.val (.ref w), .val (.int (0 : Int32)), .val .null] [(.ref w)])
  refine own_retAH rfl rfl (by rw [hh0, e0]; exact CR0.trans (CHv.at (s := s) X0 hZ (own_hEL hw) CR0.1)) (s := s) hS0 (by rw [e0]; exact hk0) X0 hx Bd.notSynchronized Bd.returns (hb hby own_d12_5) (by decide) (by decide) ?_
  rw [e0]
  exact ⟨_, rfl, N0, K0, SW⟩
theorem own_ef12 (m : MethodId) (x0 : Addr) (x1 : Int32) (x2 : Addr) : entryFrame m #[(.ref x0), (.int x1), (.ref x2)] 3 = mkF m 0 #[.val (.ref x0), .val (.int x1), .val (.ref x2)] [] := by first | (simp [entryFrame, mkF, argsToLocals, Value.category]; done) | rfl
set_option maxRecDepth 65536 in
set_option maxHeartbeats 40000000 in
theorem own_af0r (l : Launch) (Z : State) (a0 : Array Value) (hw : ∀ d ∈ tables_1, d.before a0 Z = true) (ws : List Jvm.Cond) (w : Addr) (x : Addr) (l1 : List Int32) (h0 : Heap) (n0 : Nat) (O0 : Old Z n0 h0) (SW : own_Str Z h0 w l1) :
    MetFree l (⟨"com/example/cicada/cicada/BeanDefinitionGetScopePinLaw", "after", "(Ljava/lang/String;ILjava/lang/String;)Ljava/lang/String;"⟩ : MethodName) (head1 (Jvm.Cond.code (⟨"com/example/cicada/cicada/BeanDefinitionGetScopePinLaw", "after", "(Ljava/lang/String;ILjava/lang/String;)Ljava/lang/String;"⟩ : MethodName) method_4_code 3 (some (.object "java/lang/String")) :: ws) ({ frames := 1, cells := 2, slots := 40, locals := 12 } : Room)) (fun args_ U => args_ = #[(.ref w), (.int (0 : Int32)), (.ref x)] ∧ Z.Warmed39 U.vm ∧ U.heap = h0 ∧ CHv Z consts_1 U.vm h0) (fun _ _ _ _ _ => True) (fun _ U o U' => ∃ v L, o = .returned v ∧ (own_Q_get Z l1 h0 n0) v U'.heap L ∧ CHr Z consts_1 U.vm U.heap U'.vm U'.heap ∧ ReturnedEndW U o U' L ({ frames := 1, cells := 2, slots := 40, locals := 12 } : Room).cells ({ frames := 1, cells := 2, slots := 40, locals := 12 } : Room).slots) := by
  refine MetFree.of_bodySF (plainFor_of_name own_pn3) hisR ?_
  intro p e s m args below meth c s₁ Bd hml0 hP hK
  obtain ⟨rfl, hZ, hh, hCH⟩ := hP
  have hx := Bd.exec
  have hby := Bd.bytes
  have hml : c.maxLocals = 3 := hml0
  have hown : s.vm.findClass "com/example/cicada/cicada/BeanDefinitionGetScopePinLaw" = some m.cls := findClass_of_methodNamed Bd.named
  have hnm := (name_of_methodNamed Bd.named Bd.method).1
  have X0 : Stand p l e ({ frames := 1, cells := 2, slots := 40, locals := 12 } : Room) (s.setVm s.vm) m #[(.ref w), (.int (0 : Int32)), (.ref x)] below meth c s₁ [] 0 0 := Stand.of_body Bd
  have e0 : s₁.heap = h0 := by rw [← hh, Bd.state]; rfl
  have N0 := Fr.nil n0
  have hh0 : s.heap = h0 := hh
  have CR0 : CHr Z consts_1 s.vm h0 s.vm h0 := CHr.refl hCH
  have hS0 : s.Since s.vm 0 := own_since s
  have hk0 : 0 ≤ h0.size := Nat.zero_le _
  refine own_closeH (Z := Z) (EL := consts_1) (s := s) (Q := (own_Q_get Z l1 h0 n0)) (C := (({ frames := 1, cells := 2, slots := 40, locals := 12 } : Room)).cells) (N := (({ frames := 1, cells := 2, slots := 40, locals := 12 } : Room)).slots) (own_st (fun _ kt => castTop (own_ef12 m w (0 : Int32) x) kt) ?_)
  have K0 := Keep.refl h0 []
  show own_Rch p e below _ s₁ (mkF m 0 #[.val (.ref w), .val (.int (0 : Int32)), .val (.ref x)] [])
  refine own_st (fun _ kt => XS.iloadN X0.here hx rfl (hb hby own_d12_0) rfl  kt) ?_
  show own_Rch p e below _ s₁ (mkF m 1 #[.val (.ref w), .val (.int (0 : Int32)), .val (.ref x)] [(.int (0 : Int32))])
  refine own_st (fun _ kt => XS.ifNo X0.here hx rfl (hb hby own_d12_1) rfl ((if0 _ _).trans (teq (rfl : (0 : Int32) = (0 : Int32))).2) kt) ?_
  show own_Rch p e below _ s₁ (mkF m 4 #[.val (.ref w), .val (.int (0 : Int32)), .val (.ref x)] [])
  refine own_st (fun _ kt => XS.aloadN X0.here hx rfl (hb hby own_d12_4) rfl rfl  kt) ?_
  show own_Rch p e below _ s₁ (mkF m 5 #[.val (.ref w), .val (.int (0 : Int32)), .val (.ref x)] [(.ref w)])
  refine own_retAH rfl rfl (by rw [hh0, e0]; exact CR0.trans (CHv.at (s := s) X0 hZ (own_hEL hw) CR0.1)) (s := s) hS0 (by rw [e0]; exact hk0) X0 hx Bd.notSynchronized Bd.returns (hb hby own_d12_5) (by decide) (by decide) ?_
  rw [e0]
  exact ⟨_, rfl, N0, K0, SW⟩
theorem own_d12_6 : decode method_4_code 6 = .ok (.aload_n 2, 1) := by decide +kernel
theorem own_d12_7 : decode method_4_code 7 = .ok (.ifnull 10, 3) := by decide +kernel
theorem own_d12_17 : decode method_4_code 17 = .ok (.ldc 24, 2) := by decide +kernel
theorem own_d12_19 : decode method_4_code 19 = .ok (.areturn, 1) := by decide +kernel
set_option maxRecDepth 65536 in
set_option maxHeartbeats 40000000 in
theorem own_af1 (l : Launch) (Z : State) (a0 : Array Value) (hw : ∀ d ∈ tables_1, d.before a0 Z = true) (ws : List Jvm.Cond) (w : Addr) (md : Int32) (h0 : Heap) (n0 : Nat) (O0 : Old Z n0 h0) (hmd : ¬ md = 0) :
    MetFree l (⟨"com/example/cicada/cicada/BeanDefinitionGetScopePinLaw", "after", "(Ljava/lang/String;ILjava/lang/String;)Ljava/lang/String;"⟩ : MethodName) (head1 (Jvm.Cond.code (⟨"com/example/cicada/cicada/BeanDefinitionGetScopePinLaw", "after", "(Ljava/lang/String;ILjava/lang/String;)Ljava/lang/String;"⟩ : MethodName) method_4_code 3 (some (.object "java/lang/String")) :: ws) ({ frames := 1, cells := 2, slots := 40, locals := 12 } : Room)) (fun args_ U => args_ = #[(.ref w), (.int md), .null] ∧ Z.Warmed39 U.vm ∧ U.heap = h0 ∧ CHv Z consts_1 U.vm h0) (fun _ _ _ _ _ => True) (fun _ U o U' => ∃ v L, o = .returned v ∧ (own_Q_get Z own_S9 h0 n0) v U'.heap L ∧ CHr Z consts_1 U.vm U.heap U'.vm U'.heap ∧ ReturnedEndW U o U' L ({ frames := 1, cells := 2, slots := 40, locals := 12 } : Room).cells ({ frames := 1, cells := 2, slots := 40, locals := 12 } : Room).slots) := by
  refine MetFree.of_bodySF (plainFor_of_name own_pn3) hisR ?_
  intro p e s m args below meth c s₁ Bd hml0 hP hK
  obtain ⟨rfl, hZ, hh, hCH⟩ := hP
  have hx := Bd.exec
  have hby := Bd.bytes
  have hml : c.maxLocals = 3 := hml0
  have hown : s.vm.findClass "com/example/cicada/cicada/BeanDefinitionGetScopePinLaw" = some m.cls := findClass_of_methodNamed Bd.named
  have hnm := (name_of_methodNamed Bd.named Bd.method).1
  have X0 : Stand p l e ({ frames := 1, cells := 2, slots := 40, locals := 12 } : Room) (s.setVm s.vm) m #[(.ref w), (.int md), .null] below meth c s₁ [] 0 0 := Stand.of_body Bd
  have e0 : s₁.heap = h0 := by rw [← hh, Bd.state]; rfl
  have N0 := Fr.nil n0
  have hh0 : s.heap = h0 := hh
  have CR0 : CHr Z consts_1 s.vm h0 s.vm h0 := CHr.refl hCH
  have hS0 : s.Since s.vm 0 := own_since s
  have hk0 : 0 ≤ h0.size := Nat.zero_le _
  refine own_closeH (Z := Z) (EL := consts_1) (s := s) (Q := (own_Q_get Z own_S9 h0 n0)) (C := (({ frames := 1, cells := 2, slots := 40, locals := 12 } : Room)).cells) (N := (({ frames := 1, cells := 2, slots := 40, locals := 12 } : Room)).slots) (own_st (fun _ kt => castTop (own_ef12n2 m w md) kt) ?_)
  have K0 := Keep.refl h0 []
  show own_Rch p e below _ s₁ (mkF m 0 #[.val (.ref w), .val (.int md), .val .null] [])
  refine own_st (fun _ kt => XS.iloadN X0.here hx rfl (hb hby own_d12_0) rfl  kt) ?_
  show own_Rch p e below _ s₁ (mkF m 1 #[.val (.ref w), .val (.int md), .val .null] [(.int md)])
  refine own_st (fun _ kt => XS.ifYes X0.here hx rfl (pc0 := 1) (pc' := 6) rfl (hb hby own_d12_1) rfl ((if0 _ _).trans (feq (hmd : ¬ (md = (0 : Int32)))).2) (by decide) (by decide) kt) ?_
  show own_Rch p e below _ s₁ (mkF m 6 #[.val (.ref w), .val (.int md), .val .null] [])
  refine own_st (fun _ kt => XS.aloadN X0.here hx rfl (hb hby own_d12_6) rfl rfl  kt) ?_
  show own_Rch p e below _ s₁ (mkF m 7 #[.val (.ref w), .val (.int md), .val .null] [.null])
  refine own_st (fun _ kt => XS.ifnullYes X0.here hx rfl (pc0 := 7) (pc' := 17) rfl (hb hby own_d12_7) rfl (by decide) (by decide) kt) ?_
  show own_Rch p e below _ s₁ (mkF m 17 #[.val (.ref w), .val (.int md), .val .null] [])
  obtain ⟨sl1, T1, h1, ks1, sd1, kd1, X1, e1, E1, hS1, hk1, hZ1, hown1, Es1, Fc1, Fv1, Va1, -, -, CB1, Lt1, hne1, st1⟩ := ldcCH (s := s) X0 hx hZ hown (hw _ (List.mem_of_getElem? (i := 71) rfl)) (own_wS hw) e0 hS0 hk0 (own_hEL hw) (List.mem_of_getElem? (i := 3) rfl) CR0.1 (vs := [(.int (115 : Int32)), (.int (105 : Int32)), (.int (110 : Int32)), (.int (103 : Int32)), (.int (108 : Int32)), (.int (101 : Int32)), (.int (116 : Int32)), (.int (111 : Int32)), (.int (110 : Int32))]) (z := (9 : Int32)) ⟨by decide, by decide⟩ (by decide) (by decide) (g := (mkF m 17 #[.val (.ref w), .val (.int md), .val .null] [])) rfl (hb hby own_d12_17) (n := 36) (by decide) (by decide) (by decide) (by decide)
  have O0_x1 := O0.ext E1
  have CR0_x1 := CR0.trans CB1
  have K0_x1 := K0.ext E1
  refine own_st st1 ?_
  show own_Rch p e below _ T1 (mkF m 19 #[.val (.ref w), .val (.int md), .val .null] [(.ref sl1)])
  refine own_retAH rfl rfl (by rw [hh0, e1]; exact CR0_x1.trans (CHv.at (s := s) X1 hZ1 (own_hEL hw) CR0_x1.1)) (s := s) hS1 (by rw [e1]; exact hk1) X1 hx Bd.notSynchronized Bd.returns (hb hby own_d12_19) (by decide) (by decide) ?_
  rw [e1]
  exact ⟨_, rfl, N0, K0_x1, ⟨_, _, Es1, Fv1, Fc1, Va1⟩⟩
theorem own_d12_10 : decode method_4_code 10 = .ok (.aload_n 2, 1) := by decide +kernel
theorem own_d12_11 : decode method_4_code 11 = .ok (.invokevirtual 20, 3) := by decide +kernel
theorem own_pd7 : parseMethodDescriptor "()Z" = some ⟨[], some .boolean⟩ := by decide +kernel
theorem own_d12_14 : decode method_4_code 14 = .ok (.ifCond .eq 6, 3) := by decide +kernel
set_option maxRecDepth 65536 in
set_option maxHeartbeats 40000000 in
theorem own_af2 (l : Launch) (Z : State) (a0 : Array Value) (hw : ∀ d ∈ tables_1, d.before a0 Z = true) (ws : List Jvm.Cond) (w : Addr) (md : Int32) (x : Addr) (h0 : Heap) (n0 : Nat) (O0 : Old Z n0 h0) (hmd : ¬ md = 0) (S1 : own_Str Z h0 x []) :
    MetFree l (⟨"com/example/cicada/cicada/BeanDefinitionGetScopePinLaw", "after", "(Ljava/lang/String;ILjava/lang/String;)Ljava/lang/String;"⟩ : MethodName) (head1 (Jvm.Cond.code (⟨"com/example/cicada/cicada/BeanDefinitionGetScopePinLaw", "after", "(Ljava/lang/String;ILjava/lang/String;)Ljava/lang/String;"⟩ : MethodName) method_4_code 3 (some (.object "java/lang/String")) :: ws) ({ frames := 1, cells := 2, slots := 40, locals := 12 } : Room)) (fun args_ U => args_ = #[(.ref w), (.int md), (.ref x)] ∧ Z.Warmed39 U.vm ∧ U.heap = h0 ∧ CHv Z consts_1 U.vm h0) (fun _ _ _ _ _ => True) (fun _ U o U' => ∃ v L, o = .returned v ∧ (own_Q_get Z own_S9 h0 n0) v U'.heap L ∧ CHr Z consts_1 U.vm U.heap U'.vm U'.heap ∧ ReturnedEndW U o U' L ({ frames := 1, cells := 2, slots := 40, locals := 12 } : Room).cells ({ frames := 1, cells := 2, slots := 40, locals := 12 } : Room).slots) := by
  refine MetFree.of_bodySF (plainFor_of_name own_pn3) hisR ?_
  intro p e s m args below meth c s₁ Bd hml0 hP hK
  obtain ⟨rfl, hZ, hh, hCH⟩ := hP
  have hx := Bd.exec
  have hby := Bd.bytes
  have hml : c.maxLocals = 3 := hml0
  have hown : s.vm.findClass "com/example/cicada/cicada/BeanDefinitionGetScopePinLaw" = some m.cls := findClass_of_methodNamed Bd.named
  have hnm := (name_of_methodNamed Bd.named Bd.method).1
  have X0 : Stand p l e ({ frames := 1, cells := 2, slots := 40, locals := 12 } : Room) (s.setVm s.vm) m #[(.ref w), (.int md), (.ref x)] below meth c s₁ [] 0 0 := Stand.of_body Bd
  have e0 : s₁.heap = h0 := by rw [← hh, Bd.state]; rfl
  have N0 := Fr.nil n0
  have hh0 : s.heap = h0 := hh
  have CR0 : CHr Z consts_1 s.vm h0 s.vm h0 := CHr.refl hCH
  have hS0 : s.Since s.vm 0 := own_since s
  have hk0 : 0 ≤ h0.size := Nat.zero_le _
  have Ex : Exa Z h0 x "java/lang/String" := by obtain ⟨_, _, q, -⟩ := S1; exact q
  refine own_closeH (Z := Z) (EL := consts_1) (s := s) (Q := (own_Q_get Z own_S9 h0 n0)) (C := (({ frames := 1, cells := 2, slots := 40, locals := 12 } : Room)).cells) (N := (({ frames := 1, cells := 2, slots := 40, locals := 12 } : Room)).slots) (own_st (fun _ kt => castTop (own_ef12 m w md x) kt) ?_)
  have K0 := Keep.refl h0 []
  show own_Rch p e below _ s₁ (mkF m 0 #[.val (.ref w), .val (.int md), .val (.ref x)] [])
  refine own_st (fun _ kt => XS.iloadN X0.here hx rfl (hb hby own_d12_0) rfl  kt) ?_
  show own_Rch p e below _ s₁ (mkF m 1 #[.val (.ref w), .val (.int md), .val (.ref x)] [(.int md)])
  refine own_st (fun _ kt => XS.ifYes X0.here hx rfl (pc0 := 1) (pc' := 6) rfl (hb hby own_d12_1) rfl ((if0 _ _).trans (feq (hmd : ¬ (md = (0 : Int32)))).2) (by decide) (by decide) kt) ?_
  show own_Rch p e below _ s₁ (mkF m 6 #[.val (.ref w), .val (.int md), .val (.ref x)] [])
  refine own_st (fun _ kt => XS.aloadN X0.here hx rfl (hb hby own_d12_6) rfl rfl  kt) ?_
  show own_Rch p e below _ s₁ (mkF m 7 #[.val (.ref w), .val (.int md), .val (.ref x)] [(.ref x)])
  refine own_st (fun _ kt => XS.ifnullNo X0.here hx rfl (hb hby own_d12_7) rfl kt) ?_
  show own_Rch p e below _ s₁ (mkF m 10 #[.val (.ref w), .val (.int md), .val (.ref x)] [])
  refine own_st (fun _ kt => XS.aloadN X0.here hx rfl (hb hby own_d12_10) rfl rfl  kt) ?_
  show own_Rch p e below _ s₁ (mkF m 11 #[.val (.ref w), .val (.int md), .val (.ref x)] [(.ref x)])
  obtain ⟨cq1, kq1, q1a, q1b, q1c⟩ := isOf hZ e0 Ex
  obtain ⟨_, _, ⟨T1, L1, k1, n1⟩, -, X1, ⟨Lc1, hQ1, l1, y1, z1⟩, st1⟩ := X0.virtualBack hx (y := (⟨"java/lang/String", "isEmpty", "()Z"⟩ : MethodName)) (z := (⟨"java/lang/String", "isEmpty", "()Z"⟩ : MethodName)) hown (mvT hZ (hw _ (List.mem_of_getElem? (i := 100) rfl))) (mvT hZ (hw _ (List.mem_of_getElem? (i := 87) rfl))) (notFace_of_selects (args := #[]) (mvT hZ (hw _ (List.mem_of_getElem? (i := 89) rfl)))) (mvT hZ (hw _ (List.mem_of_getElem? (i := 89) rfl))) (mvT hZ (hw _ (List.mem_of_getElem? (i := 88) rfl))) (by decide) (backOf (W := 0) (own_ie1 l Z a0 hw [] x h0 n0 O0 S1) hZ (hw _ (List.mem_of_getElem? (i := 90) rfl)) (hw _ (List.mem_of_getElem? (i := 9) rfl)) (by decide) (by decide)) q1a q1c (g := (mkF m 11 #[.val (.ref w), .val (.int md), .val (.ref x)] [(.ref x)])) rfl (by rw [hml]; rfl) (Steps.refl _) (argsL := []) (rest := []) (lenOf own_pd7 rfl) rfl (by show 2 * 0 + _ ≤ _; exact Nat.le_of_eq rfl) (hb hby own_d12_11) (fun _ _ => ⟨rfl, e0, (by decide : 0 + 0 ≤ _), (by decide : 0 + 0 ≤ _)⟩)
  dsimp only [Pt.U, Pt.locs, Pt.cells, Pt.slots] at X1 l1 y1 z1 st1 hQ1
  subst l1 y1 z1
  obtain ⟨rfl, N1q, hh1⟩ := hQ1
  have N1 := Fr.app N0 N1q
  refine own_st (fun _ kt => st1.trans kt) ?_
  show own_Rch p e below _ T1 (mkF m 14 #[.val (.ref w), .val (.int md), .val (.ref x)] [(.int (1 : Int32))])
  refine own_st (fun _ kt => XS.ifNo X1.here hx rfl (hb hby own_d12_14) rfl ((if0 _ _).trans (feq ((by decide) : ¬ ((1 : Int32) = (0 : Int32)))).1) kt) ?_
  show own_Rch p e below _ T1 (mkF m 17 #[.val (.ref w), .val (.int md), .val (.ref x)] [])
  obtain ⟨sl2, T2, h2, ks2, sd2, kd2, X2, e2, E2, hS2, hk2, hZ2, hown2, Es2, Fc2, Fv2, Va2, -, -, CB2, Lt2, hne2, st2⟩ := ldcCH (s := s) X1 hx hZ hown (hw _ (List.mem_of_getElem? (i := 71) rfl)) (own_wS hw) hh1 hS0 hk0 (own_hEL hw) (List.mem_of_getElem? (i := 3) rfl) CR0.1 (vs := [(.int (115 : Int32)), (.int (105 : Int32)), (.int (110 : Int32)), (.int (103 : Int32)), (.int (108 : Int32)), (.int (101 : Int32)), (.int (116 : Int32)), (.int (111 : Int32)), (.int (110 : Int32))]) (z := (9 : Int32)) ⟨by decide, by decide⟩ (by decide) (by decide) (g := (mkF m 17 #[.val (.ref w), .val (.int md), .val (.ref x)] [])) rfl (hb hby own_d12_17) (n := 36) (by decide) (by decide) (by decide) (by decide)
  have O0_x2 := O0.ext E2
  have CR0_x2 := CR0.trans CB2
  have Ex_x2 := Ex.ext E2
  have K0_x2 := K0.ext E2
  refine own_st st2 ?_
  show own_Rch p e below _ T2 (mkF m 19 #[.val (.ref w), .val (.int md), .val (.ref x)] [(.ref sl2)])
  refine own_retAH rfl rfl (by rw [hh0, e2]; exact CR0_x2.trans (CHv.at (s := s) X2 hZ2 (own_hEL hw) CR0_x2.1)) (s := s) hS2 (by rw [e2]; exact hk2) X2 hx Bd.notSynchronized Bd.returns (hb hby own_d12_19) (by decide) (by decide) ?_
  rw [e2]
  exact ⟨_, rfl, N1, K0_x2, ⟨_, _, Es2, Fv2, Fc2, Va2⟩⟩
theorem own_d12_20 : decode method_4_code 20 = .ok (.aload_n 2, 1) := by decide +kernel
theorem own_d12_21 : decode method_4_code 21 = .ok (.areturn, 1) := by decide +kernel
set_option maxRecDepth 65536 in
set_option maxHeartbeats 40000000 in
theorem own_af3 (l : Launch) (Z : State) (a0 : Array Value) (hw : ∀ d ∈ tables_1, d.before a0 Z = true) (ws : List Jvm.Cond) (w : Addr) (md : Int32) (x : Addr) (l1 : List Int32) (h0 : Heap) (n0 : Nat) (O0 : Old Z n0 h0) (hmd : ¬ md = 0) (S1 : own_Str Z h0 x l1) (hz : ¬ own_len l1 = 0) :
    MetFree l (⟨"com/example/cicada/cicada/BeanDefinitionGetScopePinLaw", "after", "(Ljava/lang/String;ILjava/lang/String;)Ljava/lang/String;"⟩ : MethodName) (head1 (Jvm.Cond.code (⟨"com/example/cicada/cicada/BeanDefinitionGetScopePinLaw", "after", "(Ljava/lang/String;ILjava/lang/String;)Ljava/lang/String;"⟩ : MethodName) method_4_code 3 (some (.object "java/lang/String")) :: ws) ({ frames := 1, cells := 2, slots := 40, locals := 12 } : Room)) (fun args_ U => args_ = #[(.ref w), (.int md), (.ref x)] ∧ Z.Warmed39 U.vm ∧ U.heap = h0 ∧ CHv Z consts_1 U.vm h0) (fun _ _ _ _ _ => True) (fun _ U o U' => ∃ v L, o = .returned v ∧ (own_Q_get Z l1 h0 n0) v U'.heap L ∧ CHr Z consts_1 U.vm U.heap U'.vm U'.heap ∧ ReturnedEndW U o U' L ({ frames := 1, cells := 2, slots := 40, locals := 12 } : Room).cells ({ frames := 1, cells := 2, slots := 40, locals := 12 } : Room).slots) := by
  refine MetFree.of_bodySF (plainFor_of_name own_pn3) hisR ?_
  intro p e s m args below meth c s₁ Bd hml0 hP hK
  obtain ⟨rfl, hZ, hh, hCH⟩ := hP
  have hx := Bd.exec
  have hby := Bd.bytes
  have hml : c.maxLocals = 3 := hml0
  have hown : s.vm.findClass "com/example/cicada/cicada/BeanDefinitionGetScopePinLaw" = some m.cls := findClass_of_methodNamed Bd.named
  have hnm := (name_of_methodNamed Bd.named Bd.method).1
  have X0 : Stand p l e ({ frames := 1, cells := 2, slots := 40, locals := 12 } : Room) (s.setVm s.vm) m #[(.ref w), (.int md), (.ref x)] below meth c s₁ [] 0 0 := Stand.of_body Bd
  have e0 : s₁.heap = h0 := by rw [← hh, Bd.state]; rfl
  have N0 := Fr.nil n0
  have hh0 : s.heap = h0 := hh
  have CR0 : CHr Z consts_1 s.vm h0 s.vm h0 := CHr.refl hCH
  have hS0 : s.Since s.vm 0 := own_since s
  have hk0 : 0 ≤ h0.size := Nat.zero_le _
  have Ex : Exa Z h0 x "java/lang/String" := by obtain ⟨_, _, q, -⟩ := S1; exact q
  refine own_closeH (Z := Z) (EL := consts_1) (s := s) (Q := (own_Q_get Z l1 h0 n0)) (C := (({ frames := 1, cells := 2, slots := 40, locals := 12 } : Room)).cells) (N := (({ frames := 1, cells := 2, slots := 40, locals := 12 } : Room)).slots) (own_st (fun _ kt => castTop (own_ef12 m w md x) kt) ?_)
  have K0 := Keep.refl h0 []
  show own_Rch p e below _ s₁ (mkF m 0 #[.val (.ref w), .val (.int md), .val (.ref x)] [])
  refine own_st (fun _ kt => XS.iloadN X0.here hx rfl (hb hby own_d12_0) rfl  kt) ?_
  show own_Rch p e below _ s₁ (mkF m 1 #[.val (.ref w), .val (.int md), .val (.ref x)] [(.int md)])
  refine own_st (fun _ kt => XS.ifYes X0.here hx rfl (pc0 := 1) (pc' := 6) rfl (hb hby own_d12_1) rfl ((if0 _ _).trans (feq (hmd : ¬ (md = (0 : Int32)))).2) (by decide) (by decide) kt) ?_
  show own_Rch p e below _ s₁ (mkF m 6 #[.val (.ref w), .val (.int md), .val (.ref x)] [])
  refine own_st (fun _ kt => XS.aloadN X0.here hx rfl (hb hby own_d12_6) rfl rfl  kt) ?_
  show own_Rch p e below _ s₁ (mkF m 7 #[.val (.ref w), .val (.int md), .val (.ref x)] [(.ref x)])
  refine own_st (fun _ kt => XS.ifnullNo X0.here hx rfl (hb hby own_d12_7) rfl kt) ?_
  show own_Rch p e below _ s₁ (mkF m 10 #[.val (.ref w), .val (.int md), .val (.ref x)] [])
  refine own_st (fun _ kt => XS.aloadN X0.here hx rfl (hb hby own_d12_10) rfl rfl  kt) ?_
  show own_Rch p e below _ s₁ (mkF m 11 #[.val (.ref w), .val (.int md), .val (.ref x)] [(.ref x)])
  obtain ⟨cq1, kq1, q1a, q1b, q1c⟩ := isOf hZ e0 Ex
  obtain ⟨_, _, ⟨T1, L1, k1, n1⟩, -, X1, ⟨Lc1, hQ1, l1, y1, z1⟩, st1⟩ := X0.virtualBack hx (y := (⟨"java/lang/String", "isEmpty", "()Z"⟩ : MethodName)) (z := (⟨"java/lang/String", "isEmpty", "()Z"⟩ : MethodName)) hown (mvT hZ (hw _ (List.mem_of_getElem? (i := 100) rfl))) (mvT hZ (hw _ (List.mem_of_getElem? (i := 87) rfl))) (notFace_of_selects (args := #[]) (mvT hZ (hw _ (List.mem_of_getElem? (i := 89) rfl)))) (mvT hZ (hw _ (List.mem_of_getElem? (i := 89) rfl))) (mvT hZ (hw _ (List.mem_of_getElem? (i := 88) rfl))) (by decide) (backOf (W := 0) (own_ie0 l Z a0 hw [] x l1 h0 n0 O0 S1 hz) hZ (hw _ (List.mem_of_getElem? (i := 90) rfl)) (hw _ (List.mem_of_getElem? (i := 9) rfl)) (by decide) (by decide)) q1a q1c (g := (mkF m 11 #[.val (.ref w), .val (.int md), .val (.ref x)] [(.ref x)])) rfl (by rw [hml]; rfl) (Steps.refl _) (argsL := []) (rest := []) (lenOf own_pd7 rfl) rfl (by show 2 * 0 + _ ≤ _; exact Nat.le_of_eq rfl) (hb hby own_d12_11) (fun _ _ => ⟨rfl, e0, (by decide : 0 + 0 ≤ _), (by decide : 0 + 0 ≤ _)⟩)
  dsimp only [Pt.U, Pt.locs, Pt.cells, Pt.slots] at X1 l1 y1 z1 st1 hQ1
  subst l1 y1 z1
  obtain ⟨rfl, N1q, hh1⟩ := hQ1
  have N1 := Fr.app N0 N1q
  refine own_st (fun _ kt => st1.trans kt) ?_
  show own_Rch p e below _ T1 (mkF m 14 #[.val (.ref w), .val (.int md), .val (.ref x)] [(.int (0 : Int32))])
  refine own_st (fun _ kt => XS.ifYes X1.here hx rfl (pc0 := 14) (pc' := 20) rfl (hb hby own_d12_14) rfl ((if0 _ _).trans (teq (rfl : (0 : Int32) = (0 : Int32))).1) (by decide) (by decide) kt) ?_
  show own_Rch p e below _ T1 (mkF m 20 #[.val (.ref w), .val (.int md), .val (.ref x)] [])
  refine own_st (fun _ kt => XS.aloadN X1.here hx rfl (hb hby own_d12_20) rfl rfl  kt) ?_
  show own_Rch p e below _ T1 (mkF m 21 #[.val (.ref w), .val (.int md), .val (.ref x)] [(.ref x)])
  refine own_retAH rfl rfl (by rw [hh0, hh1]; exact CR0.trans (CHv.at (s := s) X1 hZ (own_hEL hw) CR0.1)) (s := s) hS0 (by rw [hh1]; exact hk0) X1 hx Bd.notSynchronized Bd.returns (hb hby own_d12_21) (by decide) (by decide) ?_
  rw [hh1]
  exact ⟨_, rfl, N1, K0, S1⟩
theorem own_after (l : Launch) (Z : State) (a0 : Array Value) (hw : ∀ d ∈ tables_1, d.before a0 Z = true) (ws : List Jvm.Cond) (w : Addr) (md : Int32) (vx : Value) (lp lv l1 : List Int32) (h0 : Heap) (n0 : Nat) (O0 : Old Z n0 h0) (SW : own_Str Z h0 w lp) (F : own_V Z h0 vx lv) (hm : (md = 0 ∧ l1 = lp) ∨ (¬ md = 0 ∧ l1 = lv)) :
    MetFree l (⟨"com/example/cicada/cicada/BeanDefinitionGetScopePinLaw", "after", "(Ljava/lang/String;ILjava/lang/String;)Ljava/lang/String;"⟩ : MethodName) (head1 (Jvm.Cond.code (⟨"com/example/cicada/cicada/BeanDefinitionGetScopePinLaw", "after", "(Ljava/lang/String;ILjava/lang/String;)Ljava/lang/String;"⟩ : MethodName) method_4_code 3 (some (.object "java/lang/String")) :: ws) ({ frames := 1, cells := 2, slots := 40, locals := 12 } : Room)) (fun args_ U => args_ = #[(.ref w), (.int md), vx] ∧ Z.Warmed39 U.vm ∧ U.heap = h0 ∧ CHv Z consts_1 U.vm h0) (fun _ _ _ _ _ => True) (fun _ U o U' => ∃ v L, o = .returned v ∧ (own_Q_get Z l1 h0 n0) v U'.heap L ∧ CHr Z consts_1 U.vm U.heap U'.vm U'.heap ∧ ReturnedEndW U o U' L ({ frames := 1, cells := 2, slots := 40, locals := 12 } : Room).cells ({ frames := 1, cells := 2, slots := 40, locals := 12 } : Room).slots) := by
  rcases hm with ⟨rfl, rfl⟩ | ⟨hmd, rfl⟩
  · rcases ref_cases F.ref with rfl | ⟨x, rfl⟩
    · exact own_af0n l Z a0 hw ws w l1 h0 n0 O0 SW
    · exact own_af0r l Z a0 hw ws w x l1 h0 n0 O0 SW
  · rcases F with ⟨rfl, rfl⟩ | ⟨x, rfl, S, rfl⟩ | ⟨x, rfl, S, hz, -⟩
    · exact own_af1 l Z a0 hw ws w md h0 n0 O0 hmd
    · exact own_af2 l Z a0 hw ws w md x h0 n0 O0 hmd S
    · exact own_af3 l Z a0 hw ws w md x l1 h0 n0 O0 hmd S hz
def own_Q_set (Z : State) (a : Addr) (l1 : List Int32) (h0 : Heap) (n0 : Nat) (v : Option Value) (h : Heap) (L : List Loc) : Prop := v = none ∧ Fr n0 L ∧ Keep h0 h [a] ∧ own_BD Z h a l1
theorem own_ne9 {l1 : List Int32} (h : l1.length ≤ 3) : ¬ own_len own_S9 = own_len l1 := by
  rcases own_le3 h with rfl | ⟨x0, rfl⟩ | ⟨x0, x1, rfl⟩ | ⟨x0, x1, x2, rfl⟩
  · decide
  · rw [own_len1]; decide
  · rw [own_len2]; decide
  · rw [own_len3]; decide
theorem own_ne9p {l1 : List Int32} (h : l1.length ≤ 3) : ¬ own_len own_P9 = own_len l1 := by
  rcases own_le3 h with rfl | ⟨x0, rfl⟩ | ⟨x0, x1, rfl⟩ | ⟨x0, x1, x2, rfl⟩
  · decide
  · rw [own_len1]; decide
  · rw [own_len2]; decide
  · rw [own_len3]; decide
theorem own_ef13n1 (m : MethodId) (x0 : Addr) : entryFrame m #[(.ref x0), .null] 2 = mkF m 0 #[.val (.ref x0), .val .null] [] := by first | (simp [entryFrame, mkF, argsToLocals, Value.category]; done) | rfl
theorem own_d13_0 : decode prog_7_method_7_code 0 = .ok (.aload_n 0, 1) := by decide +kernel
theorem own_d13_1 : decode prog_7_method_7_code 1 = .ok (.aload_n 1, 1) := by decide +kernel
theorem own_d13_2 : decode prog_7_method_7_code 2 = .ok (.ifnull 10, 3) := by decide +kernel
theorem own_d13_12 : decode prog_7_method_7_code 12 = .ok (.aconst_null, 1) := by decide +kernel
theorem own_d13_13 : decode prog_7_method_7_code 13 = .ok (.goto 4, 3) := by decide +kernel
theorem own_d13_17 : decode prog_7_method_7_code 17 = .ok (.putfield 57, 3) := by decide +kernel
theorem own_d13_20 : decode prog_7_method_7_code 20 = .ok (.aload_n 0, 1) := by decide +kernel
theorem own_d13_21 : decode prog_7_method_7_code 21 = .ok (.aload_n 0, 1) := by decide +kernel
theorem own_d13_22 : decode prog_7_method_7_code 22 = .ok (.getfield 57, 3) := by decide +kernel
theorem own_d13_25 : decode prog_7_method_7_code 25 = .ok (.ifnull 12, 3) := by decide +kernel
theorem own_d13_37 : decode prog_7_method_7_code 37 = .ok (.iconst 1, 1) := by decide +kernel
theorem own_d13_38 : decode prog_7_method_7_code 38 = .ok (.goto 4, 3) := by decide +kernel
theorem own_d13_42 : decode prog_7_method_7_code 42 = .ok (.putfield 7, 3) := by decide +kernel
theorem own_d13_45 : decode prog_7_method_7_code 45 = .ok (.aload_n 0, 1) := by decide +kernel
theorem own_d13_46 : decode prog_7_method_7_code 46 = .ok (.ldc 69, 2) := by decide +kernel
theorem own_d13_48 : decode prog_7_method_7_code 48 = .ok (.aload_n 1, 1) := by decide +kernel
theorem own_d13_49 : decode prog_7_method_7_code 49 = .ok (.invokevirtual 65, 3) := by decide +kernel
theorem own_pd8 : parseMethodDescriptor "(Ljava/lang/Object;)Z" = some ⟨[(.object "java/lang/Object")], some .boolean⟩ := by decide +kernel
theorem own_d13_52 : decode prog_7_method_7_code 52 = .ok (.putfield 71, 3) := by decide +kernel
theorem own_d13_55 : decode prog_7_method_7_code 55 = .ok (.return_, 1) := by decide +kernel
set_option maxRecDepth 65536 in
set_option maxHeartbeats 40000000 in
theorem own_set0 (l : Launch) (Z : State) (a0 : Array Value) (hw : ∀ d ∈ tables_1, d.before a0 Z = true) (ws : List Jvm.Cond) (a : Addr) (u1 : Value) (u2 : Value) (u3 : Value) (cs : Int32) (h0 : Heap) (n0 : Nat) (O0 : Old Z n0 h0) (SC : Sta Z Z.heap "java/lang/String" "COMPACT_STRINGS" "Z" (.int cs)) (hcs : ¬ cs = 0) (EA : Exa Z h0 a "com/example/cicada/cicada/BeanDefinition") (F1 : Fld Z h0 a "com/example/cicada/cicada/BeanDefinition" "scope" "Ljava/lang/String;" u1) (F2 : Fld Z h0 a "com/example/cicada/cicada/BeanDefinition" "singleton" "Z" u2) (F3 : Fld Z h0 a "com/example/cicada/cicada/BeanDefinition" "prototype" "Z" u3) (ga : n0 ≤ a) :
    MetFree l (⟨"com/example/cicada/cicada/BeanDefinition", "setScope", "(Ljava/lang/String;)V"⟩ : MethodName) (head1 (Jvm.Cond.code (⟨"com/example/cicada/cicada/BeanDefinition", "setScope", "(Ljava/lang/String;)V"⟩ : MethodName) prog_7_method_7_code 2 none :: ws) ({ frames := 2, cells := 4, slots := 80, locals := 44 } : Room)) (fun args_ U => args_ = #[(.ref a), .null] ∧ Z.Warmed39 U.vm ∧ U.heap = h0 ∧ CHv Z consts_1 U.vm h0) (fun _ _ _ _ _ => True) (fun _ U o U' => ∃ v L, o = .returned v ∧ (own_Q_set Z a own_S9 h0 n0) v U'.heap L ∧ CHr Z consts_1 U.vm U.heap U'.vm U'.heap ∧ ReturnedEndW U o U' L ({ frames := 2, cells := 4, slots := 80, locals := 44 } : Room).cells ({ frames := 2, cells := 4, slots := 80, locals := 44 } : Room).slots) := by
  refine MetFree.of_bodySF (plainFor_of_name own_pn4) hisR ?_
  intro p e s m args below meth c s₁ Bd hml0 hP hK
  obtain ⟨rfl, hZ, hh, hCH⟩ := hP
  have hx := Bd.exec
  have hby := Bd.bytes
  have hml : c.maxLocals = 2 := hml0
  have hown : s.vm.findClass "com/example/cicada/cicada/BeanDefinition" = some m.cls := findClass_of_methodNamed Bd.named
  have hnm := (name_of_methodNamed Bd.named Bd.method).1
  have X0 : Stand p l e ({ frames := 2, cells := 4, slots := 80, locals := 44 } : Room) (s.setVm s.vm) m #[(.ref a), .null] below meth c s₁ [] 0 0 := Stand.of_body Bd
  have e0 : s₁.heap = h0 := by rw [← hh, Bd.state]; rfl
  have N0 := Fr.nil n0
  have hh0 : s.heap = h0 := hh
  have CR0 : CHr Z consts_1 s.vm h0 s.vm h0 := CHr.refl hCH
  have hS0 : s.Since s.vm 0 := own_since s
  have hk0 : 0 ≤ h0.size := Nat.zero_le _
  refine own_closeH (Z := Z) (EL := consts_1) (s := s) (Q := (own_Q_set Z a own_S9 h0 n0)) (C := (({ frames := 2, cells := 4, slots := 80, locals := 44 } : Room)).cells) (N := (({ frames := 2, cells := 4, slots := 80, locals := 44 } : Room)).slots) (own_st (fun _ kt => castTop (own_ef13n1 m a) kt) ?_)
  have K0 := Keep.refl h0 [a]
  show own_Rch p e below _ s₁ (mkF m 0 #[.val (.ref a), .val .null] [])
  refine own_st (fun _ kt => XS.aloadN X0.here hx rfl (hb hby own_d13_0) rfl rfl  kt) ?_
  show own_Rch p e below _ s₁ (mkF m 1 #[.val (.ref a), .val .null] [(.ref a)])
  refine own_st (fun _ kt => XS.aloadN X0.here hx rfl (hb hby own_d13_1) rfl rfl  kt) ?_
  show own_Rch p e below _ s₁ (mkF m 2 #[.val (.ref a), .val .null] [.null, (.ref a)])
  refine own_st (fun _ kt => XS.ifnullYes X0.here hx rfl (pc0 := 2) (pc' := 12) rfl (hb hby own_d13_2) rfl (by decide) (by decide) kt) ?_
  show own_Rch p e below _ s₁ (mkF m 12 #[.val (.ref a), .val .null] [(.ref a)])
  refine own_st (fun _ kt => XS.aconstNull X0.here hx rfl (hb hby own_d13_12) kt) ?_
  show own_Rch p e below _ s₁ (mkF m 13 #[.val (.ref a), .val .null] [.null, (.ref a)])
  refine own_st (fun _ kt => XS.goto X0.here hx rfl (pc0 := 13) (pc' := 17) rfl (hb hby own_d13_13) (by decide) (by decide) kt) ?_
  show own_Rch p e below _ s₁ (mkF m 17 #[.val (.ref a), .val .null] [.null, (.ref a)])
  obtain ⟨T1, h1, X1, e1, W1, st1⟩ := putF X0 hx hZ hown (host := "") (Or.inl (hw _ (List.mem_of_getElem? (i := 66) rfl))) Via.refl e0 F1 EA (Or.inl (hw _ (List.mem_of_getElem? (i := 67) rfl))) (hw _ (List.mem_of_getElem? (i := 38) rfl)) (ty := (.object "java/lang/String")) (by decide) rfl rfl (g := (mkF m 17 #[.val (.ref a), .val .null] [.null, (.ref a)])) rfl rfl (hb hby own_d13_17)
  refine own_st st1 ?_
  have Fw1 := F1.same W1
  have N1 := Fr.snoc X1 N0 ga
  have hkk1 := Nat.le_trans hk0 (Nat.le_of_eq (Wr.size W1).symm)
  have O0_x1 := O0.wr W1 ga
  have CR0_x1 := CR0.trans (CHr.wr W1 (Safe.exa (hZ).alike EA (by decide) (by decide)) CR0.1)
  have EA_x1 := EA.wr W1
  have F2_x1 := F2.other W1 (Or.inr (slot_ne (Or.inl (hw _ (List.mem_of_getElem? (i := 45) rfl))) (Or.inl (hw _ (List.mem_of_getElem? (i := 67) rfl))) (by decide) (t := .boolean) (t' := (.object "java/lang/String")) (by decide) (by decide)))
  have F3_x1 := F3.other W1 (Or.inr (slot_ne (Or.inl (hw _ (List.mem_of_getElem? (i := 99) rfl))) (Or.inl (hw _ (List.mem_of_getElem? (i := 67) rfl))) (by decide) (t := .boolean) (t' := (.object "java/lang/String")) (by decide) (by decide)))
  have K0_x1 := K0.wr W1 (Or.inl (List.mem_of_getElem? (i := 0) rfl))
  show own_Rch p e below _ T1 (mkF m 20 #[.val (.ref a), .val .null] [])
  refine own_st (fun _ kt => XS.aloadN X1.here hx rfl (hb hby own_d13_20) rfl rfl  kt) ?_
  show own_Rch p e below _ T1 (mkF m 21 #[.val (.ref a), .val .null] [(.ref a)])
  refine own_st (fun _ kt => XS.aloadN X1.here hx rfl (hb hby own_d13_21) rfl rfl  kt) ?_
  show own_Rch p e below _ T1 (mkF m 22 #[.val (.ref a), .val .null] [(.ref a), (.ref a)])
  obtain ⟨T2, X2, e2, st2⟩ := getF X1 hx hZ hown (host := "") (Or.inl (hw _ (List.mem_of_getElem? (i := 66) rfl))) Via.refl e1 Fw1 (g := (mkF m 22 #[.val (.ref a), .val .null] [(.ref a), (.ref a)])) rfl rfl (hb hby own_d13_22)
  refine own_st st2 ?_
  show own_Rch p e below _ T2 (mkF m 25 #[.val (.ref a), .val .null] [.null, (.ref a)])
  refine own_st (fun _ kt => XS.ifnullYes X2.here hx rfl (pc0 := 25) (pc' := 37) rfl (hb hby own_d13_25) rfl (by decide) (by decide) kt) ?_
  show own_Rch p e below _ T2 (mkF m 37 #[.val (.ref a), .val .null] [(.ref a)])
  refine own_st (fun _ kt => XS.iconst X2.here hx rfl (hb hby own_d13_37) kt) ?_
  show own_Rch p e below _ T2 (mkF m 38 #[.val (.ref a), .val .null] [(.int (1 : Int32)), (.ref a)])
  refine own_st (fun _ kt => XS.goto X2.here hx rfl (pc0 := 38) (pc' := 42) rfl (hb hby own_d13_38) (by decide) (by decide) kt) ?_
  show own_Rch p e below _ T2 (mkF m 42 #[.val (.ref a), .val .null] [(.int (1 : Int32)), (.ref a)])
  obtain ⟨T3, h3, X3, e3, W3, st3⟩ := putFN X2 hx hZ hown (hw _ (List.mem_of_getElem? (i := 44) rfl)) Via.refl e2 F2_x1 EA_x1 (Or.inl (hw _ (List.mem_of_getElem? (i := 45) rfl))) (hw _ (List.mem_of_getElem? (i := 38) rfl)) (ty := .boolean) (v' := (.int (1 : Int32))) (by decide) rfl (by decide) (g := (mkF m 42 #[.val (.ref a), .val .null] [(.int (1 : Int32)), (.ref a)])) rfl rfl (hb hby own_d13_42)
  refine own_st st3 ?_
  have Fw3 := F2_x1.same W3
  have N3 := Fr.snoc X3 N1 ga
  have hkk3 := Nat.le_trans hkk1 (Nat.le_of_eq (Wr.size W3).symm)
  have O0_x3 := O0_x1.wr W3 ga
  have CR0_x3 := CR0_x1.trans (CHr.wr W3 (Safe.exa (hZ).alike EA_x1 (by decide) (by decide)) CR0_x1.1)
  have EA_x3 := EA_x1.wr W3
  have Fw1_x3 := Fw1.other W3 (Or.inr (slot_ne (Or.inl (hw _ (List.mem_of_getElem? (i := 67) rfl))) (Or.inl (hw _ (List.mem_of_getElem? (i := 45) rfl))) (by decide) (t := (.object "java/lang/String")) (t' := .boolean) (by decide) (by decide)))
  have F3_x3 := F3_x1.other W3 (Or.inr (slot_ne (Or.inl (hw _ (List.mem_of_getElem? (i := 99) rfl))) (Or.inl (hw _ (List.mem_of_getElem? (i := 45) rfl))) (by decide) (t := .boolean) (t' := .boolean) (by decide) (by decide)))
  have K0_x3 := K0_x1.wr W3 (Or.inl (List.mem_of_getElem? (i := 0) rfl))
  show own_Rch p e below _ T3 (mkF m 45 #[.val (.ref a), .val .null] [])
  refine own_st (fun _ kt => XS.aloadN X3.here hx rfl (hb hby own_d13_45) rfl rfl  kt) ?_
  show own_Rch p e below _ T3 (mkF m 46 #[.val (.ref a), .val .null] [(.ref a)])
  obtain ⟨sl4, T4, h4, ks4, sd4, kd4, X4, e4, E4, hS4, hk4, hZ4, hown4, Es4, Fc4, Fv4, Va4, -, -, CB4, Lt4, hne4, st4⟩ := ldcCH (s := s) X3 hx hZ hown (hw _ (List.mem_of_getElem? (i := 97) rfl)) (own_wS hw) e3 hS0 hkk3 (own_hEL hw) (List.mem_of_getElem? (i := 1) rfl) CR0_x3.1 (vs := [(.int (112 : Int32)), (.int (114 : Int32)), (.int (111 : Int32)), (.int (116 : Int32)), (.int (111 : Int32)), (.int (116 : Int32)), (.int (121 : Int32)), (.int (112 : Int32)), (.int (101 : Int32))]) (z := (9 : Int32)) ⟨by decide, by decide⟩ (by decide) (by decide) (g := (mkF m 46 #[.val (.ref a), .val .null] [(.ref a)])) rfl (hb hby own_d13_46) (n := 36) (by decide) (by decide) (by decide) (by decide)
  have O0_x4 := O0_x3.ext E4
  have CR0_x4 := CR0_x3.trans CB4
  have EA_x4 := EA_x3.ext E4
  have Fw1_x4 := Fw1_x3.ext E4
  have Fw3_x4 := Fw3.ext E4
  have F3_x4 := F3_x3.ext E4
  have K0_x4 := K0_x3.ext E4
  refine own_st st4 ?_
  show own_Rch p e below _ T4 (mkF m 48 #[.val (.ref a), .val .null] [(.ref sl4), (.ref a)])
  refine own_st (fun _ kt => XS.aloadN X4.here hx rfl (hb hby own_d13_48) rfl rfl  kt) ?_
  show own_Rch p e below _ T4 (mkF m 49 #[.val (.ref a), .val .null] [.null, (.ref sl4), (.ref a)])
  obtain ⟨cq5, kq5, q5a, q5b, q5c⟩ := isOf hZ4 e4 Es4
  obtain ⟨_, _, ⟨T5, L5, k5, n5⟩, -, X5, ⟨Lc5, hQ5, l5, y5, z5⟩, st5⟩ := X4.virtualBack hx (y := (⟨"java/lang/String", "equals", "(Ljava/lang/Object;)Z"⟩ : MethodName)) (z := (⟨"java/lang/String", "equals", "(Ljava/lang/Object;)Z"⟩ : MethodName)) hown4 (mvT hZ4 (hw _ (List.mem_of_getElem? (i := 91) rfl))) (mvT hZ4 (hw _ (List.mem_of_getElem? (i := 73) rfl))) (notFace_of_selects (args := #[]) (mvT hZ4 (hw _ (List.mem_of_getElem? (i := 75) rfl)))) (mvT hZ4 (hw _ (List.mem_of_getElem? (i := 75) rfl))) (mvT hZ4 (hw _ (List.mem_of_getElem? (i := 74) rfl))) (by decide) (backOf (W := 1) (own_eq0 l Z a0 hw [] sl4 h4 n0 O0_x4 ) hZ4 (hw _ (List.mem_of_getElem? (i := 76) rfl)) (hw _ (List.mem_of_getElem? (i := 9) rfl)) (by decide) (by decide)) q5a q5c (g := (mkF m 49 #[.val (.ref a), .val .null] [.null, (.ref sl4), (.ref a)])) rfl (by rw [hml]; rfl) (Steps.refl _) (argsL := [.null]) (rest := [(.ref a)]) (lenOf own_pd8 rfl) rfl (by show 2 * 0 + _ ≤ _; exact Nat.le_of_eq rfl) (hb hby own_d13_49) (fun _ _ => ⟨rfl, e4, (by decide : 2 + 0 ≤ _), (by decide : 40 + 0 ≤ _)⟩)
  dsimp only [Pt.U, Pt.locs, Pt.cells, Pt.slots] at X5 l5 y5 z5 st5 hQ5
  subst l5 y5 z5
  obtain ⟨rr5, rfl, N5q, hh5⟩ := hQ5
  have N5 := Fr.app N3 N5q
  refine own_st (fun _ kt => st5.trans kt) ?_
  show own_Rch p e below _ T5 (mkF m 52 #[.val (.ref a), .val .null] [(.int rr5), (.ref a)])
  obtain ⟨T6, h6, X6, e6, W6, st6⟩ := putFN X5 hx hZ4 hown4 (hw _ (List.mem_of_getElem? (i := 98) rfl)) Via.refl hh5 F3_x4 EA_x4 (Or.inl (hw _ (List.mem_of_getElem? (i := 99) rfl))) (hw _ (List.mem_of_getElem? (i := 38) rfl)) (ty := .boolean) (v' := (.int (nar .boolean rr5))) (by decide) rfl (fits_nar_bool _) (g := (mkF m 52 #[.val (.ref a), .val .null] [(.int rr5), (.ref a)])) rfl rfl (hb hby own_d13_52)
  refine own_st st6 ?_
  have Fw6 := F3_x4.same W6
  have N6 := Fr.snoc X6 N5 ga
  have hkk6 := Nat.le_trans hk4 (Nat.le_of_eq (Wr.size W6).symm)
  have O0_x6 := O0_x4.wr W6 ga
  have CR0_x6 := CR0_x4.trans (CHr.wr W6 (Safe.exa (hZ4).alike EA_x4 (by decide) (by decide)) CR0_x4.1)
  have EA_x6 := EA_x4.wr W6
  have Fw1_x6 := Fw1_x4.other W6 (Or.inr (slot_ne (Or.inl (hw _ (List.mem_of_getElem? (i := 67) rfl))) (Or.inl (hw _ (List.mem_of_getElem? (i := 99) rfl))) (by decide) (t := (.object "java/lang/String")) (t' := .boolean) (by decide) (by decide)))
  have Fw3_x6 := Fw3_x4.other W6 (Or.inr (slot_ne (Or.inl (hw _ (List.mem_of_getElem? (i := 45) rfl))) (Or.inl (hw _ (List.mem_of_getElem? (i := 99) rfl))) (by decide) (t := .boolean) (t' := .boolean) (by decide) (by decide)))
  have K0_x6 := K0_x4.wr W6 (Or.inl (List.mem_of_getElem? (i := 0) rfl))
  have Es4_x6 := Es4.wr W6
  have Fc4_x6 := Fc4.other W6 (Or.inl (Exa.ne Es4 EA_x4 (by decide)))
  have Fv4_x6 := Fv4.other W6 (Or.inl (Exa.ne Es4 EA_x4 (by decide)))
  have Va4_x6 := Va4.other W6 (Ne.symm (Exa.neArv EA_x4 Va4 (hw _ (List.mem_of_getElem? (i := 38) rfl))))
  show own_Rch p e below _ T6 (mkF m 55 #[.val (.ref a), .val .null] [])
  refine own_retVH (by rw [hh0, e6]; exact CR0_x6.trans (CHv.at (s := s) X6 hZ4 (own_hEL hw) CR0_x6.1)) (s := s) hS4 (by rw [e6]; exact hkk6) X6 hx Bd.notSynchronized Bd.returns (hb hby own_d13_55) (by decide) (by decide) ?_
  rw [e6]
  exact ⟨rfl, N6, K0_x6, EA_x6, ⟨_, Fw3_x6⟩, ⟨_, Fw6⟩, Or.inl ⟨Fw1_x6, rfl⟩⟩
theorem own_ef13 (m : MethodId) (x0 : Addr) (x1 : Addr) : entryFrame m #[(.ref x0), (.ref x1)] 2 = mkF m 0 #[.val (.ref x0), .val (.ref x1)] [] := by first | (simp [entryFrame, mkF, argsToLocals, Value.category]; done) | rfl
theorem own_d13_5 : decode prog_7_method_7_code 5 = .ok (.aload_n 1, 1) := by decide +kernel
theorem own_d13_6 : decode prog_7_method_7_code 6 = .ok (.invokevirtual 61, 3) := by decide +kernel
theorem own_d13_9 : decode prog_7_method_7_code 9 = .ok (.ifCond .eq 7, 3) := by decide +kernel
set_option maxRecDepth 65536 in
set_option maxHeartbeats 40000000 in
theorem own_set1 (l : Launch) (Z : State) (a0 : Array Value) (hw : ∀ d ∈ tables_1, d.before a0 Z = true) (ws : List Jvm.Cond) (a : Addr) (u1 : Value) (u2 : Value) (u3 : Value) (cs : Int32) (x : Addr) (h0 : Heap) (n0 : Nat) (O0 : Old Z n0 h0) (SC : Sta Z Z.heap "java/lang/String" "COMPACT_STRINGS" "Z" (.int cs)) (hcs : ¬ cs = 0) (EA : Exa Z h0 a "com/example/cicada/cicada/BeanDefinition") (F1 : Fld Z h0 a "com/example/cicada/cicada/BeanDefinition" "scope" "Ljava/lang/String;" u1) (F2 : Fld Z h0 a "com/example/cicada/cicada/BeanDefinition" "singleton" "Z" u2) (F3 : Fld Z h0 a "com/example/cicada/cicada/BeanDefinition" "prototype" "Z" u3) (ga : n0 ≤ a) (S1 : own_Str Z h0 x []) :
    MetFree l (⟨"com/example/cicada/cicada/BeanDefinition", "setScope", "(Ljava/lang/String;)V"⟩ : MethodName) (head1 (Jvm.Cond.code (⟨"com/example/cicada/cicada/BeanDefinition", "setScope", "(Ljava/lang/String;)V"⟩ : MethodName) prog_7_method_7_code 2 none :: ws) ({ frames := 2, cells := 4, slots := 80, locals := 44 } : Room)) (fun args_ U => args_ = #[(.ref a), (.ref x)] ∧ Z.Warmed39 U.vm ∧ U.heap = h0 ∧ CHv Z consts_1 U.vm h0) (fun _ _ _ _ _ => True) (fun _ U o U' => ∃ v L, o = .returned v ∧ (own_Q_set Z a own_S9 h0 n0) v U'.heap L ∧ CHr Z consts_1 U.vm U.heap U'.vm U'.heap ∧ ReturnedEndW U o U' L ({ frames := 2, cells := 4, slots := 80, locals := 44 } : Room).cells ({ frames := 2, cells := 4, slots := 80, locals := 44 } : Room).slots) := by
  refine MetFree.of_bodySF (plainFor_of_name own_pn4) hisR ?_
  intro p e s m args below meth c s₁ Bd hml0 hP hK
  obtain ⟨rfl, hZ, hh, hCH⟩ := hP
  have hx := Bd.exec
  have hby := Bd.bytes
  have hml : c.maxLocals = 2 := hml0
  have hown : s.vm.findClass "com/example/cicada/cicada/BeanDefinition" = some m.cls := findClass_of_methodNamed Bd.named
  have hnm := (name_of_methodNamed Bd.named Bd.method).1
  have X0 : Stand p l e ({ frames := 2, cells := 4, slots := 80, locals := 44 } : Room) (s.setVm s.vm) m #[(.ref a), (.ref x)] below meth c s₁ [] 0 0 := Stand.of_body Bd
  have e0 : s₁.heap = h0 := by rw [← hh, Bd.state]; rfl
  have N0 := Fr.nil n0
  have hh0 : s.heap = h0 := hh
  have CR0 : CHr Z consts_1 s.vm h0 s.vm h0 := CHr.refl hCH
  have hS0 : s.Since s.vm 0 := own_since s
  have hk0 : 0 ≤ h0.size := Nat.zero_le _
  have Ex : Exa Z h0 x "java/lang/String" := by obtain ⟨_, _, q, -⟩ := S1; exact q
  refine own_closeH (Z := Z) (EL := consts_1) (s := s) (Q := (own_Q_set Z a own_S9 h0 n0)) (C := (({ frames := 2, cells := 4, slots := 80, locals := 44 } : Room)).cells) (N := (({ frames := 2, cells := 4, slots := 80, locals := 44 } : Room)).slots) (own_st (fun _ kt => castTop (own_ef13 m a x) kt) ?_)
  have K0 := Keep.refl h0 [a]
  show own_Rch p e below _ s₁ (mkF m 0 #[.val (.ref a), .val (.ref x)] [])
  refine own_st (fun _ kt => XS.aloadN X0.here hx rfl (hb hby own_d13_0) rfl rfl  kt) ?_
  show own_Rch p e below _ s₁ (mkF m 1 #[.val (.ref a), .val (.ref x)] [(.ref a)])
  refine own_st (fun _ kt => XS.aloadN X0.here hx rfl (hb hby own_d13_1) rfl rfl  kt) ?_
  show own_Rch p e below _ s₁ (mkF m 2 #[.val (.ref a), .val (.ref x)] [(.ref x), (.ref a)])
  refine own_st (fun _ kt => XS.ifnullNo X0.here hx rfl (hb hby own_d13_2) rfl kt) ?_
  show own_Rch p e below _ s₁ (mkF m 5 #[.val (.ref a), .val (.ref x)] [(.ref a)])
  refine own_st (fun _ kt => XS.aloadN X0.here hx rfl (hb hby own_d13_5) rfl rfl  kt) ?_
  show own_Rch p e below _ s₁ (mkF m 6 #[.val (.ref a), .val (.ref x)] [(.ref x), (.ref a)])
  obtain ⟨cq1, kq1, q1a, q1b, q1c⟩ := isOf hZ e0 Ex
  obtain ⟨_, _, ⟨T1, L1, k1, n1⟩, -, X1, ⟨Lc1, hQ1, l1, y1, z1⟩, st1⟩ := X0.virtualBack hx (y := (⟨"java/lang/String", "isEmpty", "()Z"⟩ : MethodName)) (z := (⟨"java/lang/String", "isEmpty", "()Z"⟩ : MethodName)) hown (mvT hZ (hw _ (List.mem_of_getElem? (i := 86) rfl))) (mvT hZ (hw _ (List.mem_of_getElem? (i := 87) rfl))) (notFace_of_selects (args := #[]) (mvT hZ (hw _ (List.mem_of_getElem? (i := 89) rfl)))) (mvT hZ (hw _ (List.mem_of_getElem? (i := 89) rfl))) (mvT hZ (hw _ (List.mem_of_getElem? (i := 88) rfl))) (by decide) (backOf (W := 1) (own_ie1 l Z a0 hw [] x h0 n0 O0 S1) hZ (hw _ (List.mem_of_getElem? (i := 90) rfl)) (hw _ (List.mem_of_getElem? (i := 9) rfl)) (by decide) (by decide)) q1a q1c (g := (mkF m 6 #[.val (.ref a), .val (.ref x)] [(.ref x), (.ref a)])) rfl (by rw [hml]; rfl) (Steps.refl _) (argsL := []) (rest := [(.ref a)]) (lenOf own_pd7 rfl) rfl (by show 2 * 0 + _ ≤ _; exact Nat.le_of_eq rfl) (hb hby own_d13_6) (fun _ _ => ⟨rfl, e0, (by decide : 0 + 0 ≤ _), (by decide : 0 + 0 ≤ _)⟩)
  dsimp only [Pt.U, Pt.locs, Pt.cells, Pt.slots] at X1 l1 y1 z1 st1 hQ1
  subst l1 y1 z1
  obtain ⟨rfl, N1q, hh1⟩ := hQ1
  have N1 := Fr.app N0 N1q
  refine own_st (fun _ kt => st1.trans kt) ?_
  show own_Rch p e below _ T1 (mkF m 9 #[.val (.ref a), .val (.ref x)] [(.int (1 : Int32)), (.ref a)])
  refine own_st (fun _ kt => XS.ifNo X1.here hx rfl (hb hby own_d13_9) rfl ((if0 _ _).trans (feq ((by decide) : ¬ ((1 : Int32) = (0 : Int32)))).1) kt) ?_
  show own_Rch p e below _ T1 (mkF m 12 #[.val (.ref a), .val (.ref x)] [(.ref a)])
  refine own_st (fun _ kt => XS.aconstNull X1.here hx rfl (hb hby own_d13_12) kt) ?_
  show own_Rch p e below _ T1 (mkF m 13 #[.val (.ref a), .val (.ref x)] [.null, (.ref a)])
  refine own_st (fun _ kt => XS.goto X1.here hx rfl (pc0 := 13) (pc' := 17) rfl (hb hby own_d13_13) (by decide) (by decide) kt) ?_
  show own_Rch p e below _ T1 (mkF m 17 #[.val (.ref a), .val (.ref x)] [.null, (.ref a)])
  obtain ⟨T2, h2, X2, e2, W2, st2⟩ := putF X1 hx hZ hown (host := "") (Or.inl (hw _ (List.mem_of_getElem? (i := 66) rfl))) Via.refl hh1 F1 EA (Or.inl (hw _ (List.mem_of_getElem? (i := 67) rfl))) (hw _ (List.mem_of_getElem? (i := 38) rfl)) (ty := (.object "java/lang/String")) (by decide) rfl rfl (g := (mkF m 17 #[.val (.ref a), .val (.ref x)] [.null, (.ref a)])) rfl rfl (hb hby own_d13_17)
  refine own_st st2 ?_
  have Fw2 := F1.same W2
  have N2 := Fr.snoc X2 N1 ga
  have hkk2 := Nat.le_trans hk0 (Nat.le_of_eq (Wr.size W2).symm)
  have O0_x2 := O0.wr W2 ga
  have CR0_x2 := CR0.trans (CHr.wr W2 (Safe.exa (hZ).alike EA (by decide) (by decide)) CR0.1)
  have EA_x2 := EA.wr W2
  have F2_x2 := F2.other W2 (Or.inr (slot_ne (Or.inl (hw _ (List.mem_of_getElem? (i := 45) rfl))) (Or.inl (hw _ (List.mem_of_getElem? (i := 67) rfl))) (by decide) (t := .boolean) (t' := (.object "java/lang/String")) (by decide) (by decide)))
  have F3_x2 := F3.other W2 (Or.inr (slot_ne (Or.inl (hw _ (List.mem_of_getElem? (i := 99) rfl))) (Or.inl (hw _ (List.mem_of_getElem? (i := 67) rfl))) (by decide) (t := .boolean) (t' := (.object "java/lang/String")) (by decide) (by decide)))
  have Ex_x2 := Ex.wr W2
  have S1_x2 := S1.keep1 (Keep.of_wr W2) EA (by decide) (hw _ (List.mem_of_getElem? (i := 38) rfl))
  have K0_x2 := K0.wr W2 (Or.inl (List.mem_of_getElem? (i := 0) rfl))
  show own_Rch p e below _ T2 (mkF m 20 #[.val (.ref a), .val (.ref x)] [])
  refine own_st (fun _ kt => XS.aloadN X2.here hx rfl (hb hby own_d13_20) rfl rfl  kt) ?_
  show own_Rch p e below _ T2 (mkF m 21 #[.val (.ref a), .val (.ref x)] [(.ref a)])
  refine own_st (fun _ kt => XS.aloadN X2.here hx rfl (hb hby own_d13_21) rfl rfl  kt) ?_
  show own_Rch p e below _ T2 (mkF m 22 #[.val (.ref a), .val (.ref x)] [(.ref a), (.ref a)])
  obtain ⟨T3, X3, e3, st3⟩ := getF X2 hx hZ hown (host := "") (Or.inl (hw _ (List.mem_of_getElem? (i := 66) rfl))) Via.refl e2 Fw2 (g := (mkF m 22 #[.val (.ref a), .val (.ref x)] [(.ref a), (.ref a)])) rfl rfl (hb hby own_d13_22)
  refine own_st st3 ?_
  show own_Rch p e below _ T3 (mkF m 25 #[.val (.ref a), .val (.ref x)] [.null, (.ref a)])
  refine own_st (fun _ kt => XS.ifnullYes X3.here hx rfl (pc0 := 25) (pc' := 37) rfl (hb hby own_d13_25) rfl (by decide) (by decide) kt) ?_
  show own_Rch p e below _ T3 (mkF m 37 #[.val (.ref a), .val (.ref x)] [(.ref a)])
  refine own_st (fun _ kt => XS.iconst X3.here hx rfl (hb hby own_d13_37) kt) ?_
  show own_Rch p e below _ T3 (mkF m 38 #[.val (.ref a), .val (.ref x)] [(.int (1 : Int32)), (.ref a)])
  refine own_st (fun _ kt => XS.goto X3.here hx rfl (pc0 := 38) (pc' := 42) rfl (hb hby own_d13_38) (by decide) (by decide) kt) ?_
  show own_Rch p e below _ T3 (mkF m 42 #[.val (.ref a), .val (.ref x)] [(.int (1 : Int32)), (.ref a)])
  obtain ⟨T4, h4, X4, e4, W4, st4⟩ := putFN X3 hx hZ hown (hw _ (List.mem_of_getElem? (i := 44) rfl)) Via.refl e3 F2_x2 EA_x2 (Or.inl (hw _ (List.mem_of_getElem? (i := 45) rfl))) (hw _ (List.mem_of_getElem? (i := 38) rfl)) (ty := .boolean) (v' := (.int (1 : Int32))) (by decide) rfl (by decide) (g := (mkF m 42 #[.val (.ref a), .val (.ref x)] [(.int (1 : Int32)), (.ref a)])) rfl rfl (hb hby own_d13_42)
  refine own_st st4 ?_
  have Fw4 := F2_x2.same W4
  have N4 := Fr.snoc X4 N2 ga
  have hkk4 := Nat.le_trans hkk2 (Nat.le_of_eq (Wr.size W4).symm)
  have O0_x4 := O0_x2.wr W4 ga
  have CR0_x4 := CR0_x2.trans (CHr.wr W4 (Safe.exa (hZ).alike EA_x2 (by decide) (by decide)) CR0_x2.1)
  have EA_x4 := EA_x2.wr W4
  have Fw2_x4 := Fw2.other W4 (Or.inr (slot_ne (Or.inl (hw _ (List.mem_of_getElem? (i := 67) rfl))) (Or.inl (hw _ (List.mem_of_getElem? (i := 45) rfl))) (by decide) (t := (.object "java/lang/String")) (t' := .boolean) (by decide) (by decide)))
  have F3_x4 := F3_x2.other W4 (Or.inr (slot_ne (Or.inl (hw _ (List.mem_of_getElem? (i := 99) rfl))) (Or.inl (hw _ (List.mem_of_getElem? (i := 45) rfl))) (by decide) (t := .boolean) (t' := .boolean) (by decide) (by decide)))
  have Ex_x4 := Ex_x2.wr W4
  have S1_x4 := S1_x2.keep1 (Keep.of_wr W4) EA_x2 (by decide) (hw _ (List.mem_of_getElem? (i := 38) rfl))
  have K0_x4 := K0_x2.wr W4 (Or.inl (List.mem_of_getElem? (i := 0) rfl))
  show own_Rch p e below _ T4 (mkF m 45 #[.val (.ref a), .val (.ref x)] [])
  refine own_st (fun _ kt => XS.aloadN X4.here hx rfl (hb hby own_d13_45) rfl rfl  kt) ?_
  show own_Rch p e below _ T4 (mkF m 46 #[.val (.ref a), .val (.ref x)] [(.ref a)])
  obtain ⟨sl5, T5, h5, ks5, sd5, kd5, X5, e5, E5, hS5, hk5, hZ5, hown5, Es5, Fc5, Fv5, Va5, -, -, CB5, Lt5, hne5, st5⟩ := ldcCH (s := s) X4 hx hZ hown (hw _ (List.mem_of_getElem? (i := 97) rfl)) (own_wS hw) e4 hS0 hkk4 (own_hEL hw) (List.mem_of_getElem? (i := 1) rfl) CR0_x4.1 (vs := [(.int (112 : Int32)), (.int (114 : Int32)), (.int (111 : Int32)), (.int (116 : Int32)), (.int (111 : Int32)), (.int (116 : Int32)), (.int (121 : Int32)), (.int (112 : Int32)), (.int (101 : Int32))]) (z := (9 : Int32)) ⟨by decide, by decide⟩ (by decide) (by decide) (g := (mkF m 46 #[.val (.ref a), .val (.ref x)] [(.ref a)])) rfl (hb hby own_d13_46) (n := 36) (by decide) (by decide) (by decide) (by decide)
  have O0_x5 := O0_x4.ext E5
  have CR0_x5 := CR0_x4.trans CB5
  have EA_x5 := EA_x4.ext E5
  have Fw2_x5 := Fw2_x4.ext E5
  have Fw4_x5 := Fw4.ext E5
  have F3_x5 := F3_x4.ext E5
  have Ex_x5 := Ex_x4.ext E5
  have S1_x5 := S1_x4.ext E5
  have K0_x5 := K0_x4.ext E5
  refine own_st st5 ?_
  show own_Rch p e below _ T5 (mkF m 48 #[.val (.ref a), .val (.ref x)] [(.ref sl5), (.ref a)])
  refine own_st (fun _ kt => XS.aloadN X5.here hx rfl (hb hby own_d13_48) rfl rfl  kt) ?_
  show own_Rch p e below _ T5 (mkF m 49 #[.val (.ref a), .val (.ref x)] [(.ref x), (.ref sl5), (.ref a)])
  obtain ⟨cq6, kq6, q6a, q6b, q6c⟩ := isOf hZ5 e5 Es5
  obtain ⟨_, _, ⟨T6, L6, k6, n6⟩, -, X6, ⟨Lc6, hQ6, l6, y6, z6⟩, st6⟩ := X5.virtualBack hx (y := (⟨"java/lang/String", "equals", "(Ljava/lang/Object;)Z"⟩ : MethodName)) (z := (⟨"java/lang/String", "equals", "(Ljava/lang/Object;)Z"⟩ : MethodName)) hown5 (mvT hZ5 (hw _ (List.mem_of_getElem? (i := 91) rfl))) (mvT hZ5 (hw _ (List.mem_of_getElem? (i := 73) rfl))) (notFace_of_selects (args := #[]) (mvT hZ5 (hw _ (List.mem_of_getElem? (i := 75) rfl)))) (mvT hZ5 (hw _ (List.mem_of_getElem? (i := 75) rfl))) (mvT hZ5 (hw _ (List.mem_of_getElem? (i := 74) rfl))) (by decide) (backOf (W := 1) (own_eqN l Z a0 hw [] sl5 x own_P9 [] cs h5 n0 O0_x5 SC hcs (⟨_, _, Es5, Fv5, Fc5, Va5⟩ : own_Str Z h5 sl5 own_P9) S1_x5 (by decide)) hZ5 (hw _ (List.mem_of_getElem? (i := 76) rfl)) (hw _ (List.mem_of_getElem? (i := 9) rfl)) (by decide) (by decide)) q6a q6c (g := (mkF m 49 #[.val (.ref a), .val (.ref x)] [(.ref x), (.ref sl5), (.ref a)])) rfl (by rw [hml]; rfl) (Steps.refl _) (argsL := [(.ref x)]) (rest := [(.ref a)]) (lenOf own_pd8 rfl) rfl (by show 2 * 0 + _ ≤ _; exact Nat.le_of_eq rfl) (hb hby own_d13_49) (fun _ _ => ⟨rfl, e5, (by decide : 2 + 0 ≤ _), (by decide : 40 + 0 ≤ _)⟩)
  dsimp only [Pt.U, Pt.locs, Pt.cells, Pt.slots] at X6 l6 y6 z6 st6 hQ6
  subst l6 y6 z6
  obtain ⟨rr6, rfl, N6q, hh6⟩ := hQ6
  have N6 := Fr.app N4 N6q
  refine own_st (fun _ kt => st6.trans kt) ?_
  show own_Rch p e below _ T6 (mkF m 52 #[.val (.ref a), .val (.ref x)] [(.int rr6), (.ref a)])
  obtain ⟨T7, h7, X7, e7, W7, st7⟩ := putFN X6 hx hZ5 hown5 (hw _ (List.mem_of_getElem? (i := 98) rfl)) Via.refl hh6 F3_x5 EA_x5 (Or.inl (hw _ (List.mem_of_getElem? (i := 99) rfl))) (hw _ (List.mem_of_getElem? (i := 38) rfl)) (ty := .boolean) (v' := (.int (nar .boolean rr6))) (by decide) rfl (fits_nar_bool _) (g := (mkF m 52 #[.val (.ref a), .val (.ref x)] [(.int rr6), (.ref a)])) rfl rfl (hb hby own_d13_52)
  refine own_st st7 ?_
  have Fw7 := F3_x5.same W7
  have N7 := Fr.snoc X7 N6 ga
  have hkk7 := Nat.le_trans hk5 (Nat.le_of_eq (Wr.size W7).symm)
  have O0_x7 := O0_x5.wr W7 ga
  have CR0_x7 := CR0_x5.trans (CHr.wr W7 (Safe.exa (hZ5).alike EA_x5 (by decide) (by decide)) CR0_x5.1)
  have EA_x7 := EA_x5.wr W7
  have Fw2_x7 := Fw2_x5.other W7 (Or.inr (slot_ne (Or.inl (hw _ (List.mem_of_getElem? (i := 67) rfl))) (Or.inl (hw _ (List.mem_of_getElem? (i := 99) rfl))) (by decide) (t := (.object "java/lang/String")) (t' := .boolean) (by decide) (by decide)))
  have Fw4_x7 := Fw4_x5.other W7 (Or.inr (slot_ne (Or.inl (hw _ (List.mem_of_getElem? (i := 45) rfl))) (Or.inl (hw _ (List.mem_of_getElem? (i := 99) rfl))) (by decide) (t := .boolean) (t' := .boolean) (by decide) (by decide)))
  have Ex_x7 := Ex_x5.wr W7
  have S1_x7 := S1_x5.keep1 (Keep.of_wr W7) EA_x5 (by decide) (hw _ (List.mem_of_getElem? (i := 38) rfl))
  have K0_x7 := K0_x5.wr W7 (Or.inl (List.mem_of_getElem? (i := 0) rfl))
  have Es5_x7 := Es5.wr W7
  have Fc5_x7 := Fc5.other W7 (Or.inl (Exa.ne Es5 EA_x5 (by decide)))
  have Fv5_x7 := Fv5.other W7 (Or.inl (Exa.ne Es5 EA_x5 (by decide)))
  have Va5_x7 := Va5.other W7 (Ne.symm (Exa.neArv EA_x5 Va5 (hw _ (List.mem_of_getElem? (i := 38) rfl))))
  show own_Rch p e below _ T7 (mkF m 55 #[.val (.ref a), .val (.ref x)] [])
  refine own_retVH (by rw [hh0, e7]; exact CR0_x7.trans (CHv.at (s := s) X7 hZ5 (own_hEL hw) CR0_x7.1)) (s := s) hS5 (by rw [e7]; exact hkk7) X7 hx Bd.notSynchronized Bd.returns (hb hby own_d13_55) (by decide) (by decide) ?_
  rw [e7]
  exact ⟨rfl, N7, K0_x7, EA_x7, ⟨_, Fw4_x7⟩, ⟨_, Fw7⟩, Or.inl ⟨Fw2_x7, rfl⟩⟩
theorem own_d13_16 : decode prog_7_method_7_code 16 = .ok (.aload_n 1, 1) := by decide +kernel
theorem own_d13_28 : decode prog_7_method_7_code 28 = .ok (.ldc 60, 2) := by decide +kernel
theorem own_d13_30 : decode prog_7_method_7_code 30 = .ok (.aload_n 1, 1) := by decide +kernel
theorem own_d13_31 : decode prog_7_method_7_code 31 = .ok (.invokevirtual 65, 3) := by decide +kernel
theorem own_d13_34 : decode prog_7_method_7_code 34 = .ok (.ifCond .eq 7, 3) := by decide +kernel
theorem own_d13_41 : decode prog_7_method_7_code 41 = .ok (.iconst 0, 1) := by decide +kernel
set_option maxRecDepth 65536 in
set_option maxHeartbeats 40000000 in
theorem own_set2 (l : Launch) (Z : State) (a0 : Array Value) (hw : ∀ d ∈ tables_1, d.before a0 Z = true) (ws : List Jvm.Cond) (a : Addr) (u1 : Value) (u2 : Value) (u3 : Value) (cs : Int32) (x : Addr) (l1 : List Int32) (h0 : Heap) (n0 : Nat) (O0 : Old Z n0 h0) (SC : Sta Z Z.heap "java/lang/String" "COMPACT_STRINGS" "Z" (.int cs)) (hcs : ¬ cs = 0) (EA : Exa Z h0 a "com/example/cicada/cicada/BeanDefinition") (F1 : Fld Z h0 a "com/example/cicada/cicada/BeanDefinition" "scope" "Ljava/lang/String;" u1) (F2 : Fld Z h0 a "com/example/cicada/cicada/BeanDefinition" "singleton" "Z" u2) (F3 : Fld Z h0 a "com/example/cicada/cicada/BeanDefinition" "prototype" "Z" u3) (ga : n0 ≤ a) (S1 : own_Str Z h0 x l1) (hz : ¬ own_len l1 = 0) (hl : l1.length ≤ 3) :
    MetFree l (⟨"com/example/cicada/cicada/BeanDefinition", "setScope", "(Ljava/lang/String;)V"⟩ : MethodName) (head1 (Jvm.Cond.code (⟨"com/example/cicada/cicada/BeanDefinition", "setScope", "(Ljava/lang/String;)V"⟩ : MethodName) prog_7_method_7_code 2 none :: ws) ({ frames := 2, cells := 4, slots := 80, locals := 44 } : Room)) (fun args_ U => args_ = #[(.ref a), (.ref x)] ∧ Z.Warmed39 U.vm ∧ U.heap = h0 ∧ CHv Z consts_1 U.vm h0) (fun _ _ _ _ _ => True) (fun _ U o U' => ∃ v L, o = .returned v ∧ (own_Q_set Z a l1 h0 n0) v U'.heap L ∧ CHr Z consts_1 U.vm U.heap U'.vm U'.heap ∧ ReturnedEndW U o U' L ({ frames := 2, cells := 4, slots := 80, locals := 44 } : Room).cells ({ frames := 2, cells := 4, slots := 80, locals := 44 } : Room).slots) := by
  refine MetFree.of_bodySF (plainFor_of_name own_pn4) hisR ?_
  intro p e s m args below meth c s₁ Bd hml0 hP hK
  obtain ⟨rfl, hZ, hh, hCH⟩ := hP
  have hx := Bd.exec
  have hby := Bd.bytes
  have hml : c.maxLocals = 2 := hml0
  have hown : s.vm.findClass "com/example/cicada/cicada/BeanDefinition" = some m.cls := findClass_of_methodNamed Bd.named
  have hnm := (name_of_methodNamed Bd.named Bd.method).1
  have X0 : Stand p l e ({ frames := 2, cells := 4, slots := 80, locals := 44 } : Room) (s.setVm s.vm) m #[(.ref a), (.ref x)] below meth c s₁ [] 0 0 := Stand.of_body Bd
  have e0 : s₁.heap = h0 := by rw [← hh, Bd.state]; rfl
  have N0 := Fr.nil n0
  have hh0 : s.heap = h0 := hh
  have CR0 : CHr Z consts_1 s.vm h0 s.vm h0 := CHr.refl hCH
  have hS0 : s.Since s.vm 0 := own_since s
  have hk0 : 0 ≤ h0.size := Nat.zero_le _
  have Ex : Exa Z h0 x "java/lang/String" := by obtain ⟨_, _, q, -⟩ := S1; exact q
  refine own_closeH (Z := Z) (EL := consts_1) (s := s) (Q := (own_Q_set Z a l1 h0 n0)) (C := (({ frames := 2, cells := 4, slots := 80, locals := 44 } : Room)).cells) (N := (({ frames := 2, cells := 4, slots := 80, locals := 44 } : Room)).slots) (own_st (fun _ kt => castTop (own_ef13 m a x) kt) ?_)
  have K0 := Keep.refl h0 [a]
  show own_Rch p e below _ s₁ (mkF m 0 #[.val (.ref a), .val (.ref x)] [])
  refine own_st (fun _ kt => XS.aloadN X0.here hx rfl (hb hby own_d13_0) rfl rfl  kt) ?_
  show own_Rch p e below _ s₁ (mkF m 1 #[.val (.ref a), .val (.ref x)] [(.ref a)])
  refine own_st (fun _ kt => XS.aloadN X0.here hx rfl (hb hby own_d13_1) rfl rfl  kt) ?_
  show own_Rch p e below _ s₁ (mkF m 2 #[.val (.ref a), .val (.ref x)] [(.ref x), (.ref a)])
  refine own_st (fun _ kt => XS.ifnullNo X0.here hx rfl (hb hby own_d13_2) rfl kt) ?_
  show own_Rch p e below _ s₁ (mkF m 5 #[.val (.ref a), .val (.ref x)] [(.ref a)])
  refine own_st (fun _ kt => XS.aloadN X0.here hx rfl (hb hby own_d13_5) rfl rfl  kt) ?_
  show own_Rch p e below _ s₁ (mkF m 6 #[.val (.ref a), .val (.ref x)] [(.ref x), (.ref a)])
  obtain ⟨cq1, kq1, q1a, q1b, q1c⟩ := isOf hZ e0 Ex
  obtain ⟨_, _, ⟨T1, L1, k1, n1⟩, -, X1, ⟨Lc1, hQ1, l1, y1, z1⟩, st1⟩ := X0.virtualBack hx (y := (⟨"java/lang/String", "isEmpty", "()Z"⟩ : MethodName)) (z := (⟨"java/lang/String", "isEmpty", "()Z"⟩ : MethodName)) hown (mvT hZ (hw _ (List.mem_of_getElem? (i := 86) rfl))) (mvT hZ (hw _ (List.mem_of_getElem? (i := 87) rfl))) (notFace_of_selects (args := #[]) (mvT hZ (hw _ (List.mem_of_getElem? (i := 89) rfl)))) (mvT hZ (hw _ (List.mem_of_getElem? (i := 89) rfl))) (mvT hZ (hw _ (List.mem_of_getElem? (i := 88) rfl))) (by decide) (backOf (W := 1) (own_ie0 l Z a0 hw [] x l1 h0 n0 O0 S1 hz) hZ (hw _ (List.mem_of_getElem? (i := 90) rfl)) (hw _ (List.mem_of_getElem? (i := 9) rfl)) (by decide) (by decide)) q1a q1c (g := (mkF m 6 #[.val (.ref a), .val (.ref x)] [(.ref x), (.ref a)])) rfl (by rw [hml]; rfl) (Steps.refl _) (argsL := []) (rest := [(.ref a)]) (lenOf own_pd7 rfl) rfl (by show 2 * 0 + _ ≤ _; exact Nat.le_of_eq rfl) (hb hby own_d13_6) (fun _ _ => ⟨rfl, e0, (by decide : 0 + 0 ≤ _), (by decide : 0 + 0 ≤ _)⟩)
  dsimp only [Pt.U, Pt.locs, Pt.cells, Pt.slots] at X1 l1 y1 z1 st1 hQ1
  subst l1 y1 z1
  obtain ⟨rfl, N1q, hh1⟩ := hQ1
  have N1 := Fr.app N0 N1q
  refine own_st (fun _ kt => st1.trans kt) ?_
  show own_Rch p e below _ T1 (mkF m 9 #[.val (.ref a), .val (.ref x)] [(.int (0 : Int32)), (.ref a)])
  refine own_st (fun _ kt => XS.ifYes X1.here hx rfl (pc0 := 9) (pc' := 16) rfl (hb hby own_d13_9) rfl ((if0 _ _).trans (teq (rfl : (0 : Int32) = (0 : Int32))).1) (by decide) (by decide) kt) ?_
  show own_Rch p e below _ T1 (mkF m 16 #[.val (.ref a), .val (.ref x)] [(.ref a)])
  refine own_st (fun _ kt => XS.aloadN X1.here hx rfl (hb hby own_d13_16) rfl rfl  kt) ?_
  show own_Rch p e below _ T1 (mkF m 17 #[.val (.ref a), .val (.ref x)] [(.ref x), (.ref a)])
  obtain ⟨T2, h2, X2, e2, W2, st2⟩ := putF X1 hx hZ hown (host := "") (Or.inl (hw _ (List.mem_of_getElem? (i := 66) rfl))) Via.refl hh1 F1 EA (Or.inl (hw _ (List.mem_of_getElem? (i := 67) rfl))) (hw _ (List.mem_of_getElem? (i := 38) rfl)) (ty := (.object "java/lang/String")) (by decide) rfl rfl (g := (mkF m 17 #[.val (.ref a), .val (.ref x)] [(.ref x), (.ref a)])) rfl rfl (hb hby own_d13_17)
  refine own_st st2 ?_
  have Fw2 := F1.same W2
  have N2 := Fr.snoc X2 N1 ga
  have hkk2 := Nat.le_trans hk0 (Nat.le_of_eq (Wr.size W2).symm)
  have O0_x2 := O0.wr W2 ga
  have CR0_x2 := CR0.trans (CHr.wr W2 (Safe.exa (hZ).alike EA (by decide) (by decide)) CR0.1)
  have EA_x2 := EA.wr W2
  have F2_x2 := F2.other W2 (Or.inr (slot_ne (Or.inl (hw _ (List.mem_of_getElem? (i := 45) rfl))) (Or.inl (hw _ (List.mem_of_getElem? (i := 67) rfl))) (by decide) (t := .boolean) (t' := (.object "java/lang/String")) (by decide) (by decide)))
  have F3_x2 := F3.other W2 (Or.inr (slot_ne (Or.inl (hw _ (List.mem_of_getElem? (i := 99) rfl))) (Or.inl (hw _ (List.mem_of_getElem? (i := 67) rfl))) (by decide) (t := .boolean) (t' := (.object "java/lang/String")) (by decide) (by decide)))
  have Ex_x2 := Ex.wr W2
  have S1_x2 := S1.keep1 (Keep.of_wr W2) EA (by decide) (hw _ (List.mem_of_getElem? (i := 38) rfl))
  have K0_x2 := K0.wr W2 (Or.inl (List.mem_of_getElem? (i := 0) rfl))
  show own_Rch p e below _ T2 (mkF m 20 #[.val (.ref a), .val (.ref x)] [])
  refine own_st (fun _ kt => XS.aloadN X2.here hx rfl (hb hby own_d13_20) rfl rfl  kt) ?_
  show own_Rch p e below _ T2 (mkF m 21 #[.val (.ref a), .val (.ref x)] [(.ref a)])
  refine own_st (fun _ kt => XS.aloadN X2.here hx rfl (hb hby own_d13_21) rfl rfl  kt) ?_
  show own_Rch p e below _ T2 (mkF m 22 #[.val (.ref a), .val (.ref x)] [(.ref a), (.ref a)])
  obtain ⟨T3, X3, e3, st3⟩ := getF X2 hx hZ hown (host := "") (Or.inl (hw _ (List.mem_of_getElem? (i := 66) rfl))) Via.refl e2 Fw2 (g := (mkF m 22 #[.val (.ref a), .val (.ref x)] [(.ref a), (.ref a)])) rfl rfl (hb hby own_d13_22)
  refine own_st st3 ?_
  show own_Rch p e below _ T3 (mkF m 25 #[.val (.ref a), .val (.ref x)] [(.ref x), (.ref a)])
  refine own_st (fun _ kt => XS.ifnullNo X3.here hx rfl (hb hby own_d13_25) rfl kt) ?_
  show own_Rch p e below _ T3 (mkF m 28 #[.val (.ref a), .val (.ref x)] [(.ref a)])
  obtain ⟨sl4, T4, h4, ks4, sd4, kd4, X4, e4, E4, hS4, hk4, hZ4, hown4, Es4, Fc4, Fv4, Va4, -, -, CB4, Lt4, hne4, st4⟩ := ldcCH (s := s) X3 hx hZ hown (hw _ (List.mem_of_getElem? (i := 68) rfl)) (own_wS hw) e3 hS0 hkk2 (own_hEL hw) (List.mem_of_getElem? (i := 0) rfl) CR0_x2.1 (vs := [(.int (115 : Int32)), (.int (105 : Int32)), (.int (110 : Int32)), (.int (103 : Int32)), (.int (108 : Int32)), (.int (101 : Int32)), (.int (116 : Int32)), (.int (111 : Int32)), (.int (110 : Int32))]) (z := (9 : Int32)) ⟨by decide, by decide⟩ (by decide) (by decide) (g := (mkF m 28 #[.val (.ref a), .val (.ref x)] [(.ref a)])) rfl (hb hby own_d13_28) (n := 36) (by decide) (by decide) (by decide) (by decide)
  have O0_x4 := O0_x2.ext E4
  have CR0_x4 := CR0_x2.trans CB4
  have EA_x4 := EA_x2.ext E4
  have Fw2_x4 := Fw2.ext E4
  have F2_x4 := F2_x2.ext E4
  have F3_x4 := F3_x2.ext E4
  have Ex_x4 := Ex_x2.ext E4
  have S1_x4 := S1_x2.ext E4
  have K0_x4 := K0_x2.ext E4
  refine own_st st4 ?_
  show own_Rch p e below _ T4 (mkF m 30 #[.val (.ref a), .val (.ref x)] [(.ref sl4), (.ref a)])
  refine own_st (fun _ kt => XS.aloadN X4.here hx rfl (hb hby own_d13_30) rfl rfl  kt) ?_
  show own_Rch p e below _ T4 (mkF m 31 #[.val (.ref a), .val (.ref x)] [(.ref x), (.ref sl4), (.ref a)])
  obtain ⟨cq5, kq5, q5a, q5b, q5c⟩ := isOf hZ4 e4 Es4
  obtain ⟨_, _, ⟨T5, L5, k5, n5⟩, -, X5, ⟨Lc5, hQ5, l5, y5, z5⟩, st5⟩ := X4.virtualBack hx (y := (⟨"java/lang/String", "equals", "(Ljava/lang/Object;)Z"⟩ : MethodName)) (z := (⟨"java/lang/String", "equals", "(Ljava/lang/Object;)Z"⟩ : MethodName)) hown4 (mvT hZ4 (hw _ (List.mem_of_getElem? (i := 91) rfl))) (mvT hZ4 (hw _ (List.mem_of_getElem? (i := 73) rfl))) (notFace_of_selects (args := #[]) (mvT hZ4 (hw _ (List.mem_of_getElem? (i := 75) rfl)))) (mvT hZ4 (hw _ (List.mem_of_getElem? (i := 75) rfl))) (mvT hZ4 (hw _ (List.mem_of_getElem? (i := 74) rfl))) (by decide) (backOf (W := 1) (own_eqN l Z a0 hw [] sl4 x own_S9 l1 cs h4 n0 O0_x4 SC hcs (⟨_, _, Es4, Fv4, Fc4, Va4⟩ : own_Str Z h4 sl4 own_S9) S1_x4 (own_ne9 hl)) hZ4 (hw _ (List.mem_of_getElem? (i := 76) rfl)) (hw _ (List.mem_of_getElem? (i := 9) rfl)) (by decide) (by decide)) q5a q5c (g := (mkF m 31 #[.val (.ref a), .val (.ref x)] [(.ref x), (.ref sl4), (.ref a)])) rfl (by rw [hml]; rfl) (Steps.refl _) (argsL := [(.ref x)]) (rest := [(.ref a)]) (lenOf own_pd8 rfl) rfl (by show 2 * 0 + _ ≤ _; exact Nat.le_of_eq rfl) (hb hby own_d13_31) (fun _ _ => ⟨rfl, e4, (by decide : 2 + 0 ≤ _), (by decide : 40 + 0 ≤ _)⟩)
  dsimp only [Pt.U, Pt.locs, Pt.cells, Pt.slots] at X5 l5 y5 z5 st5 hQ5
  subst l5 y5 z5
  obtain ⟨rr5, rfl, N5q, hh5⟩ := hQ5
  have N5 := Fr.app N2 N5q
  refine own_st (fun _ kt => st5.trans kt) ?_
  show own_Rch p e below _ T5 (mkF m 34 #[.val (.ref a), .val (.ref x)] [(.int rr5), (.ref a)])
  by_cases hc34_6 : rr5 = (0 : Int32)
  · -- pc 34: True
    refine own_st (fun _ kt => XS.ifYes X5.here hx rfl (pc0 := 34) (pc' := 41) rfl (hb hby own_d13_34) rfl ((if0 _ _).trans (teq hc34_6).1) (by decide) (by decide) kt) ?_
    show own_Rch p e below _ T5 (mkF m 41 #[.val (.ref a), .val (.ref x)] [(.ref a)])
    refine own_st (fun _ kt => XS.iconst X5.here hx rfl (hb hby own_d13_41) kt) ?_
    show own_Rch p e below _ T5 (mkF m 42 #[.val (.ref a), .val (.ref x)] [(.int (0 : Int32)), (.ref a)])
    obtain ⟨T7, h7, X7, e7, W7, st7⟩ := putFN X5 hx hZ4 hown4 (hw _ (List.mem_of_getElem? (i := 44) rfl)) Via.refl hh5 F2_x4 EA_x4 (Or.inl (hw _ (List.mem_of_getElem? (i := 45) rfl))) (hw _ (List.mem_of_getElem? (i := 38) rfl)) (ty := .boolean) (v' := (.int (0 : Int32))) (by decide) rfl (by decide) (g := (mkF m 42 #[.val (.ref a), .val (.ref x)] [(.int (0 : Int32)), (.ref a)])) rfl rfl (hb hby own_d13_42)
    refine own_st st7 ?_
    have Fw7 := F2_x4.same W7
    have N7 := Fr.snoc X7 N5 ga
    have hkk7 := Nat.le_trans hk4 (Nat.le_of_eq (Wr.size W7).symm)
    have O0_x7 := O0_x4.wr W7 ga
    have CR0_x7 := CR0_x4.trans (CHr.wr W7 (Safe.exa (hZ4).alike EA_x4 (by decide) (by decide)) CR0_x4.1)
    have EA_x7 := EA_x4.wr W7
    have Fw2_x7 := Fw2_x4.other W7 (Or.inr (slot_ne (Or.inl (hw _ (List.mem_of_getElem? (i := 67) rfl))) (Or.inl (hw _ (List.mem_of_getElem? (i := 45) rfl))) (by decide) (t := (.object "java/lang/String")) (t' := .boolean) (by decide) (by decide)))
    have F3_x7 := F3_x4.other W7 (Or.inr (slot_ne (Or.inl (hw _ (List.mem_of_getElem? (i := 99) rfl))) (Or.inl (hw _ (List.mem_of_getElem? (i := 45) rfl))) (by decide) (t := .boolean) (t' := .boolean) (by decide) (by decide)))
    have Ex_x7 := Ex_x4.wr W7
    have S1_x7 := S1_x4.keep1 (Keep.of_wr W7) EA_x4 (by decide) (hw _ (List.mem_of_getElem? (i := 38) rfl))
    have K0_x7 := K0_x4.wr W7 (Or.inl (List.mem_of_getElem? (i := 0) rfl))
    have Es4_x7 := Es4.wr W7
    have Fc4_x7 := Fc4.other W7 (Or.inl (Exa.ne Es4 EA_x4 (by decide)))
    have Fv4_x7 := Fv4.other W7 (Or.inl (Exa.ne Es4 EA_x4 (by decide)))
    have Va4_x7 := Va4.other W7 (Ne.symm (Exa.neArv EA_x4 Va4 (hw _ (List.mem_of_getElem? (i := 38) rfl))))
    show own_Rch p e below _ T7 (mkF m 45 #[.val (.ref a), .val (.ref x)] [])
    refine own_st (fun _ kt => XS.aloadN X7.here hx rfl (hb hby own_d13_45) rfl rfl  kt) ?_
    show own_Rch p e below _ T7 (mkF m 46 #[.val (.ref a), .val (.ref x)] [(.ref a)])
    obtain ⟨sl8, T8, h8, ks8, sd8, kd8, X8, e8, E8, hS8, hk8, hZ8, hown8, Es8, Fc8, Fv8, Va8, -, -, CB8, Lt8, hne8, st8⟩ := ldcCH (s := s) X7 hx hZ4 hown4 (hw _ (List.mem_of_getElem? (i := 97) rfl)) (own_wS hw) e7 hS4 hkk7 (own_hEL hw) (List.mem_of_getElem? (i := 1) rfl) CR0_x7.1 (vs := [(.int (112 : Int32)), (.int (114 : Int32)), (.int (111 : Int32)), (.int (116 : Int32)), (.int (111 : Int32)), (.int (116 : Int32)), (.int (121 : Int32)), (.int (112 : Int32)), (.int (101 : Int32))]) (z := (9 : Int32)) ⟨by decide, by decide⟩ (by decide) (by decide) (g := (mkF m 46 #[.val (.ref a), .val (.ref x)] [(.ref a)])) rfl (hb hby own_d13_46) (n := 36) (by decide) (by decide) (by decide) (by decide)
    have O0_x8 := O0_x7.ext E8
    have CR0_x8 := CR0_x7.trans CB8
    have EA_x8 := EA_x7.ext E8
    have Fw2_x8 := Fw2_x7.ext E8
    have Fw7_x8 := Fw7.ext E8
    have F3_x8 := F3_x7.ext E8
    have Ex_x8 := Ex_x7.ext E8
    have S1_x8 := S1_x7.ext E8
    have K0_x8 := K0_x7.ext E8
    have Es4_x8 := Es4_x7.ext E8
    have Fc4_x8 := Fc4_x7.ext E8
    have Fv4_x8 := Fv4_x7.ext E8
    have Va4_x8 := Va4_x7.ext E8
    refine own_st st8 ?_
    show own_Rch p e below _ T8 (mkF m 48 #[.val (.ref a), .val (.ref x)] [(.ref sl8), (.ref a)])
    refine own_st (fun _ kt => XS.aloadN X8.here hx rfl (hb hby own_d13_48) rfl rfl  kt) ?_
    show own_Rch p e below _ T8 (mkF m 49 #[.val (.ref a), .val (.ref x)] [(.ref x), (.ref sl8), (.ref a)])
    obtain ⟨cq9, kq9, q9a, q9b, q9c⟩ := isOf hZ8 e8 Es8
    obtain ⟨_, _, ⟨T9, L9, k9, n9⟩, -, X9, ⟨Lc9, hQ9, l9, y9, z9⟩, st9⟩ := X8.virtualBack hx (y := (⟨"java/lang/String", "equals", "(Ljava/lang/Object;)Z"⟩ : MethodName)) (z := (⟨"java/lang/String", "equals", "(Ljava/lang/Object;)Z"⟩ : MethodName)) hown8 (mvT hZ8 (hw _ (List.mem_of_getElem? (i := 91) rfl))) (mvT hZ8 (hw _ (List.mem_of_getElem? (i := 73) rfl))) (notFace_of_selects (args := #[]) (mvT hZ8 (hw _ (List.mem_of_getElem? (i := 75) rfl)))) (mvT hZ8 (hw _ (List.mem_of_getElem? (i := 75) rfl))) (mvT hZ8 (hw _ (List.mem_of_getElem? (i := 74) rfl))) (by decide) (backOf (W := 1) (own_eqN l Z a0 hw [] sl8 x own_P9 l1 cs h8 n0 O0_x8 SC hcs (⟨_, _, Es8, Fv8, Fc8, Va8⟩ : own_Str Z h8 sl8 own_P9) S1_x8 (own_ne9p hl)) hZ8 (hw _ (List.mem_of_getElem? (i := 76) rfl)) (hw _ (List.mem_of_getElem? (i := 9) rfl)) (by decide) (by decide)) q9a q9c (g := (mkF m 49 #[.val (.ref a), .val (.ref x)] [(.ref x), (.ref sl8), (.ref a)])) rfl (by rw [hml]; rfl) (Steps.refl _) (argsL := [(.ref x)]) (rest := [(.ref a)]) (lenOf own_pd8 rfl) rfl (by show 2 * 0 + _ ≤ _; exact Nat.le_of_eq rfl) (hb hby own_d13_49) (fun _ _ => ⟨rfl, e8, (by decide : 4 + 0 ≤ _), (by decide : 80 + 0 ≤ _)⟩)
    dsimp only [Pt.U, Pt.locs, Pt.cells, Pt.slots] at X9 l9 y9 z9 st9 hQ9
    subst l9 y9 z9
    obtain ⟨rr9, rfl, N9q, hh9⟩ := hQ9
    have N9 := Fr.app N7 N9q
    refine own_st (fun _ kt => st9.trans kt) ?_
    show own_Rch p e below _ T9 (mkF m 52 #[.val (.ref a), .val (.ref x)] [(.int rr9), (.ref a)])
    obtain ⟨T10, h10, X10, e10, W10, st10⟩ := putFN X9 hx hZ8 hown8 (hw _ (List.mem_of_getElem? (i := 98) rfl)) Via.refl hh9 F3_x8 EA_x8 (Or.inl (hw _ (List.mem_of_getElem? (i := 99) rfl))) (hw _ (List.mem_of_getElem? (i := 38) rfl)) (ty := .boolean) (v' := (.int (nar .boolean rr9))) (by decide) rfl (fits_nar_bool _) (g := (mkF m 52 #[.val (.ref a), .val (.ref x)] [(.int rr9), (.ref a)])) rfl rfl (hb hby own_d13_52)
    refine own_st st10 ?_
    have Fw10 := F3_x8.same W10
    have N10 := Fr.snoc X10 N9 ga
    have hkk10 := Nat.le_trans hk8 (Nat.le_of_eq (Wr.size W10).symm)
    have O0_x10 := O0_x8.wr W10 ga
    have CR0_x10 := CR0_x8.trans (CHr.wr W10 (Safe.exa (hZ8).alike EA_x8 (by decide) (by decide)) CR0_x8.1)
    have EA_x10 := EA_x8.wr W10
    have Fw2_x10 := Fw2_x8.other W10 (Or.inr (slot_ne (Or.inl (hw _ (List.mem_of_getElem? (i := 67) rfl))) (Or.inl (hw _ (List.mem_of_getElem? (i := 99) rfl))) (by decide) (t := (.object "java/lang/String")) (t' := .boolean) (by decide) (by decide)))
    have Fw7_x10 := Fw7_x8.other W10 (Or.inr (slot_ne (Or.inl (hw _ (List.mem_of_getElem? (i := 45) rfl))) (Or.inl (hw _ (List.mem_of_getElem? (i := 99) rfl))) (by decide) (t := .boolean) (t' := .boolean) (by decide) (by decide)))
    have Ex_x10 := Ex_x8.wr W10
    have S1_x10 := S1_x8.keep1 (Keep.of_wr W10) EA_x8 (by decide) (hw _ (List.mem_of_getElem? (i := 38) rfl))
    have K0_x10 := K0_x8.wr W10 (Or.inl (List.mem_of_getElem? (i := 0) rfl))
    have Es4_x10 := Es4_x8.wr W10
    have Fc4_x10 := Fc4_x8.other W10 (Or.inl (Exa.ne Es4_x8 EA_x8 (by decide)))
    have Fv4_x10 := Fv4_x8.other W10 (Or.inl (Exa.ne Es4_x8 EA_x8 (by decide)))
    have Va4_x10 := Va4_x8.other W10 (Ne.symm (Exa.neArv EA_x8 Va4_x8 (hw _ (List.mem_of_getElem? (i := 38) rfl))))
    have Es8_x10 := Es8.wr W10
    have Fc8_x10 := Fc8.other W10 (Or.inl (Exa.ne Es8 EA_x8 (by decide)))
    have Fv8_x10 := Fv8.other W10 (Or.inl (Exa.ne Es8 EA_x8 (by decide)))
    have Va8_x10 := Va8.other W10 (Ne.symm (Exa.neArv EA_x8 Va8 (hw _ (List.mem_of_getElem? (i := 38) rfl))))
    show own_Rch p e below _ T10 (mkF m 55 #[.val (.ref a), .val (.ref x)] [])
    refine own_retVH (by rw [hh0, e10]; exact CR0_x10.trans (CHv.at (s := s) X10 hZ8 (own_hEL hw) CR0_x10.1)) (s := s) hS8 (by rw [e10]; exact hkk10) X10 hx Bd.notSynchronized Bd.returns (hb hby own_d13_55) (by decide) (by decide) ?_
    rw [e10]
    exact ⟨rfl, N10, K0_x10, EA_x10, ⟨_, Fw7_x10⟩, ⟨_, Fw10⟩, Or.inr ⟨_, Fw2_x10, S1_x10, hz, Or.inl hl⟩⟩
  · -- pc 34: False
    refine own_st (fun _ kt => XS.ifNo X5.here hx rfl (hb hby own_d13_34) rfl ((if0 _ _).trans (feq hc34_6).1) kt) ?_
    show own_Rch p e below _ T5 (mkF m 37 #[.val (.ref a), .val (.ref x)] [(.ref a)])
    refine own_st (fun _ kt => XS.iconst X5.here hx rfl (hb hby own_d13_37) kt) ?_
    show own_Rch p e below _ T5 (mkF m 38 #[.val (.ref a), .val (.ref x)] [(.int (1 : Int32)), (.ref a)])
    refine own_st (fun _ kt => XS.goto X5.here hx rfl (pc0 := 38) (pc' := 42) rfl (hb hby own_d13_38) (by decide) (by decide) kt) ?_
    show own_Rch p e below _ T5 (mkF m 42 #[.val (.ref a), .val (.ref x)] [(.int (1 : Int32)), (.ref a)])
    obtain ⟨T11, h11, X11, e11, W11, st11⟩ := putFN X5 hx hZ4 hown4 (hw _ (List.mem_of_getElem? (i := 44) rfl)) Via.refl hh5 F2_x4 EA_x4 (Or.inl (hw _ (List.mem_of_getElem? (i := 45) rfl))) (hw _ (List.mem_of_getElem? (i := 38) rfl)) (ty := .boolean) (v' := (.int (1 : Int32))) (by decide) rfl (by decide) (g := (mkF m 42 #[.val (.ref a), .val (.ref x)] [(.int (1 : Int32)), (.ref a)])) rfl rfl (hb hby own_d13_42)
    refine own_st st11 ?_
    have Fw11 := F2_x4.same W11
    have N11 := Fr.snoc X11 N5 ga
    have hkk11 := Nat.le_trans hk4 (Nat.le_of_eq (Wr.size W11).symm)
    have O0_x11 := O0_x4.wr W11 ga
    have CR0_x11 := CR0_x4.trans (CHr.wr W11 (Safe.exa (hZ4).alike EA_x4 (by decide) (by decide)) CR0_x4.1)
    have EA_x11 := EA_x4.wr W11
    have Fw2_x11 := Fw2_x4.other W11 (Or.inr (slot_ne (Or.inl (hw _ (List.mem_of_getElem? (i := 67) rfl))) (Or.inl (hw _ (List.mem_of_getElem? (i := 45) rfl))) (by decide) (t := (.object "java/lang/String")) (t' := .boolean) (by decide) (by decide)))
    have F3_x11 := F3_x4.other W11 (Or.inr (slot_ne (Or.inl (hw _ (List.mem_of_getElem? (i := 99) rfl))) (Or.inl (hw _ (List.mem_of_getElem? (i := 45) rfl))) (by decide) (t := .boolean) (t' := .boolean) (by decide) (by decide)))
    have Ex_x11 := Ex_x4.wr W11
    have S1_x11 := S1_x4.keep1 (Keep.of_wr W11) EA_x4 (by decide) (hw _ (List.mem_of_getElem? (i := 38) rfl))
    have K0_x11 := K0_x4.wr W11 (Or.inl (List.mem_of_getElem? (i := 0) rfl))
    have Es4_x11 := Es4.wr W11
    have Fc4_x11 := Fc4.other W11 (Or.inl (Exa.ne Es4 EA_x4 (by decide)))
    have Fv4_x11 := Fv4.other W11 (Or.inl (Exa.ne Es4 EA_x4 (by decide)))
    have Va4_x11 := Va4.other W11 (Ne.symm (Exa.neArv EA_x4 Va4 (hw _ (List.mem_of_getElem? (i := 38) rfl))))
    show own_Rch p e below _ T11 (mkF m 45 #[.val (.ref a), .val (.ref x)] [])
    refine own_st (fun _ kt => XS.aloadN X11.here hx rfl (hb hby own_d13_45) rfl rfl  kt) ?_
    show own_Rch p e below _ T11 (mkF m 46 #[.val (.ref a), .val (.ref x)] [(.ref a)])
    obtain ⟨sl12, T12, h12, ks12, sd12, kd12, X12, e12, E12, hS12, hk12, hZ12, hown12, Es12, Fc12, Fv12, Va12, -, -, CB12, Lt12, hne12, st12⟩ := ldcCH (s := s) X11 hx hZ4 hown4 (hw _ (List.mem_of_getElem? (i := 97) rfl)) (own_wS hw) e11 hS4 hkk11 (own_hEL hw) (List.mem_of_getElem? (i := 1) rfl) CR0_x11.1 (vs := [(.int (112 : Int32)), (.int (114 : Int32)), (.int (111 : Int32)), (.int (116 : Int32)), (.int (111 : Int32)), (.int (116 : Int32)), (.int (121 : Int32)), (.int (112 : Int32)), (.int (101 : Int32))]) (z := (9 : Int32)) ⟨by decide, by decide⟩ (by decide) (by decide) (g := (mkF m 46 #[.val (.ref a), .val (.ref x)] [(.ref a)])) rfl (hb hby own_d13_46) (n := 36) (by decide) (by decide) (by decide) (by decide)
    have O0_x12 := O0_x11.ext E12
    have CR0_x12 := CR0_x11.trans CB12
    have EA_x12 := EA_x11.ext E12
    have Fw2_x12 := Fw2_x11.ext E12
    have Fw11_x12 := Fw11.ext E12
    have F3_x12 := F3_x11.ext E12
    have Ex_x12 := Ex_x11.ext E12
    have S1_x12 := S1_x11.ext E12
    have K0_x12 := K0_x11.ext E12
    have Es4_x12 := Es4_x11.ext E12
    have Fc4_x12 := Fc4_x11.ext E12
    have Fv4_x12 := Fv4_x11.ext E12
    have Va4_x12 := Va4_x11.ext E12
    refine own_st st12 ?_
    show own_Rch p e below _ T12 (mkF m 48 #[.val (.ref a), .val (.ref x)] [(.ref sl12), (.ref a)])
    refine own_st (fun _ kt => XS.aloadN X12.here hx rfl (hb hby own_d13_48) rfl rfl  kt) ?_
    show own_Rch p e below _ T12 (mkF m 49 #[.val (.ref a), .val (.ref x)] [(.ref x), (.ref sl12), (.ref a)])
    obtain ⟨cq13, kq13, q13a, q13b, q13c⟩ := isOf hZ12 e12 Es12
    obtain ⟨_, _, ⟨T13, L13, k13, n13⟩, -, X13, ⟨Lc13, hQ13, l13, y13, z13⟩, st13⟩ := X12.virtualBack hx (y := (⟨"java/lang/String", "equals", "(Ljava/lang/Object;)Z"⟩ : MethodName)) (z := (⟨"java/lang/String", "equals", "(Ljava/lang/Object;)Z"⟩ : MethodName)) hown12 (mvT hZ12 (hw _ (List.mem_of_getElem? (i := 91) rfl))) (mvT hZ12 (hw _ (List.mem_of_getElem? (i := 73) rfl))) (notFace_of_selects (args := #[]) (mvT hZ12 (hw _ (List.mem_of_getElem? (i := 75) rfl)))) (mvT hZ12 (hw _ (List.mem_of_getElem? (i := 75) rfl))) (mvT hZ12 (hw _ (List.mem_of_getElem? (i := 74) rfl))) (by decide) (backOf (W := 1) (own_eqN l Z a0 hw [] sl12 x own_P9 l1 cs h12 n0 O0_x12 SC hcs (⟨_, _, Es12, Fv12, Fc12, Va12⟩ : own_Str Z h12 sl12 own_P9) S1_x12 (own_ne9p hl)) hZ12 (hw _ (List.mem_of_getElem? (i := 76) rfl)) (hw _ (List.mem_of_getElem? (i := 9) rfl)) (by decide) (by decide)) q13a q13c (g := (mkF m 49 #[.val (.ref a), .val (.ref x)] [(.ref x), (.ref sl12), (.ref a)])) rfl (by rw [hml]; rfl) (Steps.refl _) (argsL := [(.ref x)]) (rest := [(.ref a)]) (lenOf own_pd8 rfl) rfl (by show 2 * 0 + _ ≤ _; exact Nat.le_of_eq rfl) (hb hby own_d13_49) (fun _ _ => ⟨rfl, e12, (by decide : 4 + 0 ≤ _), (by decide : 80 + 0 ≤ _)⟩)
    dsimp only [Pt.U, Pt.locs, Pt.cells, Pt.slots] at X13 l13 y13 z13 st13 hQ13
    subst l13 y13 z13
    obtain ⟨rr13, rfl, N13q, hh13⟩ := hQ13
    have N13 := Fr.app N11 N13q
    refine own_st (fun _ kt => st13.trans kt) ?_
    show own_Rch p e below _ T13 (mkF m 52 #[.val (.ref a), .val (.ref x)] [(.int rr13), (.ref a)])
    obtain ⟨T14, h14, X14, e14, W14, st14⟩ := putFN X13 hx hZ12 hown12 (hw _ (List.mem_of_getElem? (i := 98) rfl)) Via.refl hh13 F3_x12 EA_x12 (Or.inl (hw _ (List.mem_of_getElem? (i := 99) rfl))) (hw _ (List.mem_of_getElem? (i := 38) rfl)) (ty := .boolean) (v' := (.int (nar .boolean rr13))) (by decide) rfl (fits_nar_bool _) (g := (mkF m 52 #[.val (.ref a), .val (.ref x)] [(.int rr13), (.ref a)])) rfl rfl (hb hby own_d13_52)
    refine own_st st14 ?_
    have Fw14 := F3_x12.same W14
    have N14 := Fr.snoc X14 N13 ga
    have hkk14 := Nat.le_trans hk12 (Nat.le_of_eq (Wr.size W14).symm)
    have O0_x14 := O0_x12.wr W14 ga
    have CR0_x14 := CR0_x12.trans (CHr.wr W14 (Safe.exa (hZ12).alike EA_x12 (by decide) (by decide)) CR0_x12.1)
    have EA_x14 := EA_x12.wr W14
    have Fw2_x14 := Fw2_x12.other W14 (Or.inr (slot_ne (Or.inl (hw _ (List.mem_of_getElem? (i := 67) rfl))) (Or.inl (hw _ (List.mem_of_getElem? (i := 99) rfl))) (by decide) (t := (.object "java/lang/String")) (t' := .boolean) (by decide) (by decide)))
    have Fw11_x14 := Fw11_x12.other W14 (Or.inr (slot_ne (Or.inl (hw _ (List.mem_of_getElem? (i := 45) rfl))) (Or.inl (hw _ (List.mem_of_getElem? (i := 99) rfl))) (by decide) (t := .boolean) (t' := .boolean) (by decide) (by decide)))
    have Ex_x14 := Ex_x12.wr W14
    have S1_x14 := S1_x12.keep1 (Keep.of_wr W14) EA_x12 (by decide) (hw _ (List.mem_of_getElem? (i := 38) rfl))
    have K0_x14 := K0_x12.wr W14 (Or.inl (List.mem_of_getElem? (i := 0) rfl))
    have Es4_x14 := Es4_x12.wr W14
    have Fc4_x14 := Fc4_x12.other W14 (Or.inl (Exa.ne Es4_x12 EA_x12 (by decide)))
    have Fv4_x14 := Fv4_x12.other W14 (Or.inl (Exa.ne Es4_x12 EA_x12 (by decide)))
    have Va4_x14 := Va4_x12.other W14 (Ne.symm (Exa.neArv EA_x12 Va4_x12 (hw _ (List.mem_of_getElem? (i := 38) rfl))))
    have Es12_x14 := Es12.wr W14
    have Fc12_x14 := Fc12.other W14 (Or.inl (Exa.ne Es12 EA_x12 (by decide)))
    have Fv12_x14 := Fv12.other W14 (Or.inl (Exa.ne Es12 EA_x12 (by decide)))
    have Va12_x14 := Va12.other W14 (Ne.symm (Exa.neArv EA_x12 Va12 (hw _ (List.mem_of_getElem? (i := 38) rfl))))
    show own_Rch p e below _ T14 (mkF m 55 #[.val (.ref a), .val (.ref x)] [])
    refine own_retVH (by rw [hh0, e14]; exact CR0_x14.trans (CHv.at (s := s) X14 hZ12 (own_hEL hw) CR0_x14.1)) (s := s) hS12 (by rw [e14]; exact hkk14) X14 hx Bd.notSynchronized Bd.returns (hb hby own_d13_55) (by decide) (by decide) ?_
    rw [e14]
    exact ⟨rfl, N14, K0_x14, EA_x14, ⟨_, Fw11_x14⟩, ⟨_, Fw14⟩, Or.inr ⟨_, Fw2_x14, S1_x14, hz, Or.inl hl⟩⟩
set_option maxRecDepth 65536 in
set_option maxHeartbeats 40000000 in
theorem own_set3 (l : Launch) (Z : State) (a0 : Array Value) (hw : ∀ d ∈ tables_1, d.before a0 Z = true) (ws : List Jvm.Cond) (a : Addr) (u1 : Value) (u2 : Value) (u3 : Value) (cs : Int32) (x : Addr) (h0 : Heap) (n0 : Nat) (O0 : Old Z n0 h0) (SC : Sta Z Z.heap "java/lang/String" "COMPACT_STRINGS" "Z" (.int cs)) (hcs : ¬ cs = 0) (EA : Exa Z h0 a "com/example/cicada/cicada/BeanDefinition") (F1 : Fld Z h0 a "com/example/cicada/cicada/BeanDefinition" "scope" "Ljava/lang/String;" u1) (F2 : Fld Z h0 a "com/example/cicada/cicada/BeanDefinition" "singleton" "Z" u2) (F3 : Fld Z h0 a "com/example/cicada/cicada/BeanDefinition" "prototype" "Z" u3) (ga : n0 ≤ a) (S1 : own_Str Z h0 x own_P9) :
    MetFree l (⟨"com/example/cicada/cicada/BeanDefinition", "setScope", "(Ljava/lang/String;)V"⟩ : MethodName) (head1 (Jvm.Cond.code (⟨"com/example/cicada/cicada/BeanDefinition", "setScope", "(Ljava/lang/String;)V"⟩ : MethodName) prog_7_method_7_code 2 none :: ws) ({ frames := 2, cells := 4, slots := 80, locals := 44 } : Room)) (fun args_ U => args_ = #[(.ref a), (.ref x)] ∧ Z.Warmed39 U.vm ∧ U.heap = h0 ∧ CHv Z consts_1 U.vm h0) (fun _ _ _ _ _ => True) (fun _ U o U' => ∃ v L, o = .returned v ∧ (own_Q_set Z a own_P9 h0 n0) v U'.heap L ∧ CHr Z consts_1 U.vm U.heap U'.vm U'.heap ∧ ReturnedEndW U o U' L ({ frames := 2, cells := 4, slots := 80, locals := 44 } : Room).cells ({ frames := 2, cells := 4, slots := 80, locals := 44 } : Room).slots) := by
  refine MetFree.of_bodySF (plainFor_of_name own_pn4) hisR ?_
  intro p e s m args below meth c s₁ Bd hml0 hP hK
  obtain ⟨rfl, hZ, hh, hCH⟩ := hP
  have hx := Bd.exec
  have hby := Bd.bytes
  have hml : c.maxLocals = 2 := hml0
  have hown : s.vm.findClass "com/example/cicada/cicada/BeanDefinition" = some m.cls := findClass_of_methodNamed Bd.named
  have hnm := (name_of_methodNamed Bd.named Bd.method).1
  have X0 : Stand p l e ({ frames := 2, cells := 4, slots := 80, locals := 44 } : Room) (s.setVm s.vm) m #[(.ref a), (.ref x)] below meth c s₁ [] 0 0 := Stand.of_body Bd
  have e0 : s₁.heap = h0 := by rw [← hh, Bd.state]; rfl
  have N0 := Fr.nil n0
  have hh0 : s.heap = h0 := hh
  have CR0 : CHr Z consts_1 s.vm h0 s.vm h0 := CHr.refl hCH
  have hS0 : s.Since s.vm 0 := own_since s
  have hk0 : 0 ≤ h0.size := Nat.zero_le _
  have Ex : Exa Z h0 x "java/lang/String" := by obtain ⟨_, _, q, -⟩ := S1; exact q
  refine own_closeH (Z := Z) (EL := consts_1) (s := s) (Q := (own_Q_set Z a own_P9 h0 n0)) (C := (({ frames := 2, cells := 4, slots := 80, locals := 44 } : Room)).cells) (N := (({ frames := 2, cells := 4, slots := 80, locals := 44 } : Room)).slots) (own_st (fun _ kt => castTop (own_ef13 m a x) kt) ?_)
  have K0 := Keep.refl h0 [a]
  show own_Rch p e below _ s₁ (mkF m 0 #[.val (.ref a), .val (.ref x)] [])
  refine own_st (fun _ kt => XS.aloadN X0.here hx rfl (hb hby own_d13_0) rfl rfl  kt) ?_
  show own_Rch p e below _ s₁ (mkF m 1 #[.val (.ref a), .val (.ref x)] [(.ref a)])
  refine own_st (fun _ kt => XS.aloadN X0.here hx rfl (hb hby own_d13_1) rfl rfl  kt) ?_
  show own_Rch p e below _ s₁ (mkF m 2 #[.val (.ref a), .val (.ref x)] [(.ref x), (.ref a)])
  refine own_st (fun _ kt => XS.ifnullNo X0.here hx rfl (hb hby own_d13_2) rfl kt) ?_
  show own_Rch p e below _ s₁ (mkF m 5 #[.val (.ref a), .val (.ref x)] [(.ref a)])
  refine own_st (fun _ kt => XS.aloadN X0.here hx rfl (hb hby own_d13_5) rfl rfl  kt) ?_
  show own_Rch p e below _ s₁ (mkF m 6 #[.val (.ref a), .val (.ref x)] [(.ref x), (.ref a)])
  obtain ⟨cq1, kq1, q1a, q1b, q1c⟩ := isOf hZ e0 Ex
  obtain ⟨_, _, ⟨T1, L1, k1, n1⟩, -, X1, ⟨Lc1, hQ1, l1, y1, z1⟩, st1⟩ := X0.virtualBack hx (y := (⟨"java/lang/String", "isEmpty", "()Z"⟩ : MethodName)) (z := (⟨"java/lang/String", "isEmpty", "()Z"⟩ : MethodName)) hown (mvT hZ (hw _ (List.mem_of_getElem? (i := 86) rfl))) (mvT hZ (hw _ (List.mem_of_getElem? (i := 87) rfl))) (notFace_of_selects (args := #[]) (mvT hZ (hw _ (List.mem_of_getElem? (i := 89) rfl)))) (mvT hZ (hw _ (List.mem_of_getElem? (i := 89) rfl))) (mvT hZ (hw _ (List.mem_of_getElem? (i := 88) rfl))) (by decide) (backOf (W := 1) (own_ie0 l Z a0 hw [] x own_P9 h0 n0 O0 S1 (by decide)) hZ (hw _ (List.mem_of_getElem? (i := 90) rfl)) (hw _ (List.mem_of_getElem? (i := 9) rfl)) (by decide) (by decide)) q1a q1c (g := (mkF m 6 #[.val (.ref a), .val (.ref x)] [(.ref x), (.ref a)])) rfl (by rw [hml]; rfl) (Steps.refl _) (argsL := []) (rest := [(.ref a)]) (lenOf own_pd7 rfl) rfl (by show 2 * 0 + _ ≤ _; exact Nat.le_of_eq rfl) (hb hby own_d13_6) (fun _ _ => ⟨rfl, e0, (by decide : 0 + 0 ≤ _), (by decide : 0 + 0 ≤ _)⟩)
  dsimp only [Pt.U, Pt.locs, Pt.cells, Pt.slots] at X1 l1 y1 z1 st1 hQ1
  subst l1 y1 z1
  obtain ⟨rfl, N1q, hh1⟩ := hQ1
  have N1 := Fr.app N0 N1q
  refine own_st (fun _ kt => st1.trans kt) ?_
  show own_Rch p e below _ T1 (mkF m 9 #[.val (.ref a), .val (.ref x)] [(.int (0 : Int32)), (.ref a)])
  refine own_st (fun _ kt => XS.ifYes X1.here hx rfl (pc0 := 9) (pc' := 16) rfl (hb hby own_d13_9) rfl ((if0 _ _).trans (teq (rfl : (0 : Int32) = (0 : Int32))).1) (by decide) (by decide) kt) ?_
  show own_Rch p e below _ T1 (mkF m 16 #[.val (.ref a), .val (.ref x)] [(.ref a)])
  refine own_st (fun _ kt => XS.aloadN X1.here hx rfl (hb hby own_d13_16) rfl rfl  kt) ?_
  show own_Rch p e below _ T1 (mkF m 17 #[.val (.ref a), .val (.ref x)] [(.ref x), (.ref a)])
  obtain ⟨T2, h2, X2, e2, W2, st2⟩ := putF X1 hx hZ hown (host := "") (Or.inl (hw _ (List.mem_of_getElem? (i := 66) rfl))) Via.refl hh1 F1 EA (Or.inl (hw _ (List.mem_of_getElem? (i := 67) rfl))) (hw _ (List.mem_of_getElem? (i := 38) rfl)) (ty := (.object "java/lang/String")) (by decide) rfl rfl (g := (mkF m 17 #[.val (.ref a), .val (.ref x)] [(.ref x), (.ref a)])) rfl rfl (hb hby own_d13_17)
  refine own_st st2 ?_
  have Fw2 := F1.same W2
  have N2 := Fr.snoc X2 N1 ga
  have hkk2 := Nat.le_trans hk0 (Nat.le_of_eq (Wr.size W2).symm)
  have O0_x2 := O0.wr W2 ga
  have CR0_x2 := CR0.trans (CHr.wr W2 (Safe.exa (hZ).alike EA (by decide) (by decide)) CR0.1)
  have EA_x2 := EA.wr W2
  have F2_x2 := F2.other W2 (Or.inr (slot_ne (Or.inl (hw _ (List.mem_of_getElem? (i := 45) rfl))) (Or.inl (hw _ (List.mem_of_getElem? (i := 67) rfl))) (by decide) (t := .boolean) (t' := (.object "java/lang/String")) (by decide) (by decide)))
  have F3_x2 := F3.other W2 (Or.inr (slot_ne (Or.inl (hw _ (List.mem_of_getElem? (i := 99) rfl))) (Or.inl (hw _ (List.mem_of_getElem? (i := 67) rfl))) (by decide) (t := .boolean) (t' := (.object "java/lang/String")) (by decide) (by decide)))
  have Ex_x2 := Ex.wr W2
  have S1_x2 := S1.keep1 (Keep.of_wr W2) EA (by decide) (hw _ (List.mem_of_getElem? (i := 38) rfl))
  have K0_x2 := K0.wr W2 (Or.inl (List.mem_of_getElem? (i := 0) rfl))
  show own_Rch p e below _ T2 (mkF m 20 #[.val (.ref a), .val (.ref x)] [])
  refine own_st (fun _ kt => XS.aloadN X2.here hx rfl (hb hby own_d13_20) rfl rfl  kt) ?_
  show own_Rch p e below _ T2 (mkF m 21 #[.val (.ref a), .val (.ref x)] [(.ref a)])
  refine own_st (fun _ kt => XS.aloadN X2.here hx rfl (hb hby own_d13_21) rfl rfl  kt) ?_
  show own_Rch p e below _ T2 (mkF m 22 #[.val (.ref a), .val (.ref x)] [(.ref a), (.ref a)])
  obtain ⟨T3, X3, e3, st3⟩ := getF X2 hx hZ hown (host := "") (Or.inl (hw _ (List.mem_of_getElem? (i := 66) rfl))) Via.refl e2 Fw2 (g := (mkF m 22 #[.val (.ref a), .val (.ref x)] [(.ref a), (.ref a)])) rfl rfl (hb hby own_d13_22)
  refine own_st st3 ?_
  show own_Rch p e below _ T3 (mkF m 25 #[.val (.ref a), .val (.ref x)] [(.ref x), (.ref a)])
  refine own_st (fun _ kt => XS.ifnullNo X3.here hx rfl (hb hby own_d13_25) rfl kt) ?_
  show own_Rch p e below _ T3 (mkF m 28 #[.val (.ref a), .val (.ref x)] [(.ref a)])
  obtain ⟨sl4, T4, h4, ks4, sd4, kd4, X4, e4, E4, hS4, hk4, hZ4, hown4, Es4, Fc4, Fv4, Va4, -, -, CB4, Lt4, hne4, st4⟩ := ldcCH (s := s) X3 hx hZ hown (hw _ (List.mem_of_getElem? (i := 68) rfl)) (own_wS hw) e3 hS0 hkk2 (own_hEL hw) (List.mem_of_getElem? (i := 0) rfl) CR0_x2.1 (vs := [(.int (115 : Int32)), (.int (105 : Int32)), (.int (110 : Int32)), (.int (103 : Int32)), (.int (108 : Int32)), (.int (101 : Int32)), (.int (116 : Int32)), (.int (111 : Int32)), (.int (110 : Int32))]) (z := (9 : Int32)) ⟨by decide, by decide⟩ (by decide) (by decide) (g := (mkF m 28 #[.val (.ref a), .val (.ref x)] [(.ref a)])) rfl (hb hby own_d13_28) (n := 36) (by decide) (by decide) (by decide) (by decide)
  have O0_x4 := O0_x2.ext E4
  have CR0_x4 := CR0_x2.trans CB4
  have EA_x4 := EA_x2.ext E4
  have Fw2_x4 := Fw2.ext E4
  have F2_x4 := F2_x2.ext E4
  have F3_x4 := F3_x2.ext E4
  have Ex_x4 := Ex_x2.ext E4
  have S1_x4 := S1_x2.ext E4
  have K0_x4 := K0_x2.ext E4
  refine own_st st4 ?_
  show own_Rch p e below _ T4 (mkF m 30 #[.val (.ref a), .val (.ref x)] [(.ref sl4), (.ref a)])
  refine own_st (fun _ kt => XS.aloadN X4.here hx rfl (hb hby own_d13_30) rfl rfl  kt) ?_
  show own_Rch p e below _ T4 (mkF m 31 #[.val (.ref a), .val (.ref x)] [(.ref x), (.ref sl4), (.ref a)])
  obtain ⟨cq5, kq5, q5a, q5b, q5c⟩ := isOf hZ4 e4 Es4
  obtain ⟨_, _, ⟨T5, L5, k5, n5⟩, -, X5, ⟨Lc5, hQ5, l5, y5, z5⟩, st5⟩ := X4.virtualBack hx (y := (⟨"java/lang/String", "equals", "(Ljava/lang/Object;)Z"⟩ : MethodName)) (z := (⟨"java/lang/String", "equals", "(Ljava/lang/Object;)Z"⟩ : MethodName)) hown4 (mvT hZ4 (hw _ (List.mem_of_getElem? (i := 91) rfl))) (mvT hZ4 (hw _ (List.mem_of_getElem? (i := 73) rfl))) (notFace_of_selects (args := #[]) (mvT hZ4 (hw _ (List.mem_of_getElem? (i := 75) rfl)))) (mvT hZ4 (hw _ (List.mem_of_getElem? (i := 75) rfl))) (mvT hZ4 (hw _ (List.mem_of_getElem? (i := 74) rfl))) (by decide) (backOf (W := 1) (own_eqSP l Z a0 hw [] sl4 x cs h4 n0 O0_x4 SC hcs (⟨_, _, Es4, Fv4, Fc4, Va4⟩ : own_Str Z h4 sl4 own_S9) S1_x4) hZ4 (hw _ (List.mem_of_getElem? (i := 76) rfl)) (hw _ (List.mem_of_getElem? (i := 9) rfl)) (by decide) (by decide)) q5a q5c (g := (mkF m 31 #[.val (.ref a), .val (.ref x)] [(.ref x), (.ref sl4), (.ref a)])) rfl (by rw [hml]; rfl) (Steps.refl _) (argsL := [(.ref x)]) (rest := [(.ref a)]) (lenOf own_pd8 rfl) rfl (by show 2 * 0 + _ ≤ _; exact Nat.le_of_eq rfl) (hb hby own_d13_31) (fun _ _ => ⟨rfl, e4, (by decide : 2 + 0 ≤ _), (by decide : 40 + 0 ≤ _)⟩)
  dsimp only [Pt.U, Pt.locs, Pt.cells, Pt.slots] at X5 l5 y5 z5 st5 hQ5
  subst l5 y5 z5
  obtain ⟨rr5, rfl, N5q, hh5⟩ := hQ5
  have N5 := Fr.app N2 N5q
  refine own_st (fun _ kt => st5.trans kt) ?_
  show own_Rch p e below _ T5 (mkF m 34 #[.val (.ref a), .val (.ref x)] [(.int rr5), (.ref a)])
  by_cases hc34_6 : rr5 = (0 : Int32)
  · -- pc 34: True
    refine own_st (fun _ kt => XS.ifYes X5.here hx rfl (pc0 := 34) (pc' := 41) rfl (hb hby own_d13_34) rfl ((if0 _ _).trans (teq hc34_6).1) (by decide) (by decide) kt) ?_
    show own_Rch p e below _ T5 (mkF m 41 #[.val (.ref a), .val (.ref x)] [(.ref a)])
    refine own_st (fun _ kt => XS.iconst X5.here hx rfl (hb hby own_d13_41) kt) ?_
    show own_Rch p e below _ T5 (mkF m 42 #[.val (.ref a), .val (.ref x)] [(.int (0 : Int32)), (.ref a)])
    obtain ⟨T7, h7, X7, e7, W7, st7⟩ := putFN X5 hx hZ4 hown4 (hw _ (List.mem_of_getElem? (i := 44) rfl)) Via.refl hh5 F2_x4 EA_x4 (Or.inl (hw _ (List.mem_of_getElem? (i := 45) rfl))) (hw _ (List.mem_of_getElem? (i := 38) rfl)) (ty := .boolean) (v' := (.int (0 : Int32))) (by decide) rfl (by decide) (g := (mkF m 42 #[.val (.ref a), .val (.ref x)] [(.int (0 : Int32)), (.ref a)])) rfl rfl (hb hby own_d13_42)
    refine own_st st7 ?_
    have Fw7 := F2_x4.same W7
    have N7 := Fr.snoc X7 N5 ga
    have hkk7 := Nat.le_trans hk4 (Nat.le_of_eq (Wr.size W7).symm)
    have O0_x7 := O0_x4.wr W7 ga
    have CR0_x7 := CR0_x4.trans (CHr.wr W7 (Safe.exa (hZ4).alike EA_x4 (by decide) (by decide)) CR0_x4.1)
    have EA_x7 := EA_x4.wr W7
    have Fw2_x7 := Fw2_x4.other W7 (Or.inr (slot_ne (Or.inl (hw _ (List.mem_of_getElem? (i := 67) rfl))) (Or.inl (hw _ (List.mem_of_getElem? (i := 45) rfl))) (by decide) (t := (.object "java/lang/String")) (t' := .boolean) (by decide) (by decide)))
    have F3_x7 := F3_x4.other W7 (Or.inr (slot_ne (Or.inl (hw _ (List.mem_of_getElem? (i := 99) rfl))) (Or.inl (hw _ (List.mem_of_getElem? (i := 45) rfl))) (by decide) (t := .boolean) (t' := .boolean) (by decide) (by decide)))
    have Ex_x7 := Ex_x4.wr W7
    have S1_x7 := S1_x4.keep1 (Keep.of_wr W7) EA_x4 (by decide) (hw _ (List.mem_of_getElem? (i := 38) rfl))
    have K0_x7 := K0_x4.wr W7 (Or.inl (List.mem_of_getElem? (i := 0) rfl))
    have Es4_x7 := Es4.wr W7
    have Fc4_x7 := Fc4.other W7 (Or.inl (Exa.ne Es4 EA_x4 (by decide)))
    have Fv4_x7 := Fv4.other W7 (Or.inl (Exa.ne Es4 EA_x4 (by decide)))
    have Va4_x7 := Va4.other W7 (Ne.symm (Exa.neArv EA_x4 Va4 (hw _ (List.mem_of_getElem? (i := 38) rfl))))
    show own_Rch p e below _ T7 (mkF m 45 #[.val (.ref a), .val (.ref x)] [])
    refine own_st (fun _ kt => XS.aloadN X7.here hx rfl (hb hby own_d13_45) rfl rfl  kt) ?_
    show own_Rch p e below _ T7 (mkF m 46 #[.val (.ref a), .val (.ref x)] [(.ref a)])
    obtain ⟨sl8, T8, h8, ks8, sd8, kd8, X8, e8, E8, hS8, hk8, hZ8, hown8, Es8, Fc8, Fv8, Va8, -, -, CB8, Lt8, hne8, st8⟩ := ldcCH (s := s) X7 hx hZ4 hown4 (hw _ (List.mem_of_getElem? (i := 97) rfl)) (own_wS hw) e7 hS4 hkk7 (own_hEL hw) (List.mem_of_getElem? (i := 1) rfl) CR0_x7.1 (vs := [(.int (112 : Int32)), (.int (114 : Int32)), (.int (111 : Int32)), (.int (116 : Int32)), (.int (111 : Int32)), (.int (116 : Int32)), (.int (121 : Int32)), (.int (112 : Int32)), (.int (101 : Int32))]) (z := (9 : Int32)) ⟨by decide, by decide⟩ (by decide) (by decide) (g := (mkF m 46 #[.val (.ref a), .val (.ref x)] [(.ref a)])) rfl (hb hby own_d13_46) (n := 36) (by decide) (by decide) (by decide) (by decide)
    have O0_x8 := O0_x7.ext E8
    have CR0_x8 := CR0_x7.trans CB8
    have EA_x8 := EA_x7.ext E8
    have Fw2_x8 := Fw2_x7.ext E8
    have Fw7_x8 := Fw7.ext E8
    have F3_x8 := F3_x7.ext E8
    have Ex_x8 := Ex_x7.ext E8
    have S1_x8 := S1_x7.ext E8
    have K0_x8 := K0_x7.ext E8
    have Es4_x8 := Es4_x7.ext E8
    have Fc4_x8 := Fc4_x7.ext E8
    have Fv4_x8 := Fv4_x7.ext E8
    have Va4_x8 := Va4_x7.ext E8
    refine own_st st8 ?_
    show own_Rch p e below _ T8 (mkF m 48 #[.val (.ref a), .val (.ref x)] [(.ref sl8), (.ref a)])
    refine own_st (fun _ kt => XS.aloadN X8.here hx rfl (hb hby own_d13_48) rfl rfl  kt) ?_
    show own_Rch p e below _ T8 (mkF m 49 #[.val (.ref a), .val (.ref x)] [(.ref x), (.ref sl8), (.ref a)])
    obtain ⟨cq9, kq9, q9a, q9b, q9c⟩ := isOf hZ8 e8 Es8
    obtain ⟨_, _, ⟨T9, L9, k9, n9⟩, -, X9, ⟨Lc9, hQ9, l9, y9, z9⟩, st9⟩ := X8.virtualBack hx (y := (⟨"java/lang/String", "equals", "(Ljava/lang/Object;)Z"⟩ : MethodName)) (z := (⟨"java/lang/String", "equals", "(Ljava/lang/Object;)Z"⟩ : MethodName)) hown8 (mvT hZ8 (hw _ (List.mem_of_getElem? (i := 91) rfl))) (mvT hZ8 (hw _ (List.mem_of_getElem? (i := 73) rfl))) (notFace_of_selects (args := #[]) (mvT hZ8 (hw _ (List.mem_of_getElem? (i := 75) rfl)))) (mvT hZ8 (hw _ (List.mem_of_getElem? (i := 75) rfl))) (mvT hZ8 (hw _ (List.mem_of_getElem? (i := 74) rfl))) (by decide) (backOf (W := 1) (own_eqT l Z a0 hw [] sl8 x own_P9 cs h8 n0 O0_x8 SC hcs (⟨_, _, Es8, Fv8, Fc8, Va8⟩ : own_Str Z h8 sl8 own_P9) S1_x8 (Or.inr (Or.inl rfl))) hZ8 (hw _ (List.mem_of_getElem? (i := 76) rfl)) (hw _ (List.mem_of_getElem? (i := 9) rfl)) (by decide) (by decide)) q9a q9c (g := (mkF m 49 #[.val (.ref a), .val (.ref x)] [(.ref x), (.ref sl8), (.ref a)])) rfl (by rw [hml]; rfl) (Steps.refl _) (argsL := [(.ref x)]) (rest := [(.ref a)]) (lenOf own_pd8 rfl) rfl (by show 2 * 0 + _ ≤ _; exact Nat.le_of_eq rfl) (hb hby own_d13_49) (fun _ _ => ⟨rfl, e8, (by decide : 4 + 0 ≤ _), (by decide : 80 + 0 ≤ _)⟩)
    dsimp only [Pt.U, Pt.locs, Pt.cells, Pt.slots] at X9 l9 y9 z9 st9 hQ9
    subst l9 y9 z9
    obtain ⟨rfl, N9q, hh9⟩ := hQ9
    have N9 := Fr.app N7 N9q
    refine own_st (fun _ kt => st9.trans kt) ?_
    show own_Rch p e below _ T9 (mkF m 52 #[.val (.ref a), .val (.ref x)] [(.int (1 : Int32)), (.ref a)])
    obtain ⟨T10, h10, X10, e10, W10, st10⟩ := putFN X9 hx hZ8 hown8 (hw _ (List.mem_of_getElem? (i := 98) rfl)) Via.refl hh9 F3_x8 EA_x8 (Or.inl (hw _ (List.mem_of_getElem? (i := 99) rfl))) (hw _ (List.mem_of_getElem? (i := 38) rfl)) (ty := .boolean) (v' := (.int (1 : Int32))) (by decide) rfl (by decide) (g := (mkF m 52 #[.val (.ref a), .val (.ref x)] [(.int (1 : Int32)), (.ref a)])) rfl rfl (hb hby own_d13_52)
    refine own_st st10 ?_
    have Fw10 := F3_x8.same W10
    have N10 := Fr.snoc X10 N9 ga
    have hkk10 := Nat.le_trans hk8 (Nat.le_of_eq (Wr.size W10).symm)
    have O0_x10 := O0_x8.wr W10 ga
    have CR0_x10 := CR0_x8.trans (CHr.wr W10 (Safe.exa (hZ8).alike EA_x8 (by decide) (by decide)) CR0_x8.1)
    have EA_x10 := EA_x8.wr W10
    have Fw2_x10 := Fw2_x8.other W10 (Or.inr (slot_ne (Or.inl (hw _ (List.mem_of_getElem? (i := 67) rfl))) (Or.inl (hw _ (List.mem_of_getElem? (i := 99) rfl))) (by decide) (t := (.object "java/lang/String")) (t' := .boolean) (by decide) (by decide)))
    have Fw7_x10 := Fw7_x8.other W10 (Or.inr (slot_ne (Or.inl (hw _ (List.mem_of_getElem? (i := 45) rfl))) (Or.inl (hw _ (List.mem_of_getElem? (i := 99) rfl))) (by decide) (t := .boolean) (t' := .boolean) (by decide) (by decide)))
    have Ex_x10 := Ex_x8.wr W10
    have S1_x10 := S1_x8.keep1 (Keep.of_wr W10) EA_x8 (by decide) (hw _ (List.mem_of_getElem? (i := 38) rfl))
    have K0_x10 := K0_x8.wr W10 (Or.inl (List.mem_of_getElem? (i := 0) rfl))
    have Es4_x10 := Es4_x8.wr W10
    have Fc4_x10 := Fc4_x8.other W10 (Or.inl (Exa.ne Es4_x8 EA_x8 (by decide)))
    have Fv4_x10 := Fv4_x8.other W10 (Or.inl (Exa.ne Es4_x8 EA_x8 (by decide)))
    have Va4_x10 := Va4_x8.other W10 (Ne.symm (Exa.neArv EA_x8 Va4_x8 (hw _ (List.mem_of_getElem? (i := 38) rfl))))
    have Es8_x10 := Es8.wr W10
    have Fc8_x10 := Fc8.other W10 (Or.inl (Exa.ne Es8 EA_x8 (by decide)))
    have Fv8_x10 := Fv8.other W10 (Or.inl (Exa.ne Es8 EA_x8 (by decide)))
    have Va8_x10 := Va8.other W10 (Ne.symm (Exa.neArv EA_x8 Va8 (hw _ (List.mem_of_getElem? (i := 38) rfl))))
    show own_Rch p e below _ T10 (mkF m 55 #[.val (.ref a), .val (.ref x)] [])
    refine own_retVH (by rw [hh0, e10]; exact CR0_x10.trans (CHv.at (s := s) X10 hZ8 (own_hEL hw) CR0_x10.1)) (s := s) hS8 (by rw [e10]; exact hkk10) X10 hx Bd.notSynchronized Bd.returns (hb hby own_d13_55) (by decide) (by decide) ?_
    rw [e10]
    exact ⟨rfl, N10, K0_x10, EA_x10, ⟨_, Fw7_x10⟩, ⟨_, Fw10⟩, Or.inr ⟨_, Fw2_x10, S1_x10, by decide, Or.inr rfl⟩⟩
  · -- pc 34: False
    refine own_st (fun _ kt => XS.ifNo X5.here hx rfl (hb hby own_d13_34) rfl ((if0 _ _).trans (feq hc34_6).1) kt) ?_
    show own_Rch p e below _ T5 (mkF m 37 #[.val (.ref a), .val (.ref x)] [(.ref a)])
    refine own_st (fun _ kt => XS.iconst X5.here hx rfl (hb hby own_d13_37) kt) ?_
    show own_Rch p e below _ T5 (mkF m 38 #[.val (.ref a), .val (.ref x)] [(.int (1 : Int32)), (.ref a)])
    refine own_st (fun _ kt => XS.goto X5.here hx rfl (pc0 := 38) (pc' := 42) rfl (hb hby own_d13_38) (by decide) (by decide) kt) ?_
    show own_Rch p e below _ T5 (mkF m 42 #[.val (.ref a), .val (.ref x)] [(.int (1 : Int32)), (.ref a)])
    obtain ⟨T11, h11, X11, e11, W11, st11⟩ := putFN X5 hx hZ4 hown4 (hw _ (List.mem_of_getElem? (i := 44) rfl)) Via.refl hh5 F2_x4 EA_x4 (Or.inl (hw _ (List.mem_of_getElem? (i := 45) rfl))) (hw _ (List.mem_of_getElem? (i := 38) rfl)) (ty := .boolean) (v' := (.int (1 : Int32))) (by decide) rfl (by decide) (g := (mkF m 42 #[.val (.ref a), .val (.ref x)] [(.int (1 : Int32)), (.ref a)])) rfl rfl (hb hby own_d13_42)
    refine own_st st11 ?_
    have Fw11 := F2_x4.same W11
    have N11 := Fr.snoc X11 N5 ga
    have hkk11 := Nat.le_trans hk4 (Nat.le_of_eq (Wr.size W11).symm)
    have O0_x11 := O0_x4.wr W11 ga
    have CR0_x11 := CR0_x4.trans (CHr.wr W11 (Safe.exa (hZ4).alike EA_x4 (by decide) (by decide)) CR0_x4.1)
    have EA_x11 := EA_x4.wr W11
    have Fw2_x11 := Fw2_x4.other W11 (Or.inr (slot_ne (Or.inl (hw _ (List.mem_of_getElem? (i := 67) rfl))) (Or.inl (hw _ (List.mem_of_getElem? (i := 45) rfl))) (by decide) (t := (.object "java/lang/String")) (t' := .boolean) (by decide) (by decide)))
    have F3_x11 := F3_x4.other W11 (Or.inr (slot_ne (Or.inl (hw _ (List.mem_of_getElem? (i := 99) rfl))) (Or.inl (hw _ (List.mem_of_getElem? (i := 45) rfl))) (by decide) (t := .boolean) (t' := .boolean) (by decide) (by decide)))
    have Ex_x11 := Ex_x4.wr W11
    have S1_x11 := S1_x4.keep1 (Keep.of_wr W11) EA_x4 (by decide) (hw _ (List.mem_of_getElem? (i := 38) rfl))
    have K0_x11 := K0_x4.wr W11 (Or.inl (List.mem_of_getElem? (i := 0) rfl))
    have Es4_x11 := Es4.wr W11
    have Fc4_x11 := Fc4.other W11 (Or.inl (Exa.ne Es4 EA_x4 (by decide)))
    have Fv4_x11 := Fv4.other W11 (Or.inl (Exa.ne Es4 EA_x4 (by decide)))
    have Va4_x11 := Va4.other W11 (Ne.symm (Exa.neArv EA_x4 Va4 (hw _ (List.mem_of_getElem? (i := 38) rfl))))
    show own_Rch p e below _ T11 (mkF m 45 #[.val (.ref a), .val (.ref x)] [])
    refine own_st (fun _ kt => XS.aloadN X11.here hx rfl (hb hby own_d13_45) rfl rfl  kt) ?_
    show own_Rch p e below _ T11 (mkF m 46 #[.val (.ref a), .val (.ref x)] [(.ref a)])
    obtain ⟨sl12, T12, h12, ks12, sd12, kd12, X12, e12, E12, hS12, hk12, hZ12, hown12, Es12, Fc12, Fv12, Va12, -, -, CB12, Lt12, hne12, st12⟩ := ldcCH (s := s) X11 hx hZ4 hown4 (hw _ (List.mem_of_getElem? (i := 97) rfl)) (own_wS hw) e11 hS4 hkk11 (own_hEL hw) (List.mem_of_getElem? (i := 1) rfl) CR0_x11.1 (vs := [(.int (112 : Int32)), (.int (114 : Int32)), (.int (111 : Int32)), (.int (116 : Int32)), (.int (111 : Int32)), (.int (116 : Int32)), (.int (121 : Int32)), (.int (112 : Int32)), (.int (101 : Int32))]) (z := (9 : Int32)) ⟨by decide, by decide⟩ (by decide) (by decide) (g := (mkF m 46 #[.val (.ref a), .val (.ref x)] [(.ref a)])) rfl (hb hby own_d13_46) (n := 36) (by decide) (by decide) (by decide) (by decide)
    have O0_x12 := O0_x11.ext E12
    have CR0_x12 := CR0_x11.trans CB12
    have EA_x12 := EA_x11.ext E12
    have Fw2_x12 := Fw2_x11.ext E12
    have Fw11_x12 := Fw11.ext E12
    have F3_x12 := F3_x11.ext E12
    have Ex_x12 := Ex_x11.ext E12
    have S1_x12 := S1_x11.ext E12
    have K0_x12 := K0_x11.ext E12
    have Es4_x12 := Es4_x11.ext E12
    have Fc4_x12 := Fc4_x11.ext E12
    have Fv4_x12 := Fv4_x11.ext E12
    have Va4_x12 := Va4_x11.ext E12
    refine own_st st12 ?_
    show own_Rch p e below _ T12 (mkF m 48 #[.val (.ref a), .val (.ref x)] [(.ref sl12), (.ref a)])
    refine own_st (fun _ kt => XS.aloadN X12.here hx rfl (hb hby own_d13_48) rfl rfl  kt) ?_
    show own_Rch p e below _ T12 (mkF m 49 #[.val (.ref a), .val (.ref x)] [(.ref x), (.ref sl12), (.ref a)])
    obtain ⟨cq13, kq13, q13a, q13b, q13c⟩ := isOf hZ12 e12 Es12
    obtain ⟨_, _, ⟨T13, L13, k13, n13⟩, -, X13, ⟨Lc13, hQ13, l13, y13, z13⟩, st13⟩ := X12.virtualBack hx (y := (⟨"java/lang/String", "equals", "(Ljava/lang/Object;)Z"⟩ : MethodName)) (z := (⟨"java/lang/String", "equals", "(Ljava/lang/Object;)Z"⟩ : MethodName)) hown12 (mvT hZ12 (hw _ (List.mem_of_getElem? (i := 91) rfl))) (mvT hZ12 (hw _ (List.mem_of_getElem? (i := 73) rfl))) (notFace_of_selects (args := #[]) (mvT hZ12 (hw _ (List.mem_of_getElem? (i := 75) rfl)))) (mvT hZ12 (hw _ (List.mem_of_getElem? (i := 75) rfl))) (mvT hZ12 (hw _ (List.mem_of_getElem? (i := 74) rfl))) (by decide) (backOf (W := 1) (own_eqT l Z a0 hw [] sl12 x own_P9 cs h12 n0 O0_x12 SC hcs (⟨_, _, Es12, Fv12, Fc12, Va12⟩ : own_Str Z h12 sl12 own_P9) S1_x12 (Or.inr (Or.inl rfl))) hZ12 (hw _ (List.mem_of_getElem? (i := 76) rfl)) (hw _ (List.mem_of_getElem? (i := 9) rfl)) (by decide) (by decide)) q13a q13c (g := (mkF m 49 #[.val (.ref a), .val (.ref x)] [(.ref x), (.ref sl12), (.ref a)])) rfl (by rw [hml]; rfl) (Steps.refl _) (argsL := [(.ref x)]) (rest := [(.ref a)]) (lenOf own_pd8 rfl) rfl (by show 2 * 0 + _ ≤ _; exact Nat.le_of_eq rfl) (hb hby own_d13_49) (fun _ _ => ⟨rfl, e12, (by decide : 4 + 0 ≤ _), (by decide : 80 + 0 ≤ _)⟩)
    dsimp only [Pt.U, Pt.locs, Pt.cells, Pt.slots] at X13 l13 y13 z13 st13 hQ13
    subst l13 y13 z13
    obtain ⟨rfl, N13q, hh13⟩ := hQ13
    have N13 := Fr.app N11 N13q
    refine own_st (fun _ kt => st13.trans kt) ?_
    show own_Rch p e below _ T13 (mkF m 52 #[.val (.ref a), .val (.ref x)] [(.int (1 : Int32)), (.ref a)])
    obtain ⟨T14, h14, X14, e14, W14, st14⟩ := putFN X13 hx hZ12 hown12 (hw _ (List.mem_of_getElem? (i := 98) rfl)) Via.refl hh13 F3_x12 EA_x12 (Or.inl (hw _ (List.mem_of_getElem? (i := 99) rfl))) (hw _ (List.mem_of_getElem? (i := 38) rfl)) (ty := .boolean) (v' := (.int (1 : Int32))) (by decide) rfl (by decide) (g := (mkF m 52 #[.val (.ref a), .val (.ref x)] [(.int (1 : Int32)), (.ref a)])) rfl rfl (hb hby own_d13_52)
    refine own_st st14 ?_
    have Fw14 := F3_x12.same W14
    have N14 := Fr.snoc X14 N13 ga
    have hkk14 := Nat.le_trans hk12 (Nat.le_of_eq (Wr.size W14).symm)
    have O0_x14 := O0_x12.wr W14 ga
    have CR0_x14 := CR0_x12.trans (CHr.wr W14 (Safe.exa (hZ12).alike EA_x12 (by decide) (by decide)) CR0_x12.1)
    have EA_x14 := EA_x12.wr W14
    have Fw2_x14 := Fw2_x12.other W14 (Or.inr (slot_ne (Or.inl (hw _ (List.mem_of_getElem? (i := 67) rfl))) (Or.inl (hw _ (List.mem_of_getElem? (i := 99) rfl))) (by decide) (t := (.object "java/lang/String")) (t' := .boolean) (by decide) (by decide)))
    have Fw11_x14 := Fw11_x12.other W14 (Or.inr (slot_ne (Or.inl (hw _ (List.mem_of_getElem? (i := 45) rfl))) (Or.inl (hw _ (List.mem_of_getElem? (i := 99) rfl))) (by decide) (t := .boolean) (t' := .boolean) (by decide) (by decide)))
    have Ex_x14 := Ex_x12.wr W14
    have S1_x14 := S1_x12.keep1 (Keep.of_wr W14) EA_x12 (by decide) (hw _ (List.mem_of_getElem? (i := 38) rfl))
    have K0_x14 := K0_x12.wr W14 (Or.inl (List.mem_of_getElem? (i := 0) rfl))
    have Es4_x14 := Es4_x12.wr W14
    have Fc4_x14 := Fc4_x12.other W14 (Or.inl (Exa.ne Es4_x12 EA_x12 (by decide)))
    have Fv4_x14 := Fv4_x12.other W14 (Or.inl (Exa.ne Es4_x12 EA_x12 (by decide)))
    have Va4_x14 := Va4_x12.other W14 (Ne.symm (Exa.neArv EA_x12 Va4_x12 (hw _ (List.mem_of_getElem? (i := 38) rfl))))
    have Es12_x14 := Es12.wr W14
    have Fc12_x14 := Fc12.other W14 (Or.inl (Exa.ne Es12 EA_x12 (by decide)))
    have Fv12_x14 := Fv12.other W14 (Or.inl (Exa.ne Es12 EA_x12 (by decide)))
    have Va12_x14 := Va12.other W14 (Ne.symm (Exa.neArv EA_x12 Va12 (hw _ (List.mem_of_getElem? (i := 38) rfl))))
    show own_Rch p e below _ T14 (mkF m 55 #[.val (.ref a), .val (.ref x)] [])
    refine own_retVH (by rw [hh0, e14]; exact CR0_x14.trans (CHv.at (s := s) X14 hZ12 (own_hEL hw) CR0_x14.1)) (s := s) hS12 (by rw [e14]; exact hkk14) X14 hx Bd.notSynchronized Bd.returns (hb hby own_d13_55) (by decide) (by decide) ?_
    rw [e14]
    exact ⟨rfl, N14, K0_x14, EA_x14, ⟨_, Fw11_x14⟩, ⟨_, Fw14⟩, Or.inr ⟨_, Fw2_x14, S1_x14, by decide, Or.inr rfl⟩⟩
theorem own_set (l : Launch) (Z : State) (a0 : Array Value) (hw : ∀ d ∈ tables_1, d.before a0 Z = true) (ws : List Jvm.Cond) (a : Addr) (vx : Value) (lo l1 : List Int32) (cs : Int32) (h0 : Heap) (n0 : Nat) (O0 : Old Z n0 h0) (SC : Sta Z Z.heap "java/lang/String" "COMPACT_STRINGS" "Z" (.int cs)) (hcs : ¬ cs = 0) (B : own_BD Z h0 a lo) (ga : n0 ≤ a) (F : own_V Z h0 vx l1) :
    MetFree l (⟨"com/example/cicada/cicada/BeanDefinition", "setScope", "(Ljava/lang/String;)V"⟩ : MethodName) (head1 (Jvm.Cond.code (⟨"com/example/cicada/cicada/BeanDefinition", "setScope", "(Ljava/lang/String;)V"⟩ : MethodName) prog_7_method_7_code 2 none :: ws) ({ frames := 2, cells := 4, slots := 80, locals := 44 } : Room)) (fun args_ U => args_ = #[(.ref a), vx] ∧ Z.Warmed39 U.vm ∧ U.heap = h0 ∧ CHv Z consts_1 U.vm h0) (fun _ _ _ _ _ => True) (fun _ U o U' => ∃ v L, o = .returned v ∧ (own_Q_set Z a l1 h0 n0) v U'.heap L ∧ CHr Z consts_1 U.vm U.heap U'.vm U'.heap ∧ ReturnedEndW U o U' L ({ frames := 2, cells := 4, slots := 80, locals := 44 } : Room).cells ({ frames := 2, cells := 4, slots := 80, locals := 44 } : Room).slots) := by
  obtain ⟨EA, ⟨u2, F2⟩, ⟨u3, F3⟩, h3⟩ := B
  obtain ⟨u1, F1⟩ : ∃ u1, Fld Z h0 a "com/example/cicada/cicada/BeanDefinition" "scope" "Ljava/lang/String;" u1 := by
    rcases h3 with ⟨h3, -⟩ | ⟨x, h3, -⟩
    · exact ⟨_, h3⟩
    · exact ⟨_, h3⟩
  rcases F with ⟨rfl, rfl⟩ | ⟨x, rfl, S, rfl⟩ | ⟨x, rfl, S, hz, hl | rfl⟩
  · exact own_set0 l Z a0 hw ws a u1 u2 u3 cs h0 n0 O0 SC hcs EA F1 F2 F3 ga
  · exact own_set1 l Z a0 hw ws a u1 u2 u3 cs x h0 n0 O0 SC hcs EA F1 F2 F3 ga S
  · exact own_set2 l Z a0 hw ws a u1 u2 u3 cs x l1 h0 n0 O0 SC hcs EA F1 F2 F3 ga S hz hl
  · exact own_set3 l Z a0 hw ws a u1 u2 u3 cs x h0 n0 O0 SC hcs EA F1 F2 F3 ga S
theorem own_ef0 (m : MethodId) (x0 : Int32) (x1 : Int32) (x2 : Int32) (x3 : Int32) (x4 : Int32) : entryFrame m #[(.int x0), (.int x1), (.int x2), (.int x3), (.int x4)] maxLocals = mkF m 0 #[.val (.int x0), .val (.int x1), .val (.int x2), .val (.int x3), .val (.int x4), .unset, .unset, .unset, .unset, .unset, .unset, .unset, .unset, .unset, .unset, .unset] [] := by first | (simp [entryFrame, mkF, argsToLocals, Value.category, maxLocals]; done) | rfl
theorem own_pd9 : parseMethodDescriptor "(III)Ljava/lang/String;" = some ⟨[.int, .int, .int], some (.object "java/lang/String")⟩ := by decide +kernel
theorem own_pd10 : parseMethodDescriptor "()V" = some ⟨[], none⟩ := by decide +kernel
theorem own_pd11 : parseMethodDescriptor "()Ljava/lang/String;" = some ⟨[], some (.object "java/lang/String")⟩ := by decide +kernel
theorem own_pd12 : parseMethodDescriptor "(Ljava/lang/String;ILjava/lang/String;)Ljava/lang/String;" = some ⟨[(.object "java/lang/String"), .int, (.object "java/lang/String")], some (.object "java/lang/String")⟩ := by decide +kernel
theorem own_pd13 : parseMethodDescriptor "(Ljava/lang/String;)V" = some ⟨[(.object "java/lang/String")], none⟩ := by decide +kernel
def own_Q_own_rm0 (Z : State) (p0 : Int32) (p1 : Int32) (p2 : Int32) (p3 : Int32) (p4 : Int32) (cs : Int32) (wn : Addr) (h0 : Heap) (n0 : Nat) (v : Option Value) (h : Heap) (L : List Loc) : Prop := v = some (.int (1 : Int32)) ∧ Fr n0 L
set_option maxRecDepth 65536 in
set_option maxHeartbeats 40000000 in
theorem own_rm0 (l : Launch) (Z : State) (a0 : Array Value) (hw : ∀ d ∈ tables_1, d.before a0 Z = true) (ws : List Jvm.Cond) (p0 : Int32) (p1 : Int32) (p2 : Int32) (p3 : Int32) (p4 : Int32) (cs : Int32) (wn : Addr) (h0 : Heap) (n0 : Nat) (O0 : Old Z n0 h0) (SC : Sta Z Z.heap "java/lang/String" "COMPACT_STRINGS" "Z" (.int cs)) (hcs : ¬ cs = 0) (SN : Sta Z Z.heap "com/example/cicada/cicada/Autowire" "NO" "Lcom/example/cicada/cicada/Autowire;" (.ref wn)) :
    MetFree l x (head1 (Jvm.Cond.code x code maxLocals ret :: ws) room_1) (fun args_ U => args_ = #[(.int p0), (.int p1), (.int p2), (.int p3), (.int p4)] ∧ Z.Warmed39 U.vm ∧ U.heap = h0 ∧ CHv Z consts_1 U.vm h0) (fun _ _ _ _ _ => True) (fun _ U o U' => ∃ v L, o = .returned v ∧ (own_Q_own_rm0 Z p0 p1 p2 p3 p4 cs wn h0 n0) v U'.heap L ∧ CHr Z consts_1 U.vm U.heap U'.vm U'.heap ∧ ReturnedEndW U o U' L room_1.cells room_1.slots) := by
  refine MetFree.of_bodySF (plainFor_of_name own_pn3) hisR ?_
  intro p e s m args below meth c s₁ Bd hml0 hP hK
  obtain ⟨rfl, hZ, hh, hCH⟩ := hP
  have hx := Bd.exec
  have hby := Bd.bytes
  have hml : c.maxLocals = 16 := hml0
  have hown : s.vm.findClass "com/example/cicada/cicada/BeanDefinitionGetScopePinLaw" = some m.cls := findClass_of_methodNamed Bd.named
  have hnm := (name_of_methodNamed Bd.named Bd.method).1
  have X0 : Stand p l e room_1 (s.setVm s.vm) m #[(.int p0), (.int p1), (.int p2), (.int p3), (.int p4)] below meth c s₁ [] 0 0 := Stand.of_body Bd
  have e0 : s₁.heap = h0 := by rw [← hh, Bd.state]; rfl
  have N0 := Fr.nil n0
  have hh0 : s.heap = h0 := hh
  have CR0 : CHr Z consts_1 s.vm h0 s.vm h0 := CHr.refl hCH
  have hS0 : s.Since s.vm 0 := own_since s
  have hk0 : 0 ≤ h0.size := Nat.zero_le _
  refine own_closeH (Z := Z) (EL := consts_1) (s := s) (Q := (own_Q_own_rm0 Z p0 p1 p2 p3 p4 cs wn h0 n0)) (C := (room_1).cells) (N := (room_1).slots) (own_st (fun _ kt => castTop (own_ef0 m p0 p1 p2 p3 p4) kt) ?_)
  show own_Rch p e below _ s₁ (mkF m 0 #[.val (.int p0), .val (.int p1), .val (.int p2), .val (.int p3), .val (.int p4), .unset, .unset, .unset, .unset, .unset, .unset, .unset, .unset, .unset, .unset, .unset] [])
  refine own_st (fun _ kt => XS.iloadN X0.here hx rfl (hb hby at_0) rfl  kt) ?_
  show own_Rch p e below _ s₁ (mkF m 1 #[.val (.int p0), .val (.int p1), .val (.int p2), .val (.int p3), .val (.int p4), .unset, .unset, .unset, .unset, .unset, .unset, .unset, .unset, .unset, .unset, .unset] [(.int p0)])
  refine own_st (fun _ kt => XS.iconst X0.here hx rfl (hb hby at_1) kt) ?_
  show own_Rch p e below _ s₁ (mkF m 2 #[.val (.int p0), .val (.int p1), .val (.int p2), .val (.int p3), .val (.int p4), .unset, .unset, .unset, .unset, .unset, .unset, .unset, .unset, .unset, .unset, .unset] [(.int (3 : Int32)), (.int p0)])
  refine own_st (fun _ kt => XS.iand X0.here hx rfl (hb hby at_2) rfl kt) ?_
  show own_Rch p e below _ s₁ (mkF m 3 #[.val (.int p0), .val (.int p1), .val (.int p2), .val (.int p3), .val (.int p4), .unset, .unset, .unset, .unset, .unset, .unset, .unset, .unset, .unset, .unset, .unset] [(.int (p0 &&& (3 : Int32)))])
  refine own_st (fun _ kt => XS.istore X0.here hx rfl (hb hby at_3) rfl (l' := #[.val (.int p0), .val (.int p1), .val (.int p2), .val (.int p3), .val (.int p4), .val (.int (p0 &&& (3 : Int32))), .unset, .unset, .unset, .unset, .unset, .unset, .unset, .unset, .unset, .unset]) rfl kt) ?_
  show own_Rch p e below _ s₁ (mkF m 5 #[.val (.int p0), .val (.int p1), .val (.int p2), .val (.int p3), .val (.int p4), .val (.int (p0 &&& (3 : Int32))), .unset, .unset, .unset, .unset, .unset, .unset, .unset, .unset, .unset, .unset] [])
  refine own_st (fun _ kt => XS.iloadN X0.here hx rfl (hb hby at_5) rfl  kt) ?_
  show own_Rch p e below _ s₁ (mkF m 6 #[.val (.int p0), .val (.int p1), .val (.int p2), .val (.int p3), .val (.int p4), .val (.int (p0 &&& (3 : Int32))), .unset, .unset, .unset, .unset, .unset, .unset, .unset, .unset, .unset, .unset] [(.int p0)])
  refine own_st (fun _ kt => XS.iconst X0.here hx rfl (hb hby at_6) kt) ?_
  show own_Rch p e below _ s₁ (mkF m 7 #[.val (.int p0), .val (.int p1), .val (.int p2), .val (.int p3), .val (.int p4), .val (.int (p0 &&& (3 : Int32))), .unset, .unset, .unset, .unset, .unset, .unset, .unset, .unset, .unset, .unset] [(.int (2 : Int32)), (.int p0)])
  refine own_st (fun _ kt => XS.iushr X0.here hx rfl (hb hby at_7) rfl kt) ?_
  show own_Rch p e below _ s₁ (mkF m 8 #[.val (.int p0), .val (.int p1), .val (.int p2), .val (.int p3), .val (.int p4), .val (.int (p0 &&& (3 : Int32))), .unset, .unset, .unset, .unset, .unset, .unset, .unset, .unset, .unset, .unset] [(.int ((p0.toUInt32 >>> ((2 : Int32) &&& 31).toUInt32).toInt32))])
  refine own_st (fun _ kt => XS.iconst X0.here hx rfl (hb hby at_8) kt) ?_
  show own_Rch p e below _ s₁ (mkF m 9 #[.val (.int p0), .val (.int p1), .val (.int p2), .val (.int p3), .val (.int p4), .val (.int (p0 &&& (3 : Int32))), .unset, .unset, .unset, .unset, .unset, .unset, .unset, .unset, .unset, .unset] [(.int (3 : Int32)), (.int ((p0.toUInt32 >>> ((2 : Int32) &&& 31).toUInt32).toInt32))])
  refine own_st (fun _ kt => XS.iand X0.here hx rfl (hb hby at_9) rfl kt) ?_
  show own_Rch p e below _ s₁ (mkF m 10 #[.val (.int p0), .val (.int p1), .val (.int p2), .val (.int p3), .val (.int p4), .val (.int (p0 &&& (3 : Int32))), .unset, .unset, .unset, .unset, .unset, .unset, .unset, .unset, .unset, .unset] [(.int (((p0.toUInt32 >>> ((2 : Int32) &&& 31).toUInt32).toInt32) &&& (3 : Int32)))])
  refine own_st (fun _ kt => XS.istore X0.here hx rfl (hb hby at_10) rfl (l' := #[.val (.int p0), .val (.int p1), .val (.int p2), .val (.int p3), .val (.int p4), .val (.int (p0 &&& (3 : Int32))), .val (.int (((p0.toUInt32 >>> ((2 : Int32) &&& 31).toUInt32).toInt32) &&& (3 : Int32))), .unset, .unset, .unset, .unset, .unset, .unset, .unset, .unset, .unset]) rfl kt) ?_
  show own_Rch p e below _ s₁ (mkF m 12 #[.val (.int p0), .val (.int p1), .val (.int p2), .val (.int p3), .val (.int p4), .val (.int (p0 &&& (3 : Int32))), .val (.int (((p0.toUInt32 >>> ((2 : Int32) &&& 31).toUInt32).toInt32) &&& (3 : Int32))), .unset, .unset, .unset, .unset, .unset, .unset, .unset, .unset, .unset] [])
  refine own_st (fun _ kt => XS.iload X0.here hx rfl (hb hby at_12) rfl  kt) ?_
  show own_Rch p e below _ s₁ (mkF m 14 #[.val (.int p0), .val (.int p1), .val (.int p2), .val (.int p3), .val (.int p4), .val (.int (p0 &&& (3 : Int32))), .val (.int (((p0.toUInt32 >>> ((2 : Int32) &&& 31).toUInt32).toInt32) &&& (3 : Int32))), .unset, .unset, .unset, .unset, .unset, .unset, .unset, .unset, .unset] [(.int (p0 &&& (3 : Int32)))])
  refine own_st (fun _ kt => XS.iloadN X0.here hx rfl (hb hby at_14) rfl  kt) ?_
  show own_Rch p e below _ s₁ (mkF m 15 #[.val (.int p0), .val (.int p1), .val (.int p2), .val (.int p3), .val (.int p4), .val (.int (p0 &&& (3 : Int32))), .val (.int (((p0.toUInt32 >>> ((2 : Int32) &&& 31).toUInt32).toInt32) &&& (3 : Int32))), .unset, .unset, .unset, .unset, .unset, .unset, .unset, .unset, .unset] [(.int p1), (.int (p0 &&& (3 : Int32)))])
  refine own_st (fun _ kt => XS.iloadN X0.here hx rfl (hb hby at_15) rfl  kt) ?_
  show own_Rch p e below _ s₁ (mkF m 16 #[.val (.int p0), .val (.int p1), .val (.int p2), .val (.int p3), .val (.int p4), .val (.int (p0 &&& (3 : Int32))), .val (.int (((p0.toUInt32 >>> ((2 : Int32) &&& 31).toUInt32).toInt32) &&& (3 : Int32))), .unset, .unset, .unset, .unset, .unset, .unset, .unset, .unset, .unset] [(.int p2), (.int p1), (.int (p0 &&& (3 : Int32)))])
  obtain ⟨_, _, ⟨T1, L1, k1, n1⟩, -, X1, hSq1, hg1, ⟨Lc1, hQ1, l1, y1, z1, CB1⟩, st1⟩ := callSS X0 hx (y := (⟨"com/example/cicada/cicada/BeanDefinitionGetScopePinLaw", "arg", "(III)Ljava/lang/String;"⟩ : MethodName)) hown (mvT hZ (hw _ (List.mem_of_getElem? (i := 0) rfl))) (mvT hZ (hw _ (List.mem_of_getElem? (i := 1) rfl))) (mvT hZ (hw _ (List.mem_of_getElem? (i := 2) rfl))) (mvT hZ (hw _ (List.mem_of_getElem? (i := 3) rfl))) (by decide) (backOfSH (s := s) (W := 0) (own_arg l Z a0 hw [] (p0 &&& (3 : Int32)) p1 p2 cs h0 n0 O0 SC hcs) hZ (hw _ (List.mem_of_getElem? (i := 3) rfl)) (hw _ (List.mem_of_getElem? (i := 2) rfl)) (by decide) (by decide) (own_hEL hw) CR0.1) (g := (mkF m 16 #[.val (.int p0), .val (.int p1), .val (.int p2), .val (.int p3), .val (.int p4), .val (.int (p0 &&& (3 : Int32))), .val (.int (((p0.toUInt32 >>> ((2 : Int32) &&& 31).toUInt32).toInt32) &&& (3 : Int32))), .unset, .unset, .unset, .unset, .unset, .unset, .unset, .unset, .unset] [(.int p2), (.int p1), (.int (p0 &&& (3 : Int32)))])) rfl (by rw [hml]; rfl) (argsL := [(.int (p0 &&& (3 : Int32))), (.int p1), (.int p2)]) (rest := []) (lenOf own_pd9 rfl) rfl (by show 2 * 0 + _ ≤ _; exact Nat.le_of_eq rfl) (hb hby at_16) (fun _ _ => ⟨rfl, e0, (by decide : 0 + 4 ≤ _), (by decide : 0 + 40 ≤ _)⟩)
  dsimp only [Pt.U, Pt.locs, Pt.cells, Pt.slots] at X1 l1 y1 z1 st1 hQ1 hSq1 hg1 CB1
  subst l1 y1 z1
  obtain ⟨va1, lv1, rfl, N1q, K1, Wv1⟩ := hQ1
  have N1 := Fr.app N0 N1q
  have hS1 := foldS (s := s) hS0 (by rw [e0]; exact hk0) hSq1 hg1
  have hZ1 : Z.Warmed39 T1.vm := State.Warmed39.trans (t := s.setVm s.vm) hZ hSq1.1
  have hown1 : T1.vm.findClass "com/example/cicada/cicada/BeanDefinitionGetScopePinLaw" = some m.cls := by rw [hSq1.1.alike.findClass]; exact hown
  refine own_st (fun _ kt => st1.trans kt) ?_
  have O0_x1 := O0.keep K1 all0
  have CR0_x1 := CR0.trans CB1
  show own_Rch p e below _ T1 (mkF m 19 #[.val (.int p0), .val (.int p1), .val (.int p2), .val (.int p3), .val (.int p4), .val (.int (p0 &&& (3 : Int32))), .val (.int (((p0.toUInt32 >>> ((2 : Int32) &&& 31).toUInt32).toInt32) &&& (3 : Int32))), .unset, .unset, .unset, .unset, .unset, .unset, .unset, .unset, .unset] [va1])
  refine own_st (fun _ kt => XS.astoreS X1.here hx rfl (hb hby at_19) rfl (Wv1.ref) (own_cat (Wv1.ref)) rfl (Or.inl rfl) kt) ?_
  show own_Rch p e below _ T1 (mkF m 21 #[.val (.int p0), .val (.int p1), .val (.int p2), .val (.int p3), .val (.int p4), .val (.int (p0 &&& (3 : Int32))), .val (.int (((p0.toUInt32 >>> ((2 : Int32) &&& 31).toUInt32).toInt32) &&& (3 : Int32))), .val va1, .unset, .unset, .unset, .unset, .unset, .unset, .unset, .unset] [])
  refine own_st (fun _ kt => XS.iload X1.here hx rfl (hb hby at_21) rfl  kt) ?_
  show own_Rch p e below _ T1 (mkF m 23 #[.val (.int p0), .val (.int p1), .val (.int p2), .val (.int p3), .val (.int p4), .val (.int (p0 &&& (3 : Int32))), .val (.int (((p0.toUInt32 >>> ((2 : Int32) &&& 31).toUInt32).toInt32) &&& (3 : Int32))), .val va1, .unset, .unset, .unset, .unset, .unset, .unset, .unset, .unset] [(.int (((p0.toUInt32 >>> ((2 : Int32) &&& 31).toUInt32).toInt32) &&& (3 : Int32)))])
  refine own_st (fun _ kt => XS.iloadN X1.here hx rfl (hb hby at_23) rfl  kt) ?_
  show own_Rch p e below _ T1 (mkF m 24 #[.val (.int p0), .val (.int p1), .val (.int p2), .val (.int p3), .val (.int p4), .val (.int (p0 &&& (3 : Int32))), .val (.int (((p0.toUInt32 >>> ((2 : Int32) &&& 31).toUInt32).toInt32) &&& (3 : Int32))), .val va1, .unset, .unset, .unset, .unset, .unset, .unset, .unset, .unset] [(.int p3), (.int (((p0.toUInt32 >>> ((2 : Int32) &&& 31).toUInt32).toInt32) &&& (3 : Int32)))])
  refine own_st (fun _ kt => XS.iload X1.here hx rfl (hb hby at_24) rfl  kt) ?_
  show own_Rch p e below _ T1 (mkF m 26 #[.val (.int p0), .val (.int p1), .val (.int p2), .val (.int p3), .val (.int p4), .val (.int (p0 &&& (3 : Int32))), .val (.int (((p0.toUInt32 >>> ((2 : Int32) &&& 31).toUInt32).toInt32) &&& (3 : Int32))), .val va1, .unset, .unset, .unset, .unset, .unset, .unset, .unset, .unset] [(.int p4), (.int p3), (.int (((p0.toUInt32 >>> ((2 : Int32) &&& 31).toUInt32).toInt32) &&& (3 : Int32)))])
  obtain ⟨_, _, ⟨T2, L2, k2, n2⟩, -, X2, hSq2, hg2, ⟨Lc2, hQ2, l2, y2, z2, CB2⟩, st2⟩ := callSS X1 hx (y := (⟨"com/example/cicada/cicada/BeanDefinitionGetScopePinLaw", "arg", "(III)Ljava/lang/String;"⟩ : MethodName)) hown1 (mvT hZ1 (hw _ (List.mem_of_getElem? (i := 0) rfl))) (mvT hZ1 (hw _ (List.mem_of_getElem? (i := 1) rfl))) (mvT hZ1 (hw _ (List.mem_of_getElem? (i := 2) rfl))) (mvT hZ1 (hw _ (List.mem_of_getElem? (i := 3) rfl))) (by decide) (backOfSH (s := s) (W := 0) (own_arg l Z a0 hw [] (((p0.toUInt32 >>> ((2 : Int32) &&& 31).toUInt32).toInt32) &&& (3 : Int32)) p3 p4 cs T1.heap n0 O0_x1 SC hcs) hZ1 (hw _ (List.mem_of_getElem? (i := 3) rfl)) (hw _ (List.mem_of_getElem? (i := 2) rfl)) (by decide) (by decide) (own_hEL hw) CR0_x1.1) (g := (mkF m 26 #[.val (.int p0), .val (.int p1), .val (.int p2), .val (.int p3), .val (.int p4), .val (.int (p0 &&& (3 : Int32))), .val (.int (((p0.toUInt32 >>> ((2 : Int32) &&& 31).toUInt32).toInt32) &&& (3 : Int32))), .val va1, .unset, .unset, .unset, .unset, .unset, .unset, .unset, .unset] [(.int p4), (.int p3), (.int (((p0.toUInt32 >>> ((2 : Int32) &&& 31).toUInt32).toInt32) &&& (3 : Int32)))])) rfl (by rw [hml]; rfl) (argsL := [(.int (((p0.toUInt32 >>> ((2 : Int32) &&& 31).toUInt32).toInt32) &&& (3 : Int32))), (.int p3), (.int p4)]) (rest := []) (lenOf own_pd9 rfl) rfl (by show 2 * 0 + _ ≤ _; exact Nat.le_of_eq rfl) (hb hby at_26) (fun _ _ => ⟨rfl, rfl, (by decide : 4 + 4 ≤ _), (by decide : 40 + 40 ≤ _)⟩)
  dsimp only [Pt.U, Pt.locs, Pt.cells, Pt.slots] at X2 l2 y2 z2 st2 hQ2 hSq2 hg2 CB2
  subst l2 y2 z2
  obtain ⟨va2, lv2, rfl, N2q, K2, Wv2⟩ := hQ2
  have N2 := Fr.app N1 N2q
  have hS2 := foldS (s := s) hS1 (Nat.le_refl T1.heap.size) hSq2 hg2
  have hZ2 : Z.Warmed39 T2.vm := State.Warmed39.trans (t := s.setVm T1.vm) hZ1 hSq2.1
  have hown2 : T2.vm.findClass "com/example/cicada/cicada/BeanDefinitionGetScopePinLaw" = some m.cls := by rw [hSq2.1.alike.findClass]; exact hown1
  refine own_st (fun _ kt => st2.trans kt) ?_
  have O0_x2 := O0_x1.keep K2 all0
  have CR0_x2 := CR0_x1.trans CB2
  have Wv1_x2 := Wv1.keep0 K2
  show own_Rch p e below _ T2 (mkF m 29 #[.val (.int p0), .val (.int p1), .val (.int p2), .val (.int p3), .val (.int p4), .val (.int (p0 &&& (3 : Int32))), .val (.int (((p0.toUInt32 >>> ((2 : Int32) &&& 31).toUInt32).toInt32) &&& (3 : Int32))), .val va1, .unset, .unset, .unset, .unset, .unset, .unset, .unset, .unset] [va2])
  refine own_st (fun _ kt => XS.astoreS X2.here hx rfl (hb hby at_29) rfl (Wv2.ref) (own_cat (Wv2.ref)) rfl (Or.inl rfl) kt) ?_
  show own_Rch p e below _ T2 (mkF m 31 #[.val (.int p0), .val (.int p1), .val (.int p2), .val (.int p3), .val (.int p4), .val (.int (p0 &&& (3 : Int32))), .val (.int (((p0.toUInt32 >>> ((2 : Int32) &&& 31).toUInt32).toInt32) &&& (3 : Int32))), .val va1, .val va2, .unset, .unset, .unset, .unset, .unset, .unset, .unset] [])
  obtain ⟨T3, h3, X3, e3, E3, A3, D3, U3, st3⟩ := newO X2 hx hZ2 hown2 (hw _ (List.mem_of_getElem? (i := 37) rfl)) (hw _ (List.mem_of_getElem? (i := 38) rfl)) (hw _ (List.mem_of_getElem? (i := 39) rfl)) rfl (g := (mkF m 31 #[.val (.int p0), .val (.int p1), .val (.int p2), .val (.int p3), .val (.int p4), .val (.int (p0 &&& (3 : Int32))), .val (.int (((p0.toUInt32 >>> ((2 : Int32) &&& 31).toUInt32).toInt32) &&& (3 : Int32))), .val va1, .val va2, .unset, .unset, .unset, .unset, .unset, .unset, .unset] [])) rfl (hb hby at_31) (by decide) (by decide)
  obtain ⟨b3, g3⟩ : ∃ z, z = T2.heap.size := ⟨_, rfl⟩
  rw [← g3] at A3 D3 U3 st3
  have ge3 : n0 ≤ b3 := by rw [g3]; exact own_old_le O0_x2
  have hkk3 := Nat.le_trans (Nat.le_refl T2.heap.size) E3.1
  have O0_x3 := O0_x2.ext E3
  have CR0_x3 := CR0_x2.trans (CHr.ext E3 CR0_x2.1)
  have Wv1_x3 := Wv1_x2.ext E3
  have Wv2_x3 := Wv2.ext E3
  have Y3 := Safe.ext E3 CR0_x2.1 (Safe.new (Nat.le_of_eq g3.symm))
  refine own_st st3 ?_
  have F3_singleton : Fld Z h3 b3 "com/example/cicada/cicada/BeanDefinition" "singleton" "Z" (.int (0 : Int32)) := D3 (Or.inl (hw _ (List.mem_of_getElem? (i := 45) rfl))) (ty := .boolean) (by decide)
  have F3_autowireMode : Fld Z h3 b3 "com/example/cicada/cicada/BeanDefinition" "autowireMode" "Lcom/example/cicada/cicada/Autowire;" .null := D3 (Or.inl (hw _ (List.mem_of_getElem? (i := 50) rfl))) (ty := (.object "com/example/cicada/cicada/Autowire")) (by decide)
  have F3_autowireCandidate : Fld Z h3 b3 "com/example/cicada/cicada/BeanDefinition" "autowireCandidate" "Z" (.int (0 : Int32)) := D3 (Or.inl (hw _ (List.mem_of_getElem? (i := 52) rfl))) (ty := .boolean) (by decide)
  have F3_enforceInitMethod : Fld Z h3 b3 "com/example/cicada/cicada/BeanDefinition" "enforceInitMethod" "Z" (.int (0 : Int32)) := D3 (Or.inl (hw _ (List.mem_of_getElem? (i := 54) rfl))) (ty := .boolean) (by decide)
  have F3_enforceDestroyMethod : Fld Z h3 b3 "com/example/cicada/cicada/BeanDefinition" "enforceDestroyMethod" "Z" (.int (0 : Int32)) := D3 (Or.inl (hw _ (List.mem_of_getElem? (i := 56) rfl))) (ty := .boolean) (by decide)
  have F3_beanClassName : Fld Z h3 b3 "com/example/cicada/cicada/BeanDefinition" "beanClassName" "Ljava/lang/String;" .null := D3 (Or.inr (hw _ (List.mem_of_getElem? (i := 58) rfl))) (ty := (.object "java/lang/String")) (by decide)
  have F3_beanClass : Fld Z h3 b3 "com/example/cicada/cicada/BeanDefinition" "beanClass" "Ljava/lang/Class;" .null := D3 (Or.inr (hw _ (List.mem_of_getElem? (i := 60) rfl))) (ty := (.object "java/lang/Class")) (by decide)
  have F3_scope : Fld Z h3 b3 "com/example/cicada/cicada/BeanDefinition" "scope" "Ljava/lang/String;" .null := D3 (Or.inl (hw _ (List.mem_of_getElem? (i := 67) rfl))) (ty := (.object "java/lang/String")) (by decide)
  have F3_prototype : Fld Z h3 b3 "com/example/cicada/cicada/BeanDefinition" "prototype" "Z" (.int (0 : Int32)) := D3 (Or.inl (hw _ (List.mem_of_getElem? (i := 99) rfl))) (ty := .boolean) (by decide)
  show own_Rch p e below _ T3 (mkF m 34 #[.val (.int p0), .val (.int p1), .val (.int p2), .val (.int p3), .val (.int p4), .val (.int (p0 &&& (3 : Int32))), .val (.int (((p0.toUInt32 >>> ((2 : Int32) &&& 31).toUInt32).toInt32) &&& (3 : Int32))), .val va1, .val va2, .unset, .unset, .unset, .unset, .unset, .unset, .unset] [(.ref b3)])
  refine own_st (fun _ kt => XS.dup X3.here hx rfl (hb hby at_34) rfl rfl kt) ?_
  show own_Rch p e below _ T3 (mkF m 35 #[.val (.int p0), .val (.int p1), .val (.int p2), .val (.int p3), .val (.int p4), .val (.int (p0 &&& (3 : Int32))), .val (.int (((p0.toUInt32 >>> ((2 : Int32) &&& 31).toUInt32).toInt32) &&& (3 : Int32))), .val va1, .val va2, .unset, .unset, .unset, .unset, .unset, .unset, .unset] [(.ref b3), (.ref b3)])
  obtain ⟨_, _, ⟨T4, L4, k4, n4⟩, -, X4, ⟨Lc4, hQ4, l4, y4, z4⟩, st4⟩ := X3.specialBack hx (y := (⟨"com/example/cicada/cicada/BeanDefinition", "<init>", "()V"⟩ : MethodName)) rfl hown2 (mvT hZ2 (hw _ (List.mem_of_getElem? (i := 40) rfl))) (mvT hZ2 (hw _ (List.mem_of_getElem? (i := 41) rfl))) (mvT hZ2 (hw _ (List.mem_of_getElem? (i := 42) rfl))) (by decide) (backOf (W := 1) (own_binit l Z a0 hw [] b3 wn h3 n0 O0_x3 SN A3 F3_singleton F3_autowireMode F3_autowireCandidate F3_enforceInitMethod F3_enforceDestroyMethod F3_beanClassName F3_beanClass F3_scope F3_prototype ge3) hZ2 (hw _ (List.mem_of_getElem? (i := 42) rfl)) (hw _ (List.mem_of_getElem? (i := 39) rfl)) (by decide) (by decide)) (g := (mkF m 35 #[.val (.int p0), .val (.int p1), .val (.int p2), .val (.int p3), .val (.int p4), .val (.int (p0 &&& (3 : Int32))), .val (.int (((p0.toUInt32 >>> ((2 : Int32) &&& 31).toUInt32).toInt32) &&& (3 : Int32))), .val va1, .val va2, .unset, .unset, .unset, .unset, .unset, .unset, .unset] [(.ref b3), (.ref b3)])) rfl (by rw [hml]; rfl) (Steps.refl _) (a := b3) (argsL := []) (rest := [(.ref b3)]) (lenOf own_pd10 rfl) rfl (by show 2 * 0 + _ ≤ _; exact Nat.le_of_eq rfl) (hb hby at_35) (fun _ _ => ⟨rfl, e3, (by decide : 9 + 0 ≤ _), (by decide : 104 + 0 ≤ _)⟩)
  dsimp only [Pt.U, Pt.locs, Pt.cells, Pt.slots] at X4 l4 y4 z4 st4 hQ4
  subst l4 y4 z4
  obtain ⟨rfl, N4q, K4, Bd4⟩ := hQ4
  have N4 := Fr.app N2 N4q
  refine own_st (fun _ kt => st4.trans kt) ?_
  have hkk4 := Nat.le_trans hkk3 K4.1
  have O0_x4 := O0_x3.keep K4 (allS ge3 all0)
  have CR0_x4 := CR0_x3.trans (CHr.keep K4 (sfS Y3 sf0) CR0_x3.1)
  have Wv1_x4 := Wv1_x3.keep1 K4 A3 (by decide) (hw _ (List.mem_of_getElem? (i := 38) rfl))
  have Wv2_x4 := Wv2_x3.keep1 K4 A3 (by decide) (hw _ (List.mem_of_getElem? (i := 38) rfl))
  have Y3_x4 := Safe.keep K4 (sfS Y3 sf0) CR0_x3.1 Y3
  have A3_x4 := A3.keep K4
  show own_Rch p e below _ T4 (mkF m 38 #[.val (.int p0), .val (.int p1), .val (.int p2), .val (.int p3), .val (.int p4), .val (.int (p0 &&& (3 : Int32))), .val (.int (((p0.toUInt32 >>> ((2 : Int32) &&& 31).toUInt32).toInt32) &&& (3 : Int32))), .val va1, .val va2, .unset, .unset, .unset, .unset, .unset, .unset, .unset] [(.ref b3)])
  refine own_st (fun _ kt => XS.astore X4.here hx rfl (hb hby at_38) rfl rfl (l' := #[.val (.int p0), .val (.int p1), .val (.int p2), .val (.int p3), .val (.int p4), .val (.int (p0 &&& (3 : Int32))), .val (.int (((p0.toUInt32 >>> ((2 : Int32) &&& 31).toUInt32).toInt32) &&& (3 : Int32))), .val va1, .val va2, .val (.ref b3), .unset, .unset, .unset, .unset, .unset, .unset]) rfl kt) ?_
  show own_Rch p e below _ T4 (mkF m 40 #[.val (.int p0), .val (.int p1), .val (.int p2), .val (.int p3), .val (.int p4), .val (.int (p0 &&& (3 : Int32))), .val (.int (((p0.toUInt32 >>> ((2 : Int32) &&& 31).toUInt32).toInt32) &&& (3 : Int32))), .val va1, .val va2, .val (.ref b3), .unset, .unset, .unset, .unset, .unset, .unset] [])
  refine own_st (fun _ kt => XS.aload X4.here hx rfl (hb hby at_40) rfl rfl  kt) ?_
  show own_Rch p e below _ T4 (mkF m 42 #[.val (.int p0), .val (.int p1), .val (.int p2), .val (.int p3), .val (.int p4), .val (.int (p0 &&& (3 : Int32))), .val (.int (((p0.toUInt32 >>> ((2 : Int32) &&& 31).toUInt32).toInt32) &&& (3 : Int32))), .val va1, .val va2, .val (.ref b3), .unset, .unset, .unset, .unset, .unset, .unset] [(.ref b3)])
  obtain ⟨cq5, kq5, q5a, q5b, q5c⟩ := isOf hZ2 rfl (Bd4).1
  obtain ⟨_, _, ⟨T5, L5, k5, n5⟩, -, X5, hSq5, hg5, ⟨Lc5, hQ5, l5, y5, z5, CB5⟩, st5⟩ := X4.virtualBackS hx (y := (⟨"com/example/cicada/cicada/BeanDefinition", "getScope", "()Ljava/lang/String;"⟩ : MethodName)) (z := (⟨"com/example/cicada/cicada/BeanDefinition", "getScope", "()Ljava/lang/String;"⟩ : MethodName)) hown2 (mvT hZ2 (hw _ (List.mem_of_getElem? (i := 61) rfl))) (mvT hZ2 (hw _ (List.mem_of_getElem? (i := 62) rfl))) (notFace_of_selects (args := #[]) (mvT hZ2 (hw _ (List.mem_of_getElem? (i := 64) rfl)))) (mvT hZ2 (hw _ (List.mem_of_getElem? (i := 64) rfl))) (mvT hZ2 (hw _ (List.mem_of_getElem? (i := 63) rfl))) (by decide) (backOfSH (s := s) (W := 0) (own_get l Z a0 hw [] b3 own_S9 T4.heap n0 O0_x4 Bd4) hZ2 (hw _ (List.mem_of_getElem? (i := 65) rfl)) (hw _ (List.mem_of_getElem? (i := 39) rfl)) (by decide) (by decide) (own_hEL hw) CR0_x4.1) q5a q5c (g := (mkF m 42 #[.val (.int p0), .val (.int p1), .val (.int p2), .val (.int p3), .val (.int p4), .val (.int (p0 &&& (3 : Int32))), .val (.int (((p0.toUInt32 >>> ((2 : Int32) &&& 31).toUInt32).toInt32) &&& (3 : Int32))), .val va1, .val va2, .val (.ref b3), .unset, .unset, .unset, .unset, .unset, .unset] [(.ref b3)])) rfl (by rw [hml]; rfl) (Steps.refl _) (argsL := []) (rest := []) (lenOf own_pd11 rfl) rfl (by show 2 * 0 + _ ≤ _; exact Nat.le_of_eq rfl) (hb hby at_42) (fun _ _ => ⟨rfl, rfl, (by decide : 9 + 2 ≤ _), (by decide : 104 + 40 ≤ _)⟩)
  dsimp only [Pt.U, Pt.locs, Pt.cells, Pt.slots] at X5 l5 y5 z5 st5 hQ5 hSq5 hg5 CB5
  subst l5 y5 z5
  obtain ⟨sg5, rfl, N5q, K5, Sg5⟩ := hQ5
  have N5 := Fr.app N4 N5q
  have hS5 := foldS (s := s) hS2 hkk4 hSq5 hg5
  have hZ5 : Z.Warmed39 T5.vm := State.Warmed39.trans (t := s.setVm T2.vm) hZ2 hSq5.1
  have hown5 : T5.vm.findClass "com/example/cicada/cicada/BeanDefinitionGetScopePinLaw" = some m.cls := by rw [hSq5.1.alike.findClass]; exact hown2
  refine own_st (fun _ kt => st5.trans kt) ?_
  have Yq5_b3 := CB5.safe Bd4.lt Y3_x4
  have O0_x5 := O0_x4.keep K5 all0
  have CR0_x5 := CR0_x4.trans CB5
  have Wv1_x5 := Wv1_x4.keep0 K5
  have Wv2_x5 := Wv2_x4.keep0 K5
  have Bd4_x5 := Bd4.keep0 K5
  show own_Rch p e below _ T5 (mkF m 45 #[.val (.int p0), .val (.int p1), .val (.int p2), .val (.int p3), .val (.int p4), .val (.int (p0 &&& (3 : Int32))), .val (.int (((p0.toUInt32 >>> ((2 : Int32) &&& 31).toUInt32).toInt32) &&& (3 : Int32))), .val va1, .val va2, .val (.ref b3), .unset, .unset, .unset, .unset, .unset, .unset] [(.ref sg5)])
  refine own_st (fun _ kt => XS.astore X5.here hx rfl (hb hby at_45) rfl rfl (l' := #[.val (.int p0), .val (.int p1), .val (.int p2), .val (.int p3), .val (.int p4), .val (.int (p0 &&& (3 : Int32))), .val (.int (((p0.toUInt32 >>> ((2 : Int32) &&& 31).toUInt32).toInt32) &&& (3 : Int32))), .val va1, .val va2, .val (.ref b3), .val (.ref sg5), .unset, .unset, .unset, .unset, .unset]) rfl kt) ?_
  show own_Rch p e below _ T5 (mkF m 47 #[.val (.int p0), .val (.int p1), .val (.int p2), .val (.int p3), .val (.int p4), .val (.int (p0 &&& (3 : Int32))), .val (.int (((p0.toUInt32 >>> ((2 : Int32) &&& 31).toUInt32).toInt32) &&& (3 : Int32))), .val va1, .val va2, .val (.ref b3), .val (.ref sg5), .unset, .unset, .unset, .unset, .unset] [])
  refine own_st (fun _ kt => XS.aload X5.here hx rfl (hb hby at_47) rfl rfl  kt) ?_
  show own_Rch p e below _ T5 (mkF m 49 #[.val (.int p0), .val (.int p1), .val (.int p2), .val (.int p3), .val (.int p4), .val (.int (p0 &&& (3 : Int32))), .val (.int (((p0.toUInt32 >>> ((2 : Int32) &&& 31).toUInt32).toInt32) &&& (3 : Int32))), .val va1, .val va2, .val (.ref b3), .val (.ref sg5), .unset, .unset, .unset, .unset, .unset] [(.ref sg5)])
  refine own_st (fun _ kt => XS.ifnullNo X5.here hx rfl (hb hby at_49) rfl kt) ?_
  show own_Rch p e below _ T5 (mkF m 52 #[.val (.int p0), .val (.int p1), .val (.int p2), .val (.int p3), .val (.int p4), .val (.int (p0 &&& (3 : Int32))), .val (.int (((p0.toUInt32 >>> ((2 : Int32) &&& 31).toUInt32).toInt32) &&& (3 : Int32))), .val va1, .val va2, .val (.ref b3), .val (.ref sg5), .unset, .unset, .unset, .unset, .unset] [])
  obtain ⟨sl6, T6, h6, ks6, sd6, kd6, X6, e6, E6, hS6, hk6, hZ6, hown6, Es6, Fc6, Fv6, Va6, -, -, CB6, Lt6, hne6, st6⟩ := ldcCH (s := s) X5 hx hZ5 hown5 (hw _ (List.mem_of_getElem? (i := 71) rfl)) (own_wS hw) rfl hS5 (Nat.le_refl T5.heap.size) (own_hEL hw) (List.mem_of_getElem? (i := 3) rfl) CR0_x5.1 (vs := [(.int (115 : Int32)), (.int (105 : Int32)), (.int (110 : Int32)), (.int (103 : Int32)), (.int (108 : Int32)), (.int (101 : Int32)), (.int (116 : Int32)), (.int (111 : Int32)), (.int (110 : Int32))]) (z := (9 : Int32)) ⟨by decide, by decide⟩ (by decide) (by decide) (g := (mkF m 52 #[.val (.int p0), .val (.int p1), .val (.int p2), .val (.int p3), .val (.int p4), .val (.int (p0 &&& (3 : Int32))), .val (.int (((p0.toUInt32 >>> ((2 : Int32) &&& 31).toUInt32).toInt32) &&& (3 : Int32))), .val va1, .val va2, .val (.ref b3), .val (.ref sg5), .unset, .unset, .unset, .unset, .unset] [])) rfl (hb hby at_52) (n := 36) (by decide) (by decide) (by decide) (by decide)
  have Yq6_b3 := CB6.safe Bd4_x5.lt Yq5_b3
  have O0_x6 := O0_x5.ext E6
  have CR0_x6 := CR0_x5.trans CB6
  have Wv1_x6 := Wv1_x5.ext E6
  have Wv2_x6 := Wv2_x5.ext E6
  have Bd4_x6 := Bd4_x5.ext E6
  have Sg5_x6 := Sg5.ext E6
  have nq6_b3 := hne6 b3 Yq6_b3
  refine own_st st6 ?_
  show own_Rch p e below _ T6 (mkF m 54 #[.val (.int p0), .val (.int p1), .val (.int p2), .val (.int p3), .val (.int p4), .val (.int (p0 &&& (3 : Int32))), .val (.int (((p0.toUInt32 >>> ((2 : Int32) &&& 31).toUInt32).toInt32) &&& (3 : Int32))), .val va1, .val va2, .val (.ref b3), .val (.ref sg5), .unset, .unset, .unset, .unset, .unset] [(.ref sl6)])
  refine own_st (fun _ kt => XS.aload X6.here hx rfl (hb hby at_54) rfl rfl  kt) ?_
  show own_Rch p e below _ T6 (mkF m 56 #[.val (.int p0), .val (.int p1), .val (.int p2), .val (.int p3), .val (.int p4), .val (.int (p0 &&& (3 : Int32))), .val (.int (((p0.toUInt32 >>> ((2 : Int32) &&& 31).toUInt32).toInt32) &&& (3 : Int32))), .val va1, .val va2, .val (.ref b3), .val (.ref sg5), .unset, .unset, .unset, .unset, .unset] [(.ref sg5), (.ref sl6)])
  obtain ⟨cq7, kq7, q7a, q7b, q7c⟩ := isOf hZ6 e6 Es6
  obtain ⟨_, _, ⟨T7, L7, k7, n7⟩, -, X7, ⟨Lc7, hQ7, l7, y7, z7⟩, st7⟩ := X6.virtualBack hx (y := (⟨"java/lang/String", "equals", "(Ljava/lang/Object;)Z"⟩ : MethodName)) (z := (⟨"java/lang/String", "equals", "(Ljava/lang/Object;)Z"⟩ : MethodName)) hown6 (mvT hZ6 (hw _ (List.mem_of_getElem? (i := 72) rfl))) (mvT hZ6 (hw _ (List.mem_of_getElem? (i := 73) rfl))) (notFace_of_selects (args := #[]) (mvT hZ6 (hw _ (List.mem_of_getElem? (i := 75) rfl)))) (mvT hZ6 (hw _ (List.mem_of_getElem? (i := 75) rfl))) (mvT hZ6 (hw _ (List.mem_of_getElem? (i := 74) rfl))) (by decide) (backOf (W := 0) (own_eqT l Z a0 hw [] sl6 sg5 own_S9 cs h6 n0 O0_x6 SC hcs ⟨_, _, Es6, Fv6, Fc6, Va6⟩ Sg5_x6 (Or.inr (Or.inr rfl))) hZ6 (hw _ (List.mem_of_getElem? (i := 76) rfl)) (hw _ (List.mem_of_getElem? (i := 9) rfl)) (by decide) (by decide)) q7a q7c (g := (mkF m 56 #[.val (.int p0), .val (.int p1), .val (.int p2), .val (.int p3), .val (.int p4), .val (.int (p0 &&& (3 : Int32))), .val (.int (((p0.toUInt32 >>> ((2 : Int32) &&& 31).toUInt32).toInt32) &&& (3 : Int32))), .val va1, .val va2, .val (.ref b3), .val (.ref sg5), .unset, .unset, .unset, .unset, .unset] [(.ref sg5), (.ref sl6)])) rfl (by rw [hml]; rfl) (Steps.refl _) (argsL := [(.ref sg5)]) (rest := []) (lenOf own_pd8 rfl) rfl (by show 2 * 0 + _ ≤ _; exact Nat.le_of_eq rfl) (hb hby at_56) (fun _ _ => ⟨rfl, e6, (by decide : 13 + 0 ≤ _), (by decide : 184 + 0 ≤ _)⟩)
  dsimp only [Pt.U, Pt.locs, Pt.cells, Pt.slots] at X7 l7 y7 z7 st7 hQ7
  subst l7 y7 z7
  obtain ⟨rfl, N7q, hh7⟩ := hQ7
  have N7 := Fr.app N5 N7q
  refine own_st (fun _ kt => st7.trans kt) ?_
  show own_Rch p e below _ T7 (mkF m 59 #[.val (.int p0), .val (.int p1), .val (.int p2), .val (.int p3), .val (.int p4), .val (.int (p0 &&& (3 : Int32))), .val (.int (((p0.toUInt32 >>> ((2 : Int32) &&& 31).toUInt32).toInt32) &&& (3 : Int32))), .val va1, .val va2, .val (.ref b3), .val (.ref sg5), .unset, .unset, .unset, .unset, .unset] [(.int (1 : Int32))])
  refine own_st (fun _ kt => XS.ifNo X7.here hx rfl (hb hby at_59) rfl ((if0 _ _).trans (feq ((by decide) : ¬ ((1 : Int32) = (0 : Int32)))).1) kt) ?_
  show own_Rch p e below _ T7 (mkF m 62 #[.val (.int p0), .val (.int p1), .val (.int p2), .val (.int p3), .val (.int p4), .val (.int (p0 &&& (3 : Int32))), .val (.int (((p0.toUInt32 >>> ((2 : Int32) &&& 31).toUInt32).toInt32) &&& (3 : Int32))), .val va1, .val va2, .val (.ref b3), .val (.ref sg5), .unset, .unset, .unset, .unset, .unset] [])
  refine own_st (fun _ kt => XS.iconst X7.here hx rfl (hb hby at_62) kt) ?_
  show own_Rch p e below _ T7 (mkF m 63 #[.val (.int p0), .val (.int p1), .val (.int p2), .val (.int p3), .val (.int p4), .val (.int (p0 &&& (3 : Int32))), .val (.int (((p0.toUInt32 >>> ((2 : Int32) &&& 31).toUInt32).toInt32) &&& (3 : Int32))), .val va1, .val va2, .val (.ref b3), .val (.ref sg5), .unset, .unset, .unset, .unset, .unset] [(.int (1 : Int32))])
  refine own_st (fun _ kt => XS.goto X7.here hx rfl (pc0 := 63) (pc' := 67) rfl (hb hby at_63) (by decide) (by decide) kt) ?_
  show own_Rch p e below _ T7 (mkF m 67 #[.val (.int p0), .val (.int p1), .val (.int p2), .val (.int p3), .val (.int p4), .val (.int (p0 &&& (3 : Int32))), .val (.int (((p0.toUInt32 >>> ((2 : Int32) &&& 31).toUInt32).toInt32) &&& (3 : Int32))), .val va1, .val va2, .val (.ref b3), .val (.ref sg5), .unset, .unset, .unset, .unset, .unset] [(.int (1 : Int32))])
  refine own_st (fun _ kt => XS.istore X7.here hx rfl (hb hby at_67) rfl (l' := #[.val (.int p0), .val (.int p1), .val (.int p2), .val (.int p3), .val (.int p4), .val (.int (p0 &&& (3 : Int32))), .val (.int (((p0.toUInt32 >>> ((2 : Int32) &&& 31).toUInt32).toInt32) &&& (3 : Int32))), .val va1, .val va2, .val (.ref b3), .val (.ref sg5), .val (.int (1 : Int32)), .unset, .unset, .unset, .unset]) rfl kt) ?_
  show own_Rch p e below _ T7 (mkF m 69 #[.val (.int p0), .val (.int p1), .val (.int p2), .val (.int p3), .val (.int p4), .val (.int (p0 &&& (3 : Int32))), .val (.int (((p0.toUInt32 >>> ((2 : Int32) &&& 31).toUInt32).toInt32) &&& (3 : Int32))), .val va1, .val va2, .val (.ref b3), .val (.ref sg5), .val (.int (1 : Int32)), .unset, .unset, .unset, .unset] [])
  refine own_st (fun _ kt => XS.iload X7.here hx rfl (hb hby at_69) rfl  kt) ?_
  show own_Rch p e below _ T7 (mkF m 71 #[.val (.int p0), .val (.int p1), .val (.int p2), .val (.int p3), .val (.int p4), .val (.int (p0 &&& (3 : Int32))), .val (.int (((p0.toUInt32 >>> ((2 : Int32) &&& 31).toUInt32).toInt32) &&& (3 : Int32))), .val va1, .val va2, .val (.ref b3), .val (.ref sg5), .val (.int (1 : Int32)), .unset, .unset, .unset, .unset] [(.int (p0 &&& (3 : Int32)))])
  by_cases hc71_8 : (p0 &&& (3 : Int32)) = (0 : Int32)
  · -- pc 71: True
    refine own_st (fun _ kt => XS.ifYes X7.here hx rfl (pc0 := 71) (pc' := 81) rfl (hb hby at_71) rfl ((if0 _ _).trans (teq hc71_8).1) (by decide) (by decide) kt) ?_
    show own_Rch p e below _ T7 (mkF m 81 #[.val (.int p0), .val (.int p1), .val (.int p2), .val (.int p3), .val (.int p4), .val (.int (p0 &&& (3 : Int32))), .val (.int (((p0.toUInt32 >>> ((2 : Int32) &&& 31).toUInt32).toInt32) &&& (3 : Int32))), .val va1, .val va2, .val (.ref b3), .val (.ref sg5), .val (.int (1 : Int32)), .unset, .unset, .unset, .unset] [])
    refine own_st (ldcAgain (s := s) X7 hx hZ6 hown6 (hw _ (List.mem_of_getElem? (i := 71) rfl)) Lt6 (g := (mkF m 81 #[.val (.int p0), .val (.int p1), .val (.int p2), .val (.int p3), .val (.int p4), .val (.int (p0 &&& (3 : Int32))), .val (.int (((p0.toUInt32 >>> ((2 : Int32) &&& 31).toUInt32).toInt32) &&& (3 : Int32))), .val va1, .val va2, .val (.ref b3), .val (.ref sg5), .val (.int (1 : Int32)), .unset, .unset, .unset, .unset] [])) rfl (hb hby at_81)) ?_
    show own_Rch p e below _ T7 (mkF m 83 #[.val (.int p0), .val (.int p1), .val (.int p2), .val (.int p3), .val (.int p4), .val (.int (p0 &&& (3 : Int32))), .val (.int (((p0.toUInt32 >>> ((2 : Int32) &&& 31).toUInt32).toInt32) &&& (3 : Int32))), .val va1, .val va2, .val (.ref b3), .val (.ref sg5), .val (.int (1 : Int32)), .unset, .unset, .unset, .unset] [(.ref sl6)])
    refine own_st (fun _ kt => XS.iload X7.here hx rfl (hb hby at_83) rfl  kt) ?_
    show own_Rch p e below _ T7 (mkF m 85 #[.val (.int p0), .val (.int p1), .val (.int p2), .val (.int p3), .val (.int p4), .val (.int (p0 &&& (3 : Int32))), .val (.int (((p0.toUInt32 >>> ((2 : Int32) &&& 31).toUInt32).toInt32) &&& (3 : Int32))), .val va1, .val va2, .val (.ref b3), .val (.ref sg5), .val (.int (1 : Int32)), .unset, .unset, .unset, .unset] [(.int (p0 &&& (3 : Int32))), (.ref sl6)])
    refine own_st (fun _ kt => XS.aload X7.here hx rfl (hb hby at_85) rfl (Wv1.ref)  kt) ?_
    show own_Rch p e below _ T7 (mkF m 87 #[.val (.int p0), .val (.int p1), .val (.int p2), .val (.int p3), .val (.int p4), .val (.int (p0 &&& (3 : Int32))), .val (.int (((p0.toUInt32 >>> ((2 : Int32) &&& 31).toUInt32).toInt32) &&& (3 : Int32))), .val va1, .val va2, .val (.ref b3), .val (.ref sg5), .val (.int (1 : Int32)), .unset, .unset, .unset, .unset] [va1, (.int (p0 &&& (3 : Int32))), (.ref sl6)])
    obtain ⟨_, _, ⟨T10, L10, k10, n10⟩, -, X10, hSq10, hg10, ⟨Lc10, hQ10, l10, y10, z10, CB10⟩, st10⟩ := callSS X7 hx (y := (⟨"com/example/cicada/cicada/BeanDefinitionGetScopePinLaw", "after", "(Ljava/lang/String;ILjava/lang/String;)Ljava/lang/String;"⟩ : MethodName)) hown6 (mvT hZ6 (hw _ (List.mem_of_getElem? (i := 77) rfl))) (mvT hZ6 (hw _ (List.mem_of_getElem? (i := 78) rfl))) (mvT hZ6 (hw _ (List.mem_of_getElem? (i := 2) rfl))) (mvT hZ6 (hw _ (List.mem_of_getElem? (i := 79) rfl))) (by decide) (backOfSH (s := s) (W := 0) (own_after l Z a0 hw [] sl6 (p0 &&& (3 : Int32)) va1 own_S9 lv1 own_S9 h6 n0 O0_x6 ⟨_, _, Es6, Fv6, Fc6, Va6⟩ Wv1_x6 (Or.inl ⟨hc71_8, rfl⟩)) hZ6 (hw _ (List.mem_of_getElem? (i := 79) rfl)) (hw _ (List.mem_of_getElem? (i := 2) rfl)) (by decide) (by decide) (own_hEL hw) CR0_x6.1) (g := (mkF m 87 #[.val (.int p0), .val (.int p1), .val (.int p2), .val (.int p3), .val (.int p4), .val (.int (p0 &&& (3 : Int32))), .val (.int (((p0.toUInt32 >>> ((2 : Int32) &&& 31).toUInt32).toInt32) &&& (3 : Int32))), .val va1, .val va2, .val (.ref b3), .val (.ref sg5), .val (.int (1 : Int32)), .unset, .unset, .unset, .unset] [va1, (.int (p0 &&& (3 : Int32))), (.ref sl6)])) rfl (by rw [hml]; rfl) (argsL := [(.ref sl6), (.int (p0 &&& (3 : Int32))), va1]) (rest := []) (lenOf own_pd12 rfl) rfl (by show 2 * 0 + _ ≤ _; exact Nat.le_of_eq rfl) (hb hby at_87) (fun _ _ => ⟨rfl, hh7, (by decide : 13 + 2 ≤ _), (by decide : 184 + 40 ≤ _)⟩)
    dsimp only [Pt.U, Pt.locs, Pt.cells, Pt.slots] at X10 l10 y10 z10 st10 hQ10 hSq10 hg10 CB10
    subst l10 y10 z10
    obtain ⟨sg10, rfl, N10q, K10, Sg10⟩ := hQ10
    have N10 := Fr.app N7 N10q
    have hS10 := foldS (s := s) hS6 (by rw [hh7]; exact hk6) hSq10 hg10
    have hZ10 : Z.Warmed39 T10.vm := State.Warmed39.trans (t := s.setVm T6.vm) hZ6 hSq10.1
    have hown10 : T10.vm.findClass "com/example/cicada/cicada/BeanDefinitionGetScopePinLaw" = some m.cls := by rw [hSq10.1.alike.findClass]; exact hown6
    refine own_st (fun _ kt => st10.trans kt) ?_
    have Yq10_b3 := CB10.safe Bd4_x6.lt Yq6_b3
    have O0_x10 := O0_x6.keep K10 all0
    have CR0_x10 := CR0_x6.trans CB10
    have Wv1_x10 := Wv1_x6.keep0 K10
    have Wv2_x10 := Wv2_x6.keep0 K10
    have Bd4_x10 := Bd4_x6.keep0 K10
    have Sg5_x10 := Sg5_x6.keep0 K10
    have Es6_x10 := Es6.keep K10
    have Fc6_x10 := Fc6.keep K10 nin0
    have Fv6_x10 := Fv6.keep K10 nin0
    have Va6_x10 := Va6.keep K10 nin0
    show own_Rch p e below _ T10 (mkF m 90 #[.val (.int p0), .val (.int p1), .val (.int p2), .val (.int p3), .val (.int p4), .val (.int (p0 &&& (3 : Int32))), .val (.int (((p0.toUInt32 >>> ((2 : Int32) &&& 31).toUInt32).toInt32) &&& (3 : Int32))), .val va1, .val va2, .val (.ref b3), .val (.ref sg5), .val (.int (1 : Int32)), .unset, .unset, .unset, .unset] [(.ref sg10)])
    refine own_st (fun _ kt => XS.astore X10.here hx rfl (hb hby at_90) rfl rfl (l' := #[.val (.int p0), .val (.int p1), .val (.int p2), .val (.int p3), .val (.int p4), .val (.int (p0 &&& (3 : Int32))), .val (.int (((p0.toUInt32 >>> ((2 : Int32) &&& 31).toUInt32).toInt32) &&& (3 : Int32))), .val va1, .val va2, .val (.ref b3), .val (.ref sg5), .val (.int (1 : Int32)), .val (.ref sg10), .unset, .unset, .unset]) rfl kt) ?_
    show own_Rch p e below _ T10 (mkF m 92 #[.val (.int p0), .val (.int p1), .val (.int p2), .val (.int p3), .val (.int p4), .val (.int (p0 &&& (3 : Int32))), .val (.int (((p0.toUInt32 >>> ((2 : Int32) &&& 31).toUInt32).toInt32) &&& (3 : Int32))), .val va1, .val va2, .val (.ref b3), .val (.ref sg5), .val (.int (1 : Int32)), .val (.ref sg10), .unset, .unset, .unset] [])
    refine own_st (fun _ kt => XS.aload X10.here hx rfl (hb hby at_92) rfl rfl  kt) ?_
    show own_Rch p e below _ T10 (mkF m 94 #[.val (.int p0), .val (.int p1), .val (.int p2), .val (.int p3), .val (.int p4), .val (.int (p0 &&& (3 : Int32))), .val (.int (((p0.toUInt32 >>> ((2 : Int32) &&& 31).toUInt32).toInt32) &&& (3 : Int32))), .val va1, .val va2, .val (.ref b3), .val (.ref sg5), .val (.int (1 : Int32)), .val (.ref sg10), .unset, .unset, .unset] [(.ref b3)])
    obtain ⟨cq11, kq11, q11a, q11b, q11c⟩ := isOf hZ10 rfl (Bd4_x10).1
    obtain ⟨_, _, ⟨T11, L11, k11, n11⟩, -, X11, hSq11, hg11, ⟨Lc11, hQ11, l11, y11, z11, CB11⟩, st11⟩ := X10.virtualBackS hx (y := (⟨"com/example/cicada/cicada/BeanDefinition", "getScope", "()Ljava/lang/String;"⟩ : MethodName)) (z := (⟨"com/example/cicada/cicada/BeanDefinition", "getScope", "()Ljava/lang/String;"⟩ : MethodName)) hown10 (mvT hZ10 (hw _ (List.mem_of_getElem? (i := 61) rfl))) (mvT hZ10 (hw _ (List.mem_of_getElem? (i := 62) rfl))) (notFace_of_selects (args := #[]) (mvT hZ10 (hw _ (List.mem_of_getElem? (i := 64) rfl)))) (mvT hZ10 (hw _ (List.mem_of_getElem? (i := 64) rfl))) (mvT hZ10 (hw _ (List.mem_of_getElem? (i := 63) rfl))) (by decide) (backOfSH (s := s) (W := 0) (own_get l Z a0 hw [] b3 own_S9 T10.heap n0 O0_x10 Bd4_x10) hZ10 (hw _ (List.mem_of_getElem? (i := 65) rfl)) (hw _ (List.mem_of_getElem? (i := 39) rfl)) (by decide) (by decide) (own_hEL hw) CR0_x10.1) q11a q11c (g := (mkF m 94 #[.val (.int p0), .val (.int p1), .val (.int p2), .val (.int p3), .val (.int p4), .val (.int (p0 &&& (3 : Int32))), .val (.int (((p0.toUInt32 >>> ((2 : Int32) &&& 31).toUInt32).toInt32) &&& (3 : Int32))), .val va1, .val va2, .val (.ref b3), .val (.ref sg5), .val (.int (1 : Int32)), .val (.ref sg10), .unset, .unset, .unset] [(.ref b3)])) rfl (by rw [hml]; rfl) (Steps.refl _) (argsL := []) (rest := []) (lenOf own_pd11 rfl) rfl (by show 2 * 0 + _ ≤ _; exact Nat.le_of_eq rfl) (hb hby at_94) (fun _ _ => ⟨rfl, rfl, (by decide : 15 + 2 ≤ _), (by decide : 224 + 40 ≤ _)⟩)
    dsimp only [Pt.U, Pt.locs, Pt.cells, Pt.slots] at X11 l11 y11 z11 st11 hQ11 hSq11 hg11 CB11
    subst l11 y11 z11
    obtain ⟨sg11, rfl, N11q, K11, Sg11⟩ := hQ11
    have N11 := Fr.app N10 N11q
    have hS11 := foldS (s := s) hS10 (Nat.le_refl T10.heap.size) hSq11 hg11
    have hZ11 : Z.Warmed39 T11.vm := State.Warmed39.trans (t := s.setVm T10.vm) hZ10 hSq11.1
    have hown11 : T11.vm.findClass "com/example/cicada/cicada/BeanDefinitionGetScopePinLaw" = some m.cls := by rw [hSq11.1.alike.findClass]; exact hown10
    refine own_st (fun _ kt => st11.trans kt) ?_
    have Yq11_b3 := CB11.safe Bd4_x10.lt Yq10_b3
    have O0_x11 := O0_x10.keep K11 all0
    have CR0_x11 := CR0_x10.trans CB11
    have Wv1_x11 := Wv1_x10.keep0 K11
    have Wv2_x11 := Wv2_x10.keep0 K11
    have Bd4_x11 := Bd4_x10.keep0 K11
    have Sg5_x11 := Sg5_x10.keep0 K11
    have Es6_x11 := Es6_x10.keep K11
    have Fc6_x11 := Fc6_x10.keep K11 nin0
    have Fv6_x11 := Fv6_x10.keep K11 nin0
    have Va6_x11 := Va6_x10.keep K11 nin0
    have Sg10_x11 := Sg10.keep0 K11
    show own_Rch p e below _ T11 (mkF m 97 #[.val (.int p0), .val (.int p1), .val (.int p2), .val (.int p3), .val (.int p4), .val (.int (p0 &&& (3 : Int32))), .val (.int (((p0.toUInt32 >>> ((2 : Int32) &&& 31).toUInt32).toInt32) &&& (3 : Int32))), .val va1, .val va2, .val (.ref b3), .val (.ref sg5), .val (.int (1 : Int32)), .val (.ref sg10), .unset, .unset, .unset] [(.ref sg11)])
    refine own_st (fun _ kt => XS.astore X11.here hx rfl (hb hby at_97) rfl rfl (l' := #[.val (.int p0), .val (.int p1), .val (.int p2), .val (.int p3), .val (.int p4), .val (.int (p0 &&& (3 : Int32))), .val (.int (((p0.toUInt32 >>> ((2 : Int32) &&& 31).toUInt32).toInt32) &&& (3 : Int32))), .val va1, .val va2, .val (.ref b3), .val (.ref sg5), .val (.int (1 : Int32)), .val (.ref sg10), .val (.ref sg11), .unset, .unset]) rfl kt) ?_
    show own_Rch p e below _ T11 (mkF m 99 #[.val (.int p0), .val (.int p1), .val (.int p2), .val (.int p3), .val (.int p4), .val (.int (p0 &&& (3 : Int32))), .val (.int (((p0.toUInt32 >>> ((2 : Int32) &&& 31).toUInt32).toInt32) &&& (3 : Int32))), .val va1, .val va2, .val (.ref b3), .val (.ref sg5), .val (.int (1 : Int32)), .val (.ref sg10), .val (.ref sg11), .unset, .unset] [])
    refine own_st (fun _ kt => XS.iload X11.here hx rfl (hb hby at_99) rfl  kt) ?_
    show own_Rch p e below _ T11 (mkF m 101 #[.val (.int p0), .val (.int p1), .val (.int p2), .val (.int p3), .val (.int p4), .val (.int (p0 &&& (3 : Int32))), .val (.int (((p0.toUInt32 >>> ((2 : Int32) &&& 31).toUInt32).toInt32) &&& (3 : Int32))), .val va1, .val va2, .val (.ref b3), .val (.ref sg5), .val (.int (1 : Int32)), .val (.ref sg10), .val (.ref sg11), .unset, .unset] [(.int (1 : Int32))])
    refine own_st (fun _ kt => XS.ifNo X11.here hx rfl (hb hby at_101) rfl ((if0 _ _).trans (feq ((by decide) : ¬ ((1 : Int32) = (0 : Int32)))).1) kt) ?_
    show own_Rch p e below _ T11 (mkF m 104 #[.val (.int p0), .val (.int p1), .val (.int p2), .val (.int p3), .val (.int p4), .val (.int (p0 &&& (3 : Int32))), .val (.int (((p0.toUInt32 >>> ((2 : Int32) &&& 31).toUInt32).toInt32) &&& (3 : Int32))), .val va1, .val va2, .val (.ref b3), .val (.ref sg5), .val (.int (1 : Int32)), .val (.ref sg10), .val (.ref sg11), .unset, .unset] [])
    refine own_st (fun _ kt => XS.aload X11.here hx rfl (hb hby at_104) rfl rfl  kt) ?_
    show own_Rch p e below _ T11 (mkF m 106 #[.val (.int p0), .val (.int p1), .val (.int p2), .val (.int p3), .val (.int p4), .val (.int (p0 &&& (3 : Int32))), .val (.int (((p0.toUInt32 >>> ((2 : Int32) &&& 31).toUInt32).toInt32) &&& (3 : Int32))), .val va1, .val va2, .val (.ref b3), .val (.ref sg5), .val (.int (1 : Int32)), .val (.ref sg10), .val (.ref sg11), .unset, .unset] [(.ref sg11)])
    refine own_st (fun _ kt => XS.ifnullNo X11.here hx rfl (hb hby at_106) rfl kt) ?_
    show own_Rch p e below _ T11 (mkF m 109 #[.val (.int p0), .val (.int p1), .val (.int p2), .val (.int p3), .val (.int p4), .val (.int (p0 &&& (3 : Int32))), .val (.int (((p0.toUInt32 >>> ((2 : Int32) &&& 31).toUInt32).toInt32) &&& (3 : Int32))), .val va1, .val va2, .val (.ref b3), .val (.ref sg5), .val (.int (1 : Int32)), .val (.ref sg10), .val (.ref sg11), .unset, .unset] [])
    refine own_st (fun _ kt => XS.aload X11.here hx rfl (hb hby at_109) rfl rfl  kt) ?_
    show own_Rch p e below _ T11 (mkF m 111 #[.val (.int p0), .val (.int p1), .val (.int p2), .val (.int p3), .val (.int p4), .val (.int (p0 &&& (3 : Int32))), .val (.int (((p0.toUInt32 >>> ((2 : Int32) &&& 31).toUInt32).toInt32) &&& (3 : Int32))), .val va1, .val va2, .val (.ref b3), .val (.ref sg5), .val (.int (1 : Int32)), .val (.ref sg10), .val (.ref sg11), .unset, .unset] [(.ref sg10)])
    refine own_st (fun _ kt => XS.aload X11.here hx rfl (hb hby at_111) rfl rfl  kt) ?_
    show own_Rch p e below _ T11 (mkF m 113 #[.val (.int p0), .val (.int p1), .val (.int p2), .val (.int p3), .val (.int p4), .val (.int (p0 &&& (3 : Int32))), .val (.int (((p0.toUInt32 >>> ((2 : Int32) &&& 31).toUInt32).toInt32) &&& (3 : Int32))), .val va1, .val va2, .val (.ref b3), .val (.ref sg5), .val (.int (1 : Int32)), .val (.ref sg10), .val (.ref sg11), .unset, .unset] [(.ref sg11), (.ref sg10)])
    have Ersg10 : Exa Z T11.heap sg10 "java/lang/String" := by obtain ⟨_, _, q, -⟩ := Sg10_x11; exact q
    obtain ⟨cq12, kq12, q12a, q12b, q12c⟩ := isOf hZ11 rfl Ersg10
    obtain ⟨_, _, ⟨T12, L12, k12, n12⟩, -, X12, ⟨Lc12, hQ12, l12, y12, z12⟩, st12⟩ := X11.virtualBack hx (y := (⟨"java/lang/String", "equals", "(Ljava/lang/Object;)Z"⟩ : MethodName)) (z := (⟨"java/lang/String", "equals", "(Ljava/lang/Object;)Z"⟩ : MethodName)) hown11 (mvT hZ11 (hw _ (List.mem_of_getElem? (i := 72) rfl))) (mvT hZ11 (hw _ (List.mem_of_getElem? (i := 73) rfl))) (notFace_of_selects (args := #[]) (mvT hZ11 (hw _ (List.mem_of_getElem? (i := 75) rfl)))) (mvT hZ11 (hw _ (List.mem_of_getElem? (i := 75) rfl))) (mvT hZ11 (hw _ (List.mem_of_getElem? (i := 74) rfl))) (by decide) (backOf (W := 0) (own_eqT l Z a0 hw [] sg10 sg11 own_S9 cs T11.heap n0 O0_x11 SC hcs Sg10_x11 Sg11 (Or.inr (Or.inr rfl))) hZ11 (hw _ (List.mem_of_getElem? (i := 76) rfl)) (hw _ (List.mem_of_getElem? (i := 9) rfl)) (by decide) (by decide)) q12a q12c (g := (mkF m 113 #[.val (.int p0), .val (.int p1), .val (.int p2), .val (.int p3), .val (.int p4), .val (.int (p0 &&& (3 : Int32))), .val (.int (((p0.toUInt32 >>> ((2 : Int32) &&& 31).toUInt32).toInt32) &&& (3 : Int32))), .val va1, .val va2, .val (.ref b3), .val (.ref sg5), .val (.int (1 : Int32)), .val (.ref sg10), .val (.ref sg11), .unset, .unset] [(.ref sg11), (.ref sg10)])) rfl (by rw [hml]; rfl) (Steps.refl _) (argsL := [(.ref sg11)]) (rest := []) (lenOf own_pd8 rfl) rfl (by show 2 * 0 + _ ≤ _; exact Nat.le_of_eq rfl) (hb hby at_113) (fun _ _ => ⟨rfl, rfl, (by decide : 17 + 0 ≤ _), (by decide : 264 + 0 ≤ _)⟩)
    dsimp only [Pt.U, Pt.locs, Pt.cells, Pt.slots] at X12 l12 y12 z12 st12 hQ12
    subst l12 y12 z12
    obtain ⟨rfl, N12q, hh12⟩ := hQ12
    have N12 := Fr.app N11 N12q
    refine own_st (fun _ kt => st12.trans kt) ?_
    show own_Rch p e below _ T12 (mkF m 116 #[.val (.int p0), .val (.int p1), .val (.int p2), .val (.int p3), .val (.int p4), .val (.int (p0 &&& (3 : Int32))), .val (.int (((p0.toUInt32 >>> ((2 : Int32) &&& 31).toUInt32).toInt32) &&& (3 : Int32))), .val va1, .val va2, .val (.ref b3), .val (.ref sg5), .val (.int (1 : Int32)), .val (.ref sg10), .val (.ref sg11), .unset, .unset] [(.int (1 : Int32))])
    refine own_st (fun _ kt => XS.ifNo X12.here hx rfl (hb hby at_116) rfl ((if0 _ _).trans (feq ((by decide) : ¬ ((1 : Int32) = (0 : Int32)))).1) kt) ?_
    show own_Rch p e below _ T12 (mkF m 119 #[.val (.int p0), .val (.int p1), .val (.int p2), .val (.int p3), .val (.int p4), .val (.int (p0 &&& (3 : Int32))), .val (.int (((p0.toUInt32 >>> ((2 : Int32) &&& 31).toUInt32).toInt32) &&& (3 : Int32))), .val va1, .val va2, .val (.ref b3), .val (.ref sg5), .val (.int (1 : Int32)), .val (.ref sg10), .val (.ref sg11), .unset, .unset] [])
    refine own_st (fun _ kt => XS.iconst X12.here hx rfl (hb hby at_119) kt) ?_
    show own_Rch p e below _ T12 (mkF m 120 #[.val (.int p0), .val (.int p1), .val (.int p2), .val (.int p3), .val (.int p4), .val (.int (p0 &&& (3 : Int32))), .val (.int (((p0.toUInt32 >>> ((2 : Int32) &&& 31).toUInt32).toInt32) &&& (3 : Int32))), .val va1, .val va2, .val (.ref b3), .val (.ref sg5), .val (.int (1 : Int32)), .val (.ref sg10), .val (.ref sg11), .unset, .unset] [(.int (1 : Int32))])
    refine own_st (fun _ kt => XS.goto X12.here hx rfl (pc0 := 120) (pc' := 124) rfl (hb hby at_120) (by decide) (by decide) kt) ?_
    show own_Rch p e below _ T12 (mkF m 124 #[.val (.int p0), .val (.int p1), .val (.int p2), .val (.int p3), .val (.int p4), .val (.int (p0 &&& (3 : Int32))), .val (.int (((p0.toUInt32 >>> ((2 : Int32) &&& 31).toUInt32).toInt32) &&& (3 : Int32))), .val va1, .val va2, .val (.ref b3), .val (.ref sg5), .val (.int (1 : Int32)), .val (.ref sg10), .val (.ref sg11), .unset, .unset] [(.int (1 : Int32))])
    refine own_st (fun _ kt => XS.istore X12.here hx rfl (hb hby at_124) rfl (l' := #[.val (.int p0), .val (.int p1), .val (.int p2), .val (.int p3), .val (.int p4), .val (.int (p0 &&& (3 : Int32))), .val (.int (((p0.toUInt32 >>> ((2 : Int32) &&& 31).toUInt32).toInt32) &&& (3 : Int32))), .val va1, .val va2, .val (.ref b3), .val (.ref sg5), .val (.int (1 : Int32)), .val (.ref sg10), .val (.ref sg11), .unset, .unset]) rfl kt) ?_
    show own_Rch p e below _ T12 (mkF m 126 #[.val (.int p0), .val (.int p1), .val (.int p2), .val (.int p3), .val (.int p4), .val (.int (p0 &&& (3 : Int32))), .val (.int (((p0.toUInt32 >>> ((2 : Int32) &&& 31).toUInt32).toInt32) &&& (3 : Int32))), .val va1, .val va2, .val (.ref b3), .val (.ref sg5), .val (.int (1 : Int32)), .val (.ref sg10), .val (.ref sg11), .unset, .unset] [])
    refine own_st (fun _ kt => XS.iload X12.here hx rfl (hb hby at_126) rfl  kt) ?_
    show own_Rch p e below _ T12 (mkF m 128 #[.val (.int p0), .val (.int p1), .val (.int p2), .val (.int p3), .val (.int p4), .val (.int (p0 &&& (3 : Int32))), .val (.int (((p0.toUInt32 >>> ((2 : Int32) &&& 31).toUInt32).toInt32) &&& (3 : Int32))), .val va1, .val va2, .val (.ref b3), .val (.ref sg5), .val (.int (1 : Int32)), .val (.ref sg10), .val (.ref sg11), .unset, .unset] [(.int (((p0.toUInt32 >>> ((2 : Int32) &&& 31).toUInt32).toInt32) &&& (3 : Int32)))])
    by_cases hc128_13 : (((p0.toUInt32 >>> ((2 : Int32) &&& 31).toUInt32).toInt32) &&& (3 : Int32)) = (0 : Int32)
    · -- pc 128: True
      refine own_st (fun _ kt => XS.ifYes X12.here hx rfl (pc0 := 128) (pc' := 138) rfl (hb hby at_128) rfl ((if0 _ _).trans (teq hc128_13).1) (by decide) (by decide) kt) ?_
      show own_Rch p e below _ T12 (mkF m 138 #[.val (.int p0), .val (.int p1), .val (.int p2), .val (.int p3), .val (.int p4), .val (.int (p0 &&& (3 : Int32))), .val (.int (((p0.toUInt32 >>> ((2 : Int32) &&& 31).toUInt32).toInt32) &&& (3 : Int32))), .val va1, .val va2, .val (.ref b3), .val (.ref sg5), .val (.int (1 : Int32)), .val (.ref sg10), .val (.ref sg11), .unset, .unset] [])
      refine own_st (fun _ kt => XS.aload X12.here hx rfl (hb hby at_138) rfl rfl  kt) ?_
      show own_Rch p e below _ T12 (mkF m 140 #[.val (.int p0), .val (.int p1), .val (.int p2), .val (.int p3), .val (.int p4), .val (.int (p0 &&& (3 : Int32))), .val (.int (((p0.toUInt32 >>> ((2 : Int32) &&& 31).toUInt32).toInt32) &&& (3 : Int32))), .val va1, .val va2, .val (.ref b3), .val (.ref sg5), .val (.int (1 : Int32)), .val (.ref sg10), .val (.ref sg11), .unset, .unset] [(.ref sg10)])
      refine own_st (fun _ kt => XS.iload X12.here hx rfl (hb hby at_140) rfl  kt) ?_
      show own_Rch p e below _ T12 (mkF m 142 #[.val (.int p0), .val (.int p1), .val (.int p2), .val (.int p3), .val (.int p4), .val (.int (p0 &&& (3 : Int32))), .val (.int (((p0.toUInt32 >>> ((2 : Int32) &&& 31).toUInt32).toInt32) &&& (3 : Int32))), .val va1, .val va2, .val (.ref b3), .val (.ref sg5), .val (.int (1 : Int32)), .val (.ref sg10), .val (.ref sg11), .unset, .unset] [(.int (((p0.toUInt32 >>> ((2 : Int32) &&& 31).toUInt32).toInt32) &&& (3 : Int32))), (.ref sg10)])
      refine own_st (fun _ kt => XS.aload X12.here hx rfl (hb hby at_142) rfl (Wv2.ref)  kt) ?_
      show own_Rch p e below _ T12 (mkF m 144 #[.val (.int p0), .val (.int p1), .val (.int p2), .val (.int p3), .val (.int p4), .val (.int (p0 &&& (3 : Int32))), .val (.int (((p0.toUInt32 >>> ((2 : Int32) &&& 31).toUInt32).toInt32) &&& (3 : Int32))), .val va1, .val va2, .val (.ref b3), .val (.ref sg5), .val (.int (1 : Int32)), .val (.ref sg10), .val (.ref sg11), .unset, .unset] [va2, (.int (((p0.toUInt32 >>> ((2 : Int32) &&& 31).toUInt32).toInt32) &&& (3 : Int32))), (.ref sg10)])
      obtain ⟨_, _, ⟨T14, L14, k14, n14⟩, -, X14, hSq14, hg14, ⟨Lc14, hQ14, l14, y14, z14, CB14⟩, st14⟩ := callSS X12 hx (y := (⟨"com/example/cicada/cicada/BeanDefinitionGetScopePinLaw", "after", "(Ljava/lang/String;ILjava/lang/String;)Ljava/lang/String;"⟩ : MethodName)) hown11 (mvT hZ11 (hw _ (List.mem_of_getElem? (i := 77) rfl))) (mvT hZ11 (hw _ (List.mem_of_getElem? (i := 78) rfl))) (mvT hZ11 (hw _ (List.mem_of_getElem? (i := 2) rfl))) (mvT hZ11 (hw _ (List.mem_of_getElem? (i := 79) rfl))) (by decide) (backOfSH (s := s) (W := 0) (own_after l Z a0 hw [] sg10 (((p0.toUInt32 >>> ((2 : Int32) &&& 31).toUInt32).toInt32) &&& (3 : Int32)) va2 own_S9 lv2 own_S9 T11.heap n0 O0_x11 Sg10_x11 Wv2_x11 (Or.inl ⟨hc128_13, rfl⟩)) hZ11 (hw _ (List.mem_of_getElem? (i := 79) rfl)) (hw _ (List.mem_of_getElem? (i := 2) rfl)) (by decide) (by decide) (own_hEL hw) CR0_x11.1) (g := (mkF m 144 #[.val (.int p0), .val (.int p1), .val (.int p2), .val (.int p3), .val (.int p4), .val (.int (p0 &&& (3 : Int32))), .val (.int (((p0.toUInt32 >>> ((2 : Int32) &&& 31).toUInt32).toInt32) &&& (3 : Int32))), .val va1, .val va2, .val (.ref b3), .val (.ref sg5), .val (.int (1 : Int32)), .val (.ref sg10), .val (.ref sg11), .unset, .unset] [va2, (.int (((p0.toUInt32 >>> ((2 : Int32) &&& 31).toUInt32).toInt32) &&& (3 : Int32))), (.ref sg10)])) rfl (by rw [hml]; rfl) (argsL := [(.ref sg10), (.int (((p0.toUInt32 >>> ((2 : Int32) &&& 31).toUInt32).toInt32) &&& (3 : Int32))), va2]) (rest := []) (lenOf own_pd12 rfl) rfl (by show 2 * 0 + _ ≤ _; exact Nat.le_of_eq rfl) (hb hby at_144) (fun _ _ => ⟨rfl, hh12, (by decide : 17 + 2 ≤ _), (by decide : 264 + 40 ≤ _)⟩)
      dsimp only [Pt.U, Pt.locs, Pt.cells, Pt.slots] at X14 l14 y14 z14 st14 hQ14 hSq14 hg14 CB14
      subst l14 y14 z14
      obtain ⟨sg14, rfl, N14q, K14, Sg14⟩ := hQ14
      have N14 := Fr.app N12 N14q
      have hS14 := foldS (s := s) hS11 (by rw [hh12]; exact (Nat.le_refl T11.heap.size)) hSq14 hg14
      have hZ14 : Z.Warmed39 T14.vm := State.Warmed39.trans (t := s.setVm T11.vm) hZ11 hSq14.1
      have hown14 : T14.vm.findClass "com/example/cicada/cicada/BeanDefinitionGetScopePinLaw" = some m.cls := by rw [hSq14.1.alike.findClass]; exact hown11
      refine own_st (fun _ kt => st14.trans kt) ?_
      have Yq14_b3 := CB14.safe Bd4_x11.lt Yq11_b3
      have O0_x14 := O0_x11.keep K14 all0
      have CR0_x14 := CR0_x11.trans CB14
      have Wv1_x14 := Wv1_x11.keep0 K14
      have Wv2_x14 := Wv2_x11.keep0 K14
      have Bd4_x14 := Bd4_x11.keep0 K14
      have Sg5_x14 := Sg5_x11.keep0 K14
      have Es6_x14 := Es6_x11.keep K14
      have Fc6_x14 := Fc6_x11.keep K14 nin0
      have Fv6_x14 := Fv6_x11.keep K14 nin0
      have Va6_x14 := Va6_x11.keep K14 nin0
      have Sg10_x14 := Sg10_x11.keep0 K14
      have Sg11_x14 := Sg11.keep0 K14
      have Ersg10_x14 := Ersg10.keep K14
      show own_Rch p e below _ T14 (mkF m 147 #[.val (.int p0), .val (.int p1), .val (.int p2), .val (.int p3), .val (.int p4), .val (.int (p0 &&& (3 : Int32))), .val (.int (((p0.toUInt32 >>> ((2 : Int32) &&& 31).toUInt32).toInt32) &&& (3 : Int32))), .val va1, .val va2, .val (.ref b3), .val (.ref sg5), .val (.int (1 : Int32)), .val (.ref sg10), .val (.ref sg11), .unset, .unset] [(.ref sg14)])
      refine own_st (fun _ kt => XS.astore X14.here hx rfl (hb hby at_147) rfl rfl (l' := #[.val (.int p0), .val (.int p1), .val (.int p2), .val (.int p3), .val (.int p4), .val (.int (p0 &&& (3 : Int32))), .val (.int (((p0.toUInt32 >>> ((2 : Int32) &&& 31).toUInt32).toInt32) &&& (3 : Int32))), .val va1, .val va2, .val (.ref b3), .val (.ref sg5), .val (.int (1 : Int32)), .val (.ref sg10), .val (.ref sg11), .val (.ref sg14), .unset]) rfl kt) ?_
      show own_Rch p e below _ T14 (mkF m 149 #[.val (.int p0), .val (.int p1), .val (.int p2), .val (.int p3), .val (.int p4), .val (.int (p0 &&& (3 : Int32))), .val (.int (((p0.toUInt32 >>> ((2 : Int32) &&& 31).toUInt32).toInt32) &&& (3 : Int32))), .val va1, .val va2, .val (.ref b3), .val (.ref sg5), .val (.int (1 : Int32)), .val (.ref sg10), .val (.ref sg11), .val (.ref sg14), .unset] [])
      refine own_st (fun _ kt => XS.aload X14.here hx rfl (hb hby at_149) rfl rfl  kt) ?_
      show own_Rch p e below _ T14 (mkF m 151 #[.val (.int p0), .val (.int p1), .val (.int p2), .val (.int p3), .val (.int p4), .val (.int (p0 &&& (3 : Int32))), .val (.int (((p0.toUInt32 >>> ((2 : Int32) &&& 31).toUInt32).toInt32) &&& (3 : Int32))), .val va1, .val va2, .val (.ref b3), .val (.ref sg5), .val (.int (1 : Int32)), .val (.ref sg10), .val (.ref sg11), .val (.ref sg14), .unset] [(.ref b3)])
      obtain ⟨cq15, kq15, q15a, q15b, q15c⟩ := isOf hZ14 rfl (Bd4_x14).1
      obtain ⟨_, _, ⟨T15, L15, k15, n15⟩, -, X15, hSq15, hg15, ⟨Lc15, hQ15, l15, y15, z15, CB15⟩, st15⟩ := X14.virtualBackS hx (y := (⟨"com/example/cicada/cicada/BeanDefinition", "getScope", "()Ljava/lang/String;"⟩ : MethodName)) (z := (⟨"com/example/cicada/cicada/BeanDefinition", "getScope", "()Ljava/lang/String;"⟩ : MethodName)) hown14 (mvT hZ14 (hw _ (List.mem_of_getElem? (i := 61) rfl))) (mvT hZ14 (hw _ (List.mem_of_getElem? (i := 62) rfl))) (notFace_of_selects (args := #[]) (mvT hZ14 (hw _ (List.mem_of_getElem? (i := 64) rfl)))) (mvT hZ14 (hw _ (List.mem_of_getElem? (i := 64) rfl))) (mvT hZ14 (hw _ (List.mem_of_getElem? (i := 63) rfl))) (by decide) (backOfSH (s := s) (W := 0) (own_get l Z a0 hw [] b3 own_S9 T14.heap n0 O0_x14 Bd4_x14) hZ14 (hw _ (List.mem_of_getElem? (i := 65) rfl)) (hw _ (List.mem_of_getElem? (i := 39) rfl)) (by decide) (by decide) (own_hEL hw) CR0_x14.1) q15a q15c (g := (mkF m 151 #[.val (.int p0), .val (.int p1), .val (.int p2), .val (.int p3), .val (.int p4), .val (.int (p0 &&& (3 : Int32))), .val (.int (((p0.toUInt32 >>> ((2 : Int32) &&& 31).toUInt32).toInt32) &&& (3 : Int32))), .val va1, .val va2, .val (.ref b3), .val (.ref sg5), .val (.int (1 : Int32)), .val (.ref sg10), .val (.ref sg11), .val (.ref sg14), .unset] [(.ref b3)])) rfl (by rw [hml]; rfl) (Steps.refl _) (argsL := []) (rest := []) (lenOf own_pd11 rfl) rfl (by show 2 * 0 + _ ≤ _; exact Nat.le_of_eq rfl) (hb hby at_151) (fun _ _ => ⟨rfl, rfl, (by decide : 19 + 2 ≤ _), (by decide : 304 + 40 ≤ _)⟩)
      dsimp only [Pt.U, Pt.locs, Pt.cells, Pt.slots] at X15 l15 y15 z15 st15 hQ15 hSq15 hg15 CB15
      subst l15 y15 z15
      obtain ⟨sg15, rfl, N15q, K15, Sg15⟩ := hQ15
      have N15 := Fr.app N14 N15q
      have hS15 := foldS (s := s) hS14 (Nat.le_refl T14.heap.size) hSq15 hg15
      have hZ15 : Z.Warmed39 T15.vm := State.Warmed39.trans (t := s.setVm T14.vm) hZ14 hSq15.1
      have hown15 : T15.vm.findClass "com/example/cicada/cicada/BeanDefinitionGetScopePinLaw" = some m.cls := by rw [hSq15.1.alike.findClass]; exact hown14
      refine own_st (fun _ kt => st15.trans kt) ?_
      have Yq15_b3 := CB15.safe Bd4_x14.lt Yq14_b3
      have O0_x15 := O0_x14.keep K15 all0
      have CR0_x15 := CR0_x14.trans CB15
      have Wv1_x15 := Wv1_x14.keep0 K15
      have Wv2_x15 := Wv2_x14.keep0 K15
      have Bd4_x15 := Bd4_x14.keep0 K15
      have Sg5_x15 := Sg5_x14.keep0 K15
      have Es6_x15 := Es6_x14.keep K15
      have Fc6_x15 := Fc6_x14.keep K15 nin0
      have Fv6_x15 := Fv6_x14.keep K15 nin0
      have Va6_x15 := Va6_x14.keep K15 nin0
      have Sg10_x15 := Sg10_x14.keep0 K15
      have Sg11_x15 := Sg11_x14.keep0 K15
      have Ersg10_x15 := Ersg10_x14.keep K15
      have Sg14_x15 := Sg14.keep0 K15
      show own_Rch p e below _ T15 (mkF m 154 #[.val (.int p0), .val (.int p1), .val (.int p2), .val (.int p3), .val (.int p4), .val (.int (p0 &&& (3 : Int32))), .val (.int (((p0.toUInt32 >>> ((2 : Int32) &&& 31).toUInt32).toInt32) &&& (3 : Int32))), .val va1, .val va2, .val (.ref b3), .val (.ref sg5), .val (.int (1 : Int32)), .val (.ref sg10), .val (.ref sg11), .val (.ref sg14), .unset] [(.ref sg15)])
      refine own_st (fun _ kt => XS.astore X15.here hx rfl (hb hby at_154) rfl rfl (l' := #[.val (.int p0), .val (.int p1), .val (.int p2), .val (.int p3), .val (.int p4), .val (.int (p0 &&& (3 : Int32))), .val (.int (((p0.toUInt32 >>> ((2 : Int32) &&& 31).toUInt32).toInt32) &&& (3 : Int32))), .val va1, .val va2, .val (.ref b3), .val (.ref sg5), .val (.int (1 : Int32)), .val (.ref sg10), .val (.ref sg11), .val (.ref sg14), .val (.ref sg15)]) rfl kt) ?_
      show own_Rch p e below _ T15 (mkF m 156 #[.val (.int p0), .val (.int p1), .val (.int p2), .val (.int p3), .val (.int p4), .val (.int (p0 &&& (3 : Int32))), .val (.int (((p0.toUInt32 >>> ((2 : Int32) &&& 31).toUInt32).toInt32) &&& (3 : Int32))), .val va1, .val va2, .val (.ref b3), .val (.ref sg5), .val (.int (1 : Int32)), .val (.ref sg10), .val (.ref sg11), .val (.ref sg14), .val (.ref sg15)] [])
      refine own_st (fun _ kt => XS.iload X15.here hx rfl (hb hby at_156) rfl  kt) ?_
      show own_Rch p e below _ T15 (mkF m 158 #[.val (.int p0), .val (.int p1), .val (.int p2), .val (.int p3), .val (.int p4), .val (.int (p0 &&& (3 : Int32))), .val (.int (((p0.toUInt32 >>> ((2 : Int32) &&& 31).toUInt32).toInt32) &&& (3 : Int32))), .val va1, .val va2, .val (.ref b3), .val (.ref sg5), .val (.int (1 : Int32)), .val (.ref sg10), .val (.ref sg11), .val (.ref sg14), .val (.ref sg15)] [(.int (1 : Int32))])
      refine own_st (fun _ kt => XS.ifNo X15.here hx rfl (hb hby at_158) rfl ((if0 _ _).trans (feq ((by decide) : ¬ ((1 : Int32) = (0 : Int32)))).1) kt) ?_
      show own_Rch p e below _ T15 (mkF m 161 #[.val (.int p0), .val (.int p1), .val (.int p2), .val (.int p3), .val (.int p4), .val (.int (p0 &&& (3 : Int32))), .val (.int (((p0.toUInt32 >>> ((2 : Int32) &&& 31).toUInt32).toInt32) &&& (3 : Int32))), .val va1, .val va2, .val (.ref b3), .val (.ref sg5), .val (.int (1 : Int32)), .val (.ref sg10), .val (.ref sg11), .val (.ref sg14), .val (.ref sg15)] [])
      refine own_st (fun _ kt => XS.aload X15.here hx rfl (hb hby at_161) rfl rfl  kt) ?_
      show own_Rch p e below _ T15 (mkF m 163 #[.val (.int p0), .val (.int p1), .val (.int p2), .val (.int p3), .val (.int p4), .val (.int (p0 &&& (3 : Int32))), .val (.int (((p0.toUInt32 >>> ((2 : Int32) &&& 31).toUInt32).toInt32) &&& (3 : Int32))), .val va1, .val va2, .val (.ref b3), .val (.ref sg5), .val (.int (1 : Int32)), .val (.ref sg10), .val (.ref sg11), .val (.ref sg14), .val (.ref sg15)] [(.ref sg15)])
      refine own_st (fun _ kt => XS.ifnullNo X15.here hx rfl (hb hby at_163) rfl kt) ?_
      show own_Rch p e below _ T15 (mkF m 166 #[.val (.int p0), .val (.int p1), .val (.int p2), .val (.int p3), .val (.int p4), .val (.int (p0 &&& (3 : Int32))), .val (.int (((p0.toUInt32 >>> ((2 : Int32) &&& 31).toUInt32).toInt32) &&& (3 : Int32))), .val va1, .val va2, .val (.ref b3), .val (.ref sg5), .val (.int (1 : Int32)), .val (.ref sg10), .val (.ref sg11), .val (.ref sg14), .val (.ref sg15)] [])
      refine own_st (fun _ kt => XS.aload X15.here hx rfl (hb hby at_166) rfl rfl  kt) ?_
      show own_Rch p e below _ T15 (mkF m 168 #[.val (.int p0), .val (.int p1), .val (.int p2), .val (.int p3), .val (.int p4), .val (.int (p0 &&& (3 : Int32))), .val (.int (((p0.toUInt32 >>> ((2 : Int32) &&& 31).toUInt32).toInt32) &&& (3 : Int32))), .val va1, .val va2, .val (.ref b3), .val (.ref sg5), .val (.int (1 : Int32)), .val (.ref sg10), .val (.ref sg11), .val (.ref sg14), .val (.ref sg15)] [(.ref sg14)])
      refine own_st (fun _ kt => XS.aload X15.here hx rfl (hb hby at_168) rfl rfl  kt) ?_
      show own_Rch p e below _ T15 (mkF m 170 #[.val (.int p0), .val (.int p1), .val (.int p2), .val (.int p3), .val (.int p4), .val (.int (p0 &&& (3 : Int32))), .val (.int (((p0.toUInt32 >>> ((2 : Int32) &&& 31).toUInt32).toInt32) &&& (3 : Int32))), .val va1, .val va2, .val (.ref b3), .val (.ref sg5), .val (.int (1 : Int32)), .val (.ref sg10), .val (.ref sg11), .val (.ref sg14), .val (.ref sg15)] [(.ref sg15), (.ref sg14)])
      have Ersg14 : Exa Z T15.heap sg14 "java/lang/String" := by obtain ⟨_, _, q, -⟩ := Sg14_x15; exact q
      obtain ⟨cq16, kq16, q16a, q16b, q16c⟩ := isOf hZ15 rfl Ersg14
      obtain ⟨_, _, ⟨T16, L16, k16, n16⟩, -, X16, ⟨Lc16, hQ16, l16, y16, z16⟩, st16⟩ := X15.virtualBack hx (y := (⟨"java/lang/String", "equals", "(Ljava/lang/Object;)Z"⟩ : MethodName)) (z := (⟨"java/lang/String", "equals", "(Ljava/lang/Object;)Z"⟩ : MethodName)) hown15 (mvT hZ15 (hw _ (List.mem_of_getElem? (i := 72) rfl))) (mvT hZ15 (hw _ (List.mem_of_getElem? (i := 73) rfl))) (notFace_of_selects (args := #[]) (mvT hZ15 (hw _ (List.mem_of_getElem? (i := 75) rfl)))) (mvT hZ15 (hw _ (List.mem_of_getElem? (i := 75) rfl))) (mvT hZ15 (hw _ (List.mem_of_getElem? (i := 74) rfl))) (by decide) (backOf (W := 0) (own_eqT l Z a0 hw [] sg14 sg15 own_S9 cs T15.heap n0 O0_x15 SC hcs Sg14_x15 Sg15 (Or.inr (Or.inr rfl))) hZ15 (hw _ (List.mem_of_getElem? (i := 76) rfl)) (hw _ (List.mem_of_getElem? (i := 9) rfl)) (by decide) (by decide)) q16a q16c (g := (mkF m 170 #[.val (.int p0), .val (.int p1), .val (.int p2), .val (.int p3), .val (.int p4), .val (.int (p0 &&& (3 : Int32))), .val (.int (((p0.toUInt32 >>> ((2 : Int32) &&& 31).toUInt32).toInt32) &&& (3 : Int32))), .val va1, .val va2, .val (.ref b3), .val (.ref sg5), .val (.int (1 : Int32)), .val (.ref sg10), .val (.ref sg11), .val (.ref sg14), .val (.ref sg15)] [(.ref sg15), (.ref sg14)])) rfl (by rw [hml]; rfl) (Steps.refl _) (argsL := [(.ref sg15)]) (rest := []) (lenOf own_pd8 rfl) rfl (by show 2 * 0 + _ ≤ _; exact Nat.le_of_eq rfl) (hb hby at_170) (fun _ _ => ⟨rfl, rfl, (by decide : 21 + 0 ≤ _), (by decide : 344 + 0 ≤ _)⟩)
      dsimp only [Pt.U, Pt.locs, Pt.cells, Pt.slots] at X16 l16 y16 z16 st16 hQ16
      subst l16 y16 z16
      obtain ⟨rfl, N16q, hh16⟩ := hQ16
      have N16 := Fr.app N15 N16q
      refine own_st (fun _ kt => st16.trans kt) ?_
      show own_Rch p e below _ T16 (mkF m 173 #[.val (.int p0), .val (.int p1), .val (.int p2), .val (.int p3), .val (.int p4), .val (.int (p0 &&& (3 : Int32))), .val (.int (((p0.toUInt32 >>> ((2 : Int32) &&& 31).toUInt32).toInt32) &&& (3 : Int32))), .val va1, .val va2, .val (.ref b3), .val (.ref sg5), .val (.int (1 : Int32)), .val (.ref sg10), .val (.ref sg11), .val (.ref sg14), .val (.ref sg15)] [(.int (1 : Int32))])
      refine own_st (fun _ kt => XS.ifNo X16.here hx rfl (hb hby at_173) rfl ((if0 _ _).trans (feq ((by decide) : ¬ ((1 : Int32) = (0 : Int32)))).1) kt) ?_
      show own_Rch p e below _ T16 (mkF m 176 #[.val (.int p0), .val (.int p1), .val (.int p2), .val (.int p3), .val (.int p4), .val (.int (p0 &&& (3 : Int32))), .val (.int (((p0.toUInt32 >>> ((2 : Int32) &&& 31).toUInt32).toInt32) &&& (3 : Int32))), .val va1, .val va2, .val (.ref b3), .val (.ref sg5), .val (.int (1 : Int32)), .val (.ref sg10), .val (.ref sg11), .val (.ref sg14), .val (.ref sg15)] [])
      refine own_st (fun _ kt => XS.iconst X16.here hx rfl (hb hby at_176) kt) ?_
      show own_Rch p e below _ T16 (mkF m 177 #[.val (.int p0), .val (.int p1), .val (.int p2), .val (.int p3), .val (.int p4), .val (.int (p0 &&& (3 : Int32))), .val (.int (((p0.toUInt32 >>> ((2 : Int32) &&& 31).toUInt32).toInt32) &&& (3 : Int32))), .val va1, .val va2, .val (.ref b3), .val (.ref sg5), .val (.int (1 : Int32)), .val (.ref sg10), .val (.ref sg11), .val (.ref sg14), .val (.ref sg15)] [(.int (1 : Int32))])
      refine own_st (fun _ kt => XS.goto X16.here hx rfl (pc0 := 177) (pc' := 181) rfl (hb hby at_177) (by decide) (by decide) kt) ?_
      show own_Rch p e below _ T16 (mkF m 181 #[.val (.int p0), .val (.int p1), .val (.int p2), .val (.int p3), .val (.int p4), .val (.int (p0 &&& (3 : Int32))), .val (.int (((p0.toUInt32 >>> ((2 : Int32) &&& 31).toUInt32).toInt32) &&& (3 : Int32))), .val va1, .val va2, .val (.ref b3), .val (.ref sg5), .val (.int (1 : Int32)), .val (.ref sg10), .val (.ref sg11), .val (.ref sg14), .val (.ref sg15)] [(.int (1 : Int32))])
      refine own_retNH (t := .boolean) (by simp) (by rw [hh0, hh16]; exact CR0_x15.trans (CHv.at (s := s) X16 hZ15 (own_hEL hw) CR0_x15.1)) (s := s) hS15 (by rw [hh16]; exact (Nat.le_refl T15.heap.size)) X16 hx Bd.notSynchronized Bd.returns (hb hby at_181) (by decide) (by decide) ?_
      rw [hh16]
      exact ⟨rfl, N16⟩
    · -- pc 128: False
      refine own_st (fun _ kt => XS.ifNo X12.here hx rfl (hb hby at_128) rfl ((if0 _ _).trans (feq hc128_13).1) kt) ?_
      show own_Rch p e below _ T12 (mkF m 131 #[.val (.int p0), .val (.int p1), .val (.int p2), .val (.int p3), .val (.int p4), .val (.int (p0 &&& (3 : Int32))), .val (.int (((p0.toUInt32 >>> ((2 : Int32) &&& 31).toUInt32).toInt32) &&& (3 : Int32))), .val va1, .val va2, .val (.ref b3), .val (.ref sg5), .val (.int (1 : Int32)), .val (.ref sg10), .val (.ref sg11), .unset, .unset] [])
      refine own_st (fun _ kt => XS.aload X12.here hx rfl (hb hby at_131) rfl rfl  kt) ?_
      show own_Rch p e below _ T12 (mkF m 133 #[.val (.int p0), .val (.int p1), .val (.int p2), .val (.int p3), .val (.int p4), .val (.int (p0 &&& (3 : Int32))), .val (.int (((p0.toUInt32 >>> ((2 : Int32) &&& 31).toUInt32).toInt32) &&& (3 : Int32))), .val va1, .val va2, .val (.ref b3), .val (.ref sg5), .val (.int (1 : Int32)), .val (.ref sg10), .val (.ref sg11), .unset, .unset] [(.ref b3)])
      refine own_st (fun _ kt => XS.aload X12.here hx rfl (hb hby at_133) rfl (Wv2.ref)  kt) ?_
      show own_Rch p e below _ T12 (mkF m 135 #[.val (.int p0), .val (.int p1), .val (.int p2), .val (.int p3), .val (.int p4), .val (.int (p0 &&& (3 : Int32))), .val (.int (((p0.toUInt32 >>> ((2 : Int32) &&& 31).toUInt32).toInt32) &&& (3 : Int32))), .val va1, .val va2, .val (.ref b3), .val (.ref sg5), .val (.int (1 : Int32)), .val (.ref sg10), .val (.ref sg11), .unset, .unset] [va2, (.ref b3)])
      obtain ⟨cq17, kq17, q17a, q17b, q17c⟩ := isOf hZ11 hh12 (Bd4_x11).1
      obtain ⟨_, _, ⟨T17, L17, k17, n17⟩, -, X17, hSq17, hg17, ⟨Lc17, hQ17, l17, y17, z17, CB17⟩, st17⟩ := X12.virtualBackS hx (y := (⟨"com/example/cicada/cicada/BeanDefinition", "setScope", "(Ljava/lang/String;)V"⟩ : MethodName)) (z := (⟨"com/example/cicada/cicada/BeanDefinition", "setScope", "(Ljava/lang/String;)V"⟩ : MethodName)) hown11 (mvT hZ11 (hw _ (List.mem_of_getElem? (i := 81) rfl))) (mvT hZ11 (hw _ (List.mem_of_getElem? (i := 82) rfl))) (notFace_of_selects (args := #[]) (mvT hZ11 (hw _ (List.mem_of_getElem? (i := 84) rfl)))) (mvT hZ11 (hw _ (List.mem_of_getElem? (i := 84) rfl))) (mvT hZ11 (hw _ (List.mem_of_getElem? (i := 83) rfl))) (by decide) (backOfSH (s := s) (W := 0) (own_set l Z a0 hw [] b3 va2 own_S9 lv2 cs T11.heap n0 O0_x11 SC hcs Bd4_x11 ge3 Wv2_x11) hZ11 (hw _ (List.mem_of_getElem? (i := 85) rfl)) (hw _ (List.mem_of_getElem? (i := 39) rfl)) (by decide) (by decide) (own_hEL hw) CR0_x11.1) q17a q17c (g := (mkF m 135 #[.val (.int p0), .val (.int p1), .val (.int p2), .val (.int p3), .val (.int p4), .val (.int (p0 &&& (3 : Int32))), .val (.int (((p0.toUInt32 >>> ((2 : Int32) &&& 31).toUInt32).toInt32) &&& (3 : Int32))), .val va1, .val va2, .val (.ref b3), .val (.ref sg5), .val (.int (1 : Int32)), .val (.ref sg10), .val (.ref sg11), .unset, .unset] [va2, (.ref b3)])) rfl (by rw [hml]; rfl) (Steps.refl _) (argsL := [va2]) (rest := []) (lenOf own_pd13 rfl) rfl (by show 2 * 0 + _ ≤ _; exact Nat.le_of_eq rfl) (hb hby at_135) (fun _ _ => ⟨rfl, hh12, (by decide : 17 + 4 ≤ _), (by decide : 264 + 80 ≤ _)⟩)
      dsimp only [Pt.U, Pt.locs, Pt.cells, Pt.slots] at X17 l17 y17 z17 st17 hQ17 hSq17 hg17 CB17
      subst l17 y17 z17
      obtain ⟨rfl, N17q, K17, Bd17⟩ := hQ17
      have N17 := Fr.app N12 N17q
      have hS17 := foldS (s := s) hS11 (by rw [hh12]; exact (Nat.le_refl T11.heap.size)) hSq17 hg17
      have hZ17 : Z.Warmed39 T17.vm := State.Warmed39.trans (t := s.setVm T11.vm) hZ11 hSq17.1
      have hown17 : T17.vm.findClass "com/example/cicada/cicada/BeanDefinitionGetScopePinLaw" = some m.cls := by rw [hSq17.1.alike.findClass]; exact hown11
      refine own_st (fun _ kt => st17.trans kt) ?_
      have Yq17_b3 := CB17.safe Bd4_x11.lt Yq11_b3
      have O0_x17 := O0_x11.keep K17 (allS ge3 all0)
      have CR0_x17 := CR0_x11.trans CB17
      have Wv1_x17 := Wv1_x11.keep1 K17 Bd4_x11.1 (by decide) (hw _ (List.mem_of_getElem? (i := 38) rfl))
      have Wv2_x17 := Wv2_x11.keep1 K17 Bd4_x11.1 (by decide) (hw _ (List.mem_of_getElem? (i := 38) rfl))
      have Sg5_x17 := Sg5_x11.keep1 K17 Bd4_x11.1 (by decide) (hw _ (List.mem_of_getElem? (i := 38) rfl))
      have Es6_x17 := Es6_x11.keep K17
      have Fc6_x17 := Fc6_x11.keep K17 (ninS (Ne.symm nq6_b3.1) nin0)
      have Fv6_x17 := Fv6_x11.keep K17 (ninS (Ne.symm nq6_b3.1) nin0)
      have Va6_x17 := Va6_x11.keep K17 (ninS (Ne.symm nq6_b3.2) nin0)
      have Sg10_x17 := Sg10_x11.keep1 K17 Bd4_x11.1 (by decide) (hw _ (List.mem_of_getElem? (i := 38) rfl))
      have Sg11_x17 := Sg11.keep1 K17 Bd4_x11.1 (by decide) (hw _ (List.mem_of_getElem? (i := 38) rfl))
      have Ersg10_x17 := Ersg10.keep K17
      show own_Rch p e below _ T17 (mkF m 138 #[.val (.int p0), .val (.int p1), .val (.int p2), .val (.int p3), .val (.int p4), .val (.int (p0 &&& (3 : Int32))), .val (.int (((p0.toUInt32 >>> ((2 : Int32) &&& 31).toUInt32).toInt32) &&& (3 : Int32))), .val va1, .val va2, .val (.ref b3), .val (.ref sg5), .val (.int (1 : Int32)), .val (.ref sg10), .val (.ref sg11), .unset, .unset] [])
      refine own_st (fun _ kt => XS.aload X17.here hx rfl (hb hby at_138) rfl rfl  kt) ?_
      show own_Rch p e below _ T17 (mkF m 140 #[.val (.int p0), .val (.int p1), .val (.int p2), .val (.int p3), .val (.int p4), .val (.int (p0 &&& (3 : Int32))), .val (.int (((p0.toUInt32 >>> ((2 : Int32) &&& 31).toUInt32).toInt32) &&& (3 : Int32))), .val va1, .val va2, .val (.ref b3), .val (.ref sg5), .val (.int (1 : Int32)), .val (.ref sg10), .val (.ref sg11), .unset, .unset] [(.ref sg10)])
      refine own_st (fun _ kt => XS.iload X17.here hx rfl (hb hby at_140) rfl  kt) ?_
      show own_Rch p e below _ T17 (mkF m 142 #[.val (.int p0), .val (.int p1), .val (.int p2), .val (.int p3), .val (.int p4), .val (.int (p0 &&& (3 : Int32))), .val (.int (((p0.toUInt32 >>> ((2 : Int32) &&& 31).toUInt32).toInt32) &&& (3 : Int32))), .val va1, .val va2, .val (.ref b3), .val (.ref sg5), .val (.int (1 : Int32)), .val (.ref sg10), .val (.ref sg11), .unset, .unset] [(.int (((p0.toUInt32 >>> ((2 : Int32) &&& 31).toUInt32).toInt32) &&& (3 : Int32))), (.ref sg10)])
      refine own_st (fun _ kt => XS.aload X17.here hx rfl (hb hby at_142) rfl (Wv2.ref)  kt) ?_
      show own_Rch p e below _ T17 (mkF m 144 #[.val (.int p0), .val (.int p1), .val (.int p2), .val (.int p3), .val (.int p4), .val (.int (p0 &&& (3 : Int32))), .val (.int (((p0.toUInt32 >>> ((2 : Int32) &&& 31).toUInt32).toInt32) &&& (3 : Int32))), .val va1, .val va2, .val (.ref b3), .val (.ref sg5), .val (.int (1 : Int32)), .val (.ref sg10), .val (.ref sg11), .unset, .unset] [va2, (.int (((p0.toUInt32 >>> ((2 : Int32) &&& 31).toUInt32).toInt32) &&& (3 : Int32))), (.ref sg10)])
      obtain ⟨_, _, ⟨T18, L18, k18, n18⟩, -, X18, hSq18, hg18, ⟨Lc18, hQ18, l18, y18, z18, CB18⟩, st18⟩ := callSS X17 hx (y := (⟨"com/example/cicada/cicada/BeanDefinitionGetScopePinLaw", "after", "(Ljava/lang/String;ILjava/lang/String;)Ljava/lang/String;"⟩ : MethodName)) hown17 (mvT hZ17 (hw _ (List.mem_of_getElem? (i := 77) rfl))) (mvT hZ17 (hw _ (List.mem_of_getElem? (i := 78) rfl))) (mvT hZ17 (hw _ (List.mem_of_getElem? (i := 2) rfl))) (mvT hZ17 (hw _ (List.mem_of_getElem? (i := 79) rfl))) (by decide) (backOfSH (s := s) (W := 0) (own_after l Z a0 hw [] sg10 (((p0.toUInt32 >>> ((2 : Int32) &&& 31).toUInt32).toInt32) &&& (3 : Int32)) va2 own_S9 lv2 lv2 T17.heap n0 O0_x17 Sg10_x17 Wv2_x17 (Or.inr ⟨hc128_13, rfl⟩)) hZ17 (hw _ (List.mem_of_getElem? (i := 79) rfl)) (hw _ (List.mem_of_getElem? (i := 2) rfl)) (by decide) (by decide) (own_hEL hw) CR0_x17.1) (g := (mkF m 144 #[.val (.int p0), .val (.int p1), .val (.int p2), .val (.int p3), .val (.int p4), .val (.int (p0 &&& (3 : Int32))), .val (.int (((p0.toUInt32 >>> ((2 : Int32) &&& 31).toUInt32).toInt32) &&& (3 : Int32))), .val va1, .val va2, .val (.ref b3), .val (.ref sg5), .val (.int (1 : Int32)), .val (.ref sg10), .val (.ref sg11), .unset, .unset] [va2, (.int (((p0.toUInt32 >>> ((2 : Int32) &&& 31).toUInt32).toInt32) &&& (3 : Int32))), (.ref sg10)])) rfl (by rw [hml]; rfl) (argsL := [(.ref sg10), (.int (((p0.toUInt32 >>> ((2 : Int32) &&& 31).toUInt32).toInt32) &&& (3 : Int32))), va2]) (rest := []) (lenOf own_pd12 rfl) rfl (by show 2 * 0 + _ ≤ _; exact Nat.le_of_eq rfl) (hb hby at_144) (fun _ _ => ⟨rfl, rfl, (by decide : 21 + 2 ≤ _), (by decide : 344 + 40 ≤ _)⟩)
      dsimp only [Pt.U, Pt.locs, Pt.cells, Pt.slots] at X18 l18 y18 z18 st18 hQ18 hSq18 hg18 CB18
      subst l18 y18 z18
      obtain ⟨sg18, rfl, N18q, K18, Sg18⟩ := hQ18
      have N18 := Fr.app N17 N18q
      have hS18 := foldS (s := s) hS17 (Nat.le_refl T17.heap.size) hSq18 hg18
      have hZ18 : Z.Warmed39 T18.vm := State.Warmed39.trans (t := s.setVm T17.vm) hZ17 hSq18.1
      have hown18 : T18.vm.findClass "com/example/cicada/cicada/BeanDefinitionGetScopePinLaw" = some m.cls := by rw [hSq18.1.alike.findClass]; exact hown17
      refine own_st (fun _ kt => st18.trans kt) ?_
      have Yq18_b3 := CB18.safe Bd17.lt Yq17_b3
      have O0_x18 := O0_x17.keep K18 all0
      have CR0_x18 := CR0_x17.trans CB18
      have Wv1_x18 := Wv1_x17.keep0 K18
      have Wv2_x18 := Wv2_x17.keep0 K18
      have Sg5_x18 := Sg5_x17.keep0 K18
      have Es6_x18 := Es6_x17.keep K18
      have Fc6_x18 := Fc6_x17.keep K18 nin0
      have Fv6_x18 := Fv6_x17.keep K18 nin0
      have Va6_x18 := Va6_x17.keep K18 nin0
      have Sg10_x18 := Sg10_x17.keep0 K18
      have Sg11_x18 := Sg11_x17.keep0 K18
      have Ersg10_x18 := Ersg10_x17.keep K18
      have Bd17_x18 := Bd17.keep0 K18
      show own_Rch p e below _ T18 (mkF m 147 #[.val (.int p0), .val (.int p1), .val (.int p2), .val (.int p3), .val (.int p4), .val (.int (p0 &&& (3 : Int32))), .val (.int (((p0.toUInt32 >>> ((2 : Int32) &&& 31).toUInt32).toInt32) &&& (3 : Int32))), .val va1, .val va2, .val (.ref b3), .val (.ref sg5), .val (.int (1 : Int32)), .val (.ref sg10), .val (.ref sg11), .unset, .unset] [(.ref sg18)])
      refine own_st (fun _ kt => XS.astore X18.here hx rfl (hb hby at_147) rfl rfl (l' := #[.val (.int p0), .val (.int p1), .val (.int p2), .val (.int p3), .val (.int p4), .val (.int (p0 &&& (3 : Int32))), .val (.int (((p0.toUInt32 >>> ((2 : Int32) &&& 31).toUInt32).toInt32) &&& (3 : Int32))), .val va1, .val va2, .val (.ref b3), .val (.ref sg5), .val (.int (1 : Int32)), .val (.ref sg10), .val (.ref sg11), .val (.ref sg18), .unset]) rfl kt) ?_
      show own_Rch p e below _ T18 (mkF m 149 #[.val (.int p0), .val (.int p1), .val (.int p2), .val (.int p3), .val (.int p4), .val (.int (p0 &&& (3 : Int32))), .val (.int (((p0.toUInt32 >>> ((2 : Int32) &&& 31).toUInt32).toInt32) &&& (3 : Int32))), .val va1, .val va2, .val (.ref b3), .val (.ref sg5), .val (.int (1 : Int32)), .val (.ref sg10), .val (.ref sg11), .val (.ref sg18), .unset] [])
      refine own_st (fun _ kt => XS.aload X18.here hx rfl (hb hby at_149) rfl rfl  kt) ?_
      show own_Rch p e below _ T18 (mkF m 151 #[.val (.int p0), .val (.int p1), .val (.int p2), .val (.int p3), .val (.int p4), .val (.int (p0 &&& (3 : Int32))), .val (.int (((p0.toUInt32 >>> ((2 : Int32) &&& 31).toUInt32).toInt32) &&& (3 : Int32))), .val va1, .val va2, .val (.ref b3), .val (.ref sg5), .val (.int (1 : Int32)), .val (.ref sg10), .val (.ref sg11), .val (.ref sg18), .unset] [(.ref b3)])
      obtain ⟨cq19, kq19, q19a, q19b, q19c⟩ := isOf hZ18 rfl (Bd17_x18).1
      obtain ⟨_, _, ⟨T19, L19, k19, n19⟩, -, X19, hSq19, hg19, ⟨Lc19, hQ19, l19, y19, z19, CB19⟩, st19⟩ := X18.virtualBackS hx (y := (⟨"com/example/cicada/cicada/BeanDefinition", "getScope", "()Ljava/lang/String;"⟩ : MethodName)) (z := (⟨"com/example/cicada/cicada/BeanDefinition", "getScope", "()Ljava/lang/String;"⟩ : MethodName)) hown18 (mvT hZ18 (hw _ (List.mem_of_getElem? (i := 61) rfl))) (mvT hZ18 (hw _ (List.mem_of_getElem? (i := 62) rfl))) (notFace_of_selects (args := #[]) (mvT hZ18 (hw _ (List.mem_of_getElem? (i := 64) rfl)))) (mvT hZ18 (hw _ (List.mem_of_getElem? (i := 64) rfl))) (mvT hZ18 (hw _ (List.mem_of_getElem? (i := 63) rfl))) (by decide) (backOfSH (s := s) (W := 0) (own_get l Z a0 hw [] b3 lv2 T18.heap n0 O0_x18 Bd17_x18) hZ18 (hw _ (List.mem_of_getElem? (i := 65) rfl)) (hw _ (List.mem_of_getElem? (i := 39) rfl)) (by decide) (by decide) (own_hEL hw) CR0_x18.1) q19a q19c (g := (mkF m 151 #[.val (.int p0), .val (.int p1), .val (.int p2), .val (.int p3), .val (.int p4), .val (.int (p0 &&& (3 : Int32))), .val (.int (((p0.toUInt32 >>> ((2 : Int32) &&& 31).toUInt32).toInt32) &&& (3 : Int32))), .val va1, .val va2, .val (.ref b3), .val (.ref sg5), .val (.int (1 : Int32)), .val (.ref sg10), .val (.ref sg11), .val (.ref sg18), .unset] [(.ref b3)])) rfl (by rw [hml]; rfl) (Steps.refl _) (argsL := []) (rest := []) (lenOf own_pd11 rfl) rfl (by show 2 * 0 + _ ≤ _; exact Nat.le_of_eq rfl) (hb hby at_151) (fun _ _ => ⟨rfl, rfl, (by decide : 23 + 2 ≤ _), (by decide : 384 + 40 ≤ _)⟩)
      dsimp only [Pt.U, Pt.locs, Pt.cells, Pt.slots] at X19 l19 y19 z19 st19 hQ19 hSq19 hg19 CB19
      subst l19 y19 z19
      obtain ⟨sg19, rfl, N19q, K19, Sg19⟩ := hQ19
      have N19 := Fr.app N18 N19q
      have hS19 := foldS (s := s) hS18 (Nat.le_refl T18.heap.size) hSq19 hg19
      have hZ19 : Z.Warmed39 T19.vm := State.Warmed39.trans (t := s.setVm T18.vm) hZ18 hSq19.1
      have hown19 : T19.vm.findClass "com/example/cicada/cicada/BeanDefinitionGetScopePinLaw" = some m.cls := by rw [hSq19.1.alike.findClass]; exact hown18
      refine own_st (fun _ kt => st19.trans kt) ?_
      have Yq19_b3 := CB19.safe Bd17_x18.lt Yq18_b3
      have O0_x19 := O0_x18.keep K19 all0
      have CR0_x19 := CR0_x18.trans CB19
      have Wv1_x19 := Wv1_x18.keep0 K19
      have Wv2_x19 := Wv2_x18.keep0 K19
      have Sg5_x19 := Sg5_x18.keep0 K19
      have Es6_x19 := Es6_x18.keep K19
      have Fc6_x19 := Fc6_x18.keep K19 nin0
      have Fv6_x19 := Fv6_x18.keep K19 nin0
      have Va6_x19 := Va6_x18.keep K19 nin0
      have Sg10_x19 := Sg10_x18.keep0 K19
      have Sg11_x19 := Sg11_x18.keep0 K19
      have Ersg10_x19 := Ersg10_x18.keep K19
      have Bd17_x19 := Bd17_x18.keep0 K19
      have Sg18_x19 := Sg18.keep0 K19
      show own_Rch p e below _ T19 (mkF m 154 #[.val (.int p0), .val (.int p1), .val (.int p2), .val (.int p3), .val (.int p4), .val (.int (p0 &&& (3 : Int32))), .val (.int (((p0.toUInt32 >>> ((2 : Int32) &&& 31).toUInt32).toInt32) &&& (3 : Int32))), .val va1, .val va2, .val (.ref b3), .val (.ref sg5), .val (.int (1 : Int32)), .val (.ref sg10), .val (.ref sg11), .val (.ref sg18), .unset] [(.ref sg19)])
      refine own_st (fun _ kt => XS.astore X19.here hx rfl (hb hby at_154) rfl rfl (l' := #[.val (.int p0), .val (.int p1), .val (.int p2), .val (.int p3), .val (.int p4), .val (.int (p0 &&& (3 : Int32))), .val (.int (((p0.toUInt32 >>> ((2 : Int32) &&& 31).toUInt32).toInt32) &&& (3 : Int32))), .val va1, .val va2, .val (.ref b3), .val (.ref sg5), .val (.int (1 : Int32)), .val (.ref sg10), .val (.ref sg11), .val (.ref sg18), .val (.ref sg19)]) rfl kt) ?_
      show own_Rch p e below _ T19 (mkF m 156 #[.val (.int p0), .val (.int p1), .val (.int p2), .val (.int p3), .val (.int p4), .val (.int (p0 &&& (3 : Int32))), .val (.int (((p0.toUInt32 >>> ((2 : Int32) &&& 31).toUInt32).toInt32) &&& (3 : Int32))), .val va1, .val va2, .val (.ref b3), .val (.ref sg5), .val (.int (1 : Int32)), .val (.ref sg10), .val (.ref sg11), .val (.ref sg18), .val (.ref sg19)] [])
      refine own_st (fun _ kt => XS.iload X19.here hx rfl (hb hby at_156) rfl  kt) ?_
      show own_Rch p e below _ T19 (mkF m 158 #[.val (.int p0), .val (.int p1), .val (.int p2), .val (.int p3), .val (.int p4), .val (.int (p0 &&& (3 : Int32))), .val (.int (((p0.toUInt32 >>> ((2 : Int32) &&& 31).toUInt32).toInt32) &&& (3 : Int32))), .val va1, .val va2, .val (.ref b3), .val (.ref sg5), .val (.int (1 : Int32)), .val (.ref sg10), .val (.ref sg11), .val (.ref sg18), .val (.ref sg19)] [(.int (1 : Int32))])
      refine own_st (fun _ kt => XS.ifNo X19.here hx rfl (hb hby at_158) rfl ((if0 _ _).trans (feq ((by decide) : ¬ ((1 : Int32) = (0 : Int32)))).1) kt) ?_
      show own_Rch p e below _ T19 (mkF m 161 #[.val (.int p0), .val (.int p1), .val (.int p2), .val (.int p3), .val (.int p4), .val (.int (p0 &&& (3 : Int32))), .val (.int (((p0.toUInt32 >>> ((2 : Int32) &&& 31).toUInt32).toInt32) &&& (3 : Int32))), .val va1, .val va2, .val (.ref b3), .val (.ref sg5), .val (.int (1 : Int32)), .val (.ref sg10), .val (.ref sg11), .val (.ref sg18), .val (.ref sg19)] [])
      refine own_st (fun _ kt => XS.aload X19.here hx rfl (hb hby at_161) rfl rfl  kt) ?_
      show own_Rch p e below _ T19 (mkF m 163 #[.val (.int p0), .val (.int p1), .val (.int p2), .val (.int p3), .val (.int p4), .val (.int (p0 &&& (3 : Int32))), .val (.int (((p0.toUInt32 >>> ((2 : Int32) &&& 31).toUInt32).toInt32) &&& (3 : Int32))), .val va1, .val va2, .val (.ref b3), .val (.ref sg5), .val (.int (1 : Int32)), .val (.ref sg10), .val (.ref sg11), .val (.ref sg18), .val (.ref sg19)] [(.ref sg19)])
      refine own_st (fun _ kt => XS.ifnullNo X19.here hx rfl (hb hby at_163) rfl kt) ?_
      show own_Rch p e below _ T19 (mkF m 166 #[.val (.int p0), .val (.int p1), .val (.int p2), .val (.int p3), .val (.int p4), .val (.int (p0 &&& (3 : Int32))), .val (.int (((p0.toUInt32 >>> ((2 : Int32) &&& 31).toUInt32).toInt32) &&& (3 : Int32))), .val va1, .val va2, .val (.ref b3), .val (.ref sg5), .val (.int (1 : Int32)), .val (.ref sg10), .val (.ref sg11), .val (.ref sg18), .val (.ref sg19)] [])
      refine own_st (fun _ kt => XS.aload X19.here hx rfl (hb hby at_166) rfl rfl  kt) ?_
      show own_Rch p e below _ T19 (mkF m 168 #[.val (.int p0), .val (.int p1), .val (.int p2), .val (.int p3), .val (.int p4), .val (.int (p0 &&& (3 : Int32))), .val (.int (((p0.toUInt32 >>> ((2 : Int32) &&& 31).toUInt32).toInt32) &&& (3 : Int32))), .val va1, .val va2, .val (.ref b3), .val (.ref sg5), .val (.int (1 : Int32)), .val (.ref sg10), .val (.ref sg11), .val (.ref sg18), .val (.ref sg19)] [(.ref sg18)])
      refine own_st (fun _ kt => XS.aload X19.here hx rfl (hb hby at_168) rfl rfl  kt) ?_
      show own_Rch p e below _ T19 (mkF m 170 #[.val (.int p0), .val (.int p1), .val (.int p2), .val (.int p3), .val (.int p4), .val (.int (p0 &&& (3 : Int32))), .val (.int (((p0.toUInt32 >>> ((2 : Int32) &&& 31).toUInt32).toInt32) &&& (3 : Int32))), .val va1, .val va2, .val (.ref b3), .val (.ref sg5), .val (.int (1 : Int32)), .val (.ref sg10), .val (.ref sg11), .val (.ref sg18), .val (.ref sg19)] [(.ref sg19), (.ref sg18)])
      have Ersg18 : Exa Z T19.heap sg18 "java/lang/String" := by obtain ⟨_, _, q, -⟩ := Sg18_x19; exact q
      obtain ⟨cq20, kq20, q20a, q20b, q20c⟩ := isOf hZ19 rfl Ersg18
      obtain ⟨_, _, ⟨T20, L20, k20, n20⟩, -, X20, ⟨Lc20, hQ20, l20, y20, z20⟩, st20⟩ := X19.virtualBack hx (y := (⟨"java/lang/String", "equals", "(Ljava/lang/Object;)Z"⟩ : MethodName)) (z := (⟨"java/lang/String", "equals", "(Ljava/lang/Object;)Z"⟩ : MethodName)) hown19 (mvT hZ19 (hw _ (List.mem_of_getElem? (i := 72) rfl))) (mvT hZ19 (hw _ (List.mem_of_getElem? (i := 73) rfl))) (notFace_of_selects (args := #[]) (mvT hZ19 (hw _ (List.mem_of_getElem? (i := 75) rfl)))) (mvT hZ19 (hw _ (List.mem_of_getElem? (i := 75) rfl))) (mvT hZ19 (hw _ (List.mem_of_getElem? (i := 74) rfl))) (by decide) (backOf (W := 0) (own_eqT l Z a0 hw [] sg18 sg19 lv2 cs T19.heap n0 O0_x19 SC hcs Sg18_x19 Sg19 Wv2_x19.ok) hZ19 (hw _ (List.mem_of_getElem? (i := 76) rfl)) (hw _ (List.mem_of_getElem? (i := 9) rfl)) (by decide) (by decide)) q20a q20c (g := (mkF m 170 #[.val (.int p0), .val (.int p1), .val (.int p2), .val (.int p3), .val (.int p4), .val (.int (p0 &&& (3 : Int32))), .val (.int (((p0.toUInt32 >>> ((2 : Int32) &&& 31).toUInt32).toInt32) &&& (3 : Int32))), .val va1, .val va2, .val (.ref b3), .val (.ref sg5), .val (.int (1 : Int32)), .val (.ref sg10), .val (.ref sg11), .val (.ref sg18), .val (.ref sg19)] [(.ref sg19), (.ref sg18)])) rfl (by rw [hml]; rfl) (Steps.refl _) (argsL := [(.ref sg19)]) (rest := []) (lenOf own_pd8 rfl) rfl (by show 2 * 0 + _ ≤ _; exact Nat.le_of_eq rfl) (hb hby at_170) (fun _ _ => ⟨rfl, rfl, (by decide : 25 + 0 ≤ _), (by decide : 424 + 0 ≤ _)⟩)
      dsimp only [Pt.U, Pt.locs, Pt.cells, Pt.slots] at X20 l20 y20 z20 st20 hQ20
      subst l20 y20 z20
      obtain ⟨rfl, N20q, hh20⟩ := hQ20
      have N20 := Fr.app N19 N20q
      refine own_st (fun _ kt => st20.trans kt) ?_
      show own_Rch p e below _ T20 (mkF m 173 #[.val (.int p0), .val (.int p1), .val (.int p2), .val (.int p3), .val (.int p4), .val (.int (p0 &&& (3 : Int32))), .val (.int (((p0.toUInt32 >>> ((2 : Int32) &&& 31).toUInt32).toInt32) &&& (3 : Int32))), .val va1, .val va2, .val (.ref b3), .val (.ref sg5), .val (.int (1 : Int32)), .val (.ref sg10), .val (.ref sg11), .val (.ref sg18), .val (.ref sg19)] [(.int (1 : Int32))])
      refine own_st (fun _ kt => XS.ifNo X20.here hx rfl (hb hby at_173) rfl ((if0 _ _).trans (feq ((by decide) : ¬ ((1 : Int32) = (0 : Int32)))).1) kt) ?_
      show own_Rch p e below _ T20 (mkF m 176 #[.val (.int p0), .val (.int p1), .val (.int p2), .val (.int p3), .val (.int p4), .val (.int (p0 &&& (3 : Int32))), .val (.int (((p0.toUInt32 >>> ((2 : Int32) &&& 31).toUInt32).toInt32) &&& (3 : Int32))), .val va1, .val va2, .val (.ref b3), .val (.ref sg5), .val (.int (1 : Int32)), .val (.ref sg10), .val (.ref sg11), .val (.ref sg18), .val (.ref sg19)] [])
      refine own_st (fun _ kt => XS.iconst X20.here hx rfl (hb hby at_176) kt) ?_
      show own_Rch p e below _ T20 (mkF m 177 #[.val (.int p0), .val (.int p1), .val (.int p2), .val (.int p3), .val (.int p4), .val (.int (p0 &&& (3 : Int32))), .val (.int (((p0.toUInt32 >>> ((2 : Int32) &&& 31).toUInt32).toInt32) &&& (3 : Int32))), .val va1, .val va2, .val (.ref b3), .val (.ref sg5), .val (.int (1 : Int32)), .val (.ref sg10), .val (.ref sg11), .val (.ref sg18), .val (.ref sg19)] [(.int (1 : Int32))])
      refine own_st (fun _ kt => XS.goto X20.here hx rfl (pc0 := 177) (pc' := 181) rfl (hb hby at_177) (by decide) (by decide) kt) ?_
      show own_Rch p e below _ T20 (mkF m 181 #[.val (.int p0), .val (.int p1), .val (.int p2), .val (.int p3), .val (.int p4), .val (.int (p0 &&& (3 : Int32))), .val (.int (((p0.toUInt32 >>> ((2 : Int32) &&& 31).toUInt32).toInt32) &&& (3 : Int32))), .val va1, .val va2, .val (.ref b3), .val (.ref sg5), .val (.int (1 : Int32)), .val (.ref sg10), .val (.ref sg11), .val (.ref sg18), .val (.ref sg19)] [(.int (1 : Int32))])
      refine own_retNH (t := .boolean) (by simp) (by rw [hh0, hh20]; exact CR0_x19.trans (CHv.at (s := s) X20 hZ19 (own_hEL hw) CR0_x19.1)) (s := s) hS19 (by rw [hh20]; exact (Nat.le_refl T19.heap.size)) X20 hx Bd.notSynchronized Bd.returns (hb hby at_181) (by decide) (by decide) ?_
      rw [hh20]
      exact ⟨rfl, N20⟩
  · -- pc 71: False
    refine own_st (fun _ kt => XS.ifNo X7.here hx rfl (hb hby at_71) rfl ((if0 _ _).trans (feq hc71_8).1) kt) ?_
    show own_Rch p e below _ T7 (mkF m 74 #[.val (.int p0), .val (.int p1), .val (.int p2), .val (.int p3), .val (.int p4), .val (.int (p0 &&& (3 : Int32))), .val (.int (((p0.toUInt32 >>> ((2 : Int32) &&& 31).toUInt32).toInt32) &&& (3 : Int32))), .val va1, .val va2, .val (.ref b3), .val (.ref sg5), .val (.int (1 : Int32)), .unset, .unset, .unset, .unset] [])
    refine own_st (fun _ kt => XS.aload X7.here hx rfl (hb hby at_74) rfl rfl  kt) ?_
    show own_Rch p e below _ T7 (mkF m 76 #[.val (.int p0), .val (.int p1), .val (.int p2), .val (.int p3), .val (.int p4), .val (.int (p0 &&& (3 : Int32))), .val (.int (((p0.toUInt32 >>> ((2 : Int32) &&& 31).toUInt32).toInt32) &&& (3 : Int32))), .val va1, .val va2, .val (.ref b3), .val (.ref sg5), .val (.int (1 : Int32)), .unset, .unset, .unset, .unset] [(.ref b3)])
    refine own_st (fun _ kt => XS.aload X7.here hx rfl (hb hby at_76) rfl (Wv1.ref)  kt) ?_
    show own_Rch p e below _ T7 (mkF m 78 #[.val (.int p0), .val (.int p1), .val (.int p2), .val (.int p3), .val (.int p4), .val (.int (p0 &&& (3 : Int32))), .val (.int (((p0.toUInt32 >>> ((2 : Int32) &&& 31).toUInt32).toInt32) &&& (3 : Int32))), .val va1, .val va2, .val (.ref b3), .val (.ref sg5), .val (.int (1 : Int32)), .unset, .unset, .unset, .unset] [va1, (.ref b3)])
    obtain ⟨cq21, kq21, q21a, q21b, q21c⟩ := isOf hZ6 hh7 (Bd4_x6).1
    obtain ⟨_, _, ⟨T21, L21, k21, n21⟩, -, X21, hSq21, hg21, ⟨Lc21, hQ21, l21, y21, z21, CB21⟩, st21⟩ := X7.virtualBackS hx (y := (⟨"com/example/cicada/cicada/BeanDefinition", "setScope", "(Ljava/lang/String;)V"⟩ : MethodName)) (z := (⟨"com/example/cicada/cicada/BeanDefinition", "setScope", "(Ljava/lang/String;)V"⟩ : MethodName)) hown6 (mvT hZ6 (hw _ (List.mem_of_getElem? (i := 81) rfl))) (mvT hZ6 (hw _ (List.mem_of_getElem? (i := 82) rfl))) (notFace_of_selects (args := #[]) (mvT hZ6 (hw _ (List.mem_of_getElem? (i := 84) rfl)))) (mvT hZ6 (hw _ (List.mem_of_getElem? (i := 84) rfl))) (mvT hZ6 (hw _ (List.mem_of_getElem? (i := 83) rfl))) (by decide) (backOfSH (s := s) (W := 0) (own_set l Z a0 hw [] b3 va1 own_S9 lv1 cs h6 n0 O0_x6 SC hcs Bd4_x6 ge3 Wv1_x6) hZ6 (hw _ (List.mem_of_getElem? (i := 85) rfl)) (hw _ (List.mem_of_getElem? (i := 39) rfl)) (by decide) (by decide) (own_hEL hw) CR0_x6.1) q21a q21c (g := (mkF m 78 #[.val (.int p0), .val (.int p1), .val (.int p2), .val (.int p3), .val (.int p4), .val (.int (p0 &&& (3 : Int32))), .val (.int (((p0.toUInt32 >>> ((2 : Int32) &&& 31).toUInt32).toInt32) &&& (3 : Int32))), .val va1, .val va2, .val (.ref b3), .val (.ref sg5), .val (.int (1 : Int32)), .unset, .unset, .unset, .unset] [va1, (.ref b3)])) rfl (by rw [hml]; rfl) (Steps.refl _) (argsL := [va1]) (rest := []) (lenOf own_pd13 rfl) rfl (by show 2 * 0 + _ ≤ _; exact Nat.le_of_eq rfl) (hb hby at_78) (fun _ _ => ⟨rfl, hh7, (by decide : 13 + 4 ≤ _), (by decide : 184 + 80 ≤ _)⟩)
    dsimp only [Pt.U, Pt.locs, Pt.cells, Pt.slots] at X21 l21 y21 z21 st21 hQ21 hSq21 hg21 CB21
    subst l21 y21 z21
    obtain ⟨rfl, N21q, K21, Bd21⟩ := hQ21
    have N21 := Fr.app N7 N21q
    have hS21 := foldS (s := s) hS6 (by rw [hh7]; exact hk6) hSq21 hg21
    have hZ21 : Z.Warmed39 T21.vm := State.Warmed39.trans (t := s.setVm T6.vm) hZ6 hSq21.1
    have hown21 : T21.vm.findClass "com/example/cicada/cicada/BeanDefinitionGetScopePinLaw" = some m.cls := by rw [hSq21.1.alike.findClass]; exact hown6
    refine own_st (fun _ kt => st21.trans kt) ?_
    have Yq21_b3 := CB21.safe Bd4_x6.lt Yq6_b3
    have O0_x21 := O0_x6.keep K21 (allS ge3 all0)
    have CR0_x21 := CR0_x6.trans CB21
    have Wv1_x21 := Wv1_x6.keep1 K21 Bd4_x6.1 (by decide) (hw _ (List.mem_of_getElem? (i := 38) rfl))
    have Wv2_x21 := Wv2_x6.keep1 K21 Bd4_x6.1 (by decide) (hw _ (List.mem_of_getElem? (i := 38) rfl))
    have Sg5_x21 := Sg5_x6.keep1 K21 Bd4_x6.1 (by decide) (hw _ (List.mem_of_getElem? (i := 38) rfl))
    have Es6_x21 := Es6.keep K21
    have Fc6_x21 := Fc6.keep K21 (ninS (Ne.symm nq6_b3.1) nin0)
    have Fv6_x21 := Fv6.keep K21 (ninS (Ne.symm nq6_b3.1) nin0)
    have Va6_x21 := Va6.keep K21 (ninS (Ne.symm nq6_b3.2) nin0)
    show own_Rch p e below _ T21 (mkF m 81 #[.val (.int p0), .val (.int p1), .val (.int p2), .val (.int p3), .val (.int p4), .val (.int (p0 &&& (3 : Int32))), .val (.int (((p0.toUInt32 >>> ((2 : Int32) &&& 31).toUInt32).toInt32) &&& (3 : Int32))), .val va1, .val va2, .val (.ref b3), .val (.ref sg5), .val (.int (1 : Int32)), .unset, .unset, .unset, .unset] [])
    obtain ⟨sl22, T22, h22, ks22, sd22, kd22, X22, e22, E22, hS22, hk22, hZ22, hown22, Es22, Fc22, Fv22, Va22, -, -, CB22, Lt22, hne22, st22⟩ := ldcCH (s := s) X21 hx hZ21 hown21 (hw _ (List.mem_of_getElem? (i := 71) rfl)) (own_wS hw) rfl hS21 (Nat.le_refl T21.heap.size) (own_hEL hw) (List.mem_of_getElem? (i := 3) rfl) CR0_x21.1 (vs := [(.int (115 : Int32)), (.int (105 : Int32)), (.int (110 : Int32)), (.int (103 : Int32)), (.int (108 : Int32)), (.int (101 : Int32)), (.int (116 : Int32)), (.int (111 : Int32)), (.int (110 : Int32))]) (z := (9 : Int32)) ⟨by decide, by decide⟩ (by decide) (by decide) (g := (mkF m 81 #[.val (.int p0), .val (.int p1), .val (.int p2), .val (.int p3), .val (.int p4), .val (.int (p0 &&& (3 : Int32))), .val (.int (((p0.toUInt32 >>> ((2 : Int32) &&& 31).toUInt32).toInt32) &&& (3 : Int32))), .val va1, .val va2, .val (.ref b3), .val (.ref sg5), .val (.int (1 : Int32)), .unset, .unset, .unset, .unset] [])) rfl (hb hby at_81) (n := 36) (by decide) (by decide) (by decide) (by decide)
    have Yq22_b3 := CB22.safe Bd21.lt Yq21_b3
    have O0_x22 := O0_x21.ext E22
    have CR0_x22 := CR0_x21.trans CB22
    have Wv1_x22 := Wv1_x21.ext E22
    have Wv2_x22 := Wv2_x21.ext E22
    have Sg5_x22 := Sg5_x21.ext E22
    have Es6_x22 := Es6_x21.ext E22
    have Fc6_x22 := Fc6_x21.ext E22
    have Fv6_x22 := Fv6_x21.ext E22
    have Va6_x22 := Va6_x21.ext E22
    have Bd21_x22 := Bd21.ext E22
    have nq22_b3 := hne22 b3 Yq22_b3
    refine own_st st22 ?_
    show own_Rch p e below _ T22 (mkF m 83 #[.val (.int p0), .val (.int p1), .val (.int p2), .val (.int p3), .val (.int p4), .val (.int (p0 &&& (3 : Int32))), .val (.int (((p0.toUInt32 >>> ((2 : Int32) &&& 31).toUInt32).toInt32) &&& (3 : Int32))), .val va1, .val va2, .val (.ref b3), .val (.ref sg5), .val (.int (1 : Int32)), .unset, .unset, .unset, .unset] [(.ref sl22)])
    refine own_st (fun _ kt => XS.iload X22.here hx rfl (hb hby at_83) rfl  kt) ?_
    show own_Rch p e below _ T22 (mkF m 85 #[.val (.int p0), .val (.int p1), .val (.int p2), .val (.int p3), .val (.int p4), .val (.int (p0 &&& (3 : Int32))), .val (.int (((p0.toUInt32 >>> ((2 : Int32) &&& 31).toUInt32).toInt32) &&& (3 : Int32))), .val va1, .val va2, .val (.ref b3), .val (.ref sg5), .val (.int (1 : Int32)), .unset, .unset, .unset, .unset] [(.int (p0 &&& (3 : Int32))), (.ref sl22)])
    refine own_st (fun _ kt => XS.aload X22.here hx rfl (hb hby at_85) rfl (Wv1.ref)  kt) ?_
    show own_Rch p e below _ T22 (mkF m 87 #[.val (.int p0), .val (.int p1), .val (.int p2), .val (.int p3), .val (.int p4), .val (.int (p0 &&& (3 : Int32))), .val (.int (((p0.toUInt32 >>> ((2 : Int32) &&& 31).toUInt32).toInt32) &&& (3 : Int32))), .val va1, .val va2, .val (.ref b3), .val (.ref sg5), .val (.int (1 : Int32)), .unset, .unset, .unset, .unset] [va1, (.int (p0 &&& (3 : Int32))), (.ref sl22)])
    obtain ⟨_, _, ⟨T23, L23, k23, n23⟩, -, X23, hSq23, hg23, ⟨Lc23, hQ23, l23, y23, z23, CB23⟩, st23⟩ := callSS X22 hx (y := (⟨"com/example/cicada/cicada/BeanDefinitionGetScopePinLaw", "after", "(Ljava/lang/String;ILjava/lang/String;)Ljava/lang/String;"⟩ : MethodName)) hown22 (mvT hZ22 (hw _ (List.mem_of_getElem? (i := 77) rfl))) (mvT hZ22 (hw _ (List.mem_of_getElem? (i := 78) rfl))) (mvT hZ22 (hw _ (List.mem_of_getElem? (i := 2) rfl))) (mvT hZ22 (hw _ (List.mem_of_getElem? (i := 79) rfl))) (by decide) (backOfSH (s := s) (W := 0) (own_after l Z a0 hw [] sl22 (p0 &&& (3 : Int32)) va1 own_S9 lv1 lv1 h22 n0 O0_x22 ⟨_, _, Es22, Fv22, Fc22, Va22⟩ Wv1_x22 (Or.inr ⟨hc71_8, rfl⟩)) hZ22 (hw _ (List.mem_of_getElem? (i := 79) rfl)) (hw _ (List.mem_of_getElem? (i := 2) rfl)) (by decide) (by decide) (own_hEL hw) CR0_x22.1) (g := (mkF m 87 #[.val (.int p0), .val (.int p1), .val (.int p2), .val (.int p3), .val (.int p4), .val (.int (p0 &&& (3 : Int32))), .val (.int (((p0.toUInt32 >>> ((2 : Int32) &&& 31).toUInt32).toInt32) &&& (3 : Int32))), .val va1, .val va2, .val (.ref b3), .val (.ref sg5), .val (.int (1 : Int32)), .unset, .unset, .unset, .unset] [va1, (.int (p0 &&& (3 : Int32))), (.ref sl22)])) rfl (by rw [hml]; rfl) (argsL := [(.ref sl22), (.int (p0 &&& (3 : Int32))), va1]) (rest := []) (lenOf own_pd12 rfl) rfl (by show 2 * 0 + _ ≤ _; exact Nat.le_of_eq rfl) (hb hby at_87) (fun _ _ => ⟨rfl, e22, (by decide : 19 + 2 ≤ _), (by decide : 304 + 40 ≤ _)⟩)
    dsimp only [Pt.U, Pt.locs, Pt.cells, Pt.slots] at X23 l23 y23 z23 st23 hQ23 hSq23 hg23 CB23
    subst l23 y23 z23
    obtain ⟨sg23, rfl, N23q, K23, Sg23⟩ := hQ23
    have N23 := Fr.app N21 N23q
    have hS23 := foldS (s := s) hS22 (by rw [e22]; exact hk22) hSq23 hg23
    have hZ23 : Z.Warmed39 T23.vm := State.Warmed39.trans (t := s.setVm T22.vm) hZ22 hSq23.1
    have hown23 : T23.vm.findClass "com/example/cicada/cicada/BeanDefinitionGetScopePinLaw" = some m.cls := by rw [hSq23.1.alike.findClass]; exact hown22
    refine own_st (fun _ kt => st23.trans kt) ?_
    have Yq23_b3 := CB23.safe Bd21_x22.lt Yq22_b3
    have O0_x23 := O0_x22.keep K23 all0
    have CR0_x23 := CR0_x22.trans CB23
    have Wv1_x23 := Wv1_x22.keep0 K23
    have Wv2_x23 := Wv2_x22.keep0 K23
    have Sg5_x23 := Sg5_x22.keep0 K23
    have Es6_x23 := Es6_x22.keep K23
    have Fc6_x23 := Fc6_x22.keep K23 nin0
    have Fv6_x23 := Fv6_x22.keep K23 nin0
    have Va6_x23 := Va6_x22.keep K23 nin0
    have Bd21_x23 := Bd21_x22.keep0 K23
    have Es22_x23 := Es22.keep K23
    have Fc22_x23 := Fc22.keep K23 nin0
    have Fv22_x23 := Fv22.keep K23 nin0
    have Va22_x23 := Va22.keep K23 nin0
    show own_Rch p e below _ T23 (mkF m 90 #[.val (.int p0), .val (.int p1), .val (.int p2), .val (.int p3), .val (.int p4), .val (.int (p0 &&& (3 : Int32))), .val (.int (((p0.toUInt32 >>> ((2 : Int32) &&& 31).toUInt32).toInt32) &&& (3 : Int32))), .val va1, .val va2, .val (.ref b3), .val (.ref sg5), .val (.int (1 : Int32)), .unset, .unset, .unset, .unset] [(.ref sg23)])
    refine own_st (fun _ kt => XS.astore X23.here hx rfl (hb hby at_90) rfl rfl (l' := #[.val (.int p0), .val (.int p1), .val (.int p2), .val (.int p3), .val (.int p4), .val (.int (p0 &&& (3 : Int32))), .val (.int (((p0.toUInt32 >>> ((2 : Int32) &&& 31).toUInt32).toInt32) &&& (3 : Int32))), .val va1, .val va2, .val (.ref b3), .val (.ref sg5), .val (.int (1 : Int32)), .val (.ref sg23), .unset, .unset, .unset]) rfl kt) ?_
    show own_Rch p e below _ T23 (mkF m 92 #[.val (.int p0), .val (.int p1), .val (.int p2), .val (.int p3), .val (.int p4), .val (.int (p0 &&& (3 : Int32))), .val (.int (((p0.toUInt32 >>> ((2 : Int32) &&& 31).toUInt32).toInt32) &&& (3 : Int32))), .val va1, .val va2, .val (.ref b3), .val (.ref sg5), .val (.int (1 : Int32)), .val (.ref sg23), .unset, .unset, .unset] [])
    refine own_st (fun _ kt => XS.aload X23.here hx rfl (hb hby at_92) rfl rfl  kt) ?_
    show own_Rch p e below _ T23 (mkF m 94 #[.val (.int p0), .val (.int p1), .val (.int p2), .val (.int p3), .val (.int p4), .val (.int (p0 &&& (3 : Int32))), .val (.int (((p0.toUInt32 >>> ((2 : Int32) &&& 31).toUInt32).toInt32) &&& (3 : Int32))), .val va1, .val va2, .val (.ref b3), .val (.ref sg5), .val (.int (1 : Int32)), .val (.ref sg23), .unset, .unset, .unset] [(.ref b3)])
    obtain ⟨cq24, kq24, q24a, q24b, q24c⟩ := isOf hZ23 rfl (Bd21_x23).1
    obtain ⟨_, _, ⟨T24, L24, k24, n24⟩, -, X24, hSq24, hg24, ⟨Lc24, hQ24, l24, y24, z24, CB24⟩, st24⟩ := X23.virtualBackS hx (y := (⟨"com/example/cicada/cicada/BeanDefinition", "getScope", "()Ljava/lang/String;"⟩ : MethodName)) (z := (⟨"com/example/cicada/cicada/BeanDefinition", "getScope", "()Ljava/lang/String;"⟩ : MethodName)) hown23 (mvT hZ23 (hw _ (List.mem_of_getElem? (i := 61) rfl))) (mvT hZ23 (hw _ (List.mem_of_getElem? (i := 62) rfl))) (notFace_of_selects (args := #[]) (mvT hZ23 (hw _ (List.mem_of_getElem? (i := 64) rfl)))) (mvT hZ23 (hw _ (List.mem_of_getElem? (i := 64) rfl))) (mvT hZ23 (hw _ (List.mem_of_getElem? (i := 63) rfl))) (by decide) (backOfSH (s := s) (W := 0) (own_get l Z a0 hw [] b3 lv1 T23.heap n0 O0_x23 Bd21_x23) hZ23 (hw _ (List.mem_of_getElem? (i := 65) rfl)) (hw _ (List.mem_of_getElem? (i := 39) rfl)) (by decide) (by decide) (own_hEL hw) CR0_x23.1) q24a q24c (g := (mkF m 94 #[.val (.int p0), .val (.int p1), .val (.int p2), .val (.int p3), .val (.int p4), .val (.int (p0 &&& (3 : Int32))), .val (.int (((p0.toUInt32 >>> ((2 : Int32) &&& 31).toUInt32).toInt32) &&& (3 : Int32))), .val va1, .val va2, .val (.ref b3), .val (.ref sg5), .val (.int (1 : Int32)), .val (.ref sg23), .unset, .unset, .unset] [(.ref b3)])) rfl (by rw [hml]; rfl) (Steps.refl _) (argsL := []) (rest := []) (lenOf own_pd11 rfl) rfl (by show 2 * 0 + _ ≤ _; exact Nat.le_of_eq rfl) (hb hby at_94) (fun _ _ => ⟨rfl, rfl, (by decide : 21 + 2 ≤ _), (by decide : 344 + 40 ≤ _)⟩)
    dsimp only [Pt.U, Pt.locs, Pt.cells, Pt.slots] at X24 l24 y24 z24 st24 hQ24 hSq24 hg24 CB24
    subst l24 y24 z24
    obtain ⟨sg24, rfl, N24q, K24, Sg24⟩ := hQ24
    have N24 := Fr.app N23 N24q
    have hS24 := foldS (s := s) hS23 (Nat.le_refl T23.heap.size) hSq24 hg24
    have hZ24 : Z.Warmed39 T24.vm := State.Warmed39.trans (t := s.setVm T23.vm) hZ23 hSq24.1
    have hown24 : T24.vm.findClass "com/example/cicada/cicada/BeanDefinitionGetScopePinLaw" = some m.cls := by rw [hSq24.1.alike.findClass]; exact hown23
    refine own_st (fun _ kt => st24.trans kt) ?_
    have Yq24_b3 := CB24.safe Bd21_x23.lt Yq23_b3
    have O0_x24 := O0_x23.keep K24 all0
    have CR0_x24 := CR0_x23.trans CB24
    have Wv1_x24 := Wv1_x23.keep0 K24
    have Wv2_x24 := Wv2_x23.keep0 K24
    have Sg5_x24 := Sg5_x23.keep0 K24
    have Es6_x24 := Es6_x23.keep K24
    have Fc6_x24 := Fc6_x23.keep K24 nin0
    have Fv6_x24 := Fv6_x23.keep K24 nin0
    have Va6_x24 := Va6_x23.keep K24 nin0
    have Bd21_x24 := Bd21_x23.keep0 K24
    have Es22_x24 := Es22_x23.keep K24
    have Fc22_x24 := Fc22_x23.keep K24 nin0
    have Fv22_x24 := Fv22_x23.keep K24 nin0
    have Va22_x24 := Va22_x23.keep K24 nin0
    have Sg23_x24 := Sg23.keep0 K24
    show own_Rch p e below _ T24 (mkF m 97 #[.val (.int p0), .val (.int p1), .val (.int p2), .val (.int p3), .val (.int p4), .val (.int (p0 &&& (3 : Int32))), .val (.int (((p0.toUInt32 >>> ((2 : Int32) &&& 31).toUInt32).toInt32) &&& (3 : Int32))), .val va1, .val va2, .val (.ref b3), .val (.ref sg5), .val (.int (1 : Int32)), .val (.ref sg23), .unset, .unset, .unset] [(.ref sg24)])
    refine own_st (fun _ kt => XS.astore X24.here hx rfl (hb hby at_97) rfl rfl (l' := #[.val (.int p0), .val (.int p1), .val (.int p2), .val (.int p3), .val (.int p4), .val (.int (p0 &&& (3 : Int32))), .val (.int (((p0.toUInt32 >>> ((2 : Int32) &&& 31).toUInt32).toInt32) &&& (3 : Int32))), .val va1, .val va2, .val (.ref b3), .val (.ref sg5), .val (.int (1 : Int32)), .val (.ref sg23), .val (.ref sg24), .unset, .unset]) rfl kt) ?_
    show own_Rch p e below _ T24 (mkF m 99 #[.val (.int p0), .val (.int p1), .val (.int p2), .val (.int p3), .val (.int p4), .val (.int (p0 &&& (3 : Int32))), .val (.int (((p0.toUInt32 >>> ((2 : Int32) &&& 31).toUInt32).toInt32) &&& (3 : Int32))), .val va1, .val va2, .val (.ref b3), .val (.ref sg5), .val (.int (1 : Int32)), .val (.ref sg23), .val (.ref sg24), .unset, .unset] [])
    refine own_st (fun _ kt => XS.iload X24.here hx rfl (hb hby at_99) rfl  kt) ?_
    show own_Rch p e below _ T24 (mkF m 101 #[.val (.int p0), .val (.int p1), .val (.int p2), .val (.int p3), .val (.int p4), .val (.int (p0 &&& (3 : Int32))), .val (.int (((p0.toUInt32 >>> ((2 : Int32) &&& 31).toUInt32).toInt32) &&& (3 : Int32))), .val va1, .val va2, .val (.ref b3), .val (.ref sg5), .val (.int (1 : Int32)), .val (.ref sg23), .val (.ref sg24), .unset, .unset] [(.int (1 : Int32))])
    refine own_st (fun _ kt => XS.ifNo X24.here hx rfl (hb hby at_101) rfl ((if0 _ _).trans (feq ((by decide) : ¬ ((1 : Int32) = (0 : Int32)))).1) kt) ?_
    show own_Rch p e below _ T24 (mkF m 104 #[.val (.int p0), .val (.int p1), .val (.int p2), .val (.int p3), .val (.int p4), .val (.int (p0 &&& (3 : Int32))), .val (.int (((p0.toUInt32 >>> ((2 : Int32) &&& 31).toUInt32).toInt32) &&& (3 : Int32))), .val va1, .val va2, .val (.ref b3), .val (.ref sg5), .val (.int (1 : Int32)), .val (.ref sg23), .val (.ref sg24), .unset, .unset] [])
    refine own_st (fun _ kt => XS.aload X24.here hx rfl (hb hby at_104) rfl rfl  kt) ?_
    show own_Rch p e below _ T24 (mkF m 106 #[.val (.int p0), .val (.int p1), .val (.int p2), .val (.int p3), .val (.int p4), .val (.int (p0 &&& (3 : Int32))), .val (.int (((p0.toUInt32 >>> ((2 : Int32) &&& 31).toUInt32).toInt32) &&& (3 : Int32))), .val va1, .val va2, .val (.ref b3), .val (.ref sg5), .val (.int (1 : Int32)), .val (.ref sg23), .val (.ref sg24), .unset, .unset] [(.ref sg24)])
    refine own_st (fun _ kt => XS.ifnullNo X24.here hx rfl (hb hby at_106) rfl kt) ?_
    show own_Rch p e below _ T24 (mkF m 109 #[.val (.int p0), .val (.int p1), .val (.int p2), .val (.int p3), .val (.int p4), .val (.int (p0 &&& (3 : Int32))), .val (.int (((p0.toUInt32 >>> ((2 : Int32) &&& 31).toUInt32).toInt32) &&& (3 : Int32))), .val va1, .val va2, .val (.ref b3), .val (.ref sg5), .val (.int (1 : Int32)), .val (.ref sg23), .val (.ref sg24), .unset, .unset] [])
    refine own_st (fun _ kt => XS.aload X24.here hx rfl (hb hby at_109) rfl rfl  kt) ?_
    show own_Rch p e below _ T24 (mkF m 111 #[.val (.int p0), .val (.int p1), .val (.int p2), .val (.int p3), .val (.int p4), .val (.int (p0 &&& (3 : Int32))), .val (.int (((p0.toUInt32 >>> ((2 : Int32) &&& 31).toUInt32).toInt32) &&& (3 : Int32))), .val va1, .val va2, .val (.ref b3), .val (.ref sg5), .val (.int (1 : Int32)), .val (.ref sg23), .val (.ref sg24), .unset, .unset] [(.ref sg23)])
    refine own_st (fun _ kt => XS.aload X24.here hx rfl (hb hby at_111) rfl rfl  kt) ?_
    show own_Rch p e below _ T24 (mkF m 113 #[.val (.int p0), .val (.int p1), .val (.int p2), .val (.int p3), .val (.int p4), .val (.int (p0 &&& (3 : Int32))), .val (.int (((p0.toUInt32 >>> ((2 : Int32) &&& 31).toUInt32).toInt32) &&& (3 : Int32))), .val va1, .val va2, .val (.ref b3), .val (.ref sg5), .val (.int (1 : Int32)), .val (.ref sg23), .val (.ref sg24), .unset, .unset] [(.ref sg24), (.ref sg23)])
    have Ersg23 : Exa Z T24.heap sg23 "java/lang/String" := by obtain ⟨_, _, q, -⟩ := Sg23_x24; exact q
    obtain ⟨cq25, kq25, q25a, q25b, q25c⟩ := isOf hZ24 rfl Ersg23
    obtain ⟨_, _, ⟨T25, L25, k25, n25⟩, -, X25, ⟨Lc25, hQ25, l25, y25, z25⟩, st25⟩ := X24.virtualBack hx (y := (⟨"java/lang/String", "equals", "(Ljava/lang/Object;)Z"⟩ : MethodName)) (z := (⟨"java/lang/String", "equals", "(Ljava/lang/Object;)Z"⟩ : MethodName)) hown24 (mvT hZ24 (hw _ (List.mem_of_getElem? (i := 72) rfl))) (mvT hZ24 (hw _ (List.mem_of_getElem? (i := 73) rfl))) (notFace_of_selects (args := #[]) (mvT hZ24 (hw _ (List.mem_of_getElem? (i := 75) rfl)))) (mvT hZ24 (hw _ (List.mem_of_getElem? (i := 75) rfl))) (mvT hZ24 (hw _ (List.mem_of_getElem? (i := 74) rfl))) (by decide) (backOf (W := 0) (own_eqT l Z a0 hw [] sg23 sg24 lv1 cs T24.heap n0 O0_x24 SC hcs Sg23_x24 Sg24 Wv1_x24.ok) hZ24 (hw _ (List.mem_of_getElem? (i := 76) rfl)) (hw _ (List.mem_of_getElem? (i := 9) rfl)) (by decide) (by decide)) q25a q25c (g := (mkF m 113 #[.val (.int p0), .val (.int p1), .val (.int p2), .val (.int p3), .val (.int p4), .val (.int (p0 &&& (3 : Int32))), .val (.int (((p0.toUInt32 >>> ((2 : Int32) &&& 31).toUInt32).toInt32) &&& (3 : Int32))), .val va1, .val va2, .val (.ref b3), .val (.ref sg5), .val (.int (1 : Int32)), .val (.ref sg23), .val (.ref sg24), .unset, .unset] [(.ref sg24), (.ref sg23)])) rfl (by rw [hml]; rfl) (Steps.refl _) (argsL := [(.ref sg24)]) (rest := []) (lenOf own_pd8 rfl) rfl (by show 2 * 0 + _ ≤ _; exact Nat.le_of_eq rfl) (hb hby at_113) (fun _ _ => ⟨rfl, rfl, (by decide : 23 + 0 ≤ _), (by decide : 384 + 0 ≤ _)⟩)
    dsimp only [Pt.U, Pt.locs, Pt.cells, Pt.slots] at X25 l25 y25 z25 st25 hQ25
    subst l25 y25 z25
    obtain ⟨rfl, N25q, hh25⟩ := hQ25
    have N25 := Fr.app N24 N25q
    refine own_st (fun _ kt => st25.trans kt) ?_
    show own_Rch p e below _ T25 (mkF m 116 #[.val (.int p0), .val (.int p1), .val (.int p2), .val (.int p3), .val (.int p4), .val (.int (p0 &&& (3 : Int32))), .val (.int (((p0.toUInt32 >>> ((2 : Int32) &&& 31).toUInt32).toInt32) &&& (3 : Int32))), .val va1, .val va2, .val (.ref b3), .val (.ref sg5), .val (.int (1 : Int32)), .val (.ref sg23), .val (.ref sg24), .unset, .unset] [(.int (1 : Int32))])
    refine own_st (fun _ kt => XS.ifNo X25.here hx rfl (hb hby at_116) rfl ((if0 _ _).trans (feq ((by decide) : ¬ ((1 : Int32) = (0 : Int32)))).1) kt) ?_
    show own_Rch p e below _ T25 (mkF m 119 #[.val (.int p0), .val (.int p1), .val (.int p2), .val (.int p3), .val (.int p4), .val (.int (p0 &&& (3 : Int32))), .val (.int (((p0.toUInt32 >>> ((2 : Int32) &&& 31).toUInt32).toInt32) &&& (3 : Int32))), .val va1, .val va2, .val (.ref b3), .val (.ref sg5), .val (.int (1 : Int32)), .val (.ref sg23), .val (.ref sg24), .unset, .unset] [])
    refine own_st (fun _ kt => XS.iconst X25.here hx rfl (hb hby at_119) kt) ?_
    show own_Rch p e below _ T25 (mkF m 120 #[.val (.int p0), .val (.int p1), .val (.int p2), .val (.int p3), .val (.int p4), .val (.int (p0 &&& (3 : Int32))), .val (.int (((p0.toUInt32 >>> ((2 : Int32) &&& 31).toUInt32).toInt32) &&& (3 : Int32))), .val va1, .val va2, .val (.ref b3), .val (.ref sg5), .val (.int (1 : Int32)), .val (.ref sg23), .val (.ref sg24), .unset, .unset] [(.int (1 : Int32))])
    refine own_st (fun _ kt => XS.goto X25.here hx rfl (pc0 := 120) (pc' := 124) rfl (hb hby at_120) (by decide) (by decide) kt) ?_
    show own_Rch p e below _ T25 (mkF m 124 #[.val (.int p0), .val (.int p1), .val (.int p2), .val (.int p3), .val (.int p4), .val (.int (p0 &&& (3 : Int32))), .val (.int (((p0.toUInt32 >>> ((2 : Int32) &&& 31).toUInt32).toInt32) &&& (3 : Int32))), .val va1, .val va2, .val (.ref b3), .val (.ref sg5), .val (.int (1 : Int32)), .val (.ref sg23), .val (.ref sg24), .unset, .unset] [(.int (1 : Int32))])
    refine own_st (fun _ kt => XS.istore X25.here hx rfl (hb hby at_124) rfl (l' := #[.val (.int p0), .val (.int p1), .val (.int p2), .val (.int p3), .val (.int p4), .val (.int (p0 &&& (3 : Int32))), .val (.int (((p0.toUInt32 >>> ((2 : Int32) &&& 31).toUInt32).toInt32) &&& (3 : Int32))), .val va1, .val va2, .val (.ref b3), .val (.ref sg5), .val (.int (1 : Int32)), .val (.ref sg23), .val (.ref sg24), .unset, .unset]) rfl kt) ?_
    show own_Rch p e below _ T25 (mkF m 126 #[.val (.int p0), .val (.int p1), .val (.int p2), .val (.int p3), .val (.int p4), .val (.int (p0 &&& (3 : Int32))), .val (.int (((p0.toUInt32 >>> ((2 : Int32) &&& 31).toUInt32).toInt32) &&& (3 : Int32))), .val va1, .val va2, .val (.ref b3), .val (.ref sg5), .val (.int (1 : Int32)), .val (.ref sg23), .val (.ref sg24), .unset, .unset] [])
    refine own_st (fun _ kt => XS.iload X25.here hx rfl (hb hby at_126) rfl  kt) ?_
    show own_Rch p e below _ T25 (mkF m 128 #[.val (.int p0), .val (.int p1), .val (.int p2), .val (.int p3), .val (.int p4), .val (.int (p0 &&& (3 : Int32))), .val (.int (((p0.toUInt32 >>> ((2 : Int32) &&& 31).toUInt32).toInt32) &&& (3 : Int32))), .val va1, .val va2, .val (.ref b3), .val (.ref sg5), .val (.int (1 : Int32)), .val (.ref sg23), .val (.ref sg24), .unset, .unset] [(.int (((p0.toUInt32 >>> ((2 : Int32) &&& 31).toUInt32).toInt32) &&& (3 : Int32)))])
    by_cases hc128_26 : (((p0.toUInt32 >>> ((2 : Int32) &&& 31).toUInt32).toInt32) &&& (3 : Int32)) = (0 : Int32)
    · -- pc 128: True
      refine own_st (fun _ kt => XS.ifYes X25.here hx rfl (pc0 := 128) (pc' := 138) rfl (hb hby at_128) rfl ((if0 _ _).trans (teq hc128_26).1) (by decide) (by decide) kt) ?_
      show own_Rch p e below _ T25 (mkF m 138 #[.val (.int p0), .val (.int p1), .val (.int p2), .val (.int p3), .val (.int p4), .val (.int (p0 &&& (3 : Int32))), .val (.int (((p0.toUInt32 >>> ((2 : Int32) &&& 31).toUInt32).toInt32) &&& (3 : Int32))), .val va1, .val va2, .val (.ref b3), .val (.ref sg5), .val (.int (1 : Int32)), .val (.ref sg23), .val (.ref sg24), .unset, .unset] [])
      refine own_st (fun _ kt => XS.aload X25.here hx rfl (hb hby at_138) rfl rfl  kt) ?_
      show own_Rch p e below _ T25 (mkF m 140 #[.val (.int p0), .val (.int p1), .val (.int p2), .val (.int p3), .val (.int p4), .val (.int (p0 &&& (3 : Int32))), .val (.int (((p0.toUInt32 >>> ((2 : Int32) &&& 31).toUInt32).toInt32) &&& (3 : Int32))), .val va1, .val va2, .val (.ref b3), .val (.ref sg5), .val (.int (1 : Int32)), .val (.ref sg23), .val (.ref sg24), .unset, .unset] [(.ref sg23)])
      refine own_st (fun _ kt => XS.iload X25.here hx rfl (hb hby at_140) rfl  kt) ?_
      show own_Rch p e below _ T25 (mkF m 142 #[.val (.int p0), .val (.int p1), .val (.int p2), .val (.int p3), .val (.int p4), .val (.int (p0 &&& (3 : Int32))), .val (.int (((p0.toUInt32 >>> ((2 : Int32) &&& 31).toUInt32).toInt32) &&& (3 : Int32))), .val va1, .val va2, .val (.ref b3), .val (.ref sg5), .val (.int (1 : Int32)), .val (.ref sg23), .val (.ref sg24), .unset, .unset] [(.int (((p0.toUInt32 >>> ((2 : Int32) &&& 31).toUInt32).toInt32) &&& (3 : Int32))), (.ref sg23)])
      refine own_st (fun _ kt => XS.aload X25.here hx rfl (hb hby at_142) rfl (Wv2.ref)  kt) ?_
      show own_Rch p e below _ T25 (mkF m 144 #[.val (.int p0), .val (.int p1), .val (.int p2), .val (.int p3), .val (.int p4), .val (.int (p0 &&& (3 : Int32))), .val (.int (((p0.toUInt32 >>> ((2 : Int32) &&& 31).toUInt32).toInt32) &&& (3 : Int32))), .val va1, .val va2, .val (.ref b3), .val (.ref sg5), .val (.int (1 : Int32)), .val (.ref sg23), .val (.ref sg24), .unset, .unset] [va2, (.int (((p0.toUInt32 >>> ((2 : Int32) &&& 31).toUInt32).toInt32) &&& (3 : Int32))), (.ref sg23)])
      obtain ⟨_, _, ⟨T27, L27, k27, n27⟩, -, X27, hSq27, hg27, ⟨Lc27, hQ27, l27, y27, z27, CB27⟩, st27⟩ := callSS X25 hx (y := (⟨"com/example/cicada/cicada/BeanDefinitionGetScopePinLaw", "after", "(Ljava/lang/String;ILjava/lang/String;)Ljava/lang/String;"⟩ : MethodName)) hown24 (mvT hZ24 (hw _ (List.mem_of_getElem? (i := 77) rfl))) (mvT hZ24 (hw _ (List.mem_of_getElem? (i := 78) rfl))) (mvT hZ24 (hw _ (List.mem_of_getElem? (i := 2) rfl))) (mvT hZ24 (hw _ (List.mem_of_getElem? (i := 79) rfl))) (by decide) (backOfSH (s := s) (W := 0) (own_after l Z a0 hw [] sg23 (((p0.toUInt32 >>> ((2 : Int32) &&& 31).toUInt32).toInt32) &&& (3 : Int32)) va2 lv1 lv2 lv1 T24.heap n0 O0_x24 Sg23_x24 Wv2_x24 (Or.inl ⟨hc128_26, rfl⟩)) hZ24 (hw _ (List.mem_of_getElem? (i := 79) rfl)) (hw _ (List.mem_of_getElem? (i := 2) rfl)) (by decide) (by decide) (own_hEL hw) CR0_x24.1) (g := (mkF m 144 #[.val (.int p0), .val (.int p1), .val (.int p2), .val (.int p3), .val (.int p4), .val (.int (p0 &&& (3 : Int32))), .val (.int (((p0.toUInt32 >>> ((2 : Int32) &&& 31).toUInt32).toInt32) &&& (3 : Int32))), .val va1, .val va2, .val (.ref b3), .val (.ref sg5), .val (.int (1 : Int32)), .val (.ref sg23), .val (.ref sg24), .unset, .unset] [va2, (.int (((p0.toUInt32 >>> ((2 : Int32) &&& 31).toUInt32).toInt32) &&& (3 : Int32))), (.ref sg23)])) rfl (by rw [hml]; rfl) (argsL := [(.ref sg23), (.int (((p0.toUInt32 >>> ((2 : Int32) &&& 31).toUInt32).toInt32) &&& (3 : Int32))), va2]) (rest := []) (lenOf own_pd12 rfl) rfl (by show 2 * 0 + _ ≤ _; exact Nat.le_of_eq rfl) (hb hby at_144) (fun _ _ => ⟨rfl, hh25, (by decide : 23 + 2 ≤ _), (by decide : 384 + 40 ≤ _)⟩)
      dsimp only [Pt.U, Pt.locs, Pt.cells, Pt.slots] at X27 l27 y27 z27 st27 hQ27 hSq27 hg27 CB27
      subst l27 y27 z27
      obtain ⟨sg27, rfl, N27q, K27, Sg27⟩ := hQ27
      have N27 := Fr.app N25 N27q
      have hS27 := foldS (s := s) hS24 (by rw [hh25]; exact (Nat.le_refl T24.heap.size)) hSq27 hg27
      have hZ27 : Z.Warmed39 T27.vm := State.Warmed39.trans (t := s.setVm T24.vm) hZ24 hSq27.1
      have hown27 : T27.vm.findClass "com/example/cicada/cicada/BeanDefinitionGetScopePinLaw" = some m.cls := by rw [hSq27.1.alike.findClass]; exact hown24
      refine own_st (fun _ kt => st27.trans kt) ?_
      have Yq27_b3 := CB27.safe Bd21_x24.lt Yq24_b3
      have O0_x27 := O0_x24.keep K27 all0
      have CR0_x27 := CR0_x24.trans CB27
      have Wv1_x27 := Wv1_x24.keep0 K27
      have Wv2_x27 := Wv2_x24.keep0 K27
      have Sg5_x27 := Sg5_x24.keep0 K27
      have Es6_x27 := Es6_x24.keep K27
      have Fc6_x27 := Fc6_x24.keep K27 nin0
      have Fv6_x27 := Fv6_x24.keep K27 nin0
      have Va6_x27 := Va6_x24.keep K27 nin0
      have Bd21_x27 := Bd21_x24.keep0 K27
      have Es22_x27 := Es22_x24.keep K27
      have Fc22_x27 := Fc22_x24.keep K27 nin0
      have Fv22_x27 := Fv22_x24.keep K27 nin0
      have Va22_x27 := Va22_x24.keep K27 nin0
      have Sg23_x27 := Sg23_x24.keep0 K27
      have Sg24_x27 := Sg24.keep0 K27
      have Ersg23_x27 := Ersg23.keep K27
      show own_Rch p e below _ T27 (mkF m 147 #[.val (.int p0), .val (.int p1), .val (.int p2), .val (.int p3), .val (.int p4), .val (.int (p0 &&& (3 : Int32))), .val (.int (((p0.toUInt32 >>> ((2 : Int32) &&& 31).toUInt32).toInt32) &&& (3 : Int32))), .val va1, .val va2, .val (.ref b3), .val (.ref sg5), .val (.int (1 : Int32)), .val (.ref sg23), .val (.ref sg24), .unset, .unset] [(.ref sg27)])
      refine own_st (fun _ kt => XS.astore X27.here hx rfl (hb hby at_147) rfl rfl (l' := #[.val (.int p0), .val (.int p1), .val (.int p2), .val (.int p3), .val (.int p4), .val (.int (p0 &&& (3 : Int32))), .val (.int (((p0.toUInt32 >>> ((2 : Int32) &&& 31).toUInt32).toInt32) &&& (3 : Int32))), .val va1, .val va2, .val (.ref b3), .val (.ref sg5), .val (.int (1 : Int32)), .val (.ref sg23), .val (.ref sg24), .val (.ref sg27), .unset]) rfl kt) ?_
      show own_Rch p e below _ T27 (mkF m 149 #[.val (.int p0), .val (.int p1), .val (.int p2), .val (.int p3), .val (.int p4), .val (.int (p0 &&& (3 : Int32))), .val (.int (((p0.toUInt32 >>> ((2 : Int32) &&& 31).toUInt32).toInt32) &&& (3 : Int32))), .val va1, .val va2, .val (.ref b3), .val (.ref sg5), .val (.int (1 : Int32)), .val (.ref sg23), .val (.ref sg24), .val (.ref sg27), .unset] [])
      refine own_st (fun _ kt => XS.aload X27.here hx rfl (hb hby at_149) rfl rfl  kt) ?_
      show own_Rch p e below _ T27 (mkF m 151 #[.val (.int p0), .val (.int p1), .val (.int p2), .val (.int p3), .val (.int p4), .val (.int (p0 &&& (3 : Int32))), .val (.int (((p0.toUInt32 >>> ((2 : Int32) &&& 31).toUInt32).toInt32) &&& (3 : Int32))), .val va1, .val va2, .val (.ref b3), .val (.ref sg5), .val (.int (1 : Int32)), .val (.ref sg23), .val (.ref sg24), .val (.ref sg27), .unset] [(.ref b3)])
      obtain ⟨cq28, kq28, q28a, q28b, q28c⟩ := isOf hZ27 rfl (Bd21_x27).1
      obtain ⟨_, _, ⟨T28, L28, k28, n28⟩, -, X28, hSq28, hg28, ⟨Lc28, hQ28, l28, y28, z28, CB28⟩, st28⟩ := X27.virtualBackS hx (y := (⟨"com/example/cicada/cicada/BeanDefinition", "getScope", "()Ljava/lang/String;"⟩ : MethodName)) (z := (⟨"com/example/cicada/cicada/BeanDefinition", "getScope", "()Ljava/lang/String;"⟩ : MethodName)) hown27 (mvT hZ27 (hw _ (List.mem_of_getElem? (i := 61) rfl))) (mvT hZ27 (hw _ (List.mem_of_getElem? (i := 62) rfl))) (notFace_of_selects (args := #[]) (mvT hZ27 (hw _ (List.mem_of_getElem? (i := 64) rfl)))) (mvT hZ27 (hw _ (List.mem_of_getElem? (i := 64) rfl))) (mvT hZ27 (hw _ (List.mem_of_getElem? (i := 63) rfl))) (by decide) (backOfSH (s := s) (W := 0) (own_get l Z a0 hw [] b3 lv1 T27.heap n0 O0_x27 Bd21_x27) hZ27 (hw _ (List.mem_of_getElem? (i := 65) rfl)) (hw _ (List.mem_of_getElem? (i := 39) rfl)) (by decide) (by decide) (own_hEL hw) CR0_x27.1) q28a q28c (g := (mkF m 151 #[.val (.int p0), .val (.int p1), .val (.int p2), .val (.int p3), .val (.int p4), .val (.int (p0 &&& (3 : Int32))), .val (.int (((p0.toUInt32 >>> ((2 : Int32) &&& 31).toUInt32).toInt32) &&& (3 : Int32))), .val va1, .val va2, .val (.ref b3), .val (.ref sg5), .val (.int (1 : Int32)), .val (.ref sg23), .val (.ref sg24), .val (.ref sg27), .unset] [(.ref b3)])) rfl (by rw [hml]; rfl) (Steps.refl _) (argsL := []) (rest := []) (lenOf own_pd11 rfl) rfl (by show 2 * 0 + _ ≤ _; exact Nat.le_of_eq rfl) (hb hby at_151) (fun _ _ => ⟨rfl, rfl, (by decide : 25 + 2 ≤ _), (by decide : 424 + 40 ≤ _)⟩)
      dsimp only [Pt.U, Pt.locs, Pt.cells, Pt.slots] at X28 l28 y28 z28 st28 hQ28 hSq28 hg28 CB28
      subst l28 y28 z28
      obtain ⟨sg28, rfl, N28q, K28, Sg28⟩ := hQ28
      have N28 := Fr.app N27 N28q
      have hS28 := foldS (s := s) hS27 (Nat.le_refl T27.heap.size) hSq28 hg28
      have hZ28 : Z.Warmed39 T28.vm := State.Warmed39.trans (t := s.setVm T27.vm) hZ27 hSq28.1
      have hown28 : T28.vm.findClass "com/example/cicada/cicada/BeanDefinitionGetScopePinLaw" = some m.cls := by rw [hSq28.1.alike.findClass]; exact hown27
      refine own_st (fun _ kt => st28.trans kt) ?_
      have Yq28_b3 := CB28.safe Bd21_x27.lt Yq27_b3
      have O0_x28 := O0_x27.keep K28 all0
      have CR0_x28 := CR0_x27.trans CB28
      have Wv1_x28 := Wv1_x27.keep0 K28
      have Wv2_x28 := Wv2_x27.keep0 K28
      have Sg5_x28 := Sg5_x27.keep0 K28
      have Es6_x28 := Es6_x27.keep K28
      have Fc6_x28 := Fc6_x27.keep K28 nin0
      have Fv6_x28 := Fv6_x27.keep K28 nin0
      have Va6_x28 := Va6_x27.keep K28 nin0
      have Bd21_x28 := Bd21_x27.keep0 K28
      have Es22_x28 := Es22_x27.keep K28
      have Fc22_x28 := Fc22_x27.keep K28 nin0
      have Fv22_x28 := Fv22_x27.keep K28 nin0
      have Va22_x28 := Va22_x27.keep K28 nin0
      have Sg23_x28 := Sg23_x27.keep0 K28
      have Sg24_x28 := Sg24_x27.keep0 K28
      have Ersg23_x28 := Ersg23_x27.keep K28
      have Sg27_x28 := Sg27.keep0 K28
      show own_Rch p e below _ T28 (mkF m 154 #[.val (.int p0), .val (.int p1), .val (.int p2), .val (.int p3), .val (.int p4), .val (.int (p0 &&& (3 : Int32))), .val (.int (((p0.toUInt32 >>> ((2 : Int32) &&& 31).toUInt32).toInt32) &&& (3 : Int32))), .val va1, .val va2, .val (.ref b3), .val (.ref sg5), .val (.int (1 : Int32)), .val (.ref sg23), .val (.ref sg24), .val (.ref sg27), .unset] [(.ref sg28)])
      refine own_st (fun _ kt => XS.astore X28.here hx rfl (hb hby at_154) rfl rfl (l' := #[.val (.int p0), .val (.int p1), .val (.int p2), .val (.int p3), .val (.int p4), .val (.int (p0 &&& (3 : Int32))), .val (.int (((p0.toUInt32 >>> ((2 : Int32) &&& 31).toUInt32).toInt32) &&& (3 : Int32))), .val va1, .val va2, .val (.ref b3), .val (.ref sg5), .val (.int (1 : Int32)), .val (.ref sg23), .val (.ref sg24), .val (.ref sg27), .val (.ref sg28)]) rfl kt) ?_
      show own_Rch p e below _ T28 (mkF m 156 #[.val (.int p0), .val (.int p1), .val (.int p2), .val (.int p3), .val (.int p4), .val (.int (p0 &&& (3 : Int32))), .val (.int (((p0.toUInt32 >>> ((2 : Int32) &&& 31).toUInt32).toInt32) &&& (3 : Int32))), .val va1, .val va2, .val (.ref b3), .val (.ref sg5), .val (.int (1 : Int32)), .val (.ref sg23), .val (.ref sg24), .val (.ref sg27), .val (.ref sg28)] [])
      refine own_st (fun _ kt => XS.iload X28.here hx rfl (hb hby at_156) rfl  kt) ?_
      show own_Rch p e below _ T28 (mkF m 158 #[.val (.int p0), .val (.int p1), .val (.int p2), .val (.int p3), .val (.int p4), .val (.int (p0 &&& (3 : Int32))), .val (.int (((p0.toUInt32 >>> ((2 : Int32) &&& 31).toUInt32).toInt32) &&& (3 : Int32))), .val va1, .val va2, .val (.ref b3), .val (.ref sg5), .val (.int (1 : Int32)), .val (.ref sg23), .val (.ref sg24), .val (.ref sg27), .val (.ref sg28)] [(.int (1 : Int32))])
      refine own_st (fun _ kt => XS.ifNo X28.here hx rfl (hb hby at_158) rfl ((if0 _ _).trans (feq ((by decide) : ¬ ((1 : Int32) = (0 : Int32)))).1) kt) ?_
      show own_Rch p e below _ T28 (mkF m 161 #[.val (.int p0), .val (.int p1), .val (.int p2), .val (.int p3), .val (.int p4), .val (.int (p0 &&& (3 : Int32))), .val (.int (((p0.toUInt32 >>> ((2 : Int32) &&& 31).toUInt32).toInt32) &&& (3 : Int32))), .val va1, .val va2, .val (.ref b3), .val (.ref sg5), .val (.int (1 : Int32)), .val (.ref sg23), .val (.ref sg24), .val (.ref sg27), .val (.ref sg28)] [])
      refine own_st (fun _ kt => XS.aload X28.here hx rfl (hb hby at_161) rfl rfl  kt) ?_
      show own_Rch p e below _ T28 (mkF m 163 #[.val (.int p0), .val (.int p1), .val (.int p2), .val (.int p3), .val (.int p4), .val (.int (p0 &&& (3 : Int32))), .val (.int (((p0.toUInt32 >>> ((2 : Int32) &&& 31).toUInt32).toInt32) &&& (3 : Int32))), .val va1, .val va2, .val (.ref b3), .val (.ref sg5), .val (.int (1 : Int32)), .val (.ref sg23), .val (.ref sg24), .val (.ref sg27), .val (.ref sg28)] [(.ref sg28)])
      refine own_st (fun _ kt => XS.ifnullNo X28.here hx rfl (hb hby at_163) rfl kt) ?_
      show own_Rch p e below _ T28 (mkF m 166 #[.val (.int p0), .val (.int p1), .val (.int p2), .val (.int p3), .val (.int p4), .val (.int (p0 &&& (3 : Int32))), .val (.int (((p0.toUInt32 >>> ((2 : Int32) &&& 31).toUInt32).toInt32) &&& (3 : Int32))), .val va1, .val va2, .val (.ref b3), .val (.ref sg5), .val (.int (1 : Int32)), .val (.ref sg23), .val (.ref sg24), .val (.ref sg27), .val (.ref sg28)] [])
      refine own_st (fun _ kt => XS.aload X28.here hx rfl (hb hby at_166) rfl rfl  kt) ?_
      show own_Rch p e below _ T28 (mkF m 168 #[.val (.int p0), .val (.int p1), .val (.int p2), .val (.int p3), .val (.int p4), .val (.int (p0 &&& (3 : Int32))), .val (.int (((p0.toUInt32 >>> ((2 : Int32) &&& 31).toUInt32).toInt32) &&& (3 : Int32))), .val va1, .val va2, .val (.ref b3), .val (.ref sg5), .val (.int (1 : Int32)), .val (.ref sg23), .val (.ref sg24), .val (.ref sg27), .val (.ref sg28)] [(.ref sg27)])
      refine own_st (fun _ kt => XS.aload X28.here hx rfl (hb hby at_168) rfl rfl  kt) ?_
      show own_Rch p e below _ T28 (mkF m 170 #[.val (.int p0), .val (.int p1), .val (.int p2), .val (.int p3), .val (.int p4), .val (.int (p0 &&& (3 : Int32))), .val (.int (((p0.toUInt32 >>> ((2 : Int32) &&& 31).toUInt32).toInt32) &&& (3 : Int32))), .val va1, .val va2, .val (.ref b3), .val (.ref sg5), .val (.int (1 : Int32)), .val (.ref sg23), .val (.ref sg24), .val (.ref sg27), .val (.ref sg28)] [(.ref sg28), (.ref sg27)])
      have Ersg27 : Exa Z T28.heap sg27 "java/lang/String" := by obtain ⟨_, _, q, -⟩ := Sg27_x28; exact q
      obtain ⟨cq29, kq29, q29a, q29b, q29c⟩ := isOf hZ28 rfl Ersg27
      obtain ⟨_, _, ⟨T29, L29, k29, n29⟩, -, X29, ⟨Lc29, hQ29, l29, y29, z29⟩, st29⟩ := X28.virtualBack hx (y := (⟨"java/lang/String", "equals", "(Ljava/lang/Object;)Z"⟩ : MethodName)) (z := (⟨"java/lang/String", "equals", "(Ljava/lang/Object;)Z"⟩ : MethodName)) hown28 (mvT hZ28 (hw _ (List.mem_of_getElem? (i := 72) rfl))) (mvT hZ28 (hw _ (List.mem_of_getElem? (i := 73) rfl))) (notFace_of_selects (args := #[]) (mvT hZ28 (hw _ (List.mem_of_getElem? (i := 75) rfl)))) (mvT hZ28 (hw _ (List.mem_of_getElem? (i := 75) rfl))) (mvT hZ28 (hw _ (List.mem_of_getElem? (i := 74) rfl))) (by decide) (backOf (W := 0) (own_eqT l Z a0 hw [] sg27 sg28 lv1 cs T28.heap n0 O0_x28 SC hcs Sg27_x28 Sg28 Wv1_x28.ok) hZ28 (hw _ (List.mem_of_getElem? (i := 76) rfl)) (hw _ (List.mem_of_getElem? (i := 9) rfl)) (by decide) (by decide)) q29a q29c (g := (mkF m 170 #[.val (.int p0), .val (.int p1), .val (.int p2), .val (.int p3), .val (.int p4), .val (.int (p0 &&& (3 : Int32))), .val (.int (((p0.toUInt32 >>> ((2 : Int32) &&& 31).toUInt32).toInt32) &&& (3 : Int32))), .val va1, .val va2, .val (.ref b3), .val (.ref sg5), .val (.int (1 : Int32)), .val (.ref sg23), .val (.ref sg24), .val (.ref sg27), .val (.ref sg28)] [(.ref sg28), (.ref sg27)])) rfl (by rw [hml]; rfl) (Steps.refl _) (argsL := [(.ref sg28)]) (rest := []) (lenOf own_pd8 rfl) rfl (by show 2 * 0 + _ ≤ _; exact Nat.le_of_eq rfl) (hb hby at_170) (fun _ _ => ⟨rfl, rfl, (by decide : 27 + 0 ≤ _), (by decide : 464 + 0 ≤ _)⟩)
      dsimp only [Pt.U, Pt.locs, Pt.cells, Pt.slots] at X29 l29 y29 z29 st29 hQ29
      subst l29 y29 z29
      obtain ⟨rfl, N29q, hh29⟩ := hQ29
      have N29 := Fr.app N28 N29q
      refine own_st (fun _ kt => st29.trans kt) ?_
      show own_Rch p e below _ T29 (mkF m 173 #[.val (.int p0), .val (.int p1), .val (.int p2), .val (.int p3), .val (.int p4), .val (.int (p0 &&& (3 : Int32))), .val (.int (((p0.toUInt32 >>> ((2 : Int32) &&& 31).toUInt32).toInt32) &&& (3 : Int32))), .val va1, .val va2, .val (.ref b3), .val (.ref sg5), .val (.int (1 : Int32)), .val (.ref sg23), .val (.ref sg24), .val (.ref sg27), .val (.ref sg28)] [(.int (1 : Int32))])
      refine own_st (fun _ kt => XS.ifNo X29.here hx rfl (hb hby at_173) rfl ((if0 _ _).trans (feq ((by decide) : ¬ ((1 : Int32) = (0 : Int32)))).1) kt) ?_
      show own_Rch p e below _ T29 (mkF m 176 #[.val (.int p0), .val (.int p1), .val (.int p2), .val (.int p3), .val (.int p4), .val (.int (p0 &&& (3 : Int32))), .val (.int (((p0.toUInt32 >>> ((2 : Int32) &&& 31).toUInt32).toInt32) &&& (3 : Int32))), .val va1, .val va2, .val (.ref b3), .val (.ref sg5), .val (.int (1 : Int32)), .val (.ref sg23), .val (.ref sg24), .val (.ref sg27), .val (.ref sg28)] [])
      refine own_st (fun _ kt => XS.iconst X29.here hx rfl (hb hby at_176) kt) ?_
      show own_Rch p e below _ T29 (mkF m 177 #[.val (.int p0), .val (.int p1), .val (.int p2), .val (.int p3), .val (.int p4), .val (.int (p0 &&& (3 : Int32))), .val (.int (((p0.toUInt32 >>> ((2 : Int32) &&& 31).toUInt32).toInt32) &&& (3 : Int32))), .val va1, .val va2, .val (.ref b3), .val (.ref sg5), .val (.int (1 : Int32)), .val (.ref sg23), .val (.ref sg24), .val (.ref sg27), .val (.ref sg28)] [(.int (1 : Int32))])
      refine own_st (fun _ kt => XS.goto X29.here hx rfl (pc0 := 177) (pc' := 181) rfl (hb hby at_177) (by decide) (by decide) kt) ?_
      show own_Rch p e below _ T29 (mkF m 181 #[.val (.int p0), .val (.int p1), .val (.int p2), .val (.int p3), .val (.int p4), .val (.int (p0 &&& (3 : Int32))), .val (.int (((p0.toUInt32 >>> ((2 : Int32) &&& 31).toUInt32).toInt32) &&& (3 : Int32))), .val va1, .val va2, .val (.ref b3), .val (.ref sg5), .val (.int (1 : Int32)), .val (.ref sg23), .val (.ref sg24), .val (.ref sg27), .val (.ref sg28)] [(.int (1 : Int32))])
      refine own_retNH (t := .boolean) (by simp) (by rw [hh0, hh29]; exact CR0_x28.trans (CHv.at (s := s) X29 hZ28 (own_hEL hw) CR0_x28.1)) (s := s) hS28 (by rw [hh29]; exact (Nat.le_refl T28.heap.size)) X29 hx Bd.notSynchronized Bd.returns (hb hby at_181) (by decide) (by decide) ?_
      rw [hh29]
      exact ⟨rfl, N29⟩
    · -- pc 128: False
      refine own_st (fun _ kt => XS.ifNo X25.here hx rfl (hb hby at_128) rfl ((if0 _ _).trans (feq hc128_26).1) kt) ?_
      show own_Rch p e below _ T25 (mkF m 131 #[.val (.int p0), .val (.int p1), .val (.int p2), .val (.int p3), .val (.int p4), .val (.int (p0 &&& (3 : Int32))), .val (.int (((p0.toUInt32 >>> ((2 : Int32) &&& 31).toUInt32).toInt32) &&& (3 : Int32))), .val va1, .val va2, .val (.ref b3), .val (.ref sg5), .val (.int (1 : Int32)), .val (.ref sg23), .val (.ref sg24), .unset, .unset] [])
      refine own_st (fun _ kt => XS.aload X25.here hx rfl (hb hby at_131) rfl rfl  kt) ?_
      show own_Rch p e below _ T25 (mkF m 133 #[.val (.int p0), .val (.int p1), .val (.int p2), .val (.int p3), .val (.int p4), .val (.int (p0 &&& (3 : Int32))), .val (.int (((p0.toUInt32 >>> ((2 : Int32) &&& 31).toUInt32).toInt32) &&& (3 : Int32))), .val va1, .val va2, .val (.ref b3), .val (.ref sg5), .val (.int (1 : Int32)), .val (.ref sg23), .val (.ref sg24), .unset, .unset] [(.ref b3)])
      refine own_st (fun _ kt => XS.aload X25.here hx rfl (hb hby at_133) rfl (Wv2.ref)  kt) ?_
      show own_Rch p e below _ T25 (mkF m 135 #[.val (.int p0), .val (.int p1), .val (.int p2), .val (.int p3), .val (.int p4), .val (.int (p0 &&& (3 : Int32))), .val (.int (((p0.toUInt32 >>> ((2 : Int32) &&& 31).toUInt32).toInt32) &&& (3 : Int32))), .val va1, .val va2, .val (.ref b3), .val (.ref sg5), .val (.int (1 : Int32)), .val (.ref sg23), .val (.ref sg24), .unset, .unset] [va2, (.ref b3)])
      obtain ⟨cq30, kq30, q30a, q30b, q30c⟩ := isOf hZ24 hh25 (Bd21_x24).1
      obtain ⟨_, _, ⟨T30, L30, k30, n30⟩, -, X30, hSq30, hg30, ⟨Lc30, hQ30, l30, y30, z30, CB30⟩, st30⟩ := X25.virtualBackS hx (y := (⟨"com/example/cicada/cicada/BeanDefinition", "setScope", "(Ljava/lang/String;)V"⟩ : MethodName)) (z := (⟨"com/example/cicada/cicada/BeanDefinition", "setScope", "(Ljava/lang/String;)V"⟩ : MethodName)) hown24 (mvT hZ24 (hw _ (List.mem_of_getElem? (i := 81) rfl))) (mvT hZ24 (hw _ (List.mem_of_getElem? (i := 82) rfl))) (notFace_of_selects (args := #[]) (mvT hZ24 (hw _ (List.mem_of_getElem? (i := 84) rfl)))) (mvT hZ24 (hw _ (List.mem_of_getElem? (i := 84) rfl))) (mvT hZ24 (hw _ (List.mem_of_getElem? (i := 83) rfl))) (by decide) (backOfSH (s := s) (W := 0) (own_set l Z a0 hw [] b3 va2 lv1 lv2 cs T24.heap n0 O0_x24 SC hcs Bd21_x24 ge3 Wv2_x24) hZ24 (hw _ (List.mem_of_getElem? (i := 85) rfl)) (hw _ (List.mem_of_getElem? (i := 39) rfl)) (by decide) (by decide) (own_hEL hw) CR0_x24.1) q30a q30c (g := (mkF m 135 #[.val (.int p0), .val (.int p1), .val (.int p2), .val (.int p3), .val (.int p4), .val (.int (p0 &&& (3 : Int32))), .val (.int (((p0.toUInt32 >>> ((2 : Int32) &&& 31).toUInt32).toInt32) &&& (3 : Int32))), .val va1, .val va2, .val (.ref b3), .val (.ref sg5), .val (.int (1 : Int32)), .val (.ref sg23), .val (.ref sg24), .unset, .unset] [va2, (.ref b3)])) rfl (by rw [hml]; rfl) (Steps.refl _) (argsL := [va2]) (rest := []) (lenOf own_pd13 rfl) rfl (by show 2 * 0 + _ ≤ _; exact Nat.le_of_eq rfl) (hb hby at_135) (fun _ _ => ⟨rfl, hh25, (by decide : 23 + 4 ≤ _), (by decide : 384 + 80 ≤ _)⟩)
      dsimp only [Pt.U, Pt.locs, Pt.cells, Pt.slots] at X30 l30 y30 z30 st30 hQ30 hSq30 hg30 CB30
      subst l30 y30 z30
      obtain ⟨rfl, N30q, K30, Bd30⟩ := hQ30
      have N30 := Fr.app N25 N30q
      have hS30 := foldS (s := s) hS24 (by rw [hh25]; exact (Nat.le_refl T24.heap.size)) hSq30 hg30
      have hZ30 : Z.Warmed39 T30.vm := State.Warmed39.trans (t := s.setVm T24.vm) hZ24 hSq30.1
      have hown30 : T30.vm.findClass "com/example/cicada/cicada/BeanDefinitionGetScopePinLaw" = some m.cls := by rw [hSq30.1.alike.findClass]; exact hown24
      refine own_st (fun _ kt => st30.trans kt) ?_
      have Yq30_b3 := CB30.safe Bd21_x24.lt Yq24_b3
      have O0_x30 := O0_x24.keep K30 (allS ge3 all0)
      have CR0_x30 := CR0_x24.trans CB30
      have Wv1_x30 := Wv1_x24.keep1 K30 Bd21_x24.1 (by decide) (hw _ (List.mem_of_getElem? (i := 38) rfl))
      have Wv2_x30 := Wv2_x24.keep1 K30 Bd21_x24.1 (by decide) (hw _ (List.mem_of_getElem? (i := 38) rfl))
      have Sg5_x30 := Sg5_x24.keep1 K30 Bd21_x24.1 (by decide) (hw _ (List.mem_of_getElem? (i := 38) rfl))
      have Es6_x30 := Es6_x24.keep K30
      have Fc6_x30 := Fc6_x24.keep K30 (ninS (Ne.symm nq6_b3.1) nin0)
      have Fv6_x30 := Fv6_x24.keep K30 (ninS (Ne.symm nq6_b3.1) nin0)
      have Va6_x30 := Va6_x24.keep K30 (ninS (Ne.symm nq6_b3.2) nin0)
      have Es22_x30 := Es22_x24.keep K30
      have Fc22_x30 := Fc22_x24.keep K30 (ninS (Ne.symm nq22_b3.1) nin0)
      have Fv22_x30 := Fv22_x24.keep K30 (ninS (Ne.symm nq22_b3.1) nin0)
      have Va22_x30 := Va22_x24.keep K30 (ninS (Ne.symm nq22_b3.2) nin0)
      have Sg23_x30 := Sg23_x24.keep1 K30 Bd21_x24.1 (by decide) (hw _ (List.mem_of_getElem? (i := 38) rfl))
      have Sg24_x30 := Sg24.keep1 K30 Bd21_x24.1 (by decide) (hw _ (List.mem_of_getElem? (i := 38) rfl))
      have Ersg23_x30 := Ersg23.keep K30
      show own_Rch p e below _ T30 (mkF m 138 #[.val (.int p0), .val (.int p1), .val (.int p2), .val (.int p3), .val (.int p4), .val (.int (p0 &&& (3 : Int32))), .val (.int (((p0.toUInt32 >>> ((2 : Int32) &&& 31).toUInt32).toInt32) &&& (3 : Int32))), .val va1, .val va2, .val (.ref b3), .val (.ref sg5), .val (.int (1 : Int32)), .val (.ref sg23), .val (.ref sg24), .unset, .unset] [])
      refine own_st (fun _ kt => XS.aload X30.here hx rfl (hb hby at_138) rfl rfl  kt) ?_
      show own_Rch p e below _ T30 (mkF m 140 #[.val (.int p0), .val (.int p1), .val (.int p2), .val (.int p3), .val (.int p4), .val (.int (p0 &&& (3 : Int32))), .val (.int (((p0.toUInt32 >>> ((2 : Int32) &&& 31).toUInt32).toInt32) &&& (3 : Int32))), .val va1, .val va2, .val (.ref b3), .val (.ref sg5), .val (.int (1 : Int32)), .val (.ref sg23), .val (.ref sg24), .unset, .unset] [(.ref sg23)])
      refine own_st (fun _ kt => XS.iload X30.here hx rfl (hb hby at_140) rfl  kt) ?_
      show own_Rch p e below _ T30 (mkF m 142 #[.val (.int p0), .val (.int p1), .val (.int p2), .val (.int p3), .val (.int p4), .val (.int (p0 &&& (3 : Int32))), .val (.int (((p0.toUInt32 >>> ((2 : Int32) &&& 31).toUInt32).toInt32) &&& (3 : Int32))), .val va1, .val va2, .val (.ref b3), .val (.ref sg5), .val (.int (1 : Int32)), .val (.ref sg23), .val (.ref sg24), .unset, .unset] [(.int (((p0.toUInt32 >>> ((2 : Int32) &&& 31).toUInt32).toInt32) &&& (3 : Int32))), (.ref sg23)])
      refine own_st (fun _ kt => XS.aload X30.here hx rfl (hb hby at_142) rfl (Wv2.ref)  kt) ?_
      show own_Rch p e below _ T30 (mkF m 144 #[.val (.int p0), .val (.int p1), .val (.int p2), .val (.int p3), .val (.int p4), .val (.int (p0 &&& (3 : Int32))), .val (.int (((p0.toUInt32 >>> ((2 : Int32) &&& 31).toUInt32).toInt32) &&& (3 : Int32))), .val va1, .val va2, .val (.ref b3), .val (.ref sg5), .val (.int (1 : Int32)), .val (.ref sg23), .val (.ref sg24), .unset, .unset] [va2, (.int (((p0.toUInt32 >>> ((2 : Int32) &&& 31).toUInt32).toInt32) &&& (3 : Int32))), (.ref sg23)])
      obtain ⟨_, _, ⟨T31, L31, k31, n31⟩, -, X31, hSq31, hg31, ⟨Lc31, hQ31, l31, y31, z31, CB31⟩, st31⟩ := callSS X30 hx (y := (⟨"com/example/cicada/cicada/BeanDefinitionGetScopePinLaw", "after", "(Ljava/lang/String;ILjava/lang/String;)Ljava/lang/String;"⟩ : MethodName)) hown30 (mvT hZ30 (hw _ (List.mem_of_getElem? (i := 77) rfl))) (mvT hZ30 (hw _ (List.mem_of_getElem? (i := 78) rfl))) (mvT hZ30 (hw _ (List.mem_of_getElem? (i := 2) rfl))) (mvT hZ30 (hw _ (List.mem_of_getElem? (i := 79) rfl))) (by decide) (backOfSH (s := s) (W := 0) (own_after l Z a0 hw [] sg23 (((p0.toUInt32 >>> ((2 : Int32) &&& 31).toUInt32).toInt32) &&& (3 : Int32)) va2 lv1 lv2 lv2 T30.heap n0 O0_x30 Sg23_x30 Wv2_x30 (Or.inr ⟨hc128_26, rfl⟩)) hZ30 (hw _ (List.mem_of_getElem? (i := 79) rfl)) (hw _ (List.mem_of_getElem? (i := 2) rfl)) (by decide) (by decide) (own_hEL hw) CR0_x30.1) (g := (mkF m 144 #[.val (.int p0), .val (.int p1), .val (.int p2), .val (.int p3), .val (.int p4), .val (.int (p0 &&& (3 : Int32))), .val (.int (((p0.toUInt32 >>> ((2 : Int32) &&& 31).toUInt32).toInt32) &&& (3 : Int32))), .val va1, .val va2, .val (.ref b3), .val (.ref sg5), .val (.int (1 : Int32)), .val (.ref sg23), .val (.ref sg24), .unset, .unset] [va2, (.int (((p0.toUInt32 >>> ((2 : Int32) &&& 31).toUInt32).toInt32) &&& (3 : Int32))), (.ref sg23)])) rfl (by rw [hml]; rfl) (argsL := [(.ref sg23), (.int (((p0.toUInt32 >>> ((2 : Int32) &&& 31).toUInt32).toInt32) &&& (3 : Int32))), va2]) (rest := []) (lenOf own_pd12 rfl) rfl (by show 2 * 0 + _ ≤ _; exact Nat.le_of_eq rfl) (hb hby at_144) (fun _ _ => ⟨rfl, rfl, (by decide : 27 + 2 ≤ _), (by decide : 464 + 40 ≤ _)⟩)
      dsimp only [Pt.U, Pt.locs, Pt.cells, Pt.slots] at X31 l31 y31 z31 st31 hQ31 hSq31 hg31 CB31
      subst l31 y31 z31
      obtain ⟨sg31, rfl, N31q, K31, Sg31⟩ := hQ31
      have N31 := Fr.app N30 N31q
      have hS31 := foldS (s := s) hS30 (Nat.le_refl T30.heap.size) hSq31 hg31
      have hZ31 : Z.Warmed39 T31.vm := State.Warmed39.trans (t := s.setVm T30.vm) hZ30 hSq31.1
      have hown31 : T31.vm.findClass "com/example/cicada/cicada/BeanDefinitionGetScopePinLaw" = some m.cls := by rw [hSq31.1.alike.findClass]; exact hown30
      refine own_st (fun _ kt => st31.trans kt) ?_
      have Yq31_b3 := CB31.safe Bd30.lt Yq30_b3
      have O0_x31 := O0_x30.keep K31 all0
      have CR0_x31 := CR0_x30.trans CB31
      have Wv1_x31 := Wv1_x30.keep0 K31
      have Wv2_x31 := Wv2_x30.keep0 K31
      have Sg5_x31 := Sg5_x30.keep0 K31
      have Es6_x31 := Es6_x30.keep K31
      have Fc6_x31 := Fc6_x30.keep K31 nin0
      have Fv6_x31 := Fv6_x30.keep K31 nin0
      have Va6_x31 := Va6_x30.keep K31 nin0
      have Es22_x31 := Es22_x30.keep K31
      have Fc22_x31 := Fc22_x30.keep K31 nin0
      have Fv22_x31 := Fv22_x30.keep K31 nin0
      have Va22_x31 := Va22_x30.keep K31 nin0
      have Sg23_x31 := Sg23_x30.keep0 K31
      have Sg24_x31 := Sg24_x30.keep0 K31
      have Ersg23_x31 := Ersg23_x30.keep K31
      have Bd30_x31 := Bd30.keep0 K31
      show own_Rch p e below _ T31 (mkF m 147 #[.val (.int p0), .val (.int p1), .val (.int p2), .val (.int p3), .val (.int p4), .val (.int (p0 &&& (3 : Int32))), .val (.int (((p0.toUInt32 >>> ((2 : Int32) &&& 31).toUInt32).toInt32) &&& (3 : Int32))), .val va1, .val va2, .val (.ref b3), .val (.ref sg5), .val (.int (1 : Int32)), .val (.ref sg23), .val (.ref sg24), .unset, .unset] [(.ref sg31)])
      refine own_st (fun _ kt => XS.astore X31.here hx rfl (hb hby at_147) rfl rfl (l' := #[.val (.int p0), .val (.int p1), .val (.int p2), .val (.int p3), .val (.int p4), .val (.int (p0 &&& (3 : Int32))), .val (.int (((p0.toUInt32 >>> ((2 : Int32) &&& 31).toUInt32).toInt32) &&& (3 : Int32))), .val va1, .val va2, .val (.ref b3), .val (.ref sg5), .val (.int (1 : Int32)), .val (.ref sg23), .val (.ref sg24), .val (.ref sg31), .unset]) rfl kt) ?_
      show own_Rch p e below _ T31 (mkF m 149 #[.val (.int p0), .val (.int p1), .val (.int p2), .val (.int p3), .val (.int p4), .val (.int (p0 &&& (3 : Int32))), .val (.int (((p0.toUInt32 >>> ((2 : Int32) &&& 31).toUInt32).toInt32) &&& (3 : Int32))), .val va1, .val va2, .val (.ref b3), .val (.ref sg5), .val (.int (1 : Int32)), .val (.ref sg23), .val (.ref sg24), .val (.ref sg31), .unset] [])
      refine own_st (fun _ kt => XS.aload X31.here hx rfl (hb hby at_149) rfl rfl  kt) ?_
      show own_Rch p e below _ T31 (mkF m 151 #[.val (.int p0), .val (.int p1), .val (.int p2), .val (.int p3), .val (.int p4), .val (.int (p0 &&& (3 : Int32))), .val (.int (((p0.toUInt32 >>> ((2 : Int32) &&& 31).toUInt32).toInt32) &&& (3 : Int32))), .val va1, .val va2, .val (.ref b3), .val (.ref sg5), .val (.int (1 : Int32)), .val (.ref sg23), .val (.ref sg24), .val (.ref sg31), .unset] [(.ref b3)])
      obtain ⟨cq32, kq32, q32a, q32b, q32c⟩ := isOf hZ31 rfl (Bd30_x31).1
      obtain ⟨_, _, ⟨T32, L32, k32, n32⟩, -, X32, hSq32, hg32, ⟨Lc32, hQ32, l32, y32, z32, CB32⟩, st32⟩ := X31.virtualBackS hx (y := (⟨"com/example/cicada/cicada/BeanDefinition", "getScope", "()Ljava/lang/String;"⟩ : MethodName)) (z := (⟨"com/example/cicada/cicada/BeanDefinition", "getScope", "()Ljava/lang/String;"⟩ : MethodName)) hown31 (mvT hZ31 (hw _ (List.mem_of_getElem? (i := 61) rfl))) (mvT hZ31 (hw _ (List.mem_of_getElem? (i := 62) rfl))) (notFace_of_selects (args := #[]) (mvT hZ31 (hw _ (List.mem_of_getElem? (i := 64) rfl)))) (mvT hZ31 (hw _ (List.mem_of_getElem? (i := 64) rfl))) (mvT hZ31 (hw _ (List.mem_of_getElem? (i := 63) rfl))) (by decide) (backOfSH (s := s) (W := 0) (own_get l Z a0 hw [] b3 lv2 T31.heap n0 O0_x31 Bd30_x31) hZ31 (hw _ (List.mem_of_getElem? (i := 65) rfl)) (hw _ (List.mem_of_getElem? (i := 39) rfl)) (by decide) (by decide) (own_hEL hw) CR0_x31.1) q32a q32c (g := (mkF m 151 #[.val (.int p0), .val (.int p1), .val (.int p2), .val (.int p3), .val (.int p4), .val (.int (p0 &&& (3 : Int32))), .val (.int (((p0.toUInt32 >>> ((2 : Int32) &&& 31).toUInt32).toInt32) &&& (3 : Int32))), .val va1, .val va2, .val (.ref b3), .val (.ref sg5), .val (.int (1 : Int32)), .val (.ref sg23), .val (.ref sg24), .val (.ref sg31), .unset] [(.ref b3)])) rfl (by rw [hml]; rfl) (Steps.refl _) (argsL := []) (rest := []) (lenOf own_pd11 rfl) rfl (by show 2 * 0 + _ ≤ _; exact Nat.le_of_eq rfl) (hb hby at_151) (fun _ _ => ⟨rfl, rfl, (by decide : 29 + 2 ≤ _), (by decide : 504 + 40 ≤ _)⟩)
      dsimp only [Pt.U, Pt.locs, Pt.cells, Pt.slots] at X32 l32 y32 z32 st32 hQ32 hSq32 hg32 CB32
      subst l32 y32 z32
      obtain ⟨sg32, rfl, N32q, K32, Sg32⟩ := hQ32
      have N32 := Fr.app N31 N32q
      have hS32 := foldS (s := s) hS31 (Nat.le_refl T31.heap.size) hSq32 hg32
      have hZ32 : Z.Warmed39 T32.vm := State.Warmed39.trans (t := s.setVm T31.vm) hZ31 hSq32.1
      have hown32 : T32.vm.findClass "com/example/cicada/cicada/BeanDefinitionGetScopePinLaw" = some m.cls := by rw [hSq32.1.alike.findClass]; exact hown31
      refine own_st (fun _ kt => st32.trans kt) ?_
      have Yq32_b3 := CB32.safe Bd30_x31.lt Yq31_b3
      have O0_x32 := O0_x31.keep K32 all0
      have CR0_x32 := CR0_x31.trans CB32
      have Wv1_x32 := Wv1_x31.keep0 K32
      have Wv2_x32 := Wv2_x31.keep0 K32
      have Sg5_x32 := Sg5_x31.keep0 K32
      have Es6_x32 := Es6_x31.keep K32
      have Fc6_x32 := Fc6_x31.keep K32 nin0
      have Fv6_x32 := Fv6_x31.keep K32 nin0
      have Va6_x32 := Va6_x31.keep K32 nin0
      have Es22_x32 := Es22_x31.keep K32
      have Fc22_x32 := Fc22_x31.keep K32 nin0
      have Fv22_x32 := Fv22_x31.keep K32 nin0
      have Va22_x32 := Va22_x31.keep K32 nin0
      have Sg23_x32 := Sg23_x31.keep0 K32
      have Sg24_x32 := Sg24_x31.keep0 K32
      have Ersg23_x32 := Ersg23_x31.keep K32
      have Bd30_x32 := Bd30_x31.keep0 K32
      have Sg31_x32 := Sg31.keep0 K32
      show own_Rch p e below _ T32 (mkF m 154 #[.val (.int p0), .val (.int p1), .val (.int p2), .val (.int p3), .val (.int p4), .val (.int (p0 &&& (3 : Int32))), .val (.int (((p0.toUInt32 >>> ((2 : Int32) &&& 31).toUInt32).toInt32) &&& (3 : Int32))), .val va1, .val va2, .val (.ref b3), .val (.ref sg5), .val (.int (1 : Int32)), .val (.ref sg23), .val (.ref sg24), .val (.ref sg31), .unset] [(.ref sg32)])
      refine own_st (fun _ kt => XS.astore X32.here hx rfl (hb hby at_154) rfl rfl (l' := #[.val (.int p0), .val (.int p1), .val (.int p2), .val (.int p3), .val (.int p4), .val (.int (p0 &&& (3 : Int32))), .val (.int (((p0.toUInt32 >>> ((2 : Int32) &&& 31).toUInt32).toInt32) &&& (3 : Int32))), .val va1, .val va2, .val (.ref b3), .val (.ref sg5), .val (.int (1 : Int32)), .val (.ref sg23), .val (.ref sg24), .val (.ref sg31), .val (.ref sg32)]) rfl kt) ?_
      show own_Rch p e below _ T32 (mkF m 156 #[.val (.int p0), .val (.int p1), .val (.int p2), .val (.int p3), .val (.int p4), .val (.int (p0 &&& (3 : Int32))), .val (.int (((p0.toUInt32 >>> ((2 : Int32) &&& 31).toUInt32).toInt32) &&& (3 : Int32))), .val va1, .val va2, .val (.ref b3), .val (.ref sg5), .val (.int (1 : Int32)), .val (.ref sg23), .val (.ref sg24), .val (.ref sg31), .val (.ref sg32)] [])
      refine own_st (fun _ kt => XS.iload X32.here hx rfl (hb hby at_156) rfl  kt) ?_
      show own_Rch p e below _ T32 (mkF m 158 #[.val (.int p0), .val (.int p1), .val (.int p2), .val (.int p3), .val (.int p4), .val (.int (p0 &&& (3 : Int32))), .val (.int (((p0.toUInt32 >>> ((2 : Int32) &&& 31).toUInt32).toInt32) &&& (3 : Int32))), .val va1, .val va2, .val (.ref b3), .val (.ref sg5), .val (.int (1 : Int32)), .val (.ref sg23), .val (.ref sg24), .val (.ref sg31), .val (.ref sg32)] [(.int (1 : Int32))])
      refine own_st (fun _ kt => XS.ifNo X32.here hx rfl (hb hby at_158) rfl ((if0 _ _).trans (feq ((by decide) : ¬ ((1 : Int32) = (0 : Int32)))).1) kt) ?_
      show own_Rch p e below _ T32 (mkF m 161 #[.val (.int p0), .val (.int p1), .val (.int p2), .val (.int p3), .val (.int p4), .val (.int (p0 &&& (3 : Int32))), .val (.int (((p0.toUInt32 >>> ((2 : Int32) &&& 31).toUInt32).toInt32) &&& (3 : Int32))), .val va1, .val va2, .val (.ref b3), .val (.ref sg5), .val (.int (1 : Int32)), .val (.ref sg23), .val (.ref sg24), .val (.ref sg31), .val (.ref sg32)] [])
      refine own_st (fun _ kt => XS.aload X32.here hx rfl (hb hby at_161) rfl rfl  kt) ?_
      show own_Rch p e below _ T32 (mkF m 163 #[.val (.int p0), .val (.int p1), .val (.int p2), .val (.int p3), .val (.int p4), .val (.int (p0 &&& (3 : Int32))), .val (.int (((p0.toUInt32 >>> ((2 : Int32) &&& 31).toUInt32).toInt32) &&& (3 : Int32))), .val va1, .val va2, .val (.ref b3), .val (.ref sg5), .val (.int (1 : Int32)), .val (.ref sg23), .val (.ref sg24), .val (.ref sg31), .val (.ref sg32)] [(.ref sg32)])
      refine own_st (fun _ kt => XS.ifnullNo X32.here hx rfl (hb hby at_163) rfl kt) ?_
      show own_Rch p e below _ T32 (mkF m 166 #[.val (.int p0), .val (.int p1), .val (.int p2), .val (.int p3), .val (.int p4), .val (.int (p0 &&& (3 : Int32))), .val (.int (((p0.toUInt32 >>> ((2 : Int32) &&& 31).toUInt32).toInt32) &&& (3 : Int32))), .val va1, .val va2, .val (.ref b3), .val (.ref sg5), .val (.int (1 : Int32)), .val (.ref sg23), .val (.ref sg24), .val (.ref sg31), .val (.ref sg32)] [])
      refine own_st (fun _ kt => XS.aload X32.here hx rfl (hb hby at_166) rfl rfl  kt) ?_
      show own_Rch p e below _ T32 (mkF m 168 #[.val (.int p0), .val (.int p1), .val (.int p2), .val (.int p3), .val (.int p4), .val (.int (p0 &&& (3 : Int32))), .val (.int (((p0.toUInt32 >>> ((2 : Int32) &&& 31).toUInt32).toInt32) &&& (3 : Int32))), .val va1, .val va2, .val (.ref b3), .val (.ref sg5), .val (.int (1 : Int32)), .val (.ref sg23), .val (.ref sg24), .val (.ref sg31), .val (.ref sg32)] [(.ref sg31)])
      refine own_st (fun _ kt => XS.aload X32.here hx rfl (hb hby at_168) rfl rfl  kt) ?_
      show own_Rch p e below _ T32 (mkF m 170 #[.val (.int p0), .val (.int p1), .val (.int p2), .val (.int p3), .val (.int p4), .val (.int (p0 &&& (3 : Int32))), .val (.int (((p0.toUInt32 >>> ((2 : Int32) &&& 31).toUInt32).toInt32) &&& (3 : Int32))), .val va1, .val va2, .val (.ref b3), .val (.ref sg5), .val (.int (1 : Int32)), .val (.ref sg23), .val (.ref sg24), .val (.ref sg31), .val (.ref sg32)] [(.ref sg32), (.ref sg31)])
      have Ersg31 : Exa Z T32.heap sg31 "java/lang/String" := by obtain ⟨_, _, q, -⟩ := Sg31_x32; exact q
      obtain ⟨cq33, kq33, q33a, q33b, q33c⟩ := isOf hZ32 rfl Ersg31
      obtain ⟨_, _, ⟨T33, L33, k33, n33⟩, -, X33, ⟨Lc33, hQ33, l33, y33, z33⟩, st33⟩ := X32.virtualBack hx (y := (⟨"java/lang/String", "equals", "(Ljava/lang/Object;)Z"⟩ : MethodName)) (z := (⟨"java/lang/String", "equals", "(Ljava/lang/Object;)Z"⟩ : MethodName)) hown32 (mvT hZ32 (hw _ (List.mem_of_getElem? (i := 72) rfl))) (mvT hZ32 (hw _ (List.mem_of_getElem? (i := 73) rfl))) (notFace_of_selects (args := #[]) (mvT hZ32 (hw _ (List.mem_of_getElem? (i := 75) rfl)))) (mvT hZ32 (hw _ (List.mem_of_getElem? (i := 75) rfl))) (mvT hZ32 (hw _ (List.mem_of_getElem? (i := 74) rfl))) (by decide) (backOf (W := 0) (own_eqT l Z a0 hw [] sg31 sg32 lv2 cs T32.heap n0 O0_x32 SC hcs Sg31_x32 Sg32 Wv2_x32.ok) hZ32 (hw _ (List.mem_of_getElem? (i := 76) rfl)) (hw _ (List.mem_of_getElem? (i := 9) rfl)) (by decide) (by decide)) q33a q33c (g := (mkF m 170 #[.val (.int p0), .val (.int p1), .val (.int p2), .val (.int p3), .val (.int p4), .val (.int (p0 &&& (3 : Int32))), .val (.int (((p0.toUInt32 >>> ((2 : Int32) &&& 31).toUInt32).toInt32) &&& (3 : Int32))), .val va1, .val va2, .val (.ref b3), .val (.ref sg5), .val (.int (1 : Int32)), .val (.ref sg23), .val (.ref sg24), .val (.ref sg31), .val (.ref sg32)] [(.ref sg32), (.ref sg31)])) rfl (by rw [hml]; rfl) (Steps.refl _) (argsL := [(.ref sg32)]) (rest := []) (lenOf own_pd8 rfl) rfl (by show 2 * 0 + _ ≤ _; exact Nat.le_of_eq rfl) (hb hby at_170) (fun _ _ => ⟨rfl, rfl, (by decide : 31 + 0 ≤ _), (by decide : 544 + 0 ≤ _)⟩)
      dsimp only [Pt.U, Pt.locs, Pt.cells, Pt.slots] at X33 l33 y33 z33 st33 hQ33
      subst l33 y33 z33
      obtain ⟨rfl, N33q, hh33⟩ := hQ33
      have N33 := Fr.app N32 N33q
      refine own_st (fun _ kt => st33.trans kt) ?_
      show own_Rch p e below _ T33 (mkF m 173 #[.val (.int p0), .val (.int p1), .val (.int p2), .val (.int p3), .val (.int p4), .val (.int (p0 &&& (3 : Int32))), .val (.int (((p0.toUInt32 >>> ((2 : Int32) &&& 31).toUInt32).toInt32) &&& (3 : Int32))), .val va1, .val va2, .val (.ref b3), .val (.ref sg5), .val (.int (1 : Int32)), .val (.ref sg23), .val (.ref sg24), .val (.ref sg31), .val (.ref sg32)] [(.int (1 : Int32))])
      refine own_st (fun _ kt => XS.ifNo X33.here hx rfl (hb hby at_173) rfl ((if0 _ _).trans (feq ((by decide) : ¬ ((1 : Int32) = (0 : Int32)))).1) kt) ?_
      show own_Rch p e below _ T33 (mkF m 176 #[.val (.int p0), .val (.int p1), .val (.int p2), .val (.int p3), .val (.int p4), .val (.int (p0 &&& (3 : Int32))), .val (.int (((p0.toUInt32 >>> ((2 : Int32) &&& 31).toUInt32).toInt32) &&& (3 : Int32))), .val va1, .val va2, .val (.ref b3), .val (.ref sg5), .val (.int (1 : Int32)), .val (.ref sg23), .val (.ref sg24), .val (.ref sg31), .val (.ref sg32)] [])
      refine own_st (fun _ kt => XS.iconst X33.here hx rfl (hb hby at_176) kt) ?_
      show own_Rch p e below _ T33 (mkF m 177 #[.val (.int p0), .val (.int p1), .val (.int p2), .val (.int p3), .val (.int p4), .val (.int (p0 &&& (3 : Int32))), .val (.int (((p0.toUInt32 >>> ((2 : Int32) &&& 31).toUInt32).toInt32) &&& (3 : Int32))), .val va1, .val va2, .val (.ref b3), .val (.ref sg5), .val (.int (1 : Int32)), .val (.ref sg23), .val (.ref sg24), .val (.ref sg31), .val (.ref sg32)] [(.int (1 : Int32))])
      refine own_st (fun _ kt => XS.goto X33.here hx rfl (pc0 := 177) (pc' := 181) rfl (hb hby at_177) (by decide) (by decide) kt) ?_
      show own_Rch p e below _ T33 (mkF m 181 #[.val (.int p0), .val (.int p1), .val (.int p2), .val (.int p3), .val (.int p4), .val (.int (p0 &&& (3 : Int32))), .val (.int (((p0.toUInt32 >>> ((2 : Int32) &&& 31).toUInt32).toInt32) &&& (3 : Int32))), .val va1, .val va2, .val (.ref b3), .val (.ref sg5), .val (.int (1 : Int32)), .val (.ref sg23), .val (.ref sg24), .val (.ref sg31), .val (.ref sg32)] [(.int (1 : Int32))])
      refine own_retNH (t := .boolean) (by simp) (by rw [hh0, hh33]; exact CR0_x32.trans (CHv.at (s := s) X33 hZ32 (own_hEL hw) CR0_x32.1)) (s := s) hS32 (by rw [hh33]; exact (Nat.le_refl T32.heap.size)) X33 hx Bd.notSynchronized Bd.returns (hb hby at_181) (by decide) (by decide) ?_
      rw [hh33]
      exact ⟨rfl, N33⟩
set_option maxRecDepth 65536 in
set_option maxHeartbeats 40000000 in
theorem own_comes {Post : Tables → Env → Array Value → State → Outcome → State → Prop} (hpost : ∀ tb e args s v u, (limb_1_1.after args s (.returned v) u = true ∧ limb_1_2.after args s (.returned v) u = true ∧ True) → ReturnedEndW s (.returned v) u (Jvm.fieldLocs frame_1_writes args s ++ Jvm.arrayLocs frame_1_arrays args s ++ Jvm.staticLocs frame_1_statics s) 32 5312 → Post tb e args s (.returned v) u) :
    ArmFor flags0 classFile x code maxLocals ret World_1 tables_1 room_1 Calls_1 rest_1 Pre_1 Post := by
  intro l hfl _ _ p e ha hc hk s m args below hf hA hF happ hP
  obtain ⟨hcalls, hrest, hpre⟩ := hP
  obtain ⟨-, -, -, hnamed, -, -, -, hat⟩ := (Spec.applies_iff hf).mp happ
  obtain ⟨hg, hn⟩ := and_e (Cond.before_iff.mp (show (Jvm.Cond.and given_1 narrow_1).before args s = true from hpre))
  obtain ⟨g0, g1⟩ := and_e hg
  obtain ⟨g2, g3⟩ := and_e g1
  obtain ⟨g4, g5⟩ := and_e g3
  obtain ⟨g6, g7⟩ := and_e g5
  obtain ⟨g8, g9⟩ := and_e g7
  obtain ⟨w0, w1, w2, w3, w4, rfl⟩ : ∃ w0 w1 w2 w3 w4 : Value, args = #[w0, w1, w2, w3, w4] := by
    have hs : args.size = 5 := by simpa [Cond.value, given_1] using g0
    obtain ⟨L⟩ := args
    match L, hs with
    | [w0, w1, w2, w3, w4], _ => exact ⟨w0, w1, w2, w3, w4, rfl⟩
  have hw := fun d (hd : d ∈ tables_1) => atoms_spec (ws := Jvm.Cond.code x code maxLocals ret :: tables_1) hat d (List.mem_cons_of_mem _ hd)
  have hfit : Fit s := fun {y c} hc i hi => by
    obtain ⟨ha, rfl⟩ := Array.getElem?_eq_some_iff.mp hc
    have q := List.all_eq_true.mp ((Array.all_eq_true_iff_forall_mem.mp hF) _ (Array.getElem_mem ha)) i (List.mem_range.mpr hi)
    simpa [Array.getElem?_eq_getElem hi] using q
  obtain ⟨hsets, hown0⟩ := atoms_of _ (rest_1_c_eq ▸ (show rest_1_c.before _ s = true from hrest))
  have hr0 := Cond.before_iff.mp hown0
  obtain ⟨i0, ei0⟩ := is_v g2
  obtain rfl : w0 = (.int i0) := Option.some.inj ei0
  obtain ⟨i1, ei1⟩ := is_v g4
  obtain rfl : w1 = (.int i1) := Option.some.inj ei1
  obtain ⟨i2, ei2⟩ := is_v g6
  obtain rfl : w2 = (.int i2) := Option.some.inj ei2
  obtain ⟨i3, ei3⟩ := is_v g8
  obtain rfl : w3 = (.int i3) := Option.some.inj ei3
  obtain ⟨i4, ei4⟩ := is_v g9
  obtain rfl : w4 = (.int i4) := Option.some.inj ei4
  obtain ⟨cs, evc⟩ := is_v (Cond.before_iff.mp (hsets _ (List.mem_of_getElem? (i := 1) rfl)))
  have SC := Sta.start evc (Or.inl (hsets _ (List.mem_of_getElem? (i := 0) rfl)))
  have hcs := own_cmp0 evc (Cond.before_iff.mp (hsets _ (List.mem_of_getElem? (i := 2) rfl)))
  have hCH := CHv.start (own_hEL hw) (fun q hq => hcalls.1 q hq) (hsets _ (List.mem_of_getElem? (i := 2) rfl)) (hw _ (List.mem_of_getElem? (i := 26) rfl)) (hw _ (List.mem_of_getElem? (i := 8) rfl))
  obtain ⟨wn, evn⟩ := exa_v hn
  have SN := Sta.start evn (Or.inr ⟨(hw _ (List.mem_of_getElem? (i := 47) rfl)), (hw _ (List.mem_of_getElem? (i := 48) rfl))⟩)
  obtain ⟨n, o, h1, h2, h3, _, L, rfl, ⟨rfl, N⟩, -, hq⟩ := own_rm0 l s _ hw tables_1 i0 i1 i2 i3 i4 cs wn s.heap s.heap.size (Old.start s) SC hcs SN p e ha hc hk s m _ below hf ((Spec.applies_iff_loose hf).mp happ).1 ⟨rfl, State.Warmed39.refl s, rfl, hCH⟩ trivial
  refine ⟨n, _, h1, h2, h3, hpost _ _ _ _ _ _ ⟨Cond.after_iff.mpr rfl, Cond.after_iff.mpr (eq_i res_at (Term.int_eval (1)) rfl), trivial⟩ ⟨hq.1, hq.2.1, hq.2.2.1, (hq.2.2.2.sift fun y hy => Or.inr (N y hy)).mono (by decide) (by decide)⟩⟩
theorem main_1_1 : Claimed_1_1 := own_comes fun _ _ _ _ _ _ h hF => ⟨h.1, hF⟩
theorem main_1_2 : Claimed_1_2 := own_comes fun _ _ _ _ _ _ h hF => ⟨h.2.1, hF⟩
end Jvm.Pilot.@@N@@
namespace Jvm.Pilot.@@N@@
open Jvm Jvm.ClassFile Sem Op Lib Jvm.Free Jvm.Stand Jvm.Pilot.@@N@@.Jvm.D
/-! MADE BY PROGRAM (witnessworld.py) out of the Statement's table words and the real class files: 22 classes; the members and pool entries that the words name. The judged class is class 1, her method 4. -/
namespace start1
open Jvm.ClassFile
def u (s : String) : CpInfo := .utf8 (stringToUtf16 s)
/-- a pool by its gaps: so many unusable entries, then the entry; so many at the end -/
def gap : Nat → List CpInfo → List CpInfo
  | 0, r => r
  | n + 1, r => .unusable :: gap n r
def poolList (es : List (Nat × CpInfo)) (last : Nat) : List CpInfo := es.foldr (fun e r => gap e.1 (e.2 :: r)) (gap last [])
def pool (es : List (Nat × CpInfo)) (last : Nat) : Array CpInfo := ⟨poolList es last⟩
def fileOf (pool : Array CpInfo) (this : Nat) (attrs : Array Attribute := #[]) (ms : Array MethodInfo := #[]) (fl : Nat := 33) (sup : Nat := 0) (ifs : Array Nat := #[]) (fds : Array FieldInfo := #[]) : ClassFile where
  minorVersion := 0
  majorVersion := 65
  constantPool := pool
  accessFlags := fl
  thisClass := this
  superClass := sup
  interfaces := ifs
  fields := fds
  methods := ms
  attributes := attrs
def plain (name : String) (sup : Option ClassId) : Class where
  name := name
  kind := .ordinary
  loader := none
  accessFlags := 33
  super := sup
  interfaces := #[]
  cf := none
  fields := #[]
  methods := #[]
  instanceTypes := #[]
  staticTypes := #[]
  resolved := #[]
  callSites := []
  init := .initialized
  statics := none
  mirror := none

def pool0 : Array CpInfo := pool [(5, u "<init>"), (0, u "()V"), (1, .class_ 10), (1, u "java/lang/Object")] 113

def k0c0 : Code := { maxStack := 0, maxLocals := 1, code := object_method_1_code, exceptionTable := #[], attributes := #[] }
def k0m0 : Method := { name := "<init>", desc := "()V", sig := { parameters := [], returnType := none }, accessFlags := 1, code := some k0c0 }
/-- java/lang/Object -/
def k0 : Class := { plain "java/lang/Object" none with
  accessFlags := 33
  interfaces := #[]
  cf := some (fileOf pool0 8 #[] #[{ accessFlags := 1, nameIndex := 5, descriptorIndex := 6, attributes := #[] }] 33 0 #[] #[])
  fields := #[]
  methods := #[k0m0]
  instanceTypes := #[]
  staticTypes := #[]
  resolved := Array.replicate 124 none
  statics := none }

def pool1 : Array CpInfo := pool [(2, .class_ 4), (0, .nameAndType 5 6), (0, u "java/lang/Object"), (0, u "<init>"), (0, u "()V"), (0, .class_ 8), (0, u "java/lang/String"), (0, .methodref 7 10), (0, .nameAndType 5 11), (0, u "([C)V"), (0, .string 13), (0, u "prototype"), (0, .methodref 15 16), (0, .class_ 17), (0, .nameAndType 18 19), (0, u "com/example/cicada/cicada/BeanDefinitionGetScopePinLaw"), (0, u "draw"), (0, u "(II)Ljava/lang/String;"), (0, .methodref 7 21), (0, .nameAndType 22 23), (0, u "isEmpty"), (0, u "()Z"), (0, .string 25), (0, u "singleton"), (0, .methodref 15 27), (0, .nameAndType 28 29), (0, u "arg"), (0, u "(III)Ljava/lang/String;"), (0, .class_ 31), (0, u "com/example/cicada/cicada/BeanDefinition"), (0, .methodref 30 3), (0, .methodref 30 34), (0, .nameAndType 35 36), (0, u "getScope"), (0, u "()Ljava/lang/String;"), (0, .methodref 7 38), (0, .nameAndType 39 40), (0, u "equals"), (0, u "(Ljava/lang/Object;)Z"), (0, .methodref 30 42), (0, .nameAndType 43 44), (0, u "setScope"), (0, u "(Ljava/lang/String;)V"), (0, .methodref 15 46), (0, .nameAndType 47 48), (0, u "after"), (0, u "(Ljava/lang/String;ILjava/lang/String;)Ljava/lang/String;"), (3, u "law"), (0, u "(IIIII)Z")] 2

def k1m0 : Method := { name := "<init>", desc := "()V", sig := { parameters := [], returnType := none }, accessFlags := 1, code := none }
def k1c1 : Code := { maxStack := 6, maxLocals := 6, code := method_2_code, exceptionTable := #[], attributes := #[] }
def k1m1 : Method := { name := "draw", desc := "(II)Ljava/lang/String;", sig := { parameters := [.int, .int], returnType := some (.object "java/lang/String") }, accessFlags := 10, code := some k1c1 }
def k1c2 : Code := { maxStack := 2, maxLocals := 3, code := method_3_code, exceptionTable := #[], attributes := #[] }
def k1m2 : Method := { name := "arg", desc := "(III)Ljava/lang/String;", sig := { parameters := [.int, .int, .int], returnType := some (.object "java/lang/String") }, accessFlags := 10, code := some k1c2 }
def k1c3 : Code := { maxStack := 1, maxLocals := 3, code := method_4_code, exceptionTable := #[], attributes := #[] }
def k1m3 : Method := { name := "after", desc := "(Ljava/lang/String;ILjava/lang/String;)Ljava/lang/String;", sig := { parameters := [(.object "java/lang/String"), .int, (.object "java/lang/String")], returnType := some (.object "java/lang/String") }, accessFlags := 10, code := some k1c3 }
def k1c4 : Code := { maxStack := 3, maxLocals := 16, code := code, exceptionTable := #[], attributes := #[] }
def k1m4 : Method := { name := "law", desc := "(IIIII)Z", sig := { parameters := [.int, .int, .int, .int, .int], returnType := some .boolean }, accessFlags := 9, code := some k1c4 }
/-- com/example/cicada/cicada/BeanDefinitionGetScopePinLaw -/
def k1 : Class := { plain "com/example/cicada/cicada/BeanDefinitionGetScopePinLaw" (some 0) with
  accessFlags := 49
  interfaces := #[]
  cf := some (fileOf pool1 15 #[] #[{ accessFlags := 1, nameIndex := 5, descriptorIndex := 6, attributes := #[] }, { accessFlags := 10, nameIndex := 18, descriptorIndex := 19, attributes := #[] }, { accessFlags := 10, nameIndex := 28, descriptorIndex := 29, attributes := #[] }, { accessFlags := 10, nameIndex := 47, descriptorIndex := 48, attributes := #[] }, { accessFlags := 9, nameIndex := 52, descriptorIndex := 53, attributes := #[] }] 49 2 #[] #[])
  fields := #[]
  methods := #[k1m0, k1m1, k1m2, k1m3, k1m4]
  instanceTypes := #[]
  staticTypes := #[]
  resolved := Array.replicate 56 none
  statics := none }

def pool2 : Array CpInfo := pool [(1, .class_ 2), (0, u "java/io/Serializable"), (0, .class_ 4), (0, u "java/lang/Object")] 2

/-- java/io/Serializable -/
def k2 : Class := { plain "java/io/Serializable" (some 0) with
  accessFlags := 1537
  interfaces := #[]
  cf := some (fileOf pool2 1 #[] #[] 1537 3 #[] #[])
  fields := #[]
  methods := #[]
  instanceTypes := #[]
  staticTypes := #[]
  resolved := Array.replicate 7 none
  statics := none }

def pool3 : Array CpInfo := pool [(1, .class_ 2), (0, u "java/lang/Comparable"), (0, .class_ 4), (0, u "java/lang/Object")] 7

/-- java/lang/Comparable -/
def k3 : Class := { plain "java/lang/Comparable" (some 0) with
  accessFlags := 1537
  interfaces := #[]
  cf := some (fileOf pool3 1 #[] #[] 1537 3 #[] #[])
  fields := #[]
  methods := #[]
  instanceTypes := #[]
  staticTypes := #[]
  resolved := Array.replicate 12 none
  statics := none }

def pool4 : Array CpInfo := pool [(2, .class_ 4), (1, u "java/lang/CharSequence"), (42, .class_ 48), (0, u "java/lang/CharSequence$1CodePointIterator"), (10, .class_ 60), (0, u "java/lang/CharSequence$1CharIterator"), (5, .class_ 67), (0, u "java/lang/Object")] 63

/-- java/lang/CharSequence -/
def k4 : Class := { plain "java/lang/CharSequence" (some 0) with
  accessFlags := 1537
  interfaces := #[]
  cf := some (fileOf pool4 2 #[.nestMembers #[47, 59]] #[] 1537 66 #[] #[])
  fields := #[]
  methods := #[]
  instanceTypes := #[]
  staticTypes := #[]
  resolved := Array.replicate 131 none
  statics := none }

def pool5 : Array CpInfo := pool [(1, .class_ 2), (0, u "java/lang/constant/Constable"), (0, .class_ 4), (0, u "java/lang/Object")] 6

/-- java/lang/constant/Constable -/
def k5 : Class := { plain "java/lang/constant/Constable" (some 0) with
  accessFlags := 1537
  interfaces := #[]
  cf := some (fileOf pool5 1 #[] #[] 1537 3 #[] #[])
  fields := #[]
  methods := #[]
  instanceTypes := #[]
  staticTypes := #[]
  resolved := Array.replicate 11 none
  statics := none }

def pool6 : Array CpInfo := pool [(1, .class_ 2), (0, u "java/lang/constant/ConstantDesc"), (0, .class_ 4), (0, u "java/lang/Object")] 32

/-- java/lang/constant/ConstantDesc -/
def k6 : Class := { plain "java/lang/constant/ConstantDesc" (some 0) with
  accessFlags := 1537
  interfaces := #[]
  cf := some (fileOf pool6 1 #[] #[] 1537 3 #[] #[])
  fields := #[]
  methods := #[]
  instanceTypes := #[]
  staticTypes := #[]
  resolved := Array.replicate 37 none
  statics := none }

def pool7 : Array CpInfo := pool [(1, .methodref 2 3), (0, .class_ 4), (0, .nameAndType 5 6), (0, u "java/lang/Object"), (0, u "<init>"), (0, u "()V"), (0, .string 8), (0, u ""), (0, .fieldref 10 11), (0, .class_ 12), (0, .nameAndType 13 14), (0, u "java/lang/String"), (0, u "value"), (0, u "[B"), (0, .fieldref 10 16), (0, .nameAndType 17 18), (0, u "coder"), (0, u "B"), (2, u "hash"), (0, u "I"), (2, u "hashIsZero"), (0, u "Z"), (0, .methodref 10 28), (0, .nameAndType 5 29), (0, u "([CIILjava/lang/Void;)V"), (8, .fieldref 10 39), (0, .nameAndType 40 26), (0, u "COMPACT_STRINGS"), (1, .class_ 44), (1, u "java/lang/StringUTF16"), (0, u "compress"), (1, .methodref 42 48), (0, .nameAndType 49 50), (0, u "coderFromArrayLen"), (0, u "([BI)B"), (56, .class_ 109), (1, u "java/lang/StringLatin1"), (32, u "()Z"), (34, .methodref 42 178), (0, .nameAndType 45 179), (0, u "([CII)[B"), (361, .methodref 107 542), (0, .nameAndType 543 544), (0, u "equals"), (0, u "([B[B)Z"), (28, u "(Ljava/lang/Object;)Z"), (1, .class_ 576), (0, u "java/lang/CharSequence"), (22, u "CASE_INSENSITIVE_ORDER"), (0, u "Ljava/util/Comparator;"), (91, u "isEmpty"), (317, u "([C)V"), (90, u "serialPersistentFields"), (0, u "[Ljava/io/ObjectStreamField;"), (0, .class_ 1104), (0, u "java/lang/String$CaseInsensitiveComparator"), (1, .class_ 1107), (0, u "java/io/Serializable"), (0, .class_ 1109), (0, u "java/lang/Comparable"), (0, .class_ 1111), (0, u "java/lang/constant/Constable"), (0, .class_ 1113), (0, u "java/lang/constant/ConstantDesc"), (2, u "serialVersionUID"), (0, u "J"), (3, u "REPL"), (0, u "C"), (2, u "LATIN1"), (1, u "UTF16")] 323

def k7m0 : Method := { name := "<init>", desc := "()V", sig := { parameters := [], returnType := none }, accessFlags := 1, code := none }
def k7c1 : Code := { maxStack := 5, maxLocals := 2, code := jdk_42_method_3_code, exceptionTable := #[], attributes := #[] }
def k7m1 : Method := { name := "<init>", desc := "([C)V", sig := { parameters := [(.array .char)], returnType := none }, accessFlags := 1, code := some k7c1 }
def k7c2 : Code := { maxStack := 1, maxLocals := 1, code := jdk_42_method_55_code, exceptionTable := #[], attributes := #[] }
def k7m2 : Method := { name := "isEmpty", desc := "()Z", sig := { parameters := [], returnType := some .boolean }, accessFlags := 1, code := some k7c2 }
def k7c3 : Code := { maxStack := 2, maxLocals := 3, code := jdk_42_method_66_code, exceptionTable := #[], attributes := #[] }
def k7m3 : Method := { name := "equals", desc := "(Ljava/lang/Object;)Z", sig := { parameters := [(.object "java/lang/Object")], returnType := some .boolean }, accessFlags := 1, code := some k7c3 }
def k7c4 : Code := { maxStack := 4, maxLocals := 6, code := jdk_42_method_149_code, exceptionTable := #[], attributes := #[] }
def k7m4 : Method := { name := "<init>", desc := "([CIILjava/lang/Void;)V", sig := { parameters := [(.array .char), .int, .int, (.object "java/lang/Void")], returnType := none }, accessFlags := 2, code := some k7c4 }
/-- java/lang/String -/
def k7 : Class := { plain "java/lang/String" (some 0) with
  accessFlags := 49
  interfaces := #[2, 3, 4, 5, 6]
  cf := some (fileOf pool7 10 #[.nestMembers #[1103]] #[{ accessFlags := 1, nameIndex := 5, descriptorIndex := 6, attributes := #[] }, { accessFlags := 1, nameIndex := 5, descriptorIndex := 1010, attributes := #[] }, { accessFlags := 1, nameIndex := 692, descriptorIndex := 142, attributes := #[] }, { accessFlags := 1, nameIndex := 543, descriptorIndex := 573, attributes := #[] }, { accessFlags := 2, nameIndex := 5, descriptorIndex := 29, attributes := #[] }] 49 2 #[1106, 1108, 575, 1110, 1112] #[{ accessFlags := 18, nameIndex := 13, descriptorIndex := 14, attributes := #[] }, { accessFlags := 18, nameIndex := 17, descriptorIndex := 18, attributes := #[] }, { accessFlags := 2, nameIndex := 21, descriptorIndex := 22, attributes := #[] }, { accessFlags := 2, nameIndex := 25, descriptorIndex := 26, attributes := #[] }, { accessFlags := 26, nameIndex := 1116, descriptorIndex := 1117, attributes := #[] }, { accessFlags := 24, nameIndex := 40, descriptorIndex := 26, attributes := #[] }, { accessFlags := 26, nameIndex := 1101, descriptorIndex := 1102, attributes := #[] }, { accessFlags := 26, nameIndex := 1121, descriptorIndex := 1122, attributes := #[] }, { accessFlags := 25, nameIndex := 599, descriptorIndex := 600, attributes := #[] }, { accessFlags := 24, nameIndex := 1125, descriptorIndex := 18, attributes := #[] }, { accessFlags := 24, nameIndex := 1127, descriptorIndex := 18, attributes := #[] }])
  fields := #[{ name := "value", type := (.array .byte), accessFlags := 18, slot := 0, constantValue := 0 }, { name := "coder", type := .byte, accessFlags := 18, slot := 1, constantValue := 0 }, { name := "hash", type := .int, accessFlags := 2, slot := 2, constantValue := 0 }, { name := "hashIsZero", type := .boolean, accessFlags := 2, slot := 3, constantValue := 0 }, { name := "serialVersionUID", type := .long, accessFlags := 26, slot := 0, constantValue := 0 }, { name := "COMPACT_STRINGS", type := .boolean, accessFlags := 24, slot := 1, constantValue := 0 }, { name := "serialPersistentFields", type := (.array (.object "java/io/ObjectStreamField")), accessFlags := 26, slot := 2, constantValue := 0 }, { name := "REPL", type := .char, accessFlags := 26, slot := 3, constantValue := 0 }, { name := "CASE_INSENSITIVE_ORDER", type := (.object "java/util/Comparator"), accessFlags := 25, slot := 4, constantValue := 0 }, { name := "LATIN1", type := .byte, accessFlags := 24, slot := 5, constantValue := 0 }, { name := "UTF16", type := .byte, accessFlags := 24, slot := 6, constantValue := 0 }]
  methods := #[k7m0, k7m1, k7m2, k7m3, k7m4]
  instanceTypes := #[(.array .byte), .byte, .int, .boolean]
  staticTypes := #[.long, .boolean, (.array (.object "java/io/ObjectStreamField")), .char, (.object "java/util/Comparator"), .byte, .byte]
  resolved := Array.replicate 1451 none
  statics := some 0 }

def pool8 : Array CpInfo := pool [(6, .class_ 8), (1, u "java/lang/Object"), (0, u "<init>"), (0, u "()V"), (1, .class_ 14), (1, u "java/lang/StringUTF16"), (31, u "$assertionsDisabled"), (0, u "Z"), (13, u "HI_BYTE_SHIFT"), (0, u "I"), (2, u "LO_BYTE_SHIFT"), (49, .methodref 12 116), (0, .nameAndType 117 118), (0, u "compress"), (0, u "([CI[BII)I"), (3, u "([CII)[B"), (138, u "coderFromArrayLen"), (0, u "([BI)B"), (106, .class_ 371), (1, u "java/lang/StringUTF16$LinesSpliterator"), (58, u "MAX_LENGTH"), (196, .class_ 628), (0, u "java/lang/StringUTF16$CodePointsSpliterator"), (0, .class_ 630), (0, u "java/lang/StringUTF16$CharsSpliterator")] 4

def k8m0 : Method := { name := "<init>", desc := "()V", sig := { parameters := [], returnType := none }, accessFlags := 0, code := none }
def k8c1 : Code := { maxStack := 2, maxLocals := 2, code := jdk_52_method_15_code, exceptionTable := #[], attributes := #[] }
def k8m1 : Method := { name := "coderFromArrayLen", desc := "([BI)B", sig := { parameters := [(.array .byte), .int], returnType := some .byte }, accessFlags := 8, code := some k8c1 }
def k8c2 : Code := { maxStack := 5, maxLocals := 6, code := jdk_52_method_16_code, exceptionTable := #[], attributes := #[] }
def k8m2 : Method := { name := "compress", desc := "([CII)[B", sig := { parameters := [(.array .char), .int, .int], returnType := some (.array .byte) }, accessFlags := 9, code := some k8c2 }
def k8c3 : Code := { maxStack := 3, maxLocals := 7, code := jdk_52_method_21_code, exceptionTable := #[], attributes := #[] }
def k8m3 : Method := { name := "compress", desc := "([CI[BII)I", sig := { parameters := [(.array .char), .int, (.array .byte), .int, .int], returnType := some .int }, accessFlags := 9, code := some k8c3 }
/-- java/lang/StringUTF16 -/
def k8 : Class := { plain "java/lang/StringUTF16" (some 0) with
  accessFlags := 48
  interfaces := #[]
  cf := some (fileOf pool8 12 #[.nestMembers #[627, 629, 369]] #[{ accessFlags := 0, nameIndex := 9, descriptorIndex := 10, attributes := #[] }, { accessFlags := 8, nameIndex := 261, descriptorIndex := 262, attributes := #[] }, { accessFlags := 9, nameIndex := 117, descriptorIndex := 122, attributes := #[] }, { accessFlags := 9, nameIndex := 117, descriptorIndex := 118, attributes := #[] }] 48 6 #[] #[{ accessFlags := 26, nameIndex := 61, descriptorIndex := 62, attributes := #[] }, { accessFlags := 26, nameIndex := 65, descriptorIndex := 62, attributes := #[] }, { accessFlags := 24, nameIndex := 430, descriptorIndex := 62, attributes := #[] }, { accessFlags := 4120, nameIndex := 46, descriptorIndex := 47, attributes := #[] }])
  fields := #[{ name := "HI_BYTE_SHIFT", type := .int, accessFlags := 26, slot := 0, constantValue := 0 }, { name := "LO_BYTE_SHIFT", type := .int, accessFlags := 26, slot := 1, constantValue := 0 }, { name := "MAX_LENGTH", type := .int, accessFlags := 24, slot := 2, constantValue := 0 }, { name := "$assertionsDisabled", type := .boolean, accessFlags := 4120, slot := 3, constantValue := 0 }]
  methods := #[k8m0, k8m1, k8m2, k8m3]
  instanceTypes := #[]
  staticTypes := #[.int, .int, .int, .boolean]
  resolved := Array.replicate 635 none
  statics := none }

def pool9 : Array CpInfo := pool [(1, .methodref 2 3), (0, .class_ 4), (0, .nameAndType 5 6), (0, u "java/lang/Object"), (0, u "<init>"), (0, u "()V"), (0, .fieldref 8 9), (0, .class_ 10), (0, .nameAndType 11 12), (0, u "com/example/cicada/cicada/BeanDefinition"), (0, u "singleton"), (0, u "Z"), (0, .fieldref 14 15), (0, .class_ 16), (0, .nameAndType 17 18), (0, u "com/example/cicada/cicada/Autowire"), (0, u "NO"), (0, u "Lcom/example/cicada/cicada/Autowire;"), (0, .fieldref 8 20), (0, .nameAndType 21 18), (0, u "autowireMode"), (0, .fieldref 8 23), (0, .nameAndType 24 12), (0, u "autowireCandidate"), (0, .fieldref 8 26), (0, .nameAndType 27 12), (0, u "enforceInitMethod"), (0, .fieldref 8 29), (0, .nameAndType 30 12), (0, u "enforceDestroyMethod"), (0, .fieldref 8 32), (0, .nameAndType 33 34), (0, u "beanClassName"), (0, u "Ljava/lang/String;"), (0, .fieldref 8 36), (0, .nameAndType 37 38), (0, u "beanClass"), (0, u "Ljava/lang/Class;"), (8, .class_ 48), (0, u "java/lang/String"), (7, u "()Ljava/lang/String;"), (0, .fieldref 8 58), (0, .nameAndType 59 34), (0, u "scope"), (0, .string 11), (0, .methodref 47 62), (0, .nameAndType 63 64), (0, u "isEmpty"), (0, u "()Z"), (0, .methodref 47 66), (0, .nameAndType 67 68), (0, u "equals"), (0, u "(Ljava/lang/Object;)Z"), (0, .string 70), (0, u "prototype"), (0, .fieldref 8 72), (0, .nameAndType 70 12), (2, u "parentName"), (2, u "isAbstract"), (2, u "factoryBeanName"), (2, u "factoryMethodName"), (2, u "lazyInit"), (2, u "primary"), (4, u "qualifiers"), (0, u "Ljava/util/Set;"), (11, u "initMethodName"), (2, u "destroyMethodName"), (2, u "constructorArguments"), (0, u "Ljava/util/ArrayList;"), (10, u "propertyValues"), (0, u "Lcom/example/cicada/cicada/PropertyValues;"), (8, u "dependsOn"), (0, u "Ljava/util/List;"), (11, u "(Ljava/lang/String;)V"), (3, u "setScope"), (67, u "source"), (2, u "sourceFile"), (2, u "sourceLine"), (0, u "I"), (56, u "getScope"), (6, u "SCOPE_SINGLETON"), (1, u "SCOPE_PROTOTYPE"), (0, u "INFER_METHOD")] 90

def k9c0 : Code := { maxStack := 2, maxLocals := 1, code := prog_7_method_1_code, exceptionTable := #[], attributes := #[] }
def k9m0 : Method := { name := "<init>", desc := "()V", sig := { parameters := [], returnType := none }, accessFlags := 1, code := some k9c0 }
def k9c1 : Code := { maxStack := 1, maxLocals := 1, code := prog_7_method_6_code, exceptionTable := #[], attributes := #[] }
def k9m1 : Method := { name := "getScope", desc := "()Ljava/lang/String;", sig := { parameters := [], returnType := some (.object "java/lang/String") }, accessFlags := 1, code := some k9c1 }
def k9c2 : Code := { maxStack := 3, maxLocals := 2, code := prog_7_method_7_code, exceptionTable := #[], attributes := #[] }
def k9m2 : Method := { name := "setScope", desc := "(Ljava/lang/String;)V", sig := { parameters := [(.object "java/lang/String")], returnType := none }, accessFlags := 1, code := some k9c2 }
/-- com/example/cicada/cicada/BeanDefinition -/
def k9 : Class := { plain "com/example/cicada/cicada/BeanDefinition" (some 0) with
  accessFlags := 49
  interfaces := #[]
  cf := some (fileOf pool9 8 #[] #[{ accessFlags := 1, nameIndex := 5, descriptorIndex := 6, attributes := #[] }, { accessFlags := 1, nameIndex := 285, descriptorIndex := 56, attributes := #[] }, { accessFlags := 1, nameIndex := 153, descriptorIndex := 149, attributes := #[] }] 49 2 #[] #[{ accessFlags := 25, nameIndex := 292, descriptorIndex := 34, attributes := #[] }, { accessFlags := 25, nameIndex := 294, descriptorIndex := 34, attributes := #[] }, { accessFlags := 25, nameIndex := 295, descriptorIndex := 34, attributes := #[] }, { accessFlags := 18, nameIndex := 33, descriptorIndex := 34, attributes := #[] }, { accessFlags := 18, nameIndex := 37, descriptorIndex := 38, attributes := #[] }, { accessFlags := 2, nameIndex := 114, descriptorIndex := 115, attributes := #[] }, { accessFlags := 2, nameIndex := 126, descriptorIndex := 127, attributes := #[] }, { accessFlags := 2, nameIndex := 136, descriptorIndex := 137, attributes := #[] }, { accessFlags := 2, nameIndex := 95, descriptorIndex := 96, attributes := #[] }, { accessFlags := 2, nameIndex := 75, descriptorIndex := 34, attributes := #[] }, { accessFlags := 2, nameIndex := 78, descriptorIndex := 12, attributes := #[] }, { accessFlags := 2, nameIndex := 81, descriptorIndex := 34, attributes := #[] }, { accessFlags := 2, nameIndex := 84, descriptorIndex := 34, attributes := #[] }, { accessFlags := 2, nameIndex := 59, descriptorIndex := 34, attributes := #[] }, { accessFlags := 2, nameIndex := 11, descriptorIndex := 12, attributes := #[] }, { accessFlags := 2, nameIndex := 70, descriptorIndex := 12, attributes := #[] }, { accessFlags := 2, nameIndex := 87, descriptorIndex := 12, attributes := #[] }, { accessFlags := 2, nameIndex := 90, descriptorIndex := 12, attributes := #[] }, { accessFlags := 2, nameIndex := 21, descriptorIndex := 18, attributes := #[] }, { accessFlags := 2, nameIndex := 24, descriptorIndex := 12, attributes := #[] }, { accessFlags := 2, nameIndex := 108, descriptorIndex := 34, attributes := #[] }, { accessFlags := 2, nameIndex := 27, descriptorIndex := 12, attributes := #[] }, { accessFlags := 2, nameIndex := 111, descriptorIndex := 34, attributes := #[] }, { accessFlags := 2, nameIndex := 30, descriptorIndex := 12, attributes := #[] }, { accessFlags := 2, nameIndex := 221, descriptorIndex := 34, attributes := #[] }, { accessFlags := 2, nameIndex := 224, descriptorIndex := 34, attributes := #[] }, { accessFlags := 2, nameIndex := 227, descriptorIndex := 228, attributes := #[] }])
  fields := #[{ name := "SCOPE_SINGLETON", type := (.object "java/lang/String"), accessFlags := 25, slot := 0, constantValue := 0 }, { name := "SCOPE_PROTOTYPE", type := (.object "java/lang/String"), accessFlags := 25, slot := 1, constantValue := 0 }, { name := "INFER_METHOD", type := (.object "java/lang/String"), accessFlags := 25, slot := 2, constantValue := 0 }, { name := "beanClassName", type := (.object "java/lang/String"), accessFlags := 18, slot := 0, constantValue := 0 }, { name := "beanClass", type := (.object "java/lang/Class"), accessFlags := 18, slot := 1, constantValue := 0 }, { name := "constructorArguments", type := (.object "java/util/ArrayList"), accessFlags := 2, slot := 2, constantValue := 0 }, { name := "propertyValues", type := (.object "com/example/cicada/cicada/PropertyValues"), accessFlags := 2, slot := 3, constantValue := 0 }, { name := "dependsOn", type := (.object "java/util/List"), accessFlags := 2, slot := 4, constantValue := 0 }, { name := "qualifiers", type := (.object "java/util/Set"), accessFlags := 2, slot := 5, constantValue := 0 }, { name := "parentName", type := (.object "java/lang/String"), accessFlags := 2, slot := 6, constantValue := 0 }, { name := "isAbstract", type := .boolean, accessFlags := 2, slot := 7, constantValue := 0 }, { name := "factoryBeanName", type := (.object "java/lang/String"), accessFlags := 2, slot := 8, constantValue := 0 }, { name := "factoryMethodName", type := (.object "java/lang/String"), accessFlags := 2, slot := 9, constantValue := 0 }, { name := "scope", type := (.object "java/lang/String"), accessFlags := 2, slot := 10, constantValue := 0 }, { name := "singleton", type := .boolean, accessFlags := 2, slot := 11, constantValue := 0 }, { name := "prototype", type := .boolean, accessFlags := 2, slot := 12, constantValue := 0 }, { name := "lazyInit", type := .boolean, accessFlags := 2, slot := 13, constantValue := 0 }, { name := "primary", type := .boolean, accessFlags := 2, slot := 14, constantValue := 0 }, { name := "autowireMode", type := (.object "com/example/cicada/cicada/Autowire"), accessFlags := 2, slot := 15, constantValue := 0 }, { name := "autowireCandidate", type := .boolean, accessFlags := 2, slot := 16, constantValue := 0 }, { name := "initMethodName", type := (.object "java/lang/String"), accessFlags := 2, slot := 17, constantValue := 0 }, { name := "enforceInitMethod", type := .boolean, accessFlags := 2, slot := 18, constantValue := 0 }, { name := "destroyMethodName", type := (.object "java/lang/String"), accessFlags := 2, slot := 19, constantValue := 0 }, { name := "enforceDestroyMethod", type := .boolean, accessFlags := 2, slot := 20, constantValue := 0 }, { name := "source", type := (.object "java/lang/String"), accessFlags := 2, slot := 21, constantValue := 0 }, { name := "sourceFile", type := (.object "java/lang/String"), accessFlags := 2, slot := 22, constantValue := 0 }, { name := "sourceLine", type := .int, accessFlags := 2, slot := 23, constantValue := 0 }]
  methods := #[k9m0, k9m1, k9m2]
  instanceTypes := #[(.object "java/lang/String"), (.object "java/lang/Class"), (.object "java/util/ArrayList"), (.object "com/example/cicada/cicada/PropertyValues"), (.object "java/util/List"), (.object "java/util/Set"), (.object "java/lang/String"), .boolean, (.object "java/lang/String"), (.object "java/lang/String"), (.object "java/lang/String"), .boolean, .boolean, .boolean, .boolean, (.object "com/example/cicada/cicada/Autowire"), .boolean, (.object "java/lang/String"), .boolean, (.object "java/lang/String"), .boolean, (.object "java/lang/String"), (.object "java/lang/String"), .int]
  staticTypes := #[(.object "java/lang/String"), (.object "java/lang/String"), (.object "java/lang/String")]
  resolved := Array.replicate 386 none
  statics := none }

def pool10 : Array CpInfo := pool [(2, .class_ 4), (1, u "java/lang/Enum"), (0, u "name"), (0, u "Ljava/lang/String;"), (2, u "ordinal"), (0, u "I"), (1, .class_ 14), (1, u "java/lang/Object"), (4, u "hash"), (86, .class_ 108), (1, u "java/lang/Enum$EnumDesc"), (2, .class_ 112), (0, u "java/lang/constant/Constable"), (0, .class_ 114), (0, u "java/lang/Comparable"), (0, .class_ 116), (0, u "java/io/Serializable")] 87

/-- java/lang/Enum -/
def k10 : Class := { plain "java/lang/Enum" (some 0) with
  accessFlags := 1057
  interfaces := #[5, 3, 2]
  cf := some (fileOf pool10 2 #[.nestMembers #[106]] #[] 1057 12 #[111, 113, 115] #[{ accessFlags := 18, nameIndex := 5, descriptorIndex := 6, attributes := #[] }, { accessFlags := 18, nameIndex := 9, descriptorIndex := 10, attributes := #[] }, { accessFlags := 2, nameIndex := 19, descriptorIndex := 10, attributes := #[] }])
  fields := #[{ name := "name", type := (.object "java/lang/String"), accessFlags := 18, slot := 0, constantValue := 0 }, { name := "ordinal", type := .int, accessFlags := 18, slot := 1, constantValue := 0 }, { name := "hash", type := .int, accessFlags := 2, slot := 2, constantValue := 0 }]
  methods := #[]
  instanceTypes := #[(.object "java/lang/String"), .int, .int]
  staticTypes := #[]
  resolved := Array.replicate 204 none
  statics := none }

def pool11 : Array CpInfo := pool [(1, .class_ 2), (0, u "com/example/cicada/cicada/Autowire"), (2, u "NO"), (0, u "Lcom/example/cicada/cicada/Autowire;"), (2, u "BY_NAME"), (2, u "BY_TYPE"), (2, u "CONSTRUCTOR"), (2, u "$VALUES"), (0, u "[Lcom/example/cicada/cicada/Autowire;"), (6, .class_ 28), (1, u "java/lang/Enum")] 29

/-- com/example/cicada/cicada/Autowire -/
def k11 : Class := { plain "com/example/cicada/cicada/Autowire" (some 10) with
  accessFlags := 16433
  interfaces := #[]
  cf := some (fileOf pool11 1 #[] #[] 16433 26 #[] #[{ accessFlags := 16409, nameIndex := 5, descriptorIndex := 6, attributes := #[] }, { accessFlags := 16409, nameIndex := 9, descriptorIndex := 6, attributes := #[] }, { accessFlags := 16409, nameIndex := 12, descriptorIndex := 6, attributes := #[] }, { accessFlags := 16409, nameIndex := 15, descriptorIndex := 6, attributes := #[] }, { accessFlags := 4122, nameIndex := 18, descriptorIndex := 19, attributes := #[] }])
  fields := #[{ name := "NO", type := (.object "com/example/cicada/cicada/Autowire"), accessFlags := 16409, slot := 0, constantValue := 0 }, { name := "BY_NAME", type := (.object "com/example/cicada/cicada/Autowire"), accessFlags := 16409, slot := 1, constantValue := 0 }, { name := "BY_TYPE", type := (.object "com/example/cicada/cicada/Autowire"), accessFlags := 16409, slot := 2, constantValue := 0 }, { name := "CONSTRUCTOR", type := (.object "com/example/cicada/cicada/Autowire"), accessFlags := 16409, slot := 3, constantValue := 0 }, { name := "$VALUES", type := (.array (.object "com/example/cicada/cicada/Autowire")), accessFlags := 4122, slot := 4, constantValue := 0 }]
  methods := #[]
  instanceTypes := #[(.object "java/lang/String"), .int, .int]
  staticTypes := #[(.object "com/example/cicada/cicada/Autowire"), (.object "com/example/cicada/cicada/Autowire"), (.object "com/example/cicada/cicada/Autowire"), (.object "com/example/cicada/cicada/Autowire"), (.array (.object "com/example/cicada/cicada/Autowire"))]
  resolved := Array.replicate 58 none
  statics := some 1 }

def pool12 : Array CpInfo := pool [(4, .class_ 6), (1, u "java/lang/Object"), (0, u "<init>"), (0, u "()V"), (5, .class_ 16), (1, u "java/lang/StringLatin1"), (104, u "$assertionsDisabled"), (0, u "Z"), (98, .class_ 223), (1, u "java/lang/StringLatin1$LinesSpliterator"), (57, u "equals"), (0, u "([B[B)Z"), (107, .class_ 391), (0, u "java/lang/StringLatin1$CharsSpliterator")] 3

def k12m0 : Method := { name := "<init>", desc := "()V", sig := { parameters := [], returnType := none }, accessFlags := 0, code := none }
def k12c1 : Code := { maxStack := 3, maxLocals := 3, code := jdk_43_method_13_code, exceptionTable := #[], attributes := #[] }
def k12m1 : Method := { name := "equals", desc := "([B[B)Z", sig := { parameters := [(.array .byte), (.array .byte)], returnType := some .boolean }, accessFlags := 9, code := some k12c1 }
/-- java/lang/StringLatin1 -/
def k12 : Class := { plain "java/lang/StringLatin1" (some 0) with
  accessFlags := 48
  interfaces := #[]
  cf := some (fileOf pool12 14 #[.nestMembers #[390, 221]] #[{ accessFlags := 0, nameIndex := 7, descriptorIndex := 8, attributes := #[] }, { accessFlags := 9, nameIndex := 281, descriptorIndex := 282, attributes := #[] }] 48 4 #[] #[{ accessFlags := 4120, nameIndex := 121, descriptorIndex := 122, attributes := #[] }])
  fields := #[{ name := "$assertionsDisabled", type := .boolean, accessFlags := 4120, slot := 0, constantValue := 0 }]
  methods := #[k12m0, k12m1]
  instanceTypes := #[]
  staticTypes := #[.boolean]
  resolved := Array.replicate 395 none
  statics := none }

def pool13 : Array CpInfo := pool [(2, .class_ 4), (1, u "java/lang/Object"), (0, u "<init>"), (0, u "()V"), (17, .class_ 26), (1, u "jdk/internal/util/Preconditions"), (28, .class_ 56), (0, u "jdk/internal/util/Preconditions$4"), (57, .class_ 115), (0, u "jdk/internal/util/Preconditions$1"), (7, u "SIOOBE_FORMATTER"), (0, u "Ljava/util/function/BiFunction;"), (0, .class_ 126), (0, u "jdk/internal/util/Preconditions$2"), (3, u "AIOOBE_FORMATTER"), (0, .class_ 132), (0, u "jdk/internal/util/Preconditions$3"), (3, u "IOOBE_FORMATTER")] 57

def k13m0 : Method := { name := "<init>", desc := "()V", sig := { parameters := [], returnType := none }, accessFlags := 1, code := none }
/-- jdk/internal/util/Preconditions -/
def k13 : Class := { plain "jdk/internal/util/Preconditions" (some 0) with
  accessFlags := 33
  interfaces := #[]
  cf := some (fileOf pool13 24 #[.nestMembers #[55, 131, 125, 114]] #[{ accessFlags := 1, nameIndex := 5, descriptorIndex := 6, attributes := #[] }] 33 2 #[] #[{ accessFlags := 25, nameIndex := 123, descriptorIndex := 124, attributes := #[] }, { accessFlags := 25, nameIndex := 130, descriptorIndex := 124, attributes := #[] }, { accessFlags := 25, nameIndex := 136, descriptorIndex := 124, attributes := #[] }])
  fields := #[{ name := "SIOOBE_FORMATTER", type := (.object "java/util/function/BiFunction"), accessFlags := 25, slot := 0, constantValue := 0 }, { name := "AIOOBE_FORMATTER", type := (.object "java/util/function/BiFunction"), accessFlags := 25, slot := 1, constantValue := 0 }, { name := "IOOBE_FORMATTER", type := (.object "java/util/function/BiFunction"), accessFlags := 25, slot := 2, constantValue := 0 }]
  methods := #[k13m0]
  instanceTypes := #[]
  staticTypes := #[(.object "java/util/function/BiFunction"), (.object "java/util/function/BiFunction"), (.object "java/util/function/BiFunction")]
  resolved := Array.replicate 194 none
  statics := some 2 }

def pool14 : Array CpInfo := pool [(9, u "<init>"), (6, .class_ 18), (1, u "java/lang/Object"), (0, u "()V"), (1, .class_ 23), (1, u "jdk/internal/util/ArraysSupport"), (0, u "LOG2_ARRAY_LONG_INDEX_SCALE"), (0, u "I"), (2, u "U"), (0, u "Ljdk/internal/misc/Unsafe;"), (8, u "BIG_ENDIAN"), (0, u "Z"), (8, u "LOG2_BYTE_BIT_SIZE"), (4, u "LOG2_ARRAY_INT_INDEX_SCALE"), (54, u "JLA"), (0, u "Ljdk/internal/access/JavaLangAccess;"), (11, u "LOG2_ARRAY_BOOLEAN_INDEX_SCALE"), (9, u "LOG2_ARRAY_BYTE_INDEX_SCALE"), (5, u "LOG2_ARRAY_CHAR_INDEX_SCALE"), (5, u "LOG2_ARRAY_SHORT_INDEX_SCALE"), (18, u "LOG2_ARRAY_FLOAT_INDEX_SCALE"), (24, u "LOG2_ARRAY_DOUBLE_INDEX_SCALE"), (89, u "T_BOOLEAN"), (2, u "T_CHAR"), (1, u "T_FLOAT"), (1, u "T_DOUBLE"), (1, u "T_BYTE"), (1, u "T_SHORT"), (1, u "T_INT"), (1, u "T_LONG"), (1, u "SOFT_MAX_ARRAY_LENGTH")] 83

def k14m0 : Method := { name := "<init>", desc := "()V", sig := { parameters := [], returnType := none }, accessFlags := 2, code := none }
/-- jdk/internal/util/ArraysSupport -/
def k14 : Class := { plain "jdk/internal/util/ArraysSupport" (some 0) with
  accessFlags := 33
  interfaces := #[]
  cf := some (fileOf pool14 21 #[] #[{ accessFlags := 2, nameIndex := 9, descriptorIndex := 19, attributes := #[] }] 33 16 #[] #[{ accessFlags := 24, nameIndex := 28, descriptorIndex := 29, attributes := #[] }, { accessFlags := 26, nameIndex := 38, descriptorIndex := 39, attributes := #[] }, { accessFlags := 25, nameIndex := 121, descriptorIndex := 25, attributes := #[] }, { accessFlags := 25, nameIndex := 131, descriptorIndex := 25, attributes := #[] }, { accessFlags := 25, nameIndex := 137, descriptorIndex := 25, attributes := #[] }, { accessFlags := 25, nameIndex := 143, descriptorIndex := 25, attributes := #[] }, { accessFlags := 25, nameIndex := 53, descriptorIndex := 25, attributes := #[] }, { accessFlags := 25, nameIndex := 24, descriptorIndex := 25, attributes := #[] }, { accessFlags := 25, nameIndex := 162, descriptorIndex := 25, attributes := #[] }, { accessFlags := 25, nameIndex := 187, descriptorIndex := 25, attributes := #[] }, { accessFlags := 26, nameIndex := 48, descriptorIndex := 25, attributes := #[] }, { accessFlags := 25, nameIndex := 277, descriptorIndex := 25, attributes := #[] }, { accessFlags := 25, nameIndex := 280, descriptorIndex := 25, attributes := #[] }, { accessFlags := 25, nameIndex := 282, descriptorIndex := 25, attributes := #[] }, { accessFlags := 25, nameIndex := 284, descriptorIndex := 25, attributes := #[] }, { accessFlags := 25, nameIndex := 286, descriptorIndex := 25, attributes := #[] }, { accessFlags := 25, nameIndex := 288, descriptorIndex := 25, attributes := #[] }, { accessFlags := 25, nameIndex := 290, descriptorIndex := 25, attributes := #[] }, { accessFlags := 25, nameIndex := 292, descriptorIndex := 25, attributes := #[] }, { accessFlags := 26, nameIndex := 108, descriptorIndex := 109, attributes := #[] }, { accessFlags := 25, nameIndex := 294, descriptorIndex := 25, attributes := #[] }])
  fields := #[{ name := "U", type := (.object "jdk/internal/misc/Unsafe"), accessFlags := 24, slot := 0, constantValue := 0 }, { name := "BIG_ENDIAN", type := .boolean, accessFlags := 26, slot := 1, constantValue := 0 }, { name := "LOG2_ARRAY_BOOLEAN_INDEX_SCALE", type := .int, accessFlags := 25, slot := 2, constantValue := 0 }, { name := "LOG2_ARRAY_BYTE_INDEX_SCALE", type := .int, accessFlags := 25, slot := 3, constantValue := 0 }, { name := "LOG2_ARRAY_CHAR_INDEX_SCALE", type := .int, accessFlags := 25, slot := 4, constantValue := 0 }, { name := "LOG2_ARRAY_SHORT_INDEX_SCALE", type := .int, accessFlags := 25, slot := 5, constantValue := 0 }, { name := "LOG2_ARRAY_INT_INDEX_SCALE", type := .int, accessFlags := 25, slot := 6, constantValue := 0 }, { name := "LOG2_ARRAY_LONG_INDEX_SCALE", type := .int, accessFlags := 25, slot := 7, constantValue := 0 }, { name := "LOG2_ARRAY_FLOAT_INDEX_SCALE", type := .int, accessFlags := 25, slot := 8, constantValue := 0 }, { name := "LOG2_ARRAY_DOUBLE_INDEX_SCALE", type := .int, accessFlags := 25, slot := 9, constantValue := 0 }, { name := "LOG2_BYTE_BIT_SIZE", type := .int, accessFlags := 26, slot := 10, constantValue := 0 }, { name := "T_BOOLEAN", type := .int, accessFlags := 25, slot := 11, constantValue := 0 }, { name := "T_CHAR", type := .int, accessFlags := 25, slot := 12, constantValue := 0 }, { name := "T_FLOAT", type := .int, accessFlags := 25, slot := 13, constantValue := 0 }, { name := "T_DOUBLE", type := .int, accessFlags := 25, slot := 14, constantValue := 0 }, { name := "T_BYTE", type := .int, accessFlags := 25, slot := 15, constantValue := 0 }, { name := "T_SHORT", type := .int, accessFlags := 25, slot := 16, constantValue := 0 }, { name := "T_INT", type := .int, accessFlags := 25, slot := 17, constantValue := 0 }, { name := "T_LONG", type := .int, accessFlags := 25, slot := 18, constantValue := 0 }, { name := "JLA", type := (.object "jdk/internal/access/JavaLangAccess"), accessFlags := 26, slot := 19, constantValue := 0 }, { name := "SOFT_MAX_ARRAY_LENGTH", type := .int, accessFlags := 25, slot := 20, constantValue := 0 }]
  methods := #[k14m0]
  instanceTypes := #[]
  staticTypes := #[(.object "jdk/internal/misc/Unsafe"), .boolean, .int, .int, .int, .int, .int, .int, .int, .int, .int, .int, .int, .int, .int, .int, .int, .int, .int, (.object "jdk/internal/access/JavaLangAccess"), .int]
  resolved := Array.replicate 378 none
  statics := none }

def pool15 : Array CpInfo := pool [(1, u "java/lang/Cloneable"), (0, .class_ 1), (0, u "java/lang/Object"), (0, .class_ 3)] 3

/-- java/lang/Cloneable -/
def k15 : Class := { plain "java/lang/Cloneable" (some 0) with
  accessFlags := 1537
  interfaces := #[]
  cf := some (fileOf pool15 2 #[] #[] 1537 4 #[] #[])
  fields := #[]
  methods := #[]
  instanceTypes := #[]
  staticTypes := #[]
  resolved := Array.replicate 8 none
  statics := none }

/-- the primitive byte -/
def k16 : Class := { plain "byte" none with kind := .primitive 'B', accessFlags := 0x411 }
/-- [B -/
def k17 : Class := { plain "[B" (some 0) with kind := .array 16 .byte, interfaces := #[15, 2], accessFlags := 1041 }

/-- the primitive char -/
def k18 : Class := { plain "char" none with kind := .primitive 'C', accessFlags := 0x411 }
/-- [C -/
def k19 : Class := { plain "[C" (some 0) with kind := .array 18 .char, interfaces := #[15, 2], accessFlags := 1041 }

/-- the primitive int -/
def k20 : Class := { plain "int" none with kind := .primitive 'I', accessFlags := 0x411 }
/-- [I -/
def k21 : Class := { plain "[I" (some 0) with kind := .array 20 .int, interfaces := #[15, 2], accessFlags := 1041 }

def heap : Heap := #[{ cls := 7, slots := #[.long 0, .int 1, .null, .int 0, .null, .int 0, .int 0], vm := .statics 7 },
  { cls := 11, slots := #[.ref 3, .null, .null, .null, .null], vm := .statics 11 },
  { cls := 13, slots := #[.null, .null, .null], vm := .statics 13 },
  { cls := 11, slots := #[.null, .int 0, .int 0], vm := .none }]
def classes : Array Class := #[k0, k1, k2, k3, k4, k5, k6, k7, k8, k9, k10, k11, k12, k13, k14, k15, k16, k17, k18, k19, k20, k21]
def interned : List (Array UInt16 × Addr) := []
def slotsUsed : Nat := 18
def theMethod : MethodId := ⟨1, 4⟩
def args0 : Array Value := #[.int 5, .int 66, .int 67, .int 68, .int 69]
def aboutOver (below : List Frame) : State where
  vm := { classes := classes, interned := interned.toArray }
  heap := heap
  slotsUsed := slotsUsed
  threads := #[{ frames := .invoking theMethod args0 :: below }]
def below0 : List Frame := [.native { method := ⟨0, 0⟩, args := #[] }]
def about1 : State := aboutOver below0
def p0 : Program := .bare "" "" ""
def e0 : Env := launch0.env 0 0 0
theorem w_frames : about1.frames = Frame.invoking theMethod args0 :: below0 := rfl
set_option maxRecDepth 65536 in
theorem w_args : argsFit about1.vm theMethod args0 = true := by decide +kernel
set_option maxRecDepth 65536 in
theorem w_heap : heapFits about1 = true := by decide +kernel
set_option maxRecDepth 65536 in
theorem w_runnable : about1.curStatus? = some .runnable := by decide +kernel
set_option maxRecDepth 65536 in
theorem w_alone : about1.alone = true := by decide +kernel
set_option maxRecDepth 65536 in
theorem w_named : about1.methodNamed? x = some theMethod := by decide +kernel
set_option maxRecDepth 65536 in
theorem w_hears : about1.hears theMethod below0 = true := by decide +kernel
set_option maxRecDepth 65536 in
theorem w_ripe : about1.ripe theMethod args0 below0 = true := by decide +kernel
theorem w_running : about1.status = .running := rfl
set_option maxRecDepth 65536 in
theorem w_room : about1.hasRoom e0.platform room_1 = true :=
  launch0.hasRoom_least _ room_1 (by decide +kernel) (by decide +kernel) (by decide +kernel) (by decide +kernel) (by decide +kernel) (by decide +kernel)
theorem allAtoms_all (ts : List Jvm.Cond) (a : Array Jvm.Value) (st : Jvm.State) : (allAtoms ts).before a st = ts.all (fun c => c.before a st) := by
  induction ts with
  | nil => rfl
  | cons c t ih =>
    show (Jvm.Cond.and c (allAtoms t)).before a st = _
    rw [Jvm.Cond.before_and, ih, List.all_cons]
def words1 : List Jvm.Cond := Jvm.Cond.code x code maxLocals ret :: tables_1
/-- a 'code' word, met by the world's own term for the bytes: nothing is compared byte by byte -/
theorem code_word {y : MethodName} {bytes : ByteArray} {mx : Nat} {rt : Option FieldType} {a : Array Value} {s : State} {m : MethodId} {meth : Method} {c : Code} (h1 : s.methodNamed? y = some m) (h2 : s.vm.method? m = some meth) (h3 : meth.code = some c) (h4 : c.code = bytes)
    (h5 : (c.maxLocals == mx && c.exceptionTable.isEmpty && decide (c.maxStack ≤ mostOperands) && decide (meth.sig.returnType = rt) && !meth.locks && decide (parseMethodDescriptor y.desc = some meth.sig)) = true) : (Jvm.Cond.code y bytes mx rt).before a s = true := by
  simp only [Bool.and_eq_true, beq_iff_eq, Bool.not_eq_true', decide_eq_true_eq] at h5
  obtain ⟨⟨⟨⟨⟨g1, g2⟩, g3⟩, g4⟩, g5⟩, g6⟩ := h5
  simp [Cond.before, Cond.holds, Cond.value, h1, h2, h3, h4, g1, g2, g3, g4, g5, g6]
def isCode : Jvm.Cond → Bool
  | .code _ _ _ _ => true
  | _ => false
theorem all_split {L : List Jvm.Cond} {P : Jvm.Cond → Bool} (h1 : L.all (fun c => isCode c || P c) = true) (h2 : ∀ c ∈ L.filter isCode, P c = true) : L.all P = true := by
  refine List.all_eq_true.mpr fun c hc => ?_
  have h := List.all_eq_true.mp h1 c hc
  rcases Bool.eq_false_or_eq_true (isCode c) with hi | hi
  · exact h2 c (List.mem_filter.mpr ⟨hc, hi⟩)
  · simpa [hi] using h
set_option maxRecDepth 65536 in
theorem w_c0 : (Jvm.Cond.code x code maxLocals ret).before args0 about1 = true := code_word (m := ⟨1, 4⟩) (meth := k1m4) (c := k1c4) (by decide +kernel) rfl rfl rfl (by decide +kernel)
set_option maxRecDepth 65536 in
theorem w_c1 : (Jvm.Cond.code ({ cls := "com/example/cicada/cicada/BeanDefinitionGetScopePinLaw", name := "arg", desc := "(III)Ljava/lang/String;" } : Jvm.MethodName) method_3_code (3 : Nat) (Option.some (Jvm.ClassFile.FieldType.object "java/lang/String"))).before args0 about1 = true := code_word (m := ⟨1, 2⟩) (meth := k1m2) (c := k1c2) (by decide +kernel) rfl rfl rfl (by decide +kernel)
set_option maxRecDepth 65536 in
theorem w_c2 : (Jvm.Cond.code ({ cls := "com/example/cicada/cicada/BeanDefinitionGetScopePinLaw", name := "draw", desc := "(II)Ljava/lang/String;" } : Jvm.MethodName) method_2_code (6 : Nat) (Option.some (Jvm.ClassFile.FieldType.object "java/lang/String"))).before args0 about1 = true := code_word (m := ⟨1, 1⟩) (meth := k1m1) (c := k1c1) (by decide +kernel) rfl rfl rfl (by decide +kernel)
set_option maxRecDepth 65536 in
theorem w_c3 : (Jvm.Cond.code ({ cls := "java/lang/String", name := "<init>", desc := "([C)V" } : Jvm.MethodName) jdk_42_method_3_code (2 : Nat) (Option.none : Option Jvm.ClassFile.FieldType)).before args0 about1 = true := code_word (m := ⟨7, 1⟩) (meth := k7m1) (c := k7c1) (by decide +kernel) rfl rfl rfl (by decide +kernel)
set_option maxRecDepth 65536 in
theorem w_c4 : (Jvm.Cond.code ({ cls := "java/lang/String", name := "<init>", desc := "([CIILjava/lang/Void;)V" } : Jvm.MethodName) jdk_42_method_149_code (6 : Nat) (Option.none : Option Jvm.ClassFile.FieldType)).before args0 about1 = true := code_word (m := ⟨7, 4⟩) (meth := k7m4) (c := k7c4) (by decide +kernel) rfl rfl rfl (by decide +kernel)
set_option maxRecDepth 65536 in
theorem w_c5 : (Jvm.Cond.code ({ cls := "java/lang/Object", name := "<init>", desc := "()V" } : Jvm.MethodName) object_method_1_code (1 : Nat) (Option.none : Option Jvm.ClassFile.FieldType)).before args0 about1 = true := code_word (m := ⟨0, 0⟩) (meth := k0m0) (c := k0c0) (by decide +kernel) rfl rfl rfl (by decide +kernel)
set_option maxRecDepth 65536 in
theorem w_c6 : (Jvm.Cond.code ({ cls := "java/lang/StringUTF16", name := "compress", desc := "([CII)[B" } : Jvm.MethodName) jdk_52_method_16_code (6 : Nat) (Option.some (Jvm.ClassFile.FieldType.array Jvm.ClassFile.FieldType.byte))).before args0 about1 = true := code_word (m := ⟨8, 2⟩) (meth := k8m2) (c := k8c2) (by decide +kernel) rfl rfl rfl (by decide +kernel)
set_option maxRecDepth 65536 in
theorem w_c7 : (Jvm.Cond.code ({ cls := "java/lang/StringUTF16", name := "compress", desc := "([CI[BII)I" } : Jvm.MethodName) jdk_52_method_21_code (7 : Nat) (Option.some Jvm.ClassFile.FieldType.int)).before args0 about1 = true := code_word (m := ⟨8, 3⟩) (meth := k8m3) (c := k8c3) (by decide +kernel) rfl rfl rfl (by decide +kernel)
set_option maxRecDepth 65536 in
theorem w_c8 : (Jvm.Cond.code ({ cls := "java/lang/StringUTF16", name := "coderFromArrayLen", desc := "([BI)B" } : Jvm.MethodName) jdk_52_method_15_code (2 : Nat) (Option.some Jvm.ClassFile.FieldType.byte)).before args0 about1 = true := code_word (m := ⟨8, 1⟩) (meth := k8m1) (c := k8c1) (by decide +kernel) rfl rfl rfl (by decide +kernel)
set_option maxRecDepth 65536 in
theorem w_c9 : (Jvm.Cond.code ({ cls := "com/example/cicada/cicada/BeanDefinition", name := "<init>", desc := "()V" } : Jvm.MethodName) prog_7_method_1_code (1 : Nat) (Option.none : Option Jvm.ClassFile.FieldType)).before args0 about1 = true := code_word (m := ⟨9, 0⟩) (meth := k9m0) (c := k9c0) (by decide +kernel) rfl rfl rfl (by decide +kernel)
set_option maxRecDepth 65536 in
theorem w_c10 : (Jvm.Cond.code ({ cls := "com/example/cicada/cicada/BeanDefinition", name := "getScope", desc := "()Ljava/lang/String;" } : Jvm.MethodName) prog_7_method_6_code (1 : Nat) (Option.some (Jvm.ClassFile.FieldType.object "java/lang/String"))).before args0 about1 = true := code_word (m := ⟨9, 1⟩) (meth := k9m1) (c := k9c1) (by decide +kernel) rfl rfl rfl (by decide +kernel)
set_option maxRecDepth 65536 in
theorem w_c11 : (Jvm.Cond.code ({ cls := "java/lang/String", name := "equals", desc := "(Ljava/lang/Object;)Z" } : Jvm.MethodName) jdk_42_method_66_code (3 : Nat) (Option.some Jvm.ClassFile.FieldType.boolean)).before args0 about1 = true := code_word (m := ⟨7, 3⟩) (meth := k7m3) (c := k7c3) (by decide +kernel) rfl rfl rfl (by decide +kernel)
set_option maxRecDepth 65536 in
theorem w_c12 : (Jvm.Cond.code ({ cls := "com/example/cicada/cicada/BeanDefinitionGetScopePinLaw", name := "after", desc := "(Ljava/lang/String;ILjava/lang/String;)Ljava/lang/String;" } : Jvm.MethodName) method_4_code (3 : Nat) (Option.some (Jvm.ClassFile.FieldType.object "java/lang/String"))).before args0 about1 = true := code_word (m := ⟨1, 3⟩) (meth := k1m3) (c := k1c3) (by decide +kernel) rfl rfl rfl (by decide +kernel)
set_option maxRecDepth 65536 in
theorem w_c13 : (Jvm.Cond.code ({ cls := "com/example/cicada/cicada/BeanDefinition", name := "setScope", desc := "(Ljava/lang/String;)V" } : Jvm.MethodName) prog_7_method_7_code (2 : Nat) (Option.none : Option Jvm.ClassFile.FieldType)).before args0 about1 = true := code_word (m := ⟨9, 2⟩) (meth := k9m2) (c := k9c2) (by decide +kernel) rfl rfl rfl (by decide +kernel)
set_option maxRecDepth 65536 in
theorem w_c14 : (Jvm.Cond.code ({ cls := "java/lang/String", name := "isEmpty", desc := "()Z" } : Jvm.MethodName) jdk_42_method_55_code (1 : Nat) (Option.some Jvm.ClassFile.FieldType.boolean)).before args0 about1 = true := code_word (m := ⟨7, 2⟩) (meth := k7m2) (c := k7c2) (by decide +kernel) rfl rfl rfl (by decide +kernel)
set_option maxRecDepth 65536 in
theorem w_c15 : (Jvm.Cond.code ({ cls := "java/lang/StringLatin1", name := "equals", desc := "([B[B)Z" } : Jvm.MethodName) jdk_43_method_13_code (3 : Nat) (Option.some Jvm.ClassFile.FieldType.boolean)).before args0 about1 = true := code_word (m := ⟨12, 1⟩) (meth := k12m1) (c := k12c1) (by decide +kernel) rfl rfl rfl (by decide +kernel)
def codes1 : List Jvm.Cond := [Jvm.Cond.code x code maxLocals ret, Jvm.Cond.code ({ cls := "com/example/cicada/cicada/BeanDefinitionGetScopePinLaw", name := "arg", desc := "(III)Ljava/lang/String;" } : Jvm.MethodName) method_3_code (3 : Nat) (Option.some (Jvm.ClassFile.FieldType.object "java/lang/String")), Jvm.Cond.code ({ cls := "com/example/cicada/cicada/BeanDefinitionGetScopePinLaw", name := "draw", desc := "(II)Ljava/lang/String;" } : Jvm.MethodName) method_2_code (6 : Nat) (Option.some (Jvm.ClassFile.FieldType.object "java/lang/String")), Jvm.Cond.code ({ cls := "java/lang/String", name := "<init>", desc := "([C)V" } : Jvm.MethodName) jdk_42_method_3_code (2 : Nat) (Option.none : Option Jvm.ClassFile.FieldType), Jvm.Cond.code ({ cls := "java/lang/String", name := "<init>", desc := "([CIILjava/lang/Void;)V" } : Jvm.MethodName) jdk_42_method_149_code (6 : Nat) (Option.none : Option Jvm.ClassFile.FieldType), Jvm.Cond.code ({ cls := "java/lang/Object", name := "<init>", desc := "()V" } : Jvm.MethodName) object_method_1_code (1 : Nat) (Option.none : Option Jvm.ClassFile.FieldType), Jvm.Cond.code ({ cls := "java/lang/StringUTF16", name := "compress", desc := "([CII)[B" } : Jvm.MethodName) jdk_52_method_16_code (6 : Nat) (Option.some (Jvm.ClassFile.FieldType.array Jvm.ClassFile.FieldType.byte)), Jvm.Cond.code ({ cls := "java/lang/StringUTF16", name := "compress", desc := "([CI[BII)I" } : Jvm.MethodName) jdk_52_method_21_code (7 : Nat) (Option.some Jvm.ClassFile.FieldType.int), Jvm.Cond.code ({ cls := "java/lang/StringUTF16", name := "coderFromArrayLen", desc := "([BI)B" } : Jvm.MethodName) jdk_52_method_15_code (2 : Nat) (Option.some Jvm.ClassFile.FieldType.byte), Jvm.Cond.code ({ cls := "com/example/cicada/cicada/BeanDefinition", name := "<init>", desc := "()V" } : Jvm.MethodName) prog_7_method_1_code (1 : Nat) (Option.none : Option Jvm.ClassFile.FieldType), Jvm.Cond.code ({ cls := "com/example/cicada/cicada/BeanDefinition", name := "getScope", desc := "()Ljava/lang/String;" } : Jvm.MethodName) prog_7_method_6_code (1 : Nat) (Option.some (Jvm.ClassFile.FieldType.object "java/lang/String")), Jvm.Cond.code ({ cls := "java/lang/String", name := "equals", desc := "(Ljava/lang/Object;)Z" } : Jvm.MethodName) jdk_42_method_66_code (3 : Nat) (Option.some Jvm.ClassFile.FieldType.boolean), Jvm.Cond.code ({ cls := "com/example/cicada/cicada/BeanDefinitionGetScopePinLaw", name := "after", desc := "(Ljava/lang/String;ILjava/lang/String;)Ljava/lang/String;" } : Jvm.MethodName) method_4_code (3 : Nat) (Option.some (Jvm.ClassFile.FieldType.object "java/lang/String")), Jvm.Cond.code ({ cls := "com/example/cicada/cicada/BeanDefinition", name := "setScope", desc := "(Ljava/lang/String;)V" } : Jvm.MethodName) prog_7_method_7_code (2 : Nat) (Option.none : Option Jvm.ClassFile.FieldType), Jvm.Cond.code ({ cls := "java/lang/String", name := "isEmpty", desc := "()Z" } : Jvm.MethodName) jdk_42_method_55_code (1 : Nat) (Option.some Jvm.ClassFile.FieldType.boolean), Jvm.Cond.code ({ cls := "java/lang/StringLatin1", name := "equals", desc := "([B[B)Z" } : Jvm.MethodName) jdk_43_method_13_code (3 : Nat) (Option.some Jvm.ClassFile.FieldType.boolean)]
set_option maxRecDepth 65536 in
theorem codes_eq : words1.filter isCode = codes1 := rfl
theorem w_codes : ∀ c ∈ words1.filter isCode, c.before args0 about1 = true := by
  rw [codes_eq]
  intro c hc
  simp only [codes1, List.mem_cons, List.not_mem_nil, or_false] at hc
  rcases hc with rfl | rfl | rfl | rfl | rfl | rfl | rfl | rfl | rfl | rfl | rfl | rfl | rfl | rfl | rfl | rfl
  · exact w_c0
  · exact w_c1
  · exact w_c2
  · exact w_c3
  · exact w_c4
  · exact w_c5
  · exact w_c6
  · exact w_c7
  · exact w_c8
  · exact w_c9
  · exact w_c10
  · exact w_c11
  · exact w_c12
  · exact w_c13
  · exact w_c14
  · exact w_c15
set_option maxRecDepth 65536 in
theorem w_t1 : (words1.take 24).all (fun c => isCode c || c.before args0 about1) = true := by decide +kernel
set_option maxRecDepth 65536 in
theorem w_t2 : ((words1.drop 24).take 24).all (fun c => isCode c || c.before args0 about1) = true := by decide +kernel
set_option maxRecDepth 65536 in
theorem w_t3 : (((words1.drop 24).drop 24).take 24).all (fun c => isCode c || c.before args0 about1) = true := by decide +kernel
set_option maxRecDepth 65536 in
theorem w_t4 : ((((words1.drop 24).drop 24).drop 24).take 24).all (fun c => isCode c || c.before args0 about1) = true := by decide +kernel
set_option maxRecDepth 65536 in
theorem w_t5 : ((((words1.drop 24).drop 24).drop 24).drop 24).all (fun c => isCode c || c.before args0 about1) = true := by decide +kernel
theorem w_tables : (allAtoms (Jvm.Cond.code x code maxLocals ret :: tables_1)).before args0 about1 = true := by
  rw [allAtoms_all]
  show words1.all (fun c => c.before args0 about1) = true
  refine all_split ?_ w_codes
  rw [← List.take_append_drop 24 words1, List.all_append, w_t1, ← List.take_append_drop 24 (words1.drop 24), List.all_append, w_t2, ← List.take_append_drop 24 ((words1.drop 24).drop 24), List.all_append, w_t3, ← List.take_append_drop 24 (((words1.drop 24).drop 24).drop 24), List.all_append, w_t4, w_t5]
  rfl
set_option maxRecDepth 65536 in
theorem w_rest : rest_1_c.before args0 about1 = true := by decide +kernel
set_option maxRecDepth 65536 in
theorem w_case : (Jvm.Cond.and given_1 narrow_1).before args0 about1 = true := by decide +kernel
set_option maxRecDepth 65536 in
theorem w_consts : constsHeld consts_1 about1 := Jvm.Lit.constsHeldB_iff.mp (by decide +kernel)
theorem w_applies : (headSpec (Jvm.Cond.code x code maxLocals ret :: tables_1) room_1).applies x e0.platform about1 = true :=
  (Spec.applies_iff w_frames).mpr ⟨w_running, w_runnable, w_alone, w_named, w_hears, w_ripe, w_room, w_tables⟩
theorem atStart : AtStart classFile x code maxLocals ret World_1 tables_1 room_1 Calls_1 rest_1 Pre_1 launch0 p0 e0 about1 theMethod args0 below0 :=
  ⟨lists_1, trivial, launch0.admits_env _ _ _, launch0.least_env, fairChoices_fair.cas, fairChoices_fair.clock, w_frames, w_args, w_heap, w_applies, ⟨w_consts, trivial⟩, w_rest, w_case⟩
end start1
theorem witness_1 : WitnessClaimed_1 := ⟨start1.p0, start1.e0, start1.about1, start1.theMethod, start1.args0, start1.below0, start1.atStart⟩
end Jvm.Pilot.@@N@@
