import JvmDerived
import JvmDerived.Pilot.@@N@@Statement
import JvmDerived.Pilot.@@N@@Code
set_option linter.unusedVariables false
set_option linter.unusedSimpArgs false
namespace Jvm.Pilot.@@N@@
open Jvm Jvm.ClassFile Sem Op Lib Jvm.Free Jvm.Stand Jvm.LawKit Jvm.RoadKit Bundle Jvm.Pilot.@@N@@.Jvm.D
section Own
variable {p : Program} {l : Launch} {e : Env} {R : Room} {s : State} {m : MethodId} {args : Array Value} {below : List Frame} {meth : Method} {c : Code} {T T' : State} {locs : List Loc} {cells slots C N : Nat} {Z : State} {h h' : Heap} {n0 : Nat}
/-- from the frame g over T the run comes to a state of which P holds -/
def own_Rch (p : Program) (e : Env) (below : List Frame) (P : State → Prop) (T : State) (g : JFrame) : Prop := ∃ U, Steps p.tables e below (T.setTop g) U ∧ P U
/-- the body has ended as Q says -/
def own_End (s : State) (below : List Frame) (Q : Option Value → Heap → List Loc → Prop) (C N : Nat) (U : State) : Prop := U.status = .running ∧ ∃ v L, Ended U below (.returned v) ∧ Q v U.heap L ∧ FrameEnd s (.returned v) U L C N
theorem own_st {P : State → Prop} {g g' : JFrame} (h : ∀ t, Steps p.tables e below (T'.setTop g') t → Steps p.tables e below (T.setTop g) t) (k : own_Rch p e below P T' g') : own_Rch p e below P T g := by
  obtain ⟨U, h1, h2⟩ := k
  exact ⟨U, h U h1, h2⟩
theorem own_close {Q : Option Value → Heap → List Loc → Prop} {g : JFrame} (k : own_Rch p e below (own_End s below Q C N) T g) : ∃ U o, Steps p.tables e below (T.setTop g) U ∧ U.status = .running ∧ Ended U below o ∧ ∃ v L, o = .returned v ∧ Q v U.heap L ∧ FrameEnd s o U L C N := by
  obtain ⟨U, h1, h2, v, L, h3, h4, h5⟩ := k
  exact ⟨U, _, h1, h2, h3, v, L, rfl, h4, h5⟩
theorem own_retN {Q : Option Value → Heap → List Loc → Prop} {pc : Nat} {Ls : Array Slot} {z : Int32} {t : FieldType} {rest : List Value} (ht : t = .boolean ∨ t = .byte ∨ t = .char ∨ t = .short) (X : Stand p l e R s m args below meth c T locs cells slots) (hx : p.tables.exec = Jvm.exec) (hlk : meth.locks = false) (hret : meth.sig.returnType = some t) (hd : decode c.code pc = .ok (.ireturn, 1)) (hc : cells ≤ C) (hn : slots ≤ N)
    (hq : Q (some (.int (nar t z))) T.heap locs) : own_Rch p e below (own_End s below Q C N) T (mkF m pc Ls (.int z :: rest)) := by
  obtain ⟨fs, hr, hrun, hended, hW, hsame⟩ := X.leave (v := some (.int (nar t z))) (fun h => by rw [hret] at h; cases h) hlk
  exact ⟨_, retN X hx hret ht hd hr, hrun, _, _, hended, hq, ⟨_, rfl⟩, hW, hsame.mono hc hn⟩
theorem own_retI {Q : Option Value → Heap → List Loc → Prop} {pc : Nat} {Ls : Array Slot} {z : Int32} {rest : List Value} (X : Stand p l e R s m args below meth c T locs cells slots) (hx : p.tables.exec = Jvm.exec) (hlk : meth.locks = false) (hret : meth.sig.returnType = some .int) (hd : decode c.code pc = .ok (.ireturn, 1)) (hc : cells ≤ C) (hn : slots ≤ N)
    (hq : Q (some (.int z)) T.heap locs) : own_Rch p e below (own_End s below Q C N) T (mkF m pc Ls (.int z :: rest)) := by
  obtain ⟨fs, hr, hrun, hended, hW, hsame⟩ := X.leave (v := some (.int z)) (fun h => by rw [hret] at h; cases h) hlk
  exact ⟨_, retOut X hx hret rfl (Or.inl ⟨rfl, Or.inl rfl, z, rfl⟩) hd hr, hrun, _, _, hended, hq, ⟨_, rfl⟩, hW, hsame.mono hc hn⟩
theorem own_retL {Q : Option Value → Heap → List Loc → Prop} {pc : Nat} {Ls : Array Slot} {z : Int64} {rest : List Value} (X : Stand p l e R s m args below meth c T locs cells slots) (hx : p.tables.exec = Jvm.exec) (hlk : meth.locks = false) (hret : meth.sig.returnType = some .long) (hd : decode c.code pc = .ok (.lreturn, 1)) (hc : cells ≤ C) (hn : slots ≤ N)
    (hq : Q (some (.long z)) T.heap locs) : own_Rch p e below (own_End s below Q C N) T (mkF m pc Ls (.long z :: rest)) := by
  obtain ⟨fs, hr, hrun, hended, hW, hsame⟩ := X.leave (v := some (.long z)) (fun h => by rw [hret] at h; cases h) hlk
  exact ⟨_, retOut X hx hret rfl (Or.inr (Or.inl ⟨rfl, rfl, z, rfl⟩)) hd hr, hrun, _, _, hended, hq, ⟨_, rfl⟩, hW, hsame.mono hc hn⟩
theorem own_narref {t : FieldType} {w : Value} (ht : t.isReference = true) : narrow t w = w := by cases t <;> first | rfl | (cases ht; done)
theorem own_retA {Q : Option Value → Heap → List Loc → Prop} {pc : Nat} {Ls : Array Slot} {w : Value} {t : FieldType} {rest : List Value} (ht : t.isReference = true) (hw : w.isRef = true) (X : Stand p l e R s m args below meth c T locs cells slots) (hx : p.tables.exec = Jvm.exec) (hlk : meth.locks = false) (hret : meth.sig.returnType = some t) (hd : decode c.code pc = .ok (.areturn, 1)) (hc : cells ≤ C) (hn : slots ≤ N)
    (hq : Q (some w) T.heap locs) : own_Rch p e below (own_End s below Q C N) T (mkF m pc Ls (w :: rest)) := by
  obtain ⟨fs, hr, hrun, hended, hW, hsame⟩ := X.leave (v := some w) (fun h => by rw [hret] at h; cases h) hlk
  exact ⟨_, retOut X hx hret (own_narref ht) (Or.inr (Or.inr (Or.inr (Or.inr ⟨rfl, ht, hw⟩)))) hd hr, hrun, _, _, hended, hq, ⟨_, rfl⟩, hW, hsame.mono hc hn⟩
theorem own_retV {Q : Option Value → Heap → List Loc → Prop} {pc : Nat} {Ls : Array Slot} (X : Stand p l e R s m args below meth c T locs cells slots) (hx : p.tables.exec = Jvm.exec) (hlk : meth.locks = false) (hret : meth.sig.returnType = none) (hd : decode c.code pc = .ok (.return_, 1)) (hc : cells ≤ C) (hn : slots ≤ N)
    (hq : Q none T.heap locs) : own_Rch p e below (own_End s below Q C N) T (mkF m pc Ls []) := by
  obtain ⟨fs, hr, hrun, hended, hW, hsame⟩ := X.leave (v := none) (fun _ => rfl) hlk
  exact ⟨_, X.returnOut hx hret hd hr, hrun, _, _, hended, hq, ⟨_, rfl⟩, hW, hsame.mono hc hn⟩
theorem own_psel {y : MethodName} {n : Nat} (hins : (Jvm.Cond.instantiable y.cls n).before args s = true) (hpriv : (Jvm.Cond.privateMethod y).before args s = true) (hinst : (Jvm.Cond.instanceMethod y).before args s = true) (hy : y.cls ≠ "java/lang/invoke/MethodHandle" ∧ y.cls ≠ "java/lang/invoke/VarHandle" := by decide) : (Jvm.Cond.selects y.cls y y).before args s = true := by
  obtain ⟨c, k, hc, hk, -, hniab, -, -⟩ := Cond.instantiable_spec hins
  have hni : k.isInterface = false := (Bool.or_eq_false_iff.mp hniab).1
  obtain ⟨mk, methM, hnamed, hmethM, -, -⟩ := Cond.instanceMethod_spec hinst
  have hfound : s.methodFound? y.cls y.name y.desc = some mk := State.methodFound?_of_named hnamed hy
  have hcls : mk.cls = c := Option.some.inj ((findClass_of_methodNamed hnamed).symm.trans hc)
  have hsel : selectMethod {} s.vm c mk = .method mk := selectMethod_private hmethM (Cond.privateMethod_at hpriv mk methM hnamed hmethM)
  simp only [Cond.before, Cond.holds, Cond.value, hc, hfound, hnamed, hsel, hcls, hk]
  simp; exact hni
theorem own_since (s : State) : s.Since s.vm 0 := (State.WarmedH.refl s).since 0
def own_EndW (s : State) (below : List Frame) (Q : Option Value → Heap → List Loc → Prop) (C N : Nat) (U : State) : Prop := U.status = .running ∧ ∃ v L, Ended U below (.returned v) ∧ Q v U.heap L ∧ ReturnedEndW s (.returned v) U L C N
theorem own_closeW {Q : Option Value → Heap → List Loc → Prop} {g : JFrame} (k : own_Rch p e below (own_EndW s below Q C N) T g) : ∃ U o, Steps p.tables e below (T.setTop g) U ∧ U.status = .running ∧ Ended U below o ∧ ∃ v L, o = .returned v ∧ Q v U.heap L ∧ ReturnedEndW s o U L C N := by
  obtain ⟨U, h1, h2, v, L, h3, h4, h5⟩ := k
  exact ⟨U, _, h1, h2, h3, v, L, rfl, h4, h5⟩
theorem own_retNW {vm0 : Vm} {k0 : Nat} {Q : Option Value → Heap → List Loc → Prop} {pc : Nat} {Ls : Array Slot} {z : Int32} {t : FieldType} {rest : List Value} (ht : t = .boolean ∨ t = .byte ∨ t = .char ∨ t = .short) (hS : s.Since vm0 k0) (hk : k0 ≤ T.heap.size) (X : Stand p l e R (s.setVm vm0) m args below meth c T locs cells slots) (hx : p.tables.exec = Jvm.exec) (hlk : meth.locks = false) (hret : meth.sig.returnType = some t) (hd : decode c.code pc = .ok (.ireturn, 1)) (hc : cells ≤ C) (hn : slots ≤ N)
    (hq : Q (some (.int (nar t z))) T.heap locs) : own_Rch p e below (own_EndW s below Q C N) T (mkF m pc Ls (.int z :: rest)) := by
  obtain ⟨fs, hr, hrun, hended, h1, h2, h3, h4⟩ := X.leaveW hS hk (v := some (.int (nar t z))) (fun h => by rw [hret] at h; cases h) hlk
  exact ⟨_, retN X hx hret ht hd hr, hrun, _, _, hended, hq, h1, h2, h3, h4.mono hc hn⟩
theorem own_retIW {vm0 : Vm} {k0 : Nat} {Q : Option Value → Heap → List Loc → Prop} {pc : Nat} {Ls : Array Slot} {z : Int32} {rest : List Value} (hS : s.Since vm0 k0) (hk : k0 ≤ T.heap.size) (X : Stand p l e R (s.setVm vm0) m args below meth c T locs cells slots) (hx : p.tables.exec = Jvm.exec) (hlk : meth.locks = false) (hret : meth.sig.returnType = some .int) (hd : decode c.code pc = .ok (.ireturn, 1)) (hc : cells ≤ C) (hn : slots ≤ N)
    (hq : Q (some (.int z)) T.heap locs) : own_Rch p e below (own_EndW s below Q C N) T (mkF m pc Ls (.int z :: rest)) := by
  obtain ⟨fs, hr, hrun, hended, h1, h2, h3, h4⟩ := X.leaveW hS hk (v := some (.int z)) (fun h => by rw [hret] at h; cases h) hlk
  exact ⟨_, retOut X hx hret rfl (Or.inl ⟨rfl, Or.inl rfl, z, rfl⟩) hd hr, hrun, _, _, hended, hq, h1, h2, h3, h4.mono hc hn⟩
theorem own_retAW {vm0 : Vm} {k0 : Nat} {Q : Option Value → Heap → List Loc → Prop} {pc : Nat} {Ls : Array Slot} {w : Value} {t : FieldType} {rest : List Value} (ht : t.isReference = true) (hw : w.isRef = true) (hS : s.Since vm0 k0) (hk : k0 ≤ T.heap.size) (X : Stand p l e R (s.setVm vm0) m args below meth c T locs cells slots) (hx : p.tables.exec = Jvm.exec) (hlk : meth.locks = false) (hret : meth.sig.returnType = some t) (hd : decode c.code pc = .ok (.areturn, 1)) (hc : cells ≤ C) (hn : slots ≤ N)
    (hq : Q (some w) T.heap locs) : own_Rch p e below (own_EndW s below Q C N) T (mkF m pc Ls (w :: rest)) := by
  obtain ⟨fs, hr, hrun, hended, h1, h2, h3, h4⟩ := X.leaveW hS hk (v := some w) (fun h => by rw [hret] at h; cases h) hlk
  exact ⟨_, retOut X hx hret (own_narref ht) (Or.inr (Or.inr (Or.inr (Or.inr ⟨rfl, ht, hw⟩)))) hd hr, hrun, _, _, hended, hq, h1, h2, h3, h4.mono hc hn⟩
theorem own_retVW {vm0 : Vm} {k0 : Nat} {Q : Option Value → Heap → List Loc → Prop} {pc : Nat} {Ls : Array Slot} (hS : s.Since vm0 k0) (hk : k0 ≤ T.heap.size) (X : Stand p l e R (s.setVm vm0) m args below meth c T locs cells slots) (hx : p.tables.exec = Jvm.exec) (hlk : meth.locks = false) (hret : meth.sig.returnType = none) (hd : decode c.code pc = .ok (.return_, 1)) (hc : cells ≤ C) (hn : slots ≤ N)
    (hq : Q none T.heap locs) : own_Rch p e below (own_EndW s below Q C N) T (mkF m pc Ls []) := by
  obtain ⟨fs, hr, hrun, hended, h1, h2, h3, h4⟩ := X.leaveW hS hk (v := none) (fun _ => rfl) hlk
  exact ⟨_, X.returnOut hx hret hd hr, hrun, _, _, hended, hq, h1, h2, h3, h4.mono hc hn⟩
theorem own_old_le (O : Old Z n0 h) : n0 ≤ h.size := O.1 ▸ O.2.1
end Own
theorem own_fldeq {args : Array Value} {Z : State} {t : Term} {a : Addr} {C n d : String} {k : Int32} (ht : t.eval args Z none [] Z = some (.ref a)) (h : (Jvm.Cond.eq (.field t C n d) (.int k)).value args Z none Z [] = some true) : Fld Z Z.heap a C n d (.int k) := by
  obtain ⟨x, y, h1, h2, -, k2⟩ := cmp_v (Or.inl h)
  cases (Term.int_eval k).symm.trans h2
  obtain ⟨z, rfl⟩ := k2
  simp only [Cond.value, h1, h2] at h
  have h3 : z = k := by simpa using h
  subst h3
  exact Fld.start ((fld_at ht).symm.trans h1)
def own_lvl (a w0 : Addr) (b w s : Int32) : Int32 := if b = w then b else if s < w then w else if w - b = 1 then b else if a = w0 then w - 1 else b + 1
def own_max (x y : Int32) : Int32 := if x < y then y else x
theorem own_mask (x m : Int32) (h0 : 0 ≤ m.toInt) (h1 : m.toInt ≤ 1048575) : 0 ≤ (x &&& m).toInt ∧ (x &&& m).toInt ≤ 1048575 := by
  have := c_and x m h0
  omega
theorem own_be (p : Int32) : 1 ≤ ((1 : Int32) + (p &&& (1048575 : Int32))).toInt ∧ ((1 : Int32) + (p &&& (1048575 : Int32))).toInt ≤ 1048576 := by
  have h := own_mask p 1048575 (by decide) (by decide)
  have h1 := c_iadd (1 : Int32) (p &&& (1048575 : Int32))
  have h2 := rng32 ((1 : Int32) + (p &&& (1048575 : Int32)))
  have e : (1 : Int32).toInt = 1 := by decide
  omega
theorem own_wo {b d : Int32} (hb : 1 ≤ b.toInt ∧ b.toInt ≤ 1048576) (hd : 0 ≤ d.toInt ∧ d.toInt ≤ 1048575) : (b + d).toInt = b.toInt + d.toInt := by
  have h1 := c_iadd b d
  have h2 := rng32 (b + d)
  omega
theorem own_ne0 {b d : Int32} (h : ¬ d = 0) : ¬ b = b + d := fun q => h (by
  apply Int32.toInt_inj.mp
  have h1 := c_iadd b d
  rw [← q] at h1
  have h2 := rng32 d
  have e : (0 : Int32).toInt = 0 := by decide
  omega)
theorem own_sub {b d : Int32} : b + d - b = d := by
  apply Int32.toInt_inj.mp
  have h1 := c_iadd b d
  have h2 := c_isub (b + d) b
  have h3 := rng32 d
  have h4 := rng32 (b + d - b)
  omega
theorem own_k0 {a w0 : Addr} {b d s : Int32} (h : d = 0) : own_lvl a w0 b (b + d) s = b := by subst h; simp [own_lvl]
theorem own_k1 {a w0 : Addr} {b d s : Int32} (h : ¬ d = 0) (h2 : s < b + d) : own_lvl a w0 b (b + d) s = b + d := by simp only [own_lvl, if_neg (own_ne0 h), if_pos h2]
theorem own_k2 {a w0 : Addr} {b d s : Int32} (h : ¬ d = 0) (h2 : ¬ s < b + d) (h3 : d = 1) : own_lvl a w0 b (b + d) s = b := by simp only [own_lvl, if_neg (own_ne0 h), if_neg h2, own_sub, if_pos h3]
theorem own_k3 {w0 : Addr} {b d s : Int32} (h : ¬ d = 0) (h2 : ¬ s < b + d) (h3 : ¬ d = 1) : own_lvl w0 w0 b (b + d) s = b + d - 1 := by simp only [own_lvl, if_neg (own_ne0 h), if_neg h2, own_sub, if_neg h3, if_true]
theorem own_k4 {a w0 : Addr} {b d s : Int32} (hn : a ≠ w0) (h : ¬ d = 0) (h2 : ¬ s < b + d) (h3 : ¬ d = 1) : own_lvl a w0 b (b + d) s = b + 1 := by simp only [own_lvl, if_neg (own_ne0 h), if_neg h2, own_sub, if_neg h3, if_neg hn]
theorem own_irr (x : Int32) : ¬ x < x := by rw [Int32.lt_iff_toInt_lt]; omega
theorem own_bw {b d : Int32} (hb : 1 ≤ b.toInt ∧ b.toInt ≤ 1048576) (hd : 0 ≤ d.toInt ∧ d.toInt ≤ 1048575) : ¬ b + d < b := by
  rw [Int32.lt_iff_toInt_lt, own_wo hb hd]; omega
theorem own_far {b d : Int32} (hb : 1 ≤ b.toInt ∧ b.toInt ≤ 1048576) (hd : 0 ≤ d.toInt ∧ d.toInt ≤ 1048575) (h : ¬ d = 0) : ¬ b + d - 1 < b ∧ ¬ b + d < b + d - 1 ∧ ¬ b + 1 < b ∧ ¬ b + d < b + 1 := by
  have e1 : (1 : Int32).toInt = 1 := by decide
  have e0 : (0 : Int32).toInt = 0 := by decide
  have hd0 : d.toInt ≠ 0 := fun q => h (Int32.toInt_inj.mp (by rw [q, e0]))
  have h1 := own_wo hb hd
  have h2 := c_isub (b + d) 1
  have h3 := rng32 (b + d - 1)
  have h4 := c_iadd b 1
  have h5 := rng32 (b + 1)
  simp only [Int32.lt_iff_toInt_lt]
  omega
theorem own_pn0 : plainName "com/example/drawdown/drawdown/terms/SplitRule" = true := by first | (simp [plainName, overriddenIn]; done) | decide +kernel
theorem own_ef1 (m : MethodId) (x0 : Addr) (x1 : Int32) (x2 : Int32) (x3 : Int32) : entryFrame m #[(.ref x0), (.int x1), (.int x2), (.int x3)] 5 = mkF m 0 #[.val (.ref x0), .val (.int x1), .val (.int x2), .val (.int x3), .unset] [] := by first | (simp [entryFrame, mkF, argsToLocals, Value.category]; done) | rfl
theorem own_d1_0 : decode prog_84_method_5_code 0 = .ok (.iload_n 1, 1) := by decide +kernel
theorem own_d1_1 : decode prog_84_method_5_code 1 = .ok (.iload_n 2, 1) := by decide +kernel
theorem own_d1_2 : decode prog_84_method_5_code 2 = .ok (.if_icmp .ne 9, 3) := by decide +kernel
theorem own_d1_5 : decode prog_84_method_5_code 5 = .ok (.iload_n 1, 1) := by decide +kernel
theorem own_d1_6 : decode prog_84_method_5_code 6 = .ok (.istore 4, 2) := by decide +kernel
theorem own_d1_8 : decode prog_84_method_5_code 8 = .ok (.goto 47, 3) := by decide +kernel
theorem own_d1_55 : decode prog_84_method_5_code 55 = .ok (.iload 4, 2) := by decide +kernel
theorem own_d1_57 : decode prog_84_method_5_code 57 = .ok (.ireturn, 1) := by decide +kernel
theorem own_d1_11 : decode prog_84_method_5_code 11 = .ok (.iload_n 2, 1) := by decide +kernel
theorem own_d1_12 : decode prog_84_method_5_code 12 = .ok (.iload_n 3, 1) := by decide +kernel
theorem own_d1_13 : decode prog_84_method_5_code 13 = .ok (.if_icmp .le 9, 3) := by decide +kernel
theorem own_d1_16 : decode prog_84_method_5_code 16 = .ok (.iload_n 2, 1) := by decide +kernel
theorem own_d1_17 : decode prog_84_method_5_code 17 = .ok (.istore 4, 2) := by decide +kernel
theorem own_d1_19 : decode prog_84_method_5_code 19 = .ok (.goto 36, 3) := by decide +kernel
theorem own_d1_22 : decode prog_84_method_5_code 22 = .ok (.iload_n 2, 1) := by decide +kernel
theorem own_d1_23 : decode prog_84_method_5_code 23 = .ok (.iload_n 1, 1) := by decide +kernel
theorem own_d1_24 : decode prog_84_method_5_code 24 = .ok (.isub, 1) := by decide +kernel
theorem own_d1_25 : decode prog_84_method_5_code 25 = .ok (.iconst 1, 1) := by decide +kernel
theorem own_d1_26 : decode prog_84_method_5_code 26 = .ok (.if_icmp .ne 9, 3) := by decide +kernel
theorem own_d1_29 : decode prog_84_method_5_code 29 = .ok (.iload_n 1, 1) := by decide +kernel
theorem own_d1_30 : decode prog_84_method_5_code 30 = .ok (.istore 4, 2) := by decide +kernel
theorem own_d1_32 : decode prog_84_method_5_code 32 = .ok (.goto 23, 3) := by decide +kernel
theorem own_d1_35 : decode prog_84_method_5_code 35 = .ok (.aload_n 0, 1) := by decide +kernel
theorem own_d1_36 : decode prog_84_method_5_code 36 = .ok (.getstatic 3, 3) := by decide +kernel
theorem own_d1_39 : decode prog_84_method_5_code 39 = .ok (.if_acmp .ne 11, 3) := by decide +kernel
theorem own_d1_42 : decode prog_84_method_5_code 42 = .ok (.iload_n 2, 1) := by decide +kernel
theorem own_d1_43 : decode prog_84_method_5_code 43 = .ok (.iconst 1, 1) := by decide +kernel
theorem own_d1_44 : decode prog_84_method_5_code 44 = .ok (.isub, 1) := by decide +kernel
theorem own_d1_45 : decode prog_84_method_5_code 45 = .ok (.istore 4, 2) := by decide +kernel
theorem own_d1_47 : decode prog_84_method_5_code 47 = .ok (.goto 8, 3) := by decide +kernel
theorem own_d1_50 : decode prog_84_method_5_code 50 = .ok (.iload_n 1, 1) := by decide +kernel
theorem own_d1_51 : decode prog_84_method_5_code 51 = .ok (.iconst 1, 1) := by decide +kernel
theorem own_d1_52 : decode prog_84_method_5_code 52 = .ok (.iadd, 1) := by decide +kernel
theorem own_d1_53 : decode prog_84_method_5_code 53 = .ok (.istore 4, 2) := by decide +kernel
def own_Q_own_level (Z : State) (a : Addr) (b : Int32) (w : Int32) (sp : Int32) (w0 : Addr) (h0 : Heap) (n0 : Nat) (v : Option Value) (h : Heap) (L : List Loc) : Prop := v = some (.int (own_lvl a w0 b w sp)) ∧ Fr n0 L ∧ h = h0
set_option maxRecDepth 65536 in
set_option maxHeartbeats 40000000 in
theorem own_level (l : Launch) (Z : State) (a0 : Array Value) (hw : ∀ d ∈ tables_1, d.before a0 Z = true) (ws : List Jvm.Cond) (a : Addr) (b : Int32) (w : Int32) (sp : Int32) (w0 : Addr) (h0 : Heap) (n0 : Nat) (O0 : Old Z n0 h0) (S0 : Sta Z Z.heap "com/example/drawdown/drawdown/terms/SplitRule" "ONE_APART_BETTER_ELSE_ONE_ABOVE_WORSE" "Lcom/example/drawdown/drawdown/terms/SplitRule;" (.ref w0)) :
    MetFree l (⟨"com/example/drawdown/drawdown/terms/SplitRule", "levelInEffect", "(III)I"⟩ : MethodName) (head1 (Jvm.Cond.code (⟨"com/example/drawdown/drawdown/terms/SplitRule", "levelInEffect", "(III)I"⟩ : MethodName) prog_84_method_5_code 5 (some .int) :: ws) ({ frames := 0, cells := 0, slots := 0, locals := 0 } : Room)) (fun args_ U => args_ = #[(.ref a), (.int b), (.int w), (.int sp)] ∧ Z.Warmed39 U.vm ∧ U.heap = h0) (fun _ _ _ _ _ => True) (fun _ U o U' => ∃ v L, o = .returned v ∧ (own_Q_own_level Z a b w sp w0 h0 n0) v U'.heap L ∧ FrameEnd U o U' L ({ frames := 0, cells := 0, slots := 0, locals := 0 } : Room).cells ({ frames := 0, cells := 0, slots := 0, locals := 0 } : Room).slots) := by
  refine MetFree.of_bodySF (plainFor_of_name own_pn0) hisR ?_
  intro p e s m args below meth c s₁ Bd hml0 hP hK
  obtain ⟨rfl, hZ, hh⟩ := hP
  have hx := Bd.exec
  have hby := Bd.bytes
  have hml : c.maxLocals = 5 := hml0
  have hown : s.vm.findClass "com/example/drawdown/drawdown/terms/SplitRule" = some m.cls := findClass_of_methodNamed Bd.named
  have hnm := (name_of_methodNamed Bd.named Bd.method).1
  have X0 : Stand p l e ({ frames := 0, cells := 0, slots := 0, locals := 0 } : Room) s m #[(.ref a), (.int b), (.int w), (.int sp)] below meth c s₁ [] 0 0 := Stand.of_body Bd
  have e0 : s₁.heap = h0 := by rw [← hh, Bd.state]; rfl
  have N0 := Fr.nil n0
  refine own_close (s := s) (Q := (own_Q_own_level Z a b w sp w0 h0 n0)) (C := (({ frames := 0, cells := 0, slots := 0, locals := 0 } : Room)).cells) (N := (({ frames := 0, cells := 0, slots := 0, locals := 0 } : Room)).slots) (own_st (fun _ kt => castTop (own_ef1 m a b w sp) kt) ?_)
  show own_Rch p e below _ s₁ (mkF m 0 #[.val (.ref a), .val (.int b), .val (.int w), .val (.int sp), .unset] [])
  refine own_st (fun _ kt => XS.iloadN X0.here hx rfl (hb hby own_d1_0) rfl  kt) ?_
  show own_Rch p e below _ s₁ (mkF m 1 #[.val (.ref a), .val (.int b), .val (.int w), .val (.int sp), .unset] [(.int b)])
  refine own_st (fun _ kt => XS.iloadN X0.here hx rfl (hb hby own_d1_1) rfl  kt) ?_
  show own_Rch p e below _ s₁ (mkF m 2 #[.val (.ref a), .val (.int b), .val (.int w), .val (.int sp), .unset] [(.int w), (.int b)])
  by_cases hc2_1 : b = w
  · -- pc 2: True
    refine own_st (fun _ kt => XS.icmpNo X0.here hx rfl (hb hby own_d1_2) rfl (teq hc2_1).2 kt) ?_
    show own_Rch p e below _ s₁ (mkF m 5 #[.val (.ref a), .val (.int b), .val (.int w), .val (.int sp), .unset] [])
    refine own_st (fun _ kt => XS.iloadN X0.here hx rfl (hb hby own_d1_5) rfl  kt) ?_
    show own_Rch p e below _ s₁ (mkF m 6 #[.val (.ref a), .val (.int b), .val (.int w), .val (.int sp), .unset] [(.int b)])
    refine own_st (fun _ kt => XS.istore X0.here hx rfl (hb hby own_d1_6) rfl (l' := #[.val (.ref a), .val (.int b), .val (.int w), .val (.int sp), .val (.int b)]) rfl kt) ?_
    show own_Rch p e below _ s₁ (mkF m 8 #[.val (.ref a), .val (.int b), .val (.int w), .val (.int sp), .val (.int b)] [])
    refine own_st (fun _ kt => XS.goto X0.here hx rfl (pc0 := 8) (pc' := 55) rfl (hb hby own_d1_8) (by decide) (by decide) kt) ?_
    show own_Rch p e below _ s₁ (mkF m 55 #[.val (.ref a), .val (.int b), .val (.int w), .val (.int sp), .val (.int b)] [])
    refine own_st (fun _ kt => XS.iload X0.here hx rfl (hb hby own_d1_55) rfl  kt) ?_
    show own_Rch p e below _ s₁ (mkF m 57 #[.val (.ref a), .val (.int b), .val (.int w), .val (.int sp), .val (.int b)] [(.int b)])
    refine own_retI X0 hx Bd.notSynchronized Bd.returns (hb hby own_d1_57) (by decide) (by decide) ?_
    rw [e0]
    exact ⟨by simp [own_lvl, hc2_1], N0, rfl⟩
  · -- pc 2: False
    refine own_st (fun _ kt => XS.icmpYes X0.here hx rfl (pc0 := 2) (pc' := 11) rfl (hb hby own_d1_2) rfl (feq hc2_1).2 (by decide) (by decide) kt) ?_
    show own_Rch p e below _ s₁ (mkF m 11 #[.val (.ref a), .val (.int b), .val (.int w), .val (.int sp), .unset] [])
    refine own_st (fun _ kt => XS.iloadN X0.here hx rfl (hb hby own_d1_11) rfl  kt) ?_
    show own_Rch p e below _ s₁ (mkF m 12 #[.val (.ref a), .val (.int b), .val (.int w), .val (.int sp), .unset] [(.int w)])
    refine own_st (fun _ kt => XS.iloadN X0.here hx rfl (hb hby own_d1_12) rfl  kt) ?_
    show own_Rch p e below _ s₁ (mkF m 13 #[.val (.ref a), .val (.int b), .val (.int w), .val (.int sp), .unset] [(.int sp), (.int w)])
    by_cases hc13_2 : sp < w
    · -- pc 13: True
      refine own_st (fun _ kt => XS.icmpNo X0.here hx rfl (hb hby own_d1_13) rfl (tlt hc13_2).2.2.2 kt) ?_
      show own_Rch p e below _ s₁ (mkF m 16 #[.val (.ref a), .val (.int b), .val (.int w), .val (.int sp), .unset] [])
      refine own_st (fun _ kt => XS.iloadN X0.here hx rfl (hb hby own_d1_16) rfl  kt) ?_
      show own_Rch p e below _ s₁ (mkF m 17 #[.val (.ref a), .val (.int b), .val (.int w), .val (.int sp), .unset] [(.int w)])
      refine own_st (fun _ kt => XS.istore X0.here hx rfl (hb hby own_d1_17) rfl (l' := #[.val (.ref a), .val (.int b), .val (.int w), .val (.int sp), .val (.int w)]) rfl kt) ?_
      show own_Rch p e below _ s₁ (mkF m 19 #[.val (.ref a), .val (.int b), .val (.int w), .val (.int sp), .val (.int w)] [])
      refine own_st (fun _ kt => XS.goto X0.here hx rfl (pc0 := 19) (pc' := 55) rfl (hb hby own_d1_19) (by decide) (by decide) kt) ?_
      show own_Rch p e below _ s₁ (mkF m 55 #[.val (.ref a), .val (.int b), .val (.int w), .val (.int sp), .val (.int w)] [])
      refine own_st (fun _ kt => XS.iload X0.here hx rfl (hb hby own_d1_55) rfl  kt) ?_
      show own_Rch p e below _ s₁ (mkF m 57 #[.val (.ref a), .val (.int b), .val (.int w), .val (.int sp), .val (.int w)] [(.int w)])
      refine own_retI X0 hx Bd.notSynchronized Bd.returns (hb hby own_d1_57) (by decide) (by decide) ?_
      rw [e0]
      exact ⟨by simp [own_lvl, hc2_1, hc13_2], N0, rfl⟩
    · -- pc 13: False
      refine own_st (fun _ kt => XS.icmpYes X0.here hx rfl (pc0 := 13) (pc' := 22) rfl (hb hby own_d1_13) rfl (flt hc13_2).2.2.2 (by decide) (by decide) kt) ?_
      show own_Rch p e below _ s₁ (mkF m 22 #[.val (.ref a), .val (.int b), .val (.int w), .val (.int sp), .unset] [])
      refine own_st (fun _ kt => XS.iloadN X0.here hx rfl (hb hby own_d1_22) rfl  kt) ?_
      show own_Rch p e below _ s₁ (mkF m 23 #[.val (.ref a), .val (.int b), .val (.int w), .val (.int sp), .unset] [(.int w)])
      refine own_st (fun _ kt => XS.iloadN X0.here hx rfl (hb hby own_d1_23) rfl  kt) ?_
      show own_Rch p e below _ s₁ (mkF m 24 #[.val (.ref a), .val (.int b), .val (.int w), .val (.int sp), .unset] [(.int b), (.int w)])
      refine own_st (fun _ kt => XS.isub X0.here hx rfl (hb hby own_d1_24) rfl kt) ?_
      show own_Rch p e below _ s₁ (mkF m 25 #[.val (.ref a), .val (.int b), .val (.int w), .val (.int sp), .unset] [(.int (w - b))])
      refine own_st (fun _ kt => XS.iconst X0.here hx rfl (hb hby own_d1_25) kt) ?_
      show own_Rch p e below _ s₁ (mkF m 26 #[.val (.ref a), .val (.int b), .val (.int w), .val (.int sp), .unset] [(.int (1 : Int32)), (.int (w - b))])
      by_cases hc26_3 : (w - b) = (1 : Int32)
      · -- pc 26: True
        refine own_st (fun _ kt => XS.icmpNo X0.here hx rfl (hb hby own_d1_26) rfl (teq hc26_3).2 kt) ?_
        show own_Rch p e below _ s₁ (mkF m 29 #[.val (.ref a), .val (.int b), .val (.int w), .val (.int sp), .unset] [])
        refine own_st (fun _ kt => XS.iloadN X0.here hx rfl (hb hby own_d1_29) rfl  kt) ?_
        show own_Rch p e below _ s₁ (mkF m 30 #[.val (.ref a), .val (.int b), .val (.int w), .val (.int sp), .unset] [(.int b)])
        refine own_st (fun _ kt => XS.istore X0.here hx rfl (hb hby own_d1_30) rfl (l' := #[.val (.ref a), .val (.int b), .val (.int w), .val (.int sp), .val (.int b)]) rfl kt) ?_
        show own_Rch p e below _ s₁ (mkF m 32 #[.val (.ref a), .val (.int b), .val (.int w), .val (.int sp), .val (.int b)] [])
        refine own_st (fun _ kt => XS.goto X0.here hx rfl (pc0 := 32) (pc' := 55) rfl (hb hby own_d1_32) (by decide) (by decide) kt) ?_
        show own_Rch p e below _ s₁ (mkF m 55 #[.val (.ref a), .val (.int b), .val (.int w), .val (.int sp), .val (.int b)] [])
        refine own_st (fun _ kt => XS.iload X0.here hx rfl (hb hby own_d1_55) rfl  kt) ?_
        show own_Rch p e below _ s₁ (mkF m 57 #[.val (.ref a), .val (.int b), .val (.int w), .val (.int sp), .val (.int b)] [(.int b)])
        refine own_retI X0 hx Bd.notSynchronized Bd.returns (hb hby own_d1_57) (by decide) (by decide) ?_
        rw [e0]
        exact ⟨by simp [own_lvl, hc2_1, hc13_2, hc26_3], N0, rfl⟩
      · -- pc 26: False
        refine own_st (fun _ kt => XS.icmpYes X0.here hx rfl (pc0 := 26) (pc' := 35) rfl (hb hby own_d1_26) rfl (feq hc26_3).2 (by decide) (by decide) kt) ?_
        show own_Rch p e below _ s₁ (mkF m 35 #[.val (.ref a), .val (.int b), .val (.int w), .val (.int sp), .unset] [])
        refine own_st (fun _ kt => XS.aloadN X0.here hx rfl (hb hby own_d1_35) rfl rfl  kt) ?_
        show own_Rch p e below _ s₁ (mkF m 36 #[.val (.ref a), .val (.int b), .val (.int w), .val (.int sp), .unset] [(.ref a)])
        obtain ⟨T4, X4, e4, st4⟩ := getS2 X0 hx hZ hown (host := "") (Or.inl (hw _ (List.mem_of_getElem? (i := 16) rfl))) Via.refl e0 (S0.ext O0.2) (g := (mkF m 36 #[.val (.ref a), .val (.int b), .val (.int w), .val (.int sp), .unset] [(.ref a)])) rfl (hb hby own_d1_36)
        refine own_st st4 ?_
        show own_Rch p e below _ T4 (mkF m 39 #[.val (.ref a), .val (.int b), .val (.int w), .val (.int sp), .unset] [(.ref w0), (.ref a)])
        by_cases ha39_5 : a = w0
        · -- pc 39: True
          refine own_st (fun _ kt => Jvm.RoadKit.acmp (g := (mkF m 39 #[.val (.ref a), .val (.int b), .val (.int w), .val (.int sp), .unset] [(.ref w0), (.ref a)])) X4 hx rfl rfl rfl (pc0 := 39) (pc' := 42) (same := true) rfl (hb hby own_d1_39) rfl (decide_eq_true (congrArg Value.ref ha39_5)) (by decide) (by decide) kt) ?_
          show own_Rch p e below _ T4 (mkF m 42 #[.val (.ref a), .val (.int b), .val (.int w), .val (.int sp), .unset] [])
          refine own_st (fun _ kt => XS.iloadN X4.here hx rfl (hb hby own_d1_42) rfl  kt) ?_
          show own_Rch p e below _ T4 (mkF m 43 #[.val (.ref a), .val (.int b), .val (.int w), .val (.int sp), .unset] [(.int w)])
          refine own_st (fun _ kt => XS.iconst X4.here hx rfl (hb hby own_d1_43) kt) ?_
          show own_Rch p e below _ T4 (mkF m 44 #[.val (.ref a), .val (.int b), .val (.int w), .val (.int sp), .unset] [(.int (1 : Int32)), (.int w)])
          refine own_st (fun _ kt => XS.isub X4.here hx rfl (hb hby own_d1_44) rfl kt) ?_
          show own_Rch p e below _ T4 (mkF m 45 #[.val (.ref a), .val (.int b), .val (.int w), .val (.int sp), .unset] [(.int (w - (1 : Int32)))])
          refine own_st (fun _ kt => XS.istore X4.here hx rfl (hb hby own_d1_45) rfl (l' := #[.val (.ref a), .val (.int b), .val (.int w), .val (.int sp), .val (.int (w - (1 : Int32)))]) rfl kt) ?_
          show own_Rch p e below _ T4 (mkF m 47 #[.val (.ref a), .val (.int b), .val (.int w), .val (.int sp), .val (.int (w - (1 : Int32)))] [])
          refine own_st (fun _ kt => XS.goto X4.here hx rfl (pc0 := 47) (pc' := 55) rfl (hb hby own_d1_47) (by decide) (by decide) kt) ?_
          show own_Rch p e below _ T4 (mkF m 55 #[.val (.ref a), .val (.int b), .val (.int w), .val (.int sp), .val (.int (w - (1 : Int32)))] [])
          refine own_st (fun _ kt => XS.iload X4.here hx rfl (hb hby own_d1_55) rfl  kt) ?_
          show own_Rch p e below _ T4 (mkF m 57 #[.val (.ref a), .val (.int b), .val (.int w), .val (.int sp), .val (.int (w - (1 : Int32)))] [(.int (w - (1 : Int32)))])
          refine own_retI X4 hx Bd.notSynchronized Bd.returns (hb hby own_d1_57) (by decide) (by decide) ?_
          rw [e4]
          exact ⟨by simp [own_lvl, hc2_1, hc13_2, hc26_3, ha39_5], N0, rfl⟩
        · -- pc 39: False
          refine own_st (fun _ kt => Jvm.RoadKit.acmp (g := (mkF m 39 #[.val (.ref a), .val (.int b), .val (.int w), .val (.int sp), .unset] [(.ref w0), (.ref a)])) X4 hx rfl rfl rfl (pc0 := 39) (pc' := 50) (same := false) rfl (hb hby own_d1_39) rfl (decide_eq_false fun q => ha39_5 (Value.ref.inj q)) (by decide) (by decide) kt) ?_
          show own_Rch p e below _ T4 (mkF m 50 #[.val (.ref a), .val (.int b), .val (.int w), .val (.int sp), .unset] [])
          refine own_st (fun _ kt => XS.iloadN X4.here hx rfl (hb hby own_d1_50) rfl  kt) ?_
          show own_Rch p e below _ T4 (mkF m 51 #[.val (.ref a), .val (.int b), .val (.int w), .val (.int sp), .unset] [(.int b)])
          refine own_st (fun _ kt => XS.iconst X4.here hx rfl (hb hby own_d1_51) kt) ?_
          show own_Rch p e below _ T4 (mkF m 52 #[.val (.ref a), .val (.int b), .val (.int w), .val (.int sp), .unset] [(.int (1 : Int32)), (.int b)])
          refine own_st (fun _ kt => XS.iadd X4.here hx rfl (hb hby own_d1_52) rfl kt) ?_
          show own_Rch p e below _ T4 (mkF m 53 #[.val (.ref a), .val (.int b), .val (.int w), .val (.int sp), .unset] [(.int (b + (1 : Int32)))])
          refine own_st (fun _ kt => XS.istore X4.here hx rfl (hb hby own_d1_53) rfl (l' := #[.val (.ref a), .val (.int b), .val (.int w), .val (.int sp), .val (.int (b + (1 : Int32)))]) rfl kt) ?_
          show own_Rch p e below _ T4 (mkF m 55 #[.val (.ref a), .val (.int b), .val (.int w), .val (.int sp), .val (.int (b + (1 : Int32)))] [])
          refine own_st (fun _ kt => XS.iload X4.here hx rfl (hb hby own_d1_55) rfl  kt) ?_
          show own_Rch p e below _ T4 (mkF m 57 #[.val (.ref a), .val (.int b), .val (.int w), .val (.int sp), .val (.int (b + (1 : Int32)))] [(.int (b + (1 : Int32)))])
          refine own_retI X4 hx Bd.notSynchronized Bd.returns (hb hby own_d1_57) (by decide) (by decide) ?_
          rw [e4]
          exact ⟨by simp [own_lvl, hc2_1, hc13_2, hc26_3, ha39_5], N0, rfl⟩
theorem own_ef2 (m : MethodId) (x0 : Int32) (x1 : Int32) : entryFrame m #[(.int x0), (.int x1)] 2 = mkF m 0 #[.val (.int x0), .val (.int x1)] [] := by first | (simp [entryFrame, mkF, argsToLocals, Value.category]; done) | rfl
theorem own_d2_0 : decode jdk_29_method_65_code 0 = .ok (.iload_n 0, 1) := by decide +kernel
theorem own_d2_1 : decode jdk_29_method_65_code 1 = .ok (.iload_n 1, 1) := by decide +kernel
theorem own_d2_2 : decode jdk_29_method_65_code 2 = .ok (.if_icmp .lt 7, 3) := by decide +kernel
theorem own_d2_9 : decode jdk_29_method_65_code 9 = .ok (.iload_n 1, 1) := by decide +kernel
theorem own_d2_10 : decode jdk_29_method_65_code 10 = .ok (.ireturn, 1) := by decide +kernel
theorem own_d2_5 : decode jdk_29_method_65_code 5 = .ok (.iload_n 0, 1) := by decide +kernel
theorem own_d2_6 : decode jdk_29_method_65_code 6 = .ok (.goto 4, 3) := by decide +kernel
def own_Q_own_mmax (Z : State) (x : Int32) (y : Int32) (h0 : Heap) (n0 : Nat) (v : Option Value) (h : Heap) (L : List Loc) : Prop := v = some (.int (own_max x y)) ∧ Fr n0 L ∧ h = h0
set_option maxRecDepth 65536 in
set_option maxHeartbeats 40000000 in
theorem own_mmax (l : Launch) (Z : State) (a0 : Array Value) (hw : ∀ d ∈ tables_1, d.before a0 Z = true) (ws : List Jvm.Cond) (x : Int32) (y : Int32) (h0 : Heap) (n0 : Nat) (O0 : Old Z n0 h0) :
    MetFree l (⟨"java/lang/Math", "max", "(II)I"⟩ : MethodName) (head1 (Jvm.Cond.code (⟨"java/lang/Math", "max", "(II)I"⟩ : MethodName) jdk_29_method_65_code 2 (some .int) :: ws) ({ frames := 0, cells := 0, slots := 0, locals := 0 } : Room)) (fun args_ U => args_ = #[(.int x), (.int y)] ∧ Z.Warmed39 U.vm ∧ U.heap = h0) (fun _ _ _ _ _ => True) (fun _ U o U' => ∃ v L, o = .returned v ∧ (own_Q_own_mmax Z x y h0 n0) v U'.heap L ∧ FrameEnd U o U' L ({ frames := 0, cells := 0, slots := 0, locals := 0 } : Room).cells ({ frames := 0, cells := 0, slots := 0, locals := 0 } : Room).slots) := by
  refine MetFree.of_bodySF (Jvm.Free.JP.mathPlain rfl (by decide +kernel)) hisR ?_
  intro p e s m args below meth c s₁ Bd hml0 hP hK
  obtain ⟨rfl, hZ, hh⟩ := hP
  have hx := Bd.exec
  have hby := Bd.bytes
  have hml : c.maxLocals = 2 := hml0
  have hown : s.vm.findClass "java/lang/Math" = some m.cls := findClass_of_methodNamed Bd.named
  have hnm := (name_of_methodNamed Bd.named Bd.method).1
  have X0 : Stand p l e ({ frames := 0, cells := 0, slots := 0, locals := 0 } : Room) s m #[(.int x), (.int y)] below meth c s₁ [] 0 0 := Stand.of_body Bd
  have e0 : s₁.heap = h0 := by rw [← hh, Bd.state]; rfl
  have N0 := Fr.nil n0
  refine own_close (s := s) (Q := (own_Q_own_mmax Z x y h0 n0)) (C := (({ frames := 0, cells := 0, slots := 0, locals := 0 } : Room)).cells) (N := (({ frames := 0, cells := 0, slots := 0, locals := 0 } : Room)).slots) (own_st (fun _ kt => castTop (own_ef2 m x y) kt) ?_)
  show own_Rch p e below _ s₁ (mkF m 0 #[.val (.int x), .val (.int y)] [])
  refine own_st (fun _ kt => XS.iloadN X0.here hx rfl (hb hby own_d2_0) rfl  kt) ?_
  show own_Rch p e below _ s₁ (mkF m 1 #[.val (.int x), .val (.int y)] [(.int x)])
  refine own_st (fun _ kt => XS.iloadN X0.here hx rfl (hb hby own_d2_1) rfl  kt) ?_
  show own_Rch p e below _ s₁ (mkF m 2 #[.val (.int x), .val (.int y)] [(.int y), (.int x)])
  by_cases hc2_1 : x < y
  · -- pc 2: True
    refine own_st (fun _ kt => XS.icmpYes X0.here hx rfl (pc0 := 2) (pc' := 9) rfl (hb hby own_d2_2) rfl (tlt hc2_1).1 (by decide) (by decide) kt) ?_
    show own_Rch p e below _ s₁ (mkF m 9 #[.val (.int x), .val (.int y)] [])
    refine own_st (fun _ kt => XS.iloadN X0.here hx rfl (hb hby own_d2_9) rfl  kt) ?_
    show own_Rch p e below _ s₁ (mkF m 10 #[.val (.int x), .val (.int y)] [(.int y)])
    refine own_retI X0 hx Bd.notSynchronized Bd.returns (hb hby own_d2_10) (by decide) (by decide) ?_
    rw [e0]
    exact ⟨by simp [own_max, hc2_1], N0, rfl⟩
  · -- pc 2: False
    refine own_st (fun _ kt => XS.icmpNo X0.here hx rfl (hb hby own_d2_2) rfl (flt hc2_1).1 kt) ?_
    show own_Rch p e below _ s₁ (mkF m 5 #[.val (.int x), .val (.int y)] [])
    refine own_st (fun _ kt => XS.iloadN X0.here hx rfl (hb hby own_d2_5) rfl  kt) ?_
    show own_Rch p e below _ s₁ (mkF m 6 #[.val (.int x), .val (.int y)] [(.int x)])
    refine own_st (fun _ kt => XS.goto X0.here hx rfl (pc0 := 6) (pc' := 10) rfl (hb hby own_d2_6) (by decide) (by decide) kt) ?_
    show own_Rch p e below _ s₁ (mkF m 10 #[.val (.int x), .val (.int y)] [(.int x)])
    refine own_retI X0 hx Bd.notSynchronized Bd.returns (hb hby own_d2_10) (by decide) (by decide) ?_
    rw [e0]
    exact ⟨by simp [own_max, hc2_1], N0, rfl⟩
theorem own_pn1 : plainName "com/example/drawdown/drawdown/terms/SplitRuleLevelInEffectPinLaw" = true := by first | (simp [plainName, overriddenIn]; done) | decide +kernel
theorem own_ef0 (m : MethodId) (x0 : Int32) (x1 : Int32) (x2 : Int32) : entryFrame m #[(.int x0), (.int x1), (.int x2)] maxLocals = mkF m 0 #[.val (.int x0), .val (.int x1), .val (.int x2), .unset, .unset, .unset, .unset, .unset, .unset, .unset, .unset, .unset] [] := by first | (simp [entryFrame, mkF, argsToLocals, Value.category, maxLocals]; done) | rfl
theorem own_pd0 : parseMethodDescriptor "(III)I" = some ⟨[.int, .int, .int], some .int⟩ := by decide +kernel
theorem own_pd1 : parseMethodDescriptor "(II)I" = some ⟨[.int, .int], some .int⟩ := by decide +kernel
def own_Q_own_rm0 (Z : State) (p1 : Int32) (p2 : Int32) (p3 : Int32) (w0 : Addr) (w1 : Addr) (h0 : Heap) (n0 : Nat) (v : Option Value) (h : Heap) (L : List Loc) : Prop := v = some (.int (1 : Int32)) ∧ Fr n0 L
set_option maxRecDepth 65536 in
set_option maxHeartbeats 40000000 in
theorem own_rm0 (l : Launch) (Z : State) (a0 : Array Value) (hw : ∀ d ∈ tables_1, d.before a0 Z = true) (ws : List Jvm.Cond) (p1 : Int32) (p2 : Int32) (p3 : Int32) (w0 : Addr) (w1 : Addr) (h0 : Heap) (n0 : Nat) (O0 : Old Z n0 h0) (S0 : Sta Z Z.heap "com/example/drawdown/drawdown/terms/SplitRule" "ONE_APART_BETTER_ELSE_ONE_ABOVE_WORSE" "Lcom/example/drawdown/drawdown/terms/SplitRule;" (.ref w0)) (S1 : Sta Z Z.heap "com/example/drawdown/drawdown/terms/SplitRule" "ONE_APART_BETTER_ELSE_ONE_BELOW_BETTER" "Lcom/example/drawdown/drawdown/terms/SplitRule;" (.ref w1)) (E0 : Exa Z Z.heap w0 "com/example/drawdown/drawdown/terms/SplitRule") (E1 : Exa Z Z.heap w1 "com/example/drawdown/drawdown/terms/SplitRule") (hne : w1 ≠ w0) :
    MetFree l x (head1 (Jvm.Cond.code x code maxLocals ret :: ws) room_1) (fun args_ U => args_ = #[(.int p1), (.int p2), (.int p3)] ∧ Z.Warmed39 U.vm ∧ U.heap = h0) (fun _ _ _ _ _ => True) (fun _ U o U' => ∃ v L, o = .returned v ∧ (own_Q_own_rm0 Z p1 p2 p3 w0 w1 h0 n0) v U'.heap L ∧ FrameEnd U o U' L room_1.cells room_1.slots) := by
  refine MetFree.of_bodySF (plainFor_of_name own_pn1) hisR ?_
  intro p e s m args below meth c s₁ Bd hml0 hP hK
  obtain ⟨rfl, hZ, hh⟩ := hP
  have hx := Bd.exec
  have hby := Bd.bytes
  have hml : c.maxLocals = 12 := hml0
  have hown : s.vm.findClass "com/example/drawdown/drawdown/terms/SplitRuleLevelInEffectPinLaw" = some m.cls := findClass_of_methodNamed Bd.named
  have hnm := (name_of_methodNamed Bd.named Bd.method).1
  have X0 : Stand p l e room_1 s m #[(.int p1), (.int p2), (.int p3)] below meth c s₁ [] 0 0 := Stand.of_body Bd
  have e0 : s₁.heap = h0 := by rw [← hh, Bd.state]; rfl
  have N0 := Fr.nil n0
  refine own_close (s := s) (Q := (own_Q_own_rm0 Z p1 p2 p3 w0 w1 h0 n0)) (C := (room_1).cells) (N := (room_1).slots) (own_st (fun _ kt => castTop (own_ef0 m p1 p2 p3) kt) ?_)
  have c70 : ∀ (T1 : State) (lc1 : List Loc) (X1 : Stand p l e (room_1) s m #[(.int p1), (.int p2), (.int p3)] below meth c T1 lc1 0 0) (e1 : T1.heap = h0) (N1 : Fr n0 lc1) (dd sp : Int32) (hd : 0 ≤ dd.toInt ∧ dd.toInt ≤ 1048575), own_Rch p e below (own_End s below (own_Q_own_rm0 Z p1 p2 p3 w0 w1 h0 n0) (room_1).cells (room_1).slots) T1 (mkF m 70 #[.val (.int p1), .val (.int p2), .val (.int p3), .val (.int ((1 : Int32) + (p1 &&& (1048575 : Int32)))), .val (.int dd), .val (.int (((1 : Int32) + (p1 &&& (1048575 : Int32))) + dd)), .val (.int sp), .unset, .unset, .unset, .unset, .unset] []) := by
    intro T1 lc1 X1 e1 N1 dd sp hd
    show own_Rch p e below _ T1 (mkF m 70 #[.val (.int p1), .val (.int p2), .val (.int p3), .val (.int ((1 : Int32) + (p1 &&& (1048575 : Int32)))), .val (.int dd), .val (.int (((1 : Int32) + (p1 &&& (1048575 : Int32))) + dd)), .val (.int sp), .unset, .unset, .unset, .unset, .unset] [])
    obtain ⟨T2, X2, e2, st2⟩ := getS2 X1 hx hZ hown (host := "") (Or.inl (hw _ (List.mem_of_getElem? (i := 2) rfl))) Via.refl e1 (S0.ext O0.2) (g := (mkF m 70 #[.val (.int p1), .val (.int p2), .val (.int p3), .val (.int ((1 : Int32) + (p1 &&& (1048575 : Int32)))), .val (.int dd), .val (.int (((1 : Int32) + (p1 &&& (1048575 : Int32))) + dd)), .val (.int sp), .unset, .unset, .unset, .unset, .unset] [])) rfl (hb hby at_70)
    refine own_st st2 ?_
    show own_Rch p e below _ T2 (mkF m 73 #[.val (.int p1), .val (.int p2), .val (.int p3), .val (.int ((1 : Int32) + (p1 &&& (1048575 : Int32)))), .val (.int dd), .val (.int (((1 : Int32) + (p1 &&& (1048575 : Int32))) + dd)), .val (.int sp), .unset, .unset, .unset, .unset, .unset] [(.ref w0)])
    refine own_st (fun _ kt => XS.iloadN X2.here hx rfl (hb hby at_73) rfl  kt) ?_
    show own_Rch p e below _ T2 (mkF m 74 #[.val (.int p1), .val (.int p2), .val (.int p3), .val (.int ((1 : Int32) + (p1 &&& (1048575 : Int32)))), .val (.int dd), .val (.int (((1 : Int32) + (p1 &&& (1048575 : Int32))) + dd)), .val (.int sp), .unset, .unset, .unset, .unset, .unset] [(.int ((1 : Int32) + (p1 &&& (1048575 : Int32)))), (.ref w0)])
    refine own_st (fun _ kt => XS.iload X2.here hx rfl (hb hby at_74) rfl  kt) ?_
    show own_Rch p e below _ T2 (mkF m 76 #[.val (.int p1), .val (.int p2), .val (.int p3), .val (.int ((1 : Int32) + (p1 &&& (1048575 : Int32)))), .val (.int dd), .val (.int (((1 : Int32) + (p1 &&& (1048575 : Int32))) + dd)), .val (.int sp), .unset, .unset, .unset, .unset, .unset] [(.int (((1 : Int32) + (p1 &&& (1048575 : Int32))) + dd)), (.int ((1 : Int32) + (p1 &&& (1048575 : Int32)))), (.ref w0)])
    refine own_st (fun _ kt => XS.iload X2.here hx rfl (hb hby at_76) rfl  kt) ?_
    show own_Rch p e below _ T2 (mkF m 78 #[.val (.int p1), .val (.int p2), .val (.int p3), .val (.int ((1 : Int32) + (p1 &&& (1048575 : Int32)))), .val (.int dd), .val (.int (((1 : Int32) + (p1 &&& (1048575 : Int32))) + dd)), .val (.int sp), .unset, .unset, .unset, .unset, .unset] [(.int sp), (.int (((1 : Int32) + (p1 &&& (1048575 : Int32))) + dd)), (.int ((1 : Int32) + (p1 &&& (1048575 : Int32)))), (.ref w0)])
    obtain ⟨cq3, kq3, q3a, q3b, q3c⟩ := isOf hZ e2 (E0.ext O0.2)
    obtain ⟨_, _, ⟨T3, L3, k3, n3⟩, -, X3, ⟨Lc3, hQ3, l3, y3, z3⟩, st3⟩ := X2.virtualBack hx (y := (⟨"com/example/drawdown/drawdown/terms/SplitRule", "levelInEffect", "(III)I"⟩ : MethodName)) (z := (⟨"com/example/drawdown/drawdown/terms/SplitRule", "levelInEffect", "(III)I"⟩ : MethodName)) hown (mvT hZ (hw _ (List.mem_of_getElem? (i := 5) rfl))) (mvT hZ (hw _ (List.mem_of_getElem? (i := 6) rfl))) (notFace_of_selects (args := #[]) (mvT hZ (hw _ (List.mem_of_getElem? (i := 8) rfl)))) (mvT hZ (hw _ (List.mem_of_getElem? (i := 8) rfl))) (mvT hZ (hw _ (List.mem_of_getElem? (i := 7) rfl))) (by decide) (backOf (W := 0) (own_level l Z a0 hw [] w0 ((1 : Int32) + (p1 &&& (1048575 : Int32))) (((1 : Int32) + (p1 &&& (1048575 : Int32))) + dd) sp w0 h0 n0 O0 S0) hZ (hw _ (List.mem_of_getElem? (i := 9) rfl)) (hw _ (List.mem_of_getElem? (i := 3) rfl)) (by decide) (by decide)) q3a q3c (g := (mkF m 78 #[.val (.int p1), .val (.int p2), .val (.int p3), .val (.int ((1 : Int32) + (p1 &&& (1048575 : Int32)))), .val (.int dd), .val (.int (((1 : Int32) + (p1 &&& (1048575 : Int32))) + dd)), .val (.int sp), .unset, .unset, .unset, .unset, .unset] [(.int sp), (.int (((1 : Int32) + (p1 &&& (1048575 : Int32))) + dd)), (.int ((1 : Int32) + (p1 &&& (1048575 : Int32)))), (.ref w0)])) rfl (by rw [hml]; rfl) (Steps.refl _) (argsL := [(.int ((1 : Int32) + (p1 &&& (1048575 : Int32)))), (.int (((1 : Int32) + (p1 &&& (1048575 : Int32))) + dd)), (.int sp)]) (rest := []) (lenOf own_pd0 rfl) rfl (by show 2 * 0 + _ ≤ _; exact Nat.le_of_eq rfl) (hb hby at_78) (fun _ _ => ⟨rfl, e2, (by decide : 0 + 0 ≤ _), (by decide : 0 + 0 ≤ _)⟩)
    dsimp only [Pt.U, Pt.locs, Pt.cells, Pt.slots] at X3 l3 y3 z3 st3 hQ3
    subst l3 y3 z3
    obtain ⟨rfl, N3q, hh3⟩ := hQ3
    have N3 := Fr.app N1 N3q
    refine own_st (fun _ kt => st3.trans kt) ?_
    show own_Rch p e below _ T3 (mkF m 81 #[.val (.int p1), .val (.int p2), .val (.int p3), .val (.int ((1 : Int32) + (p1 &&& (1048575 : Int32)))), .val (.int dd), .val (.int (((1 : Int32) + (p1 &&& (1048575 : Int32))) + dd)), .val (.int sp), .unset, .unset, .unset, .unset, .unset] [(.int (own_lvl w0 w0 ((1 : Int32) + (p1 &&& (1048575 : Int32))) (((1 : Int32) + (p1 &&& (1048575 : Int32))) + dd) sp))])
    refine own_st (fun _ kt => XS.istore X3.here hx rfl (hb hby at_81) rfl (l' := #[.val (.int p1), .val (.int p2), .val (.int p3), .val (.int ((1 : Int32) + (p1 &&& (1048575 : Int32)))), .val (.int dd), .val (.int (((1 : Int32) + (p1 &&& (1048575 : Int32))) + dd)), .val (.int sp), .val (.int (own_lvl w0 w0 ((1 : Int32) + (p1 &&& (1048575 : Int32))) (((1 : Int32) + (p1 &&& (1048575 : Int32))) + dd) sp)), .unset, .unset, .unset, .unset]) rfl kt) ?_
    show own_Rch p e below _ T3 (mkF m 83 #[.val (.int p1), .val (.int p2), .val (.int p3), .val (.int ((1 : Int32) + (p1 &&& (1048575 : Int32)))), .val (.int dd), .val (.int (((1 : Int32) + (p1 &&& (1048575 : Int32))) + dd)), .val (.int sp), .val (.int (own_lvl w0 w0 ((1 : Int32) + (p1 &&& (1048575 : Int32))) (((1 : Int32) + (p1 &&& (1048575 : Int32))) + dd) sp)), .unset, .unset, .unset, .unset] [])
    obtain ⟨T4, X4, e4, st4⟩ := getS2 X3 hx hZ hown (host := "") (Or.inl (hw _ (List.mem_of_getElem? (i := 10) rfl))) Via.refl hh3 (S1.ext O0.2) (g := (mkF m 83 #[.val (.int p1), .val (.int p2), .val (.int p3), .val (.int ((1 : Int32) + (p1 &&& (1048575 : Int32)))), .val (.int dd), .val (.int (((1 : Int32) + (p1 &&& (1048575 : Int32))) + dd)), .val (.int sp), .val (.int (own_lvl w0 w0 ((1 : Int32) + (p1 &&& (1048575 : Int32))) (((1 : Int32) + (p1 &&& (1048575 : Int32))) + dd) sp)), .unset, .unset, .unset, .unset] [])) rfl (hb hby at_83)
    refine own_st st4 ?_
    show own_Rch p e below _ T4 (mkF m 86 #[.val (.int p1), .val (.int p2), .val (.int p3), .val (.int ((1 : Int32) + (p1 &&& (1048575 : Int32)))), .val (.int dd), .val (.int (((1 : Int32) + (p1 &&& (1048575 : Int32))) + dd)), .val (.int sp), .val (.int (own_lvl w0 w0 ((1 : Int32) + (p1 &&& (1048575 : Int32))) (((1 : Int32) + (p1 &&& (1048575 : Int32))) + dd) sp)), .unset, .unset, .unset, .unset] [(.ref w1)])
    refine own_st (fun _ kt => XS.iloadN X4.here hx rfl (hb hby at_86) rfl  kt) ?_
    show own_Rch p e below _ T4 (mkF m 87 #[.val (.int p1), .val (.int p2), .val (.int p3), .val (.int ((1 : Int32) + (p1 &&& (1048575 : Int32)))), .val (.int dd), .val (.int (((1 : Int32) + (p1 &&& (1048575 : Int32))) + dd)), .val (.int sp), .val (.int (own_lvl w0 w0 ((1 : Int32) + (p1 &&& (1048575 : Int32))) (((1 : Int32) + (p1 &&& (1048575 : Int32))) + dd) sp)), .unset, .unset, .unset, .unset] [(.int ((1 : Int32) + (p1 &&& (1048575 : Int32)))), (.ref w1)])
    refine own_st (fun _ kt => XS.iload X4.here hx rfl (hb hby at_87) rfl  kt) ?_
    show own_Rch p e below _ T4 (mkF m 89 #[.val (.int p1), .val (.int p2), .val (.int p3), .val (.int ((1 : Int32) + (p1 &&& (1048575 : Int32)))), .val (.int dd), .val (.int (((1 : Int32) + (p1 &&& (1048575 : Int32))) + dd)), .val (.int sp), .val (.int (own_lvl w0 w0 ((1 : Int32) + (p1 &&& (1048575 : Int32))) (((1 : Int32) + (p1 &&& (1048575 : Int32))) + dd) sp)), .unset, .unset, .unset, .unset] [(.int (((1 : Int32) + (p1 &&& (1048575 : Int32))) + dd)), (.int ((1 : Int32) + (p1 &&& (1048575 : Int32)))), (.ref w1)])
    refine own_st (fun _ kt => XS.iload X4.here hx rfl (hb hby at_89) rfl  kt) ?_
    show own_Rch p e below _ T4 (mkF m 91 #[.val (.int p1), .val (.int p2), .val (.int p3), .val (.int ((1 : Int32) + (p1 &&& (1048575 : Int32)))), .val (.int dd), .val (.int (((1 : Int32) + (p1 &&& (1048575 : Int32))) + dd)), .val (.int sp), .val (.int (own_lvl w0 w0 ((1 : Int32) + (p1 &&& (1048575 : Int32))) (((1 : Int32) + (p1 &&& (1048575 : Int32))) + dd) sp)), .unset, .unset, .unset, .unset] [(.int sp), (.int (((1 : Int32) + (p1 &&& (1048575 : Int32))) + dd)), (.int ((1 : Int32) + (p1 &&& (1048575 : Int32)))), (.ref w1)])
    obtain ⟨cq5, kq5, q5a, q5b, q5c⟩ := isOf hZ e4 (E1.ext O0.2)
    obtain ⟨_, _, ⟨T5, L5, k5, n5⟩, -, X5, ⟨Lc5, hQ5, l5, y5, z5⟩, st5⟩ := X4.virtualBack hx (y := (⟨"com/example/drawdown/drawdown/terms/SplitRule", "levelInEffect", "(III)I"⟩ : MethodName)) (z := (⟨"com/example/drawdown/drawdown/terms/SplitRule", "levelInEffect", "(III)I"⟩ : MethodName)) hown (mvT hZ (hw _ (List.mem_of_getElem? (i := 5) rfl))) (mvT hZ (hw _ (List.mem_of_getElem? (i := 6) rfl))) (notFace_of_selects (args := #[]) (mvT hZ (hw _ (List.mem_of_getElem? (i := 8) rfl)))) (mvT hZ (hw _ (List.mem_of_getElem? (i := 8) rfl))) (mvT hZ (hw _ (List.mem_of_getElem? (i := 7) rfl))) (by decide) (backOf (W := 0) (own_level l Z a0 hw [] w1 ((1 : Int32) + (p1 &&& (1048575 : Int32))) (((1 : Int32) + (p1 &&& (1048575 : Int32))) + dd) sp w0 h0 n0 O0 S0) hZ (hw _ (List.mem_of_getElem? (i := 9) rfl)) (hw _ (List.mem_of_getElem? (i := 3) rfl)) (by decide) (by decide)) q5a q5c (g := (mkF m 91 #[.val (.int p1), .val (.int p2), .val (.int p3), .val (.int ((1 : Int32) + (p1 &&& (1048575 : Int32)))), .val (.int dd), .val (.int (((1 : Int32) + (p1 &&& (1048575 : Int32))) + dd)), .val (.int sp), .val (.int (own_lvl w0 w0 ((1 : Int32) + (p1 &&& (1048575 : Int32))) (((1 : Int32) + (p1 &&& (1048575 : Int32))) + dd) sp)), .unset, .unset, .unset, .unset] [(.int sp), (.int (((1 : Int32) + (p1 &&& (1048575 : Int32))) + dd)), (.int ((1 : Int32) + (p1 &&& (1048575 : Int32)))), (.ref w1)])) rfl (by rw [hml]; rfl) (Steps.refl _) (argsL := [(.int ((1 : Int32) + (p1 &&& (1048575 : Int32)))), (.int (((1 : Int32) + (p1 &&& (1048575 : Int32))) + dd)), (.int sp)]) (rest := []) (lenOf own_pd0 rfl) rfl (by show 2 * 0 + _ ≤ _; exact Nat.le_of_eq rfl) (hb hby at_91) (fun _ _ => ⟨rfl, e4, (by decide : 0 + 0 ≤ _), (by decide : 0 + 0 ≤ _)⟩)
    dsimp only [Pt.U, Pt.locs, Pt.cells, Pt.slots] at X5 l5 y5 z5 st5 hQ5
    subst l5 y5 z5
    obtain ⟨rfl, N5q, hh5⟩ := hQ5
    have N5 := Fr.app N3 N5q
    refine own_st (fun _ kt => st5.trans kt) ?_
    show own_Rch p e below _ T5 (mkF m 94 #[.val (.int p1), .val (.int p2), .val (.int p3), .val (.int ((1 : Int32) + (p1 &&& (1048575 : Int32)))), .val (.int dd), .val (.int (((1 : Int32) + (p1 &&& (1048575 : Int32))) + dd)), .val (.int sp), .val (.int (own_lvl w0 w0 ((1 : Int32) + (p1 &&& (1048575 : Int32))) (((1 : Int32) + (p1 &&& (1048575 : Int32))) + dd) sp)), .unset, .unset, .unset, .unset] [(.int (own_lvl w1 w0 ((1 : Int32) + (p1 &&& (1048575 : Int32))) (((1 : Int32) + (p1 &&& (1048575 : Int32))) + dd) sp))])
    refine own_st (fun _ kt => XS.istore X5.here hx rfl (hb hby at_94) rfl (l' := #[.val (.int p1), .val (.int p2), .val (.int p3), .val (.int ((1 : Int32) + (p1 &&& (1048575 : Int32)))), .val (.int dd), .val (.int (((1 : Int32) + (p1 &&& (1048575 : Int32))) + dd)), .val (.int sp), .val (.int (own_lvl w0 w0 ((1 : Int32) + (p1 &&& (1048575 : Int32))) (((1 : Int32) + (p1 &&& (1048575 : Int32))) + dd) sp)), .val (.int (own_lvl w1 w0 ((1 : Int32) + (p1 &&& (1048575 : Int32))) (((1 : Int32) + (p1 &&& (1048575 : Int32))) + dd) sp)), .unset, .unset, .unset]) rfl kt) ?_
    have c154 : ∀ (ea ec : Int32) (ha : (own_lvl w0 w0 ((1 : Int32) + (p1 &&& (1048575 : Int32))) (((1 : Int32) + (p1 &&& (1048575 : Int32))) + dd) sp) = ea) (hc : (own_lvl w1 w0 ((1 : Int32) + (p1 &&& (1048575 : Int32))) (((1 : Int32) + (p1 &&& (1048575 : Int32))) + dd) sp) = ec) (r1 : ¬ ea < ((1 : Int32) + (p1 &&& (1048575 : Int32)))) (r2 : ¬ (((1 : Int32) + (p1 &&& (1048575 : Int32))) + dd) < ea) (r3 : ¬ ec < ((1 : Int32) + (p1 &&& (1048575 : Int32)))) (r4 : ¬ (((1 : Int32) + (p1 &&& (1048575 : Int32))) + dd) < ec), own_Rch p e below (own_End s below (own_Q_own_rm0 Z p1 p2 p3 w0 w1 h0 n0) (room_1).cells (room_1).slots) T5 (mkF m 154 #[.val (.int p1), .val (.int p2), .val (.int p3), .val (.int ((1 : Int32) + (p1 &&& (1048575 : Int32)))), .val (.int dd), .val (.int (((1 : Int32) + (p1 &&& (1048575 : Int32))) + dd)), .val (.int sp), .val (.int (own_lvl w0 w0 ((1 : Int32) + (p1 &&& (1048575 : Int32))) (((1 : Int32) + (p1 &&& (1048575 : Int32))) + dd) sp)), .val (.int (own_lvl w1 w0 ((1 : Int32) + (p1 &&& (1048575 : Int32))) (((1 : Int32) + (p1 &&& (1048575 : Int32))) + dd) sp)), .val (.int ea), .val (.int ec), .unset] []) := by
      intro ea ec ha hc r1 r2 r3 r4
      show own_Rch p e below _ T5 (mkF m 154 #[.val (.int p1), .val (.int p2), .val (.int p3), .val (.int ((1 : Int32) + (p1 &&& (1048575 : Int32)))), .val (.int dd), .val (.int (((1 : Int32) + (p1 &&& (1048575 : Int32))) + dd)), .val (.int sp), .val (.int (own_lvl w0 w0 ((1 : Int32) + (p1 &&& (1048575 : Int32))) (((1 : Int32) + (p1 &&& (1048575 : Int32))) + dd) sp)), .val (.int (own_lvl w1 w0 ((1 : Int32) + (p1 &&& (1048575 : Int32))) (((1 : Int32) + (p1 &&& (1048575 : Int32))) + dd) sp)), .val (.int ea), .val (.int ec), .unset] [])
      refine own_st (fun _ kt => XS.iloadN X5.here hx rfl (hb hby at_154) rfl  kt) ?_
      show own_Rch p e below _ T5 (mkF m 155 #[.val (.int p1), .val (.int p2), .val (.int p3), .val (.int ((1 : Int32) + (p1 &&& (1048575 : Int32)))), .val (.int dd), .val (.int (((1 : Int32) + (p1 &&& (1048575 : Int32))) + dd)), .val (.int sp), .val (.int (own_lvl w0 w0 ((1 : Int32) + (p1 &&& (1048575 : Int32))) (((1 : Int32) + (p1 &&& (1048575 : Int32))) + dd) sp)), .val (.int (own_lvl w1 w0 ((1 : Int32) + (p1 &&& (1048575 : Int32))) (((1 : Int32) + (p1 &&& (1048575 : Int32))) + dd) sp)), .val (.int ea), .val (.int ec), .unset] [(.int ((1 : Int32) + (p1 &&& (1048575 : Int32))))])
      refine own_st (fun _ kt => XS.iload X5.here hx rfl (hb hby at_155) rfl  kt) ?_
      show own_Rch p e below _ T5 (mkF m 157 #[.val (.int p1), .val (.int p2), .val (.int p3), .val (.int ((1 : Int32) + (p1 &&& (1048575 : Int32)))), .val (.int dd), .val (.int (((1 : Int32) + (p1 &&& (1048575 : Int32))) + dd)), .val (.int sp), .val (.int (own_lvl w0 w0 ((1 : Int32) + (p1 &&& (1048575 : Int32))) (((1 : Int32) + (p1 &&& (1048575 : Int32))) + dd) sp)), .val (.int (own_lvl w1 w0 ((1 : Int32) + (p1 &&& (1048575 : Int32))) (((1 : Int32) + (p1 &&& (1048575 : Int32))) + dd) sp)), .val (.int ea), .val (.int ec), .unset] [(.int (own_lvl w0 w0 ((1 : Int32) + (p1 &&& (1048575 : Int32))) (((1 : Int32) + (p1 &&& (1048575 : Int32))) + dd) sp)), (.int ((1 : Int32) + (p1 &&& (1048575 : Int32))))])
      refine own_st (fun _ kt => XS.icmpNo X5.here hx rfl (hb hby at_157) rfl (flt (by rw [ha]; exact r1 : ¬ ((own_lvl w0 w0 ((1 : Int32) + (p1 &&& (1048575 : Int32))) (((1 : Int32) + (p1 &&& (1048575 : Int32))) + dd) sp) < ((1 : Int32) + (p1 &&& (1048575 : Int32)))))).2.2.1 kt) ?_
      show own_Rch p e below _ T5 (mkF m 160 #[.val (.int p1), .val (.int p2), .val (.int p3), .val (.int ((1 : Int32) + (p1 &&& (1048575 : Int32)))), .val (.int dd), .val (.int (((1 : Int32) + (p1 &&& (1048575 : Int32))) + dd)), .val (.int sp), .val (.int (own_lvl w0 w0 ((1 : Int32) + (p1 &&& (1048575 : Int32))) (((1 : Int32) + (p1 &&& (1048575 : Int32))) + dd) sp)), .val (.int (own_lvl w1 w0 ((1 : Int32) + (p1 &&& (1048575 : Int32))) (((1 : Int32) + (p1 &&& (1048575 : Int32))) + dd) sp)), .val (.int ea), .val (.int ec), .unset] [])
      refine own_st (fun _ kt => XS.iload X5.here hx rfl (hb hby at_160) rfl  kt) ?_
      show own_Rch p e below _ T5 (mkF m 162 #[.val (.int p1), .val (.int p2), .val (.int p3), .val (.int ((1 : Int32) + (p1 &&& (1048575 : Int32)))), .val (.int dd), .val (.int (((1 : Int32) + (p1 &&& (1048575 : Int32))) + dd)), .val (.int sp), .val (.int (own_lvl w0 w0 ((1 : Int32) + (p1 &&& (1048575 : Int32))) (((1 : Int32) + (p1 &&& (1048575 : Int32))) + dd) sp)), .val (.int (own_lvl w1 w0 ((1 : Int32) + (p1 &&& (1048575 : Int32))) (((1 : Int32) + (p1 &&& (1048575 : Int32))) + dd) sp)), .val (.int ea), .val (.int ec), .unset] [(.int (own_lvl w0 w0 ((1 : Int32) + (p1 &&& (1048575 : Int32))) (((1 : Int32) + (p1 &&& (1048575 : Int32))) + dd) sp))])
      refine own_st (fun _ kt => XS.iload X5.here hx rfl (hb hby at_162) rfl  kt) ?_
      show own_Rch p e below _ T5 (mkF m 164 #[.val (.int p1), .val (.int p2), .val (.int p3), .val (.int ((1 : Int32) + (p1 &&& (1048575 : Int32)))), .val (.int dd), .val (.int (((1 : Int32) + (p1 &&& (1048575 : Int32))) + dd)), .val (.int sp), .val (.int (own_lvl w0 w0 ((1 : Int32) + (p1 &&& (1048575 : Int32))) (((1 : Int32) + (p1 &&& (1048575 : Int32))) + dd) sp)), .val (.int (own_lvl w1 w0 ((1 : Int32) + (p1 &&& (1048575 : Int32))) (((1 : Int32) + (p1 &&& (1048575 : Int32))) + dd) sp)), .val (.int ea), .val (.int ec), .unset] [(.int (((1 : Int32) + (p1 &&& (1048575 : Int32))) + dd)), (.int (own_lvl w0 w0 ((1 : Int32) + (p1 &&& (1048575 : Int32))) (((1 : Int32) + (p1 &&& (1048575 : Int32))) + dd) sp))])
      refine own_st (fun _ kt => XS.icmpNo X5.here hx rfl (hb hby at_164) rfl (flt (by rw [ha]; exact r2 : ¬ ((((1 : Int32) + (p1 &&& (1048575 : Int32))) + dd) < (own_lvl w0 w0 ((1 : Int32) + (p1 &&& (1048575 : Int32))) (((1 : Int32) + (p1 &&& (1048575 : Int32))) + dd) sp)))).2.2.1 kt) ?_
      show own_Rch p e below _ T5 (mkF m 167 #[.val (.int p1), .val (.int p2), .val (.int p3), .val (.int ((1 : Int32) + (p1 &&& (1048575 : Int32)))), .val (.int dd), .val (.int (((1 : Int32) + (p1 &&& (1048575 : Int32))) + dd)), .val (.int sp), .val (.int (own_lvl w0 w0 ((1 : Int32) + (p1 &&& (1048575 : Int32))) (((1 : Int32) + (p1 &&& (1048575 : Int32))) + dd) sp)), .val (.int (own_lvl w1 w0 ((1 : Int32) + (p1 &&& (1048575 : Int32))) (((1 : Int32) + (p1 &&& (1048575 : Int32))) + dd) sp)), .val (.int ea), .val (.int ec), .unset] [])
      refine own_st (fun _ kt => XS.iloadN X5.here hx rfl (hb hby at_167) rfl  kt) ?_
      show own_Rch p e below _ T5 (mkF m 168 #[.val (.int p1), .val (.int p2), .val (.int p3), .val (.int ((1 : Int32) + (p1 &&& (1048575 : Int32)))), .val (.int dd), .val (.int (((1 : Int32) + (p1 &&& (1048575 : Int32))) + dd)), .val (.int sp), .val (.int (own_lvl w0 w0 ((1 : Int32) + (p1 &&& (1048575 : Int32))) (((1 : Int32) + (p1 &&& (1048575 : Int32))) + dd) sp)), .val (.int (own_lvl w1 w0 ((1 : Int32) + (p1 &&& (1048575 : Int32))) (((1 : Int32) + (p1 &&& (1048575 : Int32))) + dd) sp)), .val (.int ea), .val (.int ec), .unset] [(.int ((1 : Int32) + (p1 &&& (1048575 : Int32))))])
      refine own_st (fun _ kt => XS.iload X5.here hx rfl (hb hby at_168) rfl  kt) ?_
      show own_Rch p e below _ T5 (mkF m 170 #[.val (.int p1), .val (.int p2), .val (.int p3), .val (.int ((1 : Int32) + (p1 &&& (1048575 : Int32)))), .val (.int dd), .val (.int (((1 : Int32) + (p1 &&& (1048575 : Int32))) + dd)), .val (.int sp), .val (.int (own_lvl w0 w0 ((1 : Int32) + (p1 &&& (1048575 : Int32))) (((1 : Int32) + (p1 &&& (1048575 : Int32))) + dd) sp)), .val (.int (own_lvl w1 w0 ((1 : Int32) + (p1 &&& (1048575 : Int32))) (((1 : Int32) + (p1 &&& (1048575 : Int32))) + dd) sp)), .val (.int ea), .val (.int ec), .unset] [(.int (own_lvl w1 w0 ((1 : Int32) + (p1 &&& (1048575 : Int32))) (((1 : Int32) + (p1 &&& (1048575 : Int32))) + dd) sp)), (.int ((1 : Int32) + (p1 &&& (1048575 : Int32))))])
      refine own_st (fun _ kt => XS.icmpNo X5.here hx rfl (hb hby at_170) rfl (flt (by rw [hc]; exact r3 : ¬ ((own_lvl w1 w0 ((1 : Int32) + (p1 &&& (1048575 : Int32))) (((1 : Int32) + (p1 &&& (1048575 : Int32))) + dd) sp) < ((1 : Int32) + (p1 &&& (1048575 : Int32)))))).2.2.1 kt) ?_
      show own_Rch p e below _ T5 (mkF m 173 #[.val (.int p1), .val (.int p2), .val (.int p3), .val (.int ((1 : Int32) + (p1 &&& (1048575 : Int32)))), .val (.int dd), .val (.int (((1 : Int32) + (p1 &&& (1048575 : Int32))) + dd)), .val (.int sp), .val (.int (own_lvl w0 w0 ((1 : Int32) + (p1 &&& (1048575 : Int32))) (((1 : Int32) + (p1 &&& (1048575 : Int32))) + dd) sp)), .val (.int (own_lvl w1 w0 ((1 : Int32) + (p1 &&& (1048575 : Int32))) (((1 : Int32) + (p1 &&& (1048575 : Int32))) + dd) sp)), .val (.int ea), .val (.int ec), .unset] [])
      refine own_st (fun _ kt => XS.iload X5.here hx rfl (hb hby at_173) rfl  kt) ?_
      show own_Rch p e below _ T5 (mkF m 175 #[.val (.int p1), .val (.int p2), .val (.int p3), .val (.int ((1 : Int32) + (p1 &&& (1048575 : Int32)))), .val (.int dd), .val (.int (((1 : Int32) + (p1 &&& (1048575 : Int32))) + dd)), .val (.int sp), .val (.int (own_lvl w0 w0 ((1 : Int32) + (p1 &&& (1048575 : Int32))) (((1 : Int32) + (p1 &&& (1048575 : Int32))) + dd) sp)), .val (.int (own_lvl w1 w0 ((1 : Int32) + (p1 &&& (1048575 : Int32))) (((1 : Int32) + (p1 &&& (1048575 : Int32))) + dd) sp)), .val (.int ea), .val (.int ec), .unset] [(.int (own_lvl w1 w0 ((1 : Int32) + (p1 &&& (1048575 : Int32))) (((1 : Int32) + (p1 &&& (1048575 : Int32))) + dd) sp))])
      refine own_st (fun _ kt => XS.iload X5.here hx rfl (hb hby at_175) rfl  kt) ?_
      show own_Rch p e below _ T5 (mkF m 177 #[.val (.int p1), .val (.int p2), .val (.int p3), .val (.int ((1 : Int32) + (p1 &&& (1048575 : Int32)))), .val (.int dd), .val (.int (((1 : Int32) + (p1 &&& (1048575 : Int32))) + dd)), .val (.int sp), .val (.int (own_lvl w0 w0 ((1 : Int32) + (p1 &&& (1048575 : Int32))) (((1 : Int32) + (p1 &&& (1048575 : Int32))) + dd) sp)), .val (.int (own_lvl w1 w0 ((1 : Int32) + (p1 &&& (1048575 : Int32))) (((1 : Int32) + (p1 &&& (1048575 : Int32))) + dd) sp)), .val (.int ea), .val (.int ec), .unset] [(.int (((1 : Int32) + (p1 &&& (1048575 : Int32))) + dd)), (.int (own_lvl w1 w0 ((1 : Int32) + (p1 &&& (1048575 : Int32))) (((1 : Int32) + (p1 &&& (1048575 : Int32))) + dd) sp))])
      refine own_st (fun _ kt => XS.icmpNo X5.here hx rfl (hb hby at_177) rfl (flt (by rw [hc]; exact r4 : ¬ ((((1 : Int32) + (p1 &&& (1048575 : Int32))) + dd) < (own_lvl w1 w0 ((1 : Int32) + (p1 &&& (1048575 : Int32))) (((1 : Int32) + (p1 &&& (1048575 : Int32))) + dd) sp)))).2.2.1 kt) ?_
      show own_Rch p e below _ T5 (mkF m 180 #[.val (.int p1), .val (.int p2), .val (.int p3), .val (.int ((1 : Int32) + (p1 &&& (1048575 : Int32)))), .val (.int dd), .val (.int (((1 : Int32) + (p1 &&& (1048575 : Int32))) + dd)), .val (.int sp), .val (.int (own_lvl w0 w0 ((1 : Int32) + (p1 &&& (1048575 : Int32))) (((1 : Int32) + (p1 &&& (1048575 : Int32))) + dd) sp)), .val (.int (own_lvl w1 w0 ((1 : Int32) + (p1 &&& (1048575 : Int32))) (((1 : Int32) + (p1 &&& (1048575 : Int32))) + dd) sp)), .val (.int ea), .val (.int ec), .unset] [])
      refine own_st (fun _ kt => XS.iconst X5.here hx rfl (hb hby at_180) kt) ?_
      show own_Rch p e below _ T5 (mkF m 181 #[.val (.int p1), .val (.int p2), .val (.int p3), .val (.int ((1 : Int32) + (p1 &&& (1048575 : Int32)))), .val (.int dd), .val (.int (((1 : Int32) + (p1 &&& (1048575 : Int32))) + dd)), .val (.int sp), .val (.int (own_lvl w0 w0 ((1 : Int32) + (p1 &&& (1048575 : Int32))) (((1 : Int32) + (p1 &&& (1048575 : Int32))) + dd) sp)), .val (.int (own_lvl w1 w0 ((1 : Int32) + (p1 &&& (1048575 : Int32))) (((1 : Int32) + (p1 &&& (1048575 : Int32))) + dd) sp)), .val (.int ea), .val (.int ec), .unset] [(.int (1 : Int32))])
      refine own_st (fun _ kt => XS.goto X5.here hx rfl (pc0 := 181) (pc' := 185) rfl (hb hby at_181) (by decide) (by decide) kt) ?_
      show own_Rch p e below _ T5 (mkF m 185 #[.val (.int p1), .val (.int p2), .val (.int p3), .val (.int ((1 : Int32) + (p1 &&& (1048575 : Int32)))), .val (.int dd), .val (.int (((1 : Int32) + (p1 &&& (1048575 : Int32))) + dd)), .val (.int sp), .val (.int (own_lvl w0 w0 ((1 : Int32) + (p1 &&& (1048575 : Int32))) (((1 : Int32) + (p1 &&& (1048575 : Int32))) + dd) sp)), .val (.int (own_lvl w1 w0 ((1 : Int32) + (p1 &&& (1048575 : Int32))) (((1 : Int32) + (p1 &&& (1048575 : Int32))) + dd) sp)), .val (.int ea), .val (.int ec), .unset] [(.int (1 : Int32))])
      refine own_st (fun _ kt => XS.istore X5.here hx rfl (hb hby at_185) rfl (l' := #[.val (.int p1), .val (.int p2), .val (.int p3), .val (.int ((1 : Int32) + (p1 &&& (1048575 : Int32)))), .val (.int dd), .val (.int (((1 : Int32) + (p1 &&& (1048575 : Int32))) + dd)), .val (.int sp), .val (.int (own_lvl w0 w0 ((1 : Int32) + (p1 &&& (1048575 : Int32))) (((1 : Int32) + (p1 &&& (1048575 : Int32))) + dd) sp)), .val (.int (own_lvl w1 w0 ((1 : Int32) + (p1 &&& (1048575 : Int32))) (((1 : Int32) + (p1 &&& (1048575 : Int32))) + dd) sp)), .val (.int ea), .val (.int ec), .val (.int (1 : Int32))]) rfl kt) ?_
      show own_Rch p e below _ T5 (mkF m 187 #[.val (.int p1), .val (.int p2), .val (.int p3), .val (.int ((1 : Int32) + (p1 &&& (1048575 : Int32)))), .val (.int dd), .val (.int (((1 : Int32) + (p1 &&& (1048575 : Int32))) + dd)), .val (.int sp), .val (.int (own_lvl w0 w0 ((1 : Int32) + (p1 &&& (1048575 : Int32))) (((1 : Int32) + (p1 &&& (1048575 : Int32))) + dd) sp)), .val (.int (own_lvl w1 w0 ((1 : Int32) + (p1 &&& (1048575 : Int32))) (((1 : Int32) + (p1 &&& (1048575 : Int32))) + dd) sp)), .val (.int ea), .val (.int ec), .val (.int (1 : Int32))] [])
      refine own_st (fun _ kt => XS.iload X5.here hx rfl (hb hby at_187) rfl  kt) ?_
      show own_Rch p e below _ T5 (mkF m 189 #[.val (.int p1), .val (.int p2), .val (.int p3), .val (.int ((1 : Int32) + (p1 &&& (1048575 : Int32)))), .val (.int dd), .val (.int (((1 : Int32) + (p1 &&& (1048575 : Int32))) + dd)), .val (.int sp), .val (.int (own_lvl w0 w0 ((1 : Int32) + (p1 &&& (1048575 : Int32))) (((1 : Int32) + (p1 &&& (1048575 : Int32))) + dd) sp)), .val (.int (own_lvl w1 w0 ((1 : Int32) + (p1 &&& (1048575 : Int32))) (((1 : Int32) + (p1 &&& (1048575 : Int32))) + dd) sp)), .val (.int ea), .val (.int ec), .val (.int (1 : Int32))] [(.int (1 : Int32))])
      refine own_st (fun _ kt => XS.ifNo X5.here hx rfl (hb hby at_189) rfl ((if0 _ _).trans (feq ((by decide) : ¬ ((1 : Int32) = (0 : Int32)))).1) kt) ?_
      show own_Rch p e below _ T5 (mkF m 192 #[.val (.int p1), .val (.int p2), .val (.int p3), .val (.int ((1 : Int32) + (p1 &&& (1048575 : Int32)))), .val (.int dd), .val (.int (((1 : Int32) + (p1 &&& (1048575 : Int32))) + dd)), .val (.int sp), .val (.int (own_lvl w0 w0 ((1 : Int32) + (p1 &&& (1048575 : Int32))) (((1 : Int32) + (p1 &&& (1048575 : Int32))) + dd) sp)), .val (.int (own_lvl w1 w0 ((1 : Int32) + (p1 &&& (1048575 : Int32))) (((1 : Int32) + (p1 &&& (1048575 : Int32))) + dd) sp)), .val (.int ea), .val (.int ec), .val (.int (1 : Int32))] [])
      refine own_st (fun _ kt => XS.iload X5.here hx rfl (hb hby at_192) rfl  kt) ?_
      show own_Rch p e below _ T5 (mkF m 194 #[.val (.int p1), .val (.int p2), .val (.int p3), .val (.int ((1 : Int32) + (p1 &&& (1048575 : Int32)))), .val (.int dd), .val (.int (((1 : Int32) + (p1 &&& (1048575 : Int32))) + dd)), .val (.int sp), .val (.int (own_lvl w0 w0 ((1 : Int32) + (p1 &&& (1048575 : Int32))) (((1 : Int32) + (p1 &&& (1048575 : Int32))) + dd) sp)), .val (.int (own_lvl w1 w0 ((1 : Int32) + (p1 &&& (1048575 : Int32))) (((1 : Int32) + (p1 &&& (1048575 : Int32))) + dd) sp)), .val (.int ea), .val (.int ec), .val (.int (1 : Int32))] [(.int (own_lvl w0 w0 ((1 : Int32) + (p1 &&& (1048575 : Int32))) (((1 : Int32) + (p1 &&& (1048575 : Int32))) + dd) sp))])
      refine own_st (fun _ kt => XS.iload X5.here hx rfl (hb hby at_194) rfl  kt) ?_
      show own_Rch p e below _ T5 (mkF m 196 #[.val (.int p1), .val (.int p2), .val (.int p3), .val (.int ((1 : Int32) + (p1 &&& (1048575 : Int32)))), .val (.int dd), .val (.int (((1 : Int32) + (p1 &&& (1048575 : Int32))) + dd)), .val (.int sp), .val (.int (own_lvl w0 w0 ((1 : Int32) + (p1 &&& (1048575 : Int32))) (((1 : Int32) + (p1 &&& (1048575 : Int32))) + dd) sp)), .val (.int (own_lvl w1 w0 ((1 : Int32) + (p1 &&& (1048575 : Int32))) (((1 : Int32) + (p1 &&& (1048575 : Int32))) + dd) sp)), .val (.int ea), .val (.int ec), .val (.int (1 : Int32))] [(.int ea), (.int (own_lvl w0 w0 ((1 : Int32) + (p1 &&& (1048575 : Int32))) (((1 : Int32) + (p1 &&& (1048575 : Int32))) + dd) sp))])
      refine own_st (fun _ kt => XS.icmpNo X5.here hx rfl (hb hby at_196) rfl (teq (ha : (own_lvl w0 w0 ((1 : Int32) + (p1 &&& (1048575 : Int32))) (((1 : Int32) + (p1 &&& (1048575 : Int32))) + dd) sp) = ea)).2 kt) ?_
      show own_Rch p e below _ T5 (mkF m 199 #[.val (.int p1), .val (.int p2), .val (.int p3), .val (.int ((1 : Int32) + (p1 &&& (1048575 : Int32)))), .val (.int dd), .val (.int (((1 : Int32) + (p1 &&& (1048575 : Int32))) + dd)), .val (.int sp), .val (.int (own_lvl w0 w0 ((1 : Int32) + (p1 &&& (1048575 : Int32))) (((1 : Int32) + (p1 &&& (1048575 : Int32))) + dd) sp)), .val (.int (own_lvl w1 w0 ((1 : Int32) + (p1 &&& (1048575 : Int32))) (((1 : Int32) + (p1 &&& (1048575 : Int32))) + dd) sp)), .val (.int ea), .val (.int ec), .val (.int (1 : Int32))] [])
      refine own_st (fun _ kt => XS.iload X5.here hx rfl (hb hby at_199) rfl  kt) ?_
      show own_Rch p e below _ T5 (mkF m 201 #[.val (.int p1), .val (.int p2), .val (.int p3), .val (.int ((1 : Int32) + (p1 &&& (1048575 : Int32)))), .val (.int dd), .val (.int (((1 : Int32) + (p1 &&& (1048575 : Int32))) + dd)), .val (.int sp), .val (.int (own_lvl w0 w0 ((1 : Int32) + (p1 &&& (1048575 : Int32))) (((1 : Int32) + (p1 &&& (1048575 : Int32))) + dd) sp)), .val (.int (own_lvl w1 w0 ((1 : Int32) + (p1 &&& (1048575 : Int32))) (((1 : Int32) + (p1 &&& (1048575 : Int32))) + dd) sp)), .val (.int ea), .val (.int ec), .val (.int (1 : Int32))] [(.int (own_lvl w1 w0 ((1 : Int32) + (p1 &&& (1048575 : Int32))) (((1 : Int32) + (p1 &&& (1048575 : Int32))) + dd) sp))])
      refine own_st (fun _ kt => XS.iload X5.here hx rfl (hb hby at_201) rfl  kt) ?_
      show own_Rch p e below _ T5 (mkF m 203 #[.val (.int p1), .val (.int p2), .val (.int p3), .val (.int ((1 : Int32) + (p1 &&& (1048575 : Int32)))), .val (.int dd), .val (.int (((1 : Int32) + (p1 &&& (1048575 : Int32))) + dd)), .val (.int sp), .val (.int (own_lvl w0 w0 ((1 : Int32) + (p1 &&& (1048575 : Int32))) (((1 : Int32) + (p1 &&& (1048575 : Int32))) + dd) sp)), .val (.int (own_lvl w1 w0 ((1 : Int32) + (p1 &&& (1048575 : Int32))) (((1 : Int32) + (p1 &&& (1048575 : Int32))) + dd) sp)), .val (.int ea), .val (.int ec), .val (.int (1 : Int32))] [(.int ec), (.int (own_lvl w1 w0 ((1 : Int32) + (p1 &&& (1048575 : Int32))) (((1 : Int32) + (p1 &&& (1048575 : Int32))) + dd) sp))])
      refine own_st (fun _ kt => XS.icmpNo X5.here hx rfl (hb hby at_203) rfl (teq (hc : (own_lvl w1 w0 ((1 : Int32) + (p1 &&& (1048575 : Int32))) (((1 : Int32) + (p1 &&& (1048575 : Int32))) + dd) sp) = ec)).2 kt) ?_
      show own_Rch p e below _ T5 (mkF m 206 #[.val (.int p1), .val (.int p2), .val (.int p3), .val (.int ((1 : Int32) + (p1 &&& (1048575 : Int32)))), .val (.int dd), .val (.int (((1 : Int32) + (p1 &&& (1048575 : Int32))) + dd)), .val (.int sp), .val (.int (own_lvl w0 w0 ((1 : Int32) + (p1 &&& (1048575 : Int32))) (((1 : Int32) + (p1 &&& (1048575 : Int32))) + dd) sp)), .val (.int (own_lvl w1 w0 ((1 : Int32) + (p1 &&& (1048575 : Int32))) (((1 : Int32) + (p1 &&& (1048575 : Int32))) + dd) sp)), .val (.int ea), .val (.int ec), .val (.int (1 : Int32))] [])
      refine own_st (fun _ kt => XS.iconst X5.here hx rfl (hb hby at_206) kt) ?_
      show own_Rch p e below _ T5 (mkF m 207 #[.val (.int p1), .val (.int p2), .val (.int p3), .val (.int ((1 : Int32) + (p1 &&& (1048575 : Int32)))), .val (.int dd), .val (.int (((1 : Int32) + (p1 &&& (1048575 : Int32))) + dd)), .val (.int sp), .val (.int (own_lvl w0 w0 ((1 : Int32) + (p1 &&& (1048575 : Int32))) (((1 : Int32) + (p1 &&& (1048575 : Int32))) + dd) sp)), .val (.int (own_lvl w1 w0 ((1 : Int32) + (p1 &&& (1048575 : Int32))) (((1 : Int32) + (p1 &&& (1048575 : Int32))) + dd) sp)), .val (.int ea), .val (.int ec), .val (.int (1 : Int32))] [(.int (1 : Int32))])
      refine own_st (fun _ kt => XS.goto X5.here hx rfl (pc0 := 207) (pc' := 211) rfl (hb hby at_207) (by decide) (by decide) kt) ?_
      show own_Rch p e below _ T5 (mkF m 211 #[.val (.int p1), .val (.int p2), .val (.int p3), .val (.int ((1 : Int32) + (p1 &&& (1048575 : Int32)))), .val (.int dd), .val (.int (((1 : Int32) + (p1 &&& (1048575 : Int32))) + dd)), .val (.int sp), .val (.int (own_lvl w0 w0 ((1 : Int32) + (p1 &&& (1048575 : Int32))) (((1 : Int32) + (p1 &&& (1048575 : Int32))) + dd) sp)), .val (.int (own_lvl w1 w0 ((1 : Int32) + (p1 &&& (1048575 : Int32))) (((1 : Int32) + (p1 &&& (1048575 : Int32))) + dd) sp)), .val (.int ea), .val (.int ec), .val (.int (1 : Int32))] [(.int (1 : Int32))])
      refine own_retN (t := .boolean) (by simp) X5 hx Bd.notSynchronized Bd.returns (hb hby at_211) (by decide) (by decide) ?_
      rw [hh5]
      exact ⟨rfl, N5⟩
    show own_Rch p e below _ T5 (mkF m 96 #[.val (.int p1), .val (.int p2), .val (.int p3), .val (.int ((1 : Int32) + (p1 &&& (1048575 : Int32)))), .val (.int dd), .val (.int (((1 : Int32) + (p1 &&& (1048575 : Int32))) + dd)), .val (.int sp), .val (.int (own_lvl w0 w0 ((1 : Int32) + (p1 &&& (1048575 : Int32))) (((1 : Int32) + (p1 &&& (1048575 : Int32))) + dd) sp)), .val (.int (own_lvl w1 w0 ((1 : Int32) + (p1 &&& (1048575 : Int32))) (((1 : Int32) + (p1 &&& (1048575 : Int32))) + dd) sp)), .unset, .unset, .unset] [])
    refine own_st (fun _ kt => XS.iload X5.here hx rfl (hb hby at_96) rfl  kt) ?_
    show own_Rch p e below _ T5 (mkF m 98 #[.val (.int p1), .val (.int p2), .val (.int p3), .val (.int ((1 : Int32) + (p1 &&& (1048575 : Int32)))), .val (.int dd), .val (.int (((1 : Int32) + (p1 &&& (1048575 : Int32))) + dd)), .val (.int sp), .val (.int (own_lvl w0 w0 ((1 : Int32) + (p1 &&& (1048575 : Int32))) (((1 : Int32) + (p1 &&& (1048575 : Int32))) + dd) sp)), .val (.int (own_lvl w1 w0 ((1 : Int32) + (p1 &&& (1048575 : Int32))) (((1 : Int32) + (p1 &&& (1048575 : Int32))) + dd) sp)), .unset, .unset, .unset] [(.int dd)])
    by_cases hc98_6 : dd = (0 : Int32)
    · -- pc 98: True
      refine own_st (fun _ kt => XS.ifNo X5.here hx rfl (hb hby at_98) rfl ((if0 _ _).trans (teq hc98_6).2) kt) ?_
      show own_Rch p e below _ T5 (mkF m 101 #[.val (.int p1), .val (.int p2), .val (.int p3), .val (.int ((1 : Int32) + (p1 &&& (1048575 : Int32)))), .val (.int dd), .val (.int (((1 : Int32) + (p1 &&& (1048575 : Int32))) + dd)), .val (.int sp), .val (.int (own_lvl w0 w0 ((1 : Int32) + (p1 &&& (1048575 : Int32))) (((1 : Int32) + (p1 &&& (1048575 : Int32))) + dd) sp)), .val (.int (own_lvl w1 w0 ((1 : Int32) + (p1 &&& (1048575 : Int32))) (((1 : Int32) + (p1 &&& (1048575 : Int32))) + dd) sp)), .unset, .unset, .unset] [])
      refine own_st (fun _ kt => XS.iloadN X5.here hx rfl (hb hby at_101) rfl  kt) ?_
      show own_Rch p e below _ T5 (mkF m 102 #[.val (.int p1), .val (.int p2), .val (.int p3), .val (.int ((1 : Int32) + (p1 &&& (1048575 : Int32)))), .val (.int dd), .val (.int (((1 : Int32) + (p1 &&& (1048575 : Int32))) + dd)), .val (.int sp), .val (.int (own_lvl w0 w0 ((1 : Int32) + (p1 &&& (1048575 : Int32))) (((1 : Int32) + (p1 &&& (1048575 : Int32))) + dd) sp)), .val (.int (own_lvl w1 w0 ((1 : Int32) + (p1 &&& (1048575 : Int32))) (((1 : Int32) + (p1 &&& (1048575 : Int32))) + dd) sp)), .unset, .unset, .unset] [(.int ((1 : Int32) + (p1 &&& (1048575 : Int32))))])
      refine own_st (fun _ kt => XS.istore X5.here hx rfl (hb hby at_102) rfl (l' := #[.val (.int p1), .val (.int p2), .val (.int p3), .val (.int ((1 : Int32) + (p1 &&& (1048575 : Int32)))), .val (.int dd), .val (.int (((1 : Int32) + (p1 &&& (1048575 : Int32))) + dd)), .val (.int sp), .val (.int (own_lvl w0 w0 ((1 : Int32) + (p1 &&& (1048575 : Int32))) (((1 : Int32) + (p1 &&& (1048575 : Int32))) + dd) sp)), .val (.int (own_lvl w1 w0 ((1 : Int32) + (p1 &&& (1048575 : Int32))) (((1 : Int32) + (p1 &&& (1048575 : Int32))) + dd) sp)), .val (.int ((1 : Int32) + (p1 &&& (1048575 : Int32)))), .unset, .unset]) rfl kt) ?_
      show own_Rch p e below _ T5 (mkF m 104 #[.val (.int p1), .val (.int p2), .val (.int p3), .val (.int ((1 : Int32) + (p1 &&& (1048575 : Int32)))), .val (.int dd), .val (.int (((1 : Int32) + (p1 &&& (1048575 : Int32))) + dd)), .val (.int sp), .val (.int (own_lvl w0 w0 ((1 : Int32) + (p1 &&& (1048575 : Int32))) (((1 : Int32) + (p1 &&& (1048575 : Int32))) + dd) sp)), .val (.int (own_lvl w1 w0 ((1 : Int32) + (p1 &&& (1048575 : Int32))) (((1 : Int32) + (p1 &&& (1048575 : Int32))) + dd) sp)), .val (.int ((1 : Int32) + (p1 &&& (1048575 : Int32)))), .unset, .unset] [])
      refine own_st (fun _ kt => XS.iloadN X5.here hx rfl (hb hby at_104) rfl  kt) ?_
      show own_Rch p e below _ T5 (mkF m 105 #[.val (.int p1), .val (.int p2), .val (.int p3), .val (.int ((1 : Int32) + (p1 &&& (1048575 : Int32)))), .val (.int dd), .val (.int (((1 : Int32) + (p1 &&& (1048575 : Int32))) + dd)), .val (.int sp), .val (.int (own_lvl w0 w0 ((1 : Int32) + (p1 &&& (1048575 : Int32))) (((1 : Int32) + (p1 &&& (1048575 : Int32))) + dd) sp)), .val (.int (own_lvl w1 w0 ((1 : Int32) + (p1 &&& (1048575 : Int32))) (((1 : Int32) + (p1 &&& (1048575 : Int32))) + dd) sp)), .val (.int ((1 : Int32) + (p1 &&& (1048575 : Int32)))), .unset, .unset] [(.int ((1 : Int32) + (p1 &&& (1048575 : Int32))))])
      refine own_st (fun _ kt => XS.istore X5.here hx rfl (hb hby at_105) rfl (l' := #[.val (.int p1), .val (.int p2), .val (.int p3), .val (.int ((1 : Int32) + (p1 &&& (1048575 : Int32)))), .val (.int dd), .val (.int (((1 : Int32) + (p1 &&& (1048575 : Int32))) + dd)), .val (.int sp), .val (.int (own_lvl w0 w0 ((1 : Int32) + (p1 &&& (1048575 : Int32))) (((1 : Int32) + (p1 &&& (1048575 : Int32))) + dd) sp)), .val (.int (own_lvl w1 w0 ((1 : Int32) + (p1 &&& (1048575 : Int32))) (((1 : Int32) + (p1 &&& (1048575 : Int32))) + dd) sp)), .val (.int ((1 : Int32) + (p1 &&& (1048575 : Int32)))), .val (.int ((1 : Int32) + (p1 &&& (1048575 : Int32)))), .unset]) rfl kt) ?_
      show own_Rch p e below _ T5 (mkF m 107 #[.val (.int p1), .val (.int p2), .val (.int p3), .val (.int ((1 : Int32) + (p1 &&& (1048575 : Int32)))), .val (.int dd), .val (.int (((1 : Int32) + (p1 &&& (1048575 : Int32))) + dd)), .val (.int sp), .val (.int (own_lvl w0 w0 ((1 : Int32) + (p1 &&& (1048575 : Int32))) (((1 : Int32) + (p1 &&& (1048575 : Int32))) + dd) sp)), .val (.int (own_lvl w1 w0 ((1 : Int32) + (p1 &&& (1048575 : Int32))) (((1 : Int32) + (p1 &&& (1048575 : Int32))) + dd) sp)), .val (.int ((1 : Int32) + (p1 &&& (1048575 : Int32)))), .val (.int ((1 : Int32) + (p1 &&& (1048575 : Int32)))), .unset] [])
      refine own_st (fun _ kt => XS.goto X5.here hx rfl (pc0 := 107) (pc' := 154) rfl (hb hby at_107) (by decide) (by decide) kt) ?_
      exact c154 _ _ (own_k0 hc98_6) (own_k0 hc98_6) (own_irr _) (own_bw (own_be p1) hd) (own_irr _) (own_bw (own_be p1) hd)
    · -- pc 98: False
      refine own_st (fun _ kt => XS.ifYes X5.here hx rfl (pc0 := 98) (pc' := 110) rfl (hb hby at_98) rfl ((if0 _ _).trans (feq hc98_6).2) (by decide) (by decide) kt) ?_
      show own_Rch p e below _ T5 (mkF m 110 #[.val (.int p1), .val (.int p2), .val (.int p3), .val (.int ((1 : Int32) + (p1 &&& (1048575 : Int32)))), .val (.int dd), .val (.int (((1 : Int32) + (p1 &&& (1048575 : Int32))) + dd)), .val (.int sp), .val (.int (own_lvl w0 w0 ((1 : Int32) + (p1 &&& (1048575 : Int32))) (((1 : Int32) + (p1 &&& (1048575 : Int32))) + dd) sp)), .val (.int (own_lvl w1 w0 ((1 : Int32) + (p1 &&& (1048575 : Int32))) (((1 : Int32) + (p1 &&& (1048575 : Int32))) + dd) sp)), .unset, .unset, .unset] [])
      refine own_st (fun _ kt => XS.iload X5.here hx rfl (hb hby at_110) rfl  kt) ?_
      show own_Rch p e below _ T5 (mkF m 112 #[.val (.int p1), .val (.int p2), .val (.int p3), .val (.int ((1 : Int32) + (p1 &&& (1048575 : Int32)))), .val (.int dd), .val (.int (((1 : Int32) + (p1 &&& (1048575 : Int32))) + dd)), .val (.int sp), .val (.int (own_lvl w0 w0 ((1 : Int32) + (p1 &&& (1048575 : Int32))) (((1 : Int32) + (p1 &&& (1048575 : Int32))) + dd) sp)), .val (.int (own_lvl w1 w0 ((1 : Int32) + (p1 &&& (1048575 : Int32))) (((1 : Int32) + (p1 &&& (1048575 : Int32))) + dd) sp)), .unset, .unset, .unset] [(.int (((1 : Int32) + (p1 &&& (1048575 : Int32))) + dd))])
      refine own_st (fun _ kt => XS.iload X5.here hx rfl (hb hby at_112) rfl  kt) ?_
      show own_Rch p e below _ T5 (mkF m 114 #[.val (.int p1), .val (.int p2), .val (.int p3), .val (.int ((1 : Int32) + (p1 &&& (1048575 : Int32)))), .val (.int dd), .val (.int (((1 : Int32) + (p1 &&& (1048575 : Int32))) + dd)), .val (.int sp), .val (.int (own_lvl w0 w0 ((1 : Int32) + (p1 &&& (1048575 : Int32))) (((1 : Int32) + (p1 &&& (1048575 : Int32))) + dd) sp)), .val (.int (own_lvl w1 w0 ((1 : Int32) + (p1 &&& (1048575 : Int32))) (((1 : Int32) + (p1 &&& (1048575 : Int32))) + dd) sp)), .unset, .unset, .unset] [(.int sp), (.int (((1 : Int32) + (p1 &&& (1048575 : Int32))) + dd))])
      by_cases hc114_7 : sp < (((1 : Int32) + (p1 &&& (1048575 : Int32))) + dd)
      · -- pc 114: True
        refine own_st (fun _ kt => XS.icmpNo X5.here hx rfl (hb hby at_114) rfl (tlt hc114_7).2.2.2 kt) ?_
        show own_Rch p e below _ T5 (mkF m 117 #[.val (.int p1), .val (.int p2), .val (.int p3), .val (.int ((1 : Int32) + (p1 &&& (1048575 : Int32)))), .val (.int dd), .val (.int (((1 : Int32) + (p1 &&& (1048575 : Int32))) + dd)), .val (.int sp), .val (.int (own_lvl w0 w0 ((1 : Int32) + (p1 &&& (1048575 : Int32))) (((1 : Int32) + (p1 &&& (1048575 : Int32))) + dd) sp)), .val (.int (own_lvl w1 w0 ((1 : Int32) + (p1 &&& (1048575 : Int32))) (((1 : Int32) + (p1 &&& (1048575 : Int32))) + dd) sp)), .unset, .unset, .unset] [])
        refine own_st (fun _ kt => XS.iload X5.here hx rfl (hb hby at_117) rfl  kt) ?_
        show own_Rch p e below _ T5 (mkF m 119 #[.val (.int p1), .val (.int p2), .val (.int p3), .val (.int ((1 : Int32) + (p1 &&& (1048575 : Int32)))), .val (.int dd), .val (.int (((1 : Int32) + (p1 &&& (1048575 : Int32))) + dd)), .val (.int sp), .val (.int (own_lvl w0 w0 ((1 : Int32) + (p1 &&& (1048575 : Int32))) (((1 : Int32) + (p1 &&& (1048575 : Int32))) + dd) sp)), .val (.int (own_lvl w1 w0 ((1 : Int32) + (p1 &&& (1048575 : Int32))) (((1 : Int32) + (p1 &&& (1048575 : Int32))) + dd) sp)), .unset, .unset, .unset] [(.int (((1 : Int32) + (p1 &&& (1048575 : Int32))) + dd))])
        refine own_st (fun _ kt => XS.istore X5.here hx rfl (hb hby at_119) rfl (l' := #[.val (.int p1), .val (.int p2), .val (.int p3), .val (.int ((1 : Int32) + (p1 &&& (1048575 : Int32)))), .val (.int dd), .val (.int (((1 : Int32) + (p1 &&& (1048575 : Int32))) + dd)), .val (.int sp), .val (.int (own_lvl w0 w0 ((1 : Int32) + (p1 &&& (1048575 : Int32))) (((1 : Int32) + (p1 &&& (1048575 : Int32))) + dd) sp)), .val (.int (own_lvl w1 w0 ((1 : Int32) + (p1 &&& (1048575 : Int32))) (((1 : Int32) + (p1 &&& (1048575 : Int32))) + dd) sp)), .val (.int (((1 : Int32) + (p1 &&& (1048575 : Int32))) + dd)), .unset, .unset]) rfl kt) ?_
        show own_Rch p e below _ T5 (mkF m 121 #[.val (.int p1), .val (.int p2), .val (.int p3), .val (.int ((1 : Int32) + (p1 &&& (1048575 : Int32)))), .val (.int dd), .val (.int (((1 : Int32) + (p1 &&& (1048575 : Int32))) + dd)), .val (.int sp), .val (.int (own_lvl w0 w0 ((1 : Int32) + (p1 &&& (1048575 : Int32))) (((1 : Int32) + (p1 &&& (1048575 : Int32))) + dd) sp)), .val (.int (own_lvl w1 w0 ((1 : Int32) + (p1 &&& (1048575 : Int32))) (((1 : Int32) + (p1 &&& (1048575 : Int32))) + dd) sp)), .val (.int (((1 : Int32) + (p1 &&& (1048575 : Int32))) + dd)), .unset, .unset] [])
        refine own_st (fun _ kt => XS.iload X5.here hx rfl (hb hby at_121) rfl  kt) ?_
        show own_Rch p e below _ T5 (mkF m 123 #[.val (.int p1), .val (.int p2), .val (.int p3), .val (.int ((1 : Int32) + (p1 &&& (1048575 : Int32)))), .val (.int dd), .val (.int (((1 : Int32) + (p1 &&& (1048575 : Int32))) + dd)), .val (.int sp), .val (.int (own_lvl w0 w0 ((1 : Int32) + (p1 &&& (1048575 : Int32))) (((1 : Int32) + (p1 &&& (1048575 : Int32))) + dd) sp)), .val (.int (own_lvl w1 w0 ((1 : Int32) + (p1 &&& (1048575 : Int32))) (((1 : Int32) + (p1 &&& (1048575 : Int32))) + dd) sp)), .val (.int (((1 : Int32) + (p1 &&& (1048575 : Int32))) + dd)), .unset, .unset] [(.int (((1 : Int32) + (p1 &&& (1048575 : Int32))) + dd))])
        refine own_st (fun _ kt => XS.istore X5.here hx rfl (hb hby at_123) rfl (l' := #[.val (.int p1), .val (.int p2), .val (.int p3), .val (.int ((1 : Int32) + (p1 &&& (1048575 : Int32)))), .val (.int dd), .val (.int (((1 : Int32) + (p1 &&& (1048575 : Int32))) + dd)), .val (.int sp), .val (.int (own_lvl w0 w0 ((1 : Int32) + (p1 &&& (1048575 : Int32))) (((1 : Int32) + (p1 &&& (1048575 : Int32))) + dd) sp)), .val (.int (own_lvl w1 w0 ((1 : Int32) + (p1 &&& (1048575 : Int32))) (((1 : Int32) + (p1 &&& (1048575 : Int32))) + dd) sp)), .val (.int (((1 : Int32) + (p1 &&& (1048575 : Int32))) + dd)), .val (.int (((1 : Int32) + (p1 &&& (1048575 : Int32))) + dd)), .unset]) rfl kt) ?_
        show own_Rch p e below _ T5 (mkF m 125 #[.val (.int p1), .val (.int p2), .val (.int p3), .val (.int ((1 : Int32) + (p1 &&& (1048575 : Int32)))), .val (.int dd), .val (.int (((1 : Int32) + (p1 &&& (1048575 : Int32))) + dd)), .val (.int sp), .val (.int (own_lvl w0 w0 ((1 : Int32) + (p1 &&& (1048575 : Int32))) (((1 : Int32) + (p1 &&& (1048575 : Int32))) + dd) sp)), .val (.int (own_lvl w1 w0 ((1 : Int32) + (p1 &&& (1048575 : Int32))) (((1 : Int32) + (p1 &&& (1048575 : Int32))) + dd) sp)), .val (.int (((1 : Int32) + (p1 &&& (1048575 : Int32))) + dd)), .val (.int (((1 : Int32) + (p1 &&& (1048575 : Int32))) + dd)), .unset] [])
        refine own_st (fun _ kt => XS.goto X5.here hx rfl (pc0 := 125) (pc' := 154) rfl (hb hby at_125) (by decide) (by decide) kt) ?_
        exact c154 _ _ (own_k1 hc98_6 hc114_7) (own_k1 hc98_6 hc114_7) (own_bw (own_be p1) hd) (own_irr _) (own_bw (own_be p1) hd) (own_irr _)
      · -- pc 114: False
        refine own_st (fun _ kt => XS.icmpYes X5.here hx rfl (pc0 := 114) (pc' := 128) rfl (hb hby at_114) rfl (flt hc114_7).2.2.2 (by decide) (by decide) kt) ?_
        show own_Rch p e below _ T5 (mkF m 128 #[.val (.int p1), .val (.int p2), .val (.int p3), .val (.int ((1 : Int32) + (p1 &&& (1048575 : Int32)))), .val (.int dd), .val (.int (((1 : Int32) + (p1 &&& (1048575 : Int32))) + dd)), .val (.int sp), .val (.int (own_lvl w0 w0 ((1 : Int32) + (p1 &&& (1048575 : Int32))) (((1 : Int32) + (p1 &&& (1048575 : Int32))) + dd) sp)), .val (.int (own_lvl w1 w0 ((1 : Int32) + (p1 &&& (1048575 : Int32))) (((1 : Int32) + (p1 &&& (1048575 : Int32))) + dd) sp)), .unset, .unset, .unset] [])
        refine own_st (fun _ kt => XS.iload X5.here hx rfl (hb hby at_128) rfl  kt) ?_
        show own_Rch p e below _ T5 (mkF m 130 #[.val (.int p1), .val (.int p2), .val (.int p3), .val (.int ((1 : Int32) + (p1 &&& (1048575 : Int32)))), .val (.int dd), .val (.int (((1 : Int32) + (p1 &&& (1048575 : Int32))) + dd)), .val (.int sp), .val (.int (own_lvl w0 w0 ((1 : Int32) + (p1 &&& (1048575 : Int32))) (((1 : Int32) + (p1 &&& (1048575 : Int32))) + dd) sp)), .val (.int (own_lvl w1 w0 ((1 : Int32) + (p1 &&& (1048575 : Int32))) (((1 : Int32) + (p1 &&& (1048575 : Int32))) + dd) sp)), .unset, .unset, .unset] [(.int dd)])
        refine own_st (fun _ kt => XS.iconst X5.here hx rfl (hb hby at_130) kt) ?_
        show own_Rch p e below _ T5 (mkF m 131 #[.val (.int p1), .val (.int p2), .val (.int p3), .val (.int ((1 : Int32) + (p1 &&& (1048575 : Int32)))), .val (.int dd), .val (.int (((1 : Int32) + (p1 &&& (1048575 : Int32))) + dd)), .val (.int sp), .val (.int (own_lvl w0 w0 ((1 : Int32) + (p1 &&& (1048575 : Int32))) (((1 : Int32) + (p1 &&& (1048575 : Int32))) + dd) sp)), .val (.int (own_lvl w1 w0 ((1 : Int32) + (p1 &&& (1048575 : Int32))) (((1 : Int32) + (p1 &&& (1048575 : Int32))) + dd) sp)), .unset, .unset, .unset] [(.int (1 : Int32)), (.int dd)])
        by_cases hc131_8 : dd = (1 : Int32)
        · -- pc 131: True
          refine own_st (fun _ kt => XS.icmpNo X5.here hx rfl (hb hby at_131) rfl (teq hc131_8).2 kt) ?_
          show own_Rch p e below _ T5 (mkF m 134 #[.val (.int p1), .val (.int p2), .val (.int p3), .val (.int ((1 : Int32) + (p1 &&& (1048575 : Int32)))), .val (.int dd), .val (.int (((1 : Int32) + (p1 &&& (1048575 : Int32))) + dd)), .val (.int sp), .val (.int (own_lvl w0 w0 ((1 : Int32) + (p1 &&& (1048575 : Int32))) (((1 : Int32) + (p1 &&& (1048575 : Int32))) + dd) sp)), .val (.int (own_lvl w1 w0 ((1 : Int32) + (p1 &&& (1048575 : Int32))) (((1 : Int32) + (p1 &&& (1048575 : Int32))) + dd) sp)), .unset, .unset, .unset] [])
          refine own_st (fun _ kt => XS.iloadN X5.here hx rfl (hb hby at_134) rfl  kt) ?_
          show own_Rch p e below _ T5 (mkF m 135 #[.val (.int p1), .val (.int p2), .val (.int p3), .val (.int ((1 : Int32) + (p1 &&& (1048575 : Int32)))), .val (.int dd), .val (.int (((1 : Int32) + (p1 &&& (1048575 : Int32))) + dd)), .val (.int sp), .val (.int (own_lvl w0 w0 ((1 : Int32) + (p1 &&& (1048575 : Int32))) (((1 : Int32) + (p1 &&& (1048575 : Int32))) + dd) sp)), .val (.int (own_lvl w1 w0 ((1 : Int32) + (p1 &&& (1048575 : Int32))) (((1 : Int32) + (p1 &&& (1048575 : Int32))) + dd) sp)), .unset, .unset, .unset] [(.int ((1 : Int32) + (p1 &&& (1048575 : Int32))))])
          refine own_st (fun _ kt => XS.istore X5.here hx rfl (hb hby at_135) rfl (l' := #[.val (.int p1), .val (.int p2), .val (.int p3), .val (.int ((1 : Int32) + (p1 &&& (1048575 : Int32)))), .val (.int dd), .val (.int (((1 : Int32) + (p1 &&& (1048575 : Int32))) + dd)), .val (.int sp), .val (.int (own_lvl w0 w0 ((1 : Int32) + (p1 &&& (1048575 : Int32))) (((1 : Int32) + (p1 &&& (1048575 : Int32))) + dd) sp)), .val (.int (own_lvl w1 w0 ((1 : Int32) + (p1 &&& (1048575 : Int32))) (((1 : Int32) + (p1 &&& (1048575 : Int32))) + dd) sp)), .val (.int ((1 : Int32) + (p1 &&& (1048575 : Int32)))), .unset, .unset]) rfl kt) ?_
          show own_Rch p e below _ T5 (mkF m 137 #[.val (.int p1), .val (.int p2), .val (.int p3), .val (.int ((1 : Int32) + (p1 &&& (1048575 : Int32)))), .val (.int dd), .val (.int (((1 : Int32) + (p1 &&& (1048575 : Int32))) + dd)), .val (.int sp), .val (.int (own_lvl w0 w0 ((1 : Int32) + (p1 &&& (1048575 : Int32))) (((1 : Int32) + (p1 &&& (1048575 : Int32))) + dd) sp)), .val (.int (own_lvl w1 w0 ((1 : Int32) + (p1 &&& (1048575 : Int32))) (((1 : Int32) + (p1 &&& (1048575 : Int32))) + dd) sp)), .val (.int ((1 : Int32) + (p1 &&& (1048575 : Int32)))), .unset, .unset] [])
          refine own_st (fun _ kt => XS.iloadN X5.here hx rfl (hb hby at_137) rfl  kt) ?_
          show own_Rch p e below _ T5 (mkF m 138 #[.val (.int p1), .val (.int p2), .val (.int p3), .val (.int ((1 : Int32) + (p1 &&& (1048575 : Int32)))), .val (.int dd), .val (.int (((1 : Int32) + (p1 &&& (1048575 : Int32))) + dd)), .val (.int sp), .val (.int (own_lvl w0 w0 ((1 : Int32) + (p1 &&& (1048575 : Int32))) (((1 : Int32) + (p1 &&& (1048575 : Int32))) + dd) sp)), .val (.int (own_lvl w1 w0 ((1 : Int32) + (p1 &&& (1048575 : Int32))) (((1 : Int32) + (p1 &&& (1048575 : Int32))) + dd) sp)), .val (.int ((1 : Int32) + (p1 &&& (1048575 : Int32)))), .unset, .unset] [(.int ((1 : Int32) + (p1 &&& (1048575 : Int32))))])
          refine own_st (fun _ kt => XS.istore X5.here hx rfl (hb hby at_138) rfl (l' := #[.val (.int p1), .val (.int p2), .val (.int p3), .val (.int ((1 : Int32) + (p1 &&& (1048575 : Int32)))), .val (.int dd), .val (.int (((1 : Int32) + (p1 &&& (1048575 : Int32))) + dd)), .val (.int sp), .val (.int (own_lvl w0 w0 ((1 : Int32) + (p1 &&& (1048575 : Int32))) (((1 : Int32) + (p1 &&& (1048575 : Int32))) + dd) sp)), .val (.int (own_lvl w1 w0 ((1 : Int32) + (p1 &&& (1048575 : Int32))) (((1 : Int32) + (p1 &&& (1048575 : Int32))) + dd) sp)), .val (.int ((1 : Int32) + (p1 &&& (1048575 : Int32)))), .val (.int ((1 : Int32) + (p1 &&& (1048575 : Int32)))), .unset]) rfl kt) ?_
          show own_Rch p e below _ T5 (mkF m 140 #[.val (.int p1), .val (.int p2), .val (.int p3), .val (.int ((1 : Int32) + (p1 &&& (1048575 : Int32)))), .val (.int dd), .val (.int (((1 : Int32) + (p1 &&& (1048575 : Int32))) + dd)), .val (.int sp), .val (.int (own_lvl w0 w0 ((1 : Int32) + (p1 &&& (1048575 : Int32))) (((1 : Int32) + (p1 &&& (1048575 : Int32))) + dd) sp)), .val (.int (own_lvl w1 w0 ((1 : Int32) + (p1 &&& (1048575 : Int32))) (((1 : Int32) + (p1 &&& (1048575 : Int32))) + dd) sp)), .val (.int ((1 : Int32) + (p1 &&& (1048575 : Int32)))), .val (.int ((1 : Int32) + (p1 &&& (1048575 : Int32)))), .unset] [])
          refine own_st (fun _ kt => XS.goto X5.here hx rfl (pc0 := 140) (pc' := 154) rfl (hb hby at_140) (by decide) (by decide) kt) ?_
          exact c154 _ _ (own_k2 hc98_6 hc114_7 hc131_8) (own_k2 hc98_6 hc114_7 hc131_8) (own_irr _) (own_bw (own_be p1) hd) (own_irr _) (own_bw (own_be p1) hd)
        · -- pc 131: False
          refine own_st (fun _ kt => XS.icmpYes X5.here hx rfl (pc0 := 131) (pc' := 143) rfl (hb hby at_131) rfl (feq hc131_8).2 (by decide) (by decide) kt) ?_
          show own_Rch p e below _ T5 (mkF m 143 #[.val (.int p1), .val (.int p2), .val (.int p3), .val (.int ((1 : Int32) + (p1 &&& (1048575 : Int32)))), .val (.int dd), .val (.int (((1 : Int32) + (p1 &&& (1048575 : Int32))) + dd)), .val (.int sp), .val (.int (own_lvl w0 w0 ((1 : Int32) + (p1 &&& (1048575 : Int32))) (((1 : Int32) + (p1 &&& (1048575 : Int32))) + dd) sp)), .val (.int (own_lvl w1 w0 ((1 : Int32) + (p1 &&& (1048575 : Int32))) (((1 : Int32) + (p1 &&& (1048575 : Int32))) + dd) sp)), .unset, .unset, .unset] [])
          refine own_st (fun _ kt => XS.iload X5.here hx rfl (hb hby at_143) rfl  kt) ?_
          show own_Rch p e below _ T5 (mkF m 145 #[.val (.int p1), .val (.int p2), .val (.int p3), .val (.int ((1 : Int32) + (p1 &&& (1048575 : Int32)))), .val (.int dd), .val (.int (((1 : Int32) + (p1 &&& (1048575 : Int32))) + dd)), .val (.int sp), .val (.int (own_lvl w0 w0 ((1 : Int32) + (p1 &&& (1048575 : Int32))) (((1 : Int32) + (p1 &&& (1048575 : Int32))) + dd) sp)), .val (.int (own_lvl w1 w0 ((1 : Int32) + (p1 &&& (1048575 : Int32))) (((1 : Int32) + (p1 &&& (1048575 : Int32))) + dd) sp)), .unset, .unset, .unset] [(.int (((1 : Int32) + (p1 &&& (1048575 : Int32))) + dd))])
          refine own_st (fun _ kt => XS.iconst X5.here hx rfl (hb hby at_145) kt) ?_
          show own_Rch p e below _ T5 (mkF m 146 #[.val (.int p1), .val (.int p2), .val (.int p3), .val (.int ((1 : Int32) + (p1 &&& (1048575 : Int32)))), .val (.int dd), .val (.int (((1 : Int32) + (p1 &&& (1048575 : Int32))) + dd)), .val (.int sp), .val (.int (own_lvl w0 w0 ((1 : Int32) + (p1 &&& (1048575 : Int32))) (((1 : Int32) + (p1 &&& (1048575 : Int32))) + dd) sp)), .val (.int (own_lvl w1 w0 ((1 : Int32) + (p1 &&& (1048575 : Int32))) (((1 : Int32) + (p1 &&& (1048575 : Int32))) + dd) sp)), .unset, .unset, .unset] [(.int (1 : Int32)), (.int (((1 : Int32) + (p1 &&& (1048575 : Int32))) + dd))])
          refine own_st (fun _ kt => XS.isub X5.here hx rfl (hb hby at_146) rfl kt) ?_
          show own_Rch p e below _ T5 (mkF m 147 #[.val (.int p1), .val (.int p2), .val (.int p3), .val (.int ((1 : Int32) + (p1 &&& (1048575 : Int32)))), .val (.int dd), .val (.int (((1 : Int32) + (p1 &&& (1048575 : Int32))) + dd)), .val (.int sp), .val (.int (own_lvl w0 w0 ((1 : Int32) + (p1 &&& (1048575 : Int32))) (((1 : Int32) + (p1 &&& (1048575 : Int32))) + dd) sp)), .val (.int (own_lvl w1 w0 ((1 : Int32) + (p1 &&& (1048575 : Int32))) (((1 : Int32) + (p1 &&& (1048575 : Int32))) + dd) sp)), .unset, .unset, .unset] [(.int ((((1 : Int32) + (p1 &&& (1048575 : Int32))) + dd) - (1 : Int32)))])
          refine own_st (fun _ kt => XS.istore X5.here hx rfl (hb hby at_147) rfl (l' := #[.val (.int p1), .val (.int p2), .val (.int p3), .val (.int ((1 : Int32) + (p1 &&& (1048575 : Int32)))), .val (.int dd), .val (.int (((1 : Int32) + (p1 &&& (1048575 : Int32))) + dd)), .val (.int sp), .val (.int (own_lvl w0 w0 ((1 : Int32) + (p1 &&& (1048575 : Int32))) (((1 : Int32) + (p1 &&& (1048575 : Int32))) + dd) sp)), .val (.int (own_lvl w1 w0 ((1 : Int32) + (p1 &&& (1048575 : Int32))) (((1 : Int32) + (p1 &&& (1048575 : Int32))) + dd) sp)), .val (.int ((((1 : Int32) + (p1 &&& (1048575 : Int32))) + dd) - (1 : Int32))), .unset, .unset]) rfl kt) ?_
          show own_Rch p e below _ T5 (mkF m 149 #[.val (.int p1), .val (.int p2), .val (.int p3), .val (.int ((1 : Int32) + (p1 &&& (1048575 : Int32)))), .val (.int dd), .val (.int (((1 : Int32) + (p1 &&& (1048575 : Int32))) + dd)), .val (.int sp), .val (.int (own_lvl w0 w0 ((1 : Int32) + (p1 &&& (1048575 : Int32))) (((1 : Int32) + (p1 &&& (1048575 : Int32))) + dd) sp)), .val (.int (own_lvl w1 w0 ((1 : Int32) + (p1 &&& (1048575 : Int32))) (((1 : Int32) + (p1 &&& (1048575 : Int32))) + dd) sp)), .val (.int ((((1 : Int32) + (p1 &&& (1048575 : Int32))) + dd) - (1 : Int32))), .unset, .unset] [])
          refine own_st (fun _ kt => XS.iloadN X5.here hx rfl (hb hby at_149) rfl  kt) ?_
          show own_Rch p e below _ T5 (mkF m 150 #[.val (.int p1), .val (.int p2), .val (.int p3), .val (.int ((1 : Int32) + (p1 &&& (1048575 : Int32)))), .val (.int dd), .val (.int (((1 : Int32) + (p1 &&& (1048575 : Int32))) + dd)), .val (.int sp), .val (.int (own_lvl w0 w0 ((1 : Int32) + (p1 &&& (1048575 : Int32))) (((1 : Int32) + (p1 &&& (1048575 : Int32))) + dd) sp)), .val (.int (own_lvl w1 w0 ((1 : Int32) + (p1 &&& (1048575 : Int32))) (((1 : Int32) + (p1 &&& (1048575 : Int32))) + dd) sp)), .val (.int ((((1 : Int32) + (p1 &&& (1048575 : Int32))) + dd) - (1 : Int32))), .unset, .unset] [(.int ((1 : Int32) + (p1 &&& (1048575 : Int32))))])
          refine own_st (fun _ kt => XS.iconst X5.here hx rfl (hb hby at_150) kt) ?_
          show own_Rch p e below _ T5 (mkF m 151 #[.val (.int p1), .val (.int p2), .val (.int p3), .val (.int ((1 : Int32) + (p1 &&& (1048575 : Int32)))), .val (.int dd), .val (.int (((1 : Int32) + (p1 &&& (1048575 : Int32))) + dd)), .val (.int sp), .val (.int (own_lvl w0 w0 ((1 : Int32) + (p1 &&& (1048575 : Int32))) (((1 : Int32) + (p1 &&& (1048575 : Int32))) + dd) sp)), .val (.int (own_lvl w1 w0 ((1 : Int32) + (p1 &&& (1048575 : Int32))) (((1 : Int32) + (p1 &&& (1048575 : Int32))) + dd) sp)), .val (.int ((((1 : Int32) + (p1 &&& (1048575 : Int32))) + dd) - (1 : Int32))), .unset, .unset] [(.int (1 : Int32)), (.int ((1 : Int32) + (p1 &&& (1048575 : Int32))))])
          refine own_st (fun _ kt => XS.iadd X5.here hx rfl (hb hby at_151) rfl kt) ?_
          show own_Rch p e below _ T5 (mkF m 152 #[.val (.int p1), .val (.int p2), .val (.int p3), .val (.int ((1 : Int32) + (p1 &&& (1048575 : Int32)))), .val (.int dd), .val (.int (((1 : Int32) + (p1 &&& (1048575 : Int32))) + dd)), .val (.int sp), .val (.int (own_lvl w0 w0 ((1 : Int32) + (p1 &&& (1048575 : Int32))) (((1 : Int32) + (p1 &&& (1048575 : Int32))) + dd) sp)), .val (.int (own_lvl w1 w0 ((1 : Int32) + (p1 &&& (1048575 : Int32))) (((1 : Int32) + (p1 &&& (1048575 : Int32))) + dd) sp)), .val (.int ((((1 : Int32) + (p1 &&& (1048575 : Int32))) + dd) - (1 : Int32))), .unset, .unset] [(.int (((1 : Int32) + (p1 &&& (1048575 : Int32))) + (1 : Int32)))])
          refine own_st (fun _ kt => XS.istore X5.here hx rfl (hb hby at_152) rfl (l' := #[.val (.int p1), .val (.int p2), .val (.int p3), .val (.int ((1 : Int32) + (p1 &&& (1048575 : Int32)))), .val (.int dd), .val (.int (((1 : Int32) + (p1 &&& (1048575 : Int32))) + dd)), .val (.int sp), .val (.int (own_lvl w0 w0 ((1 : Int32) + (p1 &&& (1048575 : Int32))) (((1 : Int32) + (p1 &&& (1048575 : Int32))) + dd) sp)), .val (.int (own_lvl w1 w0 ((1 : Int32) + (p1 &&& (1048575 : Int32))) (((1 : Int32) + (p1 &&& (1048575 : Int32))) + dd) sp)), .val (.int ((((1 : Int32) + (p1 &&& (1048575 : Int32))) + dd) - (1 : Int32))), .val (.int (((1 : Int32) + (p1 &&& (1048575 : Int32))) + (1 : Int32))), .unset]) rfl kt) ?_
          exact c154 _ _ (own_k3 hc98_6 hc114_7 hc131_8) (own_k4 hne hc98_6 hc114_7 hc131_8) (own_far (own_be p1) hd hc98_6).1 (own_far (own_be p1) hd hc98_6).2.1 (own_far (own_be p1) hd hc98_6).2.2.1 (own_far (own_be p1) hd hc98_6).2.2.2
  have c27 : ∀ (dd : Int32) (hd : 0 ≤ dd.toInt ∧ dd.toInt ≤ 1048575), own_Rch p e below (own_End s below (own_Q_own_rm0 Z p1 p2 p3 w0 w1 h0 n0) (room_1).cells (room_1).slots) s₁ (mkF m 27 #[.val (.int p1), .val (.int p2), .val (.int p3), .val (.int ((1 : Int32) + (p1 &&& (1048575 : Int32)))), .unset, .unset, .unset, .unset, .unset, .unset, .unset, .unset] [(.int dd)]) := by
    intro dd hd
    show own_Rch p e below _ s₁ (mkF m 27 #[.val (.int p1), .val (.int p2), .val (.int p3), .val (.int ((1 : Int32) + (p1 &&& (1048575 : Int32)))), .unset, .unset, .unset, .unset, .unset, .unset, .unset, .unset] [(.int dd)])
    refine own_st (fun _ kt => XS.istore X0.here hx rfl (hb hby at_27) rfl (l' := #[.val (.int p1), .val (.int p2), .val (.int p3), .val (.int ((1 : Int32) + (p1 &&& (1048575 : Int32)))), .val (.int dd), .unset, .unset, .unset, .unset, .unset, .unset, .unset]) rfl kt) ?_
    show own_Rch p e below _ s₁ (mkF m 29 #[.val (.int p1), .val (.int p2), .val (.int p3), .val (.int ((1 : Int32) + (p1 &&& (1048575 : Int32)))), .val (.int dd), .unset, .unset, .unset, .unset, .unset, .unset, .unset] [])
    refine own_st (fun _ kt => XS.iloadN X0.here hx rfl (hb hby at_29) rfl  kt) ?_
    show own_Rch p e below _ s₁ (mkF m 30 #[.val (.int p1), .val (.int p2), .val (.int p3), .val (.int ((1 : Int32) + (p1 &&& (1048575 : Int32)))), .val (.int dd), .unset, .unset, .unset, .unset, .unset, .unset, .unset] [(.int ((1 : Int32) + (p1 &&& (1048575 : Int32))))])
    refine own_st (fun _ kt => XS.iload X0.here hx rfl (hb hby at_30) rfl  kt) ?_
    show own_Rch p e below _ s₁ (mkF m 32 #[.val (.int p1), .val (.int p2), .val (.int p3), .val (.int ((1 : Int32) + (p1 &&& (1048575 : Int32)))), .val (.int dd), .unset, .unset, .unset, .unset, .unset, .unset, .unset] [(.int dd), (.int ((1 : Int32) + (p1 &&& (1048575 : Int32))))])
    refine own_st (fun _ kt => XS.iadd X0.here hx rfl (hb hby at_32) rfl kt) ?_
    show own_Rch p e below _ s₁ (mkF m 33 #[.val (.int p1), .val (.int p2), .val (.int p3), .val (.int ((1 : Int32) + (p1 &&& (1048575 : Int32)))), .val (.int dd), .unset, .unset, .unset, .unset, .unset, .unset, .unset] [(.int (((1 : Int32) + (p1 &&& (1048575 : Int32))) + dd))])
    refine own_st (fun _ kt => XS.istore X0.here hx rfl (hb hby at_33) rfl (l' := #[.val (.int p1), .val (.int p2), .val (.int p3), .val (.int ((1 : Int32) + (p1 &&& (1048575 : Int32)))), .val (.int dd), .val (.int (((1 : Int32) + (p1 &&& (1048575 : Int32))) + dd)), .unset, .unset, .unset, .unset, .unset, .unset]) rfl kt) ?_
    show own_Rch p e below _ s₁ (mkF m 35 #[.val (.int p1), .val (.int p2), .val (.int p3), .val (.int ((1 : Int32) + (p1 &&& (1048575 : Int32)))), .val (.int dd), .val (.int (((1 : Int32) + (p1 &&& (1048575 : Int32))) + dd)), .unset, .unset, .unset, .unset, .unset, .unset] [])
    refine own_st (fun _ kt => XS.iloadN X0.here hx rfl (hb hby at_35) rfl  kt) ?_
    show own_Rch p e below _ s₁ (mkF m 36 #[.val (.int p1), .val (.int p2), .val (.int p3), .val (.int ((1 : Int32) + (p1 &&& (1048575 : Int32)))), .val (.int dd), .val (.int (((1 : Int32) + (p1 &&& (1048575 : Int32))) + dd)), .unset, .unset, .unset, .unset, .unset, .unset] [(.int p3)])
    refine own_st (fun _ kt => XS.iconst X0.here hx rfl (hb hby at_36) kt) ?_
    show own_Rch p e below _ s₁ (mkF m 37 #[.val (.int p1), .val (.int p2), .val (.int p3), .val (.int ((1 : Int32) + (p1 &&& (1048575 : Int32)))), .val (.int dd), .val (.int (((1 : Int32) + (p1 &&& (1048575 : Int32))) + dd)), .unset, .unset, .unset, .unset, .unset, .unset] [(.int (1 : Int32)), (.int p3)])
    refine own_st (fun _ kt => XS.iand X0.here hx rfl (hb hby at_37) rfl kt) ?_
    show own_Rch p e below _ s₁ (mkF m 38 #[.val (.int p1), .val (.int p2), .val (.int p3), .val (.int ((1 : Int32) + (p1 &&& (1048575 : Int32)))), .val (.int dd), .val (.int (((1 : Int32) + (p1 &&& (1048575 : Int32))) + dd)), .unset, .unset, .unset, .unset, .unset, .unset] [(.int (p3 &&& (1 : Int32)))])
    by_cases hc38_9 : (p3 &&& (1 : Int32)) = (0 : Int32)
    · -- pc 38: True
      refine own_st (fun _ kt => XS.ifYes X0.here hx rfl (pc0 := 38) (pc' := 62) rfl (hb hby at_38) rfl ((if0 _ _).trans (teq hc38_9).1) (by decide) (by decide) kt) ?_
      show own_Rch p e below _ s₁ (mkF m 62 #[.val (.int p1), .val (.int p2), .val (.int p3), .val (.int ((1 : Int32) + (p1 &&& (1048575 : Int32)))), .val (.int dd), .val (.int (((1 : Int32) + (p1 &&& (1048575 : Int32))) + dd)), .unset, .unset, .unset, .unset, .unset, .unset] [])
      refine own_st (fun _ kt => XS.iloadN X0.here hx rfl (hb hby at_62) rfl  kt) ?_
      show own_Rch p e below _ s₁ (mkF m 63 #[.val (.int p1), .val (.int p2), .val (.int p3), .val (.int ((1 : Int32) + (p1 &&& (1048575 : Int32)))), .val (.int dd), .val (.int (((1 : Int32) + (p1 &&& (1048575 : Int32))) + dd)), .unset, .unset, .unset, .unset, .unset, .unset] [(.int p3)])
      refine own_st (fun _ kt => XS.iconst X0.here hx rfl (hb hby at_63) kt) ?_
      show own_Rch p e below _ s₁ (mkF m 64 #[.val (.int p1), .val (.int p2), .val (.int p3), .val (.int ((1 : Int32) + (p1 &&& (1048575 : Int32)))), .val (.int dd), .val (.int (((1 : Int32) + (p1 &&& (1048575 : Int32))) + dd)), .unset, .unset, .unset, .unset, .unset, .unset] [(.int (1 : Int32)), (.int p3)])
      refine own_st (fun _ kt => XS.iushr X0.here hx rfl (hb hby at_64) rfl kt) ?_
      show own_Rch p e below _ s₁ (mkF m 65 #[.val (.int p1), .val (.int p2), .val (.int p3), .val (.int ((1 : Int32) + (p1 &&& (1048575 : Int32)))), .val (.int dd), .val (.int (((1 : Int32) + (p1 &&& (1048575 : Int32))) + dd)), .unset, .unset, .unset, .unset, .unset, .unset] [(.int ((p3.toUInt32 >>> ((1 : Int32) &&& 31).toUInt32).toInt32))])
      refine own_st (X0.ldcInt hx hown (mvT hZ (hw _ (List.mem_of_getElem? (i := 1) rfl))) (g := (mkF m 65 #[.val (.int p1), .val (.int p2), .val (.int p3), .val (.int ((1 : Int32) + (p1 &&& (1048575 : Int32)))), .val (.int dd), .val (.int (((1 : Int32) + (p1 &&& (1048575 : Int32))) + dd)), .unset, .unset, .unset, .unset, .unset, .unset] [(.int ((p3.toUInt32 >>> ((1 : Int32) &&& 31).toUInt32).toInt32))])) rfl (hb hby at_65)) ?_
      show own_Rch p e below _ s₁ (mkF m 67 #[.val (.int p1), .val (.int p2), .val (.int p3), .val (.int ((1 : Int32) + (p1 &&& (1048575 : Int32)))), .val (.int dd), .val (.int (((1 : Int32) + (p1 &&& (1048575 : Int32))) + dd)), .unset, .unset, .unset, .unset, .unset, .unset] [(.int (4194303 : Int32)), (.int ((p3.toUInt32 >>> ((1 : Int32) &&& 31).toUInt32).toInt32))])
      refine own_st (fun _ kt => XS.iand X0.here hx rfl (hb hby at_67) rfl kt) ?_
      show own_Rch p e below _ s₁ (mkF m 68 #[.val (.int p1), .val (.int p2), .val (.int p3), .val (.int ((1 : Int32) + (p1 &&& (1048575 : Int32)))), .val (.int dd), .val (.int (((1 : Int32) + (p1 &&& (1048575 : Int32))) + dd)), .unset, .unset, .unset, .unset, .unset, .unset] [(.int (((p3.toUInt32 >>> ((1 : Int32) &&& 31).toUInt32).toInt32) &&& (4194303 : Int32)))])
      refine own_st (fun _ kt => XS.istore X0.here hx rfl (hb hby at_68) rfl (l' := #[.val (.int p1), .val (.int p2), .val (.int p3), .val (.int ((1 : Int32) + (p1 &&& (1048575 : Int32)))), .val (.int dd), .val (.int (((1 : Int32) + (p1 &&& (1048575 : Int32))) + dd)), .val (.int (((p3.toUInt32 >>> ((1 : Int32) &&& 31).toUInt32).toInt32) &&& (4194303 : Int32))), .unset, .unset, .unset, .unset, .unset]) rfl kt) ?_
      exact c70 _ _ X0 e0 N0 _ _ hd
    · -- pc 38: False
      refine own_st (fun _ kt => XS.ifNo X0.here hx rfl (hb hby at_38) rfl ((if0 _ _).trans (feq hc38_9).1) kt) ?_
      show own_Rch p e below _ s₁ (mkF m 41 #[.val (.int p1), .val (.int p2), .val (.int p3), .val (.int ((1 : Int32) + (p1 &&& (1048575 : Int32)))), .val (.int dd), .val (.int (((1 : Int32) + (p1 &&& (1048575 : Int32))) + dd)), .unset, .unset, .unset, .unset, .unset, .unset] [])
      refine own_st (fun _ kt => XS.iconst X0.here hx rfl (hb hby at_41) kt) ?_
      show own_Rch p e below _ s₁ (mkF m 42 #[.val (.int p1), .val (.int p2), .val (.int p3), .val (.int ((1 : Int32) + (p1 &&& (1048575 : Int32)))), .val (.int dd), .val (.int (((1 : Int32) + (p1 &&& (1048575 : Int32))) + dd)), .unset, .unset, .unset, .unset, .unset, .unset] [(.int (0 : Int32))])
      refine own_st (fun _ kt => XS.iload X0.here hx rfl (hb hby at_42) rfl  kt) ?_
      show own_Rch p e below _ s₁ (mkF m 44 #[.val (.int p1), .val (.int p2), .val (.int p3), .val (.int ((1 : Int32) + (p1 &&& (1048575 : Int32)))), .val (.int dd), .val (.int (((1 : Int32) + (p1 &&& (1048575 : Int32))) + dd)), .unset, .unset, .unset, .unset, .unset, .unset] [(.int (((1 : Int32) + (p1 &&& (1048575 : Int32))) + dd)), (.int (0 : Int32))])
      refine own_st (fun _ kt => XS.iloadN X0.here hx rfl (hb hby at_44) rfl  kt) ?_
      show own_Rch p e below _ s₁ (mkF m 45 #[.val (.int p1), .val (.int p2), .val (.int p3), .val (.int ((1 : Int32) + (p1 &&& (1048575 : Int32)))), .val (.int dd), .val (.int (((1 : Int32) + (p1 &&& (1048575 : Int32))) + dd)), .unset, .unset, .unset, .unset, .unset, .unset] [(.int p3), (.int (((1 : Int32) + (p1 &&& (1048575 : Int32))) + dd)), (.int (0 : Int32))])
      refine own_st (fun _ kt => XS.iconst X0.here hx rfl (hb hby at_45) kt) ?_
      show own_Rch p e below _ s₁ (mkF m 46 #[.val (.int p1), .val (.int p2), .val (.int p3), .val (.int ((1 : Int32) + (p1 &&& (1048575 : Int32)))), .val (.int dd), .val (.int (((1 : Int32) + (p1 &&& (1048575 : Int32))) + dd)), .unset, .unset, .unset, .unset, .unset, .unset] [(.int (1 : Int32)), (.int p3), (.int (((1 : Int32) + (p1 &&& (1048575 : Int32))) + dd)), (.int (0 : Int32))])
      refine own_st (fun _ kt => XS.iushr X0.here hx rfl (hb hby at_46) rfl kt) ?_
      show own_Rch p e below _ s₁ (mkF m 47 #[.val (.int p1), .val (.int p2), .val (.int p3), .val (.int ((1 : Int32) + (p1 &&& (1048575 : Int32)))), .val (.int dd), .val (.int (((1 : Int32) + (p1 &&& (1048575 : Int32))) + dd)), .unset, .unset, .unset, .unset, .unset, .unset] [(.int ((p3.toUInt32 >>> ((1 : Int32) &&& 31).toUInt32).toInt32)), (.int (((1 : Int32) + (p1 &&& (1048575 : Int32))) + dd)), (.int (0 : Int32))])
      refine own_st (fun _ kt => XS.bipush X0.here hx rfl (hb hby at_47) kt) ?_
      show own_Rch p e below _ s₁ (mkF m 49 #[.val (.int p1), .val (.int p2), .val (.int p3), .val (.int ((1 : Int32) + (p1 &&& (1048575 : Int32)))), .val (.int dd), .val (.int (((1 : Int32) + (p1 &&& (1048575 : Int32))) + dd)), .unset, .unset, .unset, .unset, .unset, .unset] [(.int (15 : Int32)), (.int ((p3.toUInt32 >>> ((1 : Int32) &&& 31).toUInt32).toInt32)), (.int (((1 : Int32) + (p1 &&& (1048575 : Int32))) + dd)), (.int (0 : Int32))])
      refine own_st (fun _ kt => XS.iand X0.here hx rfl (hb hby at_49) rfl kt) ?_
      show own_Rch p e below _ s₁ (mkF m 50 #[.val (.int p1), .val (.int p2), .val (.int p3), .val (.int ((1 : Int32) + (p1 &&& (1048575 : Int32)))), .val (.int dd), .val (.int (((1 : Int32) + (p1 &&& (1048575 : Int32))) + dd)), .unset, .unset, .unset, .unset, .unset, .unset] [(.int (((p3.toUInt32 >>> ((1 : Int32) &&& 31).toUInt32).toInt32) &&& (15 : Int32))), (.int (((1 : Int32) + (p1 &&& (1048575 : Int32))) + dd)), (.int (0 : Int32))])
      refine own_st (fun _ kt => XS.bipush X0.here hx rfl (hb hby at_50) kt) ?_
      show own_Rch p e below _ s₁ (mkF m 52 #[.val (.int p1), .val (.int p2), .val (.int p3), .val (.int ((1 : Int32) + (p1 &&& (1048575 : Int32)))), .val (.int dd), .val (.int (((1 : Int32) + (p1 &&& (1048575 : Int32))) + dd)), .unset, .unset, .unset, .unset, .unset, .unset] [(.int (8 : Int32)), (.int (((p3.toUInt32 >>> ((1 : Int32) &&& 31).toUInt32).toInt32) &&& (15 : Int32))), (.int (((1 : Int32) + (p1 &&& (1048575 : Int32))) + dd)), (.int (0 : Int32))])
      refine own_st (fun _ kt => XS.isub X0.here hx rfl (hb hby at_52) rfl kt) ?_
      show own_Rch p e below _ s₁ (mkF m 53 #[.val (.int p1), .val (.int p2), .val (.int p3), .val (.int ((1 : Int32) + (p1 &&& (1048575 : Int32)))), .val (.int dd), .val (.int (((1 : Int32) + (p1 &&& (1048575 : Int32))) + dd)), .unset, .unset, .unset, .unset, .unset, .unset] [(.int ((((p3.toUInt32 >>> ((1 : Int32) &&& 31).toUInt32).toInt32) &&& (15 : Int32)) - (8 : Int32))), (.int (((1 : Int32) + (p1 &&& (1048575 : Int32))) + dd)), (.int (0 : Int32))])
      refine own_st (fun _ kt => XS.iadd X0.here hx rfl (hb hby at_53) rfl kt) ?_
      show own_Rch p e below _ s₁ (mkF m 54 #[.val (.int p1), .val (.int p2), .val (.int p3), .val (.int ((1 : Int32) + (p1 &&& (1048575 : Int32)))), .val (.int dd), .val (.int (((1 : Int32) + (p1 &&& (1048575 : Int32))) + dd)), .unset, .unset, .unset, .unset, .unset, .unset] [(.int ((((1 : Int32) + (p1 &&& (1048575 : Int32))) + dd) + ((((p3.toUInt32 >>> ((1 : Int32) &&& 31).toUInt32).toInt32) &&& (15 : Int32)) - (8 : Int32)))), (.int (0 : Int32))])
      obtain ⟨_, _, ⟨T10, L10, k10, n10⟩, -, X10, ⟨Lc10, hQ10, l10, y10, z10⟩, st10⟩ := Jvm.LawKit.callS X0 hx (y := (⟨"java/lang/Math", "max", "(II)I"⟩ : MethodName)) hown (mvT hZ (hw _ (List.mem_of_getElem? (i := 12) rfl))) (mvT hZ (hw _ (List.mem_of_getElem? (i := 13) rfl))) (mvT hZ (hw _ (List.mem_of_getElem? (i := 14) rfl))) (mvT hZ (hw _ (List.mem_of_getElem? (i := 15) rfl))) (by decide) (backOf (W := 0) (own_mmax l Z a0 hw [] (0 : Int32) ((((1 : Int32) + (p1 &&& (1048575 : Int32))) + dd) + ((((p3.toUInt32 >>> ((1 : Int32) &&& 31).toUInt32).toInt32) &&& (15 : Int32)) - (8 : Int32))) h0 n0 O0 ) hZ (hw _ (List.mem_of_getElem? (i := 15) rfl)) (hw _ (List.mem_of_getElem? (i := 14) rfl)) (by decide) (by decide)) (g := (mkF m 54 #[.val (.int p1), .val (.int p2), .val (.int p3), .val (.int ((1 : Int32) + (p1 &&& (1048575 : Int32)))), .val (.int dd), .val (.int (((1 : Int32) + (p1 &&& (1048575 : Int32))) + dd)), .unset, .unset, .unset, .unset, .unset, .unset] [(.int ((((1 : Int32) + (p1 &&& (1048575 : Int32))) + dd) + ((((p3.toUInt32 >>> ((1 : Int32) &&& 31).toUInt32).toInt32) &&& (15 : Int32)) - (8 : Int32)))), (.int (0 : Int32))])) rfl (by rw [hml]; rfl) (argsL := [(.int (0 : Int32)), (.int ((((1 : Int32) + (p1 &&& (1048575 : Int32))) + dd) + ((((p3.toUInt32 >>> ((1 : Int32) &&& 31).toUInt32).toInt32) &&& (15 : Int32)) - (8 : Int32))))]) (rest := []) (lenOf own_pd1 rfl) rfl (by show 2 * 0 + _ ≤ _; exact Nat.le_of_eq rfl) (hb hby at_54) (fun _ _ => ⟨rfl, e0, (by decide : 0 + 0 ≤ _), (by decide : 0 + 0 ≤ _)⟩)
      dsimp only [Pt.U, Pt.locs, Pt.cells, Pt.slots] at X10 l10 y10 z10 st10 hQ10
      subst l10 y10 z10
      obtain ⟨rfl, N10q, hh10⟩ := hQ10
      have N10 := Fr.app N0 N10q
      refine own_st st10 ?_
      show own_Rch p e below _ T10 (mkF m 57 #[.val (.int p1), .val (.int p2), .val (.int p3), .val (.int ((1 : Int32) + (p1 &&& (1048575 : Int32)))), .val (.int dd), .val (.int (((1 : Int32) + (p1 &&& (1048575 : Int32))) + dd)), .unset, .unset, .unset, .unset, .unset, .unset] [(.int (own_max (0 : Int32) ((((1 : Int32) + (p1 &&& (1048575 : Int32))) + dd) + ((((p3.toUInt32 >>> ((1 : Int32) &&& 31).toUInt32).toInt32) &&& (15 : Int32)) - (8 : Int32)))))])
      refine own_st (fun _ kt => XS.istore X10.here hx rfl (hb hby at_57) rfl (l' := #[.val (.int p1), .val (.int p2), .val (.int p3), .val (.int ((1 : Int32) + (p1 &&& (1048575 : Int32)))), .val (.int dd), .val (.int (((1 : Int32) + (p1 &&& (1048575 : Int32))) + dd)), .val (.int (own_max (0 : Int32) ((((1 : Int32) + (p1 &&& (1048575 : Int32))) + dd) + ((((p3.toUInt32 >>> ((1 : Int32) &&& 31).toUInt32).toInt32) &&& (15 : Int32)) - (8 : Int32))))), .unset, .unset, .unset, .unset, .unset]) rfl kt) ?_
      show own_Rch p e below _ T10 (mkF m 59 #[.val (.int p1), .val (.int p2), .val (.int p3), .val (.int ((1 : Int32) + (p1 &&& (1048575 : Int32)))), .val (.int dd), .val (.int (((1 : Int32) + (p1 &&& (1048575 : Int32))) + dd)), .val (.int (own_max (0 : Int32) ((((1 : Int32) + (p1 &&& (1048575 : Int32))) + dd) + ((((p3.toUInt32 >>> ((1 : Int32) &&& 31).toUInt32).toInt32) &&& (15 : Int32)) - (8 : Int32))))), .unset, .unset, .unset, .unset, .unset] [])
      refine own_st (fun _ kt => XS.goto X10.here hx rfl (pc0 := 59) (pc' := 70) rfl (hb hby at_59) (by decide) (by decide) kt) ?_
      exact c70 _ _ X10 hh10 N10 _ _ hd
  show own_Rch p e below _ s₁ (mkF m 0 #[.val (.int p1), .val (.int p2), .val (.int p3), .unset, .unset, .unset, .unset, .unset, .unset, .unset, .unset, .unset] [])
  refine own_st (fun _ kt => XS.iconst X0.here hx rfl (hb hby at_0) kt) ?_
  show own_Rch p e below _ s₁ (mkF m 1 #[.val (.int p1), .val (.int p2), .val (.int p3), .unset, .unset, .unset, .unset, .unset, .unset, .unset, .unset, .unset] [(.int (1 : Int32))])
  refine own_st (fun _ kt => XS.iloadN X0.here hx rfl (hb hby at_1) rfl  kt) ?_
  show own_Rch p e below _ s₁ (mkF m 2 #[.val (.int p1), .val (.int p2), .val (.int p3), .unset, .unset, .unset, .unset, .unset, .unset, .unset, .unset, .unset] [(.int p1), (.int (1 : Int32))])
  refine own_st (X0.ldcInt hx hown (mvT hZ (hw _ (List.mem_of_getElem? (i := 0) rfl))) (g := (mkF m 2 #[.val (.int p1), .val (.int p2), .val (.int p3), .unset, .unset, .unset, .unset, .unset, .unset, .unset, .unset, .unset] [(.int p1), (.int (1 : Int32))])) rfl (hb hby at_2)) ?_
  show own_Rch p e below _ s₁ (mkF m 4 #[.val (.int p1), .val (.int p2), .val (.int p3), .unset, .unset, .unset, .unset, .unset, .unset, .unset, .unset, .unset] [(.int (1048575 : Int32)), (.int p1), (.int (1 : Int32))])
  refine own_st (fun _ kt => XS.iand X0.here hx rfl (hb hby at_4) rfl kt) ?_
  show own_Rch p e below _ s₁ (mkF m 5 #[.val (.int p1), .val (.int p2), .val (.int p3), .unset, .unset, .unset, .unset, .unset, .unset, .unset, .unset, .unset] [(.int (p1 &&& (1048575 : Int32))), (.int (1 : Int32))])
  refine own_st (fun _ kt => XS.iadd X0.here hx rfl (hb hby at_5) rfl kt) ?_
  show own_Rch p e below _ s₁ (mkF m 6 #[.val (.int p1), .val (.int p2), .val (.int p3), .unset, .unset, .unset, .unset, .unset, .unset, .unset, .unset, .unset] [(.int ((1 : Int32) + (p1 &&& (1048575 : Int32))))])
  refine own_st (fun _ kt => XS.istoreN X0.here hx rfl (hb hby at_6) rfl (l' := #[.val (.int p1), .val (.int p2), .val (.int p3), .val (.int ((1 : Int32) + (p1 &&& (1048575 : Int32)))), .unset, .unset, .unset, .unset, .unset, .unset, .unset, .unset]) rfl kt) ?_
  show own_Rch p e below _ s₁ (mkF m 7 #[.val (.int p1), .val (.int p2), .val (.int p3), .val (.int ((1 : Int32) + (p1 &&& (1048575 : Int32)))), .unset, .unset, .unset, .unset, .unset, .unset, .unset, .unset] [])
  refine own_st (fun _ kt => XS.iloadN X0.here hx rfl (hb hby at_7) rfl  kt) ?_
  show own_Rch p e below _ s₁ (mkF m 8 #[.val (.int p1), .val (.int p2), .val (.int p3), .val (.int ((1 : Int32) + (p1 &&& (1048575 : Int32)))), .unset, .unset, .unset, .unset, .unset, .unset, .unset, .unset] [(.int p2)])
  refine own_st (fun _ kt => XS.iconst X0.here hx rfl (hb hby at_8) kt) ?_
  show own_Rch p e below _ s₁ (mkF m 9 #[.val (.int p1), .val (.int p2), .val (.int p3), .val (.int ((1 : Int32) + (p1 &&& (1048575 : Int32)))), .unset, .unset, .unset, .unset, .unset, .unset, .unset, .unset] [(.int (1 : Int32)), (.int p2)])
  refine own_st (fun _ kt => XS.iand X0.here hx rfl (hb hby at_9) rfl kt) ?_
  show own_Rch p e below _ s₁ (mkF m 10 #[.val (.int p1), .val (.int p2), .val (.int p3), .val (.int ((1 : Int32) + (p1 &&& (1048575 : Int32)))), .unset, .unset, .unset, .unset, .unset, .unset, .unset, .unset] [(.int (p2 &&& (1 : Int32)))])
  by_cases hc10_11 : (p2 &&& (1 : Int32)) = (0 : Int32)
  · -- pc 10: True
    refine own_st (fun _ kt => XS.ifYes X0.here hx rfl (pc0 := 10) (pc' := 21) rfl (hb hby at_10) rfl ((if0 _ _).trans (teq hc10_11).1) (by decide) (by decide) kt) ?_
    show own_Rch p e below _ s₁ (mkF m 21 #[.val (.int p1), .val (.int p2), .val (.int p3), .val (.int ((1 : Int32) + (p1 &&& (1048575 : Int32)))), .unset, .unset, .unset, .unset, .unset, .unset, .unset, .unset] [])
    refine own_st (fun _ kt => XS.iloadN X0.here hx rfl (hb hby at_21) rfl  kt) ?_
    show own_Rch p e below _ s₁ (mkF m 22 #[.val (.int p1), .val (.int p2), .val (.int p3), .val (.int ((1 : Int32) + (p1 &&& (1048575 : Int32)))), .unset, .unset, .unset, .unset, .unset, .unset, .unset, .unset] [(.int p2)])
    refine own_st (fun _ kt => XS.iconst X0.here hx rfl (hb hby at_22) kt) ?_
    show own_Rch p e below _ s₁ (mkF m 23 #[.val (.int p1), .val (.int p2), .val (.int p3), .val (.int ((1 : Int32) + (p1 &&& (1048575 : Int32)))), .unset, .unset, .unset, .unset, .unset, .unset, .unset, .unset] [(.int (1 : Int32)), (.int p2)])
    refine own_st (fun _ kt => XS.iushr X0.here hx rfl (hb hby at_23) rfl kt) ?_
    show own_Rch p e below _ s₁ (mkF m 24 #[.val (.int p1), .val (.int p2), .val (.int p3), .val (.int ((1 : Int32) + (p1 &&& (1048575 : Int32)))), .unset, .unset, .unset, .unset, .unset, .unset, .unset, .unset] [(.int ((p2.toUInt32 >>> ((1 : Int32) &&& 31).toUInt32).toInt32))])
    refine own_st (X0.ldcInt hx hown (mvT hZ (hw _ (List.mem_of_getElem? (i := 0) rfl))) (g := (mkF m 24 #[.val (.int p1), .val (.int p2), .val (.int p3), .val (.int ((1 : Int32) + (p1 &&& (1048575 : Int32)))), .unset, .unset, .unset, .unset, .unset, .unset, .unset, .unset] [(.int ((p2.toUInt32 >>> ((1 : Int32) &&& 31).toUInt32).toInt32))])) rfl (hb hby at_24)) ?_
    show own_Rch p e below _ s₁ (mkF m 26 #[.val (.int p1), .val (.int p2), .val (.int p3), .val (.int ((1 : Int32) + (p1 &&& (1048575 : Int32)))), .unset, .unset, .unset, .unset, .unset, .unset, .unset, .unset] [(.int (1048575 : Int32)), (.int ((p2.toUInt32 >>> ((1 : Int32) &&& 31).toUInt32).toInt32))])
    refine own_st (fun _ kt => XS.iand X0.here hx rfl (hb hby at_26) rfl kt) ?_
    exact c27 _ (own_mask _ _ (by decide) (by decide))
  · -- pc 10: False
    refine own_st (fun _ kt => XS.ifNo X0.here hx rfl (hb hby at_10) rfl ((if0 _ _).trans (feq hc10_11).1) kt) ?_
    show own_Rch p e below _ s₁ (mkF m 13 #[.val (.int p1), .val (.int p2), .val (.int p3), .val (.int ((1 : Int32) + (p1 &&& (1048575 : Int32)))), .unset, .unset, .unset, .unset, .unset, .unset, .unset, .unset] [])
    refine own_st (fun _ kt => XS.iloadN X0.here hx rfl (hb hby at_13) rfl  kt) ?_
    show own_Rch p e below _ s₁ (mkF m 14 #[.val (.int p1), .val (.int p2), .val (.int p3), .val (.int ((1 : Int32) + (p1 &&& (1048575 : Int32)))), .unset, .unset, .unset, .unset, .unset, .unset, .unset, .unset] [(.int p2)])
    refine own_st (fun _ kt => XS.iconst X0.here hx rfl (hb hby at_14) kt) ?_
    show own_Rch p e below _ s₁ (mkF m 15 #[.val (.int p1), .val (.int p2), .val (.int p3), .val (.int ((1 : Int32) + (p1 &&& (1048575 : Int32)))), .unset, .unset, .unset, .unset, .unset, .unset, .unset, .unset] [(.int (1 : Int32)), (.int p2)])
    refine own_st (fun _ kt => XS.iushr X0.here hx rfl (hb hby at_15) rfl kt) ?_
    show own_Rch p e below _ s₁ (mkF m 16 #[.val (.int p1), .val (.int p2), .val (.int p3), .val (.int ((1 : Int32) + (p1 &&& (1048575 : Int32)))), .unset, .unset, .unset, .unset, .unset, .unset, .unset, .unset] [(.int ((p2.toUInt32 >>> ((1 : Int32) &&& 31).toUInt32).toInt32))])
    refine own_st (fun _ kt => XS.iconst X0.here hx rfl (hb hby at_16) kt) ?_
    show own_Rch p e below _ s₁ (mkF m 17 #[.val (.int p1), .val (.int p2), .val (.int p3), .val (.int ((1 : Int32) + (p1 &&& (1048575 : Int32)))), .unset, .unset, .unset, .unset, .unset, .unset, .unset, .unset] [(.int (3 : Int32)), (.int ((p2.toUInt32 >>> ((1 : Int32) &&& 31).toUInt32).toInt32))])
    refine own_st (fun _ kt => XS.iand X0.here hx rfl (hb hby at_17) rfl kt) ?_
    show own_Rch p e below _ s₁ (mkF m 18 #[.val (.int p1), .val (.int p2), .val (.int p3), .val (.int ((1 : Int32) + (p1 &&& (1048575 : Int32)))), .unset, .unset, .unset, .unset, .unset, .unset, .unset, .unset] [(.int (((p2.toUInt32 >>> ((1 : Int32) &&& 31).toUInt32).toInt32) &&& (3 : Int32)))])
    refine own_st (fun _ kt => XS.goto X0.here hx rfl (pc0 := 18) (pc' := 27) rfl (hb hby at_18) (by decide) (by decide) kt) ?_
    exact c27 _ (own_mask _ _ (by decide) (by decide))
set_option maxRecDepth 65536 in
set_option maxHeartbeats 40000000 in
theorem own_comes {Post : Tables → Env → Array Value → State → Outcome → State → Prop} (hpost : ∀ tb e args s v u, (limb_1_1.after args s (.returned v) u = true ∧ limb_1_2.after args s (.returned v) u = true ∧ True) → FrameEnd s (.returned v) u (Jvm.fieldLocs frame_1_writes args s ++ Jvm.arrayLocs frame_1_arrays args s ++ Jvm.staticLocs frame_1_statics s) 0 0 → Post tb e args s (.returned v) u) :
    ArmFor flags0 classFile x code maxLocals ret World_1 tables_1 room_1 Calls_1 rest_1 Pre_1 Post := by
  intro l hfl _ _ p e ha hc hk s m args below hf hA hF happ hP
  obtain ⟨hcalls, hrest, hpre⟩ := hP
  obtain ⟨-, -, -, hnamed, -, -, -, hat⟩ := (Spec.applies_iff hf).mp happ
  obtain ⟨hg, hn⟩ := and_e (Cond.before_iff.mp (show (Jvm.Cond.and given_1 narrow_1).before args s = true from hpre))
  obtain ⟨g0, g1⟩ := and_e hg
  obtain ⟨g2, g3⟩ := and_e g1
  obtain ⟨g4, g5⟩ := and_e g3
  obtain ⟨w0, w1, w2, rfl⟩ : ∃ w0 w1 w2 : Value, args = #[w0, w1, w2] := by
    have hs : args.size = 3 := by simpa [Cond.value, given_1] using g0
    obtain ⟨L⟩ := args
    match L, hs with
    | [w0, w1, w2], _ => exact ⟨w0, w1, w2, rfl⟩
  have hw := fun d (hd : d ∈ tables_1) => atoms_spec (ws := Jvm.Cond.code x code maxLocals ret :: tables_1) hat d (List.mem_cons_of_mem _ hd)
  have hfit : Fit s := fun {y c} hc i hi => by
    obtain ⟨ha, rfl⟩ := Array.getElem?_eq_some_iff.mp hc
    have q := List.all_eq_true.mp ((Array.all_eq_true_iff_forall_mem.mp hF) _ (Array.getElem_mem ha)) i (List.mem_range.mpr hi)
    simpa [Array.getElem?_eq_getElem hi] using q
  obtain ⟨i0, ei0⟩ := is_v g2
  obtain rfl : w0 = (.int i0) := Option.some.inj ei0
  obtain ⟨i1, ei1⟩ := is_v g4
  obtain rfl : w1 = (.int i1) := Option.some.inj ei1
  obtain ⟨i2, ei2⟩ := is_v g5
  obtain rfl : w2 = (.int i2) := Option.some.inj ei2
  obtain ⟨nw0, nw1⟩ := and_e hn
  obtain ⟨nw2, nw3⟩ := and_e nw1
  obtain ⟨nw4, nw5⟩ := and_e nw3
  obtain ⟨w_0, ev0⟩ := exa_v nw0
  have E0 := Exa.start ev0 nw0
  have S0 := Sta.start ev0 (Or.inr ⟨(hw _ (List.mem_of_getElem? (i := 3) rfl)), (hw _ (List.mem_of_getElem? (i := 4) rfl))⟩)
  have F0 := own_fldeq ev0 nw5
  obtain ⟨w_1, ev1⟩ := exa_v nw2
  have E1 := Exa.start ev1 nw2
  have S1 := Sta.start ev1 (Or.inr ⟨(hw _ (List.mem_of_getElem? (i := 3) rfl)), (hw _ (List.mem_of_getElem? (i := 11) rfl))⟩)
  have F1 := own_fldeq ev1 nw4
  obtain ⟨n, o, h1, h2, h3, _, L, rfl, ⟨rfl, N⟩, hq⟩ := own_rm0 l s _ hw tables_1 i0 i1 i2 w_0 w_1 s.heap s.heap.size (Old.start s) S0 S1 E0 E1 (F1.ne F0 (by decide)) p e ha hc hk s m _ below hf ((Spec.applies_iff_loose hf).mp happ).1 ⟨rfl, State.Warmed39.refl s, rfl⟩ trivial
  refine ⟨n, _, h1, h2, h3, hpost _ _ _ _ _ _ ⟨Cond.after_iff.mpr rfl, Cond.after_iff.mpr (eq_i res_at (Term.int_eval (1)) rfl), trivial⟩ ⟨hq.1, hq.2.1, (hq.2.2.sift fun y hy => Or.inr (N y hy)).mono (by decide) (by decide)⟩⟩
theorem main_1_1 : Claimed_1_1 := own_comes fun _ _ _ _ _ _ h hF => ⟨h.1, hF⟩
theorem main_1_2 : Claimed_1_2 := own_comes fun _ _ _ _ _ _ h hF => ⟨h.2.1, hF⟩
end Jvm.Pilot.@@N@@
namespace Jvm.Pilot.@@N@@
open Jvm Jvm.ClassFile Sem Op Lib Jvm.Free Jvm.Stand Jvm.Pilot.@@N@@.Jvm.D
/-! MADE BY PROGRAM (witnessworld.py) out of the Statement's table words and the real class files: 13 classes; the members and pool entries that the words name. The judged class is class 1, her method 1. -/
namespace start1
open Jvm.ClassFile
def u (s : String) : CpInfo := .utf8 (stringToUtf16 s)
/-- a pool by its gaps: so many unusable entries, then the entry; so many at the end -/
def gap : Nat → List CpInfo → List CpInfo
  | 0, r => r
  | n + 1, r => .unusable :: gap n r
def poolList (es : List (Nat × CpInfo)) (last : Nat) : List CpInfo := es.foldr (fun e r => gap e.1 (e.2 :: r)) (gap last [])
def pool (es : List (Nat × CpInfo)) (last : Nat) : Array CpInfo := ⟨poolList es last⟩
def fileOf (pool : Array CpInfo) (this : Nat) (attrs : Array Attribute := #[]) (ms : Array MethodInfo := #[]) (fl : Nat := 33) (sup : Nat := 0) (ifs : Array Nat := #[]) (fds : Array FieldInfo := #[]) : ClassFile where
  minorVersion := 0
  majorVersion := 65
  constantPool := pool
  accessFlags := fl
  thisClass := this
  superClass := sup
  interfaces := ifs
  fields := fds
  methods := ms
  attributes := attrs
def plain (name : String) (sup : Option ClassId) : Class where
  name := name
  kind := .ordinary
  loader := none
  accessFlags := 33
  super := sup
  interfaces := #[]
  cf := none
  fields := #[]
  methods := #[]
  instanceTypes := #[]
  staticTypes := #[]
  resolved := #[]
  callSites := []
  init := .initialized
  statics := none
  mirror := none

def pool0 : Array CpInfo := pool [(5, u "<init>"), (0, u "()V"), (1, .class_ 10), (1, u "java/lang/Object")] 113

def k0m0 : Method := { name := "<init>", desc := "()V", sig := { parameters := [], returnType := none }, accessFlags := 1, code := none }
/-- java/lang/Object -/
def k0 : Class := { plain "java/lang/Object" none with
  accessFlags := 33
  interfaces := #[]
  cf := some (fileOf pool0 8 #[] #[{ accessFlags := 1, nameIndex := 5, descriptorIndex := 6, attributes := #[] }] 33 0 #[] #[])
  fields := #[]
  methods := #[k0m0]
  instanceTypes := #[]
  staticTypes := #[]
  resolved := Array.replicate 124 none
  statics := none }

def pool1 : Array CpInfo := pool [(2, .class_ 4), (1, u "java/lang/Object"), (0, u "<init>"), (0, u "()V"), (0, .integer 1048575), (0, .methodref 9 10), (0, .class_ 11), (0, .nameAndType 12 13), (0, u "java/lang/Math"), (0, u "max"), (0, u "(II)I"), (0, .integer 4194303), (0, .fieldref 16 17), (0, .class_ 18), (0, .nameAndType 19 20), (0, u "com/example/drawdown/drawdown/terms/SplitRule"), (0, u "ONE_APART_BETTER_ELSE_ONE_ABOVE_WORSE"), (0, u "Lcom/example/drawdown/drawdown/terms/SplitRule;"), (0, .methodref 16 22), (0, .nameAndType 23 24), (0, u "levelInEffect"), (0, u "(III)I"), (0, .fieldref 16 26), (0, .nameAndType 27 20), (0, u "ONE_APART_BETTER_ELSE_ONE_BELOW_BETTER"), (0, .class_ 29), (0, u "com/example/drawdown/drawdown/terms/SplitRuleLevelInEffectPinLaw"), (2, u "law"), (0, u "(III)Z")] 3

def k1m0 : Method := { name := "<init>", desc := "()V", sig := { parameters := [], returnType := none }, accessFlags := 1, code := none }
def k1c1 : Code := { maxStack := 4, maxLocals := 12, code := code, exceptionTable := #[], attributes := #[] }
def k1m1 : Method := { name := "law", desc := "(III)Z", sig := { parameters := [.int, .int, .int], returnType := some .boolean }, accessFlags := 9, code := some k1c1 }
/-- com/example/drawdown/drawdown/terms/SplitRuleLevelInEffectPinLaw -/
def k1 : Class := { plain "com/example/drawdown/drawdown/terms/SplitRuleLevelInEffectPinLaw" (some 0) with
  accessFlags := 49
  interfaces := #[]
  cf := some (fileOf pool1 28 #[] #[{ accessFlags := 1, nameIndex := 5, descriptorIndex := 6, attributes := #[] }, { accessFlags := 9, nameIndex := 32, descriptorIndex := 33, attributes := #[] }] 49 2 #[] #[])
  fields := #[]
  methods := #[k1m0, k1m1]
  instanceTypes := #[]
  staticTypes := #[]
  resolved := Array.replicate 37 none
  statics := none }

def pool2 : Array CpInfo := pool [(1, .class_ 2), (0, u "java/lang/constant/Constable"), (0, .class_ 4), (0, u "java/lang/Object")] 6

/-- java/lang/constant/Constable -/
def k2 : Class := { plain "java/lang/constant/Constable" (some 0) with
  accessFlags := 1537
  interfaces := #[]
  cf := some (fileOf pool2 1 #[] #[] 1537 3 #[] #[])
  fields := #[]
  methods := #[]
  instanceTypes := #[]
  staticTypes := #[]
  resolved := Array.replicate 11 none
  statics := none }

def pool3 : Array CpInfo := pool [(1, .class_ 2), (0, u "java/lang/Comparable"), (0, .class_ 4), (0, u "java/lang/Object")] 7

/-- java/lang/Comparable -/
def k3 : Class := { plain "java/lang/Comparable" (some 0) with
  accessFlags := 1537
  interfaces := #[]
  cf := some (fileOf pool3 1 #[] #[] 1537 3 #[] #[])
  fields := #[]
  methods := #[]
  instanceTypes := #[]
  staticTypes := #[]
  resolved := Array.replicate 12 none
  statics := none }

def pool4 : Array CpInfo := pool [(1, .class_ 2), (0, u "java/io/Serializable"), (0, .class_ 4), (0, u "java/lang/Object")] 2

/-- java/io/Serializable -/
def k4 : Class := { plain "java/io/Serializable" (some 0) with
  accessFlags := 1537
  interfaces := #[]
  cf := some (fileOf pool4 1 #[] #[] 1537 3 #[] #[])
  fields := #[]
  methods := #[]
  instanceTypes := #[]
  staticTypes := #[]
  resolved := Array.replicate 7 none
  statics := none }

def pool5 : Array CpInfo := pool [(2, .class_ 4), (1, u "java/lang/Enum"), (0, u "name"), (0, u "Ljava/lang/String;"), (2, u "ordinal"), (0, u "I"), (1, .class_ 14), (1, u "java/lang/Object"), (4, u "hash"), (86, .class_ 108), (1, u "java/lang/Enum$EnumDesc"), (2, .class_ 112), (0, u "java/lang/constant/Constable"), (0, .class_ 114), (0, u "java/lang/Comparable"), (0, .class_ 116), (0, u "java/io/Serializable")] 87

/-- java/lang/Enum -/
def k5 : Class := { plain "java/lang/Enum" (some 0) with
  accessFlags := 1057
  interfaces := #[2, 3, 4]
  cf := some (fileOf pool5 2 #[.nestMembers #[106]] #[] 1057 12 #[111, 113, 115] #[{ accessFlags := 18, nameIndex := 5, descriptorIndex := 6, attributes := #[] }, { accessFlags := 18, nameIndex := 9, descriptorIndex := 10, attributes := #[] }, { accessFlags := 2, nameIndex := 19, descriptorIndex := 10, attributes := #[] }])
  fields := #[{ name := "name", type := (.object "java/lang/String"), accessFlags := 18, slot := 0, constantValue := 0 }, { name := "ordinal", type := .int, accessFlags := 18, slot := 1, constantValue := 0 }, { name := "hash", type := .int, accessFlags := 2, slot := 2, constantValue := 0 }]
  methods := #[]
  instanceTypes := #[(.object "java/lang/String"), .int, .int]
  staticTypes := #[]
  resolved := Array.replicate 204 none
  statics := none }

def pool6 : Array CpInfo := pool [(1, .class_ 2), (0, u "com/example/drawdown/drawdown/terms/SplitRule"), (0, .fieldref 1 4), (0, .nameAndType 5 6), (0, u "ONE_APART_BETTER_ELSE_ONE_ABOVE_WORSE"), (0, u "Lcom/example/drawdown/drawdown/terms/SplitRule;"), (2, u "ONE_APART_BETTER_ELSE_ONE_BELOW_BETTER"), (2, u "$VALUES"), (0, u "[Lcom/example/drawdown/drawdown/terms/SplitRule;"), (6, .class_ 22), (1, u "java/lang/Enum"), (8, u "name"), (0, u "Ljava/lang/String;"), (22, u "levelInEffect"), (0, u "(III)I")] 6

def k6c0 : Code := { maxStack := 2, maxLocals := 5, code := prog_84_method_5_code, exceptionTable := #[], attributes := #[] }
def k6m0 : Method := { name := "levelInEffect", desc := "(III)I", sig := { parameters := [.int, .int, .int], returnType := some .int }, accessFlags := 0, code := some k6c0 }
/-- com/example/drawdown/drawdown/terms/SplitRule -/
def k6 : Class := { plain "com/example/drawdown/drawdown/terms/SplitRule" (some 5) with
  accessFlags := 16433
  interfaces := #[]
  cf := some (fileOf pool6 1 #[] #[{ accessFlags := 0, nameIndex := 55, descriptorIndex := 56, attributes := #[] }] 16433 20 #[] #[{ accessFlags := 16409, nameIndex := 5, descriptorIndex := 6, attributes := #[] }, { accessFlags := 16409, nameIndex := 9, descriptorIndex := 6, attributes := #[] }, { accessFlags := 18, nameIndex := 31, descriptorIndex := 32, attributes := #[] }, { accessFlags := 4122, nameIndex := 12, descriptorIndex := 13, attributes := #[] }])
  fields := #[{ name := "ONE_APART_BETTER_ELSE_ONE_ABOVE_WORSE", type := (.object "com/example/drawdown/drawdown/terms/SplitRule"), accessFlags := 16409, slot := 0, constantValue := 0 }, { name := "ONE_APART_BETTER_ELSE_ONE_BELOW_BETTER", type := (.object "com/example/drawdown/drawdown/terms/SplitRule"), accessFlags := 16409, slot := 1, constantValue := 0 }, { name := "name", type := (.object "java/lang/String"), accessFlags := 18, slot := 3, constantValue := 0 }, { name := "$VALUES", type := (.array (.object "com/example/drawdown/drawdown/terms/SplitRule")), accessFlags := 4122, slot := 2, constantValue := 0 }]
  methods := #[k6m0]
  instanceTypes := #[(.object "java/lang/String"), .int, .int, (.object "java/lang/String")]
  staticTypes := #[(.object "com/example/drawdown/drawdown/terms/SplitRule"), (.object "com/example/drawdown/drawdown/terms/SplitRule"), (.array (.object "com/example/drawdown/drawdown/terms/SplitRule"))]
  resolved := Array.replicate 63 none
  statics := some 0 }

def pool7 : Array CpInfo := pool [(1, .class_ 2), (0, u "java/lang/Math"), (1, .class_ 6), (1, u "java/lang/Object"), (0, u "<init>"), (0, u "()V"), (89, .class_ 100), (1, u "java/lang/Math$RandomNumberGeneratorHolder"), (71, u "negativeZeroFloatBits"), (0, u "J"), (2, u "negativeZeroDoubleBits"), (21, u "max"), (46, u "$assertionsDisabled"), (0, u "Z"), (88, u "(II)I"), (2, u "twoToTheDoubleScaleDown"), (0, u "D"), (4, u "twoToTheDoubleScaleUp"), (9, u "E"), (3, u "PI"), (2, u "TAU"), (2, u "DEGREES_TO_RADIANS"), (0, u "RADIANS_TO_DEGREES")] 94

def k7m0 : Method := { name := "<init>", desc := "()V", sig := { parameters := [], returnType := none }, accessFlags := 2, code := none }
def k7c1 : Code := { maxStack := 2, maxLocals := 2, code := jdk_29_method_65_code, exceptionTable := #[], attributes := #[] }
def k7m1 : Method := { name := "max", desc := "(II)I", sig := { parameters := [.int, .int], returnType := some .int }, accessFlags := 9, code := some k7c1 }
/-- java/lang/Math -/
def k7 : Class := { plain "java/lang/Math" (some 0) with
  accessFlags := 49
  interfaces := #[]
  cf := some (fileOf pool7 1 #[.nestMembers #[98]] #[{ accessFlags := 2, nameIndex := 7, descriptorIndex := 8, attributes := #[] }, { accessFlags := 9, nameIndex := 198, descriptorIndex := 335, attributes := #[] }] 49 4 #[] #[{ accessFlags := 25, nameIndex := 354, descriptorIndex := 339, attributes := #[] }, { accessFlags := 25, nameIndex := 358, descriptorIndex := 339, attributes := #[] }, { accessFlags := 25, nameIndex := 361, descriptorIndex := 339, attributes := #[] }, { accessFlags := 26, nameIndex := 364, descriptorIndex := 339, attributes := #[] }, { accessFlags := 26, nameIndex := 365, descriptorIndex := 339, attributes := #[] }, { accessFlags := 26, nameIndex := 172, descriptorIndex := 173, attributes := #[] }, { accessFlags := 26, nameIndex := 176, descriptorIndex := 173, attributes := #[] }, { accessFlags := 8, nameIndex := 344, descriptorIndex := 339, attributes := #[] }, { accessFlags := 8, nameIndex := 338, descriptorIndex := 339, attributes := #[] }, { accessFlags := 4120, nameIndex := 245, descriptorIndex := 246, attributes := #[] }])
  fields := #[{ name := "E", type := .double, accessFlags := 25, slot := 0, constantValue := 0 }, { name := "PI", type := .double, accessFlags := 25, slot := 1, constantValue := 0 }, { name := "TAU", type := .double, accessFlags := 25, slot := 2, constantValue := 0 }, { name := "DEGREES_TO_RADIANS", type := .double, accessFlags := 26, slot := 3, constantValue := 0 }, { name := "RADIANS_TO_DEGREES", type := .double, accessFlags := 26, slot := 4, constantValue := 0 }, { name := "negativeZeroFloatBits", type := .long, accessFlags := 26, slot := 5, constantValue := 0 }, { name := "negativeZeroDoubleBits", type := .long, accessFlags := 26, slot := 6, constantValue := 0 }, { name := "twoToTheDoubleScaleUp", type := .double, accessFlags := 8, slot := 7, constantValue := 0 }, { name := "twoToTheDoubleScaleDown", type := .double, accessFlags := 8, slot := 8, constantValue := 0 }, { name := "$assertionsDisabled", type := .boolean, accessFlags := 4120, slot := 9, constantValue := 0 }]
  methods := #[k7m0, k7m1]
  instanceTypes := #[]
  staticTypes := #[.double, .double, .double, .double, .double, .long, .long, .double, .double, .boolean]
  resolved := Array.replicate 460 none
  statics := none }

def pool8 : Array CpInfo := pool [(1, u "java/lang/Cloneable"), (0, .class_ 1), (0, u "java/lang/Object"), (0, .class_ 3)] 3

/-- java/lang/Cloneable -/
def k8 : Class := { plain "java/lang/Cloneable" (some 0) with
  accessFlags := 1537
  interfaces := #[]
  cf := some (fileOf pool8 2 #[] #[] 1537 4 #[] #[])
  fields := #[]
  methods := #[]
  instanceTypes := #[]
  staticTypes := #[]
  resolved := Array.replicate 8 none
  statics := none }

/-- the primitive byte -/
def k9 : Class := { plain "byte" none with kind := .primitive 'B', accessFlags := 0x411 }
/-- [B -/
def k10 : Class := { plain "[B" (some 0) with kind := .array 9 .byte, interfaces := #[8, 4], accessFlags := 1041 }

/-- the primitive int -/
def k11 : Class := { plain "int" none with kind := .primitive 'I', accessFlags := 0x411 }
/-- [I -/
def k12 : Class := { plain "[I" (some 0) with kind := .array 11 .int, interfaces := #[8, 4], accessFlags := 1041 }

def heap : Heap := #[{ cls := 6, slots := #[.ref 1, .ref 2, .null], vm := .statics 6 },
  { cls := 6, slots := #[.null, .int 0, .int 0, .null], vm := .none },
  { cls := 6, slots := #[.null, .int 1, .int 0, .null], vm := .none }]
def classes : Array Class := #[k0, k1, k2, k3, k4, k5, k6, k7, k8, k9, k10, k11, k12]
def interned : List (Array UInt16 × Addr) := []
def slotsUsed : Nat := 11
def theMethod : MethodId := ⟨1, 1⟩
def args0 : Array Value := #[.int 5, .int 6, .int 7]
def aboutOver (below : List Frame) : State where
  vm := { classes := classes, interned := interned.toArray }
  heap := heap
  slotsUsed := slotsUsed
  threads := #[{ frames := .invoking theMethod args0 :: below }]
def below0 : List Frame := [.native { method := ⟨0, 0⟩, args := #[] }]
def about1 : State := aboutOver below0
def p0 : Program := .bare "" "" ""
def e0 : Env := launch0.env 0 0 0
theorem w_frames : about1.frames = Frame.invoking theMethod args0 :: below0 := rfl
set_option maxRecDepth 65536 in
theorem w_args : argsFit about1.vm theMethod args0 = true := by decide +kernel
set_option maxRecDepth 65536 in
theorem w_heap : heapFits about1 = true := by decide +kernel
set_option maxRecDepth 65536 in
theorem w_runnable : about1.curStatus? = some .runnable := by decide +kernel
set_option maxRecDepth 65536 in
theorem w_alone : about1.alone = true := by decide +kernel
set_option maxRecDepth 65536 in
theorem w_named : about1.methodNamed? x = some theMethod := by decide +kernel
set_option maxRecDepth 65536 in
theorem w_hears : about1.hears theMethod below0 = true := by decide +kernel
set_option maxRecDepth 65536 in
theorem w_ripe : about1.ripe theMethod args0 below0 = true := by decide +kernel
theorem w_running : about1.status = .running := rfl
set_option maxRecDepth 65536 in
theorem w_room : about1.hasRoom e0.platform room_1 = true :=
  launch0.hasRoom_least _ room_1 (by decide +kernel) (by decide +kernel) (by decide +kernel) (by decide +kernel) (by decide +kernel) (by decide +kernel)
theorem allAtoms_all (ts : List Jvm.Cond) (a : Array Jvm.Value) (st : Jvm.State) : (allAtoms ts).before a st = ts.all (fun c => c.before a st) := by
  induction ts with
  | nil => rfl
  | cons c t ih =>
    show (Jvm.Cond.and c (allAtoms t)).before a st = _
    rw [Jvm.Cond.before_and, ih, List.all_cons]
def words1 : List Jvm.Cond := Jvm.Cond.code x code maxLocals ret :: tables_1
/-- a 'code' word, met by the world's own term for the bytes: nothing is compared byte by byte -/
theorem code_word {y : MethodName} {bytes : ByteArray} {mx : Nat} {rt : Option FieldType} {a : Array Value} {s : State} {m : MethodId} {meth : Method} {c : Code} (h1 : s.methodNamed? y = some m) (h2 : s.vm.method? m = some meth) (h3 : meth.code = some c) (h4 : c.code = bytes)
    (h5 : (c.maxLocals == mx && c.exceptionTable.isEmpty && decide (c.maxStack ≤ mostOperands) && decide (meth.sig.returnType = rt) && !meth.locks && decide (parseMethodDescriptor y.desc = some meth.sig)) = true) : (Jvm.Cond.code y bytes mx rt).before a s = true := by
  simp only [Bool.and_eq_true, beq_iff_eq, Bool.not_eq_true', decide_eq_true_eq] at h5
  obtain ⟨⟨⟨⟨⟨g1, g2⟩, g3⟩, g4⟩, g5⟩, g6⟩ := h5
  simp [Cond.before, Cond.holds, Cond.value, h1, h2, h3, h4, g1, g2, g3, g4, g5, g6]
def isCode : Jvm.Cond → Bool
  | .code _ _ _ _ => true
  | _ => false
theorem all_split {L : List Jvm.Cond} {P : Jvm.Cond → Bool} (h1 : L.all (fun c => isCode c || P c) = true) (h2 : ∀ c ∈ L.filter isCode, P c = true) : L.all P = true := by
  refine List.all_eq_true.mpr fun c hc => ?_
  have h := List.all_eq_true.mp h1 c hc
  rcases Bool.eq_false_or_eq_true (isCode c) with hi | hi
  · exact h2 c (List.mem_filter.mpr ⟨hc, hi⟩)
  · simpa [hi] using h
set_option maxRecDepth 65536 in
theorem w_c0 : (Jvm.Cond.code x code maxLocals ret).before args0 about1 = true := code_word (m := ⟨1, 1⟩) (meth := k1m1) (c := k1c1) (by decide +kernel) rfl rfl rfl (by decide +kernel)
set_option maxRecDepth 65536 in
theorem w_c1 : (Jvm.Cond.code ({ cls := "com/example/drawdown/drawdown/terms/SplitRule", name := "levelInEffect", desc := "(III)I" } : Jvm.MethodName) prog_84_method_5_code (5 : Nat) (Option.some Jvm.ClassFile.FieldType.int)).before args0 about1 = true := code_word (m := ⟨6, 0⟩) (meth := k6m0) (c := k6c0) (by decide +kernel) rfl rfl rfl (by decide +kernel)
set_option maxRecDepth 65536 in
theorem w_c2 : (Jvm.Cond.code ({ cls := "java/lang/Math", name := "max", desc := "(II)I" } : Jvm.MethodName) jdk_29_method_65_code (2 : Nat) (Option.some Jvm.ClassFile.FieldType.int)).before args0 about1 = true := code_word (m := ⟨7, 1⟩) (meth := k7m1) (c := k7c1) (by decide +kernel) rfl rfl rfl (by decide +kernel)
def codes1 : List Jvm.Cond := [Jvm.Cond.code x code maxLocals ret, Jvm.Cond.code ({ cls := "com/example/drawdown/drawdown/terms/SplitRule", name := "levelInEffect", desc := "(III)I" } : Jvm.MethodName) prog_84_method_5_code (5 : Nat) (Option.some Jvm.ClassFile.FieldType.int), Jvm.Cond.code ({ cls := "java/lang/Math", name := "max", desc := "(II)I" } : Jvm.MethodName) jdk_29_method_65_code (2 : Nat) (Option.some Jvm.ClassFile.FieldType.int)]
set_option maxRecDepth 65536 in
theorem codes_eq : words1.filter isCode = codes1 := rfl
theorem w_codes : ∀ c ∈ words1.filter isCode, c.before args0 about1 = true := by
  rw [codes_eq]
  intro c hc
  simp only [codes1, List.mem_cons, List.not_mem_nil, or_false] at hc
  rcases hc with rfl | rfl | rfl
  · exact w_c0
  · exact w_c1
  · exact w_c2
set_option maxRecDepth 65536 in
theorem w_t1 : words1.all (fun c => isCode c || c.before args0 about1) = true := by decide +kernel
theorem w_tables : (allAtoms (Jvm.Cond.code x code maxLocals ret :: tables_1)).before args0 about1 = true := by
  rw [allAtoms_all]
  show words1.all (fun c => c.before args0 about1) = true
  refine all_split ?_ w_codes
  rw [w_t1]
set_option maxRecDepth 65536 in
theorem w_case : (Jvm.Cond.and given_1 narrow_1).before args0 about1 = true := by decide +kernel
theorem w_applies : (headSpec (Jvm.Cond.code x code maxLocals ret :: tables_1) room_1).applies x e0.platform about1 = true :=
  (Spec.applies_iff w_frames).mpr ⟨w_running, w_runnable, w_alone, w_named, w_hears, w_ripe, w_room, w_tables⟩
theorem atStart : AtStart classFile x code maxLocals ret World_1 tables_1 room_1 Calls_1 rest_1 Pre_1 launch0 p0 e0 about1 theMethod args0 below0 :=
  ⟨lists_1, trivial, launch0.admits_env _ _ _, launch0.least_env, fairChoices_fair.cas, fairChoices_fair.clock, w_frames, w_args, w_heap, w_applies, trivial, trivial, w_case⟩
end start1
theorem witness_1 : WitnessClaimed_1 := ⟨start1.p0, start1.e0, start1.about1, start1.theMethod, start1.args0, start1.below0, start1.atStart⟩
end Jvm.Pilot.@@N@@
