import JvmDerived
import JvmDerived.Pilot.@@N@@Statement
import JvmDerived.Pilot.@@N@@Code
set_option linter.unusedVariables false
set_option linter.unusedSimpArgs false
namespace Jvm.Pilot.@@N@@
open Jvm Jvm.ClassFile Sem Op Lib Jvm.Free Jvm.Stand Jvm.LawKit Jvm.RoadKit Bundle Jvm.Pilot.@@N@@.Jvm.D
section Own
variable {p : Program} {l : Launch} {e : Env} {R : Room} {s : State} {m : MethodId} {args : Array Value} {below : List Frame} {meth : Method} {c : Code} {T T' : State} {locs : List Loc} {cells slots C N : Nat} {Z : State} {h h' : Heap} {n0 : Nat}
/-- from the frame g over T the run comes to a state of which P holds -/
def own_Rch (p : Program) (e : Env) (below : List Frame) (P : State → Prop) (T : State) (g : JFrame) : Prop := ∃ U, Steps p.tables e below (T.setTop g) U ∧ P U
/-- the body has ended as Q says -/
def own_End (s : State) (below : List Frame) (Q : Option Value → Heap → List Loc → Prop) (C N : Nat) (U : State) : Prop := U.status = .running ∧ ∃ v L, Ended U below (.returned v) ∧ Q v U.heap L ∧ FrameEnd s (.returned v) U L C N
theorem own_st {P : State → Prop} {g g' : JFrame} (h : ∀ t, Steps p.tables e below (T'.setTop g') t → Steps p.tables e below (T.setTop g) t) (k : own_Rch p e below P T' g') : own_Rch p e below P T g := by
  obtain ⟨U, h1, h2⟩ := k
  exact ⟨U, h U h1, h2⟩
theorem own_close {Q : Option Value → Heap → List Loc → Prop} {g : JFrame} (k : own_Rch p e below (own_End s below Q C N) T g) : ∃ U o, Steps p.tables e below (T.setTop g) U ∧ U.status = .running ∧ Ended U below o ∧ ∃ v L, o = .returned v ∧ Q v U.heap L ∧ FrameEnd s o U L C N := by
  obtain ⟨U, h1, h2, v, L, h3, h4, h5⟩ := k
  exact ⟨U, _, h1, h2, h3, v, L, rfl, h4, h5⟩
theorem own_retN {Q : Option Value → Heap → List Loc → Prop} {pc : Nat} {Ls : Array Slot} {z : Int32} {t : FieldType} {rest : List Value} (ht : t = .boolean ∨ t = .byte ∨ t = .char ∨ t = .short) (X : Stand p l e R s m args below meth c T locs cells slots) (hx : p.tables.exec = Jvm.exec) (hlk : meth.locks = false) (hret : meth.sig.returnType = some t) (hd : decode c.code pc = .ok (.ireturn, 1)) (hc : cells ≤ C) (hn : slots ≤ N)
    (hq : Q (some (.int (nar t z))) T.heap locs) : own_Rch p e below (own_End s below Q C N) T (mkF m pc Ls (.int z :: rest)) := by
  obtain ⟨fs, hr, hrun, hended, hW, hsame⟩ := X.leave (v := some (.int (nar t z))) (fun h => by rw [hret] at h; cases h) hlk
  exact ⟨_, retN X hx hret ht hd hr, hrun, _, _, hended, hq, ⟨_, rfl⟩, hW, hsame.mono hc hn⟩
theorem own_retI {Q : Option Value → Heap → List Loc → Prop} {pc : Nat} {Ls : Array Slot} {z : Int32} {rest : List Value} (X : Stand p l e R s m args below meth c T locs cells slots) (hx : p.tables.exec = Jvm.exec) (hlk : meth.locks = false) (hret : meth.sig.returnType = some .int) (hd : decode c.code pc = .ok (.ireturn, 1)) (hc : cells ≤ C) (hn : slots ≤ N)
    (hq : Q (some (.int z)) T.heap locs) : own_Rch p e below (own_End s below Q C N) T (mkF m pc Ls (.int z :: rest)) := by
  obtain ⟨fs, hr, hrun, hended, hW, hsame⟩ := X.leave (v := some (.int z)) (fun h => by rw [hret] at h; cases h) hlk
  exact ⟨_, retOut X hx hret rfl (Or.inl ⟨rfl, Or.inl rfl, z, rfl⟩) hd hr, hrun, _, _, hended, hq, ⟨_, rfl⟩, hW, hsame.mono hc hn⟩
theorem own_retL {Q : Option Value → Heap → List Loc → Prop} {pc : Nat} {Ls : Array Slot} {z : Int64} {rest : List Value} (X : Stand p l e R s m args below meth c T locs cells slots) (hx : p.tables.exec = Jvm.exec) (hlk : meth.locks = false) (hret : meth.sig.returnType = some .long) (hd : decode c.code pc = .ok (.lreturn, 1)) (hc : cells ≤ C) (hn : slots ≤ N)
    (hq : Q (some (.long z)) T.heap locs) : own_Rch p e below (own_End s below Q C N) T (mkF m pc Ls (.long z :: rest)) := by
  obtain ⟨fs, hr, hrun, hended, hW, hsame⟩ := X.leave (v := some (.long z)) (fun h => by rw [hret] at h; cases h) hlk
  exact ⟨_, retOut X hx hret rfl (Or.inr (Or.inl ⟨rfl, rfl, z, rfl⟩)) hd hr, hrun, _, _, hended, hq, ⟨_, rfl⟩, hW, hsame.mono hc hn⟩
theorem own_narref {t : FieldType} {w : Value} (ht : t.isReference = true) : narrow t w = w := by cases t <;> first | rfl | (cases ht; done)
theorem own_retA {Q : Option Value → Heap → List Loc → Prop} {pc : Nat} {Ls : Array Slot} {w : Value} {t : FieldType} {rest : List Value} (ht : t.isReference = true) (hw : w.isRef = true) (X : Stand p l e R s m args below meth c T locs cells slots) (hx : p.tables.exec = Jvm.exec) (hlk : meth.locks = false) (hret : meth.sig.returnType = some t) (hd : decode c.code pc = .ok (.areturn, 1)) (hc : cells ≤ C) (hn : slots ≤ N)
    (hq : Q (some w) T.heap locs) : own_Rch p e below (own_End s below Q C N) T (mkF m pc Ls (w :: rest)) := by
  obtain ⟨fs, hr, hrun, hended, hW, hsame⟩ := X.leave (v := some w) (fun h => by rw [hret] at h; cases h) hlk
  exact ⟨_, retOut X hx hret (own_narref ht) (Or.inr (Or.inr (Or.inr (Or.inr ⟨rfl, ht, hw⟩)))) hd hr, hrun, _, _, hended, hq, ⟨_, rfl⟩, hW, hsame.mono hc hn⟩
theorem own_retV {Q : Option Value → Heap → List Loc → Prop} {pc : Nat} {Ls : Array Slot} (X : Stand p l e R s m args below meth c T locs cells slots) (hx : p.tables.exec = Jvm.exec) (hlk : meth.locks = false) (hret : meth.sig.returnType = none) (hd : decode c.code pc = .ok (.return_, 1)) (hc : cells ≤ C) (hn : slots ≤ N)
    (hq : Q none T.heap locs) : own_Rch p e below (own_End s below Q C N) T (mkF m pc Ls []) := by
  obtain ⟨fs, hr, hrun, hended, hW, hsame⟩ := X.leave (v := none) (fun _ => rfl) hlk
  exact ⟨_, X.returnOut hx hret hd hr, hrun, _, _, hended, hq, ⟨_, rfl⟩, hW, hsame.mono hc hn⟩
theorem own_psel {y : MethodName} {n : Nat} (hins : (Jvm.Cond.instantiable y.cls n).before args s = true) (hpriv : (Jvm.Cond.privateMethod y).before args s = true) (hinst : (Jvm.Cond.instanceMethod y).before args s = true) (hy : y.cls ≠ "java/lang/invoke/MethodHandle" ∧ y.cls ≠ "java/lang/invoke/VarHandle" := by decide) : (Jvm.Cond.selects y.cls y y).before args s = true := by
  obtain ⟨c, k, hc, hk, -, hniab, -, -⟩ := Cond.instantiable_spec hins
  have hni : k.isInterface = false := (Bool.or_eq_false_iff.mp hniab).1
  obtain ⟨mk, methM, hnamed, hmethM, -, -⟩ := Cond.instanceMethod_spec hinst
  have hfound : s.methodFound? y.cls y.name y.desc = some mk := State.methodFound?_of_named hnamed hy
  have hcls : mk.cls = c := Option.some.inj ((findClass_of_methodNamed hnamed).symm.trans hc)
  have hsel : selectMethod {} s.vm c mk = .method mk := selectMethod_private hmethM (Cond.privateMethod_at hpriv mk methM hnamed hmethM)
  simp only [Cond.before, Cond.holds, Cond.value, hc, hfound, hnamed, hsel, hcls, hk]
  simp; exact hni
theorem own_since (s : State) : s.Since s.vm 0 := (State.WarmedH.refl s).since 0
def own_EndW (s : State) (below : List Frame) (Q : Option Value → Heap → List Loc → Prop) (C N : Nat) (U : State) : Prop := U.status = .running ∧ ∃ v L, Ended U below (.returned v) ∧ Q v U.heap L ∧ ReturnedEndW s (.returned v) U L C N
theorem own_closeW {Q : Option Value → Heap → List Loc → Prop} {g : JFrame} (k : own_Rch p e below (own_EndW s below Q C N) T g) : ∃ U o, Steps p.tables e below (T.setTop g) U ∧ U.status = .running ∧ Ended U below o ∧ ∃ v L, o = .returned v ∧ Q v U.heap L ∧ ReturnedEndW s o U L C N := by
  obtain ⟨U, h1, h2, v, L, h3, h4, h5⟩ := k
  exact ⟨U, _, h1, h2, h3, v, L, rfl, h4, h5⟩
theorem own_retNW {vm0 : Vm} {k0 : Nat} {Q : Option Value → Heap → List Loc → Prop} {pc : Nat} {Ls : Array Slot} {z : Int32} {t : FieldType} {rest : List Value} (ht : t = .boolean ∨ t = .byte ∨ t = .char ∨ t = .short) (hS : s.Since vm0 k0) (hk : k0 ≤ T.heap.size) (X : Stand p l e R (s.setVm vm0) m args below meth c T locs cells slots) (hx : p.tables.exec = Jvm.exec) (hlk : meth.locks = false) (hret : meth.sig.returnType = some t) (hd : decode c.code pc = .ok (.ireturn, 1)) (hc : cells ≤ C) (hn : slots ≤ N)
    (hq : Q (some (.int (nar t z))) T.heap locs) : own_Rch p e below (own_EndW s below Q C N) T (mkF m pc Ls (.int z :: rest)) := by
  obtain ⟨fs, hr, hrun, hended, h1, h2, h3, h4⟩ := X.leaveW hS hk (v := some (.int (nar t z))) (fun h => by rw [hret] at h; cases h) hlk
  exact ⟨_, retN X hx hret ht hd hr, hrun, _, _, hended, hq, h1, h2, h3, h4.mono hc hn⟩
theorem own_retIW {vm0 : Vm} {k0 : Nat} {Q : Option Value → Heap → List Loc → Prop} {pc : Nat} {Ls : Array Slot} {z : Int32} {rest : List Value} (hS : s.Since vm0 k0) (hk : k0 ≤ T.heap.size) (X : Stand p l e R (s.setVm vm0) m args below meth c T locs cells slots) (hx : p.tables.exec = Jvm.exec) (hlk : meth.locks = false) (hret : meth.sig.returnType = some .int) (hd : decode c.code pc = .ok (.ireturn, 1)) (hc : cells ≤ C) (hn : slots ≤ N)
    (hq : Q (some (.int z)) T.heap locs) : own_Rch p e below (own_EndW s below Q C N) T (mkF m pc Ls (.int z :: rest)) := by
  obtain ⟨fs, hr, hrun, hended, h1, h2, h3, h4⟩ := X.leaveW hS hk (v := some (.int z)) (fun h => by rw [hret] at h; cases h) hlk
  exact ⟨_, retOut X hx hret rfl (Or.inl ⟨rfl, Or.inl rfl, z, rfl⟩) hd hr, hrun, _, _, hended, hq, h1, h2, h3, h4.mono hc hn⟩
theorem own_retAW {vm0 : Vm} {k0 : Nat} {Q : Option Value → Heap → List Loc → Prop} {pc : Nat} {Ls : Array Slot} {w : Value} {t : FieldType} {rest : List Value} (ht : t.isReference = true) (hw : w.isRef = true) (hS : s.Since vm0 k0) (hk : k0 ≤ T.heap.size) (X : Stand p l e R (s.setVm vm0) m args below meth c T locs cells slots) (hx : p.tables.exec = Jvm.exec) (hlk : meth.locks = false) (hret : meth.sig.returnType = some t) (hd : decode c.code pc = .ok (.areturn, 1)) (hc : cells ≤ C) (hn : slots ≤ N)
    (hq : Q (some w) T.heap locs) : own_Rch p e below (own_EndW s below Q C N) T (mkF m pc Ls (w :: rest)) := by
  obtain ⟨fs, hr, hrun, hended, h1, h2, h3, h4⟩ := X.leaveW hS hk (v := some w) (fun h => by rw [hret] at h; cases h) hlk
  exact ⟨_, retOut X hx hret (own_narref ht) (Or.inr (Or.inr (Or.inr (Or.inr ⟨rfl, ht, hw⟩)))) hd hr, hrun, _, _, hended, hq, h1, h2, h3, h4.mono hc hn⟩
theorem own_retVW {vm0 : Vm} {k0 : Nat} {Q : Option Value → Heap → List Loc → Prop} {pc : Nat} {Ls : Array Slot} (hS : s.Since vm0 k0) (hk : k0 ≤ T.heap.size) (X : Stand p l e R (s.setVm vm0) m args below meth c T locs cells slots) (hx : p.tables.exec = Jvm.exec) (hlk : meth.locks = false) (hret : meth.sig.returnType = none) (hd : decode c.code pc = .ok (.return_, 1)) (hc : cells ≤ C) (hn : slots ≤ N)
    (hq : Q none T.heap locs) : own_Rch p e below (own_EndW s below Q C N) T (mkF m pc Ls []) := by
  obtain ⟨fs, hr, hrun, hended, h1, h2, h3, h4⟩ := X.leaveW hS hk (v := none) (fun _ => rfl) hlk
  exact ⟨_, X.returnOut hx hret hd hr, hrun, _, _, hended, hq, h1, h2, h3, h4.mono hc hn⟩
theorem own_old_le (O : Old Z n0 h) : n0 ≤ h.size := O.1 ▸ O.2.1
end Own
theorem own_i2l_le (x : Int32) : ¬ ((9223372036 : Int64) < x.toInt64) := by
  rw [Int64.lt_iff_toInt_lt, c_i2l]
  have := rng32 x
  have e : (9223372036 : Int64).toInt = 9223372036 := by decide
  omega
theorem own_i2l_ge (x : Int32) : ¬ (x.toInt64 < (-(9223372036 : Int64))) := by
  rw [Int64.lt_iff_toInt_lt, c_i2l]
  have := rng32 x
  have e : (-(9223372036 : Int64)).toInt = -9223372036 := by decide
  omega
theorem own_cancel (a b : Int64) : a + b - a = b := by
  apply Int64.toInt_inj.mp
  have h1 := c_lsub (a + b) a
  have h2 := c_ladd a b
  have h3 := rng64 b
  have h4 := rng64 (a + b - a)
  omega
theorem own_sub3 (t f n : Int64) : t - (f + n) = (t - f) - n := by
  apply Int64.toInt_inj.mp
  have h1 := c_lsub t (f + n)
  have h2 := c_ladd f n
  have h3 := c_lsub (t - f) n
  have h4 := c_lsub t f
  have h5 := rng64 (t - (f + n))
  have h6 := rng64 (t - f - n)
  omega
def own_over (t u : Int64) : Int32 := if t - u < 0 then 0 else 1
def own_meas (t f u : Int64) : Int32 := if t - f < 0 then 0 else if t - u < 0 then 1 else 0
theorem own_len (p : Int32) : 0 ≤ ((p &&& (2147483647 : Int32)).toInt64 * (1000000000 : Int64)).toInt ∧ ((p &&& (2147483647 : Int32)).toInt64 * (1000000000 : Int64)).toInt ≤ 2147483647000000000 := by
  have h2 := c_and p (2147483647 : Int32) (by decide)
  have h3 : (1000000000 : Int64).toInt = 1000000000 := by decide
  have h4 : (2147483647 : Int32).toInt = 2147483647 := by decide
  rw [Int64.toInt_mul, c_i2l, h3, Int.bmod_eq_of_le (by omega) (by omega)]
  omega
theorem own_len1 (p : Int32) : (p &&& (2147483647 : Int32)).toInt64 * (1000000000 : Int64) + (1 : Int64) ≠ 0 := fun q => by
  have h1 := own_len p
  have h2 := c_ladd ((p &&& (2147483647 : Int32)).toInt64 * (1000000000 : Int64)) 1
  rw [q] at h2
  have h3 : (1 : Int64).toInt = 1 := by decide
  have h4 : (0 : Int64).toInt = 0 := by decide
  omega
theorem own_meas_lt {t f n : Int64} (h : t - f < 0) : own_meas t f (f + n) = 0 := by simp [own_meas, h]
theorem own_meas_in {t f n : Int64} (h1 : ¬ t - f < 0) (h2 : t - f < n) : own_meas t f (f + n) = 1 := by
  have e : t - (f + n) < 0 := by
    rw [own_sub3, Int64.lt_iff_toInt_lt]
    rw [Int64.lt_iff_toInt_lt] at h1 h2
    have h3 := c_lsub (t - f) n
    have h4 := rng64 (t - f - n)
    have h5 := rng64 (t - f)
    have h6 := rng64 n
    have h7 : (0 : Int64).toInt = 0 := by decide
    omega
  simp [own_meas, h1, e]
theorem own_meas_out {t f n : Int64} (hn : 0 ≤ n.toInt) (h1 : ¬ t - f < 0) (h2 : ¬ t - f < n) : own_meas t f (f + n) = 0 := by
  have e : ¬ t - (f + n) < 0 := by
    rw [own_sub3, Int64.lt_iff_toInt_lt]
    rw [Int64.lt_iff_toInt_lt] at h1 h2
    have h3 := c_lsub (t - f) n
    have h4 := rng64 (t - f - n)
    have h5 := rng64 (t - f)
    have h6 := rng64 n
    have h7 : (0 : Int64).toInt = 0 := by decide
    omega
  simp [own_meas, h1, e]
theorem own_fldeqL {args : Array Value} {Z : State} {t : Term} {a : Addr} {C n d : String} {k : Int64} (ht : t.eval args Z none [] Z = some (.ref a)) (h : (Jvm.Cond.eq (.field t C n d) (.long k)).value args Z none Z [] = some true) : Fld Z Z.heap a C n d (.long k) := by
  obtain ⟨x, y, h1, h2, -, k2⟩ := cmp_v (Or.inl h)
  cases (show (Term.long k).eval args Z none [] Z = some (.long k) from by simp [Term.eval]).symm.trans h2
  obtain ⟨z, rfl⟩ := k2
  simp only [Cond.value, h1, h2] at h
  have h3 : z = k := by simpa using h
  subst h3
  exact Fld.start ((fld_at ht).symm.trans h1)
theorem own_pn0 : plainName "java/util/concurrent/TimeUnit" = true := by first | (simp [plainName, overriddenIn]; done) | decide +kernel
theorem own_ef3 (m : MethodId) (x0 : Addr) (x1 : Int64) : entryFrame m #[(.ref x0), (.long x1)] 7 = mkF m 0 #[.val (.ref x0), .val (.long x1), .second, .unset, .unset, .unset, .unset] [] := by first | (simp [entryFrame, mkF, argsToLocals, Value.category]; done) | rfl
theorem own_d3_0 : decode jdk_2799_method_7_code 0 = .ok (.aload_n 0, 1) := by decide +kernel
theorem own_d3_1 : decode jdk_2799_method_7_code 1 = .ok (.getfield 44, 3) := by decide +kernel
theorem own_d3_4 : decode jdk_2799_method_7_code 4 = .ok (.dup2, 1) := by decide +kernel
theorem own_d3_5 : decode jdk_2799_method_7_code 5 = .ok (.lstore_n 3, 1) := by decide +kernel
theorem own_d3_6 : decode jdk_2799_method_7_code 6 = .ok (.lconst 1, 1) := by decide +kernel
theorem own_d3_7 : decode jdk_2799_method_7_code 7 = .ok (.lcmp, 1) := by decide +kernel
theorem own_d3_8 : decode jdk_2799_method_7_code 8 = .ok (.ifCond .ne 5, 3) := by decide +kernel
theorem own_d3_13 : decode jdk_2799_method_7_code 13 = .ok (.lload_n 1, 1) := by decide +kernel
theorem own_d3_14 : decode jdk_2799_method_7_code 14 = .ok (.aload_n 0, 1) := by decide +kernel
theorem own_d3_15 : decode jdk_2799_method_7_code 15 = .ok (.getfield 52, 3) := by decide +kernel
theorem own_d3_18 : decode jdk_2799_method_7_code 18 = .ok (.dup2, 1) := by decide +kernel
theorem own_d3_19 : decode jdk_2799_method_7_code 19 = .ok (.lstore 5, 2) := by decide +kernel
theorem own_d3_21 : decode jdk_2799_method_7_code 21 = .ok (.lcmp, 1) := by decide +kernel
theorem own_d3_22 : decode jdk_2799_method_7_code 22 = .ok (.ifCond .le 7, 3) := by decide +kernel
theorem own_d3_29 : decode jdk_2799_method_7_code 29 = .ok (.lload_n 1, 1) := by decide +kernel
theorem own_d3_30 : decode jdk_2799_method_7_code 30 = .ok (.lload 5, 2) := by decide +kernel
theorem own_d3_32 : decode jdk_2799_method_7_code 32 = .ok (.lneg, 1) := by decide +kernel
theorem own_d3_33 : decode jdk_2799_method_7_code 33 = .ok (.lcmp, 1) := by decide +kernel
theorem own_d3_34 : decode jdk_2799_method_7_code 34 = .ok (.ifCond .ge 7, 3) := by decide +kernel
theorem own_d3_41 : decode jdk_2799_method_7_code 41 = .ok (.lload_n 1, 1) := by decide +kernel
theorem own_d3_42 : decode jdk_2799_method_7_code 42 = .ok (.lload_n 3, 1) := by decide +kernel
theorem own_d3_43 : decode jdk_2799_method_7_code 43 = .ok (.lmul, 1) := by decide +kernel
theorem own_d3_44 : decode jdk_2799_method_7_code 44 = .ok (.lreturn, 1) := by decide +kernel
def own_Q_own_nanos (Z : State) (w : Addr) (q : Int64) (h0 : Heap) (n0 : Nat) (v : Option Value) (h : Heap) (L : List Loc) : Prop := v = some (.long (q * (1000000000 : Int64))) ∧ Fr n0 L ∧ h = h0
set_option maxRecDepth 65536 in
set_option maxHeartbeats 40000000 in
theorem own_nanos (l : Launch) (Z : State) (a0 : Array Value) (hw : ∀ d ∈ tables_1, d.before a0 Z = true) (ws : List Jvm.Cond) (w : Addr) (q : Int64) (h0 : Heap) (n0 : Nat) (O0 : Old Z n0 h0) (EW : Exa Z Z.heap w "java/util/concurrent/TimeUnit") (FS : Fld Z Z.heap w "java/util/concurrent/TimeUnit" "scale" "J" (.long (1000000000 : Int64))) (FM : Fld Z Z.heap w "java/util/concurrent/TimeUnit" "maxNanos" "J" (.long (9223372036 : Int64))) (hq1 : ¬ ((9223372036 : Int64) < q)) (hq2 : ¬ (q < (-(9223372036 : Int64)))) :
    MetFree l (⟨"java/util/concurrent/TimeUnit", "toNanos", "(J)J"⟩ : MethodName) (head1 (Jvm.Cond.code (⟨"java/util/concurrent/TimeUnit", "toNanos", "(J)J"⟩ : MethodName) jdk_2799_method_7_code 7 (some .long) :: ws) ({ frames := 0, cells := 0, slots := 0, locals := 0 } : Room)) (fun args_ U => args_ = #[(.ref w), (.long q)] ∧ Z.Warmed39 U.vm ∧ U.heap = h0) (fun _ _ _ _ _ => True) (fun _ U o U' => ∃ v L, o = .returned v ∧ (own_Q_own_nanos Z w q h0 n0) v U'.heap L ∧ FrameEnd U o U' L ({ frames := 0, cells := 0, slots := 0, locals := 0 } : Room).cells ({ frames := 0, cells := 0, slots := 0, locals := 0 } : Room).slots) := by
  refine MetFree.of_bodySF (plainFor_of_name own_pn0) hisR ?_
  intro p e s m args below meth c s₁ Bd hml0 hP hK
  obtain ⟨rfl, hZ, hh⟩ := hP
  have hx := Bd.exec
  have hby := Bd.bytes
  have hml : c.maxLocals = 7 := hml0
  have hown : s.vm.findClass "java/util/concurrent/TimeUnit" = some m.cls := findClass_of_methodNamed Bd.named
  have hnm := (name_of_methodNamed Bd.named Bd.method).1
  have X0 : Stand p l e ({ frames := 0, cells := 0, slots := 0, locals := 0 } : Room) s m #[(.ref w), (.long q)] below meth c s₁ [] 0 0 := Stand.of_body Bd
  have e0 : s₁.heap = h0 := by rw [← hh, Bd.state]; rfl
  have N0 := Fr.nil n0
  refine own_close (s := s) (Q := (own_Q_own_nanos Z w q h0 n0)) (C := (({ frames := 0, cells := 0, slots := 0, locals := 0 } : Room)).cells) (N := (({ frames := 0, cells := 0, slots := 0, locals := 0 } : Room)).slots) (own_st (fun _ kt => castTop (own_ef3 m w q) kt) ?_)
  show own_Rch p e below _ s₁ (mkF m 0 #[.val (.ref w), .val (.long q), .second, .unset, .unset, .unset, .unset] [])
  refine own_st (fun _ kt => XS.aloadN X0.here hx rfl (hb hby own_d3_0) rfl rfl  kt) ?_
  show own_Rch p e below _ s₁ (mkF m 1 #[.val (.ref w), .val (.long q), .second, .unset, .unset, .unset, .unset] [(.ref w)])
  obtain ⟨T1, X1, e1, st1⟩ := getF X0 hx hZ hown (host := "") (Or.inl (hw _ (List.mem_of_getElem? (i := 17) rfl))) Via.refl e0 (FS.ext O0.2) (g := (mkF m 1 #[.val (.ref w), .val (.long q), .second, .unset, .unset, .unset, .unset] [(.ref w)])) rfl rfl (hb hby own_d3_1)
  refine own_st st1 ?_
  show own_Rch p e below _ T1 (mkF m 4 #[.val (.ref w), .val (.long q), .second, .unset, .unset, .unset, .unset] [(.long (1000000000 : Int64))])
  refine own_st (fun _ kt => XT.dup2L X1.here hx rfl (hb hby own_d3_4) rfl kt) ?_
  show own_Rch p e below _ T1 (mkF m 5 #[.val (.ref w), .val (.long q), .second, .unset, .unset, .unset, .unset] [(.long (1000000000 : Int64)), (.long (1000000000 : Int64))])
  refine own_st (fun _ kt => XS.lstoreN X1.here hx rfl (hb hby own_d3_5) rfl (l' := #[.val (.ref w), .val (.long q), .second, .val (.long (1000000000 : Int64)), .second, .unset, .unset]) rfl kt) ?_
  show own_Rch p e below _ T1 (mkF m 6 #[.val (.ref w), .val (.long q), .second, .val (.long (1000000000 : Int64)), .second, .unset, .unset] [(.long (1000000000 : Int64))])
  refine own_st (fun _ kt => XS.lconst X1.here hx rfl (hb hby own_d3_6) kt) ?_
  show own_Rch p e below _ T1 (mkF m 7 #[.val (.ref w), .val (.long q), .second, .val (.long (1000000000 : Int64)), .second, .unset, .unset] [(.long (1 : Int64)), (.long (1000000000 : Int64))])
  refine own_st (fun _ kt => XS.lcmp X1.here hx rfl (hb hby own_d3_7) rfl kt) ?_
  show own_Rch p e below _ T1 (mkF m 8 #[.val (.ref w), .val (.long q), .second, .val (.long (1000000000 : Int64)), .second, .unset, .unset] [(.int (lcmpW (1000000000 : Int64) (1 : Int64)))])
  refine own_st (fun _ kt => XS.ifYes X1.here hx rfl (pc0 := 8) (pc' := 13) rfl (hb hby own_d3_8) rfl ((if0 _ _).trans (feq (by decide : ¬ ((lcmpW (1000000000 : Int64) (1 : Int64)) = (0 : Int32)))).2) (by decide) (by decide) kt) ?_
  show own_Rch p e below _ T1 (mkF m 13 #[.val (.ref w), .val (.long q), .second, .val (.long (1000000000 : Int64)), .second, .unset, .unset] [])
  refine own_st (fun _ kt => XS.lloadN X1.here hx rfl (hb hby own_d3_13) rfl  kt) ?_
  show own_Rch p e below _ T1 (mkF m 14 #[.val (.ref w), .val (.long q), .second, .val (.long (1000000000 : Int64)), .second, .unset, .unset] [(.long q)])
  refine own_st (fun _ kt => XS.aloadN X1.here hx rfl (hb hby own_d3_14) rfl rfl  kt) ?_
  show own_Rch p e below _ T1 (mkF m 15 #[.val (.ref w), .val (.long q), .second, .val (.long (1000000000 : Int64)), .second, .unset, .unset] [(.ref w), (.long q)])
  obtain ⟨T2, X2, e2, st2⟩ := getF X1 hx hZ hown (host := "") (Or.inl (hw _ (List.mem_of_getElem? (i := 19) rfl))) Via.refl e1 (FM.ext O0.2) (g := (mkF m 15 #[.val (.ref w), .val (.long q), .second, .val (.long (1000000000 : Int64)), .second, .unset, .unset] [(.ref w), (.long q)])) rfl rfl (hb hby own_d3_15)
  refine own_st st2 ?_
  show own_Rch p e below _ T2 (mkF m 18 #[.val (.ref w), .val (.long q), .second, .val (.long (1000000000 : Int64)), .second, .unset, .unset] [(.long (9223372036 : Int64)), (.long q)])
  refine own_st (fun _ kt => XT.dup2L X2.here hx rfl (hb hby own_d3_18) rfl kt) ?_
  show own_Rch p e below _ T2 (mkF m 19 #[.val (.ref w), .val (.long q), .second, .val (.long (1000000000 : Int64)), .second, .unset, .unset] [(.long (9223372036 : Int64)), (.long (9223372036 : Int64)), (.long q)])
  refine own_st (fun _ kt => XS.lstore X2.here hx rfl (hb hby own_d3_19) rfl (l' := #[.val (.ref w), .val (.long q), .second, .val (.long (1000000000 : Int64)), .second, .val (.long (9223372036 : Int64)), .second]) rfl kt) ?_
  show own_Rch p e below _ T2 (mkF m 21 #[.val (.ref w), .val (.long q), .second, .val (.long (1000000000 : Int64)), .second, .val (.long (9223372036 : Int64)), .second] [(.long (9223372036 : Int64)), (.long q)])
  refine own_st (fun _ kt => XS.lcmp X2.here hx rfl (hb hby own_d3_21) rfl kt) ?_
  show own_Rch p e below _ T2 (mkF m 22 #[.val (.ref w), .val (.long q), .second, .val (.long (1000000000 : Int64)), .second, .val (.long (9223372036 : Int64)), .second] [(.int (lcmpW q (9223372036 : Int64)))])
  refine own_st (fun _ kt => XS.ifYes X2.here hx rfl (pc0 := 22) (pc' := 29) rfl (hb hby own_d3_22) rfl ((if0 _ _).trans (flt (fun y => hq1 ((lw_gt _ _).mp y) : ¬ ((0 : Int32) < (lcmpW q (9223372036 : Int64))))).2.2.2) (by decide) (by decide) kt) ?_
  show own_Rch p e below _ T2 (mkF m 29 #[.val (.ref w), .val (.long q), .second, .val (.long (1000000000 : Int64)), .second, .val (.long (9223372036 : Int64)), .second] [])
  refine own_st (fun _ kt => XS.lloadN X2.here hx rfl (hb hby own_d3_29) rfl  kt) ?_
  show own_Rch p e below _ T2 (mkF m 30 #[.val (.ref w), .val (.long q), .second, .val (.long (1000000000 : Int64)), .second, .val (.long (9223372036 : Int64)), .second] [(.long q)])
  refine own_st (fun _ kt => XS.lload X2.here hx rfl (hb hby own_d3_30) rfl  kt) ?_
  show own_Rch p e below _ T2 (mkF m 32 #[.val (.ref w), .val (.long q), .second, .val (.long (1000000000 : Int64)), .second, .val (.long (9223372036 : Int64)), .second] [(.long (9223372036 : Int64)), (.long q)])
  refine own_st (fun _ kt => XS.lneg X2.here hx rfl (hb hby own_d3_32) rfl kt) ?_
  show own_Rch p e below _ T2 (mkF m 33 #[.val (.ref w), .val (.long q), .second, .val (.long (1000000000 : Int64)), .second, .val (.long (9223372036 : Int64)), .second] [(.long (-(9223372036 : Int64))), (.long q)])
  refine own_st (fun _ kt => XS.lcmp X2.here hx rfl (hb hby own_d3_33) rfl kt) ?_
  show own_Rch p e below _ T2 (mkF m 34 #[.val (.ref w), .val (.long q), .second, .val (.long (1000000000 : Int64)), .second, .val (.long (9223372036 : Int64)), .second] [(.int (lcmpW q (-(9223372036 : Int64))))])
  refine own_st (fun _ kt => XS.ifYes X2.here hx rfl (pc0 := 34) (pc' := 41) rfl (hb hby own_d3_34) rfl ((if0 _ _).trans (flt (fun y => hq2 ((lw_lt _ _).mp y) : ¬ ((lcmpW q (-(9223372036 : Int64))) < (0 : Int32)))).2.1) (by decide) (by decide) kt) ?_
  show own_Rch p e below _ T2 (mkF m 41 #[.val (.ref w), .val (.long q), .second, .val (.long (1000000000 : Int64)), .second, .val (.long (9223372036 : Int64)), .second] [])
  refine own_st (fun _ kt => XS.lloadN X2.here hx rfl (hb hby own_d3_41) rfl  kt) ?_
  show own_Rch p e below _ T2 (mkF m 42 #[.val (.ref w), .val (.long q), .second, .val (.long (1000000000 : Int64)), .second, .val (.long (9223372036 : Int64)), .second] [(.long q)])
  refine own_st (fun _ kt => XS.lloadN X2.here hx rfl (hb hby own_d3_42) rfl  kt) ?_
  show own_Rch p e below _ T2 (mkF m 43 #[.val (.ref w), .val (.long q), .second, .val (.long (1000000000 : Int64)), .second, .val (.long (9223372036 : Int64)), .second] [(.long (1000000000 : Int64)), (.long q)])
  refine own_st (fun _ kt => XS.lmul X2.here hx rfl (hb hby own_d3_43) rfl kt) ?_
  show own_Rch p e below _ T2 (mkF m 44 #[.val (.ref w), .val (.long q), .second, .val (.long (1000000000 : Int64)), .second, .val (.long (9223372036 : Int64)), .second] [(.long (q * (1000000000 : Int64)))])
  refine own_retL X2 hx Bd.notSynchronized Bd.returns (hb hby own_d3_44) (by decide) (by decide) ?_
  rw [e2]
  exact ⟨rfl, N0, rfl⟩
theorem own_pn1 : plainName "com/example/respite/respite/cli/Window" = true := by first | (simp [plainName, overriddenIn]; done) | decide +kernel
theorem own_ef1 (m : MethodId) (x0 : Addr) (x1 : Int64) (x2 : Int32) (x3 : Int32) : entryFrame m #[(.ref x0), (.long x1), (.int x2), (.int x3)] 5 = mkF m 0 #[.val (.ref x0), .val (.long x1), .second, .val (.int x2), .val (.int x3)] [] := by first | (simp [entryFrame, mkF, argsToLocals, Value.category]; done) | rfl
theorem own_d1_0 : decode prog_10_method_1_code 0 = .ok (.aload_n 0, 1) := by decide +kernel
theorem own_d1_1 : decode prog_10_method_1_code 1 = .ok (.invokespecial 1, 3) := by decide +kernel
theorem own_d1_4 : decode prog_10_method_1_code 4 = .ok (.aload_n 0, 1) := by decide +kernel
theorem own_d1_5 : decode prog_10_method_1_code 5 = .ok (.lload_n 1, 1) := by decide +kernel
theorem own_d1_6 : decode prog_10_method_1_code 6 = .ok (.getstatic 7, 3) := by decide +kernel
theorem own_d1_9 : decode prog_10_method_1_code 9 = .ok (.iload_n 3, 1) := by decide +kernel
theorem own_d1_10 : decode prog_10_method_1_code 10 = .ok (.i2l, 1) := by decide +kernel
theorem own_d1_11 : decode prog_10_method_1_code 11 = .ok (.invokevirtual 13, 3) := by decide +kernel
theorem own_pd0 : parseMethodDescriptor "(J)J" = some ⟨[.long], some .long⟩ := by decide +kernel
theorem own_d1_14 : decode prog_10_method_1_code 14 = .ok (.ladd, 1) := by decide +kernel
theorem own_d1_15 : decode prog_10_method_1_code 15 = .ok (.putfield 17, 3) := by decide +kernel
theorem own_d1_18 : decode prog_10_method_1_code 18 = .ok (.aload_n 0, 1) := by decide +kernel
theorem own_d1_19 : decode prog_10_method_1_code 19 = .ok (.aload_n 0, 1) := by decide +kernel
theorem own_d1_20 : decode prog_10_method_1_code 20 = .ok (.getfield 17, 3) := by decide +kernel
theorem own_d1_23 : decode prog_10_method_1_code 23 = .ok (.getstatic 7, 3) := by decide +kernel
theorem own_d1_26 : decode prog_10_method_1_code 26 = .ok (.iload 4, 2) := by decide +kernel
theorem own_d1_28 : decode prog_10_method_1_code 28 = .ok (.i2l, 1) := by decide +kernel
theorem own_d1_29 : decode prog_10_method_1_code 29 = .ok (.invokevirtual 13, 3) := by decide +kernel
theorem own_d1_32 : decode prog_10_method_1_code 32 = .ok (.ladd, 1) := by decide +kernel
theorem own_d1_33 : decode prog_10_method_1_code 33 = .ok (.putfield 23, 3) := by decide +kernel
theorem own_d1_36 : decode prog_10_method_1_code 36 = .ok (.return_, 1) := by decide +kernel
def own_Q_own_win (Z : State) (a : Addr) (q1 : Int64) (p2 : Int32) (p3 : Int32) (w : Addr) (h0 : Heap) (n0 : Nat) (v : Option Value) (h : Heap) (L : List Loc) : Prop := v = none ∧ Fr n0 L ∧ Keep h0 h [a] ∧ Exa Z h a "com/example/respite/respite/cli/Window" ∧ Fld Z h a "com/example/respite/respite/cli/Window" "measuredFrom" "J" (.long (q1 + ((p2.toInt64) * (1000000000 : Int64)))) ∧ Fld Z h a "com/example/respite/respite/cli/Window" "measuredUntil" "J" (.long ((q1 + ((p2.toInt64) * (1000000000 : Int64))) + ((p3.toInt64) * (1000000000 : Int64))))
set_option maxRecDepth 65536 in
set_option maxHeartbeats 40000000 in
theorem own_win (l : Launch) (Z : State) (a0 : Array Value) (hw : ∀ d ∈ tables_1, d.before a0 Z = true) (ws : List Jvm.Cond) (a : Addr) (q1 : Int64) (p2 : Int32) (p3 : Int32) (w : Addr) (h0 : Heap) (n0 : Nat) (O0 : Old Z n0 h0) (SW : Sta Z Z.heap "java/util/concurrent/TimeUnit" "SECONDS" "Ljava/util/concurrent/TimeUnit;" (.ref w)) (EW : Exa Z Z.heap w "java/util/concurrent/TimeUnit") (FS : Fld Z Z.heap w "java/util/concurrent/TimeUnit" "scale" "J" (.long (1000000000 : Int64))) (FM : Fld Z Z.heap w "java/util/concurrent/TimeUnit" "maxNanos" "J" (.long (9223372036 : Int64))) (EA : Exa Z h0 a "com/example/respite/respite/cli/Window") (FA : Fld Z h0 a "com/example/respite/respite/cli/Window" "measuredFrom" "J" (.long (0 : Int64))) (FB : Fld Z h0 a "com/example/respite/respite/cli/Window" "measuredUntil" "J" (.long (0 : Int64))) (ga : n0 ≤ a) :
    MetFree l (⟨"com/example/respite/respite/cli/Window", "<init>", "(JII)V"⟩ : MethodName) (head1 (Jvm.Cond.code (⟨"com/example/respite/respite/cli/Window", "<init>", "(JII)V"⟩ : MethodName) prog_10_method_1_code 5 none :: ws) ({ frames := 1, cells := 0, slots := 0, locals := 21 } : Room)) (fun args_ U => args_ = #[(.ref a), (.long q1), (.int p2), (.int p3)] ∧ Z.Warmed39 U.vm ∧ U.heap = h0) (fun _ _ _ _ _ => True) (fun _ U o U' => ∃ v L, o = .returned v ∧ (own_Q_own_win Z a q1 p2 p3 w h0 n0) v U'.heap L ∧ FrameEnd U o U' L ({ frames := 1, cells := 0, slots := 0, locals := 21 } : Room).cells ({ frames := 1, cells := 0, slots := 0, locals := 21 } : Room).slots) := by
  refine MetFree.of_bodySF (plainFor_of_name own_pn1) hisR ?_
  intro p e s m args below meth c s₁ Bd hml0 hP hK
  obtain ⟨rfl, hZ, hh⟩ := hP
  have hx := Bd.exec
  have hby := Bd.bytes
  have hml : c.maxLocals = 5 := hml0
  have hown : s.vm.findClass "com/example/respite/respite/cli/Window" = some m.cls := findClass_of_methodNamed Bd.named
  have hnm := (name_of_methodNamed Bd.named Bd.method).1
  have X0 : Stand p l e ({ frames := 1, cells := 0, slots := 0, locals := 21 } : Room) s m #[(.ref a), (.long q1), (.int p2), (.int p3)] below meth c s₁ [] 0 0 := Stand.of_body Bd
  have e0 : s₁.heap = h0 := by rw [← hh, Bd.state]; rfl
  have N0 := Fr.nil n0
  refine own_close (s := s) (Q := (own_Q_own_win Z a q1 p2 p3 w h0 n0)) (C := (({ frames := 1, cells := 0, slots := 0, locals := 21 } : Room)).cells) (N := (({ frames := 1, cells := 0, slots := 0, locals := 21 } : Room)).slots) (own_st (fun _ kt => castTop (own_ef1 m a q1 p2 p3) kt) ?_)
  have K0 := Keep.refl h0 [a]
  show own_Rch p e below _ s₁ (mkF m 0 #[.val (.ref a), .val (.long q1), .second, .val (.int p2), .val (.int p3)] [])
  refine own_st (fun _ kt => XS.aloadN X0.here hx rfl (hb hby own_d1_0) rfl rfl  kt) ?_
  show own_Rch p e below _ s₁ (mkF m 1 #[.val (.ref a), .val (.long q1), .second, .val (.int p2), .val (.int p3)] [(.ref a)])
  obtain ⟨T1, X1, e1, st1⟩ := initO X0 hx hZ hown (hw _ (List.mem_of_getElem? (i := 7) rfl)) (hw _ (List.mem_of_getElem? (i := 8) rfl)) (hw _ (List.mem_of_getElem? (i := 9) rfl)) e0 (g := (mkF m 1 #[.val (.ref a), .val (.long q1), .second, .val (.int p2), .val (.int p3)] [(.ref a)])) rfl (by rw [hml]; rfl) rfl (hb hby own_d1_1) (by decide) (W := 0) (by show 2 * 0 + _ ≤ _; exact Nat.le_of_eq rfl) (by decide)
  refine own_st st1 ?_
  show own_Rch p e below _ T1 (mkF m 4 #[.val (.ref a), .val (.long q1), .second, .val (.int p2), .val (.int p3)] [])
  refine own_st (fun _ kt => XS.aloadN X1.here hx rfl (hb hby own_d1_4) rfl rfl  kt) ?_
  show own_Rch p e below _ T1 (mkF m 5 #[.val (.ref a), .val (.long q1), .second, .val (.int p2), .val (.int p3)] [(.ref a)])
  refine own_st (fun _ kt => XS.lloadN X1.here hx rfl (hb hby own_d1_5) rfl  kt) ?_
  show own_Rch p e below _ T1 (mkF m 6 #[.val (.ref a), .val (.long q1), .second, .val (.int p2), .val (.int p3)] [(.long q1), (.ref a)])
  obtain ⟨T2, X2, e2, st2⟩ := getS2 X1 hx hZ hown (host := "") (Or.inl (hw _ (List.mem_of_getElem? (i := 10) rfl))) Via.refl e1 (SW.ext O0.2) (g := (mkF m 6 #[.val (.ref a), .val (.long q1), .second, .val (.int p2), .val (.int p3)] [(.long q1), (.ref a)])) rfl (hb hby own_d1_6)
  refine own_st st2 ?_
  show own_Rch p e below _ T2 (mkF m 9 #[.val (.ref a), .val (.long q1), .second, .val (.int p2), .val (.int p3)] [(.ref w), (.long q1), (.ref a)])
  refine own_st (fun _ kt => XS.iloadN X2.here hx rfl (hb hby own_d1_9) rfl  kt) ?_
  show own_Rch p e below _ T2 (mkF m 10 #[.val (.ref a), .val (.long q1), .second, .val (.int p2), .val (.int p3)] [(.int p2), (.ref w), (.long q1), (.ref a)])
  refine own_st (fun _ kt => XS.i2l X2.here hx rfl (hb hby own_d1_10) rfl kt) ?_
  show own_Rch p e below _ T2 (mkF m 11 #[.val (.ref a), .val (.long q1), .second, .val (.int p2), .val (.int p3)] [(.long (p2.toInt64)), (.ref w), (.long q1), (.ref a)])
  obtain ⟨cq3, kq3, q3a, q3b, q3c⟩ := isOf hZ e2 (EW.ext O0.2)
  obtain ⟨_, _, ⟨T3, L3, k3, n3⟩, -, X3, ⟨Lc3, hQ3, l3, y3, z3⟩, st3⟩ := X2.virtualBack hx (y := (⟨"java/util/concurrent/TimeUnit", "toNanos", "(J)J"⟩ : MethodName)) (z := (⟨"java/util/concurrent/TimeUnit", "toNanos", "(J)J"⟩ : MethodName)) hown (mvT hZ (hw _ (List.mem_of_getElem? (i := 12) rfl))) (mvT hZ (hw _ (List.mem_of_getElem? (i := 13) rfl))) (notFace_of_selects (args := #[]) (mvT hZ (hw _ (List.mem_of_getElem? (i := 15) rfl)))) (mvT hZ (hw _ (List.mem_of_getElem? (i := 15) rfl))) (mvT hZ (hw _ (List.mem_of_getElem? (i := 14) rfl))) (by decide) (backOf (W := 3) (own_nanos l Z a0 hw [] w (p2.toInt64) h0 n0 O0 EW FS FM (own_i2l_le _) (own_i2l_ge _)) hZ (hw _ (List.mem_of_getElem? (i := 16) rfl)) (hw _ (List.mem_of_getElem? (i := 11) rfl)) (by decide) (by decide)) q3a q3c (g := (mkF m 11 #[.val (.ref a), .val (.long q1), .second, .val (.int p2), .val (.int p3)] [(.long (p2.toInt64)), (.ref w), (.long q1), (.ref a)])) rfl (by rw [hml]; rfl) (Steps.refl _) (argsL := [(.long (p2.toInt64))]) (rest := [(.long q1), (.ref a)]) (lenOf own_pd0 rfl) rfl (by show 2 * 0 + _ ≤ _; exact Nat.le_of_eq rfl) (hb hby own_d1_11) (fun _ _ => ⟨rfl, e2, (by decide : 0 + 0 ≤ _), (by decide : 0 + 0 ≤ _)⟩)
  dsimp only [Pt.U, Pt.locs, Pt.cells, Pt.slots] at X3 l3 y3 z3 st3 hQ3
  subst l3 y3 z3
  obtain ⟨rfl, N3q, hh3⟩ := hQ3
  have N3 := Fr.app N0 N3q
  refine own_st (fun _ kt => st3.trans kt) ?_
  show own_Rch p e below _ T3 (mkF m 14 #[.val (.ref a), .val (.long q1), .second, .val (.int p2), .val (.int p3)] [(.long ((p2.toInt64) * (1000000000 : Int64))), (.long q1), (.ref a)])
  refine own_st (fun _ kt => XS.ladd X3.here hx rfl (hb hby own_d1_14) rfl kt) ?_
  show own_Rch p e below _ T3 (mkF m 15 #[.val (.ref a), .val (.long q1), .second, .val (.int p2), .val (.int p3)] [(.long (q1 + ((p2.toInt64) * (1000000000 : Int64)))), (.ref a)])
  obtain ⟨T4, h4, X4, e4, W4, st4⟩ := putF X3 hx hZ hown (host := "") (Or.inl (hw _ (List.mem_of_getElem? (i := 21) rfl))) Via.refl hh3 FA EA (Or.inr ⟨(hw _ (List.mem_of_getElem? (i := 22) rfl)), rfl, hnm⟩) (hw _ (List.mem_of_getElem? (i := 2) rfl)) (ty := .long) (by decide) rfl rfl (g := (mkF m 15 #[.val (.ref a), .val (.long q1), .second, .val (.int p2), .val (.int p3)] [(.long (q1 + ((p2.toInt64) * (1000000000 : Int64)))), (.ref a)])) rfl rfl (hb hby own_d1_15)
  refine own_st st4 ?_
  have Fw4 := FA.same W4
  have N4 := Fr.snoc X4 N3 ga
  have O0_x4 := O0.wr W4 ga
  have EA_x4 := EA.wr W4
  have FB_x4 := FB.other W4 (Or.inr (slot_ne (Or.inr (hw _ (List.mem_of_getElem? (i := 24) rfl))) (Or.inr (hw _ (List.mem_of_getElem? (i := 22) rfl))) (by decide) (t := .long) (t' := .long) (by decide) (by decide)))
  have K0_x4 := K0.wr W4 (Or.inl (List.mem_of_getElem? (i := 0) rfl))
  show own_Rch p e below _ T4 (mkF m 18 #[.val (.ref a), .val (.long q1), .second, .val (.int p2), .val (.int p3)] [])
  refine own_st (fun _ kt => XS.aloadN X4.here hx rfl (hb hby own_d1_18) rfl rfl  kt) ?_
  show own_Rch p e below _ T4 (mkF m 19 #[.val (.ref a), .val (.long q1), .second, .val (.int p2), .val (.int p3)] [(.ref a)])
  refine own_st (fun _ kt => XS.aloadN X4.here hx rfl (hb hby own_d1_19) rfl rfl  kt) ?_
  show own_Rch p e below _ T4 (mkF m 20 #[.val (.ref a), .val (.long q1), .second, .val (.int p2), .val (.int p3)] [(.ref a), (.ref a)])
  obtain ⟨T5, X5, e5, st5⟩ := getF X4 hx hZ hown (host := "") (Or.inl (hw _ (List.mem_of_getElem? (i := 21) rfl))) Via.refl e4 Fw4 (g := (mkF m 20 #[.val (.ref a), .val (.long q1), .second, .val (.int p2), .val (.int p3)] [(.ref a), (.ref a)])) rfl rfl (hb hby own_d1_20)
  refine own_st st5 ?_
  show own_Rch p e below _ T5 (mkF m 23 #[.val (.ref a), .val (.long q1), .second, .val (.int p2), .val (.int p3)] [(.long (q1 + ((p2.toInt64) * (1000000000 : Int64)))), (.ref a)])
  obtain ⟨T6, X6, e6, st6⟩ := getS2 X5 hx hZ hown (host := "") (Or.inl (hw _ (List.mem_of_getElem? (i := 10) rfl))) Via.refl e5 (SW.ext O0_x4.2) (g := (mkF m 23 #[.val (.ref a), .val (.long q1), .second, .val (.int p2), .val (.int p3)] [(.long (q1 + ((p2.toInt64) * (1000000000 : Int64)))), (.ref a)])) rfl (hb hby own_d1_23)
  refine own_st st6 ?_
  show own_Rch p e below _ T6 (mkF m 26 #[.val (.ref a), .val (.long q1), .second, .val (.int p2), .val (.int p3)] [(.ref w), (.long (q1 + ((p2.toInt64) * (1000000000 : Int64)))), (.ref a)])
  refine own_st (fun _ kt => XS.iload X6.here hx rfl (hb hby own_d1_26) rfl  kt) ?_
  show own_Rch p e below _ T6 (mkF m 28 #[.val (.ref a), .val (.long q1), .second, .val (.int p2), .val (.int p3)] [(.int p3), (.ref w), (.long (q1 + ((p2.toInt64) * (1000000000 : Int64)))), (.ref a)])
  refine own_st (fun _ kt => XS.i2l X6.here hx rfl (hb hby own_d1_28) rfl kt) ?_
  show own_Rch p e below _ T6 (mkF m 29 #[.val (.ref a), .val (.long q1), .second, .val (.int p2), .val (.int p3)] [(.long (p3.toInt64)), (.ref w), (.long (q1 + ((p2.toInt64) * (1000000000 : Int64)))), (.ref a)])
  obtain ⟨cq7, kq7, q7a, q7b, q7c⟩ := isOf hZ e6 (EW.ext O0_x4.2)
  obtain ⟨_, _, ⟨T7, L7, k7, n7⟩, -, X7, ⟨Lc7, hQ7, l7, y7, z7⟩, st7⟩ := X6.virtualBack hx (y := (⟨"java/util/concurrent/TimeUnit", "toNanos", "(J)J"⟩ : MethodName)) (z := (⟨"java/util/concurrent/TimeUnit", "toNanos", "(J)J"⟩ : MethodName)) hown (mvT hZ (hw _ (List.mem_of_getElem? (i := 12) rfl))) (mvT hZ (hw _ (List.mem_of_getElem? (i := 13) rfl))) (notFace_of_selects (args := #[]) (mvT hZ (hw _ (List.mem_of_getElem? (i := 15) rfl)))) (mvT hZ (hw _ (List.mem_of_getElem? (i := 15) rfl))) (mvT hZ (hw _ (List.mem_of_getElem? (i := 14) rfl))) (by decide) (backOf (W := 3) (own_nanos l Z a0 hw [] w (p3.toInt64) h4 n0 O0_x4 EW FS FM (own_i2l_le _) (own_i2l_ge _)) hZ (hw _ (List.mem_of_getElem? (i := 16) rfl)) (hw _ (List.mem_of_getElem? (i := 11) rfl)) (by decide) (by decide)) q7a q7c (g := (mkF m 29 #[.val (.ref a), .val (.long q1), .second, .val (.int p2), .val (.int p3)] [(.long (p3.toInt64)), (.ref w), (.long (q1 + ((p2.toInt64) * (1000000000 : Int64)))), (.ref a)])) rfl (by rw [hml]; rfl) (Steps.refl _) (argsL := [(.long (p3.toInt64))]) (rest := [(.long (q1 + ((p2.toInt64) * (1000000000 : Int64)))), (.ref a)]) (lenOf own_pd0 rfl) rfl (by show 2 * 0 + _ ≤ _; exact Nat.le_of_eq rfl) (hb hby own_d1_29) (fun _ _ => ⟨rfl, e6, (by decide : 0 + 0 ≤ _), (by decide : 0 + 0 ≤ _)⟩)
  dsimp only [Pt.U, Pt.locs, Pt.cells, Pt.slots] at X7 l7 y7 z7 st7 hQ7
  subst l7 y7 z7
  obtain ⟨rfl, N7q, hh7⟩ := hQ7
  have N7 := Fr.app N4 N7q
  refine own_st (fun _ kt => st7.trans kt) ?_
  show own_Rch p e below _ T7 (mkF m 32 #[.val (.ref a), .val (.long q1), .second, .val (.int p2), .val (.int p3)] [(.long ((p3.toInt64) * (1000000000 : Int64))), (.long (q1 + ((p2.toInt64) * (1000000000 : Int64)))), (.ref a)])
  refine own_st (fun _ kt => XS.ladd X7.here hx rfl (hb hby own_d1_32) rfl kt) ?_
  show own_Rch p e below _ T7 (mkF m 33 #[.val (.ref a), .val (.long q1), .second, .val (.int p2), .val (.int p3)] [(.long ((q1 + ((p2.toInt64) * (1000000000 : Int64))) + ((p3.toInt64) * (1000000000 : Int64)))), (.ref a)])
  obtain ⟨T8, h8, X8, e8, W8, st8⟩ := putF X7 hx hZ hown (host := "") (Or.inl (hw _ (List.mem_of_getElem? (i := 23) rfl))) Via.refl hh7 FB_x4 EA_x4 (Or.inr ⟨(hw _ (List.mem_of_getElem? (i := 24) rfl)), rfl, hnm⟩) (hw _ (List.mem_of_getElem? (i := 2) rfl)) (ty := .long) (by decide) rfl rfl (g := (mkF m 33 #[.val (.ref a), .val (.long q1), .second, .val (.int p2), .val (.int p3)] [(.long ((q1 + ((p2.toInt64) * (1000000000 : Int64))) + ((p3.toInt64) * (1000000000 : Int64)))), (.ref a)])) rfl rfl (hb hby own_d1_33)
  refine own_st st8 ?_
  have Fw8 := FB_x4.same W8
  have N8 := Fr.snoc X8 N7 ga
  have O0_x8 := O0_x4.wr W8 ga
  have EA_x8 := EA_x4.wr W8
  have Fw4_x8 := Fw4.other W8 (Or.inr (slot_ne (Or.inr (hw _ (List.mem_of_getElem? (i := 22) rfl))) (Or.inr (hw _ (List.mem_of_getElem? (i := 24) rfl))) (by decide) (t := .long) (t' := .long) (by decide) (by decide)))
  have K0_x8 := K0_x4.wr W8 (Or.inl (List.mem_of_getElem? (i := 0) rfl))
  show own_Rch p e below _ T8 (mkF m 36 #[.val (.ref a), .val (.long q1), .second, .val (.int p2), .val (.int p3)] [])
  refine own_retV X8 hx Bd.notSynchronized Bd.returns (hb hby own_d1_36) (by decide) (by decide) ?_
  rw [e8]
  exact ⟨rfl, N8, K0_x8, EA_x8, Fw4_x8, Fw8⟩
theorem own_ef4 (m : MethodId) (x0 : Addr) (x1 : Int64) : entryFrame m #[(.ref x0), (.long x1)] 3 = mkF m 0 #[.val (.ref x0), .val (.long x1), .second] [] := by first | (simp [entryFrame, mkF, argsToLocals, Value.category]; done) | rfl
theorem own_d4_0 : decode prog_10_method_5_code 0 = .ok (.lload_n 1, 1) := by decide +kernel
theorem own_d4_1 : decode prog_10_method_5_code 1 = .ok (.aload_n 0, 1) := by decide +kernel
theorem own_d4_2 : decode prog_10_method_5_code 2 = .ok (.getfield 23, 3) := by decide +kernel
theorem own_d4_5 : decode prog_10_method_5_code 5 = .ok (.lsub, 1) := by decide +kernel
theorem own_d4_6 : decode prog_10_method_5_code 6 = .ok (.lconst 0, 1) := by decide +kernel
theorem own_d4_7 : decode prog_10_method_5_code 7 = .ok (.lcmp, 1) := by decide +kernel
theorem own_d4_8 : decode prog_10_method_5_code 8 = .ok (.ifCond .lt 7, 3) := by decide +kernel
theorem own_d4_15 : decode prog_10_method_5_code 15 = .ok (.iconst 0, 1) := by decide +kernel
theorem own_d4_16 : decode prog_10_method_5_code 16 = .ok (.ireturn, 1) := by decide +kernel
theorem own_d4_11 : decode prog_10_method_5_code 11 = .ok (.iconst 1, 1) := by decide +kernel
theorem own_d4_12 : decode prog_10_method_5_code 12 = .ok (.goto 4, 3) := by decide +kernel
def own_Q_own_isover (Z : State) (a : Addr) (q : Int64) (u : Int64) (h0 : Heap) (n0 : Nat) (v : Option Value) (h : Heap) (L : List Loc) : Prop := v = some (.int (own_over q u)) ∧ Fr n0 L ∧ h = h0
set_option maxRecDepth 65536 in
set_option maxHeartbeats 40000000 in
theorem own_isover (l : Launch) (Z : State) (a0 : Array Value) (hw : ∀ d ∈ tables_1, d.before a0 Z = true) (ws : List Jvm.Cond) (a : Addr) (q : Int64) (u : Int64) (h0 : Heap) (n0 : Nat) (O0 : Old Z n0 h0) (F : Fld Z h0 a "com/example/respite/respite/cli/Window" "measuredUntil" "J" (.long u)) :
    MetFree l (⟨"com/example/respite/respite/cli/Window", "isOverAt", "(J)Z"⟩ : MethodName) (head1 (Jvm.Cond.code (⟨"com/example/respite/respite/cli/Window", "isOverAt", "(J)Z"⟩ : MethodName) prog_10_method_5_code 3 (some .boolean) :: ws) ({ frames := 0, cells := 0, slots := 0, locals := 0 } : Room)) (fun args_ U => args_ = #[(.ref a), (.long q)] ∧ Z.Warmed39 U.vm ∧ U.heap = h0) (fun _ _ _ _ _ => True) (fun _ U o U' => ∃ v L, o = .returned v ∧ (own_Q_own_isover Z a q u h0 n0) v U'.heap L ∧ FrameEnd U o U' L ({ frames := 0, cells := 0, slots := 0, locals := 0 } : Room).cells ({ frames := 0, cells := 0, slots := 0, locals := 0 } : Room).slots) := by
  refine MetFree.of_bodySF (plainFor_of_name own_pn1) hisR ?_
  intro p e s m args below meth c s₁ Bd hml0 hP hK
  obtain ⟨rfl, hZ, hh⟩ := hP
  have hx := Bd.exec
  have hby := Bd.bytes
  have hml : c.maxLocals = 3 := hml0
  have hown : s.vm.findClass "com/example/respite/respite/cli/Window" = some m.cls := findClass_of_methodNamed Bd.named
  have hnm := (name_of_methodNamed Bd.named Bd.method).1
  have X0 : Stand p l e ({ frames := 0, cells := 0, slots := 0, locals := 0 } : Room) s m #[(.ref a), (.long q)] below meth c s₁ [] 0 0 := Stand.of_body Bd
  have e0 : s₁.heap = h0 := by rw [← hh, Bd.state]; rfl
  have N0 := Fr.nil n0
  refine own_close (s := s) (Q := (own_Q_own_isover Z a q u h0 n0)) (C := (({ frames := 0, cells := 0, slots := 0, locals := 0 } : Room)).cells) (N := (({ frames := 0, cells := 0, slots := 0, locals := 0 } : Room)).slots) (own_st (fun _ kt => castTop (own_ef4 m a q) kt) ?_)
  show own_Rch p e below _ s₁ (mkF m 0 #[.val (.ref a), .val (.long q), .second] [])
  refine own_st (fun _ kt => XS.lloadN X0.here hx rfl (hb hby own_d4_0) rfl  kt) ?_
  show own_Rch p e below _ s₁ (mkF m 1 #[.val (.ref a), .val (.long q), .second] [(.long q)])
  refine own_st (fun _ kt => XS.aloadN X0.here hx rfl (hb hby own_d4_1) rfl rfl  kt) ?_
  show own_Rch p e below _ s₁ (mkF m 2 #[.val (.ref a), .val (.long q), .second] [(.ref a), (.long q)])
  obtain ⟨T1, X1, e1, st1⟩ := getF X0 hx hZ hown (host := "") (Or.inl (hw _ (List.mem_of_getElem? (i := 23) rfl))) Via.refl e0 F (g := (mkF m 2 #[.val (.ref a), .val (.long q), .second] [(.ref a), (.long q)])) rfl rfl (hb hby own_d4_2)
  refine own_st st1 ?_
  show own_Rch p e below _ T1 (mkF m 5 #[.val (.ref a), .val (.long q), .second] [(.long u), (.long q)])
  refine own_st (fun _ kt => XS.lsub X1.here hx rfl (hb hby own_d4_5) rfl kt) ?_
  show own_Rch p e below _ T1 (mkF m 6 #[.val (.ref a), .val (.long q), .second] [(.long (q - u))])
  refine own_st (fun _ kt => XS.lconst X1.here hx rfl (hb hby own_d4_6) kt) ?_
  show own_Rch p e below _ T1 (mkF m 7 #[.val (.ref a), .val (.long q), .second] [(.long (0 : Int64)), (.long (q - u))])
  refine own_st (fun _ kt => XS.lcmp X1.here hx rfl (hb hby own_d4_7) rfl kt) ?_
  show own_Rch p e below _ T1 (mkF m 8 #[.val (.ref a), .val (.long q), .second] [(.int (lcmpW (q - u) (0 : Int64)))])
  by_cases hc8_2 : (lcmpW (q - u) (0 : Int64)) < (0 : Int32)
  · -- pc 8: True
    refine own_st (fun _ kt => XS.ifYes X1.here hx rfl (pc0 := 8) (pc' := 15) rfl (hb hby own_d4_8) rfl ((if0 _ _).trans (tlt hc8_2).1) (by decide) (by decide) kt) ?_
    show own_Rch p e below _ T1 (mkF m 15 #[.val (.ref a), .val (.long q), .second] [])
    refine own_st (fun _ kt => XS.iconst X1.here hx rfl (hb hby own_d4_15) kt) ?_
    show own_Rch p e below _ T1 (mkF m 16 #[.val (.ref a), .val (.long q), .second] [(.int (0 : Int32))])
    refine own_retN (t := .boolean) (by simp) X1 hx Bd.notSynchronized Bd.returns (hb hby own_d4_16) (by decide) (by decide) ?_
    rw [e1]
    exact ⟨by rw [lw_lt] at hc8_2; simp [own_over, nar, hc8_2], N0, rfl⟩
  · -- pc 8: False
    refine own_st (fun _ kt => XS.ifNo X1.here hx rfl (hb hby own_d4_8) rfl ((if0 _ _).trans (flt hc8_2).1) kt) ?_
    show own_Rch p e below _ T1 (mkF m 11 #[.val (.ref a), .val (.long q), .second] [])
    refine own_st (fun _ kt => XS.iconst X1.here hx rfl (hb hby own_d4_11) kt) ?_
    show own_Rch p e below _ T1 (mkF m 12 #[.val (.ref a), .val (.long q), .second] [(.int (1 : Int32))])
    refine own_st (fun _ kt => XS.goto X1.here hx rfl (pc0 := 12) (pc' := 16) rfl (hb hby own_d4_12) (by decide) (by decide) kt) ?_
    show own_Rch p e below _ T1 (mkF m 16 #[.val (.ref a), .val (.long q), .second] [(.int (1 : Int32))])
    refine own_retN (t := .boolean) (by simp) X1 hx Bd.notSynchronized Bd.returns (hb hby own_d4_16) (by decide) (by decide) ?_
    rw [e1]
    exact ⟨by rw [lw_lt] at hc8_2; simp [own_over, nar, hc8_2], N0, rfl⟩
theorem own_pn2 : plainName "com/example/respite/respite/cli/WindowIsOverAtPinLaw" = true := by first | (simp [plainName, overriddenIn]; done) | decide +kernel
theorem own_ef0 (m : MethodId) (x0 : Int64) (x1 : Int32) (x2 : Int32) (x3 : Int64) : entryFrame m #[(.long x0), (.int x1), (.int x2), (.long x3)] maxLocals = mkF m 0 #[.val (.long x0), .second, .val (.int x1), .val (.int x2), .val (.long x3), .second, .unset, .unset, .unset, .unset, .unset, .unset, .unset, .unset] [] := by first | (simp [entryFrame, mkF, argsToLocals, Value.category, maxLocals]; done) | rfl
theorem own_pd1 : parseMethodDescriptor "(JII)V" = some ⟨[.long, .int, .int], none⟩ := by decide +kernel
theorem own_pd2 : parseMethodDescriptor "(J)Z" = some ⟨[.long], some .boolean⟩ := by decide +kernel
def own_Q_own_rm0 (Z : State) (q1 : Int64) (p2 : Int32) (p3 : Int32) (q4 : Int64) (w : Addr) (h0 : Heap) (n0 : Nat) (v : Option Value) (h : Heap) (L : List Loc) : Prop := v = some (.int (1 : Int32)) ∧ Fr n0 L
set_option maxRecDepth 65536 in
set_option maxHeartbeats 40000000 in
theorem own_rm0 (l : Launch) (Z : State) (a0 : Array Value) (hw : ∀ d ∈ tables_1, d.before a0 Z = true) (ws : List Jvm.Cond) (q1 : Int64) (p2 : Int32) (p3 : Int32) (q4 : Int64) (w : Addr) (h0 : Heap) (n0 : Nat) (O0 : Old Z n0 h0) (SW : Sta Z Z.heap "java/util/concurrent/TimeUnit" "SECONDS" "Ljava/util/concurrent/TimeUnit;" (.ref w)) (EW : Exa Z Z.heap w "java/util/concurrent/TimeUnit") (FS : Fld Z Z.heap w "java/util/concurrent/TimeUnit" "scale" "J" (.long (1000000000 : Int64))) (FM : Fld Z Z.heap w "java/util/concurrent/TimeUnit" "maxNanos" "J" (.long (9223372036 : Int64))) :
    MetFree l x (head1 (Jvm.Cond.code x code maxLocals ret :: ws) room_1) (fun args_ U => args_ = #[(.long q1), (.int p2), (.int p3), (.long q4)] ∧ Z.Warmed39 U.vm ∧ U.heap = h0) (fun _ _ _ _ _ => True) (fun _ U o U' => ∃ v L, o = .returned v ∧ (own_Q_own_rm0 Z q1 p2 p3 q4 w h0 n0) v U'.heap L ∧ FrameEnd U o U' L room_1.cells room_1.slots) := by
  refine MetFree.of_bodySF (plainFor_of_name own_pn2) hisR ?_
  intro p e s m args below meth c s₁ Bd hml0 hP hK
  obtain ⟨rfl, hZ, hh⟩ := hP
  have hx := Bd.exec
  have hby := Bd.bytes
  have hml : c.maxLocals = 14 := hml0
  have hown : s.vm.findClass "com/example/respite/respite/cli/WindowIsOverAtPinLaw" = some m.cls := findClass_of_methodNamed Bd.named
  have hnm := (name_of_methodNamed Bd.named Bd.method).1
  have X0 : Stand p l e room_1 s m #[(.long q1), (.int p2), (.int p3), (.long q4)] below meth c s₁ [] 0 0 := Stand.of_body Bd
  have e0 : s₁.heap = h0 := by rw [← hh, Bd.state]; rfl
  have N0 := Fr.nil n0
  refine own_close (s := s) (Q := (own_Q_own_rm0 Z q1 p2 p3 q4 w h0 n0)) (C := (room_1).cells) (N := (room_1).slots) (own_st (fun _ kt => castTop (own_ef0 m q1 p2 p3 q4) kt) ?_)
  show own_Rch p e below _ s₁ (mkF m 0 #[.val (.long q1), .second, .val (.int p2), .val (.int p3), .val (.long q4), .second, .unset, .unset, .unset, .unset, .unset, .unset, .unset, .unset] [])
  refine own_st (fun _ kt => XS.iloadN X0.here hx rfl (hb hby at_0) rfl  kt) ?_
  show own_Rch p e below _ s₁ (mkF m 1 #[.val (.long q1), .second, .val (.int p2), .val (.int p3), .val (.long q4), .second, .unset, .unset, .unset, .unset, .unset, .unset, .unset, .unset] [(.int p2)])
  refine own_st (X0.ldcInt hx hown (mvT hZ (hw _ (List.mem_of_getElem? (i := 0) rfl))) (g := (mkF m 1 #[.val (.long q1), .second, .val (.int p2), .val (.int p3), .val (.long q4), .second, .unset, .unset, .unset, .unset, .unset, .unset, .unset, .unset] [(.int p2)])) rfl (hb hby at_1)) ?_
  show own_Rch p e below _ s₁ (mkF m 3 #[.val (.long q1), .second, .val (.int p2), .val (.int p3), .val (.long q4), .second, .unset, .unset, .unset, .unset, .unset, .unset, .unset, .unset] [(.int (2147483647 : Int32)), (.int p2)])
  refine own_st (fun _ kt => XS.iand X0.here hx rfl (hb hby at_3) rfl kt) ?_
  show own_Rch p e below _ s₁ (mkF m 4 #[.val (.long q1), .second, .val (.int p2), .val (.int p3), .val (.long q4), .second, .unset, .unset, .unset, .unset, .unset, .unset, .unset, .unset] [(.int (p2 &&& (2147483647 : Int32)))])
  refine own_st (fun _ kt => XS.istore X0.here hx rfl (hb hby at_4) rfl (l' := #[.val (.long q1), .second, .val (.int p2), .val (.int p3), .val (.long q4), .second, .val (.int (p2 &&& (2147483647 : Int32))), .unset, .unset, .unset, .unset, .unset, .unset, .unset]) rfl kt) ?_
  show own_Rch p e below _ s₁ (mkF m 6 #[.val (.long q1), .second, .val (.int p2), .val (.int p3), .val (.long q4), .second, .val (.int (p2 &&& (2147483647 : Int32))), .unset, .unset, .unset, .unset, .unset, .unset, .unset] [])
  refine own_st (fun _ kt => XS.iloadN X0.here hx rfl (hb hby at_6) rfl  kt) ?_
  show own_Rch p e below _ s₁ (mkF m 7 #[.val (.long q1), .second, .val (.int p2), .val (.int p3), .val (.long q4), .second, .val (.int (p2 &&& (2147483647 : Int32))), .unset, .unset, .unset, .unset, .unset, .unset, .unset] [(.int p3)])
  refine own_st (X0.ldcInt hx hown (mvT hZ (hw _ (List.mem_of_getElem? (i := 0) rfl))) (g := (mkF m 7 #[.val (.long q1), .second, .val (.int p2), .val (.int p3), .val (.long q4), .second, .val (.int (p2 &&& (2147483647 : Int32))), .unset, .unset, .unset, .unset, .unset, .unset, .unset] [(.int p3)])) rfl (hb hby at_7)) ?_
  show own_Rch p e below _ s₁ (mkF m 9 #[.val (.long q1), .second, .val (.int p2), .val (.int p3), .val (.long q4), .second, .val (.int (p2 &&& (2147483647 : Int32))), .unset, .unset, .unset, .unset, .unset, .unset, .unset] [(.int (2147483647 : Int32)), (.int p3)])
  refine own_st (fun _ kt => XS.iand X0.here hx rfl (hb hby at_9) rfl kt) ?_
  show own_Rch p e below _ s₁ (mkF m 10 #[.val (.long q1), .second, .val (.int p2), .val (.int p3), .val (.long q4), .second, .val (.int (p2 &&& (2147483647 : Int32))), .unset, .unset, .unset, .unset, .unset, .unset, .unset] [(.int (p3 &&& (2147483647 : Int32)))])
  refine own_st (fun _ kt => XS.istore X0.here hx rfl (hb hby at_10) rfl (l' := #[.val (.long q1), .second, .val (.int p2), .val (.int p3), .val (.long q4), .second, .val (.int (p2 &&& (2147483647 : Int32))), .val (.int (p3 &&& (2147483647 : Int32))), .unset, .unset, .unset, .unset, .unset, .unset]) rfl kt) ?_
  show own_Rch p e below _ s₁ (mkF m 12 #[.val (.long q1), .second, .val (.int p2), .val (.int p3), .val (.long q4), .second, .val (.int (p2 &&& (2147483647 : Int32))), .val (.int (p3 &&& (2147483647 : Int32))), .unset, .unset, .unset, .unset, .unset, .unset] [])
  obtain ⟨T1, h1, X1, e1, E1, A1, D1, U1, st1⟩ := newO X0 hx hZ hown (hw _ (List.mem_of_getElem? (i := 1) rfl)) (hw _ (List.mem_of_getElem? (i := 2) rfl)) (hw _ (List.mem_of_getElem? (i := 3) rfl)) e0 (g := (mkF m 12 #[.val (.long q1), .second, .val (.int p2), .val (.int p3), .val (.long q4), .second, .val (.int (p2 &&& (2147483647 : Int32))), .val (.int (p3 &&& (2147483647 : Int32))), .unset, .unset, .unset, .unset, .unset, .unset] [])) rfl (hb hby at_12) (by decide) (by decide)
  obtain ⟨b1, g1⟩ : ∃ z, z = h0.size := ⟨_, rfl⟩
  rw [← g1] at A1 D1 U1 st1
  have ge1 : n0 ≤ b1 := by rw [g1]; exact own_old_le O0
  have O0_x1 := O0.ext E1
  refine own_st st1 ?_
  have F1_measuredFrom : Fld Z h1 b1 "com/example/respite/respite/cli/Window" "measuredFrom" "J" (.long (0 : Int64)) := D1 (Or.inr (hw _ (List.mem_of_getElem? (i := 22) rfl))) (ty := .long) (by decide)
  have F1_measuredUntil : Fld Z h1 b1 "com/example/respite/respite/cli/Window" "measuredUntil" "J" (.long (0 : Int64)) := D1 (Or.inr (hw _ (List.mem_of_getElem? (i := 24) rfl))) (ty := .long) (by decide)
  show own_Rch p e below _ T1 (mkF m 15 #[.val (.long q1), .second, .val (.int p2), .val (.int p3), .val (.long q4), .second, .val (.int (p2 &&& (2147483647 : Int32))), .val (.int (p3 &&& (2147483647 : Int32))), .unset, .unset, .unset, .unset, .unset, .unset] [(.ref b1)])
  refine own_st (fun _ kt => XS.dup X1.here hx rfl (hb hby at_15) rfl rfl kt) ?_
  show own_Rch p e below _ T1 (mkF m 16 #[.val (.long q1), .second, .val (.int p2), .val (.int p3), .val (.long q4), .second, .val (.int (p2 &&& (2147483647 : Int32))), .val (.int (p3 &&& (2147483647 : Int32))), .unset, .unset, .unset, .unset, .unset, .unset] [(.ref b1), (.ref b1)])
  refine own_st (fun _ kt => XS.lloadN X1.here hx rfl (hb hby at_16) rfl  kt) ?_
  show own_Rch p e below _ T1 (mkF m 17 #[.val (.long q1), .second, .val (.int p2), .val (.int p3), .val (.long q4), .second, .val (.int (p2 &&& (2147483647 : Int32))), .val (.int (p3 &&& (2147483647 : Int32))), .unset, .unset, .unset, .unset, .unset, .unset] [(.long q1), (.ref b1), (.ref b1)])
  refine own_st (fun _ kt => XS.iload X1.here hx rfl (hb hby at_17) rfl  kt) ?_
  show own_Rch p e below _ T1 (mkF m 19 #[.val (.long q1), .second, .val (.int p2), .val (.int p3), .val (.long q4), .second, .val (.int (p2 &&& (2147483647 : Int32))), .val (.int (p3 &&& (2147483647 : Int32))), .unset, .unset, .unset, .unset, .unset, .unset] [(.int (p2 &&& (2147483647 : Int32))), (.long q1), (.ref b1), (.ref b1)])
  refine own_st (fun _ kt => XS.iload X1.here hx rfl (hb hby at_19) rfl  kt) ?_
  show own_Rch p e below _ T1 (mkF m 21 #[.val (.long q1), .second, .val (.int p2), .val (.int p3), .val (.long q4), .second, .val (.int (p2 &&& (2147483647 : Int32))), .val (.int (p3 &&& (2147483647 : Int32))), .unset, .unset, .unset, .unset, .unset, .unset] [(.int (p3 &&& (2147483647 : Int32))), (.int (p2 &&& (2147483647 : Int32))), (.long q1), (.ref b1), (.ref b1)])
  obtain ⟨_, _, ⟨T2, L2, k2, n2⟩, -, X2, ⟨Lc2, hQ2, l2, y2, z2⟩, st2⟩ := X1.specialBack hx (y := (⟨"com/example/respite/respite/cli/Window", "<init>", "(JII)V"⟩ : MethodName)) rfl hown (mvT hZ (hw _ (List.mem_of_getElem? (i := 4) rfl))) (mvT hZ (hw _ (List.mem_of_getElem? (i := 5) rfl))) (mvT hZ (hw _ (List.mem_of_getElem? (i := 6) rfl))) (by decide) (backOf (W := 1) (own_win l Z a0 hw [] b1 q1 (p2 &&& (2147483647 : Int32)) (p3 &&& (2147483647 : Int32)) w h1 n0 O0_x1 SW EW FS FM A1 F1_measuredFrom F1_measuredUntil ge1) hZ (hw _ (List.mem_of_getElem? (i := 6) rfl)) (hw _ (List.mem_of_getElem? (i := 3) rfl)) (by decide) (by decide)) (g := (mkF m 21 #[.val (.long q1), .second, .val (.int p2), .val (.int p3), .val (.long q4), .second, .val (.int (p2 &&& (2147483647 : Int32))), .val (.int (p3 &&& (2147483647 : Int32))), .unset, .unset, .unset, .unset, .unset, .unset] [(.int (p3 &&& (2147483647 : Int32))), (.int (p2 &&& (2147483647 : Int32))), (.long q1), (.ref b1), (.ref b1)])) rfl (by rw [hml]; rfl) (Steps.refl _) (a := b1) (argsL := [(.long q1), (.int (p2 &&& (2147483647 : Int32))), (.int (p3 &&& (2147483647 : Int32)))]) (rest := [(.ref b1)]) (lenOf own_pd1 rfl) rfl (by show 2 * 0 + _ ≤ _; exact Nat.le_of_eq rfl) (hb hby at_21) (fun _ _ => ⟨rfl, e1, (by decide : 1 + 0 ≤ _), (by decide : 2 + 0 ≤ _)⟩)
  dsimp only [Pt.U, Pt.locs, Pt.cells, Pt.slots] at X2 l2 y2 z2 st2 hQ2
  subst l2 y2 z2
  obtain ⟨rfl, N2q, K2, Ea2, Ff2, Fu2⟩ := hQ2
  have N2 := Fr.app N0 N2q
  refine own_st (fun _ kt => st2.trans kt) ?_
  have O0_x2 := O0_x1.keep K2 (allS ge1 all0)
  have A1_x2 := A1.keep K2
  show own_Rch p e below _ T2 (mkF m 24 #[.val (.long q1), .second, .val (.int p2), .val (.int p3), .val (.long q4), .second, .val (.int (p2 &&& (2147483647 : Int32))), .val (.int (p3 &&& (2147483647 : Int32))), .unset, .unset, .unset, .unset, .unset, .unset] [(.ref b1)])
  refine own_st (fun _ kt => XS.astore X2.here hx rfl (hb hby at_24) rfl rfl (l' := #[.val (.long q1), .second, .val (.int p2), .val (.int p3), .val (.long q4), .second, .val (.int (p2 &&& (2147483647 : Int32))), .val (.int (p3 &&& (2147483647 : Int32))), .val (.ref b1), .unset, .unset, .unset, .unset, .unset]) rfl kt) ?_
  show own_Rch p e below _ T2 (mkF m 26 #[.val (.long q1), .second, .val (.int p2), .val (.int p3), .val (.long q4), .second, .val (.int (p2 &&& (2147483647 : Int32))), .val (.int (p3 &&& (2147483647 : Int32))), .val (.ref b1), .unset, .unset, .unset, .unset, .unset] [])
  refine own_st (fun _ kt => XS.lloadN X2.here hx rfl (hb hby at_26) rfl  kt) ?_
  show own_Rch p e below _ T2 (mkF m 27 #[.val (.long q1), .second, .val (.int p2), .val (.int p3), .val (.long q4), .second, .val (.int (p2 &&& (2147483647 : Int32))), .val (.int (p3 &&& (2147483647 : Int32))), .val (.ref b1), .unset, .unset, .unset, .unset, .unset] [(.long q1)])
  refine own_st (fun _ kt => XS.iload X2.here hx rfl (hb hby at_27) rfl  kt) ?_
  show own_Rch p e below _ T2 (mkF m 29 #[.val (.long q1), .second, .val (.int p2), .val (.int p3), .val (.long q4), .second, .val (.int (p2 &&& (2147483647 : Int32))), .val (.int (p3 &&& (2147483647 : Int32))), .val (.ref b1), .unset, .unset, .unset, .unset, .unset] [(.int (p2 &&& (2147483647 : Int32))), (.long q1)])
  refine own_st (fun _ kt => XS.i2l X2.here hx rfl (hb hby at_29) rfl kt) ?_
  show own_Rch p e below _ T2 (mkF m 30 #[.val (.long q1), .second, .val (.int p2), .val (.int p3), .val (.long q4), .second, .val (.int (p2 &&& (2147483647 : Int32))), .val (.int (p3 &&& (2147483647 : Int32))), .val (.ref b1), .unset, .unset, .unset, .unset, .unset] [(.long ((p2 &&& (2147483647 : Int32)).toInt64)), (.long q1)])
  refine own_st (X2.ldc2Long hx hown (mvT hZ (hw _ (List.mem_of_getElem? (i := 25) rfl))) (g := (mkF m 30 #[.val (.long q1), .second, .val (.int p2), .val (.int p3), .val (.long q4), .second, .val (.int (p2 &&& (2147483647 : Int32))), .val (.int (p3 &&& (2147483647 : Int32))), .val (.ref b1), .unset, .unset, .unset, .unset, .unset] [(.long ((p2 &&& (2147483647 : Int32)).toInt64)), (.long q1)])) rfl (hb hby at_30)) ?_
  show own_Rch p e below _ T2 (mkF m 33 #[.val (.long q1), .second, .val (.int p2), .val (.int p3), .val (.long q4), .second, .val (.int (p2 &&& (2147483647 : Int32))), .val (.int (p3 &&& (2147483647 : Int32))), .val (.ref b1), .unset, .unset, .unset, .unset, .unset] [(.long (1000000000 : Int64)), (.long ((p2 &&& (2147483647 : Int32)).toInt64)), (.long q1)])
  refine own_st (fun _ kt => XS.lmul X2.here hx rfl (hb hby at_33) rfl kt) ?_
  show own_Rch p e below _ T2 (mkF m 34 #[.val (.long q1), .second, .val (.int p2), .val (.int p3), .val (.long q4), .second, .val (.int (p2 &&& (2147483647 : Int32))), .val (.int (p3 &&& (2147483647 : Int32))), .val (.ref b1), .unset, .unset, .unset, .unset, .unset] [(.long (((p2 &&& (2147483647 : Int32)).toInt64) * (1000000000 : Int64))), (.long q1)])
  refine own_st (fun _ kt => XS.ladd X2.here hx rfl (hb hby at_34) rfl kt) ?_
  show own_Rch p e below _ T2 (mkF m 35 #[.val (.long q1), .second, .val (.int p2), .val (.int p3), .val (.long q4), .second, .val (.int (p2 &&& (2147483647 : Int32))), .val (.int (p3 &&& (2147483647 : Int32))), .val (.ref b1), .unset, .unset, .unset, .unset, .unset] [(.long (q1 + (((p2 &&& (2147483647 : Int32)).toInt64) * (1000000000 : Int64))))])
  refine own_st (fun _ kt => XS.iload X2.here hx rfl (hb hby at_35) rfl  kt) ?_
  show own_Rch p e below _ T2 (mkF m 37 #[.val (.long q1), .second, .val (.int p2), .val (.int p3), .val (.long q4), .second, .val (.int (p2 &&& (2147483647 : Int32))), .val (.int (p3 &&& (2147483647 : Int32))), .val (.ref b1), .unset, .unset, .unset, .unset, .unset] [(.int (p3 &&& (2147483647 : Int32))), (.long (q1 + (((p2 &&& (2147483647 : Int32)).toInt64) * (1000000000 : Int64))))])
  refine own_st (fun _ kt => XS.i2l X2.here hx rfl (hb hby at_37) rfl kt) ?_
  show own_Rch p e below _ T2 (mkF m 38 #[.val (.long q1), .second, .val (.int p2), .val (.int p3), .val (.long q4), .second, .val (.int (p2 &&& (2147483647 : Int32))), .val (.int (p3 &&& (2147483647 : Int32))), .val (.ref b1), .unset, .unset, .unset, .unset, .unset] [(.long ((p3 &&& (2147483647 : Int32)).toInt64)), (.long (q1 + (((p2 &&& (2147483647 : Int32)).toInt64) * (1000000000 : Int64))))])
  refine own_st (X2.ldc2Long hx hown (mvT hZ (hw _ (List.mem_of_getElem? (i := 25) rfl))) (g := (mkF m 38 #[.val (.long q1), .second, .val (.int p2), .val (.int p3), .val (.long q4), .second, .val (.int (p2 &&& (2147483647 : Int32))), .val (.int (p3 &&& (2147483647 : Int32))), .val (.ref b1), .unset, .unset, .unset, .unset, .unset] [(.long ((p3 &&& (2147483647 : Int32)).toInt64)), (.long (q1 + (((p2 &&& (2147483647 : Int32)).toInt64) * (1000000000 : Int64))))])) rfl (hb hby at_38)) ?_
  show own_Rch p e below _ T2 (mkF m 41 #[.val (.long q1), .second, .val (.int p2), .val (.int p3), .val (.long q4), .second, .val (.int (p2 &&& (2147483647 : Int32))), .val (.int (p3 &&& (2147483647 : Int32))), .val (.ref b1), .unset, .unset, .unset, .unset, .unset] [(.long (1000000000 : Int64)), (.long ((p3 &&& (2147483647 : Int32)).toInt64)), (.long (q1 + (((p2 &&& (2147483647 : Int32)).toInt64) * (1000000000 : Int64))))])
  refine own_st (fun _ kt => XS.lmul X2.here hx rfl (hb hby at_41) rfl kt) ?_
  show own_Rch p e below _ T2 (mkF m 42 #[.val (.long q1), .second, .val (.int p2), .val (.int p3), .val (.long q4), .second, .val (.int (p2 &&& (2147483647 : Int32))), .val (.int (p3 &&& (2147483647 : Int32))), .val (.ref b1), .unset, .unset, .unset, .unset, .unset] [(.long (((p3 &&& (2147483647 : Int32)).toInt64) * (1000000000 : Int64))), (.long (q1 + (((p2 &&& (2147483647 : Int32)).toInt64) * (1000000000 : Int64))))])
  refine own_st (fun _ kt => XS.ladd X2.here hx rfl (hb hby at_42) rfl kt) ?_
  show own_Rch p e below _ T2 (mkF m 43 #[.val (.long q1), .second, .val (.int p2), .val (.int p3), .val (.long q4), .second, .val (.int (p2 &&& (2147483647 : Int32))), .val (.int (p3 &&& (2147483647 : Int32))), .val (.ref b1), .unset, .unset, .unset, .unset, .unset] [(.long ((q1 + (((p2 &&& (2147483647 : Int32)).toInt64) * (1000000000 : Int64))) + (((p3 &&& (2147483647 : Int32)).toInt64) * (1000000000 : Int64))))])
  refine own_st (fun _ kt => XS.lstore X2.here hx rfl (hb hby at_43) rfl (l' := #[.val (.long q1), .second, .val (.int p2), .val (.int p3), .val (.long q4), .second, .val (.int (p2 &&& (2147483647 : Int32))), .val (.int (p3 &&& (2147483647 : Int32))), .val (.ref b1), .val (.long ((q1 + (((p2 &&& (2147483647 : Int32)).toInt64) * (1000000000 : Int64))) + (((p3 &&& (2147483647 : Int32)).toInt64) * (1000000000 : Int64)))), .second, .unset, .unset, .unset]) rfl kt) ?_
  show own_Rch p e below _ T2 (mkF m 45 #[.val (.long q1), .second, .val (.int p2), .val (.int p3), .val (.long q4), .second, .val (.int (p2 &&& (2147483647 : Int32))), .val (.int (p3 &&& (2147483647 : Int32))), .val (.ref b1), .val (.long ((q1 + (((p2 &&& (2147483647 : Int32)).toInt64) * (1000000000 : Int64))) + (((p3 &&& (2147483647 : Int32)).toInt64) * (1000000000 : Int64)))), .second, .unset, .unset, .unset] [])
  refine own_st (fun _ kt => XS.lload X2.here hx rfl (hb hby at_45) rfl  kt) ?_
  show own_Rch p e below _ T2 (mkF m 47 #[.val (.long q1), .second, .val (.int p2), .val (.int p3), .val (.long q4), .second, .val (.int (p2 &&& (2147483647 : Int32))), .val (.int (p3 &&& (2147483647 : Int32))), .val (.ref b1), .val (.long ((q1 + (((p2 &&& (2147483647 : Int32)).toInt64) * (1000000000 : Int64))) + (((p3 &&& (2147483647 : Int32)).toInt64) * (1000000000 : Int64)))), .second, .unset, .unset, .unset] [(.long ((q1 + (((p2 &&& (2147483647 : Int32)).toInt64) * (1000000000 : Int64))) + (((p3 &&& (2147483647 : Int32)).toInt64) * (1000000000 : Int64))))])
  refine own_st (fun _ kt => XS.lload X2.here hx rfl (hb hby at_47) rfl  kt) ?_
  show own_Rch p e below _ T2 (mkF m 49 #[.val (.long q1), .second, .val (.int p2), .val (.int p3), .val (.long q4), .second, .val (.int (p2 &&& (2147483647 : Int32))), .val (.int (p3 &&& (2147483647 : Int32))), .val (.ref b1), .val (.long ((q1 + (((p2 &&& (2147483647 : Int32)).toInt64) * (1000000000 : Int64))) + (((p3 &&& (2147483647 : Int32)).toInt64) * (1000000000 : Int64)))), .second, .unset, .unset, .unset] [(.long q4), (.long ((q1 + (((p2 &&& (2147483647 : Int32)).toInt64) * (1000000000 : Int64))) + (((p3 &&& (2147483647 : Int32)).toInt64) * (1000000000 : Int64))))])
  refine own_st (fun _ kt => XS.ladd X2.here hx rfl (hb hby at_49) rfl kt) ?_
  show own_Rch p e below _ T2 (mkF m 50 #[.val (.long q1), .second, .val (.int p2), .val (.int p3), .val (.long q4), .second, .val (.int (p2 &&& (2147483647 : Int32))), .val (.int (p3 &&& (2147483647 : Int32))), .val (.ref b1), .val (.long ((q1 + (((p2 &&& (2147483647 : Int32)).toInt64) * (1000000000 : Int64))) + (((p3 &&& (2147483647 : Int32)).toInt64) * (1000000000 : Int64)))), .second, .unset, .unset, .unset] [(.long (((q1 + (((p2 &&& (2147483647 : Int32)).toInt64) * (1000000000 : Int64))) + (((p3 &&& (2147483647 : Int32)).toInt64) * (1000000000 : Int64))) + q4))])
  refine own_st (fun _ kt => XS.lstore X2.here hx rfl (hb hby at_50) rfl (l' := #[.val (.long q1), .second, .val (.int p2), .val (.int p3), .val (.long q4), .second, .val (.int (p2 &&& (2147483647 : Int32))), .val (.int (p3 &&& (2147483647 : Int32))), .val (.ref b1), .val (.long ((q1 + (((p2 &&& (2147483647 : Int32)).toInt64) * (1000000000 : Int64))) + (((p3 &&& (2147483647 : Int32)).toInt64) * (1000000000 : Int64)))), .second, .val (.long (((q1 + (((p2 &&& (2147483647 : Int32)).toInt64) * (1000000000 : Int64))) + (((p3 &&& (2147483647 : Int32)).toInt64) * (1000000000 : Int64))) + q4)), .second, .unset]) rfl kt) ?_
  show own_Rch p e below _ T2 (mkF m 52 #[.val (.long q1), .second, .val (.int p2), .val (.int p3), .val (.long q4), .second, .val (.int (p2 &&& (2147483647 : Int32))), .val (.int (p3 &&& (2147483647 : Int32))), .val (.ref b1), .val (.long ((q1 + (((p2 &&& (2147483647 : Int32)).toInt64) * (1000000000 : Int64))) + (((p3 &&& (2147483647 : Int32)).toInt64) * (1000000000 : Int64)))), .second, .val (.long (((q1 + (((p2 &&& (2147483647 : Int32)).toInt64) * (1000000000 : Int64))) + (((p3 &&& (2147483647 : Int32)).toInt64) * (1000000000 : Int64))) + q4)), .second, .unset] [])
  refine own_st (fun _ kt => XS.lload X2.here hx rfl (hb hby at_52) rfl  kt) ?_
  show own_Rch p e below _ T2 (mkF m 54 #[.val (.long q1), .second, .val (.int p2), .val (.int p3), .val (.long q4), .second, .val (.int (p2 &&& (2147483647 : Int32))), .val (.int (p3 &&& (2147483647 : Int32))), .val (.ref b1), .val (.long ((q1 + (((p2 &&& (2147483647 : Int32)).toInt64) * (1000000000 : Int64))) + (((p3 &&& (2147483647 : Int32)).toInt64) * (1000000000 : Int64)))), .second, .val (.long (((q1 + (((p2 &&& (2147483647 : Int32)).toInt64) * (1000000000 : Int64))) + (((p3 &&& (2147483647 : Int32)).toInt64) * (1000000000 : Int64))) + q4)), .second, .unset] [(.long q4)])
  refine own_st (fun _ kt => XS.lconst X2.here hx rfl (hb hby at_54) kt) ?_
  show own_Rch p e below _ T2 (mkF m 55 #[.val (.long q1), .second, .val (.int p2), .val (.int p3), .val (.long q4), .second, .val (.int (p2 &&& (2147483647 : Int32))), .val (.int (p3 &&& (2147483647 : Int32))), .val (.ref b1), .val (.long ((q1 + (((p2 &&& (2147483647 : Int32)).toInt64) * (1000000000 : Int64))) + (((p3 &&& (2147483647 : Int32)).toInt64) * (1000000000 : Int64)))), .second, .val (.long (((q1 + (((p2 &&& (2147483647 : Int32)).toInt64) * (1000000000 : Int64))) + (((p3 &&& (2147483647 : Int32)).toInt64) * (1000000000 : Int64))) + q4)), .second, .unset] [(.long (0 : Int64)), (.long q4)])
  refine own_st (fun _ kt => XS.lcmp X2.here hx rfl (hb hby at_55) rfl kt) ?_
  show own_Rch p e below _ T2 (mkF m 56 #[.val (.long q1), .second, .val (.int p2), .val (.int p3), .val (.long q4), .second, .val (.int (p2 &&& (2147483647 : Int32))), .val (.int (p3 &&& (2147483647 : Int32))), .val (.ref b1), .val (.long ((q1 + (((p2 &&& (2147483647 : Int32)).toInt64) * (1000000000 : Int64))) + (((p3 &&& (2147483647 : Int32)).toInt64) * (1000000000 : Int64)))), .second, .val (.long (((q1 + (((p2 &&& (2147483647 : Int32)).toInt64) * (1000000000 : Int64))) + (((p3 &&& (2147483647 : Int32)).toInt64) * (1000000000 : Int64))) + q4)), .second, .unset] [(.int (lcmpW q4 (0 : Int64)))])
  by_cases hc56_3 : (lcmpW q4 (0 : Int64)) < (0 : Int32)
  · -- pc 56: True
    refine own_st (fun _ kt => XS.ifYes X2.here hx rfl (pc0 := 56) (pc' := 63) rfl (hb hby at_56) rfl ((if0 _ _).trans (tlt hc56_3).1) (by decide) (by decide) kt) ?_
    show own_Rch p e below _ T2 (mkF m 63 #[.val (.long q1), .second, .val (.int p2), .val (.int p3), .val (.long q4), .second, .val (.int (p2 &&& (2147483647 : Int32))), .val (.int (p3 &&& (2147483647 : Int32))), .val (.ref b1), .val (.long ((q1 + (((p2 &&& (2147483647 : Int32)).toInt64) * (1000000000 : Int64))) + (((p3 &&& (2147483647 : Int32)).toInt64) * (1000000000 : Int64)))), .second, .val (.long (((q1 + (((p2 &&& (2147483647 : Int32)).toInt64) * (1000000000 : Int64))) + (((p3 &&& (2147483647 : Int32)).toInt64) * (1000000000 : Int64))) + q4)), .second, .unset] [])
    refine own_st (fun _ kt => XS.iconst X2.here hx rfl (hb hby at_63) kt) ?_
    show own_Rch p e below _ T2 (mkF m 64 #[.val (.long q1), .second, .val (.int p2), .val (.int p3), .val (.long q4), .second, .val (.int (p2 &&& (2147483647 : Int32))), .val (.int (p3 &&& (2147483647 : Int32))), .val (.ref b1), .val (.long ((q1 + (((p2 &&& (2147483647 : Int32)).toInt64) * (1000000000 : Int64))) + (((p3 &&& (2147483647 : Int32)).toInt64) * (1000000000 : Int64)))), .second, .val (.long (((q1 + (((p2 &&& (2147483647 : Int32)).toInt64) * (1000000000 : Int64))) + (((p3 &&& (2147483647 : Int32)).toInt64) * (1000000000 : Int64))) + q4)), .second, .unset] [(.int (0 : Int32))])
    refine own_st (fun _ kt => XS.istore X2.here hx rfl (hb hby at_64) rfl (l' := #[.val (.long q1), .second, .val (.int p2), .val (.int p3), .val (.long q4), .second, .val (.int (p2 &&& (2147483647 : Int32))), .val (.int (p3 &&& (2147483647 : Int32))), .val (.ref b1), .val (.long ((q1 + (((p2 &&& (2147483647 : Int32)).toInt64) * (1000000000 : Int64))) + (((p3 &&& (2147483647 : Int32)).toInt64) * (1000000000 : Int64)))), .second, .val (.long (((q1 + (((p2 &&& (2147483647 : Int32)).toInt64) * (1000000000 : Int64))) + (((p3 &&& (2147483647 : Int32)).toInt64) * (1000000000 : Int64))) + q4)), .second, .val (.int (0 : Int32))]) rfl kt) ?_
    show own_Rch p e below _ T2 (mkF m 66 #[.val (.long q1), .second, .val (.int p2), .val (.int p3), .val (.long q4), .second, .val (.int (p2 &&& (2147483647 : Int32))), .val (.int (p3 &&& (2147483647 : Int32))), .val (.ref b1), .val (.long ((q1 + (((p2 &&& (2147483647 : Int32)).toInt64) * (1000000000 : Int64))) + (((p3 &&& (2147483647 : Int32)).toInt64) * (1000000000 : Int64)))), .second, .val (.long (((q1 + (((p2 &&& (2147483647 : Int32)).toInt64) * (1000000000 : Int64))) + (((p3 &&& (2147483647 : Int32)).toInt64) * (1000000000 : Int64))) + q4)), .second, .val (.int (0 : Int32))] [])
    refine own_st (fun _ kt => XS.aload X2.here hx rfl (hb hby at_66) rfl rfl  kt) ?_
    show own_Rch p e below _ T2 (mkF m 68 #[.val (.long q1), .second, .val (.int p2), .val (.int p3), .val (.long q4), .second, .val (.int (p2 &&& (2147483647 : Int32))), .val (.int (p3 &&& (2147483647 : Int32))), .val (.ref b1), .val (.long ((q1 + (((p2 &&& (2147483647 : Int32)).toInt64) * (1000000000 : Int64))) + (((p3 &&& (2147483647 : Int32)).toInt64) * (1000000000 : Int64)))), .second, .val (.long (((q1 + (((p2 &&& (2147483647 : Int32)).toInt64) * (1000000000 : Int64))) + (((p3 &&& (2147483647 : Int32)).toInt64) * (1000000000 : Int64))) + q4)), .second, .val (.int (0 : Int32))] [(.ref b1)])
    refine own_st (fun _ kt => XS.lload X2.here hx rfl (hb hby at_68) rfl  kt) ?_
    show own_Rch p e below _ T2 (mkF m 70 #[.val (.long q1), .second, .val (.int p2), .val (.int p3), .val (.long q4), .second, .val (.int (p2 &&& (2147483647 : Int32))), .val (.int (p3 &&& (2147483647 : Int32))), .val (.ref b1), .val (.long ((q1 + (((p2 &&& (2147483647 : Int32)).toInt64) * (1000000000 : Int64))) + (((p3 &&& (2147483647 : Int32)).toInt64) * (1000000000 : Int64)))), .second, .val (.long (((q1 + (((p2 &&& (2147483647 : Int32)).toInt64) * (1000000000 : Int64))) + (((p3 &&& (2147483647 : Int32)).toInt64) * (1000000000 : Int64))) + q4)), .second, .val (.int (0 : Int32))] [(.long (((q1 + (((p2 &&& (2147483647 : Int32)).toInt64) * (1000000000 : Int64))) + (((p3 &&& (2147483647 : Int32)).toInt64) * (1000000000 : Int64))) + q4)), (.ref b1)])
    obtain ⟨cq4, kq4, q4a, q4b, q4c⟩ := isOf hZ rfl Ea2
    obtain ⟨_, _, ⟨T4, L4, k4, n4⟩, -, X4, ⟨Lc4, hQ4, l4, y4, z4⟩, st4⟩ := X2.virtualBack hx (y := (⟨"com/example/respite/respite/cli/Window", "isOverAt", "(J)Z"⟩ : MethodName)) (z := (⟨"com/example/respite/respite/cli/Window", "isOverAt", "(J)Z"⟩ : MethodName)) hown (mvT hZ (hw _ (List.mem_of_getElem? (i := 26) rfl))) (mvT hZ (hw _ (List.mem_of_getElem? (i := 27) rfl))) (notFace_of_selects (args := #[]) (mvT hZ (hw _ (List.mem_of_getElem? (i := 29) rfl)))) (mvT hZ (hw _ (List.mem_of_getElem? (i := 29) rfl))) (mvT hZ (hw _ (List.mem_of_getElem? (i := 28) rfl))) (by decide) (backOf (W := 0) (own_isover l Z a0 hw [] b1 (((q1 + (((p2 &&& (2147483647 : Int32)).toInt64) * (1000000000 : Int64))) + (((p3 &&& (2147483647 : Int32)).toInt64) * (1000000000 : Int64))) + q4) ((q1 + (((p2 &&& (2147483647 : Int32)).toInt64) * (1000000000 : Int64))) + (((p3 &&& (2147483647 : Int32)).toInt64) * (1000000000 : Int64))) T2.heap n0 O0_x2 Fu2) hZ (hw _ (List.mem_of_getElem? (i := 30) rfl)) (hw _ (List.mem_of_getElem? (i := 3) rfl)) (by decide) (by decide)) q4a q4c (g := (mkF m 70 #[.val (.long q1), .second, .val (.int p2), .val (.int p3), .val (.long q4), .second, .val (.int (p2 &&& (2147483647 : Int32))), .val (.int (p3 &&& (2147483647 : Int32))), .val (.ref b1), .val (.long ((q1 + (((p2 &&& (2147483647 : Int32)).toInt64) * (1000000000 : Int64))) + (((p3 &&& (2147483647 : Int32)).toInt64) * (1000000000 : Int64)))), .second, .val (.long (((q1 + (((p2 &&& (2147483647 : Int32)).toInt64) * (1000000000 : Int64))) + (((p3 &&& (2147483647 : Int32)).toInt64) * (1000000000 : Int64))) + q4)), .second, .val (.int (0 : Int32))] [(.long (((q1 + (((p2 &&& (2147483647 : Int32)).toInt64) * (1000000000 : Int64))) + (((p3 &&& (2147483647 : Int32)).toInt64) * (1000000000 : Int64))) + q4)), (.ref b1)])) rfl (by rw [hml]; rfl) (Steps.refl _) (argsL := [(.long (((q1 + (((p2 &&& (2147483647 : Int32)).toInt64) * (1000000000 : Int64))) + (((p3 &&& (2147483647 : Int32)).toInt64) * (1000000000 : Int64))) + q4))]) (rest := []) (lenOf own_pd2 rfl) rfl (by show 2 * 0 + _ ≤ _; exact Nat.le_of_eq rfl) (hb hby at_70) (fun _ _ => ⟨rfl, rfl, (by decide : 1 + 0 ≤ _), (by decide : 2 + 0 ≤ _)⟩)
    dsimp only [Pt.U, Pt.locs, Pt.cells, Pt.slots] at X4 l4 y4 z4 st4 hQ4
    subst l4 y4 z4
    obtain ⟨rfl, N4q, hh4⟩ := hQ4
    have N4 := Fr.app N2 N4q
    refine own_st (fun _ kt => st4.trans kt) ?_
    show own_Rch p e below _ T4 (mkF m 73 #[.val (.long q1), .second, .val (.int p2), .val (.int p3), .val (.long q4), .second, .val (.int (p2 &&& (2147483647 : Int32))), .val (.int (p3 &&& (2147483647 : Int32))), .val (.ref b1), .val (.long ((q1 + (((p2 &&& (2147483647 : Int32)).toInt64) * (1000000000 : Int64))) + (((p3 &&& (2147483647 : Int32)).toInt64) * (1000000000 : Int64)))), .second, .val (.long (((q1 + (((p2 &&& (2147483647 : Int32)).toInt64) * (1000000000 : Int64))) + (((p3 &&& (2147483647 : Int32)).toInt64) * (1000000000 : Int64))) + q4)), .second, .val (.int (0 : Int32))] [(.int (own_over (((q1 + (((p2 &&& (2147483647 : Int32)).toInt64) * (1000000000 : Int64))) + (((p3 &&& (2147483647 : Int32)).toInt64) * (1000000000 : Int64))) + q4) ((q1 + (((p2 &&& (2147483647 : Int32)).toInt64) * (1000000000 : Int64))) + (((p3 &&& (2147483647 : Int32)).toInt64) * (1000000000 : Int64)))))])
    refine own_st (fun _ kt => XS.iload X4.here hx rfl (hb hby at_73) rfl  kt) ?_
    show own_Rch p e below _ T4 (mkF m 75 #[.val (.long q1), .second, .val (.int p2), .val (.int p3), .val (.long q4), .second, .val (.int (p2 &&& (2147483647 : Int32))), .val (.int (p3 &&& (2147483647 : Int32))), .val (.ref b1), .val (.long ((q1 + (((p2 &&& (2147483647 : Int32)).toInt64) * (1000000000 : Int64))) + (((p3 &&& (2147483647 : Int32)).toInt64) * (1000000000 : Int64)))), .second, .val (.long (((q1 + (((p2 &&& (2147483647 : Int32)).toInt64) * (1000000000 : Int64))) + (((p3 &&& (2147483647 : Int32)).toInt64) * (1000000000 : Int64))) + q4)), .second, .val (.int (0 : Int32))] [(.int (0 : Int32)), (.int (own_over (((q1 + (((p2 &&& (2147483647 : Int32)).toInt64) * (1000000000 : Int64))) + (((p3 &&& (2147483647 : Int32)).toInt64) * (1000000000 : Int64))) + q4) ((q1 + (((p2 &&& (2147483647 : Int32)).toInt64) * (1000000000 : Int64))) + (((p3 &&& (2147483647 : Int32)).toInt64) * (1000000000 : Int64)))))])
    refine own_st (fun _ kt => XS.icmpNo X4.here hx rfl (hb hby at_75) rfl (teq (by rw [lw_lt] at hc56_3; simp [own_over, own_cancel, hc56_3] : (own_over (((q1 + (((p2 &&& (2147483647 : Int32)).toInt64) * (1000000000 : Int64))) + (((p3 &&& (2147483647 : Int32)).toInt64) * (1000000000 : Int64))) + q4) ((q1 + (((p2 &&& (2147483647 : Int32)).toInt64) * (1000000000 : Int64))) + (((p3 &&& (2147483647 : Int32)).toInt64) * (1000000000 : Int64)))) = (0 : Int32))).2 kt) ?_
    show own_Rch p e below _ T4 (mkF m 78 #[.val (.long q1), .second, .val (.int p2), .val (.int p3), .val (.long q4), .second, .val (.int (p2 &&& (2147483647 : Int32))), .val (.int (p3 &&& (2147483647 : Int32))), .val (.ref b1), .val (.long ((q1 + (((p2 &&& (2147483647 : Int32)).toInt64) * (1000000000 : Int64))) + (((p3 &&& (2147483647 : Int32)).toInt64) * (1000000000 : Int64)))), .second, .val (.long (((q1 + (((p2 &&& (2147483647 : Int32)).toInt64) * (1000000000 : Int64))) + (((p3 &&& (2147483647 : Int32)).toInt64) * (1000000000 : Int64))) + q4)), .second, .val (.int (0 : Int32))] [])
    refine own_st (fun _ kt => XS.iconst X4.here hx rfl (hb hby at_78) kt) ?_
    show own_Rch p e below _ T4 (mkF m 79 #[.val (.long q1), .second, .val (.int p2), .val (.int p3), .val (.long q4), .second, .val (.int (p2 &&& (2147483647 : Int32))), .val (.int (p3 &&& (2147483647 : Int32))), .val (.ref b1), .val (.long ((q1 + (((p2 &&& (2147483647 : Int32)).toInt64) * (1000000000 : Int64))) + (((p3 &&& (2147483647 : Int32)).toInt64) * (1000000000 : Int64)))), .second, .val (.long (((q1 + (((p2 &&& (2147483647 : Int32)).toInt64) * (1000000000 : Int64))) + (((p3 &&& (2147483647 : Int32)).toInt64) * (1000000000 : Int64))) + q4)), .second, .val (.int (0 : Int32))] [(.int (1 : Int32))])
    refine own_st (fun _ kt => XS.goto X4.here hx rfl (pc0 := 79) (pc' := 83) rfl (hb hby at_79) (by decide) (by decide) kt) ?_
    show own_Rch p e below _ T4 (mkF m 83 #[.val (.long q1), .second, .val (.int p2), .val (.int p3), .val (.long q4), .second, .val (.int (p2 &&& (2147483647 : Int32))), .val (.int (p3 &&& (2147483647 : Int32))), .val (.ref b1), .val (.long ((q1 + (((p2 &&& (2147483647 : Int32)).toInt64) * (1000000000 : Int64))) + (((p3 &&& (2147483647 : Int32)).toInt64) * (1000000000 : Int64)))), .second, .val (.long (((q1 + (((p2 &&& (2147483647 : Int32)).toInt64) * (1000000000 : Int64))) + (((p3 &&& (2147483647 : Int32)).toInt64) * (1000000000 : Int64))) + q4)), .second, .val (.int (0 : Int32))] [(.int (1 : Int32))])
    refine own_retN (t := .boolean) (by simp) X4 hx Bd.notSynchronized Bd.returns (hb hby at_83) (by decide) (by decide) ?_
    rw [hh4]
    exact ⟨rfl, N4⟩
  · -- pc 56: False
    refine own_st (fun _ kt => XS.ifNo X2.here hx rfl (hb hby at_56) rfl ((if0 _ _).trans (flt hc56_3).1) kt) ?_
    show own_Rch p e below _ T2 (mkF m 59 #[.val (.long q1), .second, .val (.int p2), .val (.int p3), .val (.long q4), .second, .val (.int (p2 &&& (2147483647 : Int32))), .val (.int (p3 &&& (2147483647 : Int32))), .val (.ref b1), .val (.long ((q1 + (((p2 &&& (2147483647 : Int32)).toInt64) * (1000000000 : Int64))) + (((p3 &&& (2147483647 : Int32)).toInt64) * (1000000000 : Int64)))), .second, .val (.long (((q1 + (((p2 &&& (2147483647 : Int32)).toInt64) * (1000000000 : Int64))) + (((p3 &&& (2147483647 : Int32)).toInt64) * (1000000000 : Int64))) + q4)), .second, .unset] [])
    refine own_st (fun _ kt => XS.iconst X2.here hx rfl (hb hby at_59) kt) ?_
    show own_Rch p e below _ T2 (mkF m 60 #[.val (.long q1), .second, .val (.int p2), .val (.int p3), .val (.long q4), .second, .val (.int (p2 &&& (2147483647 : Int32))), .val (.int (p3 &&& (2147483647 : Int32))), .val (.ref b1), .val (.long ((q1 + (((p2 &&& (2147483647 : Int32)).toInt64) * (1000000000 : Int64))) + (((p3 &&& (2147483647 : Int32)).toInt64) * (1000000000 : Int64)))), .second, .val (.long (((q1 + (((p2 &&& (2147483647 : Int32)).toInt64) * (1000000000 : Int64))) + (((p3 &&& (2147483647 : Int32)).toInt64) * (1000000000 : Int64))) + q4)), .second, .unset] [(.int (1 : Int32))])
    refine own_st (fun _ kt => XS.goto X2.here hx rfl (pc0 := 60) (pc' := 64) rfl (hb hby at_60) (by decide) (by decide) kt) ?_
    show own_Rch p e below _ T2 (mkF m 64 #[.val (.long q1), .second, .val (.int p2), .val (.int p3), .val (.long q4), .second, .val (.int (p2 &&& (2147483647 : Int32))), .val (.int (p3 &&& (2147483647 : Int32))), .val (.ref b1), .val (.long ((q1 + (((p2 &&& (2147483647 : Int32)).toInt64) * (1000000000 : Int64))) + (((p3 &&& (2147483647 : Int32)).toInt64) * (1000000000 : Int64)))), .second, .val (.long (((q1 + (((p2 &&& (2147483647 : Int32)).toInt64) * (1000000000 : Int64))) + (((p3 &&& (2147483647 : Int32)).toInt64) * (1000000000 : Int64))) + q4)), .second, .unset] [(.int (1 : Int32))])
    refine own_st (fun _ kt => XS.istore X2.here hx rfl (hb hby at_64) rfl (l' := #[.val (.long q1), .second, .val (.int p2), .val (.int p3), .val (.long q4), .second, .val (.int (p2 &&& (2147483647 : Int32))), .val (.int (p3 &&& (2147483647 : Int32))), .val (.ref b1), .val (.long ((q1 + (((p2 &&& (2147483647 : Int32)).toInt64) * (1000000000 : Int64))) + (((p3 &&& (2147483647 : Int32)).toInt64) * (1000000000 : Int64)))), .second, .val (.long (((q1 + (((p2 &&& (2147483647 : Int32)).toInt64) * (1000000000 : Int64))) + (((p3 &&& (2147483647 : Int32)).toInt64) * (1000000000 : Int64))) + q4)), .second, .val (.int (1 : Int32))]) rfl kt) ?_
    show own_Rch p e below _ T2 (mkF m 66 #[.val (.long q1), .second, .val (.int p2), .val (.int p3), .val (.long q4), .second, .val (.int (p2 &&& (2147483647 : Int32))), .val (.int (p3 &&& (2147483647 : Int32))), .val (.ref b1), .val (.long ((q1 + (((p2 &&& (2147483647 : Int32)).toInt64) * (1000000000 : Int64))) + (((p3 &&& (2147483647 : Int32)).toInt64) * (1000000000 : Int64)))), .second, .val (.long (((q1 + (((p2 &&& (2147483647 : Int32)).toInt64) * (1000000000 : Int64))) + (((p3 &&& (2147483647 : Int32)).toInt64) * (1000000000 : Int64))) + q4)), .second, .val (.int (1 : Int32))] [])
    refine own_st (fun _ kt => XS.aload X2.here hx rfl (hb hby at_66) rfl rfl  kt) ?_
    show own_Rch p e below _ T2 (mkF m 68 #[.val (.long q1), .second, .val (.int p2), .val (.int p3), .val (.long q4), .second, .val (.int (p2 &&& (2147483647 : Int32))), .val (.int (p3 &&& (2147483647 : Int32))), .val (.ref b1), .val (.long ((q1 + (((p2 &&& (2147483647 : Int32)).toInt64) * (1000000000 : Int64))) + (((p3 &&& (2147483647 : Int32)).toInt64) * (1000000000 : Int64)))), .second, .val (.long (((q1 + (((p2 &&& (2147483647 : Int32)).toInt64) * (1000000000 : Int64))) + (((p3 &&& (2147483647 : Int32)).toInt64) * (1000000000 : Int64))) + q4)), .second, .val (.int (1 : Int32))] [(.ref b1)])
    refine own_st (fun _ kt => XS.lload X2.here hx rfl (hb hby at_68) rfl  kt) ?_
    show own_Rch p e below _ T2 (mkF m 70 #[.val (.long q1), .second, .val (.int p2), .val (.int p3), .val (.long q4), .second, .val (.int (p2 &&& (2147483647 : Int32))), .val (.int (p3 &&& (2147483647 : Int32))), .val (.ref b1), .val (.long ((q1 + (((p2 &&& (2147483647 : Int32)).toInt64) * (1000000000 : Int64))) + (((p3 &&& (2147483647 : Int32)).toInt64) * (1000000000 : Int64)))), .second, .val (.long (((q1 + (((p2 &&& (2147483647 : Int32)).toInt64) * (1000000000 : Int64))) + (((p3 &&& (2147483647 : Int32)).toInt64) * (1000000000 : Int64))) + q4)), .second, .val (.int (1 : Int32))] [(.long (((q1 + (((p2 &&& (2147483647 : Int32)).toInt64) * (1000000000 : Int64))) + (((p3 &&& (2147483647 : Int32)).toInt64) * (1000000000 : Int64))) + q4)), (.ref b1)])
    obtain ⟨cq5, kq5, q5a, q5b, q5c⟩ := isOf hZ rfl Ea2
    obtain ⟨_, _, ⟨T5, L5, k5, n5⟩, -, X5, ⟨Lc5, hQ5, l5, y5, z5⟩, st5⟩ := X2.virtualBack hx (y := (⟨"com/example/respite/respite/cli/Window", "isOverAt", "(J)Z"⟩ : MethodName)) (z := (⟨"com/example/respite/respite/cli/Window", "isOverAt", "(J)Z"⟩ : MethodName)) hown (mvT hZ (hw _ (List.mem_of_getElem? (i := 26) rfl))) (mvT hZ (hw _ (List.mem_of_getElem? (i := 27) rfl))) (notFace_of_selects (args := #[]) (mvT hZ (hw _ (List.mem_of_getElem? (i := 29) rfl)))) (mvT hZ (hw _ (List.mem_of_getElem? (i := 29) rfl))) (mvT hZ (hw _ (List.mem_of_getElem? (i := 28) rfl))) (by decide) (backOf (W := 0) (own_isover l Z a0 hw [] b1 (((q1 + (((p2 &&& (2147483647 : Int32)).toInt64) * (1000000000 : Int64))) + (((p3 &&& (2147483647 : Int32)).toInt64) * (1000000000 : Int64))) + q4) ((q1 + (((p2 &&& (2147483647 : Int32)).toInt64) * (1000000000 : Int64))) + (((p3 &&& (2147483647 : Int32)).toInt64) * (1000000000 : Int64))) T2.heap n0 O0_x2 Fu2) hZ (hw _ (List.mem_of_getElem? (i := 30) rfl)) (hw _ (List.mem_of_getElem? (i := 3) rfl)) (by decide) (by decide)) q5a q5c (g := (mkF m 70 #[.val (.long q1), .second, .val (.int p2), .val (.int p3), .val (.long q4), .second, .val (.int (p2 &&& (2147483647 : Int32))), .val (.int (p3 &&& (2147483647 : Int32))), .val (.ref b1), .val (.long ((q1 + (((p2 &&& (2147483647 : Int32)).toInt64) * (1000000000 : Int64))) + (((p3 &&& (2147483647 : Int32)).toInt64) * (1000000000 : Int64)))), .second, .val (.long (((q1 + (((p2 &&& (2147483647 : Int32)).toInt64) * (1000000000 : Int64))) + (((p3 &&& (2147483647 : Int32)).toInt64) * (1000000000 : Int64))) + q4)), .second, .val (.int (1 : Int32))] [(.long (((q1 + (((p2 &&& (2147483647 : Int32)).toInt64) * (1000000000 : Int64))) + (((p3 &&& (2147483647 : Int32)).toInt64) * (1000000000 : Int64))) + q4)), (.ref b1)])) rfl (by rw [hml]; rfl) (Steps.refl _) (argsL := [(.long (((q1 + (((p2 &&& (2147483647 : Int32)).toInt64) * (1000000000 : Int64))) + (((p3 &&& (2147483647 : Int32)).toInt64) * (1000000000 : Int64))) + q4))]) (rest := []) (lenOf own_pd2 rfl) rfl (by show 2 * 0 + _ ≤ _; exact Nat.le_of_eq rfl) (hb hby at_70) (fun _ _ => ⟨rfl, rfl, (by decide : 1 + 0 ≤ _), (by decide : 2 + 0 ≤ _)⟩)
    dsimp only [Pt.U, Pt.locs, Pt.cells, Pt.slots] at X5 l5 y5 z5 st5 hQ5
    subst l5 y5 z5
    obtain ⟨rfl, N5q, hh5⟩ := hQ5
    have N5 := Fr.app N2 N5q
    refine own_st (fun _ kt => st5.trans kt) ?_
    show own_Rch p e below _ T5 (mkF m 73 #[.val (.long q1), .second, .val (.int p2), .val (.int p3), .val (.long q4), .second, .val (.int (p2 &&& (2147483647 : Int32))), .val (.int (p3 &&& (2147483647 : Int32))), .val (.ref b1), .val (.long ((q1 + (((p2 &&& (2147483647 : Int32)).toInt64) * (1000000000 : Int64))) + (((p3 &&& (2147483647 : Int32)).toInt64) * (1000000000 : Int64)))), .second, .val (.long (((q1 + (((p2 &&& (2147483647 : Int32)).toInt64) * (1000000000 : Int64))) + (((p3 &&& (2147483647 : Int32)).toInt64) * (1000000000 : Int64))) + q4)), .second, .val (.int (1 : Int32))] [(.int (own_over (((q1 + (((p2 &&& (2147483647 : Int32)).toInt64) * (1000000000 : Int64))) + (((p3 &&& (2147483647 : Int32)).toInt64) * (1000000000 : Int64))) + q4) ((q1 + (((p2 &&& (2147483647 : Int32)).toInt64) * (1000000000 : Int64))) + (((p3 &&& (2147483647 : Int32)).toInt64) * (1000000000 : Int64)))))])
    refine own_st (fun _ kt => XS.iload X5.here hx rfl (hb hby at_73) rfl  kt) ?_
    show own_Rch p e below _ T5 (mkF m 75 #[.val (.long q1), .second, .val (.int p2), .val (.int p3), .val (.long q4), .second, .val (.int (p2 &&& (2147483647 : Int32))), .val (.int (p3 &&& (2147483647 : Int32))), .val (.ref b1), .val (.long ((q1 + (((p2 &&& (2147483647 : Int32)).toInt64) * (1000000000 : Int64))) + (((p3 &&& (2147483647 : Int32)).toInt64) * (1000000000 : Int64)))), .second, .val (.long (((q1 + (((p2 &&& (2147483647 : Int32)).toInt64) * (1000000000 : Int64))) + (((p3 &&& (2147483647 : Int32)).toInt64) * (1000000000 : Int64))) + q4)), .second, .val (.int (1 : Int32))] [(.int (1 : Int32)), (.int (own_over (((q1 + (((p2 &&& (2147483647 : Int32)).toInt64) * (1000000000 : Int64))) + (((p3 &&& (2147483647 : Int32)).toInt64) * (1000000000 : Int64))) + q4) ((q1 + (((p2 &&& (2147483647 : Int32)).toInt64) * (1000000000 : Int64))) + (((p3 &&& (2147483647 : Int32)).toInt64) * (1000000000 : Int64)))))])
    refine own_st (fun _ kt => XS.icmpNo X5.here hx rfl (hb hby at_75) rfl (teq (by rw [lw_lt] at hc56_3; simp [own_over, own_cancel, hc56_3] : (own_over (((q1 + (((p2 &&& (2147483647 : Int32)).toInt64) * (1000000000 : Int64))) + (((p3 &&& (2147483647 : Int32)).toInt64) * (1000000000 : Int64))) + q4) ((q1 + (((p2 &&& (2147483647 : Int32)).toInt64) * (1000000000 : Int64))) + (((p3 &&& (2147483647 : Int32)).toInt64) * (1000000000 : Int64)))) = (1 : Int32))).2 kt) ?_
    show own_Rch p e below _ T5 (mkF m 78 #[.val (.long q1), .second, .val (.int p2), .val (.int p3), .val (.long q4), .second, .val (.int (p2 &&& (2147483647 : Int32))), .val (.int (p3 &&& (2147483647 : Int32))), .val (.ref b1), .val (.long ((q1 + (((p2 &&& (2147483647 : Int32)).toInt64) * (1000000000 : Int64))) + (((p3 &&& (2147483647 : Int32)).toInt64) * (1000000000 : Int64)))), .second, .val (.long (((q1 + (((p2 &&& (2147483647 : Int32)).toInt64) * (1000000000 : Int64))) + (((p3 &&& (2147483647 : Int32)).toInt64) * (1000000000 : Int64))) + q4)), .second, .val (.int (1 : Int32))] [])
    refine own_st (fun _ kt => XS.iconst X5.here hx rfl (hb hby at_78) kt) ?_
    show own_Rch p e below _ T5 (mkF m 79 #[.val (.long q1), .second, .val (.int p2), .val (.int p3), .val (.long q4), .second, .val (.int (p2 &&& (2147483647 : Int32))), .val (.int (p3 &&& (2147483647 : Int32))), .val (.ref b1), .val (.long ((q1 + (((p2 &&& (2147483647 : Int32)).toInt64) * (1000000000 : Int64))) + (((p3 &&& (2147483647 : Int32)).toInt64) * (1000000000 : Int64)))), .second, .val (.long (((q1 + (((p2 &&& (2147483647 : Int32)).toInt64) * (1000000000 : Int64))) + (((p3 &&& (2147483647 : Int32)).toInt64) * (1000000000 : Int64))) + q4)), .second, .val (.int (1 : Int32))] [(.int (1 : Int32))])
    refine own_st (fun _ kt => XS.goto X5.here hx rfl (pc0 := 79) (pc' := 83) rfl (hb hby at_79) (by decide) (by decide) kt) ?_
    show own_Rch p e below _ T5 (mkF m 83 #[.val (.long q1), .second, .val (.int p2), .val (.int p3), .val (.long q4), .second, .val (.int (p2 &&& (2147483647 : Int32))), .val (.int (p3 &&& (2147483647 : Int32))), .val (.ref b1), .val (.long ((q1 + (((p2 &&& (2147483647 : Int32)).toInt64) * (1000000000 : Int64))) + (((p3 &&& (2147483647 : Int32)).toInt64) * (1000000000 : Int64)))), .second, .val (.long (((q1 + (((p2 &&& (2147483647 : Int32)).toInt64) * (1000000000 : Int64))) + (((p3 &&& (2147483647 : Int32)).toInt64) * (1000000000 : Int64))) + q4)), .second, .val (.int (1 : Int32))] [(.int (1 : Int32))])
    refine own_retN (t := .boolean) (by simp) X5 hx Bd.notSynchronized Bd.returns (hb hby at_83) (by decide) (by decide) ?_
    rw [hh5]
    exact ⟨rfl, N5⟩
set_option maxRecDepth 65536 in
set_option maxHeartbeats 40000000 in
theorem own_comes {Post : Tables → Env → Array Value → State → Outcome → State → Prop} (hpost : ∀ tb e args s v u, (limb_1_1.after args s (.returned v) u = true ∧ limb_1_2.after args s (.returned v) u = true ∧ True) → FrameEnd s (.returned v) u (Jvm.fieldLocs frame_1_writes args s ++ Jvm.arrayLocs frame_1_arrays args s ++ Jvm.staticLocs frame_1_statics s) 16 128 → Post tb e args s (.returned v) u) :
    ArmFor flags0 classFile x code maxLocals ret World_1 tables_1 room_1 Calls_1 rest_1 Pre_1 Post := by
  intro l hfl _ _ p e ha hc hk s m args below hf hA hF happ hP
  obtain ⟨hcalls, hrest, hpre⟩ := hP
  obtain ⟨-, -, -, hnamed, -, -, -, hat⟩ := (Spec.applies_iff hf).mp happ
  obtain ⟨hg, hn⟩ := and_e (Cond.before_iff.mp (show (Jvm.Cond.and given_1 narrow_1).before args s = true from hpre))
  obtain ⟨g0, g1⟩ := and_e hg
  obtain ⟨g2, g3⟩ := and_e g1
  obtain ⟨g4, g5⟩ := and_e g3
  obtain ⟨g6, g7⟩ := and_e g5
  obtain ⟨w0, w1, w2, w3, rfl⟩ : ∃ w0 w1 w2 w3 : Value, args = #[w0, w1, w2, w3] := by
    have hs : args.size = 4 := by simpa [Cond.value, given_1] using g0
    obtain ⟨L⟩ := args
    match L, hs with
    | [w0, w1, w2, w3], _ => exact ⟨w0, w1, w2, w3, rfl⟩
  have hw := fun d (hd : d ∈ tables_1) => atoms_spec (ws := Jvm.Cond.code x code maxLocals ret :: tables_1) hat d (List.mem_cons_of_mem _ hd)
  have hfit : Fit s := fun {y c} hc i hi => by
    obtain ⟨ha, rfl⟩ := Array.getElem?_eq_some_iff.mp hc
    have q := List.all_eq_true.mp ((Array.all_eq_true_iff_forall_mem.mp hF) _ (Array.getElem_mem ha)) i (List.mem_range.mpr hi)
    simpa [Array.getElem?_eq_getElem hi] using q
  obtain ⟨hsets, hown0⟩ := atoms_of _ (rest_1_c_eq ▸ (show rest_1_c.before _ s = true from hrest))
  have hr0 := Cond.before_iff.mp hown0
  obtain ⟨i0, ei0⟩ := isL_v g2
  obtain rfl : w0 = (.long i0) := Option.some.inj ei0
  obtain ⟨i1, ei1⟩ := is_v g4
  obtain rfl : w1 = (.int i1) := Option.some.inj ei1
  obtain ⟨i2, ei2⟩ := is_v g6
  obtain rfl : w2 = (.int i2) := Option.some.inj ei2
  obtain ⟨i3, ei3⟩ := isL_v g7
  obtain rfl : w3 = (.long i3) := Option.some.inj ei3
  obtain ⟨w, ev⟩ := exa_v (Cond.before_iff.mp (hsets _ (List.mem_of_getElem? (i := 2) rfl)))
  have EW := Exa.start ev (Cond.before_iff.mp (hsets _ (List.mem_of_getElem? (i := 2) rfl)))
  have SW := Sta.start ev (Or.inl (hsets _ (List.mem_of_getElem? (i := 1) rfl)))
  have FS := own_fldeqL ev (Cond.before_iff.mp (hsets _ (List.mem_of_getElem? (i := 5) rfl)))
  have FM := own_fldeqL ev (Cond.before_iff.mp (hsets _ (List.mem_of_getElem? (i := 6) rfl)))
  obtain ⟨n, o, h1, h2, h3, _, L, rfl, ⟨rfl, N⟩, hq⟩ := own_rm0 l s _ hw tables_1 i0 i1 i2 i3 w s.heap s.heap.size (Old.start s) SW EW FS FM p e ha hc hk s m _ below hf ((Spec.applies_iff_loose hf).mp happ).1 ⟨rfl, State.Warmed39.refl s, rfl⟩ trivial
  refine ⟨n, _, h1, h2, h3, hpost _ _ _ _ _ _ ⟨Cond.after_iff.mpr rfl, Cond.after_iff.mpr (eq_i res_at (Term.int_eval (1)) rfl), trivial⟩ ⟨hq.1, hq.2.1, (hq.2.2.sift fun y hy => Or.inr (N y hy)).mono (by decide) (by decide)⟩⟩
theorem main_1_1 : Claimed_1_1 := own_comes fun _ _ _ _ _ _ h hF => ⟨h.1, hF⟩
theorem main_1_2 : Claimed_1_2 := own_comes fun _ _ _ _ _ _ h hF => ⟨h.2.1, hF⟩
end Jvm.Pilot.@@N@@
namespace Jvm.Pilot.@@N@@
open Jvm Jvm.ClassFile Sem Op Lib Jvm.Free Jvm.Stand Jvm.Pilot.@@N@@.Jvm.D
/-! MADE BY PROGRAM (witnessworld.py) out of the Statement's table words and the real class files: 16 classes; the members and pool entries that the words name. The judged class is class 1, her method 1. -/
namespace start1
open Jvm.ClassFile
def u (s : String) : CpInfo := .utf8 (stringToUtf16 s)
/-- a pool by its gaps: so many unusable entries, then the entry; so many at the end -/
def gap : Nat → List CpInfo → List CpInfo
  | 0, r => r
  | n + 1, r => .unusable :: gap n r
def poolList (es : List (Nat × CpInfo)) (last : Nat) : List CpInfo := es.foldr (fun e r => gap e.1 (e.2 :: r)) (gap last [])
def pool (es : List (Nat × CpInfo)) (last : Nat) : Array CpInfo := ⟨poolList es last⟩
def fileOf (pool : Array CpInfo) (this : Nat) (attrs : Array Attribute := #[]) (ms : Array MethodInfo := #[]) (fl : Nat := 33) (sup : Nat := 0) (ifs : Array Nat := #[]) (fds : Array FieldInfo := #[]) : ClassFile where
  minorVersion := 0
  majorVersion := 65
  constantPool := pool
  accessFlags := fl
  thisClass := this
  superClass := sup
  interfaces := ifs
  fields := fds
  methods := ms
  attributes := attrs
def plain (name : String) (sup : Option ClassId) : Class where
  name := name
  kind := .ordinary
  loader := none
  accessFlags := 33
  super := sup
  interfaces := #[]
  cf := none
  fields := #[]
  methods := #[]
  instanceTypes := #[]
  staticTypes := #[]
  resolved := #[]
  callSites := []
  init := .initialized
  statics := none
  mirror := none

def pool0 : Array CpInfo := pool [(5, u "<init>"), (0, u "()V"), (1, .class_ 10), (1, u "java/lang/Object")] 113

def k0c0 : Code := { maxStack := 0, maxLocals := 1, code := object_method_1_code, exceptionTable := #[], attributes := #[] }
def k0m0 : Method := { name := "<init>", desc := "()V", sig := { parameters := [], returnType := none }, accessFlags := 1, code := some k0c0 }
/-- java/lang/Object -/
def k0 : Class := { plain "java/lang/Object" none with
  accessFlags := 33
  interfaces := #[]
  cf := some (fileOf pool0 8 #[] #[{ accessFlags := 1, nameIndex := 5, descriptorIndex := 6, attributes := #[] }] 33 0 #[] #[])
  fields := #[]
  methods := #[k0m0]
  instanceTypes := #[]
  staticTypes := #[]
  resolved := Array.replicate 124 none
  statics := none }

def pool1 : Array CpInfo := pool [(2, .class_ 4), (1, u "java/lang/Object"), (0, u "<init>"), (0, u "()V"), (0, .integer 2147483647), (0, .class_ 9), (0, u "com/example/respite/respite/cli/Window"), (0, .methodref 8 11), (0, .nameAndType 5 12), (0, u "(JII)V"), (0, .long 1000000000), (1, .methodref 8 16), (0, .nameAndType 17 18), (0, u "isOverAt"), (0, u "(J)Z"), (0, .class_ 20), (0, u "com/example/respite/respite/cli/WindowIsOverAtPinLaw"), (2, u "law"), (0, u "(JIIJ)Z")] 3

def k1m0 : Method := { name := "<init>", desc := "()V", sig := { parameters := [], returnType := none }, accessFlags := 1, code := none }
def k1c1 : Code := { maxStack := 6, maxLocals := 14, code := code, exceptionTable := #[], attributes := #[] }
def k1m1 : Method := { name := "law", desc := "(JIIJ)Z", sig := { parameters := [.long, .int, .int, .long], returnType := some .boolean }, accessFlags := 9, code := some k1c1 }
/-- com/example/respite/respite/cli/WindowIsOverAtPinLaw -/
def k1 : Class := { plain "com/example/respite/respite/cli/WindowIsOverAtPinLaw" (some 0) with
  accessFlags := 49
  interfaces := #[]
  cf := some (fileOf pool1 19 #[] #[{ accessFlags := 1, nameIndex := 5, descriptorIndex := 6, attributes := #[] }, { accessFlags := 9, nameIndex := 23, descriptorIndex := 24, attributes := #[] }] 49 2 #[] #[])
  fields := #[]
  methods := #[k1m0, k1m1]
  instanceTypes := #[]
  staticTypes := #[]
  resolved := Array.replicate 28 none
  statics := none }

def pool2 : Array CpInfo := pool [(1, .methodref 2 3), (0, .class_ 4), (0, .nameAndType 5 6), (0, u "java/lang/Object"), (0, u "<init>"), (0, u "()V"), (0, .fieldref 8 9), (0, .class_ 10), (0, .nameAndType 11 12), (0, u "java/util/concurrent/TimeUnit"), (0, u "SECONDS"), (0, u "Ljava/util/concurrent/TimeUnit;"), (0, .methodref 8 14), (0, .nameAndType 15 16), (0, u "toNanos"), (0, u "(J)J"), (0, .fieldref 18 19), (0, .class_ 20), (0, .nameAndType 21 22), (0, u "com/example/respite/respite/cli/Window"), (0, u "measuredFrom"), (0, u "J"), (0, .fieldref 18 24), (0, .nameAndType 25 22), (0, u "measuredUntil"), (0, u "(JII)V"), (4, u "(J)Z"), (1, u "isOverAt")] 2

def k2c0 : Code := { maxStack := 6, maxLocals := 5, code := prog_10_method_1_code, exceptionTable := #[], attributes := #[] }
def k2m0 : Method := { name := "<init>", desc := "(JII)V", sig := { parameters := [.long, .int, .int], returnType := none }, accessFlags := 0, code := some k2c0 }
def k2c1 : Code := { maxStack := 4, maxLocals := 3, code := prog_10_method_5_code, exceptionTable := #[], attributes := #[] }
def k2m1 : Method := { name := "isOverAt", desc := "(J)Z", sig := { parameters := [.long], returnType := some .boolean }, accessFlags := 0, code := some k2c1 }
/-- com/example/respite/respite/cli/Window -/
def k2 : Class := { plain "com/example/respite/respite/cli/Window" (some 0) with
  accessFlags := 32
  interfaces := #[]
  cf := some (fileOf pool2 18 #[] #[{ accessFlags := 0, nameIndex := 5, descriptorIndex := 26, attributes := #[] }, { accessFlags := 0, nameIndex := 33, descriptorIndex := 31, attributes := #[] }] 32 2 #[] #[{ accessFlags := 18, nameIndex := 21, descriptorIndex := 22, attributes := #[] }, { accessFlags := 18, nameIndex := 25, descriptorIndex := 22, attributes := #[] }])
  fields := #[{ name := "measuredFrom", type := .long, accessFlags := 18, slot := 0, constantValue := 0 }, { name := "measuredUntil", type := .long, accessFlags := 18, slot := 1, constantValue := 0 }]
  methods := #[k2m0, k2m1]
  instanceTypes := #[.long, .long]
  staticTypes := #[]
  resolved := Array.replicate 36 none
  statics := none }

def pool3 : Array CpInfo := pool [(1, .class_ 2), (0, u "java/lang/constant/Constable"), (0, .class_ 4), (0, u "java/lang/Object")] 6

/-- java/lang/constant/Constable -/
def k3 : Class := { plain "java/lang/constant/Constable" (some 0) with
  accessFlags := 1537
  interfaces := #[]
  cf := some (fileOf pool3 1 #[] #[] 1537 3 #[] #[])
  fields := #[]
  methods := #[]
  instanceTypes := #[]
  staticTypes := #[]
  resolved := Array.replicate 11 none
  statics := none }

def pool4 : Array CpInfo := pool [(1, .class_ 2), (0, u "java/lang/Comparable"), (0, .class_ 4), (0, u "java/lang/Object")] 7

/-- java/lang/Comparable -/
def k4 : Class := { plain "java/lang/Comparable" (some 0) with
  accessFlags := 1537
  interfaces := #[]
  cf := some (fileOf pool4 1 #[] #[] 1537 3 #[] #[])
  fields := #[]
  methods := #[]
  instanceTypes := #[]
  staticTypes := #[]
  resolved := Array.replicate 12 none
  statics := none }

def pool5 : Array CpInfo := pool [(1, .class_ 2), (0, u "java/io/Serializable"), (0, .class_ 4), (0, u "java/lang/Object")] 2

/-- java/io/Serializable -/
def k5 : Class := { plain "java/io/Serializable" (some 0) with
  accessFlags := 1537
  interfaces := #[]
  cf := some (fileOf pool5 1 #[] #[] 1537 3 #[] #[])
  fields := #[]
  methods := #[]
  instanceTypes := #[]
  staticTypes := #[]
  resolved := Array.replicate 7 none
  statics := none }

def pool6 : Array CpInfo := pool [(2, .class_ 4), (1, u "java/lang/Enum"), (0, u "name"), (0, u "Ljava/lang/String;"), (2, u "ordinal"), (0, u "I"), (1, .class_ 14), (1, u "java/lang/Object"), (4, u "hash"), (86, .class_ 108), (1, u "java/lang/Enum$EnumDesc"), (2, .class_ 112), (0, u "java/lang/constant/Constable"), (0, .class_ 114), (0, u "java/lang/Comparable"), (0, .class_ 116), (0, u "java/io/Serializable")] 87

/-- java/lang/Enum -/
def k6 : Class := { plain "java/lang/Enum" (some 0) with
  accessFlags := 1057
  interfaces := #[3, 4, 5]
  cf := some (fileOf pool6 2 #[.nestMembers #[106]] #[] 1057 12 #[111, 113, 115] #[{ accessFlags := 18, nameIndex := 5, descriptorIndex := 6, attributes := #[] }, { accessFlags := 18, nameIndex := 9, descriptorIndex := 10, attributes := #[] }, { accessFlags := 2, nameIndex := 19, descriptorIndex := 10, attributes := #[] }])
  fields := #[{ name := "name", type := (.object "java/lang/String"), accessFlags := 18, slot := 0, constantValue := 0 }, { name := "ordinal", type := .int, accessFlags := 18, slot := 1, constantValue := 0 }, { name := "hash", type := .int, accessFlags := 2, slot := 2, constantValue := 0 }]
  methods := #[]
  instanceTypes := #[(.object "java/lang/String"), .int, .int]
  staticTypes := #[]
  resolved := Array.replicate 204 none
  statics := none }

def pool7 : Array CpInfo := pool [(1, .class_ 2), (0, u "java/util/concurrent/TimeUnit"), (2, u "NANOSECONDS"), (0, u "Ljava/util/concurrent/TimeUnit;"), (2, u "MICROSECONDS"), (2, u "MILLISECONDS"), (2, u "SECONDS"), (2, u "MINUTES"), (2, u "HOURS"), (2, u "DAYS"), (2, u "$VALUES"), (0, u "[Ljava/util/concurrent/TimeUnit;"), (6, .class_ 37), (1, u "java/lang/Enum"), (6, .fieldref 1 45), (0, .nameAndType 46 47), (0, u "scale"), (0, u "J"), (4, .fieldref 1 53), (0, .nameAndType 54 47), (0, u "maxNanos"), (4, u "microRatio"), (2, u "maxMicros"), (4, u "milliRatio"), (0, u "I"), (2, u "maxMillis"), (4, u "secRatio"), (2, u "maxSecs"), (8, u "toNanos"), (0, u "(J)J"), (73, .class_ 165), (1, u "java/util/concurrent/TimeUnit$1"), (46, u "NANO_SCALE"), (3, u "MICRO_SCALE"), (0, u "MILLI_SCALE"), (0, u "SECOND_SCALE"), (0, u "MINUTE_SCALE"), (0, u "HOUR_SCALE"), (0, u "DAY_SCALE")] 61

def k7c0 : Code := { maxStack := 6, maxLocals := 7, code := jdk_2799_method_7_code, exceptionTable := #[], attributes := #[] }
def k7m0 : Method := { name := "toNanos", desc := "(J)J", sig := { parameters := [.long], returnType := some .long }, accessFlags := 1, code := some k7c0 }
/-- java/util/concurrent/TimeUnit -/
def k7 : Class := { plain "java/util/concurrent/TimeUnit" (some 6) with
  accessFlags := 16433
  interfaces := #[]
  cf := some (fileOf pool7 1 #[.nestMembers #[163]] #[{ accessFlags := 1, nameIndex := 88, descriptorIndex := 89, attributes := #[] }] 16433 35 #[] #[{ accessFlags := 16409, nameIndex := 5, descriptorIndex := 6, attributes := #[] }, { accessFlags := 16409, nameIndex := 9, descriptorIndex := 6, attributes := #[] }, { accessFlags := 16409, nameIndex := 12, descriptorIndex := 6, attributes := #[] }, { accessFlags := 16409, nameIndex := 15, descriptorIndex := 6, attributes := #[] }, { accessFlags := 16409, nameIndex := 18, descriptorIndex := 6, attributes := #[] }, { accessFlags := 16409, nameIndex := 21, descriptorIndex := 6, attributes := #[] }, { accessFlags := 16409, nameIndex := 24, descriptorIndex := 6, attributes := #[] }, { accessFlags := 26, nameIndex := 212, descriptorIndex := 47, attributes := #[] }, { accessFlags := 26, nameIndex := 216, descriptorIndex := 47, attributes := #[] }, { accessFlags := 26, nameIndex := 217, descriptorIndex := 47, attributes := #[] }, { accessFlags := 26, nameIndex := 218, descriptorIndex := 47, attributes := #[] }, { accessFlags := 26, nameIndex := 219, descriptorIndex := 47, attributes := #[] }, { accessFlags := 26, nameIndex := 220, descriptorIndex := 47, attributes := #[] }, { accessFlags := 26, nameIndex := 221, descriptorIndex := 47, attributes := #[] }, { accessFlags := 18, nameIndex := 46, descriptorIndex := 47, attributes := #[] }, { accessFlags := 18, nameIndex := 54, descriptorIndex := 47, attributes := #[] }, { accessFlags := 18, nameIndex := 62, descriptorIndex := 47, attributes := #[] }, { accessFlags := 18, nameIndex := 71, descriptorIndex := 47, attributes := #[] }, { accessFlags := 18, nameIndex := 79, descriptorIndex := 47, attributes := #[] }, { accessFlags := 18, nameIndex := 59, descriptorIndex := 47, attributes := #[] }, { accessFlags := 18, nameIndex := 67, descriptorIndex := 68, attributes := #[] }, { accessFlags := 18, nameIndex := 76, descriptorIndex := 68, attributes := #[] }, { accessFlags := 4122, nameIndex := 27, descriptorIndex := 28, attributes := #[] }])
  fields := #[{ name := "NANOSECONDS", type := (.object "java/util/concurrent/TimeUnit"), accessFlags := 16409, slot := 0, constantValue := 0 }, { name := "MICROSECONDS", type := (.object "java/util/concurrent/TimeUnit"), accessFlags := 16409, slot := 1, constantValue := 0 }, { name := "MILLISECONDS", type := (.object "java/util/concurrent/TimeUnit"), accessFlags := 16409, slot := 2, constantValue := 0 }, { name := "SECONDS", type := (.object "java/util/concurrent/TimeUnit"), accessFlags := 16409, slot := 3, constantValue := 0 }, { name := "MINUTES", type := (.object "java/util/concurrent/TimeUnit"), accessFlags := 16409, slot := 4, constantValue := 0 }, { name := "HOURS", type := (.object "java/util/concurrent/TimeUnit"), accessFlags := 16409, slot := 5, constantValue := 0 }, { name := "DAYS", type := (.object "java/util/concurrent/TimeUnit"), accessFlags := 16409, slot := 6, constantValue := 0 }, { name := "NANO_SCALE", type := .long, accessFlags := 26, slot := 7, constantValue := 0 }, { name := "MICRO_SCALE", type := .long, accessFlags := 26, slot := 8, constantValue := 0 }, { name := "MILLI_SCALE", type := .long, accessFlags := 26, slot := 9, constantValue := 0 }, { name := "SECOND_SCALE", type := .long, accessFlags := 26, slot := 10, constantValue := 0 }, { name := "MINUTE_SCALE", type := .long, accessFlags := 26, slot := 11, constantValue := 0 }, { name := "HOUR_SCALE", type := .long, accessFlags := 26, slot := 12, constantValue := 0 }, { name := "DAY_SCALE", type := .long, accessFlags := 26, slot := 13, constantValue := 0 }, { name := "scale", type := .long, accessFlags := 18, slot := 3, constantValue := 0 }, { name := "maxNanos", type := .long, accessFlags := 18, slot := 4, constantValue := 0 }, { name := "maxMicros", type := .long, accessFlags := 18, slot := 5, constantValue := 0 }, { name := "maxMillis", type := .long, accessFlags := 18, slot := 6, constantValue := 0 }, { name := "maxSecs", type := .long, accessFlags := 18, slot := 7, constantValue := 0 }, { name := "microRatio", type := .long, accessFlags := 18, slot := 8, constantValue := 0 }, { name := "milliRatio", type := .int, accessFlags := 18, slot := 9, constantValue := 0 }, { name := "secRatio", type := .int, accessFlags := 18, slot := 10, constantValue := 0 }, { name := "$VALUES", type := (.array (.object "java/util/concurrent/TimeUnit")), accessFlags := 4122, slot := 14, constantValue := 0 }]
  methods := #[k7m0]
  instanceTypes := #[(.object "java/lang/String"), .int, .int, .long, .long, .long, .long, .long, .long, .int, .int]
  staticTypes := #[(.object "java/util/concurrent/TimeUnit"), (.object "java/util/concurrent/TimeUnit"), (.object "java/util/concurrent/TimeUnit"), (.object "java/util/concurrent/TimeUnit"), (.object "java/util/concurrent/TimeUnit"), (.object "java/util/concurrent/TimeUnit"), (.object "java/util/concurrent/TimeUnit"), .long, .long, .long, .long, .long, .long, .long, (.array (.object "java/util/concurrent/TimeUnit"))]
  resolved := Array.replicate 283 none
  statics := some 0 }

def pool8 : Array CpInfo := pool [(2, .class_ 4), (1, u "java/lang/CharSequence"), (42, .class_ 48), (0, u "java/lang/CharSequence$1CodePointIterator"), (10, .class_ 60), (0, u "java/lang/CharSequence$1CharIterator"), (5, .class_ 67), (0, u "java/lang/Object")] 63

/-- java/lang/CharSequence -/
def k8 : Class := { plain "java/lang/CharSequence" (some 0) with
  accessFlags := 1537
  interfaces := #[]
  cf := some (fileOf pool8 2 #[.nestMembers #[47, 59]] #[] 1537 66 #[] #[])
  fields := #[]
  methods := #[]
  instanceTypes := #[]
  staticTypes := #[]
  resolved := Array.replicate 131 none
  statics := none }

def pool9 : Array CpInfo := pool [(1, .class_ 2), (0, u "java/lang/constant/ConstantDesc"), (0, .class_ 4), (0, u "java/lang/Object")] 32

/-- java/lang/constant/ConstantDesc -/
def k9 : Class := { plain "java/lang/constant/ConstantDesc" (some 0) with
  accessFlags := 1537
  interfaces := #[]
  cf := some (fileOf pool9 1 #[] #[] 1537 3 #[] #[])
  fields := #[]
  methods := #[]
  instanceTypes := #[]
  staticTypes := #[]
  resolved := Array.replicate 37 none
  statics := none }

def pool10 : Array CpInfo := pool [(2, .class_ 4), (1, u "java/lang/Object"), (0, u "<init>"), (0, u "()V"), (3, .class_ 12), (1, u "java/lang/String"), (0, u "value"), (0, u "[B"), (2, u "coder"), (0, u "B"), (2, u "hash"), (0, u "I"), (2, u "hashIsZero"), (0, u "Z"), (13, u "COMPACT_STRINGS"), (534, .class_ 576), (0, u "java/lang/CharSequence"), (22, u "CASE_INSENSITIVE_ORDER"), (0, u "Ljava/util/Comparator;"), (500, u "serialPersistentFields"), (0, u "[Ljava/io/ObjectStreamField;"), (0, .class_ 1104), (0, u "java/lang/String$CaseInsensitiveComparator"), (1, .class_ 1107), (0, u "java/io/Serializable"), (0, .class_ 1109), (0, u "java/lang/Comparable"), (0, .class_ 1111), (0, u "java/lang/constant/Constable"), (0, .class_ 1113), (0, u "java/lang/constant/ConstantDesc"), (2, u "serialVersionUID"), (0, u "J"), (3, u "REPL"), (0, u "C"), (2, u "LATIN1"), (1, u "UTF16")] 323

def k10m0 : Method := { name := "<init>", desc := "()V", sig := { parameters := [], returnType := none }, accessFlags := 1, code := none }
/-- java/lang/String -/
def k10 : Class := { plain "java/lang/String" (some 0) with
  accessFlags := 49
  interfaces := #[5, 4, 8, 3, 9]
  cf := some (fileOf pool10 10 #[.nestMembers #[1103]] #[{ accessFlags := 1, nameIndex := 5, descriptorIndex := 6, attributes := #[] }] 49 2 #[1106, 1108, 575, 1110, 1112] #[{ accessFlags := 18, nameIndex := 13, descriptorIndex := 14, attributes := #[] }, { accessFlags := 18, nameIndex := 17, descriptorIndex := 18, attributes := #[] }, { accessFlags := 2, nameIndex := 21, descriptorIndex := 22, attributes := #[] }, { accessFlags := 2, nameIndex := 25, descriptorIndex := 26, attributes := #[] }, { accessFlags := 26, nameIndex := 1116, descriptorIndex := 1117, attributes := #[] }, { accessFlags := 24, nameIndex := 40, descriptorIndex := 26, attributes := #[] }, { accessFlags := 26, nameIndex := 1101, descriptorIndex := 1102, attributes := #[] }, { accessFlags := 26, nameIndex := 1121, descriptorIndex := 1122, attributes := #[] }, { accessFlags := 25, nameIndex := 599, descriptorIndex := 600, attributes := #[] }, { accessFlags := 24, nameIndex := 1125, descriptorIndex := 18, attributes := #[] }, { accessFlags := 24, nameIndex := 1127, descriptorIndex := 18, attributes := #[] }])
  fields := #[{ name := "value", type := (.array .byte), accessFlags := 18, slot := 0, constantValue := 0 }, { name := "coder", type := .byte, accessFlags := 18, slot := 1, constantValue := 0 }, { name := "hash", type := .int, accessFlags := 2, slot := 2, constantValue := 0 }, { name := "hashIsZero", type := .boolean, accessFlags := 2, slot := 3, constantValue := 0 }, { name := "serialVersionUID", type := .long, accessFlags := 26, slot := 0, constantValue := 0 }, { name := "COMPACT_STRINGS", type := .boolean, accessFlags := 24, slot := 1, constantValue := 0 }, { name := "serialPersistentFields", type := (.array (.object "java/io/ObjectStreamField")), accessFlags := 26, slot := 2, constantValue := 0 }, { name := "REPL", type := .char, accessFlags := 26, slot := 3, constantValue := 0 }, { name := "CASE_INSENSITIVE_ORDER", type := (.object "java/util/Comparator"), accessFlags := 25, slot := 4, constantValue := 0 }, { name := "LATIN1", type := .byte, accessFlags := 24, slot := 5, constantValue := 0 }, { name := "UTF16", type := .byte, accessFlags := 24, slot := 6, constantValue := 0 }]
  methods := #[k10m0]
  instanceTypes := #[(.array .byte), .byte, .int, .boolean]
  staticTypes := #[.long, .boolean, (.array (.object "java/io/ObjectStreamField")), .char, (.object "java/util/Comparator"), .byte, .byte]
  resolved := Array.replicate 1451 none
  statics := none }

def pool11 : Array CpInfo := pool [(1, u "java/lang/Cloneable"), (0, .class_ 1), (0, u "java/lang/Object"), (0, .class_ 3)] 3

/-- java/lang/Cloneable -/
def k11 : Class := { plain "java/lang/Cloneable" (some 0) with
  accessFlags := 1537
  interfaces := #[]
  cf := some (fileOf pool11 2 #[] #[] 1537 4 #[] #[])
  fields := #[]
  methods := #[]
  instanceTypes := #[]
  staticTypes := #[]
  resolved := Array.replicate 8 none
  statics := none }

/-- the primitive byte -/
def k12 : Class := { plain "byte" none with kind := .primitive 'B', accessFlags := 0x411 }
/-- [B -/
def k13 : Class := { plain "[B" (some 0) with kind := .array 12 .byte, interfaces := #[11, 5], accessFlags := 1041 }

/-- the primitive int -/
def k14 : Class := { plain "int" none with kind := .primitive 'I', accessFlags := 0x411 }
/-- [I -/
def k15 : Class := { plain "[I" (some 0) with kind := .array 14 .int, interfaces := #[11, 5], accessFlags := 1041 }

def heap : Heap := #[{ cls := 7, slots := #[.null, .null, .null, .ref 1, .null, .null, .null, .long 0, .long 0, .long 0, .long 0, .long 0, .long 0, .long 0, .null], vm := .statics 7 },
  { cls := 7, slots := #[.ref 2, .int 3, .int 0, .long 1000000000, .long 9223372036, .long 9223372036854, .long 9223372036854775, .long 9223372036854775807, .long 1000000, .int 1000, .int 1], vm := .none },
  { cls := 10, slots := #[.null, .int 0, .int 0, .int 0], vm := .none }]
def classes : Array Class := #[k0, k1, k2, k3, k4, k5, k6, k7, k8, k9, k10, k11, k12, k13, k14, k15]
def interned : List (Array UInt16 × Addr) := []
def slotsUsed : Nat := 30
def theMethod : MethodId := ⟨1, 1⟩
def args0 : Array Value := #[.long 5, .int 7, .int 8, .long 3]
def aboutOver (below : List Frame) : State where
  vm := { classes := classes, interned := interned.toArray }
  heap := heap
  slotsUsed := slotsUsed
  threads := #[{ frames := .invoking theMethod args0 :: below }]
def below0 : List Frame := [.native { method := ⟨0, 0⟩, args := #[] }]
def about1 : State := aboutOver below0
def p0 : Program := .bare "" "" ""
def e0 : Env := launch0.env 0 0 0
theorem w_frames : about1.frames = Frame.invoking theMethod args0 :: below0 := rfl
set_option maxRecDepth 65536 in
theorem w_args : argsFit about1.vm theMethod args0 = true := by decide +kernel
set_option maxRecDepth 65536 in
theorem w_heap : heapFits about1 = true := by decide +kernel
set_option maxRecDepth 65536 in
theorem w_runnable : about1.curStatus? = some .runnable := by decide +kernel
set_option maxRecDepth 65536 in
theorem w_alone : about1.alone = true := by decide +kernel
set_option maxRecDepth 65536 in
theorem w_named : about1.methodNamed? x = some theMethod := by decide +kernel
set_option maxRecDepth 65536 in
theorem w_hears : about1.hears theMethod below0 = true := by decide +kernel
set_option maxRecDepth 65536 in
theorem w_ripe : about1.ripe theMethod args0 below0 = true := by decide +kernel
theorem w_running : about1.status = .running := rfl
set_option maxRecDepth 65536 in
theorem w_room : about1.hasRoom e0.platform room_1 = true :=
  launch0.hasRoom_least _ room_1 (by decide +kernel) (by decide +kernel) (by decide +kernel) (by decide +kernel) (by decide +kernel) (by decide +kernel)
theorem allAtoms_all (ts : List Jvm.Cond) (a : Array Jvm.Value) (st : Jvm.State) : (allAtoms ts).before a st = ts.all (fun c => c.before a st) := by
  induction ts with
  | nil => rfl
  | cons c t ih =>
    show (Jvm.Cond.and c (allAtoms t)).before a st = _
    rw [Jvm.Cond.before_and, ih, List.all_cons]
def words1 : List Jvm.Cond := Jvm.Cond.code x code maxLocals ret :: tables_1
/-- a 'code' word, met by the world's own term for the bytes: nothing is compared byte by byte -/
theorem code_word {y : MethodName} {bytes : ByteArray} {mx : Nat} {rt : Option FieldType} {a : Array Value} {s : State} {m : MethodId} {meth : Method} {c : Code} (h1 : s.methodNamed? y = some m) (h2 : s.vm.method? m = some meth) (h3 : meth.code = some c) (h4 : c.code = bytes)
    (h5 : (c.maxLocals == mx && c.exceptionTable.isEmpty && decide (c.maxStack ≤ mostOperands) && decide (meth.sig.returnType = rt) && !meth.locks && decide (parseMethodDescriptor y.desc = some meth.sig)) = true) : (Jvm.Cond.code y bytes mx rt).before a s = true := by
  simp only [Bool.and_eq_true, beq_iff_eq, Bool.not_eq_true', decide_eq_true_eq] at h5
  obtain ⟨⟨⟨⟨⟨g1, g2⟩, g3⟩, g4⟩, g5⟩, g6⟩ := h5
  simp [Cond.before, Cond.holds, Cond.value, h1, h2, h3, h4, g1, g2, g3, g4, g5, g6]
def isCode : Jvm.Cond → Bool
  | .code _ _ _ _ => true
  | _ => false
theorem all_split {L : List Jvm.Cond} {P : Jvm.Cond → Bool} (h1 : L.all (fun c => isCode c || P c) = true) (h2 : ∀ c ∈ L.filter isCode, P c = true) : L.all P = true := by
  refine List.all_eq_true.mpr fun c hc => ?_
  have h := List.all_eq_true.mp h1 c hc
  rcases Bool.eq_false_or_eq_true (isCode c) with hi | hi
  · exact h2 c (List.mem_filter.mpr ⟨hc, hi⟩)
  · simpa [hi] using h
set_option maxRecDepth 65536 in
theorem w_c0 : (Jvm.Cond.code x code maxLocals ret).before args0 about1 = true := code_word (m := ⟨1, 1⟩) (meth := k1m1) (c := k1c1) (by decide +kernel) rfl rfl rfl (by decide +kernel)
set_option maxRecDepth 65536 in
theorem w_c1 : (Jvm.Cond.code ({ cls := "com/example/respite/respite/cli/Window", name := "<init>", desc := "(JII)V" } : Jvm.MethodName) prog_10_method_1_code (5 : Nat) (Option.none : Option Jvm.ClassFile.FieldType)).before args0 about1 = true := code_word (m := ⟨2, 0⟩) (meth := k2m0) (c := k2c0) (by decide +kernel) rfl rfl rfl (by decide +kernel)
set_option maxRecDepth 65536 in
theorem w_c2 : (Jvm.Cond.code ({ cls := "java/lang/Object", name := "<init>", desc := "()V" } : Jvm.MethodName) object_method_1_code (1 : Nat) (Option.none : Option Jvm.ClassFile.FieldType)).before args0 about1 = true := code_word (m := ⟨0, 0⟩) (meth := k0m0) (c := k0c0) (by decide +kernel) rfl rfl rfl (by decide +kernel)
set_option maxRecDepth 65536 in
theorem w_c3 : (Jvm.Cond.code ({ cls := "java/util/concurrent/TimeUnit", name := "toNanos", desc := "(J)J" } : Jvm.MethodName) jdk_2799_method_7_code (7 : Nat) (Option.some Jvm.ClassFile.FieldType.long)).before args0 about1 = true := code_word (m := ⟨7, 0⟩) (meth := k7m0) (c := k7c0) (by decide +kernel) rfl rfl rfl (by decide +kernel)
set_option maxRecDepth 65536 in
theorem w_c4 : (Jvm.Cond.code ({ cls := "com/example/respite/respite/cli/Window", name := "isOverAt", desc := "(J)Z" } : Jvm.MethodName) prog_10_method_5_code (3 : Nat) (Option.some Jvm.ClassFile.FieldType.boolean)).before args0 about1 = true := code_word (m := ⟨2, 1⟩) (meth := k2m1) (c := k2c1) (by decide +kernel) rfl rfl rfl (by decide +kernel)
def codes1 : List Jvm.Cond := [Jvm.Cond.code x code maxLocals ret, Jvm.Cond.code ({ cls := "com/example/respite/respite/cli/Window", name := "<init>", desc := "(JII)V" } : Jvm.MethodName) prog_10_method_1_code (5 : Nat) (Option.none : Option Jvm.ClassFile.FieldType), Jvm.Cond.code ({ cls := "java/lang/Object", name := "<init>", desc := "()V" } : Jvm.MethodName) object_method_1_code (1 : Nat) (Option.none : Option Jvm.ClassFile.FieldType), Jvm.Cond.code ({ cls := "java/util/concurrent/TimeUnit", name := "toNanos", desc := "(J)J" } : Jvm.MethodName) jdk_2799_method_7_code (7 : Nat) (Option.some Jvm.ClassFile.FieldType.long), Jvm.Cond.code ({ cls := "com/example/respite/respite/cli/Window", name := "isOverAt", desc := "(J)Z" } : Jvm.MethodName) prog_10_method_5_code (3 : Nat) (Option.some Jvm.ClassFile.FieldType.boolean)]
set_option maxRecDepth 65536 in
theorem codes_eq : words1.filter isCode = codes1 := rfl
theorem w_codes : ∀ c ∈ words1.filter isCode, c.before args0 about1 = true := by
  rw [codes_eq]
  intro c hc
  simp only [codes1, List.mem_cons, List.not_mem_nil, or_false] at hc
  rcases hc with rfl | rfl | rfl | rfl | rfl
  · exact w_c0
  · exact w_c1
  · exact w_c2
  · exact w_c3
  · exact w_c4
set_option maxRecDepth 65536 in
theorem w_t1 : (words1.take 24).all (fun c => isCode c || c.before args0 about1) = true := by decide +kernel
set_option maxRecDepth 65536 in
theorem w_t2 : (words1.drop 24).all (fun c => isCode c || c.before args0 about1) = true := by decide +kernel
theorem w_tables : (allAtoms (Jvm.Cond.code x code maxLocals ret :: tables_1)).before args0 about1 = true := by
  rw [allAtoms_all]
  show words1.all (fun c => c.before args0 about1) = true
  refine all_split ?_ w_codes
  rw [← List.take_append_drop 24 words1, List.all_append, w_t1, w_t2]
  rfl
set_option maxRecDepth 65536 in
theorem w_rest : rest_1_c.before args0 about1 = true := by decide +kernel
set_option maxRecDepth 65536 in
theorem w_case : (Jvm.Cond.and given_1 narrow_1).before args0 about1 = true := by decide +kernel
theorem w_applies : (headSpec (Jvm.Cond.code x code maxLocals ret :: tables_1) room_1).applies x e0.platform about1 = true :=
  (Spec.applies_iff w_frames).mpr ⟨w_running, w_runnable, w_alone, w_named, w_hears, w_ripe, w_room, w_tables⟩
theorem atStart : AtStart classFile x code maxLocals ret World_1 tables_1 room_1 Calls_1 rest_1 Pre_1 launch0 p0 e0 about1 theMethod args0 below0 :=
  ⟨lists_1, trivial, launch0.admits_env _ _ _, launch0.least_env, fairChoices_fair.cas, fairChoices_fair.clock, w_frames, w_args, w_heap, w_applies, trivial, w_rest, w_case⟩
end start1
theorem witness_1 : WitnessClaimed_1 := ⟨start1.p0, start1.e0, start1.about1, start1.theMethod, start1.args0, start1.below0, start1.atStart⟩
end Jvm.Pilot.@@N@@
