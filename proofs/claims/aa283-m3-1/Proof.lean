import JvmDerived
import JvmDerived.Pilot.@@N@@Statement
import JvmDerived.Pilot.@@N@@Code
set_option linter.unusedVariables false
set_option linter.unusedSimpArgs false
namespace Jvm.Pilot.@@N@@
open Jvm Jvm.ClassFile Sem Op Lib Jvm.Free Jvm.Stand Jvm.LawKit Jvm.RoadKit Bundle Jvm.Pilot.@@N@@.Jvm.D
section Own
variable {p : Program} {l : Launch} {e : Env} {R : Room} {s : State} {m : MethodId} {args : Array Value} {below : List Frame} {meth : Method} {c : Code} {T T' : State} {locs : List Loc} {cells slots C N : Nat} {Z : State} {h h' : Heap} {n0 : Nat}
/-- from the frame g over T the run comes to a state of which P holds -/
def own_Rch (p : Program) (e : Env) (below : List Frame) (P : State → Prop) (T : State) (g : JFrame) : Prop := ∃ U, Steps p.tables e below (T.setTop g) U ∧ P U
/-- the body has ended as Q says -/
def own_End (s : State) (below : List Frame) (Q : Option Value → Heap → List Loc → Prop) (C N : Nat) (U : State) : Prop := U.status = .running ∧ ∃ v L, Ended U below (.returned v) ∧ Q v U.heap L ∧ FrameEnd s (.returned v) U L C N
theorem own_st {P : State → Prop} {g g' : JFrame} (h : ∀ t, Steps p.tables e below (T'.setTop g') t → Steps p.tables e below (T.setTop g) t) (k : own_Rch p e below P T' g') : own_Rch p e below P T g := by
  obtain ⟨U, h1, h2⟩ := k
  exact ⟨U, h U h1, h2⟩
theorem own_close {Q : Option Value → Heap → List Loc → Prop} {g : JFrame} (k : own_Rch p e below (own_End s below Q C N) T g) : ∃ U o, Steps p.tables e below (T.setTop g) U ∧ U.status = .running ∧ Ended U below o ∧ ∃ v L, o = .returned v ∧ Q v U.heap L ∧ FrameEnd s o U L C N := by
  obtain ⟨U, h1, h2, v, L, h3, h4, h5⟩ := k
  exact ⟨U, _, h1, h2, h3, v, L, rfl, h4, h5⟩
theorem own_retN {Q : Option Value → Heap → List Loc → Prop} {pc : Nat} {Ls : Array Slot} {z : Int32} {t : FieldType} {rest : List Value} (ht : t = .boolean ∨ t = .byte ∨ t = .char ∨ t = .short) (X : Stand p l e R s m args below meth c T locs cells slots) (hx : p.tables.exec = Jvm.exec) (hlk : meth.locks = false) (hret : meth.sig.returnType = some t) (hd : decode c.code pc = .ok (.ireturn, 1)) (hc : cells ≤ C) (hn : slots ≤ N)
    (hq : Q (some (.int (nar t z))) T.heap locs) : own_Rch p e below (own_End s below Q C N) T (mkF m pc Ls (.int z :: rest)) := by
  obtain ⟨fs, hr, hrun, hended, hW, hsame⟩ := X.leave (v := some (.int (nar t z))) (fun h => by rw [hret] at h; cases h) hlk
  exact ⟨_, retN X hx hret ht hd hr, hrun, _, _, hended, hq, ⟨_, rfl⟩, hW, hsame.mono hc hn⟩
theorem own_retI {Q : Option Value → Heap → List Loc → Prop} {pc : Nat} {Ls : Array Slot} {z : Int32} {rest : List Value} (X : Stand p l e R s m args below meth c T locs cells slots) (hx : p.tables.exec = Jvm.exec) (hlk : meth.locks = false) (hret : meth.sig.returnType = some .int) (hd : decode c.code pc = .ok (.ireturn, 1)) (hc : cells ≤ C) (hn : slots ≤ N)
    (hq : Q (some (.int z)) T.heap locs) : own_Rch p e below (own_End s below Q C N) T (mkF m pc Ls (.int z :: rest)) := by
  obtain ⟨fs, hr, hrun, hended, hW, hsame⟩ := X.leave (v := some (.int z)) (fun h => by rw [hret] at h; cases h) hlk
  exact ⟨_, retOut X hx hret rfl (Or.inl ⟨rfl, Or.inl rfl, z, rfl⟩) hd hr, hrun, _, _, hended, hq, ⟨_, rfl⟩, hW, hsame.mono hc hn⟩
theorem own_retL {Q : Option Value → Heap → List Loc → Prop} {pc : Nat} {Ls : Array Slot} {z : Int64} {rest : List Value} (X : Stand p l e R s m args below meth c T locs cells slots) (hx : p.tables.exec = Jvm.exec) (hlk : meth.locks = false) (hret : meth.sig.returnType = some .long) (hd : decode c.code pc = .ok (.lreturn, 1)) (hc : cells ≤ C) (hn : slots ≤ N)
    (hq : Q (some (.long z)) T.heap locs) : own_Rch p e below (own_End s below Q C N) T (mkF m pc Ls (.long z :: rest)) := by
  obtain ⟨fs, hr, hrun, hended, hW, hsame⟩ := X.leave (v := some (.long z)) (fun h => by rw [hret] at h; cases h) hlk
  exact ⟨_, retOut X hx hret rfl (Or.inr (Or.inl ⟨rfl, rfl, z, rfl⟩)) hd hr, hrun, _, _, hended, hq, ⟨_, rfl⟩, hW, hsame.mono hc hn⟩
theorem own_narref {t : FieldType} {w : Value} (ht : t.isReference = true) : narrow t w = w := by cases t <;> first | rfl | (cases ht; done)
theorem own_retA {Q : Option Value → Heap → List Loc → Prop} {pc : Nat} {Ls : Array Slot} {w : Value} {t : FieldType} {rest : List Value} (ht : t.isReference = true) (hw : w.isRef = true) (X : Stand p l e R s m args below meth c T locs cells slots) (hx : p.tables.exec = Jvm.exec) (hlk : meth.locks = false) (hret : meth.sig.returnType = some t) (hd : decode c.code pc = .ok (.areturn, 1)) (hc : cells ≤ C) (hn : slots ≤ N)
    (hq : Q (some w) T.heap locs) : own_Rch p e below (own_End s below Q C N) T (mkF m pc Ls (w :: rest)) := by
  obtain ⟨fs, hr, hrun, hended, hW, hsame⟩ := X.leave (v := some w) (fun h => by rw [hret] at h; cases h) hlk
  exact ⟨_, retOut X hx hret (own_narref ht) (Or.inr (Or.inr (Or.inr (Or.inr ⟨rfl, ht, hw⟩)))) hd hr, hrun, _, _, hended, hq, ⟨_, rfl⟩, hW, hsame.mono hc hn⟩
theorem own_retV {Q : Option Value → Heap → List Loc → Prop} {pc : Nat} {Ls : Array Slot} (X : Stand p l e R s m args below meth c T locs cells slots) (hx : p.tables.exec = Jvm.exec) (hlk : meth.locks = false) (hret : meth.sig.returnType = none) (hd : decode c.code pc = .ok (.return_, 1)) (hc : cells ≤ C) (hn : slots ≤ N)
    (hq : Q none T.heap locs) : own_Rch p e below (own_End s below Q C N) T (mkF m pc Ls []) := by
  obtain ⟨fs, hr, hrun, hended, hW, hsame⟩ := X.leave (v := none) (fun _ => rfl) hlk
  exact ⟨_, X.returnOut hx hret hd hr, hrun, _, _, hended, hq, ⟨_, rfl⟩, hW, hsame.mono hc hn⟩
theorem own_psel {y : MethodName} {n : Nat} (hins : (Jvm.Cond.instantiable y.cls n).before args s = true) (hpriv : (Jvm.Cond.privateMethod y).before args s = true) (hinst : (Jvm.Cond.instanceMethod y).before args s = true) (hy : y.cls ≠ "java/lang/invoke/MethodHandle" ∧ y.cls ≠ "java/lang/invoke/VarHandle" := by decide) : (Jvm.Cond.selects y.cls y y).before args s = true := by
  obtain ⟨c, k, hc, hk, -, hniab, -, -⟩ := Cond.instantiable_spec hins
  have hni : k.isInterface = false := (Bool.or_eq_false_iff.mp hniab).1
  obtain ⟨mk, methM, hnamed, hmethM, -, -⟩ := Cond.instanceMethod_spec hinst
  have hfound : s.methodFound? y.cls y.name y.desc = some mk := State.methodFound?_of_named hnamed hy
  have hcls : mk.cls = c := Option.some.inj ((findClass_of_methodNamed hnamed).symm.trans hc)
  have hsel : selectMethod {} s.vm c mk = .method mk := selectMethod_private hmethM (Cond.privateMethod_at hpriv mk methM hnamed hmethM)
  simp only [Cond.before, Cond.holds, Cond.value, hc, hfound, hnamed, hsel, hcls, hk]
  simp; exact hni
theorem own_since (s : State) : s.Since s.vm 0 := (State.WarmedH.refl s).since 0
def own_EndW (s : State) (below : List Frame) (Q : Option Value → Heap → List Loc → Prop) (C N : Nat) (U : State) : Prop := U.status = .running ∧ ∃ v L, Ended U below (.returned v) ∧ Q v U.heap L ∧ ReturnedEndW s (.returned v) U L C N
theorem own_closeW {Q : Option Value → Heap → List Loc → Prop} {g : JFrame} (k : own_Rch p e below (own_EndW s below Q C N) T g) : ∃ U o, Steps p.tables e below (T.setTop g) U ∧ U.status = .running ∧ Ended U below o ∧ ∃ v L, o = .returned v ∧ Q v U.heap L ∧ ReturnedEndW s o U L C N := by
  obtain ⟨U, h1, h2, v, L, h3, h4, h5⟩ := k
  exact ⟨U, _, h1, h2, h3, v, L, rfl, h4, h5⟩
theorem own_retNW {vm0 : Vm} {k0 : Nat} {Q : Option Value → Heap → List Loc → Prop} {pc : Nat} {Ls : Array Slot} {z : Int32} {t : FieldType} {rest : List Value} (ht : t = .boolean ∨ t = .byte ∨ t = .char ∨ t = .short) (hS : s.Since vm0 k0) (hk : k0 ≤ T.heap.size) (X : Stand p l e R (s.setVm vm0) m args below meth c T locs cells slots) (hx : p.tables.exec = Jvm.exec) (hlk : meth.locks = false) (hret : meth.sig.returnType = some t) (hd : decode c.code pc = .ok (.ireturn, 1)) (hc : cells ≤ C) (hn : slots ≤ N)
    (hq : Q (some (.int (nar t z))) T.heap locs) : own_Rch p e below (own_EndW s below Q C N) T (mkF m pc Ls (.int z :: rest)) := by
  obtain ⟨fs, hr, hrun, hended, h1, h2, h3, h4⟩ := X.leaveW hS hk (v := some (.int (nar t z))) (fun h => by rw [hret] at h; cases h) hlk
  exact ⟨_, retN X hx hret ht hd hr, hrun, _, _, hended, hq, h1, h2, h3, h4.mono hc hn⟩
theorem own_retIW {vm0 : Vm} {k0 : Nat} {Q : Option Value → Heap → List Loc → Prop} {pc : Nat} {Ls : Array Slot} {z : Int32} {rest : List Value} (hS : s.Since vm0 k0) (hk : k0 ≤ T.heap.size) (X : Stand p l e R (s.setVm vm0) m args below meth c T locs cells slots) (hx : p.tables.exec = Jvm.exec) (hlk : meth.locks = false) (hret : meth.sig.returnType = some .int) (hd : decode c.code pc = .ok (.ireturn, 1)) (hc : cells ≤ C) (hn : slots ≤ N)
    (hq : Q (some (.int z)) T.heap locs) : own_Rch p e below (own_EndW s below Q C N) T (mkF m pc Ls (.int z :: rest)) := by
  obtain ⟨fs, hr, hrun, hended, h1, h2, h3, h4⟩ := X.leaveW hS hk (v := some (.int z)) (fun h => by rw [hret] at h; cases h) hlk
  exact ⟨_, retOut X hx hret rfl (Or.inl ⟨rfl, Or.inl rfl, z, rfl⟩) hd hr, hrun, _, _, hended, hq, h1, h2, h3, h4.mono hc hn⟩
theorem own_retAW {vm0 : Vm} {k0 : Nat} {Q : Option Value → Heap → List Loc → Prop} {pc : Nat} {Ls : Array Slot} {w : Value} {t : FieldType} {rest : List Value} (ht : t.isReference = true) (hw : w.isRef = true) (hS : s.Since vm0 k0) (hk : k0 ≤ T.heap.size) (X : Stand p l e R (s.setVm vm0) m args below meth c T locs cells slots) (hx : p.tables.exec = Jvm.exec) (hlk : meth.locks = false) (hret : meth.sig.returnType = some t) (hd : decode c.code pc = .ok (.areturn, 1)) (hc : cells ≤ C) (hn : slots ≤ N)
    (hq : Q (some w) T.heap locs) : own_Rch p e below (own_EndW s below Q C N) T (mkF m pc Ls (w :: rest)) := by
  obtain ⟨fs, hr, hrun, hended, h1, h2, h3, h4⟩ := X.leaveW hS hk (v := some w) (fun h => by rw [hret] at h; cases h) hlk
  exact ⟨_, retOut X hx hret (own_narref ht) (Or.inr (Or.inr (Or.inr (Or.inr ⟨rfl, ht, hw⟩)))) hd hr, hrun, _, _, hended, hq, h1, h2, h3, h4.mono hc hn⟩
theorem own_retVW {vm0 : Vm} {k0 : Nat} {Q : Option Value → Heap → List Loc → Prop} {pc : Nat} {Ls : Array Slot} (hS : s.Since vm0 k0) (hk : k0 ≤ T.heap.size) (X : Stand p l e R (s.setVm vm0) m args below meth c T locs cells slots) (hx : p.tables.exec = Jvm.exec) (hlk : meth.locks = false) (hret : meth.sig.returnType = none) (hd : decode c.code pc = .ok (.return_, 1)) (hc : cells ≤ C) (hn : slots ≤ N)
    (hq : Q none T.heap locs) : own_Rch p e below (own_EndW s below Q C N) T (mkF m pc Ls []) := by
  obtain ⟨fs, hr, hrun, hended, h1, h2, h3, h4⟩ := X.leaveW hS hk (v := none) (fun _ => rfl) hlk
  exact ⟨_, X.returnOut hx hret hd hr, hrun, _, _, hended, hq, h1, h2, h3, h4.mono hc hn⟩
theorem own_old_le (O : Old Z n0 h) : n0 ≤ h.size := O.1 ▸ O.2.1
end Own
theorem own_cmp0 {args : Array Value} {Z : State} {t : Term} {c : Int32} (ht : t.eval args Z none [] Z = some (.int c)) (h : (Jvm.Cond.not (.eq t (.int 0))).value args Z none Z [] = some true) : ¬ c = 0 := by
  simp [Cond.value, ht, Term.eval] at h
  exact h
theorem own_char (p : Int32) : ¬ ((255 : Int32) < ((p &&& (255 : Int32)).toUInt32.toUInt16.toUInt32.toInt32)) := by
  have h1 := c_i2c (p &&& (255 : Int32))
  have h2 := c_and p (255 : Int32) (by decide)
  have h3 : (255 : Int32).toInt = 255 := by decide
  rw [Int32.lt_iff_toInt_lt]
  omega
theorem own_char0 (p : Int32) : ¬ (((p &&& (255 : Int32)).toUInt32.toUInt16.toUInt32.toInt32) < 0) := by
  have h1 := c_i2c (p &&& (255 : Int32))
  have h3 : (0 : Int32).toInt = 0 := by decide
  rw [Int32.lt_iff_toInt_lt]
  omega
theorem own_irr (x : Int32) : ¬ x < x := by rw [Int32.lt_iff_toInt_lt]; omega
theorem own_pn0 : plainName "java/lang/StringLatin1" = true := by first | (simp [plainName, overriddenIn]; done) | decide +kernel
theorem own_ef3 (m : MethodId) (x0 : Int32) : entryFrame m #[(.int x0)] 1 = mkF m 0 #[.val (.int x0)] [] := by first | (simp [entryFrame, mkF, argsToLocals, Value.category]; done) | rfl
theorem own_d3_0 : decode jdk_43_method_3_code 0 = .ok (.iload_n 0, 1) := by decide +kernel
theorem own_d3_1 : decode jdk_43_method_3_code 1 = .ok (.sipush 255, 3) := by decide +kernel
theorem own_d3_4 : decode jdk_43_method_3_code 4 = .ok (.if_icmp .gt 7, 3) := by decide +kernel
theorem own_d3_7 : decode jdk_43_method_3_code 7 = .ok (.iconst 1, 1) := by decide +kernel
theorem own_d3_8 : decode jdk_43_method_3_code 8 = .ok (.goto 4, 3) := by decide +kernel
theorem own_d3_12 : decode jdk_43_method_3_code 12 = .ok (.ireturn, 1) := by decide +kernel
def own_Q_own_canenc (Z : State) (ch : Int32) (h0 : Heap) (n0 : Nat) (v : Option Value) (h : Heap) (L : List Loc) : Prop := v = some (.int (1 : Int32)) ∧ Fr n0 L ∧ h = h0
set_option maxRecDepth 65536 in
set_option maxHeartbeats 40000000 in
theorem own_canenc (l : Launch) (Z : State) (a0 : Array Value) (hw : ∀ d ∈ tables_1, d.before a0 Z = true) (ws : List Jvm.Cond) (ch : Int32) (h0 : Heap) (n0 : Nat) (O0 : Old Z n0 h0) (hc : ¬ ((255 : Int32) < ch)) :
    MetFree l (⟨"java/lang/StringLatin1", "canEncode", "(C)Z"⟩ : MethodName) (head1 (Jvm.Cond.code (⟨"java/lang/StringLatin1", "canEncode", "(C)Z"⟩ : MethodName) jdk_43_method_3_code 1 (some .boolean) :: ws) ({ frames := 0, cells := 0, slots := 0, locals := 0 } : Room)) (fun args_ U => args_ = #[(.int ch)] ∧ Z.Warmed39 U.vm ∧ U.heap = h0) (fun _ _ _ _ _ => True) (fun _ U o U' => ∃ v L, o = .returned v ∧ (own_Q_own_canenc Z ch h0 n0) v U'.heap L ∧ FrameEnd U o U' L ({ frames := 0, cells := 0, slots := 0, locals := 0 } : Room).cells ({ frames := 0, cells := 0, slots := 0, locals := 0 } : Room).slots) := by
  refine MetFree.of_bodySF (plainFor_of_name own_pn0) hisR ?_
  intro p e s m args below meth c s₁ Bd hml0 hP hK
  obtain ⟨rfl, hZ, hh⟩ := hP
  have hx := Bd.exec
  have hby := Bd.bytes
  have hml : c.maxLocals = 1 := hml0
  have hown : s.vm.findClass "java/lang/StringLatin1" = some m.cls := findClass_of_methodNamed Bd.named
  have hnm := (name_of_methodNamed Bd.named Bd.method).1
  have X0 : Stand p l e ({ frames := 0, cells := 0, slots := 0, locals := 0 } : Room) s m #[(.int ch)] below meth c s₁ [] 0 0 := Stand.of_body Bd
  have e0 : s₁.heap = h0 := by rw [← hh, Bd.state]; rfl
  have N0 := Fr.nil n0
  refine own_close (s := s) (Q := (own_Q_own_canenc Z ch h0 n0)) (C := (({ frames := 0, cells := 0, slots := 0, locals := 0 } : Room)).cells) (N := (({ frames := 0, cells := 0, slots := 0, locals := 0 } : Room)).slots) (own_st (fun _ kt => castTop (own_ef3 m ch) kt) ?_)
  show own_Rch p e below _ s₁ (mkF m 0 #[.val (.int ch)] [])
  refine own_st (fun _ kt => XS.iloadN X0.here hx rfl (hb hby own_d3_0) rfl  kt) ?_
  show own_Rch p e below _ s₁ (mkF m 1 #[.val (.int ch)] [(.int ch)])
  refine own_st (fun _ kt => XS.sipush X0.here hx rfl (hb hby own_d3_1) kt) ?_
  show own_Rch p e below _ s₁ (mkF m 4 #[.val (.int ch)] [(.int (255 : Int32)), (.int ch)])
  refine own_st (fun _ kt => XS.icmpNo X0.here hx rfl (hb hby own_d3_4) rfl (flt (hc : ¬ ((255 : Int32) < ch))).2.2.1 kt) ?_
  show own_Rch p e below _ s₁ (mkF m 7 #[.val (.int ch)] [])
  refine own_st (fun _ kt => XS.iconst X0.here hx rfl (hb hby own_d3_7) kt) ?_
  show own_Rch p e below _ s₁ (mkF m 8 #[.val (.int ch)] [(.int (1 : Int32))])
  refine own_st (fun _ kt => XS.goto X0.here hx rfl (pc0 := 8) (pc' := 12) rfl (hb hby own_d3_8) (by decide) (by decide) kt) ?_
  show own_Rch p e below _ s₁ (mkF m 12 #[.val (.int ch)] [(.int (1 : Int32))])
  refine own_retN (t := .boolean) (by simp) X0 hx Bd.notSynchronized Bd.returns (hb hby own_d3_12) (by decide) (by decide) ?_
  rw [e0]
  exact ⟨rfl, N0, rfl⟩
theorem own_ef4 (m : MethodId) (x0 : Int32) : entryFrame m #[(.int x0)] 1 = mkF m 0 #[.val (.int x0)] [] := by first | (simp [entryFrame, mkF, argsToLocals, Value.category]; done) | rfl
theorem own_d4_0 : decode jdk_43_method_46_code 0 = .ok (.iconst 1, 1) := by decide +kernel
theorem own_d4_1 : decode jdk_43_method_46_code 1 = .ok (.newarray .byte, 2) := by decide +kernel
theorem own_d4_3 : decode jdk_43_method_46_code 3 = .ok (.dup, 1) := by decide +kernel
theorem own_d4_4 : decode jdk_43_method_46_code 4 = .ok (.iconst 0, 1) := by decide +kernel
theorem own_d4_5 : decode jdk_43_method_46_code 5 = .ok (.iload_n 0, 1) := by decide +kernel
theorem own_d4_6 : decode jdk_43_method_46_code 6 = .ok (.i2b, 1) := by decide +kernel
theorem own_d4_7 : decode jdk_43_method_46_code 7 = .ok (.bastore, 1) := by decide +kernel
theorem own_d4_8 : decode jdk_43_method_46_code 8 = .ok (.areturn, 1) := by decide +kernel
def own_Q_own_tobytes (Z : State) (ch : Int32) (h0 : Heap) (n0 : Nat) (v : Option Value) (h : Heap) (L : List Loc) : Prop := ∃ (b : Addr) (k : ClassId), v = some (.ref b) ∧ Fr n0 L ∧ Keep h0 h [] ∧ h0.size ≤ b ∧ Arv Z h b k .byte (1 : Int32) [(.int (nar .byte (ch.toInt8.toInt32)))] (.int (0 : Int32))
set_option maxRecDepth 65536 in
set_option maxHeartbeats 40000000 in
theorem own_tobytes (l : Launch) (Z : State) (a0 : Array Value) (hw : ∀ d ∈ tables_1, d.before a0 Z = true) (ws : List Jvm.Cond) (ch : Int32) (h0 : Heap) (n0 : Nat) (O0 : Old Z n0 h0) :
    MetFree l (⟨"java/lang/StringLatin1", "toBytes", "(C)[B"⟩ : MethodName) (head1 (Jvm.Cond.code (⟨"java/lang/StringLatin1", "toBytes", "(C)[B"⟩ : MethodName) jdk_43_method_46_code 1 (some (.array .byte)) :: ws) ({ frames := 0, cells := 1, slots := 1, locals := 0 } : Room)) (fun args_ U => args_ = #[(.int ch)] ∧ Z.Warmed39 U.vm ∧ U.heap = h0) (fun _ _ _ _ _ => True) (fun _ U o U' => ∃ v L, o = .returned v ∧ (own_Q_own_tobytes Z ch h0 n0) v U'.heap L ∧ FrameEnd U o U' L ({ frames := 0, cells := 1, slots := 1, locals := 0 } : Room).cells ({ frames := 0, cells := 1, slots := 1, locals := 0 } : Room).slots) := by
  refine MetFree.of_bodySF (plainFor_of_name own_pn0) hisR ?_
  intro p e s m args below meth c s₁ Bd hml0 hP hK
  obtain ⟨rfl, hZ, hh⟩ := hP
  have hx := Bd.exec
  have hby := Bd.bytes
  have hml : c.maxLocals = 1 := hml0
  have hown : s.vm.findClass "java/lang/StringLatin1" = some m.cls := findClass_of_methodNamed Bd.named
  have hnm := (name_of_methodNamed Bd.named Bd.method).1
  have X0 : Stand p l e ({ frames := 0, cells := 1, slots := 1, locals := 0 } : Room) s m #[(.int ch)] below meth c s₁ [] 0 0 := Stand.of_body Bd
  have e0 : s₁.heap = h0 := by rw [← hh, Bd.state]; rfl
  have N0 := Fr.nil n0
  refine own_close (s := s) (Q := (own_Q_own_tobytes Z ch h0 n0)) (C := (({ frames := 0, cells := 1, slots := 1, locals := 0 } : Room)).cells) (N := (({ frames := 0, cells := 1, slots := 1, locals := 0 } : Room)).slots) (own_st (fun _ kt => castTop (own_ef4 m ch) kt) ?_)
  have K0 := Keep.refl h0 []
  show own_Rch p e below _ s₁ (mkF m 0 #[.val (.int ch)] [])
  refine own_st (fun _ kt => XS.iconst X0.here hx rfl (hb hby own_d4_0) kt) ?_
  show own_Rch p e below _ s₁ (mkF m 1 #[.val (.int ch)] [(.int (1 : Int32))])
  obtain ⟨T1, h1, k1, X1, e1, E1, A1, st1⟩ := newP X0 hx hZ (hw _ (List.mem_of_getElem? (i := 25) rfl)) e0 (g := (mkF m 1 #[.val (.int ch)] [(.int (1 : Int32))])) rfl (hb hby own_d4_1) rfl (by decide) (cap := 1) (by decide) (by decide) (by decide) (by decide)
  obtain ⟨b1, g1⟩ : ∃ z, z = h0.size := ⟨_, rfl⟩
  rw [← g1] at A1 st1
  have ge1 : n0 ≤ b1 := by rw [g1]; exact own_old_le O0
  have sz1 : h0.size ≤ b1 := by rw [g1]; exact K0.1
  have O0_x1 := O0.ext E1
  have K0_x1 := K0.ext E1
  refine own_st st1 ?_
  have V1 := Arv.new A1 (by decide)
  have V1p : Arv Z h1 b1 k1 .byte (1 : Int32) [(.int (0 : Int32))] (.int (0 : Int32)) := V1.pad (pad_rep [] (.int (0 : Int32)) 1)
  show own_Rch p e below _ T1 (mkF m 3 #[.val (.int ch)] [(.ref b1)])
  refine own_st (fun _ kt => XS.dup X1.here hx rfl (hb hby own_d4_3) rfl rfl kt) ?_
  show own_Rch p e below _ T1 (mkF m 4 #[.val (.int ch)] [(.ref b1), (.ref b1)])
  refine own_st (fun _ kt => XS.iconst X1.here hx rfl (hb hby own_d4_4) kt) ?_
  show own_Rch p e below _ T1 (mkF m 5 #[.val (.int ch)] [(.int (0 : Int32)), (.ref b1), (.ref b1)])
  refine own_st (fun _ kt => XS.iloadN X1.here hx rfl (hb hby own_d4_5) rfl  kt) ?_
  show own_Rch p e below _ T1 (mkF m 6 #[.val (.int ch)] [(.int ch), (.int (0 : Int32)), (.ref b1), (.ref b1)])
  refine own_st (fun _ kt => XS.i2b X1.here hx rfl (hb hby own_d4_6) rfl kt) ?_
  show own_Rch p e below _ T1 (mkF m 7 #[.val (.int ch)] [(.int (ch.toInt8.toInt32)), (.int (0 : Int32)), (.ref b1), (.ref b1)])
  obtain ⟨cl2, Ar2, q2, S2, M2, H2, G2⟩ := V1p
  have hin2 : ¬ ((0 : Int32) < 0 ∨ cl2.slots.size ≤ ((0 : Int32)).toNatClampNeg) := inb_of S2 ⟨by decide, by decide⟩
  obtain ⟨T2, h2, X2, e2, W2, st2⟩ := stB X1 hx hZ e1 Ar2 (j := (0 : Int32)) hin2 (g := (mkF m 7 #[.val (.int ch)] [(.int (ch.toInt8.toInt32)), (.int (0 : Int32)), (.ref b1), (.ref b1)])) rfl rfl (hb hby own_d4_7)
  have V2 := Arv.set Ar2 q2 S2 M2 H2 G2 (fits_nar_byte _) W2 0 rfl (Nat.le_of_ble_eq_true rfl)
  have V2s : Arv Z h2 b1 k1 .byte (1 : Int32) [(.int (nar .byte (ch.toInt8.toInt32)))] (.int (0 : Int32)) := V2
  have N2 := Fr.snoc X2 N0 ge1
  refine own_st st2 ?_
  have O0_x2 := O0_x1.wr W2 ge1
  have K0_x2 := K0_x1.wr W2 (Or.inr sz1)
  show own_Rch p e below _ T2 (mkF m 8 #[.val (.int ch)] [(.ref b1)])
  refine own_retA rfl rfl X2 hx Bd.notSynchronized Bd.returns (hb hby own_d4_8) (by decide) (by decide) ?_
  rw [e2]
  exact ⟨_, _, rfl, N2, K0_x2, sz1, V2s⟩
theorem own_pn1 : plainName "java/lang/String" = true := by first | (simp [plainName, overriddenIn]; done) | decide +kernel
theorem own_ef5 (m : MethodId) (x0 : Addr) (x1 : Addr) (x2 : Int32) : entryFrame m #[(.ref x0), (.ref x1), (.int x2)] 3 = mkF m 0 #[.val (.ref x0), .val (.ref x1), .val (.int x2)] [] := by first | (simp [entryFrame, mkF, argsToLocals, Value.category]; done) | rfl
theorem own_d5_0 : decode jdk_42_method_151_code 0 = .ok (.aload_n 0, 1) := by decide +kernel
theorem own_d5_1 : decode jdk_42_method_151_code 1 = .ok (.invokespecial 1, 3) := by decide +kernel
theorem own_d5_4 : decode jdk_42_method_151_code 4 = .ok (.aload_n 0, 1) := by decide +kernel
theorem own_d5_5 : decode jdk_42_method_151_code 5 = .ok (.aload_n 1, 1) := by decide +kernel
theorem own_d5_6 : decode jdk_42_method_151_code 6 = .ok (.putfield 9, 3) := by decide +kernel
theorem own_d5_9 : decode jdk_42_method_151_code 9 = .ok (.aload_n 0, 1) := by decide +kernel
theorem own_d5_10 : decode jdk_42_method_151_code 10 = .ok (.iload_n 2, 1) := by decide +kernel
theorem own_d5_11 : decode jdk_42_method_151_code 11 = .ok (.putfield 15, 3) := by decide +kernel
theorem own_d5_14 : decode jdk_42_method_151_code 14 = .ok (.return_, 1) := by decide +kernel
def own_Q_own_strinit (Z : State) (a : Addr) (b : Addr) (ch : Int32) (u1 : Value) (u2 : Value) (h0 : Heap) (n0 : Nat) (v : Option Value) (h : Heap) (L : List Loc) : Prop := v = none ∧ Fr n0 L ∧ Keep h0 h [a] ∧ Exa Z h a "java/lang/String" ∧ Fld Z h a "java/lang/String" "value" "[B" (.ref b) ∧ Fld Z h a "java/lang/String" "coder" "B" (.int (nar .byte ch))
set_option maxRecDepth 65536 in
set_option maxHeartbeats 40000000 in
theorem own_strinit (l : Launch) (Z : State) (a0 : Array Value) (hw : ∀ d ∈ tables_1, d.before a0 Z = true) (ws : List Jvm.Cond) (a : Addr) (b : Addr) (ch : Int32) (u1 : Value) (u2 : Value) (h0 : Heap) (n0 : Nat) (O0 : Old Z n0 h0) (EA : Exa Z h0 a "java/lang/String") (FV : Fld Z h0 a "java/lang/String" "value" "[B" u1) (FC : Fld Z h0 a "java/lang/String" "coder" "B" u2) (ga : n0 ≤ a) :
    MetFree l (⟨"java/lang/String", "<init>", "([BB)V"⟩ : MethodName) (head1 (Jvm.Cond.code (⟨"java/lang/String", "<init>", "([BB)V"⟩ : MethodName) jdk_42_method_151_code 3 none :: ws) ({ frames := 1, cells := 0, slots := 0, locals := 12 } : Room)) (fun args_ U => args_ = #[(.ref a), (.ref b), (.int ch)] ∧ Z.Warmed39 U.vm ∧ U.heap = h0) (fun _ _ _ _ _ => True) (fun _ U o U' => ∃ v L, o = .returned v ∧ (own_Q_own_strinit Z a b ch u1 u2 h0 n0) v U'.heap L ∧ FrameEnd U o U' L ({ frames := 1, cells := 0, slots := 0, locals := 12 } : Room).cells ({ frames := 1, cells := 0, slots := 0, locals := 12 } : Room).slots) := by
  refine MetFree.of_bodySF (plainFor_of_name own_pn1) hisR ?_
  intro p e s m args below meth c s₁ Bd hml0 hP hK
  obtain ⟨rfl, hZ, hh⟩ := hP
  have hx := Bd.exec
  have hby := Bd.bytes
  have hml : c.maxLocals = 3 := hml0
  have hown : s.vm.findClass "java/lang/String" = some m.cls := findClass_of_methodNamed Bd.named
  have hnm := (name_of_methodNamed Bd.named Bd.method).1
  have X0 : Stand p l e ({ frames := 1, cells := 0, slots := 0, locals := 12 } : Room) s m #[(.ref a), (.ref b), (.int ch)] below meth c s₁ [] 0 0 := Stand.of_body Bd
  have e0 : s₁.heap = h0 := by rw [← hh, Bd.state]; rfl
  have N0 := Fr.nil n0
  refine own_close (s := s) (Q := (own_Q_own_strinit Z a b ch u1 u2 h0 n0)) (C := (({ frames := 1, cells := 0, slots := 0, locals := 12 } : Room)).cells) (N := (({ frames := 1, cells := 0, slots := 0, locals := 12 } : Room)).slots) (own_st (fun _ kt => castTop (own_ef5 m a b ch) kt) ?_)
  have K0 := Keep.refl h0 [a]
  show own_Rch p e below _ s₁ (mkF m 0 #[.val (.ref a), .val (.ref b), .val (.int ch)] [])
  refine own_st (fun _ kt => XS.aloadN X0.here hx rfl (hb hby own_d5_0) rfl rfl  kt) ?_
  show own_Rch p e below _ s₁ (mkF m 1 #[.val (.ref a), .val (.ref b), .val (.int ch)] [(.ref a)])
  obtain ⟨T1, X1, e1, st1⟩ := initO X0 hx hZ hown (hw _ (List.mem_of_getElem? (i := 30) rfl)) (hw _ (List.mem_of_getElem? (i := 31) rfl)) (hw _ (List.mem_of_getElem? (i := 32) rfl)) e0 (g := (mkF m 1 #[.val (.ref a), .val (.ref b), .val (.int ch)] [(.ref a)])) rfl (by rw [hml]; rfl) rfl (hb hby own_d5_1) (by decide) (W := 0) (by show 2 * 0 + _ ≤ _; exact Nat.le_of_eq rfl) (by decide)
  refine own_st st1 ?_
  show own_Rch p e below _ T1 (mkF m 4 #[.val (.ref a), .val (.ref b), .val (.int ch)] [])
  refine own_st (fun _ kt => XS.aloadN X1.here hx rfl (hb hby own_d5_4) rfl rfl  kt) ?_
  show own_Rch p e below _ T1 (mkF m 5 #[.val (.ref a), .val (.ref b), .val (.int ch)] [(.ref a)])
  refine own_st (fun _ kt => XS.aloadN X1.here hx rfl (hb hby own_d5_5) rfl rfl  kt) ?_
  show own_Rch p e below _ T1 (mkF m 6 #[.val (.ref a), .val (.ref b), .val (.int ch)] [(.ref b), (.ref a)])
  obtain ⟨T2, h2, X2, e2, W2, st2⟩ := putF X1 hx hZ hown (host := "") (Or.inl (hw _ (List.mem_of_getElem? (i := 33) rfl))) Via.refl e1 FV EA (Or.inr ⟨(hw _ (List.mem_of_getElem? (i := 34) rfl)), rfl, hnm⟩) (hw _ (List.mem_of_getElem? (i := 21) rfl)) (ty := (.array .byte)) (by decide) rfl rfl (g := (mkF m 6 #[.val (.ref a), .val (.ref b), .val (.int ch)] [(.ref b), (.ref a)])) rfl rfl (hb hby own_d5_6)
  refine own_st st2 ?_
  have Fw2 := FV.same W2
  have N2 := Fr.snoc X2 N0 ga
  have O0_x2 := O0.wr W2 ga
  have EA_x2 := EA.wr W2
  have FC_x2 := FC.other W2 (Or.inr (slot_ne (Or.inr (hw _ (List.mem_of_getElem? (i := 36) rfl))) (Or.inr (hw _ (List.mem_of_getElem? (i := 34) rfl))) (by decide) (t := .byte) (t' := (.array .byte)) (by decide) (by decide)))
  have K0_x2 := K0.wr W2 (Or.inl (List.mem_of_getElem? (i := 0) rfl))
  show own_Rch p e below _ T2 (mkF m 9 #[.val (.ref a), .val (.ref b), .val (.int ch)] [])
  refine own_st (fun _ kt => XS.aloadN X2.here hx rfl (hb hby own_d5_9) rfl rfl  kt) ?_
  show own_Rch p e below _ T2 (mkF m 10 #[.val (.ref a), .val (.ref b), .val (.int ch)] [(.ref a)])
  refine own_st (fun _ kt => XS.iloadN X2.here hx rfl (hb hby own_d5_10) rfl  kt) ?_
  show own_Rch p e below _ T2 (mkF m 11 #[.val (.ref a), .val (.ref b), .val (.int ch)] [(.int ch), (.ref a)])
  obtain ⟨T3, h3, X3, e3, W3, st3⟩ := putFN X2 hx hZ hown (hw _ (List.mem_of_getElem? (i := 35) rfl)) Via.refl e2 FC_x2 EA_x2 (Or.inr ⟨(hw _ (List.mem_of_getElem? (i := 36) rfl)), rfl, hnm⟩) (hw _ (List.mem_of_getElem? (i := 21) rfl)) (ty := .byte) (v' := (.int (nar .byte ch))) (by decide) rfl (fits_nar_byte _) (g := (mkF m 11 #[.val (.ref a), .val (.ref b), .val (.int ch)] [(.int ch), (.ref a)])) rfl rfl (hb hby own_d5_11)
  refine own_st st3 ?_
  have Fw3 := FC_x2.same W3
  have N3 := Fr.snoc X3 N2 ga
  have O0_x3 := O0_x2.wr W3 ga
  have EA_x3 := EA_x2.wr W3
  have Fw2_x3 := Fw2.other W3 (Or.inr (slot_ne (Or.inr (hw _ (List.mem_of_getElem? (i := 34) rfl))) (Or.inr (hw _ (List.mem_of_getElem? (i := 36) rfl))) (by decide) (t := (.array .byte)) (t' := .byte) (by decide) (by decide)))
  have K0_x3 := K0_x2.wr W3 (Or.inl (List.mem_of_getElem? (i := 0) rfl))
  show own_Rch p e below _ T3 (mkF m 14 #[.val (.ref a), .val (.ref b), .val (.int ch)] [])
  refine own_retV X3 hx Bd.notSynchronized Bd.returns (hb hby own_d5_14) (by decide) (by decide) ?_
  rw [e3]
  exact ⟨rfl, N3, K0_x3, EA_x3, Fw2_x3, Fw3⟩
theorem own_ef2 (m : MethodId) (x0 : Int32) : entryFrame m #[(.int x0)] 1 = mkF m 0 #[.val (.int x0)] [] := by first | (simp [entryFrame, mkF, argsToLocals, Value.category]; done) | rfl
theorem own_d2_0 : decode jdk_42_method_139_code 0 = .ok (.getstatic 38, 3) := by decide +kernel
theorem own_d2_3 : decode jdk_42_method_139_code 3 = .ok (.ifCond .eq 23, 3) := by decide +kernel
theorem own_d2_6 : decode jdk_42_method_139_code 6 = .ok (.iload_n 0, 1) := by decide +kernel
theorem own_d2_7 : decode jdk_42_method_139_code 7 = .ok (.invokestatic 1015, 3) := by decide +kernel
theorem own_pd0 : parseMethodDescriptor "(C)Z" = some ⟨[.char], some .boolean⟩ := by decide +kernel
theorem own_d2_10 : decode jdk_42_method_139_code 10 = .ok (.ifCond .eq 16, 3) := by decide +kernel
theorem own_d2_13 : decode jdk_42_method_139_code 13 = .ok (.new 10, 3) := by decide +kernel
theorem own_d2_16 : decode jdk_42_method_139_code 16 = .ok (.dup, 1) := by decide +kernel
theorem own_d2_17 : decode jdk_42_method_139_code 17 = .ok (.iload_n 0, 1) := by decide +kernel
theorem own_d2_18 : decode jdk_42_method_139_code 18 = .ok (.invokestatic 1018, 3) := by decide +kernel
theorem own_pd1 : parseMethodDescriptor "(C)[B" = some ⟨[.char], some (.array .byte)⟩ := by decide +kernel
theorem own_d2_21 : decode jdk_42_method_139_code 21 = .ok (.iconst 0, 1) := by decide +kernel
theorem own_d2_22 : decode jdk_42_method_139_code 22 = .ok (.invokespecial 209, 3) := by decide +kernel
theorem own_pd2 : parseMethodDescriptor "([BB)V" = some ⟨[(.array .byte), .byte], none⟩ := by decide +kernel
theorem own_d2_25 : decode jdk_42_method_139_code 25 = .ok (.areturn, 1) := by decide +kernel
def own_Q_own_valof (Z : State) (ch : Int32) (cs : Int32) (h0 : Heap) (n0 : Nat) (v : Option Value) (h : Heap) (L : List Loc) : Prop := ∃ (b y : Addr) (k : ClassId), v = some (.ref b) ∧ Fr n0 L ∧ Keep h0 h [] ∧ h0.size ≤ b ∧ h0.size ≤ y ∧ Exa Z h b "java/lang/String" ∧ Fld Z h b "java/lang/String" "value" "[B" (.ref y) ∧ Fld Z h b "java/lang/String" "coder" "B" (.int (nar .byte (0 : Int32))) ∧ Arv Z h y k .byte (1 : Int32) [(.int (nar .byte (ch.toInt8.toInt32)))] (.int (0 : Int32))
set_option maxRecDepth 65536 in
set_option maxHeartbeats 40000000 in
theorem own_valof (l : Launch) (Z : State) (a0 : Array Value) (hw : ∀ d ∈ tables_1, d.before a0 Z = true) (ws : List Jvm.Cond) (ch : Int32) (cs : Int32) (h0 : Heap) (n0 : Nat) (O0 : Old Z n0 h0) (SC : Sta Z Z.heap "java/lang/String" "COMPACT_STRINGS" "Z" (.int cs)) (hcs : ¬ cs = 0) (hc : ¬ ((255 : Int32) < ch)) :
    MetFree l (⟨"java/lang/String", "valueOf", "(C)Ljava/lang/String;"⟩ : MethodName) (head1 (Jvm.Cond.code (⟨"java/lang/String", "valueOf", "(C)Ljava/lang/String;"⟩ : MethodName) jdk_42_method_139_code 1 (some (.object "java/lang/String")) :: ws) ({ frames := 2, cells := 2, slots := 5, locals := 27 } : Room)) (fun args_ U => args_ = #[(.int ch)] ∧ Z.Warmed39 U.vm ∧ U.heap = h0) (fun _ _ _ _ _ => True) (fun _ U o U' => ∃ v L, o = .returned v ∧ (own_Q_own_valof Z ch cs h0 n0) v U'.heap L ∧ FrameEnd U o U' L ({ frames := 2, cells := 2, slots := 5, locals := 27 } : Room).cells ({ frames := 2, cells := 2, slots := 5, locals := 27 } : Room).slots) := by
  refine MetFree.of_bodySF (plainFor_of_name own_pn1) hisR ?_
  intro p e s m args below meth c s₁ Bd hml0 hP hK
  obtain ⟨rfl, hZ, hh⟩ := hP
  have hx := Bd.exec
  have hby := Bd.bytes
  have hml : c.maxLocals = 1 := hml0
  have hown : s.vm.findClass "java/lang/String" = some m.cls := findClass_of_methodNamed Bd.named
  have hnm := (name_of_methodNamed Bd.named Bd.method).1
  have X0 : Stand p l e ({ frames := 2, cells := 2, slots := 5, locals := 27 } : Room) s m #[(.int ch)] below meth c s₁ [] 0 0 := Stand.of_body Bd
  have e0 : s₁.heap = h0 := by rw [← hh, Bd.state]; rfl
  have N0 := Fr.nil n0
  refine own_close (s := s) (Q := (own_Q_own_valof Z ch cs h0 n0)) (C := (({ frames := 2, cells := 2, slots := 5, locals := 27 } : Room)).cells) (N := (({ frames := 2, cells := 2, slots := 5, locals := 27 } : Room)).slots) (own_st (fun _ kt => castTop (own_ef2 m ch) kt) ?_)
  have K0 := Keep.refl h0 []
  show own_Rch p e below _ s₁ (mkF m 0 #[.val (.int ch)] [])
  obtain ⟨T1, X1, e1, st1⟩ := getS2 X0 hx hZ hown (host := "") (Or.inl (hw _ (List.mem_of_getElem? (i := 15) rfl))) Via.refl e0 (SC.ext O0.2) (g := (mkF m 0 #[.val (.int ch)] [])) rfl (hb hby own_d2_0)
  refine own_st st1 ?_
  show own_Rch p e below _ T1 (mkF m 3 #[.val (.int ch)] [(.int cs)])
  refine own_st (fun _ kt => XS.ifNo X1.here hx rfl (hb hby own_d2_3) rfl ((if0 _ _).trans (feq (hcs : ¬ (cs = (0 : Int32)))).1) kt) ?_
  show own_Rch p e below _ T1 (mkF m 6 #[.val (.int ch)] [])
  refine own_st (fun _ kt => XS.iloadN X1.here hx rfl (hb hby own_d2_6) rfl  kt) ?_
  show own_Rch p e below _ T1 (mkF m 7 #[.val (.int ch)] [(.int ch)])
  obtain ⟨_, _, ⟨T2, L2, k2, n2⟩, -, X2, ⟨Lc2, hQ2, l2, y2, z2⟩, st2⟩ := Jvm.LawKit.callS X1 hx (y := (⟨"java/lang/StringLatin1", "canEncode", "(C)Z"⟩ : MethodName)) hown (mvT hZ (hw _ (List.mem_of_getElem? (i := 16) rfl))) (mvT hZ (hw _ (List.mem_of_getElem? (i := 17) rfl))) (mvT hZ (hw _ (List.mem_of_getElem? (i := 18) rfl))) (mvT hZ (hw _ (List.mem_of_getElem? (i := 19) rfl))) (by decide) (backOf (W := 0) (own_canenc l Z a0 hw [] ch h0 n0 O0 hc) hZ (hw _ (List.mem_of_getElem? (i := 19) rfl)) (hw _ (List.mem_of_getElem? (i := 18) rfl)) (by decide) (by decide)) (g := (mkF m 7 #[.val (.int ch)] [(.int ch)])) rfl (by rw [hml]; rfl) (argsL := [(.int ch)]) (rest := []) (lenOf own_pd0 rfl) rfl (by show 2 * 0 + _ ≤ _; exact Nat.le_of_eq rfl) (hb hby own_d2_7) (fun _ _ => ⟨rfl, e1, (by decide : 0 + 0 ≤ _), (by decide : 0 + 0 ≤ _)⟩)
  dsimp only [Pt.U, Pt.locs, Pt.cells, Pt.slots] at X2 l2 y2 z2 st2 hQ2
  subst l2 y2 z2
  obtain ⟨rfl, N2q, hh2⟩ := hQ2
  have N2 := Fr.app N0 N2q
  refine own_st st2 ?_
  show own_Rch p e below _ T2 (mkF m 10 #[.val (.int ch)] [(.int (1 : Int32))])
  refine own_st (fun _ kt => XS.ifNo X2.here hx rfl (hb hby own_d2_10) rfl ((if0 _ _).trans (feq ((by decide) : ¬ ((1 : Int32) = (0 : Int32)))).1) kt) ?_
  show own_Rch p e below _ T2 (mkF m 13 #[.val (.int ch)] [])
  obtain ⟨T3, h3, X3, e3, E3, A3, D3, U3, st3⟩ := newO X2 hx hZ hown (hw _ (List.mem_of_getElem? (i := 20) rfl)) (hw _ (List.mem_of_getElem? (i := 21) rfl)) (hw _ (List.mem_of_getElem? (i := 13) rfl)) hh2 (g := (mkF m 13 #[.val (.int ch)] [])) rfl (hb hby own_d2_13) (by decide) (by decide)
  obtain ⟨b3, g3⟩ : ∃ z, z = h0.size := ⟨_, rfl⟩
  rw [← g3] at A3 D3 U3 st3
  have ge3 : n0 ≤ b3 := by rw [g3]; exact own_old_le O0
  have sz3 : h0.size ≤ b3 := by rw [g3]; exact K0.1
  have O0_x3 := O0.ext E3
  have K0_x3 := K0.ext E3
  refine own_st st3 ?_
  have F3_value : Fld Z h3 b3 "java/lang/String" "value" "[B" .null := D3 (Or.inr (hw _ (List.mem_of_getElem? (i := 34) rfl))) (ty := (.array .byte)) (by decide)
  have F3_coder : Fld Z h3 b3 "java/lang/String" "coder" "B" (.int (0 : Int32)) := D3 (Or.inr (hw _ (List.mem_of_getElem? (i := 36) rfl))) (ty := .byte) (by decide)
  show own_Rch p e below _ T3 (mkF m 16 #[.val (.int ch)] [(.ref b3)])
  refine own_st (fun _ kt => XS.dup X3.here hx rfl (hb hby own_d2_16) rfl rfl kt) ?_
  show own_Rch p e below _ T3 (mkF m 17 #[.val (.int ch)] [(.ref b3), (.ref b3)])
  refine own_st (fun _ kt => XS.iloadN X3.here hx rfl (hb hby own_d2_17) rfl  kt) ?_
  show own_Rch p e below _ T3 (mkF m 18 #[.val (.int ch)] [(.int ch), (.ref b3), (.ref b3)])
  obtain ⟨_, _, ⟨T4, L4, k4, n4⟩, -, X4, ⟨Lc4, hQ4, l4, y4, z4⟩, st4⟩ := Jvm.LawKit.callS X3 hx (y := (⟨"java/lang/StringLatin1", "toBytes", "(C)[B"⟩ : MethodName)) hown (mvT hZ (hw _ (List.mem_of_getElem? (i := 22) rfl))) (mvT hZ (hw _ (List.mem_of_getElem? (i := 23) rfl))) (mvT hZ (hw _ (List.mem_of_getElem? (i := 18) rfl))) (mvT hZ (hw _ (List.mem_of_getElem? (i := 24) rfl))) (by decide) (backOf (W := 2) (own_tobytes l Z a0 hw [] ch h3 n0 O0_x3 ) hZ (hw _ (List.mem_of_getElem? (i := 24) rfl)) (hw _ (List.mem_of_getElem? (i := 18) rfl)) (by decide) (by decide)) (g := (mkF m 18 #[.val (.int ch)] [(.int ch), (.ref b3), (.ref b3)])) rfl (by rw [hml]; rfl) (argsL := [(.int ch)]) (rest := [(.ref b3), (.ref b3)]) (lenOf own_pd1 rfl) rfl (by show 2 * 0 + _ ≤ _; exact Nat.le_of_eq rfl) (hb hby own_d2_18) (fun _ _ => ⟨rfl, e3, (by decide : 1 + 1 ≤ _), (by decide : 4 + 1 ≤ _)⟩)
  dsimp only [Pt.U, Pt.locs, Pt.cells, Pt.slots] at X4 l4 y4 z4 st4 hQ4
  subst l4 y4 z4
  obtain ⟨by4, ky4, rfl, N4q, K4, hb4, Va4⟩ := hQ4
  have N4 := Fr.app N2 N4q
  refine own_st st4 ?_
  have ne4_b3_by4 : b3 ≠ by4 := Nat.ne_of_lt (Nat.lt_of_lt_of_le F3_value.lt hb4)
  have ge4_by4 : n0 ≤ by4 := Nat.le_trans (own_old_le O0_x3) hb4
  have sz4_by4 : h0.size ≤ by4 := Nat.le_trans K0_x3.1 hb4
  have O0_x4 := O0_x3.keep K4 all0
  have K0_x4 := K0_x3.trans K4 all0
  have F3_value_x4 := F3_value.keep K4 nin0
  have F3_coder_x4 := F3_coder.keep K4 nin0
  have A3_x4 := A3.keep K4
  show own_Rch p e below _ T4 (mkF m 21 #[.val (.int ch)] [(.ref by4), (.ref b3), (.ref b3)])
  refine own_st (fun _ kt => XS.iconst X4.here hx rfl (hb hby own_d2_21) kt) ?_
  show own_Rch p e below _ T4 (mkF m 22 #[.val (.int ch)] [(.int (0 : Int32)), (.ref by4), (.ref b3), (.ref b3)])
  obtain ⟨_, _, ⟨T5, L5, k5, n5⟩, -, X5, ⟨Lc5, hQ5, l5, y5, z5⟩, st5⟩ := X4.specialBack hx (y := (⟨"java/lang/String", "<init>", "([BB)V"⟩ : MethodName)) rfl hown (mvT hZ (hw _ (List.mem_of_getElem? (i := 26) rfl))) (mvT hZ (hw _ (List.mem_of_getElem? (i := 27) rfl))) (mvT hZ (hw _ (List.mem_of_getElem? (i := 29) rfl))) (by decide) (backOf (W := 1) (own_strinit l Z a0 hw [] b3 by4 (0 : Int32) _ _ T4.heap n0 O0_x4 A3_x4 F3_value_x4 F3_coder_x4 ge3) hZ (hw _ (List.mem_of_getElem? (i := 29) rfl)) (hw _ (List.mem_of_getElem? (i := 13) rfl)) (by decide) (by decide)) (g := (mkF m 22 #[.val (.int ch)] [(.int (0 : Int32)), (.ref by4), (.ref b3), (.ref b3)])) rfl (by rw [hml]; rfl) (Steps.refl _) (a := b3) (argsL := [(.ref by4), (.int (0 : Int32))]) (rest := [(.ref b3)]) (lenOf own_pd2 rfl) rfl (by show 2 * 0 + _ ≤ _; exact Nat.le_of_eq rfl) (hb hby own_d2_22) (fun _ _ => ⟨rfl, rfl, (by decide : 2 + 0 ≤ _), (by decide : 5 + 0 ≤ _)⟩)
  dsimp only [Pt.U, Pt.locs, Pt.cells, Pt.slots] at X5 l5 y5 z5 st5 hQ5
  subst l5 y5 z5
  obtain ⟨rfl, N5q, K5, Ea5, Fv5, Fc5⟩ := hQ5
  have N5 := Fr.app N4 N5q
  refine own_st (fun _ kt => st5.trans kt) ?_
  have O0_x5 := O0_x4.keep K5 (allS ge3 all0)
  have K0_x5 := K0_x4.trans K5 (allS (Or.inr sz3) all0)
  have A3_x5 := A3_x4.keep K5
  have Va4_x5 := Va4.keep K5 (ninS (Ne.symm ne4_b3_by4) nin0)
  show own_Rch p e below _ T5 (mkF m 25 #[.val (.int ch)] [(.ref b3)])
  refine own_retA rfl rfl X5 hx Bd.notSynchronized Bd.returns (hb hby own_d2_25) (by decide) (by decide) ?_
  exact ⟨_, _, _, rfl, N5, K0_x5, sz3, sz4_by4, Ea5, Fv5, Fc5, Va4_x5⟩
def own_al (x y : Int32) : Int32 := if y < x then 0 else 1
theorem own_pn2 : plainName "com/example/drawdown/drawdown/rating/RatingIsAtLeastPinLaw" = true := by first | (simp [plainName, overriddenIn]; done) | decide +kernel
theorem own_ef1 (m : MethodId) (x0 : Int32) : entryFrame m #[(.int x0)] 2 = mkF m 0 #[.val (.int x0), .unset] [] := by first | (simp [entryFrame, mkF, argsToLocals, Value.category]; done) | rfl
theorem own_d1_0 : decode method_2_code 0 = .ok (.iload_n 0, 1) := by decide +kernel
theorem own_d1_1 : decode method_2_code 1 = .ok (.ldc 7, 2) := by decide +kernel
theorem own_d1_3 : decode method_2_code 3 = .ok (.iand, 1) := by decide +kernel
theorem own_d1_4 : decode method_2_code 4 = .ok (.iconst 3, 1) := by decide +kernel
theorem own_d1_5 : decode method_2_code 5 = .ok (.irem, 1) := by decide +kernel
theorem own_d1_6 : decode method_2_code 6 = .ok (.istore_n 1, 1) := by decide +kernel
theorem own_d1_7 : decode method_2_code 7 = .ok (.iload_n 1, 1) := by decide +kernel
theorem own_d1_8 : decode method_2_code 8 = .ok (.ifCond .ne 7, 3) := by decide +kernel
theorem own_d1_11 : decode method_2_code 11 = .ok (.getstatic 8, 3) := by decide +kernel
theorem own_d1_14 : decode method_2_code 14 = .ok (.areturn, 1) := by decide +kernel
theorem own_d1_15 : decode method_2_code 15 = .ok (.iload_n 1, 1) := by decide +kernel
theorem own_d1_16 : decode method_2_code 16 = .ok (.iconst 1, 1) := by decide +kernel
theorem own_d1_17 : decode method_2_code 17 = .ok (.if_icmp .ne 7, 3) := by decide +kernel
theorem own_d1_20 : decode method_2_code 20 = .ok (.getstatic 14, 3) := by decide +kernel
theorem own_d1_23 : decode method_2_code 23 = .ok (.areturn, 1) := by decide +kernel
theorem own_d1_24 : decode method_2_code 24 = .ok (.getstatic 17, 3) := by decide +kernel
theorem own_d1_27 : decode method_2_code 27 = .ok (.areturn, 1) := by decide +kernel
def own_Q_own_pick (Z : State) (q : Int32) (w0 : Addr) (w1 : Addr) (w2 : Addr) (h0 : Heap) (n0 : Nat) (v : Option Value) (h : Heap) (L : List Loc) : Prop := ∃ g : Addr, v = some (.ref g) ∧ Fr n0 L ∧ h = h0
set_option maxRecDepth 65536 in
set_option maxHeartbeats 40000000 in
theorem own_pick (l : Launch) (Z : State) (a0 : Array Value) (hw : ∀ d ∈ tables_1, d.before a0 Z = true) (ws : List Jvm.Cond) (q : Int32) (w0 : Addr) (w1 : Addr) (w2 : Addr) (h0 : Heap) (n0 : Nat) (O0 : Old Z n0 h0) (S0 : Sta Z Z.heap "com/example/drawdown/drawdown/rating/Agency" "SP" "Lcom/example/drawdown/drawdown/rating/Agency;" (.ref w0)) (S1 : Sta Z Z.heap "com/example/drawdown/drawdown/rating/Agency" "MOODYS" "Lcom/example/drawdown/drawdown/rating/Agency;" (.ref w1)) (S2 : Sta Z Z.heap "com/example/drawdown/drawdown/rating/Agency" "FITCH" "Lcom/example/drawdown/drawdown/rating/Agency;" (.ref w2)) :
    MetFree l (⟨"com/example/drawdown/drawdown/rating/RatingIsAtLeastPinLaw", "pickAgency", "(I)Lcom/example/drawdown/drawdown/rating/Agency;"⟩ : MethodName) (head1 (Jvm.Cond.code (⟨"com/example/drawdown/drawdown/rating/RatingIsAtLeastPinLaw", "pickAgency", "(I)Lcom/example/drawdown/drawdown/rating/Agency;"⟩ : MethodName) method_2_code 2 (some (.object "com/example/drawdown/drawdown/rating/Agency")) :: ws) ({ frames := 0, cells := 0, slots := 0, locals := 0 } : Room)) (fun args_ U => args_ = #[(.int q)] ∧ Z.Warmed39 U.vm ∧ U.heap = h0) (fun _ _ _ _ _ => True) (fun _ U o U' => ∃ v L, o = .returned v ∧ (own_Q_own_pick Z q w0 w1 w2 h0 n0) v U'.heap L ∧ FrameEnd U o U' L ({ frames := 0, cells := 0, slots := 0, locals := 0 } : Room).cells ({ frames := 0, cells := 0, slots := 0, locals := 0 } : Room).slots) := by
  refine MetFree.of_bodySF (plainFor_of_name own_pn2) hisR ?_
  intro p e s m args below meth c s₁ Bd hml0 hP hK
  obtain ⟨rfl, hZ, hh⟩ := hP
  have hx := Bd.exec
  have hby := Bd.bytes
  have hml : c.maxLocals = 2 := hml0
  have hown : s.vm.findClass "com/example/drawdown/drawdown/rating/RatingIsAtLeastPinLaw" = some m.cls := findClass_of_methodNamed Bd.named
  have hnm := (name_of_methodNamed Bd.named Bd.method).1
  have X0 : Stand p l e ({ frames := 0, cells := 0, slots := 0, locals := 0 } : Room) s m #[(.int q)] below meth c s₁ [] 0 0 := Stand.of_body Bd
  have e0 : s₁.heap = h0 := by rw [← hh, Bd.state]; rfl
  have N0 := Fr.nil n0
  refine own_close (s := s) (Q := (own_Q_own_pick Z q w0 w1 w2 h0 n0)) (C := (({ frames := 0, cells := 0, slots := 0, locals := 0 } : Room)).cells) (N := (({ frames := 0, cells := 0, slots := 0, locals := 0 } : Room)).slots) (own_st (fun _ kt => castTop (own_ef1 m q) kt) ?_)
  show own_Rch p e below _ s₁ (mkF m 0 #[.val (.int q), .unset] [])
  refine own_st (fun _ kt => XS.iloadN X0.here hx rfl (hb hby own_d1_0) rfl  kt) ?_
  show own_Rch p e below _ s₁ (mkF m 1 #[.val (.int q), .unset] [(.int q)])
  refine own_st (X0.ldcInt hx hown (mvT hZ (hw _ (List.mem_of_getElem? (i := 4) rfl))) (g := (mkF m 1 #[.val (.int q), .unset] [(.int q)])) rfl (hb hby own_d1_1)) ?_
  show own_Rch p e below _ s₁ (mkF m 3 #[.val (.int q), .unset] [(.int (2147483647 : Int32)), (.int q)])
  refine own_st (fun _ kt => XS.iand X0.here hx rfl (hb hby own_d1_3) rfl kt) ?_
  show own_Rch p e below _ s₁ (mkF m 4 #[.val (.int q), .unset] [(.int (q &&& (2147483647 : Int32)))])
  refine own_st (fun _ kt => XS.iconst X0.here hx rfl (hb hby own_d1_4) kt) ?_
  show own_Rch p e below _ s₁ (mkF m 5 #[.val (.int q), .unset] [(.int (3 : Int32)), (.int (q &&& (2147483647 : Int32)))])
  refine own_st (fun _ kt => iremM X0 hx rfl (hb hby own_d1_5) rfl (by decide) kt) ?_
  show own_Rch p e below _ s₁ (mkF m 6 #[.val (.int q), .unset] [(.int ((q &&& (2147483647 : Int32)) % (3 : Int32)))])
  refine own_st (fun _ kt => XS.istoreN X0.here hx rfl (hb hby own_d1_6) rfl (l' := #[.val (.int q), .val (.int ((q &&& (2147483647 : Int32)) % (3 : Int32)))]) rfl kt) ?_
  show own_Rch p e below _ s₁ (mkF m 7 #[.val (.int q), .val (.int ((q &&& (2147483647 : Int32)) % (3 : Int32)))] [])
  refine own_st (fun _ kt => XS.iloadN X0.here hx rfl (hb hby own_d1_7) rfl  kt) ?_
  show own_Rch p e below _ s₁ (mkF m 8 #[.val (.int q), .val (.int ((q &&& (2147483647 : Int32)) % (3 : Int32)))] [(.int ((q &&& (2147483647 : Int32)) % (3 : Int32)))])
  by_cases hc8_1 : ((q &&& (2147483647 : Int32)) % (3 : Int32)) = (0 : Int32)
  · -- pc 8: True
    refine own_st (fun _ kt => XS.ifNo X0.here hx rfl (hb hby own_d1_8) rfl ((if0 _ _).trans (teq hc8_1).2) kt) ?_
    show own_Rch p e below _ s₁ (mkF m 11 #[.val (.int q), .val (.int ((q &&& (2147483647 : Int32)) % (3 : Int32)))] [])
    obtain ⟨T2, X2, e2, st2⟩ := getS2 X0 hx hZ hown (host := "") (Or.inl (hw _ (List.mem_of_getElem? (i := 5) rfl))) Via.refl e0 (S0.ext O0.2) (g := (mkF m 11 #[.val (.int q), .val (.int ((q &&& (2147483647 : Int32)) % (3 : Int32)))] [])) rfl (hb hby own_d1_11)
    refine own_st st2 ?_
    show own_Rch p e below _ T2 (mkF m 14 #[.val (.int q), .val (.int ((q &&& (2147483647 : Int32)) % (3 : Int32)))] [(.ref w0)])
    refine own_retA rfl rfl X2 hx Bd.notSynchronized Bd.returns (hb hby own_d1_14) (by decide) (by decide) ?_
    rw [e2]
    exact ⟨_, rfl, N0, rfl⟩
  · -- pc 8: False
    refine own_st (fun _ kt => XS.ifYes X0.here hx rfl (pc0 := 8) (pc' := 15) rfl (hb hby own_d1_8) rfl ((if0 _ _).trans (feq hc8_1).2) (by decide) (by decide) kt) ?_
    show own_Rch p e below _ s₁ (mkF m 15 #[.val (.int q), .val (.int ((q &&& (2147483647 : Int32)) % (3 : Int32)))] [])
    refine own_st (fun _ kt => XS.iloadN X0.here hx rfl (hb hby own_d1_15) rfl  kt) ?_
    show own_Rch p e below _ s₁ (mkF m 16 #[.val (.int q), .val (.int ((q &&& (2147483647 : Int32)) % (3 : Int32)))] [(.int ((q &&& (2147483647 : Int32)) % (3 : Int32)))])
    refine own_st (fun _ kt => XS.iconst X0.here hx rfl (hb hby own_d1_16) kt) ?_
    show own_Rch p e below _ s₁ (mkF m 17 #[.val (.int q), .val (.int ((q &&& (2147483647 : Int32)) % (3 : Int32)))] [(.int (1 : Int32)), (.int ((q &&& (2147483647 : Int32)) % (3 : Int32)))])
    by_cases hc17_3 : ((q &&& (2147483647 : Int32)) % (3 : Int32)) = (1 : Int32)
    · -- pc 17: True
      refine own_st (fun _ kt => XS.icmpNo X0.here hx rfl (hb hby own_d1_17) rfl (teq hc17_3).2 kt) ?_
      show own_Rch p e below _ s₁ (mkF m 20 #[.val (.int q), .val (.int ((q &&& (2147483647 : Int32)) % (3 : Int32)))] [])
      obtain ⟨T4, X4, e4, st4⟩ := getS2 X0 hx hZ hown (host := "") (Or.inl (hw _ (List.mem_of_getElem? (i := 52) rfl))) Via.refl e0 (S1.ext O0.2) (g := (mkF m 20 #[.val (.int q), .val (.int ((q &&& (2147483647 : Int32)) % (3 : Int32)))] [])) rfl (hb hby own_d1_20)
      refine own_st st4 ?_
      show own_Rch p e below _ T4 (mkF m 23 #[.val (.int q), .val (.int ((q &&& (2147483647 : Int32)) % (3 : Int32)))] [(.ref w1)])
      refine own_retA rfl rfl X4 hx Bd.notSynchronized Bd.returns (hb hby own_d1_23) (by decide) (by decide) ?_
      rw [e4]
      exact ⟨_, rfl, N0, rfl⟩
    · -- pc 17: False
      refine own_st (fun _ kt => XS.icmpYes X0.here hx rfl (pc0 := 17) (pc' := 24) rfl (hb hby own_d1_17) rfl (feq hc17_3).2 (by decide) (by decide) kt) ?_
      show own_Rch p e below _ s₁ (mkF m 24 #[.val (.int q), .val (.int ((q &&& (2147483647 : Int32)) % (3 : Int32)))] [])
      obtain ⟨T5, X5, e5, st5⟩ := getS2 X0 hx hZ hown (host := "") (Or.inl (hw _ (List.mem_of_getElem? (i := 54) rfl))) Via.refl e0 (S2.ext O0.2) (g := (mkF m 24 #[.val (.int q), .val (.int ((q &&& (2147483647 : Int32)) % (3 : Int32)))] [])) rfl (hb hby own_d1_24)
      refine own_st st5 ?_
      show own_Rch p e below _ T5 (mkF m 27 #[.val (.int q), .val (.int ((q &&& (2147483647 : Int32)) % (3 : Int32)))] [(.ref w2)])
      refine own_retA rfl rfl X5 hx Bd.notSynchronized Bd.returns (hb hby own_d1_27) (by decide) (by decide) ?_
      rw [e5]
      exact ⟨_, rfl, N0, rfl⟩
theorem own_pn3 : plainName "com/example/drawdown/drawdown/rating/Rating" = true := by first | (simp [plainName, overriddenIn]; done) | decide +kernel
theorem own_ef7 (m : MethodId) (x0 : Addr) (x1 : Addr) (x2 : Addr) (x3 : Int32) : entryFrame m #[(.ref x0), (.ref x1), (.ref x2), (.int x3)] 4 = mkF m 0 #[.val (.ref x0), .val (.ref x1), .val (.ref x2), .val (.int x3)] [] := by first | (simp [entryFrame, mkF, argsToLocals, Value.category]; done) | rfl
theorem own_d7_0 : decode prog_50_method_1_code 0 = .ok (.aload_n 0, 1) := by decide +kernel
theorem own_d7_1 : decode prog_50_method_1_code 1 = .ok (.invokespecial 1, 3) := by decide +kernel
theorem own_d7_4 : decode prog_50_method_1_code 4 = .ok (.aload_n 0, 1) := by decide +kernel
theorem own_d7_5 : decode prog_50_method_1_code 5 = .ok (.aload_n 1, 1) := by decide +kernel
theorem own_d7_6 : decode prog_50_method_1_code 6 = .ok (.putfield 7, 3) := by decide +kernel
theorem own_d7_9 : decode prog_50_method_1_code 9 = .ok (.aload_n 0, 1) := by decide +kernel
theorem own_d7_10 : decode prog_50_method_1_code 10 = .ok (.aload_n 2, 1) := by decide +kernel
theorem own_d7_11 : decode prog_50_method_1_code 11 = .ok (.putfield 13, 3) := by decide +kernel
theorem own_d7_14 : decode prog_50_method_1_code 14 = .ok (.aload_n 0, 1) := by decide +kernel
theorem own_d7_15 : decode prog_50_method_1_code 15 = .ok (.iload_n 3, 1) := by decide +kernel
theorem own_d7_16 : decode prog_50_method_1_code 16 = .ok (.putfield 17, 3) := by decide +kernel
theorem own_d7_19 : decode prog_50_method_1_code 19 = .ok (.return_, 1) := by decide +kernel
def own_Q_own_rating (Z : State) (a : Addr) (g : Addr) (b : Addr) (r : Int32) (h0 : Heap) (n0 : Nat) (v : Option Value) (h : Heap) (L : List Loc) : Prop := v = none ∧ Fr n0 L ∧ Keep h0 h [a] ∧ Exa Z h a "com/example/drawdown/drawdown/rating/Rating" ∧ Fld Z h a "com/example/drawdown/drawdown/rating/Rating" "agency" "Lcom/example/drawdown/drawdown/rating/Agency;" (.ref g) ∧ Fld Z h a "com/example/drawdown/drawdown/rating/Rating" "rank" "I" (.int r)
set_option maxRecDepth 65536 in
set_option maxHeartbeats 40000000 in
theorem own_rating (l : Launch) (Z : State) (a0 : Array Value) (hw : ∀ d ∈ tables_1, d.before a0 Z = true) (ws : List Jvm.Cond) (a : Addr) (g : Addr) (b : Addr) (r : Int32) (h0 : Heap) (n0 : Nat) (O0 : Old Z n0 h0) (EA : Exa Z h0 a "com/example/drawdown/drawdown/rating/Rating") (F1 : Fld Z h0 a "com/example/drawdown/drawdown/rating/Rating" "agency" "Lcom/example/drawdown/drawdown/rating/Agency;" .null) (F2 : Fld Z h0 a "com/example/drawdown/drawdown/rating/Rating" "symbol" "Ljava/lang/String;" .null) (F3 : Fld Z h0 a "com/example/drawdown/drawdown/rating/Rating" "rank" "I" (.int (0 : Int32))) (ga : n0 ≤ a) :
    MetFree l (⟨"com/example/drawdown/drawdown/rating/Rating", "<init>", "(Lcom/example/drawdown/drawdown/rating/Agency;Ljava/lang/String;I)V"⟩ : MethodName) (head1 (Jvm.Cond.code (⟨"com/example/drawdown/drawdown/rating/Rating", "<init>", "(Lcom/example/drawdown/drawdown/rating/Agency;Ljava/lang/String;I)V"⟩ : MethodName) prog_50_method_1_code 4 none :: ws) ({ frames := 1, cells := 0, slots := 0, locals := 12 } : Room)) (fun args_ U => args_ = #[(.ref a), (.ref g), (.ref b), (.int r)] ∧ Z.Warmed39 U.vm ∧ U.heap = h0) (fun _ _ _ _ _ => True) (fun _ U o U' => ∃ v L, o = .returned v ∧ (own_Q_own_rating Z a g b r h0 n0) v U'.heap L ∧ FrameEnd U o U' L ({ frames := 1, cells := 0, slots := 0, locals := 12 } : Room).cells ({ frames := 1, cells := 0, slots := 0, locals := 12 } : Room).slots) := by
  refine MetFree.of_bodySF (plainFor_of_name own_pn3) hisR ?_
  intro p e s m args below meth c s₁ Bd hml0 hP hK
  obtain ⟨rfl, hZ, hh⟩ := hP
  have hx := Bd.exec
  have hby := Bd.bytes
  have hml : c.maxLocals = 4 := hml0
  have hown : s.vm.findClass "com/example/drawdown/drawdown/rating/Rating" = some m.cls := findClass_of_methodNamed Bd.named
  have hnm := (name_of_methodNamed Bd.named Bd.method).1
  have X0 : Stand p l e ({ frames := 1, cells := 0, slots := 0, locals := 12 } : Room) s m #[(.ref a), (.ref g), (.ref b), (.int r)] below meth c s₁ [] 0 0 := Stand.of_body Bd
  have e0 : s₁.heap = h0 := by rw [← hh, Bd.state]; rfl
  have N0 := Fr.nil n0
  refine own_close (s := s) (Q := (own_Q_own_rating Z a g b r h0 n0)) (C := (({ frames := 1, cells := 0, slots := 0, locals := 12 } : Room)).cells) (N := (({ frames := 1, cells := 0, slots := 0, locals := 12 } : Room)).slots) (own_st (fun _ kt => castTop (own_ef7 m a g b r) kt) ?_)
  have K0 := Keep.refl h0 [a]
  show own_Rch p e below _ s₁ (mkF m 0 #[.val (.ref a), .val (.ref g), .val (.ref b), .val (.int r)] [])
  refine own_st (fun _ kt => XS.aloadN X0.here hx rfl (hb hby own_d7_0) rfl rfl  kt) ?_
  show own_Rch p e below _ s₁ (mkF m 1 #[.val (.ref a), .val (.ref g), .val (.ref b), .val (.int r)] [(.ref a)])
  obtain ⟨T1, X1, e1, st1⟩ := initO X0 hx hZ hown (hw _ (List.mem_of_getElem? (i := 40) rfl)) (hw _ (List.mem_of_getElem? (i := 31) rfl)) (hw _ (List.mem_of_getElem? (i := 32) rfl)) e0 (g := (mkF m 1 #[.val (.ref a), .val (.ref g), .val (.ref b), .val (.int r)] [(.ref a)])) rfl (by rw [hml]; rfl) rfl (hb hby own_d7_1) (by decide) (W := 0) (by show 2 * 0 + _ ≤ _; exact Nat.le_of_eq rfl) (by decide)
  refine own_st st1 ?_
  show own_Rch p e below _ T1 (mkF m 4 #[.val (.ref a), .val (.ref g), .val (.ref b), .val (.int r)] [])
  refine own_st (fun _ kt => XS.aloadN X1.here hx rfl (hb hby own_d7_4) rfl rfl  kt) ?_
  show own_Rch p e below _ T1 (mkF m 5 #[.val (.ref a), .val (.ref g), .val (.ref b), .val (.int r)] [(.ref a)])
  refine own_st (fun _ kt => XS.aloadN X1.here hx rfl (hb hby own_d7_5) rfl rfl  kt) ?_
  show own_Rch p e below _ T1 (mkF m 6 #[.val (.ref a), .val (.ref g), .val (.ref b), .val (.int r)] [(.ref g), (.ref a)])
  obtain ⟨T2, h2, X2, e2, W2, st2⟩ := putF X1 hx hZ hown (host := "") (Or.inl (hw _ (List.mem_of_getElem? (i := 41) rfl))) Via.refl e1 F1 EA (Or.inr ⟨(hw _ (List.mem_of_getElem? (i := 42) rfl)), rfl, hnm⟩) (hw _ (List.mem_of_getElem? (i := 9) rfl)) (ty := (.object "com/example/drawdown/drawdown/rating/Agency")) (by decide) rfl rfl (g := (mkF m 6 #[.val (.ref a), .val (.ref g), .val (.ref b), .val (.int r)] [(.ref g), (.ref a)])) rfl rfl (hb hby own_d7_6)
  refine own_st st2 ?_
  have Fw2 := F1.same W2
  have N2 := Fr.snoc X2 N0 ga
  have O0_x2 := O0.wr W2 ga
  have EA_x2 := EA.wr W2
  have F2_x2 := F2.other W2 (Or.inr (slot_ne (Or.inr (hw _ (List.mem_of_getElem? (i := 44) rfl))) (Or.inr (hw _ (List.mem_of_getElem? (i := 42) rfl))) (by decide) (t := (.object "java/lang/String")) (t' := (.object "com/example/drawdown/drawdown/rating/Agency")) (by decide) (by decide)))
  have F3_x2 := F3.other W2 (Or.inr (slot_ne (Or.inr (hw _ (List.mem_of_getElem? (i := 46) rfl))) (Or.inr (hw _ (List.mem_of_getElem? (i := 42) rfl))) (by decide) (t := .int) (t' := (.object "com/example/drawdown/drawdown/rating/Agency")) (by decide) (by decide)))
  have K0_x2 := K0.wr W2 (Or.inl (List.mem_of_getElem? (i := 0) rfl))
  show own_Rch p e below _ T2 (mkF m 9 #[.val (.ref a), .val (.ref g), .val (.ref b), .val (.int r)] [])
  refine own_st (fun _ kt => XS.aloadN X2.here hx rfl (hb hby own_d7_9) rfl rfl  kt) ?_
  show own_Rch p e below _ T2 (mkF m 10 #[.val (.ref a), .val (.ref g), .val (.ref b), .val (.int r)] [(.ref a)])
  refine own_st (fun _ kt => XS.aloadN X2.here hx rfl (hb hby own_d7_10) rfl rfl  kt) ?_
  show own_Rch p e below _ T2 (mkF m 11 #[.val (.ref a), .val (.ref g), .val (.ref b), .val (.int r)] [(.ref b), (.ref a)])
  obtain ⟨T3, h3, X3, e3, W3, st3⟩ := putF X2 hx hZ hown (host := "") (Or.inl (hw _ (List.mem_of_getElem? (i := 43) rfl))) Via.refl e2 F2_x2 EA_x2 (Or.inr ⟨(hw _ (List.mem_of_getElem? (i := 44) rfl)), rfl, hnm⟩) (hw _ (List.mem_of_getElem? (i := 9) rfl)) (ty := (.object "java/lang/String")) (by decide) rfl rfl (g := (mkF m 11 #[.val (.ref a), .val (.ref g), .val (.ref b), .val (.int r)] [(.ref b), (.ref a)])) rfl rfl (hb hby own_d7_11)
  refine own_st st3 ?_
  have Fw3 := F2_x2.same W3
  have N3 := Fr.snoc X3 N2 ga
  have O0_x3 := O0_x2.wr W3 ga
  have EA_x3 := EA_x2.wr W3
  have Fw2_x3 := Fw2.other W3 (Or.inr (slot_ne (Or.inr (hw _ (List.mem_of_getElem? (i := 42) rfl))) (Or.inr (hw _ (List.mem_of_getElem? (i := 44) rfl))) (by decide) (t := (.object "com/example/drawdown/drawdown/rating/Agency")) (t' := (.object "java/lang/String")) (by decide) (by decide)))
  have F3_x3 := F3_x2.other W3 (Or.inr (slot_ne (Or.inr (hw _ (List.mem_of_getElem? (i := 46) rfl))) (Or.inr (hw _ (List.mem_of_getElem? (i := 44) rfl))) (by decide) (t := .int) (t' := (.object "java/lang/String")) (by decide) (by decide)))
  have K0_x3 := K0_x2.wr W3 (Or.inl (List.mem_of_getElem? (i := 0) rfl))
  show own_Rch p e below _ T3 (mkF m 14 #[.val (.ref a), .val (.ref g), .val (.ref b), .val (.int r)] [])
  refine own_st (fun _ kt => XS.aloadN X3.here hx rfl (hb hby own_d7_14) rfl rfl  kt) ?_
  show own_Rch p e below _ T3 (mkF m 15 #[.val (.ref a), .val (.ref g), .val (.ref b), .val (.int r)] [(.ref a)])
  refine own_st (fun _ kt => XS.iloadN X3.here hx rfl (hb hby own_d7_15) rfl  kt) ?_
  show own_Rch p e below _ T3 (mkF m 16 #[.val (.ref a), .val (.ref g), .val (.ref b), .val (.int r)] [(.int r), (.ref a)])
  obtain ⟨T4, h4, X4, e4, W4, st4⟩ := putF X3 hx hZ hown (host := "") (Or.inl (hw _ (List.mem_of_getElem? (i := 45) rfl))) Via.refl e3 F3_x3 EA_x3 (Or.inr ⟨(hw _ (List.mem_of_getElem? (i := 46) rfl)), rfl, hnm⟩) (hw _ (List.mem_of_getElem? (i := 9) rfl)) (ty := .int) (by decide) rfl rfl (g := (mkF m 16 #[.val (.ref a), .val (.ref g), .val (.ref b), .val (.int r)] [(.int r), (.ref a)])) rfl rfl (hb hby own_d7_16)
  refine own_st st4 ?_
  have Fw4 := F3_x3.same W4
  have N4 := Fr.snoc X4 N3 ga
  have O0_x4 := O0_x3.wr W4 ga
  have EA_x4 := EA_x3.wr W4
  have Fw2_x4 := Fw2_x3.other W4 (Or.inr (slot_ne (Or.inr (hw _ (List.mem_of_getElem? (i := 42) rfl))) (Or.inr (hw _ (List.mem_of_getElem? (i := 46) rfl))) (by decide) (t := (.object "com/example/drawdown/drawdown/rating/Agency")) (t' := .int) (by decide) (by decide)))
  have Fw3_x4 := Fw3.other W4 (Or.inr (slot_ne (Or.inr (hw _ (List.mem_of_getElem? (i := 44) rfl))) (Or.inr (hw _ (List.mem_of_getElem? (i := 46) rfl))) (by decide) (t := (.object "java/lang/String")) (t' := .int) (by decide) (by decide)))
  have K0_x4 := K0_x3.wr W4 (Or.inl (List.mem_of_getElem? (i := 0) rfl))
  show own_Rch p e below _ T4 (mkF m 19 #[.val (.ref a), .val (.ref g), .val (.ref b), .val (.int r)] [])
  refine own_retV X4 hx Bd.notSynchronized Bd.returns (hb hby own_d7_19) (by decide) (by decide) ?_
  rw [e4]
  exact ⟨rfl, N4, K0_x4, EA_x4, Fw2_x4, Fw4⟩
theorem own_ef8 (m : MethodId) (x0 : Addr) (x1 : Addr) : entryFrame m #[(.ref x0), (.ref x1)] 2 = mkF m 0 #[.val (.ref x0), .val (.ref x1)] [] := by first | (simp [entryFrame, mkF, argsToLocals, Value.category]; done) | rfl
theorem own_d8_0 : decode prog_50_method_4_code 0 = .ok (.aload_n 1, 1) := by decide +kernel
theorem own_d8_1 : decode prog_50_method_4_code 1 = .ok (.getfield 7, 3) := by decide +kernel
theorem own_d8_4 : decode prog_50_method_4_code 4 = .ok (.aload_n 0, 1) := by decide +kernel
theorem own_d8_5 : decode prog_50_method_4_code 5 = .ok (.getfield 7, 3) := by decide +kernel
theorem own_d8_8 : decode prog_50_method_4_code 8 = .ok (.if_acmp .eq 30, 3) := by decide +kernel
theorem own_d8_38 : decode prog_50_method_4_code 38 = .ok (.aload_n 0, 1) := by decide +kernel
theorem own_d8_39 : decode prog_50_method_4_code 39 = .ok (.getfield 17, 3) := by decide +kernel
theorem own_d8_42 : decode prog_50_method_4_code 42 = .ok (.aload_n 1, 1) := by decide +kernel
theorem own_d8_43 : decode prog_50_method_4_code 43 = .ok (.getfield 17, 3) := by decide +kernel
theorem own_d8_46 : decode prog_50_method_4_code 46 = .ok (.if_icmp .gt 7, 3) := by decide +kernel
theorem own_d8_53 : decode prog_50_method_4_code 53 = .ok (.iconst 0, 1) := by decide +kernel
theorem own_d8_54 : decode prog_50_method_4_code 54 = .ok (.ireturn, 1) := by decide +kernel
theorem own_d8_49 : decode prog_50_method_4_code 49 = .ok (.iconst 1, 1) := by decide +kernel
theorem own_d8_50 : decode prog_50_method_4_code 50 = .ok (.goto 4, 3) := by decide +kernel
def own_Q_own_atleast (Z : State) (a : Addr) (b : Addr) (g : Addr) (r : Int32) (t : Int32) (h0 : Heap) (n0 : Nat) (v : Option Value) (h : Heap) (L : List Loc) : Prop := v = some (.int (own_al r t)) ∧ Fr n0 L ∧ h = h0
set_option maxRecDepth 65536 in
set_option maxHeartbeats 40000000 in
theorem own_atleast (l : Launch) (Z : State) (a0 : Array Value) (hw : ∀ d ∈ tables_1, d.before a0 Z = true) (ws : List Jvm.Cond) (a : Addr) (b : Addr) (g : Addr) (r : Int32) (t : Int32) (h0 : Heap) (n0 : Nat) (O0 : Old Z n0 h0) (F1 : Fld Z h0 a "com/example/drawdown/drawdown/rating/Rating" "agency" "Lcom/example/drawdown/drawdown/rating/Agency;" (.ref g)) (F2 : Fld Z h0 b "com/example/drawdown/drawdown/rating/Rating" "agency" "Lcom/example/drawdown/drawdown/rating/Agency;" (.ref g)) (F3 : Fld Z h0 a "com/example/drawdown/drawdown/rating/Rating" "rank" "I" (.int r)) (F4 : Fld Z h0 b "com/example/drawdown/drawdown/rating/Rating" "rank" "I" (.int t)) :
    MetFree l (⟨"com/example/drawdown/drawdown/rating/Rating", "isAtLeast", "(Lcom/example/drawdown/drawdown/rating/Rating;)Z"⟩ : MethodName) (head1 (Jvm.Cond.code (⟨"com/example/drawdown/drawdown/rating/Rating", "isAtLeast", "(Lcom/example/drawdown/drawdown/rating/Rating;)Z"⟩ : MethodName) prog_50_method_4_code 2 (some .boolean) :: ws) ({ frames := 0, cells := 0, slots := 0, locals := 0 } : Room)) (fun args_ U => args_ = #[(.ref a), (.ref b)] ∧ Z.Warmed39 U.vm ∧ U.heap = h0) (fun _ _ _ _ _ => True) (fun _ U o U' => ∃ v L, o = .returned v ∧ (own_Q_own_atleast Z a b g r t h0 n0) v U'.heap L ∧ FrameEnd U o U' L ({ frames := 0, cells := 0, slots := 0, locals := 0 } : Room).cells ({ frames := 0, cells := 0, slots := 0, locals := 0 } : Room).slots) := by
  refine MetFree.of_bodySF (plainFor_of_name own_pn3) hisR ?_
  intro p e s m args below meth c s₁ Bd hml0 hP hK
  obtain ⟨rfl, hZ, hh⟩ := hP
  have hx := Bd.exec
  have hby := Bd.bytes
  have hml : c.maxLocals = 2 := hml0
  have hown : s.vm.findClass "com/example/drawdown/drawdown/rating/Rating" = some m.cls := findClass_of_methodNamed Bd.named
  have hnm := (name_of_methodNamed Bd.named Bd.method).1
  have X0 : Stand p l e ({ frames := 0, cells := 0, slots := 0, locals := 0 } : Room) s m #[(.ref a), (.ref b)] below meth c s₁ [] 0 0 := Stand.of_body Bd
  have e0 : s₁.heap = h0 := by rw [← hh, Bd.state]; rfl
  have N0 := Fr.nil n0
  refine own_close (s := s) (Q := (own_Q_own_atleast Z a b g r t h0 n0)) (C := (({ frames := 0, cells := 0, slots := 0, locals := 0 } : Room)).cells) (N := (({ frames := 0, cells := 0, slots := 0, locals := 0 } : Room)).slots) (own_st (fun _ kt => castTop (own_ef8 m a b) kt) ?_)
  show own_Rch p e below _ s₁ (mkF m 0 #[.val (.ref a), .val (.ref b)] [])
  refine own_st (fun _ kt => XS.aloadN X0.here hx rfl (hb hby own_d8_0) rfl rfl  kt) ?_
  show own_Rch p e below _ s₁ (mkF m 1 #[.val (.ref a), .val (.ref b)] [(.ref b)])
  obtain ⟨T1, X1, e1, st1⟩ := getF X0 hx hZ hown (host := "") (Or.inl (hw _ (List.mem_of_getElem? (i := 41) rfl))) Via.refl e0 F2 (g := (mkF m 1 #[.val (.ref a), .val (.ref b)] [(.ref b)])) rfl rfl (hb hby own_d8_1)
  refine own_st st1 ?_
  show own_Rch p e below _ T1 (mkF m 4 #[.val (.ref a), .val (.ref b)] [(.ref g)])
  refine own_st (fun _ kt => XS.aloadN X1.here hx rfl (hb hby own_d8_4) rfl rfl  kt) ?_
  show own_Rch p e below _ T1 (mkF m 5 #[.val (.ref a), .val (.ref b)] [(.ref a), (.ref g)])
  obtain ⟨T2, X2, e2, st2⟩ := getF X1 hx hZ hown (host := "") (Or.inl (hw _ (List.mem_of_getElem? (i := 41) rfl))) Via.refl e1 F1 (g := (mkF m 5 #[.val (.ref a), .val (.ref b)] [(.ref a), (.ref g)])) rfl rfl (hb hby own_d8_5)
  refine own_st st2 ?_
  show own_Rch p e below _ T2 (mkF m 8 #[.val (.ref a), .val (.ref b)] [(.ref g), (.ref g)])
  refine own_st (fun _ kt => Jvm.RoadKit.acmp (g := (mkF m 8 #[.val (.ref a), .val (.ref b)] [(.ref g), (.ref g)])) X2 hx rfl rfl rfl (pc0 := 8) (pc' := 38) (same := true) rfl (hb hby own_d8_8) rfl (decide_eq_true rfl) (by decide) (by decide) kt) ?_
  show own_Rch p e below _ T2 (mkF m 38 #[.val (.ref a), .val (.ref b)] [])
  refine own_st (fun _ kt => XS.aloadN X2.here hx rfl (hb hby own_d8_38) rfl rfl  kt) ?_
  show own_Rch p e below _ T2 (mkF m 39 #[.val (.ref a), .val (.ref b)] [(.ref a)])
  obtain ⟨T3, X3, e3, st3⟩ := getF X2 hx hZ hown (host := "") (Or.inl (hw _ (List.mem_of_getElem? (i := 45) rfl))) Via.refl e2 F3 (g := (mkF m 39 #[.val (.ref a), .val (.ref b)] [(.ref a)])) rfl rfl (hb hby own_d8_39)
  refine own_st st3 ?_
  show own_Rch p e below _ T3 (mkF m 42 #[.val (.ref a), .val (.ref b)] [(.int r)])
  refine own_st (fun _ kt => XS.aloadN X3.here hx rfl (hb hby own_d8_42) rfl rfl  kt) ?_
  show own_Rch p e below _ T3 (mkF m 43 #[.val (.ref a), .val (.ref b)] [(.ref b), (.int r)])
  obtain ⟨T4, X4, e4, st4⟩ := getF X3 hx hZ hown (host := "") (Or.inl (hw _ (List.mem_of_getElem? (i := 45) rfl))) Via.refl e3 F4 (g := (mkF m 43 #[.val (.ref a), .val (.ref b)] [(.ref b), (.int r)])) rfl rfl (hb hby own_d8_43)
  refine own_st st4 ?_
  show own_Rch p e below _ T4 (mkF m 46 #[.val (.ref a), .val (.ref b)] [(.int t), (.int r)])
  by_cases hc46_5 : t < r
  · -- pc 46: True
    refine own_st (fun _ kt => XS.icmpYes X4.here hx rfl (pc0 := 46) (pc' := 53) rfl (hb hby own_d8_46) rfl (tlt hc46_5).2.2.1 (by decide) (by decide) kt) ?_
    show own_Rch p e below _ T4 (mkF m 53 #[.val (.ref a), .val (.ref b)] [])
    refine own_st (fun _ kt => XS.iconst X4.here hx rfl (hb hby own_d8_53) kt) ?_
    show own_Rch p e below _ T4 (mkF m 54 #[.val (.ref a), .val (.ref b)] [(.int (0 : Int32))])
    refine own_retN (t := .boolean) (by simp) X4 hx Bd.notSynchronized Bd.returns (hb hby own_d8_54) (by decide) (by decide) ?_
    rw [e4]
    exact ⟨by simp [own_al, nar, hc46_5], N0, rfl⟩
  · -- pc 46: False
    refine own_st (fun _ kt => XS.icmpNo X4.here hx rfl (hb hby own_d8_46) rfl (flt hc46_5).2.2.1 kt) ?_
    show own_Rch p e below _ T4 (mkF m 49 #[.val (.ref a), .val (.ref b)] [])
    refine own_st (fun _ kt => XS.iconst X4.here hx rfl (hb hby own_d8_49) kt) ?_
    show own_Rch p e below _ T4 (mkF m 50 #[.val (.ref a), .val (.ref b)] [(.int (1 : Int32))])
    refine own_st (fun _ kt => XS.goto X4.here hx rfl (pc0 := 50) (pc' := 54) rfl (hb hby own_d8_50) (by decide) (by decide) kt) ?_
    show own_Rch p e below _ T4 (mkF m 54 #[.val (.ref a), .val (.ref b)] [(.int (1 : Int32))])
    refine own_retN (t := .boolean) (by simp) X4 hx Bd.notSynchronized Bd.returns (hb hby own_d8_54) (by decide) (by decide) ?_
    rw [e4]
    exact ⟨by simp [own_al, nar, hc46_5], N0, rfl⟩
theorem own_ef0 (m : MethodId) (x0 : Int32) (x1 : Int32) (x2 : Int32) (x3 : Int32) (x4 : Int32) (x5 : Int32) : entryFrame m #[(.int x0), (.int x1), (.int x2), (.int x3), (.int x4), (.int x5)] maxLocals = mkF m 0 #[.val (.int x0), .val (.int x1), .val (.int x2), .val (.int x3), .val (.int x4), .val (.int x5), .unset, .unset, .unset, .unset, .unset, .unset, .unset, .unset] [] := by first | (simp [entryFrame, mkF, argsToLocals, Value.category, maxLocals]; done) | rfl
theorem own_pd3 : parseMethodDescriptor "(I)Lcom/example/drawdown/drawdown/rating/Agency;" = some ⟨[.int], some (.object "com/example/drawdown/drawdown/rating/Agency")⟩ := by decide +kernel
theorem own_pd4 : parseMethodDescriptor "(C)Ljava/lang/String;" = some ⟨[.char], some (.object "java/lang/String")⟩ := by decide +kernel
theorem own_pd5 : parseMethodDescriptor "(Lcom/example/drawdown/drawdown/rating/Agency;Ljava/lang/String;I)V" = some ⟨[(.object "com/example/drawdown/drawdown/rating/Agency"), (.object "java/lang/String"), .int], none⟩ := by decide +kernel
theorem own_pd6 : parseMethodDescriptor "(Lcom/example/drawdown/drawdown/rating/Rating;)Z" = some ⟨[(.object "com/example/drawdown/drawdown/rating/Rating")], some .boolean⟩ := by decide +kernel
def own_Q_own_rm0 (Z : State) (p0 : Int32) (p1 : Int32) (p2 : Int32) (p3 : Int32) (p4 : Int32) (p5 : Int32) (w0 : Addr) (w1 : Addr) (w2 : Addr) (cs : Int32) (h0 : Heap) (n0 : Nat) (v : Option Value) (h : Heap) (L : List Loc) : Prop := v = some (.int (1 : Int32)) ∧ Fr n0 L
set_option maxRecDepth 65536 in
set_option maxHeartbeats 40000000 in
theorem own_rm0 (l : Launch) (Z : State) (a0 : Array Value) (hw : ∀ d ∈ tables_1, d.before a0 Z = true) (ws : List Jvm.Cond) (p0 : Int32) (p1 : Int32) (p2 : Int32) (p3 : Int32) (p4 : Int32) (p5 : Int32) (w0 : Addr) (w1 : Addr) (w2 : Addr) (cs : Int32) (h0 : Heap) (n0 : Nat) (O0 : Old Z n0 h0) (S0 : Sta Z Z.heap "com/example/drawdown/drawdown/rating/Agency" "SP" "Lcom/example/drawdown/drawdown/rating/Agency;" (.ref w0)) (S1 : Sta Z Z.heap "com/example/drawdown/drawdown/rating/Agency" "MOODYS" "Lcom/example/drawdown/drawdown/rating/Agency;" (.ref w1)) (S2 : Sta Z Z.heap "com/example/drawdown/drawdown/rating/Agency" "FITCH" "Lcom/example/drawdown/drawdown/rating/Agency;" (.ref w2)) (SC : Sta Z Z.heap "java/lang/String" "COMPACT_STRINGS" "Z" (.int cs)) (hcs : ¬ cs = 0) :
    MetFree l x (head1 (Jvm.Cond.code x code maxLocals ret :: ws) room_1) (fun args_ U => args_ = #[(.int p0), (.int p1), (.int p2), (.int p3), (.int p4), (.int p5)] ∧ Z.Warmed39 U.vm ∧ U.heap = h0) (fun _ _ _ _ _ => True) (fun _ U o U' => ∃ v L, o = .returned v ∧ (own_Q_own_rm0 Z p0 p1 p2 p3 p4 p5 w0 w1 w2 cs h0 n0) v U'.heap L ∧ FrameEnd U o U' L room_1.cells room_1.slots) := by
  refine MetFree.of_bodySF (plainFor_of_name own_pn2) hisR ?_
  intro p e s m args below meth c s₁ Bd hml0 hP hK
  obtain ⟨rfl, hZ, hh⟩ := hP
  have hx := Bd.exec
  have hby := Bd.bytes
  have hml : c.maxLocals = 14 := hml0
  have hown : s.vm.findClass "com/example/drawdown/drawdown/rating/RatingIsAtLeastPinLaw" = some m.cls := findClass_of_methodNamed Bd.named
  have hnm := (name_of_methodNamed Bd.named Bd.method).1
  have X0 : Stand p l e room_1 s m #[(.int p0), (.int p1), (.int p2), (.int p3), (.int p4), (.int p5)] below meth c s₁ [] 0 0 := Stand.of_body Bd
  have e0 : s₁.heap = h0 := by rw [← hh, Bd.state]; rfl
  have N0 := Fr.nil n0
  refine own_close (s := s) (Q := (own_Q_own_rm0 Z p0 p1 p2 p3 p4 p5 w0 w1 w2 cs h0 n0)) (C := (room_1).cells) (N := (room_1).slots) (own_st (fun _ kt => castTop (own_ef0 m p0 p1 p2 p3 p4 p5) kt) ?_)
  show own_Rch p e below _ s₁ (mkF m 0 #[.val (.int p0), .val (.int p1), .val (.int p2), .val (.int p3), .val (.int p4), .val (.int p5), .unset, .unset, .unset, .unset, .unset, .unset, .unset, .unset] [])
  refine own_st (fun _ kt => XS.iloadN X0.here hx rfl (hb hby at_0) rfl  kt) ?_
  show own_Rch p e below _ s₁ (mkF m 1 #[.val (.int p0), .val (.int p1), .val (.int p2), .val (.int p3), .val (.int p4), .val (.int p5), .unset, .unset, .unset, .unset, .unset, .unset, .unset, .unset] [(.int p0)])
  obtain ⟨_, _, ⟨T1, L1, k1, n1⟩, -, X1, ⟨Lc1, hQ1, l1, y1, z1⟩, st1⟩ := Jvm.LawKit.callS X0 hx (y := (⟨"com/example/drawdown/drawdown/rating/RatingIsAtLeastPinLaw", "pickAgency", "(I)Lcom/example/drawdown/drawdown/rating/Agency;"⟩ : MethodName)) hown (mvT hZ (hw _ (List.mem_of_getElem? (i := 0) rfl))) (mvT hZ (hw _ (List.mem_of_getElem? (i := 1) rfl))) (mvT hZ (hw _ (List.mem_of_getElem? (i := 2) rfl))) (mvT hZ (hw _ (List.mem_of_getElem? (i := 3) rfl))) (by decide) (backOf (W := 0) (own_pick l Z a0 hw [] p0 w0 w1 w2 h0 n0 O0 S0 S1 S2) hZ (hw _ (List.mem_of_getElem? (i := 3) rfl)) (hw _ (List.mem_of_getElem? (i := 2) rfl)) (by decide) (by decide)) (g := (mkF m 1 #[.val (.int p0), .val (.int p1), .val (.int p2), .val (.int p3), .val (.int p4), .val (.int p5), .unset, .unset, .unset, .unset, .unset, .unset, .unset, .unset] [(.int p0)])) rfl (by rw [hml]; rfl) (argsL := [(.int p0)]) (rest := []) (lenOf own_pd3 rfl) rfl (by show 2 * 0 + _ ≤ _; exact Nat.le_of_eq rfl) (hb hby at_1) (fun _ _ => ⟨rfl, e0, (by decide : 0 + 0 ≤ _), (by decide : 0 + 0 ≤ _)⟩)
  dsimp only [Pt.U, Pt.locs, Pt.cells, Pt.slots] at X1 l1 y1 z1 st1 hQ1
  subst l1 y1 z1
  obtain ⟨ag, rfl, N1q, hh1⟩ := hQ1
  have N1 := Fr.app N0 N1q
  refine own_st st1 ?_
  show own_Rch p e below _ T1 (mkF m 4 #[.val (.int p0), .val (.int p1), .val (.int p2), .val (.int p3), .val (.int p4), .val (.int p5), .unset, .unset, .unset, .unset, .unset, .unset, .unset, .unset] [(.ref ag)])
  refine own_st (fun _ kt => XS.astore X1.here hx rfl (hb hby at_4) rfl rfl (l' := #[.val (.int p0), .val (.int p1), .val (.int p2), .val (.int p3), .val (.int p4), .val (.int p5), .val (.ref ag), .unset, .unset, .unset, .unset, .unset, .unset, .unset]) rfl kt) ?_
  show own_Rch p e below _ T1 (mkF m 6 #[.val (.int p0), .val (.int p1), .val (.int p2), .val (.int p3), .val (.int p4), .val (.int p5), .val (.ref ag), .unset, .unset, .unset, .unset, .unset, .unset, .unset] [])
  refine own_st (fun _ kt => XS.iloadN X1.here hx rfl (hb hby at_6) rfl  kt) ?_
  show own_Rch p e below _ T1 (mkF m 7 #[.val (.int p0), .val (.int p1), .val (.int p2), .val (.int p3), .val (.int p4), .val (.int p5), .val (.ref ag), .unset, .unset, .unset, .unset, .unset, .unset, .unset] [(.int p1)])
  refine own_st (X1.ldcInt hx hown (mvT hZ (hw _ (List.mem_of_getElem? (i := 4) rfl))) (g := (mkF m 7 #[.val (.int p0), .val (.int p1), .val (.int p2), .val (.int p3), .val (.int p4), .val (.int p5), .val (.ref ag), .unset, .unset, .unset, .unset, .unset, .unset, .unset] [(.int p1)])) rfl (hb hby at_7)) ?_
  show own_Rch p e below _ T1 (mkF m 9 #[.val (.int p0), .val (.int p1), .val (.int p2), .val (.int p3), .val (.int p4), .val (.int p5), .val (.ref ag), .unset, .unset, .unset, .unset, .unset, .unset, .unset] [(.int (2147483647 : Int32)), (.int p1)])
  refine own_st (fun _ kt => XS.iand X1.here hx rfl (hb hby at_9) rfl kt) ?_
  show own_Rch p e below _ T1 (mkF m 10 #[.val (.int p0), .val (.int p1), .val (.int p2), .val (.int p3), .val (.int p4), .val (.int p5), .val (.ref ag), .unset, .unset, .unset, .unset, .unset, .unset, .unset] [(.int (p1 &&& (2147483647 : Int32)))])
  refine own_st (fun _ kt => XS.istore X1.here hx rfl (hb hby at_10) rfl (l' := #[.val (.int p0), .val (.int p1), .val (.int p2), .val (.int p3), .val (.int p4), .val (.int p5), .val (.ref ag), .val (.int (p1 &&& (2147483647 : Int32))), .unset, .unset, .unset, .unset, .unset, .unset]) rfl kt) ?_
  have c28 : ∀ (r2 : Int32), own_Rch p e below (own_End s below (own_Q_own_rm0 Z p0 p1 p2 p3 p4 p5 w0 w1 w2 cs h0 n0) (room_1).cells (room_1).slots) T1 (mkF m 28 #[.val (.int p0), .val (.int p1), .val (.int p2), .val (.int p3), .val (.int p4), .val (.int p5), .val (.ref ag), .val (.int (p1 &&& (2147483647 : Int32))), .unset, .unset, .unset, .unset, .unset, .unset] [(.int r2)]) := by
    intro r2
    show own_Rch p e below _ T1 (mkF m 28 #[.val (.int p0), .val (.int p1), .val (.int p2), .val (.int p3), .val (.int p4), .val (.int p5), .val (.ref ag), .val (.int (p1 &&& (2147483647 : Int32))), .unset, .unset, .unset, .unset, .unset, .unset] [(.int r2)])
    refine own_st (fun _ kt => XS.istore X1.here hx rfl (hb hby at_28) rfl (l' := #[.val (.int p0), .val (.int p1), .val (.int p2), .val (.int p3), .val (.int p4), .val (.int p5), .val (.ref ag), .val (.int (p1 &&& (2147483647 : Int32))), .val (.int r2), .unset, .unset, .unset, .unset, .unset]) rfl kt) ?_
    show own_Rch p e below _ T1 (mkF m 30 #[.val (.int p0), .val (.int p1), .val (.int p2), .val (.int p3), .val (.int p4), .val (.int p5), .val (.ref ag), .val (.int (p1 &&& (2147483647 : Int32))), .val (.int r2), .unset, .unset, .unset, .unset, .unset] [])
    obtain ⟨T2, h2, X2, e2, E2, A2, D2, U2, st2⟩ := newO X1 hx hZ hown (hw _ (List.mem_of_getElem? (i := 8) rfl)) (hw _ (List.mem_of_getElem? (i := 9) rfl)) (hw _ (List.mem_of_getElem? (i := 10) rfl)) hh1 (g := (mkF m 30 #[.val (.int p0), .val (.int p1), .val (.int p2), .val (.int p3), .val (.int p4), .val (.int p5), .val (.ref ag), .val (.int (p1 &&& (2147483647 : Int32))), .val (.int r2), .unset, .unset, .unset, .unset, .unset] [])) rfl (hb hby at_30) (by decide) (by decide)
    obtain ⟨b2, g2⟩ : ∃ z, z = h0.size := ⟨_, rfl⟩
    rw [← g2] at A2 D2 U2 st2
    have ge2 : n0 ≤ b2 := by rw [g2]; exact own_old_le O0
    have O0_x2 := O0.ext E2
    refine own_st st2 ?_
    have F2_agency : Fld Z h2 b2 "com/example/drawdown/drawdown/rating/Rating" "agency" "Lcom/example/drawdown/drawdown/rating/Agency;" .null := D2 (Or.inr (hw _ (List.mem_of_getElem? (i := 42) rfl))) (ty := (.object "com/example/drawdown/drawdown/rating/Agency")) (by decide)
    have F2_symbol : Fld Z h2 b2 "com/example/drawdown/drawdown/rating/Rating" "symbol" "Ljava/lang/String;" .null := D2 (Or.inr (hw _ (List.mem_of_getElem? (i := 44) rfl))) (ty := (.object "java/lang/String")) (by decide)
    have F2_rank : Fld Z h2 b2 "com/example/drawdown/drawdown/rating/Rating" "rank" "I" (.int (0 : Int32)) := D2 (Or.inr (hw _ (List.mem_of_getElem? (i := 46) rfl))) (ty := .int) (by decide)
    show own_Rch p e below _ T2 (mkF m 33 #[.val (.int p0), .val (.int p1), .val (.int p2), .val (.int p3), .val (.int p4), .val (.int p5), .val (.ref ag), .val (.int (p1 &&& (2147483647 : Int32))), .val (.int r2), .unset, .unset, .unset, .unset, .unset] [(.ref b2)])
    refine own_st (fun _ kt => XS.dup X2.here hx rfl (hb hby at_33) rfl rfl kt) ?_
    show own_Rch p e below _ T2 (mkF m 34 #[.val (.int p0), .val (.int p1), .val (.int p2), .val (.int p3), .val (.int p4), .val (.int p5), .val (.ref ag), .val (.int (p1 &&& (2147483647 : Int32))), .val (.int r2), .unset, .unset, .unset, .unset, .unset] [(.ref b2), (.ref b2)])
    refine own_st (fun _ kt => XS.aload X2.here hx rfl (hb hby at_34) rfl rfl  kt) ?_
    show own_Rch p e below _ T2 (mkF m 36 #[.val (.int p0), .val (.int p1), .val (.int p2), .val (.int p3), .val (.int p4), .val (.int p5), .val (.ref ag), .val (.int (p1 &&& (2147483647 : Int32))), .val (.int r2), .unset, .unset, .unset, .unset, .unset] [(.ref ag), (.ref b2), (.ref b2)])
    refine own_st (fun _ kt => XS.iloadN X2.here hx rfl (hb hby at_36) rfl  kt) ?_
    show own_Rch p e below _ T2 (mkF m 37 #[.val (.int p0), .val (.int p1), .val (.int p2), .val (.int p3), .val (.int p4), .val (.int p5), .val (.ref ag), .val (.int (p1 &&& (2147483647 : Int32))), .val (.int r2), .unset, .unset, .unset, .unset, .unset] [(.int p3), (.ref ag), (.ref b2), (.ref b2)])
    refine own_st (fun _ kt => XS.sipush X2.here hx rfl (hb hby at_37) kt) ?_
    show own_Rch p e below _ T2 (mkF m 40 #[.val (.int p0), .val (.int p1), .val (.int p2), .val (.int p3), .val (.int p4), .val (.int p5), .val (.ref ag), .val (.int (p1 &&& (2147483647 : Int32))), .val (.int r2), .unset, .unset, .unset, .unset, .unset] [(.int (255 : Int32)), (.int p3), (.ref ag), (.ref b2), (.ref b2)])
    refine own_st (fun _ kt => XS.iand X2.here hx rfl (hb hby at_40) rfl kt) ?_
    show own_Rch p e below _ T2 (mkF m 41 #[.val (.int p0), .val (.int p1), .val (.int p2), .val (.int p3), .val (.int p4), .val (.int p5), .val (.ref ag), .val (.int (p1 &&& (2147483647 : Int32))), .val (.int r2), .unset, .unset, .unset, .unset, .unset] [(.int (p3 &&& (255 : Int32))), (.ref ag), (.ref b2), (.ref b2)])
    refine own_st (fun _ kt => XS.i2c X2.here hx rfl (hb hby at_41) rfl kt) ?_
    show own_Rch p e below _ T2 (mkF m 42 #[.val (.int p0), .val (.int p1), .val (.int p2), .val (.int p3), .val (.int p4), .val (.int p5), .val (.ref ag), .val (.int (p1 &&& (2147483647 : Int32))), .val (.int r2), .unset, .unset, .unset, .unset, .unset] [(.int ((p3 &&& (255 : Int32)).toUInt32.toUInt16.toUInt32.toInt32)), (.ref ag), (.ref b2), (.ref b2)])
    obtain ⟨_, _, ⟨T3, L3, k3, n3⟩, -, X3, ⟨Lc3, hQ3, l3, y3, z3⟩, st3⟩ := Jvm.LawKit.callS X2 hx (y := (⟨"java/lang/String", "valueOf", "(C)Ljava/lang/String;"⟩ : MethodName)) hown (mvT hZ (hw _ (List.mem_of_getElem? (i := 11) rfl))) (mvT hZ (hw _ (List.mem_of_getElem? (i := 12) rfl))) (mvT hZ (hw _ (List.mem_of_getElem? (i := 13) rfl))) (mvT hZ (hw _ (List.mem_of_getElem? (i := 14) rfl))) (by decide) (backOf (W := 3) (own_valof l Z a0 hw [] ((p3 &&& (255 : Int32)).toUInt32.toUInt16.toUInt32.toInt32) cs h2 n0 O0_x2 SC hcs (own_char _)) hZ (hw _ (List.mem_of_getElem? (i := 14) rfl)) (hw _ (List.mem_of_getElem? (i := 13) rfl)) (by decide) (by decide)) (g := (mkF m 42 #[.val (.int p0), .val (.int p1), .val (.int p2), .val (.int p3), .val (.int p4), .val (.int p5), .val (.ref ag), .val (.int (p1 &&& (2147483647 : Int32))), .val (.int r2), .unset, .unset, .unset, .unset, .unset] [(.int ((p3 &&& (255 : Int32)).toUInt32.toUInt16.toUInt32.toInt32)), (.ref ag), (.ref b2), (.ref b2)])) rfl (by rw [hml]; rfl) (argsL := [(.int ((p3 &&& (255 : Int32)).toUInt32.toUInt16.toUInt32.toInt32))]) (rest := [(.ref ag), (.ref b2), (.ref b2)]) (lenOf own_pd4 rfl) rfl (by show 2 * 0 + _ ≤ _; exact Nat.le_of_eq rfl) (hb hby at_42) (fun _ _ => ⟨rfl, e2, (by decide : 1 + 2 ≤ _), (by decide : 3 + 5 ≤ _)⟩)
    dsimp only [Pt.U, Pt.locs, Pt.cells, Pt.slots] at X3 l3 y3 z3 st3 hQ3
    subst l3 y3 z3
    obtain ⟨sb3, sy3, ks3, rfl, N3q, K3, hb3, hy3, Es3, Fv3, Fc3, Vs3⟩ := hQ3
    have N3 := Fr.app N1 N3q
    refine own_st st3 ?_
    have ne3_b2_sb3 : b2 ≠ sb3 := Nat.ne_of_lt (Nat.lt_of_lt_of_le F2_agency.lt hb3)
    have ge3_sb3 : n0 ≤ sb3 := Nat.le_trans (own_old_le O0_x2) hb3
    have O0_x3 := O0_x2.keep K3 all0
    have F2_agency_x3 := F2_agency.keep K3 nin0
    have F2_symbol_x3 := F2_symbol.keep K3 nin0
    have F2_rank_x3 := F2_rank.keep K3 nin0
    have A2_x3 := A2.keep K3
    show own_Rch p e below _ T3 (mkF m 45 #[.val (.int p0), .val (.int p1), .val (.int p2), .val (.int p3), .val (.int p4), .val (.int p5), .val (.ref ag), .val (.int (p1 &&& (2147483647 : Int32))), .val (.int r2), .unset, .unset, .unset, .unset, .unset] [(.ref sb3), (.ref ag), (.ref b2), (.ref b2)])
    refine own_st (fun _ kt => XS.iload X3.here hx rfl (hb hby at_45) rfl  kt) ?_
    show own_Rch p e below _ T3 (mkF m 47 #[.val (.int p0), .val (.int p1), .val (.int p2), .val (.int p3), .val (.int p4), .val (.int p5), .val (.ref ag), .val (.int (p1 &&& (2147483647 : Int32))), .val (.int r2), .unset, .unset, .unset, .unset, .unset] [(.int (p1 &&& (2147483647 : Int32))), (.ref sb3), (.ref ag), (.ref b2), (.ref b2)])
    obtain ⟨_, _, ⟨T4, L4, k4, n4⟩, -, X4, ⟨Lc4, hQ4, l4, y4, z4⟩, st4⟩ := X3.specialBack hx (y := (⟨"com/example/drawdown/drawdown/rating/Rating", "<init>", "(Lcom/example/drawdown/drawdown/rating/Agency;Ljava/lang/String;I)V"⟩ : MethodName)) rfl hown (mvT hZ (hw _ (List.mem_of_getElem? (i := 37) rfl))) (mvT hZ (hw _ (List.mem_of_getElem? (i := 38) rfl))) (mvT hZ (hw _ (List.mem_of_getElem? (i := 39) rfl))) (by decide) (backOf (W := 1) (own_rating l Z a0 hw [] b2 ag sb3 (p1 &&& (2147483647 : Int32)) T3.heap n0 O0_x3 A2_x3 F2_agency_x3 F2_symbol_x3 F2_rank_x3 ge2) hZ (hw _ (List.mem_of_getElem? (i := 39) rfl)) (hw _ (List.mem_of_getElem? (i := 10) rfl)) (by decide) (by decide)) (g := (mkF m 47 #[.val (.int p0), .val (.int p1), .val (.int p2), .val (.int p3), .val (.int p4), .val (.int p5), .val (.ref ag), .val (.int (p1 &&& (2147483647 : Int32))), .val (.int r2), .unset, .unset, .unset, .unset, .unset] [(.int (p1 &&& (2147483647 : Int32))), (.ref sb3), (.ref ag), (.ref b2), (.ref b2)])) rfl (by rw [hml]; rfl) (Steps.refl _) (a := b2) (argsL := [(.ref ag), (.ref sb3), (.int (p1 &&& (2147483647 : Int32)))]) (rest := [(.ref b2)]) (lenOf own_pd5 rfl) rfl (by show 2 * 0 + _ ≤ _; exact Nat.le_of_eq rfl) (hb hby at_47) (fun _ _ => ⟨rfl, rfl, (by decide : 3 + 0 ≤ _), (by decide : 8 + 0 ≤ _)⟩)
    dsimp only [Pt.U, Pt.locs, Pt.cells, Pt.slots] at X4 l4 y4 z4 st4 hQ4
    subst l4 y4 z4
    obtain ⟨rfl, N4q, K4, Ea4, Fg4, Fk4⟩ := hQ4
    have N4 := Fr.app N3 N4q
    refine own_st (fun _ kt => st4.trans kt) ?_
    have O0_x4 := O0_x3.keep K4 (allS ge2 all0)
    have A2_x4 := A2_x3.keep K4
    have Es3_x4 := Es3.keep K4
    show own_Rch p e below _ T4 (mkF m 50 #[.val (.int p0), .val (.int p1), .val (.int p2), .val (.int p3), .val (.int p4), .val (.int p5), .val (.ref ag), .val (.int (p1 &&& (2147483647 : Int32))), .val (.int r2), .unset, .unset, .unset, .unset, .unset] [(.ref b2)])
    refine own_st (fun _ kt => XS.astore X4.here hx rfl (hb hby at_50) rfl rfl (l' := #[.val (.int p0), .val (.int p1), .val (.int p2), .val (.int p3), .val (.int p4), .val (.int p5), .val (.ref ag), .val (.int (p1 &&& (2147483647 : Int32))), .val (.int r2), .val (.ref b2), .unset, .unset, .unset, .unset]) rfl kt) ?_
    show own_Rch p e below _ T4 (mkF m 52 #[.val (.int p0), .val (.int p1), .val (.int p2), .val (.int p3), .val (.int p4), .val (.int p5), .val (.ref ag), .val (.int (p1 &&& (2147483647 : Int32))), .val (.int r2), .val (.ref b2), .unset, .unset, .unset, .unset] [])
    obtain ⟨T5, h5, X5, e5, E5, A5, D5, U5, st5⟩ := newO X4 hx hZ hown (hw _ (List.mem_of_getElem? (i := 8) rfl)) (hw _ (List.mem_of_getElem? (i := 9) rfl)) (hw _ (List.mem_of_getElem? (i := 10) rfl)) rfl (g := (mkF m 52 #[.val (.int p0), .val (.int p1), .val (.int p2), .val (.int p3), .val (.int p4), .val (.int p5), .val (.ref ag), .val (.int (p1 &&& (2147483647 : Int32))), .val (.int r2), .val (.ref b2), .unset, .unset, .unset, .unset] [])) rfl (hb hby at_52) (by decide) (by decide)
    obtain ⟨b5, g5⟩ : ∃ z, z = T4.heap.size := ⟨_, rfl⟩
    rw [← g5] at A5 D5 U5 st5
    have ge5 : n0 ≤ b5 := by rw [g5]; exact own_old_le O0_x4
    have ne5_b2 : b2 ≠ b5 := by rw [g5]; exact Nat.ne_of_lt Ea4.lt
    have ne5_sb3 : sb3 ≠ b5 := by rw [g5]; exact Nat.ne_of_lt Es3_x4.lt
    have O0_x5 := O0_x4.ext E5
    have Ea4_x5 := Ea4.ext E5
    have Es3_x5 := Es3_x4.ext E5
    have Fg4_x5 := Fg4.ext E5
    have Fk4_x5 := Fk4.ext E5
    refine own_st st5 ?_
    have F5_agency : Fld Z h5 b5 "com/example/drawdown/drawdown/rating/Rating" "agency" "Lcom/example/drawdown/drawdown/rating/Agency;" .null := D5 (Or.inr (hw _ (List.mem_of_getElem? (i := 42) rfl))) (ty := (.object "com/example/drawdown/drawdown/rating/Agency")) (by decide)
    have F5_symbol : Fld Z h5 b5 "com/example/drawdown/drawdown/rating/Rating" "symbol" "Ljava/lang/String;" .null := D5 (Or.inr (hw _ (List.mem_of_getElem? (i := 44) rfl))) (ty := (.object "java/lang/String")) (by decide)
    have F5_rank : Fld Z h5 b5 "com/example/drawdown/drawdown/rating/Rating" "rank" "I" (.int (0 : Int32)) := D5 (Or.inr (hw _ (List.mem_of_getElem? (i := 46) rfl))) (ty := .int) (by decide)
    show own_Rch p e below _ T5 (mkF m 55 #[.val (.int p0), .val (.int p1), .val (.int p2), .val (.int p3), .val (.int p4), .val (.int p5), .val (.ref ag), .val (.int (p1 &&& (2147483647 : Int32))), .val (.int r2), .val (.ref b2), .unset, .unset, .unset, .unset] [(.ref b5)])
    refine own_st (fun _ kt => XS.dup X5.here hx rfl (hb hby at_55) rfl rfl kt) ?_
    show own_Rch p e below _ T5 (mkF m 56 #[.val (.int p0), .val (.int p1), .val (.int p2), .val (.int p3), .val (.int p4), .val (.int p5), .val (.ref ag), .val (.int (p1 &&& (2147483647 : Int32))), .val (.int r2), .val (.ref b2), .unset, .unset, .unset, .unset] [(.ref b5), (.ref b5)])
    refine own_st (fun _ kt => XS.aload X5.here hx rfl (hb hby at_56) rfl rfl  kt) ?_
    show own_Rch p e below _ T5 (mkF m 58 #[.val (.int p0), .val (.int p1), .val (.int p2), .val (.int p3), .val (.int p4), .val (.int p5), .val (.ref ag), .val (.int (p1 &&& (2147483647 : Int32))), .val (.int r2), .val (.ref b2), .unset, .unset, .unset, .unset] [(.ref ag), (.ref b5), (.ref b5)])
    refine own_st (fun _ kt => XS.iload X5.here hx rfl (hb hby at_58) rfl  kt) ?_
    show own_Rch p e below _ T5 (mkF m 60 #[.val (.int p0), .val (.int p1), .val (.int p2), .val (.int p3), .val (.int p4), .val (.int p5), .val (.ref ag), .val (.int (p1 &&& (2147483647 : Int32))), .val (.int r2), .val (.ref b2), .unset, .unset, .unset, .unset] [(.int p4), (.ref ag), (.ref b5), (.ref b5)])
    refine own_st (fun _ kt => XS.sipush X5.here hx rfl (hb hby at_60) kt) ?_
    show own_Rch p e below _ T5 (mkF m 63 #[.val (.int p0), .val (.int p1), .val (.int p2), .val (.int p3), .val (.int p4), .val (.int p5), .val (.ref ag), .val (.int (p1 &&& (2147483647 : Int32))), .val (.int r2), .val (.ref b2), .unset, .unset, .unset, .unset] [(.int (255 : Int32)), (.int p4), (.ref ag), (.ref b5), (.ref b5)])
    refine own_st (fun _ kt => XS.iand X5.here hx rfl (hb hby at_63) rfl kt) ?_
    show own_Rch p e below _ T5 (mkF m 64 #[.val (.int p0), .val (.int p1), .val (.int p2), .val (.int p3), .val (.int p4), .val (.int p5), .val (.ref ag), .val (.int (p1 &&& (2147483647 : Int32))), .val (.int r2), .val (.ref b2), .unset, .unset, .unset, .unset] [(.int (p4 &&& (255 : Int32))), (.ref ag), (.ref b5), (.ref b5)])
    refine own_st (fun _ kt => XS.i2c X5.here hx rfl (hb hby at_64) rfl kt) ?_
    show own_Rch p e below _ T5 (mkF m 65 #[.val (.int p0), .val (.int p1), .val (.int p2), .val (.int p3), .val (.int p4), .val (.int p5), .val (.ref ag), .val (.int (p1 &&& (2147483647 : Int32))), .val (.int r2), .val (.ref b2), .unset, .unset, .unset, .unset] [(.int ((p4 &&& (255 : Int32)).toUInt32.toUInt16.toUInt32.toInt32)), (.ref ag), (.ref b5), (.ref b5)])
    obtain ⟨_, _, ⟨T6, L6, k6, n6⟩, -, X6, ⟨Lc6, hQ6, l6, y6, z6⟩, st6⟩ := Jvm.LawKit.callS X5 hx (y := (⟨"java/lang/String", "valueOf", "(C)Ljava/lang/String;"⟩ : MethodName)) hown (mvT hZ (hw _ (List.mem_of_getElem? (i := 11) rfl))) (mvT hZ (hw _ (List.mem_of_getElem? (i := 12) rfl))) (mvT hZ (hw _ (List.mem_of_getElem? (i := 13) rfl))) (mvT hZ (hw _ (List.mem_of_getElem? (i := 14) rfl))) (by decide) (backOf (W := 3) (own_valof l Z a0 hw [] ((p4 &&& (255 : Int32)).toUInt32.toUInt16.toUInt32.toInt32) cs h5 n0 O0_x5 SC hcs (own_char _)) hZ (hw _ (List.mem_of_getElem? (i := 14) rfl)) (hw _ (List.mem_of_getElem? (i := 13) rfl)) (by decide) (by decide)) (g := (mkF m 65 #[.val (.int p0), .val (.int p1), .val (.int p2), .val (.int p3), .val (.int p4), .val (.int p5), .val (.ref ag), .val (.int (p1 &&& (2147483647 : Int32))), .val (.int r2), .val (.ref b2), .unset, .unset, .unset, .unset] [(.int ((p4 &&& (255 : Int32)).toUInt32.toUInt16.toUInt32.toInt32)), (.ref ag), (.ref b5), (.ref b5)])) rfl (by rw [hml]; rfl) (argsL := [(.int ((p4 &&& (255 : Int32)).toUInt32.toUInt16.toUInt32.toInt32))]) (rest := [(.ref ag), (.ref b5), (.ref b5)]) (lenOf own_pd4 rfl) rfl (by show 2 * 0 + _ ≤ _; exact Nat.le_of_eq rfl) (hb hby at_65) (fun _ _ => ⟨rfl, e5, (by decide : 4 + 2 ≤ _), (by decide : 11 + 5 ≤ _)⟩)
    dsimp only [Pt.U, Pt.locs, Pt.cells, Pt.slots] at X6 l6 y6 z6 st6 hQ6
    subst l6 y6 z6
    obtain ⟨sb6, sy6, ks6, rfl, N6q, K6, hb6, hy6, Es6, Fv6, Fc6, Vs6⟩ := hQ6
    have N6 := Fr.app N4 N6q
    refine own_st st6 ?_
    have ne6_b2_sb6 : b2 ≠ sb6 := Nat.ne_of_lt (Nat.lt_of_lt_of_le Ea4_x5.lt hb6)
    have ne6_sb3_sb6 : sb3 ≠ sb6 := Nat.ne_of_lt (Nat.lt_of_lt_of_le Es3_x5.lt hb6)
    have ne6_b5_sb6 : b5 ≠ sb6 := Nat.ne_of_lt (Nat.lt_of_lt_of_le F5_agency.lt hb6)
    have ge6_sb6 : n0 ≤ sb6 := Nat.le_trans (own_old_le O0_x5) hb6
    have O0_x6 := O0_x5.keep K6 all0
    have Ea4_x6 := Ea4_x5.keep K6
    have Es3_x6 := Es3_x5.keep K6
    have Fg4_x6 := Fg4_x5.keep K6 nin0
    have Fk4_x6 := Fk4_x5.keep K6 nin0
    have F5_agency_x6 := F5_agency.keep K6 nin0
    have F5_symbol_x6 := F5_symbol.keep K6 nin0
    have F5_rank_x6 := F5_rank.keep K6 nin0
    have A5_x6 := A5.keep K6
    show own_Rch p e below _ T6 (mkF m 68 #[.val (.int p0), .val (.int p1), .val (.int p2), .val (.int p3), .val (.int p4), .val (.int p5), .val (.ref ag), .val (.int (p1 &&& (2147483647 : Int32))), .val (.int r2), .val (.ref b2), .unset, .unset, .unset, .unset] [(.ref sb6), (.ref ag), (.ref b5), (.ref b5)])
    refine own_st (fun _ kt => XS.iload X6.here hx rfl (hb hby at_68) rfl  kt) ?_
    show own_Rch p e below _ T6 (mkF m 70 #[.val (.int p0), .val (.int p1), .val (.int p2), .val (.int p3), .val (.int p4), .val (.int p5), .val (.ref ag), .val (.int (p1 &&& (2147483647 : Int32))), .val (.int r2), .val (.ref b2), .unset, .unset, .unset, .unset] [(.int r2), (.ref sb6), (.ref ag), (.ref b5), (.ref b5)])
    obtain ⟨_, _, ⟨T7, L7, k7, n7⟩, -, X7, ⟨Lc7, hQ7, l7, y7, z7⟩, st7⟩ := X6.specialBack hx (y := (⟨"com/example/drawdown/drawdown/rating/Rating", "<init>", "(Lcom/example/drawdown/drawdown/rating/Agency;Ljava/lang/String;I)V"⟩ : MethodName)) rfl hown (mvT hZ (hw _ (List.mem_of_getElem? (i := 37) rfl))) (mvT hZ (hw _ (List.mem_of_getElem? (i := 38) rfl))) (mvT hZ (hw _ (List.mem_of_getElem? (i := 39) rfl))) (by decide) (backOf (W := 1) (own_rating l Z a0 hw [] b5 ag sb6 r2 T6.heap n0 O0_x6 A5_x6 F5_agency_x6 F5_symbol_x6 F5_rank_x6 ge5) hZ (hw _ (List.mem_of_getElem? (i := 39) rfl)) (hw _ (List.mem_of_getElem? (i := 10) rfl)) (by decide) (by decide)) (g := (mkF m 70 #[.val (.int p0), .val (.int p1), .val (.int p2), .val (.int p3), .val (.int p4), .val (.int p5), .val (.ref ag), .val (.int (p1 &&& (2147483647 : Int32))), .val (.int r2), .val (.ref b2), .unset, .unset, .unset, .unset] [(.int r2), (.ref sb6), (.ref ag), (.ref b5), (.ref b5)])) rfl (by rw [hml]; rfl) (Steps.refl _) (a := b5) (argsL := [(.ref ag), (.ref sb6), (.int r2)]) (rest := [(.ref b5)]) (lenOf own_pd5 rfl) rfl (by show 2 * 0 + _ ≤ _; exact Nat.le_of_eq rfl) (hb hby at_70) (fun _ _ => ⟨rfl, rfl, (by decide : 6 + 0 ≤ _), (by decide : 16 + 0 ≤ _)⟩)
    dsimp only [Pt.U, Pt.locs, Pt.cells, Pt.slots] at X7 l7 y7 z7 st7 hQ7
    subst l7 y7 z7
    obtain ⟨rfl, N7q, K7, Ea7, Fg7, Fk7⟩ := hQ7
    have N7 := Fr.app N6 N7q
    refine own_st (fun _ kt => st7.trans kt) ?_
    have O0_x7 := O0_x6.keep K7 (allS ge5 all0)
    have Ea4_x7 := Ea4_x6.keep K7
    have Es3_x7 := Es3_x6.keep K7
    have Fg4_x7 := Fg4_x6.keep K7 (ninS ne5_b2 nin0)
    have Fk4_x7 := Fk4_x6.keep K7 (ninS ne5_b2 nin0)
    have A5_x7 := A5_x6.keep K7
    have Es6_x7 := Es6.keep K7
    show own_Rch p e below _ T7 (mkF m 73 #[.val (.int p0), .val (.int p1), .val (.int p2), .val (.int p3), .val (.int p4), .val (.int p5), .val (.ref ag), .val (.int (p1 &&& (2147483647 : Int32))), .val (.int r2), .val (.ref b2), .unset, .unset, .unset, .unset] [(.ref b5)])
    refine own_st (fun _ kt => XS.astore X7.here hx rfl (hb hby at_73) rfl rfl (l' := #[.val (.int p0), .val (.int p1), .val (.int p2), .val (.int p3), .val (.int p4), .val (.int p5), .val (.ref ag), .val (.int (p1 &&& (2147483647 : Int32))), .val (.int r2), .val (.ref b2), .val (.ref b5), .unset, .unset, .unset]) rfl kt) ?_
    show own_Rch p e below _ T7 (mkF m 75 #[.val (.int p0), .val (.int p1), .val (.int p2), .val (.int p3), .val (.int p4), .val (.int p5), .val (.ref ag), .val (.int (p1 &&& (2147483647 : Int32))), .val (.int r2), .val (.ref b2), .val (.ref b5), .unset, .unset, .unset] [])
    refine own_st (fun _ kt => XS.aload X7.here hx rfl (hb hby at_75) rfl rfl  kt) ?_
    show own_Rch p e below _ T7 (mkF m 77 #[.val (.int p0), .val (.int p1), .val (.int p2), .val (.int p3), .val (.int p4), .val (.int p5), .val (.ref ag), .val (.int (p1 &&& (2147483647 : Int32))), .val (.int r2), .val (.ref b2), .val (.ref b5), .unset, .unset, .unset] [(.ref b2)])
    refine own_st (fun _ kt => XS.aload X7.here hx rfl (hb hby at_77) rfl rfl  kt) ?_
    show own_Rch p e below _ T7 (mkF m 79 #[.val (.int p0), .val (.int p1), .val (.int p2), .val (.int p3), .val (.int p4), .val (.int p5), .val (.ref ag), .val (.int (p1 &&& (2147483647 : Int32))), .val (.int r2), .val (.ref b2), .val (.ref b5), .unset, .unset, .unset] [(.ref b5), (.ref b2)])
    obtain ⟨cq8, kq8, q8a, q8b, q8c⟩ := isOf hZ rfl Ea4_x7
    obtain ⟨_, _, ⟨T8, L8, k8, n8⟩, -, X8, ⟨Lc8, hQ8, l8, y8, z8⟩, st8⟩ := X7.virtualBack hx (y := (⟨"com/example/drawdown/drawdown/rating/Rating", "isAtLeast", "(Lcom/example/drawdown/drawdown/rating/Rating;)Z"⟩ : MethodName)) (z := (⟨"com/example/drawdown/drawdown/rating/Rating", "isAtLeast", "(Lcom/example/drawdown/drawdown/rating/Rating;)Z"⟩ : MethodName)) hown (mvT hZ (hw _ (List.mem_of_getElem? (i := 47) rfl))) (mvT hZ (hw _ (List.mem_of_getElem? (i := 48) rfl))) (notFace_of_selects (args := #[]) (mvT hZ (hw _ (List.mem_of_getElem? (i := 50) rfl)))) (mvT hZ (hw _ (List.mem_of_getElem? (i := 50) rfl))) (mvT hZ (hw _ (List.mem_of_getElem? (i := 49) rfl))) (by decide) (backOf (W := 0) (own_atleast l Z a0 hw [] b2 b5 ag (p1 &&& (2147483647 : Int32)) r2 T7.heap n0 O0_x7 Fg4_x7 Fg7 Fk4_x7 Fk7) hZ (hw _ (List.mem_of_getElem? (i := 51) rfl)) (hw _ (List.mem_of_getElem? (i := 10) rfl)) (by decide) (by decide)) q8a q8c (g := (mkF m 79 #[.val (.int p0), .val (.int p1), .val (.int p2), .val (.int p3), .val (.int p4), .val (.int p5), .val (.ref ag), .val (.int (p1 &&& (2147483647 : Int32))), .val (.int r2), .val (.ref b2), .val (.ref b5), .unset, .unset, .unset] [(.ref b5), (.ref b2)])) rfl (by rw [hml]; rfl) (Steps.refl _) (argsL := [(.ref b5)]) (rest := []) (lenOf own_pd6 rfl) rfl (by show 2 * 0 + _ ≤ _; exact Nat.le_of_eq rfl) (hb hby at_79) (fun _ _ => ⟨rfl, rfl, (by decide : 6 + 0 ≤ _), (by decide : 16 + 0 ≤ _)⟩)
    dsimp only [Pt.U, Pt.locs, Pt.cells, Pt.slots] at X8 l8 y8 z8 st8 hQ8
    subst l8 y8 z8
    obtain ⟨rfl, N8q, hh8⟩ := hQ8
    have N8 := Fr.app N7 N8q
    refine own_st (fun _ kt => st8.trans kt) ?_
    show own_Rch p e below _ T8 (mkF m 82 #[.val (.int p0), .val (.int p1), .val (.int p2), .val (.int p3), .val (.int p4), .val (.int p5), .val (.ref ag), .val (.int (p1 &&& (2147483647 : Int32))), .val (.int r2), .val (.ref b2), .val (.ref b5), .unset, .unset, .unset] [(.int (own_al (p1 &&& (2147483647 : Int32)) r2))])
    refine own_st (fun _ kt => XS.istore X8.here hx rfl (hb hby at_82) rfl (l' := #[.val (.int p0), .val (.int p1), .val (.int p2), .val (.int p3), .val (.int p4), .val (.int p5), .val (.ref ag), .val (.int (p1 &&& (2147483647 : Int32))), .val (.int r2), .val (.ref b2), .val (.ref b5), .val (.int (own_al (p1 &&& (2147483647 : Int32)) r2)), .unset, .unset]) rfl kt) ?_
    show own_Rch p e below _ T8 (mkF m 84 #[.val (.int p0), .val (.int p1), .val (.int p2), .val (.int p3), .val (.int p4), .val (.int p5), .val (.ref ag), .val (.int (p1 &&& (2147483647 : Int32))), .val (.int r2), .val (.ref b2), .val (.ref b5), .val (.int (own_al (p1 &&& (2147483647 : Int32)) r2)), .unset, .unset] [])
    refine own_st (fun _ kt => XS.aload X8.here hx rfl (hb hby at_84) rfl rfl  kt) ?_
    show own_Rch p e below _ T8 (mkF m 86 #[.val (.int p0), .val (.int p1), .val (.int p2), .val (.int p3), .val (.int p4), .val (.int p5), .val (.ref ag), .val (.int (p1 &&& (2147483647 : Int32))), .val (.int r2), .val (.ref b2), .val (.ref b5), .val (.int (own_al (p1 &&& (2147483647 : Int32)) r2)), .unset, .unset] [(.ref b5)])
    refine own_st (fun _ kt => XS.aload X8.here hx rfl (hb hby at_86) rfl rfl  kt) ?_
    show own_Rch p e below _ T8 (mkF m 88 #[.val (.int p0), .val (.int p1), .val (.int p2), .val (.int p3), .val (.int p4), .val (.int p5), .val (.ref ag), .val (.int (p1 &&& (2147483647 : Int32))), .val (.int r2), .val (.ref b2), .val (.ref b5), .val (.int (own_al (p1 &&& (2147483647 : Int32)) r2)), .unset, .unset] [(.ref b2), (.ref b5)])
    obtain ⟨cq9, kq9, q9a, q9b, q9c⟩ := isOf hZ hh8 Ea7
    obtain ⟨_, _, ⟨T9, L9, k9, n9⟩, -, X9, ⟨Lc9, hQ9, l9, y9, z9⟩, st9⟩ := X8.virtualBack hx (y := (⟨"com/example/drawdown/drawdown/rating/Rating", "isAtLeast", "(Lcom/example/drawdown/drawdown/rating/Rating;)Z"⟩ : MethodName)) (z := (⟨"com/example/drawdown/drawdown/rating/Rating", "isAtLeast", "(Lcom/example/drawdown/drawdown/rating/Rating;)Z"⟩ : MethodName)) hown (mvT hZ (hw _ (List.mem_of_getElem? (i := 47) rfl))) (mvT hZ (hw _ (List.mem_of_getElem? (i := 48) rfl))) (notFace_of_selects (args := #[]) (mvT hZ (hw _ (List.mem_of_getElem? (i := 50) rfl)))) (mvT hZ (hw _ (List.mem_of_getElem? (i := 50) rfl))) (mvT hZ (hw _ (List.mem_of_getElem? (i := 49) rfl))) (by decide) (backOf (W := 0) (own_atleast l Z a0 hw [] b5 b2 ag r2 (p1 &&& (2147483647 : Int32)) T7.heap n0 O0_x7 Fg7 Fg4_x7 Fk7 Fk4_x7) hZ (hw _ (List.mem_of_getElem? (i := 51) rfl)) (hw _ (List.mem_of_getElem? (i := 10) rfl)) (by decide) (by decide)) q9a q9c (g := (mkF m 88 #[.val (.int p0), .val (.int p1), .val (.int p2), .val (.int p3), .val (.int p4), .val (.int p5), .val (.ref ag), .val (.int (p1 &&& (2147483647 : Int32))), .val (.int r2), .val (.ref b2), .val (.ref b5), .val (.int (own_al (p1 &&& (2147483647 : Int32)) r2)), .unset, .unset] [(.ref b2), (.ref b5)])) rfl (by rw [hml]; rfl) (Steps.refl _) (argsL := [(.ref b2)]) (rest := []) (lenOf own_pd6 rfl) rfl (by show 2 * 0 + _ ≤ _; exact Nat.le_of_eq rfl) (hb hby at_88) (fun _ _ => ⟨rfl, hh8, (by decide : 6 + 0 ≤ _), (by decide : 16 + 0 ≤ _)⟩)
    dsimp only [Pt.U, Pt.locs, Pt.cells, Pt.slots] at X9 l9 y9 z9 st9 hQ9
    subst l9 y9 z9
    obtain ⟨rfl, N9q, hh9⟩ := hQ9
    have N9 := Fr.app N8 N9q
    refine own_st (fun _ kt => st9.trans kt) ?_
    show own_Rch p e below _ T9 (mkF m 91 #[.val (.int p0), .val (.int p1), .val (.int p2), .val (.int p3), .val (.int p4), .val (.int p5), .val (.ref ag), .val (.int (p1 &&& (2147483647 : Int32))), .val (.int r2), .val (.ref b2), .val (.ref b5), .val (.int (own_al (p1 &&& (2147483647 : Int32)) r2)), .unset, .unset] [(.int (own_al r2 (p1 &&& (2147483647 : Int32))))])
    refine own_st (fun _ kt => XS.istore X9.here hx rfl (hb hby at_91) rfl (l' := #[.val (.int p0), .val (.int p1), .val (.int p2), .val (.int p3), .val (.int p4), .val (.int p5), .val (.ref ag), .val (.int (p1 &&& (2147483647 : Int32))), .val (.int r2), .val (.ref b2), .val (.ref b5), .val (.int (own_al (p1 &&& (2147483647 : Int32)) r2)), .val (.int (own_al r2 (p1 &&& (2147483647 : Int32)))), .unset]) rfl kt) ?_
    show own_Rch p e below _ T9 (mkF m 93 #[.val (.int p0), .val (.int p1), .val (.int p2), .val (.int p3), .val (.int p4), .val (.int p5), .val (.ref ag), .val (.int (p1 &&& (2147483647 : Int32))), .val (.int r2), .val (.ref b2), .val (.ref b5), .val (.int (own_al (p1 &&& (2147483647 : Int32)) r2)), .val (.int (own_al r2 (p1 &&& (2147483647 : Int32)))), .unset] [])
    refine own_st (fun _ kt => XS.aload X9.here hx rfl (hb hby at_93) rfl rfl  kt) ?_
    show own_Rch p e below _ T9 (mkF m 95 #[.val (.int p0), .val (.int p1), .val (.int p2), .val (.int p3), .val (.int p4), .val (.int p5), .val (.ref ag), .val (.int (p1 &&& (2147483647 : Int32))), .val (.int r2), .val (.ref b2), .val (.ref b5), .val (.int (own_al (p1 &&& (2147483647 : Int32)) r2)), .val (.int (own_al r2 (p1 &&& (2147483647 : Int32)))), .unset] [(.ref b2)])
    refine own_st (fun _ kt => XS.aload X9.here hx rfl (hb hby at_95) rfl rfl  kt) ?_
    show own_Rch p e below _ T9 (mkF m 97 #[.val (.int p0), .val (.int p1), .val (.int p2), .val (.int p3), .val (.int p4), .val (.int p5), .val (.ref ag), .val (.int (p1 &&& (2147483647 : Int32))), .val (.int r2), .val (.ref b2), .val (.ref b5), .val (.int (own_al (p1 &&& (2147483647 : Int32)) r2)), .val (.int (own_al r2 (p1 &&& (2147483647 : Int32)))), .unset] [(.ref b2), (.ref b2)])
    obtain ⟨cq10, kq10, q10a, q10b, q10c⟩ := isOf hZ hh9 Ea4_x7
    obtain ⟨_, _, ⟨T10, L10, k10, n10⟩, -, X10, ⟨Lc10, hQ10, l10, y10, z10⟩, st10⟩ := X9.virtualBack hx (y := (⟨"com/example/drawdown/drawdown/rating/Rating", "isAtLeast", "(Lcom/example/drawdown/drawdown/rating/Rating;)Z"⟩ : MethodName)) (z := (⟨"com/example/drawdown/drawdown/rating/Rating", "isAtLeast", "(Lcom/example/drawdown/drawdown/rating/Rating;)Z"⟩ : MethodName)) hown (mvT hZ (hw _ (List.mem_of_getElem? (i := 47) rfl))) (mvT hZ (hw _ (List.mem_of_getElem? (i := 48) rfl))) (notFace_of_selects (args := #[]) (mvT hZ (hw _ (List.mem_of_getElem? (i := 50) rfl)))) (mvT hZ (hw _ (List.mem_of_getElem? (i := 50) rfl))) (mvT hZ (hw _ (List.mem_of_getElem? (i := 49) rfl))) (by decide) (backOf (W := 0) (own_atleast l Z a0 hw [] b2 b2 ag (p1 &&& (2147483647 : Int32)) (p1 &&& (2147483647 : Int32)) T7.heap n0 O0_x7 Fg4_x7 Fg4_x7 Fk4_x7 Fk4_x7) hZ (hw _ (List.mem_of_getElem? (i := 51) rfl)) (hw _ (List.mem_of_getElem? (i := 10) rfl)) (by decide) (by decide)) q10a q10c (g := (mkF m 97 #[.val (.int p0), .val (.int p1), .val (.int p2), .val (.int p3), .val (.int p4), .val (.int p5), .val (.ref ag), .val (.int (p1 &&& (2147483647 : Int32))), .val (.int r2), .val (.ref b2), .val (.ref b5), .val (.int (own_al (p1 &&& (2147483647 : Int32)) r2)), .val (.int (own_al r2 (p1 &&& (2147483647 : Int32)))), .unset] [(.ref b2), (.ref b2)])) rfl (by rw [hml]; rfl) (Steps.refl _) (argsL := [(.ref b2)]) (rest := []) (lenOf own_pd6 rfl) rfl (by show 2 * 0 + _ ≤ _; exact Nat.le_of_eq rfl) (hb hby at_97) (fun _ _ => ⟨rfl, hh9, (by decide : 6 + 0 ≤ _), (by decide : 16 + 0 ≤ _)⟩)
    dsimp only [Pt.U, Pt.locs, Pt.cells, Pt.slots] at X10 l10 y10 z10 st10 hQ10
    subst l10 y10 z10
    obtain ⟨rfl, N10q, hh10⟩ := hQ10
    have N10 := Fr.app N9 N10q
    refine own_st (fun _ kt => st10.trans kt) ?_
    show own_Rch p e below _ T10 (mkF m 100 #[.val (.int p0), .val (.int p1), .val (.int p2), .val (.int p3), .val (.int p4), .val (.int p5), .val (.ref ag), .val (.int (p1 &&& (2147483647 : Int32))), .val (.int r2), .val (.ref b2), .val (.ref b5), .val (.int (own_al (p1 &&& (2147483647 : Int32)) r2)), .val (.int (own_al r2 (p1 &&& (2147483647 : Int32)))), .unset] [(.int (own_al (p1 &&& (2147483647 : Int32)) (p1 &&& (2147483647 : Int32))))])
    refine own_st (fun _ kt => XS.istore X10.here hx rfl (hb hby at_100) rfl (l' := #[.val (.int p0), .val (.int p1), .val (.int p2), .val (.int p3), .val (.int p4), .val (.int p5), .val (.ref ag), .val (.int (p1 &&& (2147483647 : Int32))), .val (.int r2), .val (.ref b2), .val (.ref b5), .val (.int (own_al (p1 &&& (2147483647 : Int32)) r2)), .val (.int (own_al r2 (p1 &&& (2147483647 : Int32)))), .val (.int (own_al (p1 &&& (2147483647 : Int32)) (p1 &&& (2147483647 : Int32))))]) rfl kt) ?_
    show own_Rch p e below _ T10 (mkF m 102 #[.val (.int p0), .val (.int p1), .val (.int p2), .val (.int p3), .val (.int p4), .val (.int p5), .val (.ref ag), .val (.int (p1 &&& (2147483647 : Int32))), .val (.int r2), .val (.ref b2), .val (.ref b5), .val (.int (own_al (p1 &&& (2147483647 : Int32)) r2)), .val (.int (own_al r2 (p1 &&& (2147483647 : Int32)))), .val (.int (own_al (p1 &&& (2147483647 : Int32)) (p1 &&& (2147483647 : Int32))))] [])
    refine own_st (fun _ kt => XS.iload X10.here hx rfl (hb hby at_102) rfl  kt) ?_
    show own_Rch p e below _ T10 (mkF m 104 #[.val (.int p0), .val (.int p1), .val (.int p2), .val (.int p3), .val (.int p4), .val (.int p5), .val (.ref ag), .val (.int (p1 &&& (2147483647 : Int32))), .val (.int r2), .val (.ref b2), .val (.ref b5), .val (.int (own_al (p1 &&& (2147483647 : Int32)) r2)), .val (.int (own_al r2 (p1 &&& (2147483647 : Int32)))), .val (.int (own_al (p1 &&& (2147483647 : Int32)) (p1 &&& (2147483647 : Int32))))] [(.int (own_al (p1 &&& (2147483647 : Int32)) r2))])
    refine own_st (fun _ kt => XS.iload X10.here hx rfl (hb hby at_104) rfl  kt) ?_
    show own_Rch p e below _ T10 (mkF m 106 #[.val (.int p0), .val (.int p1), .val (.int p2), .val (.int p3), .val (.int p4), .val (.int p5), .val (.ref ag), .val (.int (p1 &&& (2147483647 : Int32))), .val (.int r2), .val (.ref b2), .val (.ref b5), .val (.int (own_al (p1 &&& (2147483647 : Int32)) r2)), .val (.int (own_al r2 (p1 &&& (2147483647 : Int32)))), .val (.int (own_al (p1 &&& (2147483647 : Int32)) (p1 &&& (2147483647 : Int32))))] [(.int (p1 &&& (2147483647 : Int32))), (.int (own_al (p1 &&& (2147483647 : Int32)) r2))])
    refine own_st (fun _ kt => XS.iload X10.here hx rfl (hb hby at_106) rfl  kt) ?_
    show own_Rch p e below _ T10 (mkF m 108 #[.val (.int p0), .val (.int p1), .val (.int p2), .val (.int p3), .val (.int p4), .val (.int p5), .val (.ref ag), .val (.int (p1 &&& (2147483647 : Int32))), .val (.int r2), .val (.ref b2), .val (.ref b5), .val (.int (own_al (p1 &&& (2147483647 : Int32)) r2)), .val (.int (own_al r2 (p1 &&& (2147483647 : Int32)))), .val (.int (own_al (p1 &&& (2147483647 : Int32)) (p1 &&& (2147483647 : Int32))))] [(.int r2), (.int (p1 &&& (2147483647 : Int32))), (.int (own_al (p1 &&& (2147483647 : Int32)) r2))])
    by_cases hc108_11 : r2 < (p1 &&& (2147483647 : Int32))
    · -- pc 108: True
      refine own_st (fun _ kt => XS.icmpYes X10.here hx rfl (pc0 := 108) (pc' := 115) rfl (hb hby at_108) rfl (tlt hc108_11).2.2.1 (by decide) (by decide) kt) ?_
      show own_Rch p e below _ T10 (mkF m 115 #[.val (.int p0), .val (.int p1), .val (.int p2), .val (.int p3), .val (.int p4), .val (.int p5), .val (.ref ag), .val (.int (p1 &&& (2147483647 : Int32))), .val (.int r2), .val (.ref b2), .val (.ref b5), .val (.int (own_al (p1 &&& (2147483647 : Int32)) r2)), .val (.int (own_al r2 (p1 &&& (2147483647 : Int32)))), .val (.int (own_al (p1 &&& (2147483647 : Int32)) (p1 &&& (2147483647 : Int32))))] [(.int (own_al (p1 &&& (2147483647 : Int32)) r2))])
      refine own_st (fun _ kt => XS.iconst X10.here hx rfl (hb hby at_115) kt) ?_
      show own_Rch p e below _ T10 (mkF m 116 #[.val (.int p0), .val (.int p1), .val (.int p2), .val (.int p3), .val (.int p4), .val (.int p5), .val (.ref ag), .val (.int (p1 &&& (2147483647 : Int32))), .val (.int r2), .val (.ref b2), .val (.ref b5), .val (.int (own_al (p1 &&& (2147483647 : Int32)) r2)), .val (.int (own_al r2 (p1 &&& (2147483647 : Int32)))), .val (.int (own_al (p1 &&& (2147483647 : Int32)) (p1 &&& (2147483647 : Int32))))] [(.int (0 : Int32)), (.int (own_al (p1 &&& (2147483647 : Int32)) r2))])
      refine own_st (fun _ kt => XS.icmpNo X10.here hx rfl (hb hby at_116) rfl (teq (by simp [own_al, hc108_11] : (own_al (p1 &&& (2147483647 : Int32)) r2) = (0 : Int32))).2 kt) ?_
      show own_Rch p e below _ T10 (mkF m 119 #[.val (.int p0), .val (.int p1), .val (.int p2), .val (.int p3), .val (.int p4), .val (.int p5), .val (.ref ag), .val (.int (p1 &&& (2147483647 : Int32))), .val (.int r2), .val (.ref b2), .val (.ref b5), .val (.int (own_al (p1 &&& (2147483647 : Int32)) r2)), .val (.int (own_al r2 (p1 &&& (2147483647 : Int32)))), .val (.int (own_al (p1 &&& (2147483647 : Int32)) (p1 &&& (2147483647 : Int32))))] [])
      refine own_st (fun _ kt => XS.iload X10.here hx rfl (hb hby at_119) rfl  kt) ?_
      show own_Rch p e below _ T10 (mkF m 121 #[.val (.int p0), .val (.int p1), .val (.int p2), .val (.int p3), .val (.int p4), .val (.int p5), .val (.ref ag), .val (.int (p1 &&& (2147483647 : Int32))), .val (.int r2), .val (.ref b2), .val (.ref b5), .val (.int (own_al (p1 &&& (2147483647 : Int32)) r2)), .val (.int (own_al r2 (p1 &&& (2147483647 : Int32)))), .val (.int (own_al (p1 &&& (2147483647 : Int32)) (p1 &&& (2147483647 : Int32))))] [(.int (own_al r2 (p1 &&& (2147483647 : Int32))))])
      refine own_st (fun _ kt => XS.iload X10.here hx rfl (hb hby at_121) rfl  kt) ?_
      show own_Rch p e below _ T10 (mkF m 123 #[.val (.int p0), .val (.int p1), .val (.int p2), .val (.int p3), .val (.int p4), .val (.int p5), .val (.ref ag), .val (.int (p1 &&& (2147483647 : Int32))), .val (.int r2), .val (.ref b2), .val (.ref b5), .val (.int (own_al (p1 &&& (2147483647 : Int32)) r2)), .val (.int (own_al r2 (p1 &&& (2147483647 : Int32)))), .val (.int (own_al (p1 &&& (2147483647 : Int32)) (p1 &&& (2147483647 : Int32))))] [(.int r2), (.int (own_al r2 (p1 &&& (2147483647 : Int32))))])
      refine own_st (fun _ kt => XS.iload X10.here hx rfl (hb hby at_123) rfl  kt) ?_
      show own_Rch p e below _ T10 (mkF m 125 #[.val (.int p0), .val (.int p1), .val (.int p2), .val (.int p3), .val (.int p4), .val (.int p5), .val (.ref ag), .val (.int (p1 &&& (2147483647 : Int32))), .val (.int r2), .val (.ref b2), .val (.ref b5), .val (.int (own_al (p1 &&& (2147483647 : Int32)) r2)), .val (.int (own_al r2 (p1 &&& (2147483647 : Int32)))), .val (.int (own_al (p1 &&& (2147483647 : Int32)) (p1 &&& (2147483647 : Int32))))] [(.int (p1 &&& (2147483647 : Int32))), (.int r2), (.int (own_al r2 (p1 &&& (2147483647 : Int32))))])
      by_cases hc125_12 : (p1 &&& (2147483647 : Int32)) < r2
      · -- pc 125: True
        refine own_st (fun _ kt => XS.icmpYes X10.here hx rfl (pc0 := 125) (pc' := 132) rfl (hb hby at_125) rfl (tlt hc125_12).2.2.1 (by decide) (by decide) kt) ?_
        show own_Rch p e below _ T10 (mkF m 132 #[.val (.int p0), .val (.int p1), .val (.int p2), .val (.int p3), .val (.int p4), .val (.int p5), .val (.ref ag), .val (.int (p1 &&& (2147483647 : Int32))), .val (.int r2), .val (.ref b2), .val (.ref b5), .val (.int (own_al (p1 &&& (2147483647 : Int32)) r2)), .val (.int (own_al r2 (p1 &&& (2147483647 : Int32)))), .val (.int (own_al (p1 &&& (2147483647 : Int32)) (p1 &&& (2147483647 : Int32))))] [(.int (own_al r2 (p1 &&& (2147483647 : Int32))))])
        refine own_st (fun _ kt => XS.iconst X10.here hx rfl (hb hby at_132) kt) ?_
        show own_Rch p e below _ T10 (mkF m 133 #[.val (.int p0), .val (.int p1), .val (.int p2), .val (.int p3), .val (.int p4), .val (.int p5), .val (.ref ag), .val (.int (p1 &&& (2147483647 : Int32))), .val (.int r2), .val (.ref b2), .val (.ref b5), .val (.int (own_al (p1 &&& (2147483647 : Int32)) r2)), .val (.int (own_al r2 (p1 &&& (2147483647 : Int32)))), .val (.int (own_al (p1 &&& (2147483647 : Int32)) (p1 &&& (2147483647 : Int32))))] [(.int (0 : Int32)), (.int (own_al r2 (p1 &&& (2147483647 : Int32))))])
        refine own_st (fun _ kt => XS.icmpNo X10.here hx rfl (hb hby at_133) rfl (teq (by simp [own_al, hc125_12] : (own_al r2 (p1 &&& (2147483647 : Int32))) = (0 : Int32))).2 kt) ?_
        show own_Rch p e below _ T10 (mkF m 136 #[.val (.int p0), .val (.int p1), .val (.int p2), .val (.int p3), .val (.int p4), .val (.int p5), .val (.ref ag), .val (.int (p1 &&& (2147483647 : Int32))), .val (.int r2), .val (.ref b2), .val (.ref b5), .val (.int (own_al (p1 &&& (2147483647 : Int32)) r2)), .val (.int (own_al r2 (p1 &&& (2147483647 : Int32)))), .val (.int (own_al (p1 &&& (2147483647 : Int32)) (p1 &&& (2147483647 : Int32))))] [])
        refine own_st (fun _ kt => XS.iload X10.here hx rfl (hb hby at_136) rfl  kt) ?_
        show own_Rch p e below _ T10 (mkF m 138 #[.val (.int p0), .val (.int p1), .val (.int p2), .val (.int p3), .val (.int p4), .val (.int p5), .val (.ref ag), .val (.int (p1 &&& (2147483647 : Int32))), .val (.int r2), .val (.ref b2), .val (.ref b5), .val (.int (own_al (p1 &&& (2147483647 : Int32)) r2)), .val (.int (own_al r2 (p1 &&& (2147483647 : Int32)))), .val (.int (own_al (p1 &&& (2147483647 : Int32)) (p1 &&& (2147483647 : Int32))))] [(.int (own_al (p1 &&& (2147483647 : Int32)) (p1 &&& (2147483647 : Int32))))])
        refine own_st (fun _ kt => XS.ifNo X10.here hx rfl (hb hby at_138) rfl ((if0 _ _).trans (feq (by simp [own_al, own_irr] : ¬ ((own_al (p1 &&& (2147483647 : Int32)) (p1 &&& (2147483647 : Int32))) = (0 : Int32)))).1) kt) ?_
        show own_Rch p e below _ T10 (mkF m 141 #[.val (.int p0), .val (.int p1), .val (.int p2), .val (.int p3), .val (.int p4), .val (.int p5), .val (.ref ag), .val (.int (p1 &&& (2147483647 : Int32))), .val (.int r2), .val (.ref b2), .val (.ref b5), .val (.int (own_al (p1 &&& (2147483647 : Int32)) r2)), .val (.int (own_al r2 (p1 &&& (2147483647 : Int32)))), .val (.int (own_al (p1 &&& (2147483647 : Int32)) (p1 &&& (2147483647 : Int32))))] [])
        refine own_st (fun _ kt => XS.iconst X10.here hx rfl (hb hby at_141) kt) ?_
        show own_Rch p e below _ T10 (mkF m 142 #[.val (.int p0), .val (.int p1), .val (.int p2), .val (.int p3), .val (.int p4), .val (.int p5), .val (.ref ag), .val (.int (p1 &&& (2147483647 : Int32))), .val (.int r2), .val (.ref b2), .val (.ref b5), .val (.int (own_al (p1 &&& (2147483647 : Int32)) r2)), .val (.int (own_al r2 (p1 &&& (2147483647 : Int32)))), .val (.int (own_al (p1 &&& (2147483647 : Int32)) (p1 &&& (2147483647 : Int32))))] [(.int (1 : Int32))])
        refine own_st (fun _ kt => XS.goto X10.here hx rfl (pc0 := 142) (pc' := 146) rfl (hb hby at_142) (by decide) (by decide) kt) ?_
        show own_Rch p e below _ T10 (mkF m 146 #[.val (.int p0), .val (.int p1), .val (.int p2), .val (.int p3), .val (.int p4), .val (.int p5), .val (.ref ag), .val (.int (p1 &&& (2147483647 : Int32))), .val (.int r2), .val (.ref b2), .val (.ref b5), .val (.int (own_al (p1 &&& (2147483647 : Int32)) r2)), .val (.int (own_al r2 (p1 &&& (2147483647 : Int32)))), .val (.int (own_al (p1 &&& (2147483647 : Int32)) (p1 &&& (2147483647 : Int32))))] [(.int (1 : Int32))])
        refine own_retN (t := .boolean) (by simp) X10 hx Bd.notSynchronized Bd.returns (hb hby at_146) (by decide) (by decide) ?_
        rw [hh10]
        exact ⟨rfl, N10⟩
      · -- pc 125: False
        refine own_st (fun _ kt => XS.icmpNo X10.here hx rfl (hb hby at_125) rfl (flt hc125_12).2.2.1 kt) ?_
        show own_Rch p e below _ T10 (mkF m 128 #[.val (.int p0), .val (.int p1), .val (.int p2), .val (.int p3), .val (.int p4), .val (.int p5), .val (.ref ag), .val (.int (p1 &&& (2147483647 : Int32))), .val (.int r2), .val (.ref b2), .val (.ref b5), .val (.int (own_al (p1 &&& (2147483647 : Int32)) r2)), .val (.int (own_al r2 (p1 &&& (2147483647 : Int32)))), .val (.int (own_al (p1 &&& (2147483647 : Int32)) (p1 &&& (2147483647 : Int32))))] [(.int (own_al r2 (p1 &&& (2147483647 : Int32))))])
        refine own_st (fun _ kt => XS.iconst X10.here hx rfl (hb hby at_128) kt) ?_
        show own_Rch p e below _ T10 (mkF m 129 #[.val (.int p0), .val (.int p1), .val (.int p2), .val (.int p3), .val (.int p4), .val (.int p5), .val (.ref ag), .val (.int (p1 &&& (2147483647 : Int32))), .val (.int r2), .val (.ref b2), .val (.ref b5), .val (.int (own_al (p1 &&& (2147483647 : Int32)) r2)), .val (.int (own_al r2 (p1 &&& (2147483647 : Int32)))), .val (.int (own_al (p1 &&& (2147483647 : Int32)) (p1 &&& (2147483647 : Int32))))] [(.int (1 : Int32)), (.int (own_al r2 (p1 &&& (2147483647 : Int32))))])
        refine own_st (fun _ kt => XS.goto X10.here hx rfl (pc0 := 129) (pc' := 133) rfl (hb hby at_129) (by decide) (by decide) kt) ?_
        show own_Rch p e below _ T10 (mkF m 133 #[.val (.int p0), .val (.int p1), .val (.int p2), .val (.int p3), .val (.int p4), .val (.int p5), .val (.ref ag), .val (.int (p1 &&& (2147483647 : Int32))), .val (.int r2), .val (.ref b2), .val (.ref b5), .val (.int (own_al (p1 &&& (2147483647 : Int32)) r2)), .val (.int (own_al r2 (p1 &&& (2147483647 : Int32)))), .val (.int (own_al (p1 &&& (2147483647 : Int32)) (p1 &&& (2147483647 : Int32))))] [(.int (1 : Int32)), (.int (own_al r2 (p1 &&& (2147483647 : Int32))))])
        refine own_st (fun _ kt => XS.icmpNo X10.here hx rfl (hb hby at_133) rfl (teq (by simp [own_al, hc125_12] : (own_al r2 (p1 &&& (2147483647 : Int32))) = (1 : Int32))).2 kt) ?_
        show own_Rch p e below _ T10 (mkF m 136 #[.val (.int p0), .val (.int p1), .val (.int p2), .val (.int p3), .val (.int p4), .val (.int p5), .val (.ref ag), .val (.int (p1 &&& (2147483647 : Int32))), .val (.int r2), .val (.ref b2), .val (.ref b5), .val (.int (own_al (p1 &&& (2147483647 : Int32)) r2)), .val (.int (own_al r2 (p1 &&& (2147483647 : Int32)))), .val (.int (own_al (p1 &&& (2147483647 : Int32)) (p1 &&& (2147483647 : Int32))))] [])
        refine own_st (fun _ kt => XS.iload X10.here hx rfl (hb hby at_136) rfl  kt) ?_
        show own_Rch p e below _ T10 (mkF m 138 #[.val (.int p0), .val (.int p1), .val (.int p2), .val (.int p3), .val (.int p4), .val (.int p5), .val (.ref ag), .val (.int (p1 &&& (2147483647 : Int32))), .val (.int r2), .val (.ref b2), .val (.ref b5), .val (.int (own_al (p1 &&& (2147483647 : Int32)) r2)), .val (.int (own_al r2 (p1 &&& (2147483647 : Int32)))), .val (.int (own_al (p1 &&& (2147483647 : Int32)) (p1 &&& (2147483647 : Int32))))] [(.int (own_al (p1 &&& (2147483647 : Int32)) (p1 &&& (2147483647 : Int32))))])
        refine own_st (fun _ kt => XS.ifNo X10.here hx rfl (hb hby at_138) rfl ((if0 _ _).trans (feq (by simp [own_al, own_irr] : ¬ ((own_al (p1 &&& (2147483647 : Int32)) (p1 &&& (2147483647 : Int32))) = (0 : Int32)))).1) kt) ?_
        show own_Rch p e below _ T10 (mkF m 141 #[.val (.int p0), .val (.int p1), .val (.int p2), .val (.int p3), .val (.int p4), .val (.int p5), .val (.ref ag), .val (.int (p1 &&& (2147483647 : Int32))), .val (.int r2), .val (.ref b2), .val (.ref b5), .val (.int (own_al (p1 &&& (2147483647 : Int32)) r2)), .val (.int (own_al r2 (p1 &&& (2147483647 : Int32)))), .val (.int (own_al (p1 &&& (2147483647 : Int32)) (p1 &&& (2147483647 : Int32))))] [])
        refine own_st (fun _ kt => XS.iconst X10.here hx rfl (hb hby at_141) kt) ?_
        show own_Rch p e below _ T10 (mkF m 142 #[.val (.int p0), .val (.int p1), .val (.int p2), .val (.int p3), .val (.int p4), .val (.int p5), .val (.ref ag), .val (.int (p1 &&& (2147483647 : Int32))), .val (.int r2), .val (.ref b2), .val (.ref b5), .val (.int (own_al (p1 &&& (2147483647 : Int32)) r2)), .val (.int (own_al r2 (p1 &&& (2147483647 : Int32)))), .val (.int (own_al (p1 &&& (2147483647 : Int32)) (p1 &&& (2147483647 : Int32))))] [(.int (1 : Int32))])
        refine own_st (fun _ kt => XS.goto X10.here hx rfl (pc0 := 142) (pc' := 146) rfl (hb hby at_142) (by decide) (by decide) kt) ?_
        show own_Rch p e below _ T10 (mkF m 146 #[.val (.int p0), .val (.int p1), .val (.int p2), .val (.int p3), .val (.int p4), .val (.int p5), .val (.ref ag), .val (.int (p1 &&& (2147483647 : Int32))), .val (.int r2), .val (.ref b2), .val (.ref b5), .val (.int (own_al (p1 &&& (2147483647 : Int32)) r2)), .val (.int (own_al r2 (p1 &&& (2147483647 : Int32)))), .val (.int (own_al (p1 &&& (2147483647 : Int32)) (p1 &&& (2147483647 : Int32))))] [(.int (1 : Int32))])
        refine own_retN (t := .boolean) (by simp) X10 hx Bd.notSynchronized Bd.returns (hb hby at_146) (by decide) (by decide) ?_
        rw [hh10]
        exact ⟨rfl, N10⟩
    · -- pc 108: False
      refine own_st (fun _ kt => XS.icmpNo X10.here hx rfl (hb hby at_108) rfl (flt hc108_11).2.2.1 kt) ?_
      show own_Rch p e below _ T10 (mkF m 111 #[.val (.int p0), .val (.int p1), .val (.int p2), .val (.int p3), .val (.int p4), .val (.int p5), .val (.ref ag), .val (.int (p1 &&& (2147483647 : Int32))), .val (.int r2), .val (.ref b2), .val (.ref b5), .val (.int (own_al (p1 &&& (2147483647 : Int32)) r2)), .val (.int (own_al r2 (p1 &&& (2147483647 : Int32)))), .val (.int (own_al (p1 &&& (2147483647 : Int32)) (p1 &&& (2147483647 : Int32))))] [(.int (own_al (p1 &&& (2147483647 : Int32)) r2))])
      refine own_st (fun _ kt => XS.iconst X10.here hx rfl (hb hby at_111) kt) ?_
      show own_Rch p e below _ T10 (mkF m 112 #[.val (.int p0), .val (.int p1), .val (.int p2), .val (.int p3), .val (.int p4), .val (.int p5), .val (.ref ag), .val (.int (p1 &&& (2147483647 : Int32))), .val (.int r2), .val (.ref b2), .val (.ref b5), .val (.int (own_al (p1 &&& (2147483647 : Int32)) r2)), .val (.int (own_al r2 (p1 &&& (2147483647 : Int32)))), .val (.int (own_al (p1 &&& (2147483647 : Int32)) (p1 &&& (2147483647 : Int32))))] [(.int (1 : Int32)), (.int (own_al (p1 &&& (2147483647 : Int32)) r2))])
      refine own_st (fun _ kt => XS.goto X10.here hx rfl (pc0 := 112) (pc' := 116) rfl (hb hby at_112) (by decide) (by decide) kt) ?_
      show own_Rch p e below _ T10 (mkF m 116 #[.val (.int p0), .val (.int p1), .val (.int p2), .val (.int p3), .val (.int p4), .val (.int p5), .val (.ref ag), .val (.int (p1 &&& (2147483647 : Int32))), .val (.int r2), .val (.ref b2), .val (.ref b5), .val (.int (own_al (p1 &&& (2147483647 : Int32)) r2)), .val (.int (own_al r2 (p1 &&& (2147483647 : Int32)))), .val (.int (own_al (p1 &&& (2147483647 : Int32)) (p1 &&& (2147483647 : Int32))))] [(.int (1 : Int32)), (.int (own_al (p1 &&& (2147483647 : Int32)) r2))])
      refine own_st (fun _ kt => XS.icmpNo X10.here hx rfl (hb hby at_116) rfl (teq (by simp [own_al, hc108_11] : (own_al (p1 &&& (2147483647 : Int32)) r2) = (1 : Int32))).2 kt) ?_
      show own_Rch p e below _ T10 (mkF m 119 #[.val (.int p0), .val (.int p1), .val (.int p2), .val (.int p3), .val (.int p4), .val (.int p5), .val (.ref ag), .val (.int (p1 &&& (2147483647 : Int32))), .val (.int r2), .val (.ref b2), .val (.ref b5), .val (.int (own_al (p1 &&& (2147483647 : Int32)) r2)), .val (.int (own_al r2 (p1 &&& (2147483647 : Int32)))), .val (.int (own_al (p1 &&& (2147483647 : Int32)) (p1 &&& (2147483647 : Int32))))] [])
      refine own_st (fun _ kt => XS.iload X10.here hx rfl (hb hby at_119) rfl  kt) ?_
      show own_Rch p e below _ T10 (mkF m 121 #[.val (.int p0), .val (.int p1), .val (.int p2), .val (.int p3), .val (.int p4), .val (.int p5), .val (.ref ag), .val (.int (p1 &&& (2147483647 : Int32))), .val (.int r2), .val (.ref b2), .val (.ref b5), .val (.int (own_al (p1 &&& (2147483647 : Int32)) r2)), .val (.int (own_al r2 (p1 &&& (2147483647 : Int32)))), .val (.int (own_al (p1 &&& (2147483647 : Int32)) (p1 &&& (2147483647 : Int32))))] [(.int (own_al r2 (p1 &&& (2147483647 : Int32))))])
      refine own_st (fun _ kt => XS.iload X10.here hx rfl (hb hby at_121) rfl  kt) ?_
      show own_Rch p e below _ T10 (mkF m 123 #[.val (.int p0), .val (.int p1), .val (.int p2), .val (.int p3), .val (.int p4), .val (.int p5), .val (.ref ag), .val (.int (p1 &&& (2147483647 : Int32))), .val (.int r2), .val (.ref b2), .val (.ref b5), .val (.int (own_al (p1 &&& (2147483647 : Int32)) r2)), .val (.int (own_al r2 (p1 &&& (2147483647 : Int32)))), .val (.int (own_al (p1 &&& (2147483647 : Int32)) (p1 &&& (2147483647 : Int32))))] [(.int r2), (.int (own_al r2 (p1 &&& (2147483647 : Int32))))])
      refine own_st (fun _ kt => XS.iload X10.here hx rfl (hb hby at_123) rfl  kt) ?_
      show own_Rch p e below _ T10 (mkF m 125 #[.val (.int p0), .val (.int p1), .val (.int p2), .val (.int p3), .val (.int p4), .val (.int p5), .val (.ref ag), .val (.int (p1 &&& (2147483647 : Int32))), .val (.int r2), .val (.ref b2), .val (.ref b5), .val (.int (own_al (p1 &&& (2147483647 : Int32)) r2)), .val (.int (own_al r2 (p1 &&& (2147483647 : Int32)))), .val (.int (own_al (p1 &&& (2147483647 : Int32)) (p1 &&& (2147483647 : Int32))))] [(.int (p1 &&& (2147483647 : Int32))), (.int r2), (.int (own_al r2 (p1 &&& (2147483647 : Int32))))])
      by_cases hc125_13 : (p1 &&& (2147483647 : Int32)) < r2
      · -- pc 125: True
        refine own_st (fun _ kt => XS.icmpYes X10.here hx rfl (pc0 := 125) (pc' := 132) rfl (hb hby at_125) rfl (tlt hc125_13).2.2.1 (by decide) (by decide) kt) ?_
        show own_Rch p e below _ T10 (mkF m 132 #[.val (.int p0), .val (.int p1), .val (.int p2), .val (.int p3), .val (.int p4), .val (.int p5), .val (.ref ag), .val (.int (p1 &&& (2147483647 : Int32))), .val (.int r2), .val (.ref b2), .val (.ref b5), .val (.int (own_al (p1 &&& (2147483647 : Int32)) r2)), .val (.int (own_al r2 (p1 &&& (2147483647 : Int32)))), .val (.int (own_al (p1 &&& (2147483647 : Int32)) (p1 &&& (2147483647 : Int32))))] [(.int (own_al r2 (p1 &&& (2147483647 : Int32))))])
        refine own_st (fun _ kt => XS.iconst X10.here hx rfl (hb hby at_132) kt) ?_
        show own_Rch p e below _ T10 (mkF m 133 #[.val (.int p0), .val (.int p1), .val (.int p2), .val (.int p3), .val (.int p4), .val (.int p5), .val (.ref ag), .val (.int (p1 &&& (2147483647 : Int32))), .val (.int r2), .val (.ref b2), .val (.ref b5), .val (.int (own_al (p1 &&& (2147483647 : Int32)) r2)), .val (.int (own_al r2 (p1 &&& (2147483647 : Int32)))), .val (.int (own_al (p1 &&& (2147483647 : Int32)) (p1 &&& (2147483647 : Int32))))] [(.int (0 : Int32)), (.int (own_al r2 (p1 &&& (2147483647 : Int32))))])
        refine own_st (fun _ kt => XS.icmpNo X10.here hx rfl (hb hby at_133) rfl (teq (by simp [own_al, hc125_13] : (own_al r2 (p1 &&& (2147483647 : Int32))) = (0 : Int32))).2 kt) ?_
        show own_Rch p e below _ T10 (mkF m 136 #[.val (.int p0), .val (.int p1), .val (.int p2), .val (.int p3), .val (.int p4), .val (.int p5), .val (.ref ag), .val (.int (p1 &&& (2147483647 : Int32))), .val (.int r2), .val (.ref b2), .val (.ref b5), .val (.int (own_al (p1 &&& (2147483647 : Int32)) r2)), .val (.int (own_al r2 (p1 &&& (2147483647 : Int32)))), .val (.int (own_al (p1 &&& (2147483647 : Int32)) (p1 &&& (2147483647 : Int32))))] [])
        refine own_st (fun _ kt => XS.iload X10.here hx rfl (hb hby at_136) rfl  kt) ?_
        show own_Rch p e below _ T10 (mkF m 138 #[.val (.int p0), .val (.int p1), .val (.int p2), .val (.int p3), .val (.int p4), .val (.int p5), .val (.ref ag), .val (.int (p1 &&& (2147483647 : Int32))), .val (.int r2), .val (.ref b2), .val (.ref b5), .val (.int (own_al (p1 &&& (2147483647 : Int32)) r2)), .val (.int (own_al r2 (p1 &&& (2147483647 : Int32)))), .val (.int (own_al (p1 &&& (2147483647 : Int32)) (p1 &&& (2147483647 : Int32))))] [(.int (own_al (p1 &&& (2147483647 : Int32)) (p1 &&& (2147483647 : Int32))))])
        refine own_st (fun _ kt => XS.ifNo X10.here hx rfl (hb hby at_138) rfl ((if0 _ _).trans (feq (by simp [own_al, own_irr] : ¬ ((own_al (p1 &&& (2147483647 : Int32)) (p1 &&& (2147483647 : Int32))) = (0 : Int32)))).1) kt) ?_
        show own_Rch p e below _ T10 (mkF m 141 #[.val (.int p0), .val (.int p1), .val (.int p2), .val (.int p3), .val (.int p4), .val (.int p5), .val (.ref ag), .val (.int (p1 &&& (2147483647 : Int32))), .val (.int r2), .val (.ref b2), .val (.ref b5), .val (.int (own_al (p1 &&& (2147483647 : Int32)) r2)), .val (.int (own_al r2 (p1 &&& (2147483647 : Int32)))), .val (.int (own_al (p1 &&& (2147483647 : Int32)) (p1 &&& (2147483647 : Int32))))] [])
        refine own_st (fun _ kt => XS.iconst X10.here hx rfl (hb hby at_141) kt) ?_
        show own_Rch p e below _ T10 (mkF m 142 #[.val (.int p0), .val (.int p1), .val (.int p2), .val (.int p3), .val (.int p4), .val (.int p5), .val (.ref ag), .val (.int (p1 &&& (2147483647 : Int32))), .val (.int r2), .val (.ref b2), .val (.ref b5), .val (.int (own_al (p1 &&& (2147483647 : Int32)) r2)), .val (.int (own_al r2 (p1 &&& (2147483647 : Int32)))), .val (.int (own_al (p1 &&& (2147483647 : Int32)) (p1 &&& (2147483647 : Int32))))] [(.int (1 : Int32))])
        refine own_st (fun _ kt => XS.goto X10.here hx rfl (pc0 := 142) (pc' := 146) rfl (hb hby at_142) (by decide) (by decide) kt) ?_
        show own_Rch p e below _ T10 (mkF m 146 #[.val (.int p0), .val (.int p1), .val (.int p2), .val (.int p3), .val (.int p4), .val (.int p5), .val (.ref ag), .val (.int (p1 &&& (2147483647 : Int32))), .val (.int r2), .val (.ref b2), .val (.ref b5), .val (.int (own_al (p1 &&& (2147483647 : Int32)) r2)), .val (.int (own_al r2 (p1 &&& (2147483647 : Int32)))), .val (.int (own_al (p1 &&& (2147483647 : Int32)) (p1 &&& (2147483647 : Int32))))] [(.int (1 : Int32))])
        refine own_retN (t := .boolean) (by simp) X10 hx Bd.notSynchronized Bd.returns (hb hby at_146) (by decide) (by decide) ?_
        rw [hh10]
        exact ⟨rfl, N10⟩
      · -- pc 125: False
        refine own_st (fun _ kt => XS.icmpNo X10.here hx rfl (hb hby at_125) rfl (flt hc125_13).2.2.1 kt) ?_
        show own_Rch p e below _ T10 (mkF m 128 #[.val (.int p0), .val (.int p1), .val (.int p2), .val (.int p3), .val (.int p4), .val (.int p5), .val (.ref ag), .val (.int (p1 &&& (2147483647 : Int32))), .val (.int r2), .val (.ref b2), .val (.ref b5), .val (.int (own_al (p1 &&& (2147483647 : Int32)) r2)), .val (.int (own_al r2 (p1 &&& (2147483647 : Int32)))), .val (.int (own_al (p1 &&& (2147483647 : Int32)) (p1 &&& (2147483647 : Int32))))] [(.int (own_al r2 (p1 &&& (2147483647 : Int32))))])
        refine own_st (fun _ kt => XS.iconst X10.here hx rfl (hb hby at_128) kt) ?_
        show own_Rch p e below _ T10 (mkF m 129 #[.val (.int p0), .val (.int p1), .val (.int p2), .val (.int p3), .val (.int p4), .val (.int p5), .val (.ref ag), .val (.int (p1 &&& (2147483647 : Int32))), .val (.int r2), .val (.ref b2), .val (.ref b5), .val (.int (own_al (p1 &&& (2147483647 : Int32)) r2)), .val (.int (own_al r2 (p1 &&& (2147483647 : Int32)))), .val (.int (own_al (p1 &&& (2147483647 : Int32)) (p1 &&& (2147483647 : Int32))))] [(.int (1 : Int32)), (.int (own_al r2 (p1 &&& (2147483647 : Int32))))])
        refine own_st (fun _ kt => XS.goto X10.here hx rfl (pc0 := 129) (pc' := 133) rfl (hb hby at_129) (by decide) (by decide) kt) ?_
        show own_Rch p e below _ T10 (mkF m 133 #[.val (.int p0), .val (.int p1), .val (.int p2), .val (.int p3), .val (.int p4), .val (.int p5), .val (.ref ag), .val (.int (p1 &&& (2147483647 : Int32))), .val (.int r2), .val (.ref b2), .val (.ref b5), .val (.int (own_al (p1 &&& (2147483647 : Int32)) r2)), .val (.int (own_al r2 (p1 &&& (2147483647 : Int32)))), .val (.int (own_al (p1 &&& (2147483647 : Int32)) (p1 &&& (2147483647 : Int32))))] [(.int (1 : Int32)), (.int (own_al r2 (p1 &&& (2147483647 : Int32))))])
        refine own_st (fun _ kt => XS.icmpNo X10.here hx rfl (hb hby at_133) rfl (teq (by simp [own_al, hc125_13] : (own_al r2 (p1 &&& (2147483647 : Int32))) = (1 : Int32))).2 kt) ?_
        show own_Rch p e below _ T10 (mkF m 136 #[.val (.int p0), .val (.int p1), .val (.int p2), .val (.int p3), .val (.int p4), .val (.int p5), .val (.ref ag), .val (.int (p1 &&& (2147483647 : Int32))), .val (.int r2), .val (.ref b2), .val (.ref b5), .val (.int (own_al (p1 &&& (2147483647 : Int32)) r2)), .val (.int (own_al r2 (p1 &&& (2147483647 : Int32)))), .val (.int (own_al (p1 &&& (2147483647 : Int32)) (p1 &&& (2147483647 : Int32))))] [])
        refine own_st (fun _ kt => XS.iload X10.here hx rfl (hb hby at_136) rfl  kt) ?_
        show own_Rch p e below _ T10 (mkF m 138 #[.val (.int p0), .val (.int p1), .val (.int p2), .val (.int p3), .val (.int p4), .val (.int p5), .val (.ref ag), .val (.int (p1 &&& (2147483647 : Int32))), .val (.int r2), .val (.ref b2), .val (.ref b5), .val (.int (own_al (p1 &&& (2147483647 : Int32)) r2)), .val (.int (own_al r2 (p1 &&& (2147483647 : Int32)))), .val (.int (own_al (p1 &&& (2147483647 : Int32)) (p1 &&& (2147483647 : Int32))))] [(.int (own_al (p1 &&& (2147483647 : Int32)) (p1 &&& (2147483647 : Int32))))])
        refine own_st (fun _ kt => XS.ifNo X10.here hx rfl (hb hby at_138) rfl ((if0 _ _).trans (feq (by simp [own_al, own_irr] : ¬ ((own_al (p1 &&& (2147483647 : Int32)) (p1 &&& (2147483647 : Int32))) = (0 : Int32)))).1) kt) ?_
        show own_Rch p e below _ T10 (mkF m 141 #[.val (.int p0), .val (.int p1), .val (.int p2), .val (.int p3), .val (.int p4), .val (.int p5), .val (.ref ag), .val (.int (p1 &&& (2147483647 : Int32))), .val (.int r2), .val (.ref b2), .val (.ref b5), .val (.int (own_al (p1 &&& (2147483647 : Int32)) r2)), .val (.int (own_al r2 (p1 &&& (2147483647 : Int32)))), .val (.int (own_al (p1 &&& (2147483647 : Int32)) (p1 &&& (2147483647 : Int32))))] [])
        refine own_st (fun _ kt => XS.iconst X10.here hx rfl (hb hby at_141) kt) ?_
        show own_Rch p e below _ T10 (mkF m 142 #[.val (.int p0), .val (.int p1), .val (.int p2), .val (.int p3), .val (.int p4), .val (.int p5), .val (.ref ag), .val (.int (p1 &&& (2147483647 : Int32))), .val (.int r2), .val (.ref b2), .val (.ref b5), .val (.int (own_al (p1 &&& (2147483647 : Int32)) r2)), .val (.int (own_al r2 (p1 &&& (2147483647 : Int32)))), .val (.int (own_al (p1 &&& (2147483647 : Int32)) (p1 &&& (2147483647 : Int32))))] [(.int (1 : Int32))])
        refine own_st (fun _ kt => XS.goto X10.here hx rfl (pc0 := 142) (pc' := 146) rfl (hb hby at_142) (by decide) (by decide) kt) ?_
        show own_Rch p e below _ T10 (mkF m 146 #[.val (.int p0), .val (.int p1), .val (.int p2), .val (.int p3), .val (.int p4), .val (.int p5), .val (.ref ag), .val (.int (p1 &&& (2147483647 : Int32))), .val (.int r2), .val (.ref b2), .val (.ref b5), .val (.int (own_al (p1 &&& (2147483647 : Int32)) r2)), .val (.int (own_al r2 (p1 &&& (2147483647 : Int32)))), .val (.int (own_al (p1 &&& (2147483647 : Int32)) (p1 &&& (2147483647 : Int32))))] [(.int (1 : Int32))])
        refine own_retN (t := .boolean) (by simp) X10 hx Bd.notSynchronized Bd.returns (hb hby at_146) (by decide) (by decide) ?_
        rw [hh10]
        exact ⟨rfl, N10⟩
  show own_Rch p e below _ T1 (mkF m 12 #[.val (.int p0), .val (.int p1), .val (.int p2), .val (.int p3), .val (.int p4), .val (.int p5), .val (.ref ag), .val (.int (p1 &&& (2147483647 : Int32))), .unset, .unset, .unset, .unset, .unset, .unset] [])
  refine own_st (fun _ kt => XS.iload X1.here hx rfl (hb hby at_12) rfl  kt) ?_
  show own_Rch p e below _ T1 (mkF m 14 #[.val (.int p0), .val (.int p1), .val (.int p2), .val (.int p3), .val (.int p4), .val (.int p5), .val (.ref ag), .val (.int (p1 &&& (2147483647 : Int32))), .unset, .unset, .unset, .unset, .unset, .unset] [(.int p5)])
  refine own_st (fun _ kt => XS.iconst X1.here hx rfl (hb hby at_14) kt) ?_
  show own_Rch p e below _ T1 (mkF m 15 #[.val (.int p0), .val (.int p1), .val (.int p2), .val (.int p3), .val (.int p4), .val (.int p5), .val (.ref ag), .val (.int (p1 &&& (2147483647 : Int32))), .unset, .unset, .unset, .unset, .unset, .unset] [(.int (1 : Int32)), (.int p5)])
  refine own_st (fun _ kt => XS.iand X1.here hx rfl (hb hby at_15) rfl kt) ?_
  show own_Rch p e below _ T1 (mkF m 16 #[.val (.int p0), .val (.int p1), .val (.int p2), .val (.int p3), .val (.int p4), .val (.int p5), .val (.ref ag), .val (.int (p1 &&& (2147483647 : Int32))), .unset, .unset, .unset, .unset, .unset, .unset] [(.int (p5 &&& (1 : Int32)))])
  by_cases hc16_14 : (p5 &&& (1 : Int32)) = (0 : Int32)
  · -- pc 16: True
    refine own_st (fun _ kt => XS.ifYes X1.here hx rfl (pc0 := 16) (pc' := 24) rfl (hb hby at_16) rfl ((if0 _ _).trans (teq hc16_14).1) (by decide) (by decide) kt) ?_
    show own_Rch p e below _ T1 (mkF m 24 #[.val (.int p0), .val (.int p1), .val (.int p2), .val (.int p3), .val (.int p4), .val (.int p5), .val (.ref ag), .val (.int (p1 &&& (2147483647 : Int32))), .unset, .unset, .unset, .unset, .unset, .unset] [])
    refine own_st (fun _ kt => XS.iloadN X1.here hx rfl (hb hby at_24) rfl  kt) ?_
    show own_Rch p e below _ T1 (mkF m 25 #[.val (.int p0), .val (.int p1), .val (.int p2), .val (.int p3), .val (.int p4), .val (.int p5), .val (.ref ag), .val (.int (p1 &&& (2147483647 : Int32))), .unset, .unset, .unset, .unset, .unset, .unset] [(.int p2)])
    refine own_st (X1.ldcInt hx hown (mvT hZ (hw _ (List.mem_of_getElem? (i := 4) rfl))) (g := (mkF m 25 #[.val (.int p0), .val (.int p1), .val (.int p2), .val (.int p3), .val (.int p4), .val (.int p5), .val (.ref ag), .val (.int (p1 &&& (2147483647 : Int32))), .unset, .unset, .unset, .unset, .unset, .unset] [(.int p2)])) rfl (hb hby at_25)) ?_
    show own_Rch p e below _ T1 (mkF m 27 #[.val (.int p0), .val (.int p1), .val (.int p2), .val (.int p3), .val (.int p4), .val (.int p5), .val (.ref ag), .val (.int (p1 &&& (2147483647 : Int32))), .unset, .unset, .unset, .unset, .unset, .unset] [(.int (2147483647 : Int32)), (.int p2)])
    refine own_st (fun _ kt => XS.iand X1.here hx rfl (hb hby at_27) rfl kt) ?_
    exact c28 _
  · -- pc 16: False
    refine own_st (fun _ kt => XS.ifNo X1.here hx rfl (hb hby at_16) rfl ((if0 _ _).trans (feq hc16_14).1) kt) ?_
    show own_Rch p e below _ T1 (mkF m 19 #[.val (.int p0), .val (.int p1), .val (.int p2), .val (.int p3), .val (.int p4), .val (.int p5), .val (.ref ag), .val (.int (p1 &&& (2147483647 : Int32))), .unset, .unset, .unset, .unset, .unset, .unset] [])
    refine own_st (fun _ kt => XS.iload X1.here hx rfl (hb hby at_19) rfl  kt) ?_
    show own_Rch p e below _ T1 (mkF m 21 #[.val (.int p0), .val (.int p1), .val (.int p2), .val (.int p3), .val (.int p4), .val (.int p5), .val (.ref ag), .val (.int (p1 &&& (2147483647 : Int32))), .unset, .unset, .unset, .unset, .unset, .unset] [(.int (p1 &&& (2147483647 : Int32)))])
    refine own_st (fun _ kt => XS.goto X1.here hx rfl (pc0 := 21) (pc' := 28) rfl (hb hby at_21) (by decide) (by decide) kt) ?_
    exact c28 _
set_option maxRecDepth 65536 in
set_option maxHeartbeats 40000000 in
theorem own_comes {Post : Tables → Env → Array Value → State → Outcome → State → Prop} (hpost : ∀ tb e args s v u, (limb_1_1.after args s (.returned v) u = true ∧ limb_1_2.after args s (.returned v) u = true ∧ True) → FrameEnd s (.returned v) u (Jvm.fieldLocs frame_1_writes args s ++ Jvm.arrayLocs frame_1_arrays args s ++ Jvm.staticLocs frame_1_statics s) 24 128 → Post tb e args s (.returned v) u) :
    ArmFor flags0 classFile x code maxLocals ret World_1 tables_1 room_1 Calls_1 rest_1 Pre_1 Post := by
  intro l hfl _ _ p e ha hc hk s m args below hf hA hF happ hP
  obtain ⟨hcalls, hrest, hpre⟩ := hP
  obtain ⟨-, -, -, hnamed, -, -, -, hat⟩ := (Spec.applies_iff hf).mp happ
  obtain ⟨hg, hn⟩ := and_e (Cond.before_iff.mp (show (Jvm.Cond.and given_1 narrow_1).before args s = true from hpre))
  obtain ⟨g0, g1⟩ := and_e hg
  obtain ⟨g2, g3⟩ := and_e g1
  obtain ⟨g4, g5⟩ := and_e g3
  obtain ⟨g6, g7⟩ := and_e g5
  obtain ⟨g8, g9⟩ := and_e g7
  obtain ⟨g10, g11⟩ := and_e g9
  obtain ⟨w0, w1, w2, w3, w4, w5, rfl⟩ : ∃ w0 w1 w2 w3 w4 w5 : Value, args = #[w0, w1, w2, w3, w4, w5] := by
    have hs : args.size = 6 := by simpa [Cond.value, given_1] using g0
    obtain ⟨L⟩ := args
    match L, hs with
    | [w0, w1, w2, w3, w4, w5], _ => exact ⟨w0, w1, w2, w3, w4, w5, rfl⟩
  have hw := fun d (hd : d ∈ tables_1) => atoms_spec (ws := Jvm.Cond.code x code maxLocals ret :: tables_1) hat d (List.mem_cons_of_mem _ hd)
  have hfit : Fit s := fun {y c} hc i hi => by
    obtain ⟨ha, rfl⟩ := Array.getElem?_eq_some_iff.mp hc
    have q := List.all_eq_true.mp ((Array.all_eq_true_iff_forall_mem.mp hF) _ (Array.getElem_mem ha)) i (List.mem_range.mpr hi)
    simpa [Array.getElem?_eq_getElem hi] using q
  obtain ⟨hsets, hown0⟩ := atoms_of _ (rest_1_c_eq ▸ (show rest_1_c.before _ s = true from hrest))
  have hr0 := Cond.before_iff.mp hown0
  obtain ⟨i0, ei0⟩ := is_v g2
  obtain rfl : w0 = (.int i0) := Option.some.inj ei0
  obtain ⟨i1, ei1⟩ := is_v g4
  obtain rfl : w1 = (.int i1) := Option.some.inj ei1
  obtain ⟨i2, ei2⟩ := is_v g6
  obtain rfl : w2 = (.int i2) := Option.some.inj ei2
  obtain ⟨i3, ei3⟩ := is_v g8
  obtain rfl : w3 = (.int i3) := Option.some.inj ei3
  obtain ⟨i4, ei4⟩ := is_v g10
  obtain rfl : w4 = (.int i4) := Option.some.inj ei4
  obtain ⟨i5, ei5⟩ := is_v g11
  obtain rfl : w5 = (.int i5) := Option.some.inj ei5
  obtain ⟨nw0, nw1⟩ := and_e hn
  obtain ⟨nw2, nw3⟩ := and_e nw1
  obtain ⟨w_0, ev0⟩ := exa_v nw0
  have E0 := Exa.start ev0 nw0
  have S0 := Sta.start ev0 (Or.inr ⟨(hw _ (List.mem_of_getElem? (i := 6) rfl)), (hw _ (List.mem_of_getElem? (i := 7) rfl))⟩)
  obtain ⟨w_1, ev1⟩ := exa_v nw2
  have E1 := Exa.start ev1 nw2
  have S1 := Sta.start ev1 (Or.inr ⟨(hw _ (List.mem_of_getElem? (i := 6) rfl)), (hw _ (List.mem_of_getElem? (i := 53) rfl))⟩)
  obtain ⟨w_2, ev2⟩ := exa_v nw3
  have E2 := Exa.start ev2 nw3
  have S2 := Sta.start ev2 (Or.inr ⟨(hw _ (List.mem_of_getElem? (i := 6) rfl)), (hw _ (List.mem_of_getElem? (i := 55) rfl))⟩)
  obtain ⟨cs, evc⟩ := is_v (Cond.before_iff.mp (hsets _ (List.mem_of_getElem? (i := 1) rfl)))
  have SC := Sta.start evc (Or.inl (hsets _ (List.mem_of_getElem? (i := 0) rfl)))
  have hcs := own_cmp0 evc (Cond.before_iff.mp (hsets _ (List.mem_of_getElem? (i := 2) rfl)))
  obtain ⟨n, o, h1, h2, h3, _, L, rfl, ⟨rfl, N⟩, hq⟩ := own_rm0 l s _ hw tables_1 i0 i1 i2 i3 i4 i5 w_0 w_1 w_2 cs s.heap s.heap.size (Old.start s) S0 S1 S2 SC hcs p e ha hc hk s m _ below hf ((Spec.applies_iff_loose hf).mp happ).1 ⟨rfl, State.Warmed39.refl s, rfl⟩ trivial
  refine ⟨n, _, h1, h2, h3, hpost _ _ _ _ _ _ ⟨Cond.after_iff.mpr rfl, Cond.after_iff.mpr (eq_i res_at (Term.int_eval (1)) rfl), trivial⟩ ⟨hq.1, hq.2.1, (hq.2.2.sift fun y hy => Or.inr (N y hy)).mono (by decide) (by decide)⟩⟩
theorem main_1_1 : Claimed_1_1 := own_comes fun _ _ _ _ _ _ h hF => ⟨h.1, hF⟩
theorem main_1_2 : Claimed_1_2 := own_comes fun _ _ _ _ _ _ h hF => ⟨h.2.1, hF⟩
end Jvm.Pilot.@@N@@
namespace Jvm.Pilot.@@N@@
open Jvm Jvm.ClassFile Sem Op Lib Jvm.Free Jvm.Stand Jvm.Pilot.@@N@@.Jvm.D
/-! MADE BY PROGRAM (witnessworld.py) out of the Statement's table words and the real class files: 19 classes; the members and pool entries that the words name. The judged class is class 1, her method 2. -/
namespace start1
open Jvm.ClassFile
def u (s : String) : CpInfo := .utf8 (stringToUtf16 s)
/-- a pool by its gaps: so many unusable entries, then the entry; so many at the end -/
def gap : Nat → List CpInfo → List CpInfo
  | 0, r => r
  | n + 1, r => .unusable :: gap n r
def poolList (es : List (Nat × CpInfo)) (last : Nat) : List CpInfo := es.foldr (fun e r => gap e.1 (e.2 :: r)) (gap last [])
def pool (es : List (Nat × CpInfo)) (last : Nat) : Array CpInfo := ⟨poolList es last⟩
def fileOf (pool : Array CpInfo) (this : Nat) (attrs : Array Attribute := #[]) (ms : Array MethodInfo := #[]) (fl : Nat := 33) (sup : Nat := 0) (ifs : Array Nat := #[]) (fds : Array FieldInfo := #[]) : ClassFile where
  minorVersion := 0
  majorVersion := 65
  constantPool := pool
  accessFlags := fl
  thisClass := this
  superClass := sup
  interfaces := ifs
  fields := fds
  methods := ms
  attributes := attrs
def plain (name : String) (sup : Option ClassId) : Class where
  name := name
  kind := .ordinary
  loader := none
  accessFlags := 33
  super := sup
  interfaces := #[]
  cf := none
  fields := #[]
  methods := #[]
  instanceTypes := #[]
  staticTypes := #[]
  resolved := #[]
  callSites := []
  init := .initialized
  statics := none
  mirror := none

def pool0 : Array CpInfo := pool [(5, u "<init>"), (0, u "()V"), (1, .class_ 10), (1, u "java/lang/Object")] 113

def k0c0 : Code := { maxStack := 0, maxLocals := 1, code := object_method_1_code, exceptionTable := #[], attributes := #[] }
def k0m0 : Method := { name := "<init>", desc := "()V", sig := { parameters := [], returnType := none }, accessFlags := 1, code := some k0c0 }
/-- java/lang/Object -/
def k0 : Class := { plain "java/lang/Object" none with
  accessFlags := 33
  interfaces := #[]
  cf := some (fileOf pool0 8 #[] #[{ accessFlags := 1, nameIndex := 5, descriptorIndex := 6, attributes := #[] }] 33 0 #[] #[])
  fields := #[]
  methods := #[k0m0]
  instanceTypes := #[]
  staticTypes := #[]
  resolved := Array.replicate 124 none
  statics := none }

def pool1 : Array CpInfo := pool [(2, .class_ 4), (1, u "java/lang/Object"), (0, u "<init>"), (0, u "()V"), (0, .integer 2147483647), (0, .fieldref 9 10), (0, .class_ 11), (0, .nameAndType 12 13), (0, u "com/example/drawdown/drawdown/rating/Agency"), (0, u "SP"), (0, u "Lcom/example/drawdown/drawdown/rating/Agency;"), (0, .fieldref 9 15), (0, .nameAndType 16 13), (0, u "MOODYS"), (0, .fieldref 9 18), (0, .nameAndType 19 13), (0, u "FITCH"), (0, .methodref 21 22), (0, .class_ 23), (0, .nameAndType 24 25), (0, u "com/example/drawdown/drawdown/rating/RatingIsAtLeastPinLaw"), (0, u "pickAgency"), (0, u "(I)Lcom/example/drawdown/drawdown/rating/Agency;"), (0, .class_ 27), (0, u "com/example/drawdown/drawdown/rating/Rating"), (0, .methodref 29 30), (0, .class_ 31), (0, .nameAndType 32 33), (0, u "java/lang/String"), (0, u "valueOf"), (0, u "(C)Ljava/lang/String;"), (0, .methodref 26 35), (0, .nameAndType 5 36), (0, u "(Lcom/example/drawdown/drawdown/rating/Agency;Ljava/lang/String;I)V"), (0, .methodref 26 38), (0, .nameAndType 39 40), (0, u "isAtLeast"), (0, u "(Lcom/example/drawdown/drawdown/rating/Rating;)Z"), (3, u "law"), (0, u "(IIIIII)Z")] 2

def k1m0 : Method := { name := "<init>", desc := "()V", sig := { parameters := [], returnType := none }, accessFlags := 2, code := none }
def k1c1 : Code := { maxStack := 2, maxLocals := 2, code := method_2_code, exceptionTable := #[], attributes := #[] }
def k1m1 : Method := { name := "pickAgency", desc := "(I)Lcom/example/drawdown/drawdown/rating/Agency;", sig := { parameters := [.int], returnType := some (.object "com/example/drawdown/drawdown/rating/Agency") }, accessFlags := 10, code := some k1c1 }
def k1c2 : Code := { maxStack := 5, maxLocals := 14, code := code, exceptionTable := #[], attributes := #[] }
def k1m2 : Method := { name := "law", desc := "(IIIIII)Z", sig := { parameters := [.int, .int, .int, .int, .int, .int], returnType := some .boolean }, accessFlags := 9, code := some k1c2 }
/-- com/example/drawdown/drawdown/rating/RatingIsAtLeastPinLaw -/
def k1 : Class := { plain "com/example/drawdown/drawdown/rating/RatingIsAtLeastPinLaw" (some 0) with
  accessFlags := 49
  interfaces := #[]
  cf := some (fileOf pool1 21 #[] #[{ accessFlags := 2, nameIndex := 5, descriptorIndex := 6, attributes := #[] }, { accessFlags := 10, nameIndex := 24, descriptorIndex := 25, attributes := #[] }, { accessFlags := 9, nameIndex := 44, descriptorIndex := 45, attributes := #[] }] 49 2 #[] #[])
  fields := #[]
  methods := #[k1m0, k1m1, k1m2]
  instanceTypes := #[]
  staticTypes := #[]
  resolved := Array.replicate 48 none
  statics := none }

def pool2 : Array CpInfo := pool [(1, .class_ 2), (0, u "java/lang/constant/Constable"), (0, .class_ 4), (0, u "java/lang/Object")] 6

/-- java/lang/constant/Constable -/
def k2 : Class := { plain "java/lang/constant/Constable" (some 0) with
  accessFlags := 1537
  interfaces := #[]
  cf := some (fileOf pool2 1 #[] #[] 1537 3 #[] #[])
  fields := #[]
  methods := #[]
  instanceTypes := #[]
  staticTypes := #[]
  resolved := Array.replicate 11 none
  statics := none }

def pool3 : Array CpInfo := pool [(1, .class_ 2), (0, u "java/lang/Comparable"), (0, .class_ 4), (0, u "java/lang/Object")] 7

/-- java/lang/Comparable -/
def k3 : Class := { plain "java/lang/Comparable" (some 0) with
  accessFlags := 1537
  interfaces := #[]
  cf := some (fileOf pool3 1 #[] #[] 1537 3 #[] #[])
  fields := #[]
  methods := #[]
  instanceTypes := #[]
  staticTypes := #[]
  resolved := Array.replicate 12 none
  statics := none }

def pool4 : Array CpInfo := pool [(1, .class_ 2), (0, u "java/io/Serializable"), (0, .class_ 4), (0, u "java/lang/Object")] 2

/-- java/io/Serializable -/
def k4 : Class := { plain "java/io/Serializable" (some 0) with
  accessFlags := 1537
  interfaces := #[]
  cf := some (fileOf pool4 1 #[] #[] 1537 3 #[] #[])
  fields := #[]
  methods := #[]
  instanceTypes := #[]
  staticTypes := #[]
  resolved := Array.replicate 7 none
  statics := none }

def pool5 : Array CpInfo := pool [(2, .class_ 4), (1, u "java/lang/Enum"), (0, u "name"), (0, u "Ljava/lang/String;"), (2, u "ordinal"), (0, u "I"), (1, .class_ 14), (1, u "java/lang/Object"), (4, u "hash"), (86, .class_ 108), (1, u "java/lang/Enum$EnumDesc"), (2, .class_ 112), (0, u "java/lang/constant/Constable"), (0, .class_ 114), (0, u "java/lang/Comparable"), (0, .class_ 116), (0, u "java/io/Serializable")] 87

/-- java/lang/Enum -/
def k5 : Class := { plain "java/lang/Enum" (some 0) with
  accessFlags := 1057
  interfaces := #[2, 3, 4]
  cf := some (fileOf pool5 2 #[.nestMembers #[106]] #[] 1057 12 #[111, 113, 115] #[{ accessFlags := 18, nameIndex := 5, descriptorIndex := 6, attributes := #[] }, { accessFlags := 18, nameIndex := 9, descriptorIndex := 10, attributes := #[] }, { accessFlags := 2, nameIndex := 19, descriptorIndex := 10, attributes := #[] }])
  fields := #[{ name := "name", type := (.object "java/lang/String"), accessFlags := 18, slot := 0, constantValue := 0 }, { name := "ordinal", type := .int, accessFlags := 18, slot := 1, constantValue := 0 }, { name := "hash", type := .int, accessFlags := 2, slot := 2, constantValue := 0 }]
  methods := #[]
  instanceTypes := #[(.object "java/lang/String"), .int, .int]
  staticTypes := #[]
  resolved := Array.replicate 204 none
  statics := none }

def pool6 : Array CpInfo := pool [(1, .class_ 2), (0, u "com/example/drawdown/drawdown/rating/Agency"), (2, u "SP"), (0, u "Lcom/example/drawdown/drawdown/rating/Agency;"), (2, u "MOODYS"), (2, u "FITCH"), (2, u "$VALUES"), (0, u "[Lcom/example/drawdown/drawdown/rating/Agency;"), (6, .class_ 25), (1, u "java/lang/Enum"), (8, u "name"), (0, u "Ljava/lang/String;"), (42, u "scale"), (0, u "Ljava/util/List;"), (45, .class_ 127), (1, u "com/example/drawdown/drawdown/rating/Agency$Scales"), (16, u "NO_RATING")] 54

/-- com/example/drawdown/drawdown/rating/Agency -/
def k6 : Class := { plain "com/example/drawdown/drawdown/rating/Agency" (some 5) with
  accessFlags := 16433
  interfaces := #[]
  cf := some (fileOf pool6 1 #[.nestMembers #[125]] #[] 16433 23 #[] #[{ accessFlags := 16409, nameIndex := 5, descriptorIndex := 6, attributes := #[] }, { accessFlags := 16409, nameIndex := 9, descriptorIndex := 6, attributes := #[] }, { accessFlags := 16409, nameIndex := 12, descriptorIndex := 6, attributes := #[] }, { accessFlags := 26, nameIndex := 144, descriptorIndex := 35, attributes := #[] }, { accessFlags := 18, nameIndex := 34, descriptorIndex := 35, attributes := #[] }, { accessFlags := 18, nameIndex := 78, descriptorIndex := 79, attributes := #[] }, { accessFlags := 4122, nameIndex := 15, descriptorIndex := 16, attributes := #[] }])
  fields := #[{ name := "SP", type := (.object "com/example/drawdown/drawdown/rating/Agency"), accessFlags := 16409, slot := 0, constantValue := 0 }, { name := "MOODYS", type := (.object "com/example/drawdown/drawdown/rating/Agency"), accessFlags := 16409, slot := 1, constantValue := 0 }, { name := "FITCH", type := (.object "com/example/drawdown/drawdown/rating/Agency"), accessFlags := 16409, slot := 2, constantValue := 0 }, { name := "NO_RATING", type := (.object "java/lang/String"), accessFlags := 26, slot := 3, constantValue := 0 }, { name := "name", type := (.object "java/lang/String"), accessFlags := 18, slot := 3, constantValue := 0 }, { name := "scale", type := (.object "java/util/List"), accessFlags := 18, slot := 4, constantValue := 0 }, { name := "$VALUES", type := (.array (.object "com/example/drawdown/drawdown/rating/Agency")), accessFlags := 4122, slot := 4, constantValue := 0 }]
  methods := #[]
  instanceTypes := #[(.object "java/lang/String"), .int, .int, (.object "java/lang/String"), (.object "java/util/List")]
  staticTypes := #[(.object "com/example/drawdown/drawdown/rating/Agency"), (.object "com/example/drawdown/drawdown/rating/Agency"), (.object "com/example/drawdown/drawdown/rating/Agency"), (.object "java/lang/String"), (.array (.object "com/example/drawdown/drawdown/rating/Agency"))]
  resolved := Array.replicate 199 none
  statics := some 0 }

def pool7 : Array CpInfo := pool [(1, .methodref 2 3), (0, .class_ 4), (0, .nameAndType 5 6), (0, u "java/lang/Object"), (0, u "<init>"), (0, u "()V"), (0, .fieldref 8 9), (0, .class_ 10), (0, .nameAndType 11 12), (0, u "com/example/drawdown/drawdown/rating/Rating"), (0, u "agency"), (0, u "Lcom/example/drawdown/drawdown/rating/Agency;"), (0, .fieldref 8 14), (0, .nameAndType 15 16), (0, u "symbol"), (0, u "Ljava/lang/String;"), (0, .fieldref 8 18), (0, .nameAndType 19 20), (0, u "rank"), (0, u "I"), (15, u "(Lcom/example/drawdown/drawdown/rating/Agency;Ljava/lang/String;I)V"), (5, u "isAtLeast"), (0, u "(Lcom/example/drawdown/drawdown/rating/Rating;)Z")] 18

def k7c0 : Code := { maxStack := 2, maxLocals := 4, code := prog_50_method_1_code, exceptionTable := #[], attributes := #[] }
def k7m0 : Method := { name := "<init>", desc := "(Lcom/example/drawdown/drawdown/rating/Agency;Ljava/lang/String;I)V", sig := { parameters := [(.object "com/example/drawdown/drawdown/rating/Agency"), (.object "java/lang/String"), .int], returnType := none }, accessFlags := 0, code := some k7c0 }
def k7c1 : Code := { maxStack := 4, maxLocals := 2, code := prog_50_method_4_code, exceptionTable := #[], attributes := #[] }
def k7m1 : Method := { name := "isAtLeast", desc := "(Lcom/example/drawdown/drawdown/rating/Rating;)Z", sig := { parameters := [(.object "com/example/drawdown/drawdown/rating/Rating")], returnType := some .boolean }, accessFlags := 1, code := some k7c1 }
/-- com/example/drawdown/drawdown/rating/Rating -/
def k7 : Class := { plain "com/example/drawdown/drawdown/rating/Rating" (some 0) with
  accessFlags := 49
  interfaces := #[]
  cf := some (fileOf pool7 8 #[] #[{ accessFlags := 0, nameIndex := 5, descriptorIndex := 36, attributes := #[] }, { accessFlags := 1, nameIndex := 42, descriptorIndex := 43, attributes := #[] }] 49 2 #[] #[{ accessFlags := 18, nameIndex := 11, descriptorIndex := 12, attributes := #[] }, { accessFlags := 18, nameIndex := 15, descriptorIndex := 16, attributes := #[] }, { accessFlags := 18, nameIndex := 19, descriptorIndex := 20, attributes := #[] }])
  fields := #[{ name := "agency", type := (.object "com/example/drawdown/drawdown/rating/Agency"), accessFlags := 18, slot := 0, constantValue := 0 }, { name := "symbol", type := (.object "java/lang/String"), accessFlags := 18, slot := 1, constantValue := 0 }, { name := "rank", type := .int, accessFlags := 18, slot := 2, constantValue := 0 }]
  methods := #[k7m0, k7m1]
  instanceTypes := #[(.object "com/example/drawdown/drawdown/rating/Agency"), (.object "java/lang/String"), .int]
  staticTypes := #[]
  resolved := Array.replicate 62 none
  statics := none }

def pool8 : Array CpInfo := pool [(2, .class_ 4), (1, u "java/lang/CharSequence"), (42, .class_ 48), (0, u "java/lang/CharSequence$1CodePointIterator"), (10, .class_ 60), (0, u "java/lang/CharSequence$1CharIterator"), (5, .class_ 67), (0, u "java/lang/Object")] 63

/-- java/lang/CharSequence -/
def k8 : Class := { plain "java/lang/CharSequence" (some 0) with
  accessFlags := 1537
  interfaces := #[]
  cf := some (fileOf pool8 2 #[.nestMembers #[47, 59]] #[] 1537 66 #[] #[])
  fields := #[]
  methods := #[]
  instanceTypes := #[]
  staticTypes := #[]
  resolved := Array.replicate 131 none
  statics := none }

def pool9 : Array CpInfo := pool [(1, .class_ 2), (0, u "java/lang/constant/ConstantDesc"), (0, .class_ 4), (0, u "java/lang/Object")] 32

/-- java/lang/constant/ConstantDesc -/
def k9 : Class := { plain "java/lang/constant/ConstantDesc" (some 0) with
  accessFlags := 1537
  interfaces := #[]
  cf := some (fileOf pool9 1 #[] #[] 1537 3 #[] #[])
  fields := #[]
  methods := #[]
  instanceTypes := #[]
  staticTypes := #[]
  resolved := Array.replicate 37 none
  statics := none }

def pool10 : Array CpInfo := pool [(1, .methodref 2 3), (0, .class_ 4), (0, .nameAndType 5 6), (0, u "java/lang/Object"), (0, u "<init>"), (0, u "()V"), (2, .fieldref 10 11), (0, .class_ 12), (0, .nameAndType 13 14), (0, u "java/lang/String"), (0, u "value"), (0, u "[B"), (0, .fieldref 10 16), (0, .nameAndType 17 18), (0, u "coder"), (0, u "B"), (2, u "hash"), (0, u "I"), (2, u "hashIsZero"), (0, u "Z"), (11, .fieldref 10 39), (0, .nameAndType 40 26), (0, u "COMPACT_STRINGS"), (12, u "toBytes"), (53, .class_ 109), (1, u "java/lang/StringLatin1"), (99, .methodref 10 210), (0, .nameAndType 5 211), (0, u "([BB)V"), (157, u "(C)Z"), (205, .class_ 576), (0, u "java/lang/CharSequence"), (22, u "CASE_INSENSITIVE_ORDER"), (0, u "Ljava/util/Comparator;"), (181, u "valueOf"), (0, u "(C)Ljava/lang/String;"), (231, .methodref 107 1016), (0, .nameAndType 1017 369), (0, u "canEncode"), (0, .methodref 107 1019), (0, .nameAndType 53 1020), (0, u "(C)[B"), (80, u "serialPersistentFields"), (0, u "[Ljava/io/ObjectStreamField;"), (0, .class_ 1104), (0, u "java/lang/String$CaseInsensitiveComparator"), (1, .class_ 1107), (0, u "java/io/Serializable"), (0, .class_ 1109), (0, u "java/lang/Comparable"), (0, .class_ 1111), (0, u "java/lang/constant/Constable"), (0, .class_ 1113), (0, u "java/lang/constant/ConstantDesc"), (2, u "serialVersionUID"), (0, u "J"), (3, u "REPL"), (0, u "C"), (2, u "LATIN1"), (1, u "UTF16")] 323

def k10m0 : Method := { name := "<init>", desc := "()V", sig := { parameters := [], returnType := none }, accessFlags := 1, code := none }
def k10c1 : Code := { maxStack := 4, maxLocals := 1, code := jdk_42_method_139_code, exceptionTable := #[], attributes := #[] }
def k10m1 : Method := { name := "valueOf", desc := "(C)Ljava/lang/String;", sig := { parameters := [.char], returnType := some (.object "java/lang/String") }, accessFlags := 9, code := some k10c1 }
def k10c2 : Code := { maxStack := 2, maxLocals := 3, code := jdk_42_method_151_code, exceptionTable := #[], attributes := #[] }
def k10m2 : Method := { name := "<init>", desc := "([BB)V", sig := { parameters := [(.array .byte), .byte], returnType := none }, accessFlags := 0, code := some k10c2 }
/-- java/lang/String -/
def k10 : Class := { plain "java/lang/String" (some 0) with
  accessFlags := 49
  interfaces := #[4, 3, 8, 2, 9]
  cf := some (fileOf pool10 10 #[.nestMembers #[1103]] #[{ accessFlags := 1, nameIndex := 5, descriptorIndex := 6, attributes := #[] }, { accessFlags := 9, nameIndex := 782, descriptorIndex := 783, attributes := #[] }, { accessFlags := 0, nameIndex := 5, descriptorIndex := 211, attributes := #[] }] 49 2 #[1106, 1108, 575, 1110, 1112] #[{ accessFlags := 18, nameIndex := 13, descriptorIndex := 14, attributes := #[] }, { accessFlags := 18, nameIndex := 17, descriptorIndex := 18, attributes := #[] }, { accessFlags := 2, nameIndex := 21, descriptorIndex := 22, attributes := #[] }, { accessFlags := 2, nameIndex := 25, descriptorIndex := 26, attributes := #[] }, { accessFlags := 26, nameIndex := 1116, descriptorIndex := 1117, attributes := #[] }, { accessFlags := 24, nameIndex := 40, descriptorIndex := 26, attributes := #[] }, { accessFlags := 26, nameIndex := 1101, descriptorIndex := 1102, attributes := #[] }, { accessFlags := 26, nameIndex := 1121, descriptorIndex := 1122, attributes := #[] }, { accessFlags := 25, nameIndex := 599, descriptorIndex := 600, attributes := #[] }, { accessFlags := 24, nameIndex := 1125, descriptorIndex := 18, attributes := #[] }, { accessFlags := 24, nameIndex := 1127, descriptorIndex := 18, attributes := #[] }])
  fields := #[{ name := "value", type := (.array .byte), accessFlags := 18, slot := 0, constantValue := 0 }, { name := "coder", type := .byte, accessFlags := 18, slot := 1, constantValue := 0 }, { name := "hash", type := .int, accessFlags := 2, slot := 2, constantValue := 0 }, { name := "hashIsZero", type := .boolean, accessFlags := 2, slot := 3, constantValue := 0 }, { name := "serialVersionUID", type := .long, accessFlags := 26, slot := 0, constantValue := 0 }, { name := "COMPACT_STRINGS", type := .boolean, accessFlags := 24, slot := 1, constantValue := 0 }, { name := "serialPersistentFields", type := (.array (.object "java/io/ObjectStreamField")), accessFlags := 26, slot := 2, constantValue := 0 }, { name := "REPL", type := .char, accessFlags := 26, slot := 3, constantValue := 0 }, { name := "CASE_INSENSITIVE_ORDER", type := (.object "java/util/Comparator"), accessFlags := 25, slot := 4, constantValue := 0 }, { name := "LATIN1", type := .byte, accessFlags := 24, slot := 5, constantValue := 0 }, { name := "UTF16", type := .byte, accessFlags := 24, slot := 6, constantValue := 0 }]
  methods := #[k10m0, k10m1, k10m2]
  instanceTypes := #[(.array .byte), .byte, .int, .boolean]
  staticTypes := #[.long, .boolean, (.array (.object "java/io/ObjectStreamField")), .char, (.object "java/util/Comparator"), .byte, .byte]
  resolved := Array.replicate 1451 none
  statics := some 1 }

def pool11 : Array CpInfo := pool [(4, .class_ 6), (1, u "java/lang/Object"), (0, u "<init>"), (0, u "()V"), (5, .class_ 16), (1, u "java/lang/StringLatin1"), (73, u "canEncode"), (14, u "(C)Z"), (15, u "$assertionsDisabled"), (0, u "Z"), (98, .class_ 223), (1, u "java/lang/StringLatin1$LinesSpliterator"), (156, u "toBytes"), (1, u "(C)[B"), (7, .class_ 391), (0, u "java/lang/StringLatin1$CharsSpliterator")] 3

def k11m0 : Method := { name := "<init>", desc := "()V", sig := { parameters := [], returnType := none }, accessFlags := 0, code := none }
def k11c1 : Code := { maxStack := 2, maxLocals := 1, code := jdk_43_method_3_code, exceptionTable := #[], attributes := #[] }
def k11m1 : Method := { name := "canEncode", desc := "(C)Z", sig := { parameters := [.char], returnType := some .boolean }, accessFlags := 9, code := some k11c1 }
def k11c2 : Code := { maxStack := 4, maxLocals := 1, code := jdk_43_method_46_code, exceptionTable := #[], attributes := #[] }
def k11m2 : Method := { name := "toBytes", desc := "(C)[B", sig := { parameters := [.char], returnType := some (.array .byte) }, accessFlags := 9, code := some k11c2 }
/-- java/lang/StringLatin1 -/
def k11 : Class := { plain "java/lang/StringLatin1" (some 0) with
  accessFlags := 48
  interfaces := #[]
  cf := some (fileOf pool11 14 #[.nestMembers #[390, 221]] #[{ accessFlags := 0, nameIndex := 7, descriptorIndex := 8, attributes := #[] }, { accessFlags := 9, nameIndex := 90, descriptorIndex := 105, attributes := #[] }, { accessFlags := 9, nameIndex := 380, descriptorIndex := 382, attributes := #[] }] 48 4 #[] #[{ accessFlags := 4120, nameIndex := 121, descriptorIndex := 122, attributes := #[] }])
  fields := #[{ name := "$assertionsDisabled", type := .boolean, accessFlags := 4120, slot := 0, constantValue := 0 }]
  methods := #[k11m0, k11m1, k11m2]
  instanceTypes := #[]
  staticTypes := #[.boolean]
  resolved := Array.replicate 395 none
  statics := none }

def pool12 : Array CpInfo := pool [(2, .class_ 4), (1, u "java/lang/Object"), (0, u "<init>"), (0, u "()V"), (17, .class_ 26), (1, u "jdk/internal/util/Preconditions"), (28, .class_ 56), (0, u "jdk/internal/util/Preconditions$4"), (57, .class_ 115), (0, u "jdk/internal/util/Preconditions$1"), (7, u "SIOOBE_FORMATTER"), (0, u "Ljava/util/function/BiFunction;"), (0, .class_ 126), (0, u "jdk/internal/util/Preconditions$2"), (3, u "AIOOBE_FORMATTER"), (0, .class_ 132), (0, u "jdk/internal/util/Preconditions$3"), (3, u "IOOBE_FORMATTER")] 57

def k12m0 : Method := { name := "<init>", desc := "()V", sig := { parameters := [], returnType := none }, accessFlags := 1, code := none }
/-- jdk/internal/util/Preconditions -/
def k12 : Class := { plain "jdk/internal/util/Preconditions" (some 0) with
  accessFlags := 33
  interfaces := #[]
  cf := some (fileOf pool12 24 #[.nestMembers #[55, 131, 125, 114]] #[{ accessFlags := 1, nameIndex := 5, descriptorIndex := 6, attributes := #[] }] 33 2 #[] #[{ accessFlags := 25, nameIndex := 123, descriptorIndex := 124, attributes := #[] }, { accessFlags := 25, nameIndex := 130, descriptorIndex := 124, attributes := #[] }, { accessFlags := 25, nameIndex := 136, descriptorIndex := 124, attributes := #[] }])
  fields := #[{ name := "SIOOBE_FORMATTER", type := (.object "java/util/function/BiFunction"), accessFlags := 25, slot := 0, constantValue := 0 }, { name := "AIOOBE_FORMATTER", type := (.object "java/util/function/BiFunction"), accessFlags := 25, slot := 1, constantValue := 0 }, { name := "IOOBE_FORMATTER", type := (.object "java/util/function/BiFunction"), accessFlags := 25, slot := 2, constantValue := 0 }]
  methods := #[k12m0]
  instanceTypes := #[]
  staticTypes := #[(.object "java/util/function/BiFunction"), (.object "java/util/function/BiFunction"), (.object "java/util/function/BiFunction")]
  resolved := Array.replicate 194 none
  statics := some 2 }

def pool13 : Array CpInfo := pool [(9, u "<init>"), (6, .class_ 18), (1, u "java/lang/Object"), (0, u "()V"), (1, .class_ 23), (1, u "jdk/internal/util/ArraysSupport"), (0, u "LOG2_ARRAY_LONG_INDEX_SCALE"), (0, u "I"), (2, u "U"), (0, u "Ljdk/internal/misc/Unsafe;"), (8, u "BIG_ENDIAN"), (0, u "Z"), (8, u "LOG2_BYTE_BIT_SIZE"), (4, u "LOG2_ARRAY_INT_INDEX_SCALE"), (54, u "JLA"), (0, u "Ljdk/internal/access/JavaLangAccess;"), (11, u "LOG2_ARRAY_BOOLEAN_INDEX_SCALE"), (9, u "LOG2_ARRAY_BYTE_INDEX_SCALE"), (5, u "LOG2_ARRAY_CHAR_INDEX_SCALE"), (5, u "LOG2_ARRAY_SHORT_INDEX_SCALE"), (18, u "LOG2_ARRAY_FLOAT_INDEX_SCALE"), (24, u "LOG2_ARRAY_DOUBLE_INDEX_SCALE"), (89, u "T_BOOLEAN"), (2, u "T_CHAR"), (1, u "T_FLOAT"), (1, u "T_DOUBLE"), (1, u "T_BYTE"), (1, u "T_SHORT"), (1, u "T_INT"), (1, u "T_LONG"), (1, u "SOFT_MAX_ARRAY_LENGTH")] 83

def k13m0 : Method := { name := "<init>", desc := "()V", sig := { parameters := [], returnType := none }, accessFlags := 2, code := none }
/-- jdk/internal/util/ArraysSupport -/
def k13 : Class := { plain "jdk/internal/util/ArraysSupport" (some 0) with
  accessFlags := 33
  interfaces := #[]
  cf := some (fileOf pool13 21 #[] #[{ accessFlags := 2, nameIndex := 9, descriptorIndex := 19, attributes := #[] }] 33 16 #[] #[{ accessFlags := 24, nameIndex := 28, descriptorIndex := 29, attributes := #[] }, { accessFlags := 26, nameIndex := 38, descriptorIndex := 39, attributes := #[] }, { accessFlags := 25, nameIndex := 121, descriptorIndex := 25, attributes := #[] }, { accessFlags := 25, nameIndex := 131, descriptorIndex := 25, attributes := #[] }, { accessFlags := 25, nameIndex := 137, descriptorIndex := 25, attributes := #[] }, { accessFlags := 25, nameIndex := 143, descriptorIndex := 25, attributes := #[] }, { accessFlags := 25, nameIndex := 53, descriptorIndex := 25, attributes := #[] }, { accessFlags := 25, nameIndex := 24, descriptorIndex := 25, attributes := #[] }, { accessFlags := 25, nameIndex := 162, descriptorIndex := 25, attributes := #[] }, { accessFlags := 25, nameIndex := 187, descriptorIndex := 25, attributes := #[] }, { accessFlags := 26, nameIndex := 48, descriptorIndex := 25, attributes := #[] }, { accessFlags := 25, nameIndex := 277, descriptorIndex := 25, attributes := #[] }, { accessFlags := 25, nameIndex := 280, descriptorIndex := 25, attributes := #[] }, { accessFlags := 25, nameIndex := 282, descriptorIndex := 25, attributes := #[] }, { accessFlags := 25, nameIndex := 284, descriptorIndex := 25, attributes := #[] }, { accessFlags := 25, nameIndex := 286, descriptorIndex := 25, attributes := #[] }, { accessFlags := 25, nameIndex := 288, descriptorIndex := 25, attributes := #[] }, { accessFlags := 25, nameIndex := 290, descriptorIndex := 25, attributes := #[] }, { accessFlags := 25, nameIndex := 292, descriptorIndex := 25, attributes := #[] }, { accessFlags := 26, nameIndex := 108, descriptorIndex := 109, attributes := #[] }, { accessFlags := 25, nameIndex := 294, descriptorIndex := 25, attributes := #[] }])
  fields := #[{ name := "U", type := (.object "jdk/internal/misc/Unsafe"), accessFlags := 24, slot := 0, constantValue := 0 }, { name := "BIG_ENDIAN", type := .boolean, accessFlags := 26, slot := 1, constantValue := 0 }, { name := "LOG2_ARRAY_BOOLEAN_INDEX_SCALE", type := .int, accessFlags := 25, slot := 2, constantValue := 0 }, { name := "LOG2_ARRAY_BYTE_INDEX_SCALE", type := .int, accessFlags := 25, slot := 3, constantValue := 0 }, { name := "LOG2_ARRAY_CHAR_INDEX_SCALE", type := .int, accessFlags := 25, slot := 4, constantValue := 0 }, { name := "LOG2_ARRAY_SHORT_INDEX_SCALE", type := .int, accessFlags := 25, slot := 5, constantValue := 0 }, { name := "LOG2_ARRAY_INT_INDEX_SCALE", type := .int, accessFlags := 25, slot := 6, constantValue := 0 }, { name := "LOG2_ARRAY_LONG_INDEX_SCALE", type := .int, accessFlags := 25, slot := 7, constantValue := 0 }, { name := "LOG2_ARRAY_FLOAT_INDEX_SCALE", type := .int, accessFlags := 25, slot := 8, constantValue := 0 }, { name := "LOG2_ARRAY_DOUBLE_INDEX_SCALE", type := .int, accessFlags := 25, slot := 9, constantValue := 0 }, { name := "LOG2_BYTE_BIT_SIZE", type := .int, accessFlags := 26, slot := 10, constantValue := 0 }, { name := "T_BOOLEAN", type := .int, accessFlags := 25, slot := 11, constantValue := 0 }, { name := "T_CHAR", type := .int, accessFlags := 25, slot := 12, constantValue := 0 }, { name := "T_FLOAT", type := .int, accessFlags := 25, slot := 13, constantValue := 0 }, { name := "T_DOUBLE", type := .int, accessFlags := 25, slot := 14, constantValue := 0 }, { name := "T_BYTE", type := .int, accessFlags := 25, slot := 15, constantValue := 0 }, { name := "T_SHORT", type := .int, accessFlags := 25, slot := 16, constantValue := 0 }, { name := "T_INT", type := .int, accessFlags := 25, slot := 17, constantValue := 0 }, { name := "T_LONG", type := .int, accessFlags := 25, slot := 18, constantValue := 0 }, { name := "JLA", type := (.object "jdk/internal/access/JavaLangAccess"), accessFlags := 26, slot := 19, constantValue := 0 }, { name := "SOFT_MAX_ARRAY_LENGTH", type := .int, accessFlags := 25, slot := 20, constantValue := 0 }]
  methods := #[k13m0]
  instanceTypes := #[]
  staticTypes := #[(.object "jdk/internal/misc/Unsafe"), .boolean, .int, .int, .int, .int, .int, .int, .int, .int, .int, .int, .int, .int, .int, .int, .int, .int, .int, (.object "jdk/internal/access/JavaLangAccess"), .int]
  resolved := Array.replicate 378 none
  statics := none }

def pool14 : Array CpInfo := pool [(1, u "java/lang/Cloneable"), (0, .class_ 1), (0, u "java/lang/Object"), (0, .class_ 3)] 3

/-- java/lang/Cloneable -/
def k14 : Class := { plain "java/lang/Cloneable" (some 0) with
  accessFlags := 1537
  interfaces := #[]
  cf := some (fileOf pool14 2 #[] #[] 1537 4 #[] #[])
  fields := #[]
  methods := #[]
  instanceTypes := #[]
  staticTypes := #[]
  resolved := Array.replicate 8 none
  statics := none }

/-- the primitive byte -/
def k15 : Class := { plain "byte" none with kind := .primitive 'B', accessFlags := 0x411 }
/-- [B -/
def k16 : Class := { plain "[B" (some 0) with kind := .array 15 .byte, interfaces := #[14, 4], accessFlags := 1041 }

/-- the primitive int -/
def k17 : Class := { plain "int" none with kind := .primitive 'I', accessFlags := 0x411 }
/-- [I -/
def k18 : Class := { plain "[I" (some 0) with kind := .array 17 .int, interfaces := #[14, 4], accessFlags := 1041 }

def heap : Heap := #[{ cls := 6, slots := #[.ref 3, .ref 4, .ref 5, .null, .null], vm := .statics 6 },
  { cls := 10, slots := #[.long 0, .int 1, .null, .int 0, .null, .int 0, .int 0], vm := .statics 10 },
  { cls := 12, slots := #[.null, .null, .null], vm := .statics 12 },
  { cls := 6, slots := #[.null, .int 0, .int 0, .null, .null], vm := .none },
  { cls := 6, slots := #[.null, .int 1, .int 0, .null, .null], vm := .none },
  { cls := 6, slots := #[.null, .int 2, .int 0, .null, .null], vm := .none }]
def classes : Array Class := #[k0, k1, k2, k3, k4, k5, k6, k7, k8, k9, k10, k11, k12, k13, k14, k15, k16, k17, k18]
def interned : List (Array UInt16 × Addr) := []
def slotsUsed : Nat := 30
def theMethod : MethodId := ⟨1, 2⟩
def args0 : Array Value := #[.int 5, .int 6, .int 7, .int 65, .int 66, .int 0]
def aboutOver (below : List Frame) : State where
  vm := { classes := classes, interned := interned.toArray }
  heap := heap
  slotsUsed := slotsUsed
  threads := #[{ frames := .invoking theMethod args0 :: below }]
def below0 : List Frame := [.native { method := ⟨0, 0⟩, args := #[] }]
def about1 : State := aboutOver below0
def p0 : Program := .bare "" "" ""
def e0 : Env := launch0.env 0 0 0
theorem w_frames : about1.frames = Frame.invoking theMethod args0 :: below0 := rfl
set_option maxRecDepth 65536 in
theorem w_args : argsFit about1.vm theMethod args0 = true := by decide +kernel
set_option maxRecDepth 65536 in
theorem w_heap : heapFits about1 = true := by decide +kernel
set_option maxRecDepth 65536 in
theorem w_runnable : about1.curStatus? = some .runnable := by decide +kernel
set_option maxRecDepth 65536 in
theorem w_alone : about1.alone = true := by decide +kernel
set_option maxRecDepth 65536 in
theorem w_named : about1.methodNamed? x = some theMethod := by decide +kernel
set_option maxRecDepth 65536 in
theorem w_hears : about1.hears theMethod below0 = true := by decide +kernel
set_option maxRecDepth 65536 in
theorem w_ripe : about1.ripe theMethod args0 below0 = true := by decide +kernel
theorem w_running : about1.status = .running := rfl
set_option maxRecDepth 65536 in
theorem w_room : about1.hasRoom e0.platform room_1 = true :=
  launch0.hasRoom_least _ room_1 (by decide +kernel) (by decide +kernel) (by decide +kernel) (by decide +kernel) (by decide +kernel) (by decide +kernel)
theorem allAtoms_all (ts : List Jvm.Cond) (a : Array Jvm.Value) (st : Jvm.State) : (allAtoms ts).before a st = ts.all (fun c => c.before a st) := by
  induction ts with
  | nil => rfl
  | cons c t ih =>
    show (Jvm.Cond.and c (allAtoms t)).before a st = _
    rw [Jvm.Cond.before_and, ih, List.all_cons]
def words1 : List Jvm.Cond := Jvm.Cond.code x code maxLocals ret :: tables_1
/-- a 'code' word, met by the world's own term for the bytes: nothing is compared byte by byte -/
theorem code_word {y : MethodName} {bytes : ByteArray} {mx : Nat} {rt : Option FieldType} {a : Array Value} {s : State} {m : MethodId} {meth : Method} {c : Code} (h1 : s.methodNamed? y = some m) (h2 : s.vm.method? m = some meth) (h3 : meth.code = some c) (h4 : c.code = bytes)
    (h5 : (c.maxLocals == mx && c.exceptionTable.isEmpty && decide (c.maxStack ≤ mostOperands) && decide (meth.sig.returnType = rt) && !meth.locks && decide (parseMethodDescriptor y.desc = some meth.sig)) = true) : (Jvm.Cond.code y bytes mx rt).before a s = true := by
  simp only [Bool.and_eq_true, beq_iff_eq, Bool.not_eq_true', decide_eq_true_eq] at h5
  obtain ⟨⟨⟨⟨⟨g1, g2⟩, g3⟩, g4⟩, g5⟩, g6⟩ := h5
  simp [Cond.before, Cond.holds, Cond.value, h1, h2, h3, h4, g1, g2, g3, g4, g5, g6]
def isCode : Jvm.Cond → Bool
  | .code _ _ _ _ => true
  | _ => false
theorem all_split {L : List Jvm.Cond} {P : Jvm.Cond → Bool} (h1 : L.all (fun c => isCode c || P c) = true) (h2 : ∀ c ∈ L.filter isCode, P c = true) : L.all P = true := by
  refine List.all_eq_true.mpr fun c hc => ?_
  have h := List.all_eq_true.mp h1 c hc
  rcases Bool.eq_false_or_eq_true (isCode c) with hi | hi
  · exact h2 c (List.mem_filter.mpr ⟨hc, hi⟩)
  · simpa [hi] using h
set_option maxRecDepth 65536 in
theorem w_c0 : (Jvm.Cond.code x code maxLocals ret).before args0 about1 = true := code_word (m := ⟨1, 2⟩) (meth := k1m2) (c := k1c2) (by decide +kernel) rfl rfl rfl (by decide +kernel)
set_option maxRecDepth 65536 in
theorem w_c1 : (Jvm.Cond.code ({ cls := "com/example/drawdown/drawdown/rating/RatingIsAtLeastPinLaw", name := "pickAgency", desc := "(I)Lcom/example/drawdown/drawdown/rating/Agency;" } : Jvm.MethodName) method_2_code (2 : Nat) (Option.some (Jvm.ClassFile.FieldType.object "com/example/drawdown/drawdown/rating/Agency"))).before args0 about1 = true := code_word (m := ⟨1, 1⟩) (meth := k1m1) (c := k1c1) (by decide +kernel) rfl rfl rfl (by decide +kernel)
set_option maxRecDepth 65536 in
theorem w_c2 : (Jvm.Cond.code ({ cls := "java/lang/String", name := "valueOf", desc := "(C)Ljava/lang/String;" } : Jvm.MethodName) jdk_42_method_139_code (1 : Nat) (Option.some (Jvm.ClassFile.FieldType.object "java/lang/String"))).before args0 about1 = true := code_word (m := ⟨10, 1⟩) (meth := k10m1) (c := k10c1) (by decide +kernel) rfl rfl rfl (by decide +kernel)
set_option maxRecDepth 65536 in
theorem w_c3 : (Jvm.Cond.code ({ cls := "java/lang/StringLatin1", name := "canEncode", desc := "(C)Z" } : Jvm.MethodName) jdk_43_method_3_code (1 : Nat) (Option.some Jvm.ClassFile.FieldType.boolean)).before args0 about1 = true := code_word (m := ⟨11, 1⟩) (meth := k11m1) (c := k11c1) (by decide +kernel) rfl rfl rfl (by decide +kernel)
set_option maxRecDepth 65536 in
theorem w_c4 : (Jvm.Cond.code ({ cls := "java/lang/StringLatin1", name := "toBytes", desc := "(C)[B" } : Jvm.MethodName) jdk_43_method_46_code (1 : Nat) (Option.some (Jvm.ClassFile.FieldType.array Jvm.ClassFile.FieldType.byte))).before args0 about1 = true := code_word (m := ⟨11, 2⟩) (meth := k11m2) (c := k11c2) (by decide +kernel) rfl rfl rfl (by decide +kernel)
set_option maxRecDepth 65536 in
theorem w_c5 : (Jvm.Cond.code ({ cls := "java/lang/String", name := "<init>", desc := "([BB)V" } : Jvm.MethodName) jdk_42_method_151_code (3 : Nat) (Option.none : Option Jvm.ClassFile.FieldType)).before args0 about1 = true := code_word (m := ⟨10, 2⟩) (meth := k10m2) (c := k10c2) (by decide +kernel) rfl rfl rfl (by decide +kernel)
set_option maxRecDepth 65536 in
theorem w_c6 : (Jvm.Cond.code ({ cls := "java/lang/Object", name := "<init>", desc := "()V" } : Jvm.MethodName) object_method_1_code (1 : Nat) (Option.none : Option Jvm.ClassFile.FieldType)).before args0 about1 = true := code_word (m := ⟨0, 0⟩) (meth := k0m0) (c := k0c0) (by decide +kernel) rfl rfl rfl (by decide +kernel)
set_option maxRecDepth 65536 in
theorem w_c7 : (Jvm.Cond.code ({ cls := "com/example/drawdown/drawdown/rating/Rating", name := "<init>", desc := "(Lcom/example/drawdown/drawdown/rating/Agency;Ljava/lang/String;I)V" } : Jvm.MethodName) prog_50_method_1_code (4 : Nat) (Option.none : Option Jvm.ClassFile.FieldType)).before args0 about1 = true := code_word (m := ⟨7, 0⟩) (meth := k7m0) (c := k7c0) (by decide +kernel) rfl rfl rfl (by decide +kernel)
set_option maxRecDepth 65536 in
theorem w_c8 : (Jvm.Cond.code ({ cls := "com/example/drawdown/drawdown/rating/Rating", name := "isAtLeast", desc := "(Lcom/example/drawdown/drawdown/rating/Rating;)Z" } : Jvm.MethodName) prog_50_method_4_code (2 : Nat) (Option.some Jvm.ClassFile.FieldType.boolean)).before args0 about1 = true := code_word (m := ⟨7, 1⟩) (meth := k7m1) (c := k7c1) (by decide +kernel) rfl rfl rfl (by decide +kernel)
def codes1 : List Jvm.Cond := [Jvm.Cond.code x code maxLocals ret, Jvm.Cond.code ({ cls := "com/example/drawdown/drawdown/rating/RatingIsAtLeastPinLaw", name := "pickAgency", desc := "(I)Lcom/example/drawdown/drawdown/rating/Agency;" } : Jvm.MethodName) method_2_code (2 : Nat) (Option.some (Jvm.ClassFile.FieldType.object "com/example/drawdown/drawdown/rating/Agency")), Jvm.Cond.code ({ cls := "java/lang/String", name := "valueOf", desc := "(C)Ljava/lang/String;" } : Jvm.MethodName) jdk_42_method_139_code (1 : Nat) (Option.some (Jvm.ClassFile.FieldType.object "java/lang/String")), Jvm.Cond.code ({ cls := "java/lang/StringLatin1", name := "canEncode", desc := "(C)Z" } : Jvm.MethodName) jdk_43_method_3_code (1 : Nat) (Option.some Jvm.ClassFile.FieldType.boolean), Jvm.Cond.code ({ cls := "java/lang/StringLatin1", name := "toBytes", desc := "(C)[B" } : Jvm.MethodName) jdk_43_method_46_code (1 : Nat) (Option.some (Jvm.ClassFile.FieldType.array Jvm.ClassFile.FieldType.byte)), Jvm.Cond.code ({ cls := "java/lang/String", name := "<init>", desc := "([BB)V" } : Jvm.MethodName) jdk_42_method_151_code (3 : Nat) (Option.none : Option Jvm.ClassFile.FieldType), Jvm.Cond.code ({ cls := "java/lang/Object", name := "<init>", desc := "()V" } : Jvm.MethodName) object_method_1_code (1 : Nat) (Option.none : Option Jvm.ClassFile.FieldType), Jvm.Cond.code ({ cls := "com/example/drawdown/drawdown/rating/Rating", name := "<init>", desc := "(Lcom/example/drawdown/drawdown/rating/Agency;Ljava/lang/String;I)V" } : Jvm.MethodName) prog_50_method_1_code (4 : Nat) (Option.none : Option Jvm.ClassFile.FieldType), Jvm.Cond.code ({ cls := "com/example/drawdown/drawdown/rating/Rating", name := "isAtLeast", desc := "(Lcom/example/drawdown/drawdown/rating/Rating;)Z" } : Jvm.MethodName) prog_50_method_4_code (2 : Nat) (Option.some Jvm.ClassFile.FieldType.boolean)]
set_option maxRecDepth 65536 in
theorem codes_eq : words1.filter isCode = codes1 := rfl
theorem w_codes : ∀ c ∈ words1.filter isCode, c.before args0 about1 = true := by
  rw [codes_eq]
  intro c hc
  simp only [codes1, List.mem_cons, List.not_mem_nil, or_false] at hc
  rcases hc with rfl | rfl | rfl | rfl | rfl | rfl | rfl | rfl | rfl
  · exact w_c0
  · exact w_c1
  · exact w_c2
  · exact w_c3
  · exact w_c4
  · exact w_c5
  · exact w_c6
  · exact w_c7
  · exact w_c8
set_option maxRecDepth 65536 in
theorem w_t1 : (words1.take 24).all (fun c => isCode c || c.before args0 about1) = true := by decide +kernel
set_option maxRecDepth 65536 in
theorem w_t2 : ((words1.drop 24).take 24).all (fun c => isCode c || c.before args0 about1) = true := by decide +kernel
set_option maxRecDepth 65536 in
theorem w_t3 : ((words1.drop 24).drop 24).all (fun c => isCode c || c.before args0 about1) = true := by decide +kernel
theorem w_tables : (allAtoms (Jvm.Cond.code x code maxLocals ret :: tables_1)).before args0 about1 = true := by
  rw [allAtoms_all]
  show words1.all (fun c => c.before args0 about1) = true
  refine all_split ?_ w_codes
  rw [← List.take_append_drop 24 words1, List.all_append, w_t1, ← List.take_append_drop 24 (words1.drop 24), List.all_append, w_t2, w_t3]
  rfl
set_option maxRecDepth 65536 in
theorem w_rest : rest_1_c.before args0 about1 = true := by decide +kernel
set_option maxRecDepth 65536 in
theorem w_case : (Jvm.Cond.and given_1 narrow_1).before args0 about1 = true := by decide +kernel
theorem w_applies : (headSpec (Jvm.Cond.code x code maxLocals ret :: tables_1) room_1).applies x e0.platform about1 = true :=
  (Spec.applies_iff w_frames).mpr ⟨w_running, w_runnable, w_alone, w_named, w_hears, w_ripe, w_room, w_tables⟩
theorem atStart : AtStart classFile x code maxLocals ret World_1 tables_1 room_1 Calls_1 rest_1 Pre_1 launch0 p0 e0 about1 theMethod args0 below0 :=
  ⟨lists_1, trivial, launch0.admits_env _ _ _, launch0.least_env, fairChoices_fair.cas, fairChoices_fair.clock, w_frames, w_args, w_heap, w_applies, trivial, w_rest, w_case⟩
end start1
theorem witness_1 : WitnessClaimed_1 := ⟨start1.p0, start1.e0, start1.about1, start1.theMethod, start1.args0, start1.below0, start1.atStart⟩
end Jvm.Pilot.@@N@@
