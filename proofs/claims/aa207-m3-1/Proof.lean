import JvmDerived
import JvmDerived.Pilot.@@N@@Statement
import JvmDerived.Pilot.@@N@@Code
set_option linter.unusedVariables false
set_option linter.unusedSimpArgs false
namespace Jvm.Pilot.@@N@@
open Jvm Jvm.ClassFile Sem Op Lib Jvm.Free Jvm.Stand Jvm.LawKit Jvm.RoadKit Bundle Jvm.Pilot.@@N@@.Jvm.D
section Own
variable {p : Program} {l : Launch} {e : Env} {R : Room} {s : State} {m : MethodId} {args : Array Value} {below : List Frame} {meth : Method} {c : Code} {T T' : State} {locs : List Loc} {cells slots C N : Nat} {Z : State} {h h' : Heap} {n0 : Nat}
/-- from the frame g over T the run comes to a state of which P holds -/
def own_Rch (p : Program) (e : Env) (below : List Frame) (P : State → Prop) (T : State) (g : JFrame) : Prop := ∃ U, Steps p.tables e below (T.setTop g) U ∧ P U
/-- the body has ended as Q says -/
def own_End (s : State) (below : List Frame) (Q : Option Value → Heap → List Loc → Prop) (C N : Nat) (U : State) : Prop := U.status = .running ∧ ∃ v L, Ended U below (.returned v) ∧ Q v U.heap L ∧ FrameEnd s (.returned v) U L C N
theorem own_st {P : State → Prop} {g g' : JFrame} (h : ∀ t, Steps p.tables e below (T'.setTop g') t → Steps p.tables e below (T.setTop g) t) (k : own_Rch p e below P T' g') : own_Rch p e below P T g := by
  obtain ⟨U, h1, h2⟩ := k
  exact ⟨U, h U h1, h2⟩
theorem own_close {Q : Option Value → Heap → List Loc → Prop} {g : JFrame} (k : own_Rch p e below (own_End s below Q C N) T g) : ∃ U o, Steps p.tables e below (T.setTop g) U ∧ U.status = .running ∧ Ended U below o ∧ ∃ v L, o = .returned v ∧ Q v U.heap L ∧ FrameEnd s o U L C N := by
  obtain ⟨U, h1, h2, v, L, h3, h4, h5⟩ := k
  exact ⟨U, _, h1, h2, h3, v, L, rfl, h4, h5⟩
theorem own_retN {Q : Option Value → Heap → List Loc → Prop} {pc : Nat} {Ls : Array Slot} {z : Int32} {t : FieldType} {rest : List Value} (ht : t = .boolean ∨ t = .byte ∨ t = .char ∨ t = .short) (X : Stand p l e R s m args below meth c T locs cells slots) (hx : p.tables.exec = Jvm.exec) (hlk : meth.locks = false) (hret : meth.sig.returnType = some t) (hd : decode c.code pc = .ok (.ireturn, 1)) (hc : cells ≤ C) (hn : slots ≤ N)
    (hq : Q (some (.int (nar t z))) T.heap locs) : own_Rch p e below (own_End s below Q C N) T (mkF m pc Ls (.int z :: rest)) := by
  obtain ⟨fs, hr, hrun, hended, hW, hsame⟩ := X.leave (v := some (.int (nar t z))) (fun h => by rw [hret] at h; cases h) hlk
  exact ⟨_, retN X hx hret ht hd hr, hrun, _, _, hended, hq, ⟨_, rfl⟩, hW, hsame.mono hc hn⟩
theorem own_retI {Q : Option Value → Heap → List Loc → Prop} {pc : Nat} {Ls : Array Slot} {z : Int32} {rest : List Value} (X : Stand p l e R s m args below meth c T locs cells slots) (hx : p.tables.exec = Jvm.exec) (hlk : meth.locks = false) (hret : meth.sig.returnType = some .int) (hd : decode c.code pc = .ok (.ireturn, 1)) (hc : cells ≤ C) (hn : slots ≤ N)
    (hq : Q (some (.int z)) T.heap locs) : own_Rch p e below (own_End s below Q C N) T (mkF m pc Ls (.int z :: rest)) := by
  obtain ⟨fs, hr, hrun, hended, hW, hsame⟩ := X.leave (v := some (.int z)) (fun h => by rw [hret] at h; cases h) hlk
  exact ⟨_, retOut X hx hret rfl (Or.inl ⟨rfl, Or.inl rfl, z, rfl⟩) hd hr, hrun, _, _, hended, hq, ⟨_, rfl⟩, hW, hsame.mono hc hn⟩
theorem own_retL {Q : Option Value → Heap → List Loc → Prop} {pc : Nat} {Ls : Array Slot} {z : Int64} {rest : List Value} (X : Stand p l e R s m args below meth c T locs cells slots) (hx : p.tables.exec = Jvm.exec) (hlk : meth.locks = false) (hret : meth.sig.returnType = some .long) (hd : decode c.code pc = .ok (.lreturn, 1)) (hc : cells ≤ C) (hn : slots ≤ N)
    (hq : Q (some (.long z)) T.heap locs) : own_Rch p e below (own_End s below Q C N) T (mkF m pc Ls (.long z :: rest)) := by
  obtain ⟨fs, hr, hrun, hended, hW, hsame⟩ := X.leave (v := some (.long z)) (fun h => by rw [hret] at h; cases h) hlk
  exact ⟨_, retOut X hx hret rfl (Or.inr (Or.inl ⟨rfl, rfl, z, rfl⟩)) hd hr, hrun, _, _, hended, hq, ⟨_, rfl⟩, hW, hsame.mono hc hn⟩
theorem own_narref {t : FieldType} {w : Value} (ht : t.isReference = true) : narrow t w = w := by cases t <;> first | rfl | (cases ht; done)
theorem own_retA {Q : Option Value → Heap → List Loc → Prop} {pc : Nat} {Ls : Array Slot} {w : Value} {t : FieldType} {rest : List Value} (ht : t.isReference = true) (hw : w.isRef = true) (X : Stand p l e R s m args below meth c T locs cells slots) (hx : p.tables.exec = Jvm.exec) (hlk : meth.locks = false) (hret : meth.sig.returnType = some t) (hd : decode c.code pc = .ok (.areturn, 1)) (hc : cells ≤ C) (hn : slots ≤ N)
    (hq : Q (some w) T.heap locs) : own_Rch p e below (own_End s below Q C N) T (mkF m pc Ls (w :: rest)) := by
  obtain ⟨fs, hr, hrun, hended, hW, hsame⟩ := X.leave (v := some w) (fun h => by rw [hret] at h; cases h) hlk
  exact ⟨_, retOut X hx hret (own_narref ht) (Or.inr (Or.inr (Or.inr (Or.inr ⟨rfl, ht, hw⟩)))) hd hr, hrun, _, _, hended, hq, ⟨_, rfl⟩, hW, hsame.mono hc hn⟩
theorem own_retV {Q : Option Value → Heap → List Loc → Prop} {pc : Nat} {Ls : Array Slot} (X : Stand p l e R s m args below meth c T locs cells slots) (hx : p.tables.exec = Jvm.exec) (hlk : meth.locks = false) (hret : meth.sig.returnType = none) (hd : decode c.code pc = .ok (.return_, 1)) (hc : cells ≤ C) (hn : slots ≤ N)
    (hq : Q none T.heap locs) : own_Rch p e below (own_End s below Q C N) T (mkF m pc Ls []) := by
  obtain ⟨fs, hr, hrun, hended, hW, hsame⟩ := X.leave (v := none) (fun _ => rfl) hlk
  exact ⟨_, X.returnOut hx hret hd hr, hrun, _, _, hended, hq, ⟨_, rfl⟩, hW, hsame.mono hc hn⟩
theorem own_psel {y : MethodName} {n : Nat} (hins : (Jvm.Cond.instantiable y.cls n).before args s = true) (hpriv : (Jvm.Cond.privateMethod y).before args s = true) (hinst : (Jvm.Cond.instanceMethod y).before args s = true) (hy : y.cls ≠ "java/lang/invoke/MethodHandle" ∧ y.cls ≠ "java/lang/invoke/VarHandle" := by decide) : (Jvm.Cond.selects y.cls y y).before args s = true := by
  obtain ⟨c, k, hc, hk, -, hniab, -, -⟩ := Cond.instantiable_spec hins
  have hni : k.isInterface = false := (Bool.or_eq_false_iff.mp hniab).1
  obtain ⟨mk, methM, hnamed, hmethM, -, -⟩ := Cond.instanceMethod_spec hinst
  have hfound : s.methodFound? y.cls y.name y.desc = some mk := State.methodFound?_of_named hnamed hy
  have hcls : mk.cls = c := Option.some.inj ((findClass_of_methodNamed hnamed).symm.trans hc)
  have hsel : selectMethod {} s.vm c mk = .method mk := selectMethod_private hmethM (Cond.privateMethod_at hpriv mk methM hnamed hmethM)
  simp only [Cond.before, Cond.holds, Cond.value, hc, hfound, hnamed, hsel, hcls, hk]
  simp; exact hni
theorem own_since (s : State) : s.Since s.vm 0 := (State.WarmedH.refl s).since 0
def own_EndW (s : State) (below : List Frame) (Q : Option Value → Heap → List Loc → Prop) (C N : Nat) (U : State) : Prop := U.status = .running ∧ ∃ v L, Ended U below (.returned v) ∧ Q v U.heap L ∧ ReturnedEndW s (.returned v) U L C N
theorem own_closeW {Q : Option Value → Heap → List Loc → Prop} {g : JFrame} (k : own_Rch p e below (own_EndW s below Q C N) T g) : ∃ U o, Steps p.tables e below (T.setTop g) U ∧ U.status = .running ∧ Ended U below o ∧ ∃ v L, o = .returned v ∧ Q v U.heap L ∧ ReturnedEndW s o U L C N := by
  obtain ⟨U, h1, h2, v, L, h3, h4, h5⟩ := k
  exact ⟨U, _, h1, h2, h3, v, L, rfl, h4, h5⟩
theorem own_retNW {vm0 : Vm} {k0 : Nat} {Q : Option Value → Heap → List Loc → Prop} {pc : Nat} {Ls : Array Slot} {z : Int32} {t : FieldType} {rest : List Value} (ht : t = .boolean ∨ t = .byte ∨ t = .char ∨ t = .short) (hS : s.Since vm0 k0) (hk : k0 ≤ T.heap.size) (X : Stand p l e R (s.setVm vm0) m args below meth c T locs cells slots) (hx : p.tables.exec = Jvm.exec) (hlk : meth.locks = false) (hret : meth.sig.returnType = some t) (hd : decode c.code pc = .ok (.ireturn, 1)) (hc : cells ≤ C) (hn : slots ≤ N)
    (hq : Q (some (.int (nar t z))) T.heap locs) : own_Rch p e below (own_EndW s below Q C N) T (mkF m pc Ls (.int z :: rest)) := by
  obtain ⟨fs, hr, hrun, hended, h1, h2, h3, h4⟩ := X.leaveW hS hk (v := some (.int (nar t z))) (fun h => by rw [hret] at h; cases h) hlk
  exact ⟨_, retN X hx hret ht hd hr, hrun, _, _, hended, hq, h1, h2, h3, h4.mono hc hn⟩
theorem own_retIW {vm0 : Vm} {k0 : Nat} {Q : Option Value → Heap → List Loc → Prop} {pc : Nat} {Ls : Array Slot} {z : Int32} {rest : List Value} (hS : s.Since vm0 k0) (hk : k0 ≤ T.heap.size) (X : Stand p l e R (s.setVm vm0) m args below meth c T locs cells slots) (hx : p.tables.exec = Jvm.exec) (hlk : meth.locks = false) (hret : meth.sig.returnType = some .int) (hd : decode c.code pc = .ok (.ireturn, 1)) (hc : cells ≤ C) (hn : slots ≤ N)
    (hq : Q (some (.int z)) T.heap locs) : own_Rch p e below (own_EndW s below Q C N) T (mkF m pc Ls (.int z :: rest)) := by
  obtain ⟨fs, hr, hrun, hended, h1, h2, h3, h4⟩ := X.leaveW hS hk (v := some (.int z)) (fun h => by rw [hret] at h; cases h) hlk
  exact ⟨_, retOut X hx hret rfl (Or.inl ⟨rfl, Or.inl rfl, z, rfl⟩) hd hr, hrun, _, _, hended, hq, h1, h2, h3, h4.mono hc hn⟩
theorem own_retAW {vm0 : Vm} {k0 : Nat} {Q : Option Value → Heap → List Loc → Prop} {pc : Nat} {Ls : Array Slot} {w : Value} {t : FieldType} {rest : List Value} (ht : t.isReference = true) (hw : w.isRef = true) (hS : s.Since vm0 k0) (hk : k0 ≤ T.heap.size) (X : Stand p l e R (s.setVm vm0) m args below meth c T locs cells slots) (hx : p.tables.exec = Jvm.exec) (hlk : meth.locks = false) (hret : meth.sig.returnType = some t) (hd : decode c.code pc = .ok (.areturn, 1)) (hc : cells ≤ C) (hn : slots ≤ N)
    (hq : Q (some w) T.heap locs) : own_Rch p e below (own_EndW s below Q C N) T (mkF m pc Ls (w :: rest)) := by
  obtain ⟨fs, hr, hrun, hended, h1, h2, h3, h4⟩ := X.leaveW hS hk (v := some w) (fun h => by rw [hret] at h; cases h) hlk
  exact ⟨_, retOut X hx hret (own_narref ht) (Or.inr (Or.inr (Or.inr (Or.inr ⟨rfl, ht, hw⟩)))) hd hr, hrun, _, _, hended, hq, h1, h2, h3, h4.mono hc hn⟩
theorem own_retVW {vm0 : Vm} {k0 : Nat} {Q : Option Value → Heap → List Loc → Prop} {pc : Nat} {Ls : Array Slot} (hS : s.Since vm0 k0) (hk : k0 ≤ T.heap.size) (X : Stand p l e R (s.setVm vm0) m args below meth c T locs cells slots) (hx : p.tables.exec = Jvm.exec) (hlk : meth.locks = false) (hret : meth.sig.returnType = none) (hd : decode c.code pc = .ok (.return_, 1)) (hc : cells ≤ C) (hn : slots ≤ N)
    (hq : Q none T.heap locs) : own_Rch p e below (own_EndW s below Q C N) T (mkF m pc Ls []) := by
  obtain ⟨fs, hr, hrun, hended, h1, h2, h3, h4⟩ := X.leaveW hS hk (v := none) (fun _ => rfl) hlk
  exact ⟨_, X.returnOut hx hret hd hr, hrun, _, _, hended, hq, h1, h2, h3, h4.mono hc hn⟩
theorem own_old_le (O : Old Z n0 h) : n0 ≤ h.size := O.1 ▸ O.2.1
end Own
def own_maxL (x y : Int64) : Int64 := if x < y then y else x
def own_minL (x y : Int64) : Int64 := if y < x then y else x
/-- into a list that falls -/
def own_insr (x : Int64) : List Int64 → List Int64
  | [] => [x]
  | y :: ys => if x < y then y :: own_insr x ys else x :: y :: ys
def own_isr : List Int64 → List Int64 → List Int64
  | [], r => r.reverse
  | x :: xs, r => own_isr xs (own_insr x r)
def own_isort (l : List Int64) : List Int64 := own_isr l []
theorem own_insr_mem (x z : Int64) : ∀ l, z ∈ own_insr x l ↔ z = x ∨ z ∈ l
  | [] => by simp [own_insr]
  | y :: ys => by
    by_cases h : x < y
    · simp only [own_insr, if_pos h, List.mem_cons, own_insr_mem x z ys]
      exact ⟨fun q => q.elim (fun q => Or.inr (Or.inl q)) fun q => q.elim Or.inl fun q => Or.inr (Or.inr q), fun q => q.elim (fun q => Or.inr (Or.inl q)) fun q => q.elim Or.inl fun q => Or.inr (Or.inr q)⟩
    · simp only [own_insr, if_neg h, List.mem_cons]
theorem own_isr_mem (z : Int64) : ∀ l r, z ∈ own_isr l r ↔ z ∈ l ∨ z ∈ r
  | [], r => by simp [own_isr]
  | x :: xs, r => by
    simp only [own_isr, own_isr_mem z xs, own_insr_mem, List.mem_cons]
    exact ⟨fun q => q.elim (fun q => Or.inl (Or.inr q)) fun q => q.elim (fun q => Or.inl (Or.inl q)) Or.inr, fun q => q.elim (fun q => q.elim (fun q => Or.inr (Or.inl q)) Or.inl) fun q => Or.inr (Or.inr q)⟩
def own_falls : List Int64 → Prop
  | [] => True
  | y :: ys => (∀ z ∈ ys, z.toInt ≤ y.toInt) ∧ own_falls ys
theorem own_insr_falls (x : Int64) : ∀ l, own_falls l → own_falls (own_insr x l)
  | [], _ => by simp [own_insr, own_falls]
  | y :: ys, ⟨h1, h2⟩ => by
    by_cases h : x < y
    · simp only [own_insr, if_pos h]
      rw [Int64.lt_iff_toInt_lt] at h
      refine ⟨fun z hz => ?_, own_insr_falls x ys h2⟩
      rcases (own_insr_mem x z ys).mp hz with rfl | q
      · omega
      · exact h1 z q
    · simp only [own_insr, if_neg h]
      rw [Int64.lt_iff_toInt_lt] at h
      refine ⟨fun z hz => ?_, h1, h2⟩
      rcases List.mem_cons.mp hz with rfl | q
      · omega
      · have := h1 z q; omega
theorem own_isr_falls : ∀ l r, own_falls r → ∃ f, own_falls f ∧ own_isr l r = f.reverse
  | [], r, h => ⟨r, h, rfl⟩
  | x :: xs, r, h => own_isr_falls xs _ (own_insr_falls x r h)
theorem own_first {l ws : List Int64} {w : Int64} (h : own_isort l = w :: ws) : w ∈ l ∧ ∀ z ∈ l, w.toInt ≤ z.toInt := by
  have hm : ∀ z, z ∈ own_isort l ↔ z ∈ l := fun z => by rw [own_isort, own_isr_mem]; simp
  refine ⟨(hm w).mp (by rw [h]; simp), fun z hz => ?_⟩
  obtain ⟨f, hf, e⟩ := own_isr_falls l [] trivial
  have e' : f = (w :: ws).reverse := by rw [← h, own_isort, e, List.reverse_reverse]
  have hz' : z ∈ w :: ws := by rw [← h]; exact (hm z).mpr hz
  have key : ∀ (g : List Int64) (w : Int64), own_falls (g ++ [w]) → ∀ z ∈ g ++ [w], w.toInt ≤ z.toInt := by
    intro g
    induction g with
    | nil => intro w _ z hz; simp at hz; subst hz; exact Int.le_refl _
    | cons a g ih =>
      intro w hf z hz
      rcases List.mem_cons.mp hz with rfl | q
      · exact hf.1 w (by simp)
      · exact ih w hf.2 z q
  rw [e'] at hf
  refine key ws.reverse w (by simpa using hf) z (by simpa [or_comm] using hz')
theorem own_in {l r : List Int64} {w : Int64} (h : own_isort l = r) (hw : w ∈ r) : w ∈ l := by
  rw [← h, own_isort, own_isr_mem] at hw
  simpa using hw
theorem own_last {l ws : List Int64} {w : Int64} (h : own_isort l = ws ++ [w]) : w ∈ l ∧ ∀ z ∈ l, z.toInt ≤ w.toInt := by
  have hm : ∀ z, z ∈ own_isort l ↔ z ∈ l := fun z => by rw [own_isort, own_isr_mem]; simp
  refine ⟨(hm w).mp (by rw [h]; simp), fun z hz => ?_⟩
  obtain ⟨f, hf, e⟩ := own_isr_falls l [] trivial
  have e' : f = (ws ++ [w]).reverse := by rw [← h, own_isort, e, List.reverse_reverse]
  have hz' : z ∈ ws ++ [w] := by rw [← h]; exact (hm z).mpr hz
  rw [e', List.reverse_append] at hf
  rcases List.mem_append.mp hz' with q | q
  · exact hf.1 z (by simpa using q)
  · simp at q; subst q; exact Int.le_refl _
theorem own_maxL_i (x y : Int64) : (own_maxL x y).toInt = if x.toInt < y.toInt then y.toInt else x.toInt := by
  by_cases h : x < y <;> simp [own_maxL, h] <;> simp [Int64.lt_iff_toInt_lt] at h <;> omega
theorem own_minL_i (x y : Int64) : (own_minL x y).toInt = if y.toInt < x.toInt then y.toInt else x.toInt := by
  by_cases h : y < x <;> simp [own_minL, h] <;> simp [Int64.lt_iff_toInt_lt] at h <;> omega
theorem own_maxL_b (x y : Int64) : ((own_maxL x y).toInt = x.toInt ∨ (own_maxL x y).toInt = y.toInt) ∧ x.toInt ≤ (own_maxL x y).toInt ∧ y.toInt ≤ (own_maxL x y).toInt := by
  rw [own_maxL_i]; split <;> omega
theorem own_minL_b (x y : Int64) : ((own_minL x y).toInt = x.toInt ∨ (own_minL x y).toInt = y.toInt) ∧ (own_minL x y).toInt ≤ x.toInt ∧ (own_minL x y).toInt ≤ y.toInt := by
  rw [own_minL_i]; split <;> omega
theorem own_mask3 (p : Int32) : (p &&& (3 : Int32)) = 0 ∨ (p &&& (3 : Int32)) = 1 ∨ (p &&& (3 : Int32)) = 2 ∨ (p &&& (3 : Int32)) = 3 := by
  have h := c_and p (3 : Int32) (by decide)
  have e3 : (3 : Int32).toInt = 3 := by decide
  have e0 : (0 : Int32).toInt = 0 := by decide
  have e1 : (1 : Int32).toInt = 1 := by decide
  have e2 : (2 : Int32).toInt = 2 := by decide
  simp only [← Int32.toInt_inj]
  omega
theorem own_ef11 (m : MethodId) (x0 : Int64) (x1 : Int64) : entryFrame m #[(.long x0), (.long x1)] 4 = mkF m 0 #[.val (.long x0), .second, .val (.long x1), .second] [] := by first | (simp [entryFrame, mkF, argsToLocals, Value.category]; done) | rfl
theorem own_d11_0 : decode jdk_29_method_66_code 0 = .ok (.lload_n 0, 1) := by decide +kernel
theorem own_d11_1 : decode jdk_29_method_66_code 1 = .ok (.lload_n 2, 1) := by decide +kernel
theorem own_d11_2 : decode jdk_29_method_66_code 2 = .ok (.lcmp, 1) := by decide +kernel
theorem own_d11_3 : decode jdk_29_method_66_code 3 = .ok (.ifCond .lt 7, 3) := by decide +kernel
theorem own_d11_10 : decode jdk_29_method_66_code 10 = .ok (.lload_n 2, 1) := by decide +kernel
theorem own_d11_11 : decode jdk_29_method_66_code 11 = .ok (.lreturn, 1) := by decide +kernel
theorem own_d11_6 : decode jdk_29_method_66_code 6 = .ok (.lload_n 0, 1) := by decide +kernel
theorem own_d11_7 : decode jdk_29_method_66_code 7 = .ok (.goto 4, 3) := by decide +kernel
def own_Q_own_lmax (Z : State) (x : Int64) (y : Int64) (h0 : Heap) (n0 : Nat) (v : Option Value) (h : Heap) (L : List Loc) : Prop := v = some (.long (own_maxL x y)) ∧ Fr n0 L ∧ h = h0
set_option maxRecDepth 65536 in
set_option maxHeartbeats 40000000 in
theorem own_lmax (l : Launch) (Z : State) (a0 : Array Value) (hw : ∀ d ∈ tables_1, d.before a0 Z = true) (ws : List Jvm.Cond) (x : Int64) (y : Int64) (h0 : Heap) (n0 : Nat) (O0 : Old Z n0 h0) :
    MetFree l (⟨"java/lang/Math", "max", "(JJ)J"⟩ : MethodName) (head1 (Jvm.Cond.code (⟨"java/lang/Math", "max", "(JJ)J"⟩ : MethodName) jdk_29_method_66_code 4 (some .long) :: ws) ({ frames := 0, cells := 0, slots := 0, locals := 0 } : Room)) (fun args_ U => args_ = #[(.long x), (.long y)] ∧ Z.Warmed39 U.vm ∧ U.heap = h0) (fun _ _ _ _ _ => True) (fun _ U o U' => ∃ v L, o = .returned v ∧ (own_Q_own_lmax Z x y h0 n0) v U'.heap L ∧ FrameEnd U o U' L ({ frames := 0, cells := 0, slots := 0, locals := 0 } : Room).cells ({ frames := 0, cells := 0, slots := 0, locals := 0 } : Room).slots) := by
  refine MetFree.of_bodySF (Jvm.Free.JP.mathPlain rfl (by decide +kernel)) hisR ?_
  intro p e s m args below meth c s₁ Bd hml0 hP hK
  obtain ⟨rfl, hZ, hh⟩ := hP
  have hx := Bd.exec
  have hby := Bd.bytes
  have hml : c.maxLocals = 4 := hml0
  have hown : s.vm.findClass "java/lang/Math" = some m.cls := findClass_of_methodNamed Bd.named
  have hnm := (name_of_methodNamed Bd.named Bd.method).1
  have X0 : Stand p l e ({ frames := 0, cells := 0, slots := 0, locals := 0 } : Room) s m #[(.long x), (.long y)] below meth c s₁ [] 0 0 := Stand.of_body Bd
  have e0 : s₁.heap = h0 := by rw [← hh, Bd.state]; rfl
  have N0 := Fr.nil n0
  refine own_close (s := s) (Q := (own_Q_own_lmax Z x y h0 n0)) (C := (({ frames := 0, cells := 0, slots := 0, locals := 0 } : Room)).cells) (N := (({ frames := 0, cells := 0, slots := 0, locals := 0 } : Room)).slots) (own_st (fun _ kt => castTop (own_ef11 m x y) kt) ?_)
  show own_Rch p e below _ s₁ (mkF m 0 #[.val (.long x), .second, .val (.long y), .second] [])
  refine own_st (fun _ kt => XS.lloadN X0.here hx rfl (hb hby own_d11_0) rfl  kt) ?_
  show own_Rch p e below _ s₁ (mkF m 1 #[.val (.long x), .second, .val (.long y), .second] [(.long x)])
  refine own_st (fun _ kt => XS.lloadN X0.here hx rfl (hb hby own_d11_1) rfl  kt) ?_
  show own_Rch p e below _ s₁ (mkF m 2 #[.val (.long x), .second, .val (.long y), .second] [(.long y), (.long x)])
  refine own_st (fun _ kt => XS.lcmp X0.here hx rfl (hb hby own_d11_2) rfl kt) ?_
  show own_Rch p e below _ s₁ (mkF m 3 #[.val (.long x), .second, .val (.long y), .second] [(.int (lcmpW x y))])
  by_cases hc3_1 : (lcmpW x y) < (0 : Int32)
  · -- pc 3: True
    refine own_st (fun _ kt => XS.ifYes X0.here hx rfl (pc0 := 3) (pc' := 10) rfl (hb hby own_d11_3) rfl ((if0 _ _).trans (tlt hc3_1).1) (by decide) (by decide) kt) ?_
    show own_Rch p e below _ s₁ (mkF m 10 #[.val (.long x), .second, .val (.long y), .second] [])
    refine own_st (fun _ kt => XS.lloadN X0.here hx rfl (hb hby own_d11_10) rfl  kt) ?_
    show own_Rch p e below _ s₁ (mkF m 11 #[.val (.long x), .second, .val (.long y), .second] [(.long y)])
    refine own_retL X0 hx Bd.notSynchronized Bd.returns (hb hby own_d11_11) (by decide) (by decide) ?_
    rw [e0]
    exact ⟨by rw [lw_lt] at hc3_1; simp [own_maxL, own_minL, hc3_1], N0, rfl⟩
  · -- pc 3: False
    refine own_st (fun _ kt => XS.ifNo X0.here hx rfl (hb hby own_d11_3) rfl ((if0 _ _).trans (flt hc3_1).1) kt) ?_
    show own_Rch p e below _ s₁ (mkF m 6 #[.val (.long x), .second, .val (.long y), .second] [])
    refine own_st (fun _ kt => XS.lloadN X0.here hx rfl (hb hby own_d11_6) rfl  kt) ?_
    show own_Rch p e below _ s₁ (mkF m 7 #[.val (.long x), .second, .val (.long y), .second] [(.long x)])
    refine own_st (fun _ kt => XS.goto X0.here hx rfl (pc0 := 7) (pc' := 11) rfl (hb hby own_d11_7) (by decide) (by decide) kt) ?_
    show own_Rch p e below _ s₁ (mkF m 11 #[.val (.long x), .second, .val (.long y), .second] [(.long x)])
    refine own_retL X0 hx Bd.notSynchronized Bd.returns (hb hby own_d11_11) (by decide) (by decide) ?_
    rw [e0]
    exact ⟨by rw [lw_lt] at hc3_1; simp [own_maxL, own_minL, hc3_1], N0, rfl⟩
theorem own_ef13 (m : MethodId) (x0 : Int64) (x1 : Int64) : entryFrame m #[(.long x0), (.long x1)] 4 = mkF m 0 #[.val (.long x0), .second, .val (.long x1), .second] [] := by first | (simp [entryFrame, mkF, argsToLocals, Value.category]; done) | rfl
theorem own_d13_0 : decode jdk_29_method_70_code 0 = .ok (.lload_n 0, 1) := by decide +kernel
theorem own_d13_1 : decode jdk_29_method_70_code 1 = .ok (.lload_n 2, 1) := by decide +kernel
theorem own_d13_2 : decode jdk_29_method_70_code 2 = .ok (.lcmp, 1) := by decide +kernel
theorem own_d13_3 : decode jdk_29_method_70_code 3 = .ok (.ifCond .gt 7, 3) := by decide +kernel
theorem own_d13_10 : decode jdk_29_method_70_code 10 = .ok (.lload_n 2, 1) := by decide +kernel
theorem own_d13_11 : decode jdk_29_method_70_code 11 = .ok (.lreturn, 1) := by decide +kernel
theorem own_d13_6 : decode jdk_29_method_70_code 6 = .ok (.lload_n 0, 1) := by decide +kernel
theorem own_d13_7 : decode jdk_29_method_70_code 7 = .ok (.goto 4, 3) := by decide +kernel
def own_Q_own_lmin (Z : State) (x : Int64) (y : Int64) (h0 : Heap) (n0 : Nat) (v : Option Value) (h : Heap) (L : List Loc) : Prop := v = some (.long (own_minL x y)) ∧ Fr n0 L ∧ h = h0
set_option maxRecDepth 65536 in
set_option maxHeartbeats 40000000 in
theorem own_lmin (l : Launch) (Z : State) (a0 : Array Value) (hw : ∀ d ∈ tables_1, d.before a0 Z = true) (ws : List Jvm.Cond) (x : Int64) (y : Int64) (h0 : Heap) (n0 : Nat) (O0 : Old Z n0 h0) :
    MetFree l (⟨"java/lang/Math", "min", "(JJ)J"⟩ : MethodName) (head1 (Jvm.Cond.code (⟨"java/lang/Math", "min", "(JJ)J"⟩ : MethodName) jdk_29_method_70_code 4 (some .long) :: ws) ({ frames := 0, cells := 0, slots := 0, locals := 0 } : Room)) (fun args_ U => args_ = #[(.long x), (.long y)] ∧ Z.Warmed39 U.vm ∧ U.heap = h0) (fun _ _ _ _ _ => True) (fun _ U o U' => ∃ v L, o = .returned v ∧ (own_Q_own_lmin Z x y h0 n0) v U'.heap L ∧ FrameEnd U o U' L ({ frames := 0, cells := 0, slots := 0, locals := 0 } : Room).cells ({ frames := 0, cells := 0, slots := 0, locals := 0 } : Room).slots) := by
  refine MetFree.of_bodySF (Jvm.Free.JP.mathPlain rfl (by decide +kernel)) hisR ?_
  intro p e s m args below meth c s₁ Bd hml0 hP hK
  obtain ⟨rfl, hZ, hh⟩ := hP
  have hx := Bd.exec
  have hby := Bd.bytes
  have hml : c.maxLocals = 4 := hml0
  have hown : s.vm.findClass "java/lang/Math" = some m.cls := findClass_of_methodNamed Bd.named
  have hnm := (name_of_methodNamed Bd.named Bd.method).1
  have X0 : Stand p l e ({ frames := 0, cells := 0, slots := 0, locals := 0 } : Room) s m #[(.long x), (.long y)] below meth c s₁ [] 0 0 := Stand.of_body Bd
  have e0 : s₁.heap = h0 := by rw [← hh, Bd.state]; rfl
  have N0 := Fr.nil n0
  refine own_close (s := s) (Q := (own_Q_own_lmin Z x y h0 n0)) (C := (({ frames := 0, cells := 0, slots := 0, locals := 0 } : Room)).cells) (N := (({ frames := 0, cells := 0, slots := 0, locals := 0 } : Room)).slots) (own_st (fun _ kt => castTop (own_ef13 m x y) kt) ?_)
  show own_Rch p e below _ s₁ (mkF m 0 #[.val (.long x), .second, .val (.long y), .second] [])
  refine own_st (fun _ kt => XS.lloadN X0.here hx rfl (hb hby own_d13_0) rfl  kt) ?_
  show own_Rch p e below _ s₁ (mkF m 1 #[.val (.long x), .second, .val (.long y), .second] [(.long x)])
  refine own_st (fun _ kt => XS.lloadN X0.here hx rfl (hb hby own_d13_1) rfl  kt) ?_
  show own_Rch p e below _ s₁ (mkF m 2 #[.val (.long x), .second, .val (.long y), .second] [(.long y), (.long x)])
  refine own_st (fun _ kt => XS.lcmp X0.here hx rfl (hb hby own_d13_2) rfl kt) ?_
  show own_Rch p e below _ s₁ (mkF m 3 #[.val (.long x), .second, .val (.long y), .second] [(.int (lcmpW x y))])
  by_cases hc3_1 : (0 : Int32) < (lcmpW x y)
  · -- pc 3: True
    refine own_st (fun _ kt => XS.ifYes X0.here hx rfl (pc0 := 3) (pc' := 10) rfl (hb hby own_d13_3) rfl ((if0 _ _).trans (tlt hc3_1).2.2.1) (by decide) (by decide) kt) ?_
    show own_Rch p e below _ s₁ (mkF m 10 #[.val (.long x), .second, .val (.long y), .second] [])
    refine own_st (fun _ kt => XS.lloadN X0.here hx rfl (hb hby own_d13_10) rfl  kt) ?_
    show own_Rch p e below _ s₁ (mkF m 11 #[.val (.long x), .second, .val (.long y), .second] [(.long y)])
    refine own_retL X0 hx Bd.notSynchronized Bd.returns (hb hby own_d13_11) (by decide) (by decide) ?_
    rw [e0]
    exact ⟨by rw [lw_gt] at hc3_1; simp [own_maxL, own_minL, hc3_1], N0, rfl⟩
  · -- pc 3: False
    refine own_st (fun _ kt => XS.ifNo X0.here hx rfl (hb hby own_d13_3) rfl ((if0 _ _).trans (flt hc3_1).2.2.1) kt) ?_
    show own_Rch p e below _ s₁ (mkF m 6 #[.val (.long x), .second, .val (.long y), .second] [])
    refine own_st (fun _ kt => XS.lloadN X0.here hx rfl (hb hby own_d13_6) rfl  kt) ?_
    show own_Rch p e below _ s₁ (mkF m 7 #[.val (.long x), .second, .val (.long y), .second] [(.long x)])
    refine own_st (fun _ kt => XS.goto X0.here hx rfl (pc0 := 7) (pc' := 11) rfl (hb hby own_d13_7) (by decide) (by decide) kt) ?_
    show own_Rch p e below _ s₁ (mkF m 11 #[.val (.long x), .second, .val (.long y), .second] [(.long x)])
    refine own_retL X0 hx Bd.notSynchronized Bd.returns (hb hby own_d13_11) (by decide) (by decide) ?_
    rw [e0]
    exact ⟨by rw [lw_gt] at hc3_1; simp [own_maxL, own_minL, hc3_1], N0, rfl⟩
def own_Q_own_lmaxl (Z : State) (x : Int64) (y : Int64) (h0 : Heap) (n0 : Nat) (v : Option Value) (h : Heap) (L : List Loc) : Prop := v = some (.long x) ∧ Fr n0 L ∧ h = h0
set_option maxRecDepth 65536 in
set_option maxHeartbeats 40000000 in
theorem own_lmaxl (l : Launch) (Z : State) (a0 : Array Value) (hw : ∀ d ∈ tables_1, d.before a0 Z = true) (ws : List Jvm.Cond) (x : Int64) (y : Int64) (h0 : Heap) (n0 : Nat) (O0 : Old Z n0 h0) (hxy : ¬ x < y) :
    MetFree l (⟨"java/lang/Math", "max", "(JJ)J"⟩ : MethodName) (head1 (Jvm.Cond.code (⟨"java/lang/Math", "max", "(JJ)J"⟩ : MethodName) jdk_29_method_66_code 4 (some .long) :: ws) ({ frames := 0, cells := 0, slots := 0, locals := 0 } : Room)) (fun args_ U => args_ = #[(.long x), (.long y)] ∧ Z.Warmed39 U.vm ∧ U.heap = h0) (fun _ _ _ _ _ => True) (fun _ U o U' => ∃ v L, o = .returned v ∧ (own_Q_own_lmaxl Z x y h0 n0) v U'.heap L ∧ FrameEnd U o U' L ({ frames := 0, cells := 0, slots := 0, locals := 0 } : Room).cells ({ frames := 0, cells := 0, slots := 0, locals := 0 } : Room).slots) := by
  refine MetFree.of_bodySF (Jvm.Free.JP.mathPlain rfl (by decide +kernel)) hisR ?_
  intro p e s m args below meth c s₁ Bd hml0 hP hK
  obtain ⟨rfl, hZ, hh⟩ := hP
  have hx := Bd.exec
  have hby := Bd.bytes
  have hml : c.maxLocals = 4 := hml0
  have hown : s.vm.findClass "java/lang/Math" = some m.cls := findClass_of_methodNamed Bd.named
  have hnm := (name_of_methodNamed Bd.named Bd.method).1
  have X0 : Stand p l e ({ frames := 0, cells := 0, slots := 0, locals := 0 } : Room) s m #[(.long x), (.long y)] below meth c s₁ [] 0 0 := Stand.of_body Bd
  have e0 : s₁.heap = h0 := by rw [← hh, Bd.state]; rfl
  have N0 := Fr.nil n0
  refine own_close (s := s) (Q := (own_Q_own_lmaxl Z x y h0 n0)) (C := (({ frames := 0, cells := 0, slots := 0, locals := 0 } : Room)).cells) (N := (({ frames := 0, cells := 0, slots := 0, locals := 0 } : Room)).slots) (own_st (fun _ kt => castTop (own_ef11 m x y) kt) ?_)
  show own_Rch p e below _ s₁ (mkF m 0 #[.val (.long x), .second, .val (.long y), .second] [])
  refine own_st (fun _ kt => XS.lloadN X0.here hx rfl (hb hby own_d11_0) rfl  kt) ?_
  show own_Rch p e below _ s₁ (mkF m 1 #[.val (.long x), .second, .val (.long y), .second] [(.long x)])
  refine own_st (fun _ kt => XS.lloadN X0.here hx rfl (hb hby own_d11_1) rfl  kt) ?_
  show own_Rch p e below _ s₁ (mkF m 2 #[.val (.long x), .second, .val (.long y), .second] [(.long y), (.long x)])
  refine own_st (fun _ kt => XS.lcmp X0.here hx rfl (hb hby own_d11_2) rfl kt) ?_
  show own_Rch p e below _ s₁ (mkF m 3 #[.val (.long x), .second, .val (.long y), .second] [(.int (lcmpW x y))])
  refine own_st (fun _ kt => XS.ifNo X0.here hx rfl (hb hby own_d11_3) rfl ((if0 _ _).trans (flt (fun q => hxy ((lw_lt _ _).mp q) : ¬ ((lcmpW x y) < (0 : Int32)))).1) kt) ?_
  show own_Rch p e below _ s₁ (mkF m 6 #[.val (.long x), .second, .val (.long y), .second] [])
  refine own_st (fun _ kt => XS.lloadN X0.here hx rfl (hb hby own_d11_6) rfl  kt) ?_
  show own_Rch p e below _ s₁ (mkF m 7 #[.val (.long x), .second, .val (.long y), .second] [(.long x)])
  refine own_st (fun _ kt => XS.goto X0.here hx rfl (pc0 := 7) (pc' := 11) rfl (hb hby own_d11_7) (by decide) (by decide) kt) ?_
  show own_Rch p e below _ s₁ (mkF m 11 #[.val (.long x), .second, .val (.long y), .second] [(.long x)])
  refine own_retL X0 hx Bd.notSynchronized Bd.returns (hb hby own_d11_11) (by decide) (by decide) ?_
  rw [e0]
  exact ⟨rfl, N0, rfl⟩
theorem own_pn0 : plainName "com/example/respite/respite/cli/LatenciesAddPinLaw" = true := by first | (simp [plainName, overriddenIn]; done) | decide +kernel
theorem own_ef12 (m : MethodId) (x0 : Int64) (x1 : Int64) (x2 : Int64) (x3 : Int32) : entryFrame m #[(.long x0), (.long x1), (.long x2), (.int x3)] 7 = mkF m 0 #[.val (.long x0), .second, .val (.long x1), .second, .val (.long x2), .second, .val (.int x3)] [] := by first | (simp [entryFrame, mkF, argsToLocals, Value.category]; done) | rfl
theorem own_d12_0 : decode method_2_code 0 = .ok (.iload 6, 2) := by decide +kernel
theorem own_d12_2 : decode method_2_code 2 = .ok (.iconst 1, 1) := by decide +kernel
theorem own_d12_3 : decode method_2_code 3 = .ok (.if_icmp .ne 5, 3) := by decide +kernel
theorem own_d12_6 : decode method_2_code 6 = .ok (.lload_n 0, 1) := by decide +kernel
theorem own_d12_7 : decode method_2_code 7 = .ok (.lreturn, 1) := by decide +kernel
def own_Q_own_maxof1 (Z : State) (x : Int64) (y : Int64) (t : Int64) (h0 : Heap) (n0 : Nat) (v : Option Value) (h : Heap) (L : List Loc) : Prop := v = some (.long x) ∧ Fr n0 L ∧ h = h0
set_option maxRecDepth 65536 in
set_option maxHeartbeats 40000000 in
theorem own_maxof1 (l : Launch) (Z : State) (a0 : Array Value) (hw : ∀ d ∈ tables_1, d.before a0 Z = true) (ws : List Jvm.Cond) (x : Int64) (y : Int64) (t : Int64) (h0 : Heap) (n0 : Nat) (O0 : Old Z n0 h0) :
    MetFree l (⟨"com/example/respite/respite/cli/LatenciesAddPinLaw", "maxOf", "(JJJI)J"⟩ : MethodName) (head1 (Jvm.Cond.code (⟨"com/example/respite/respite/cli/LatenciesAddPinLaw", "maxOf", "(JJJI)J"⟩ : MethodName) method_2_code 7 (some .long) :: ws) ({ frames := 0, cells := 0, slots := 0, locals := 0 } : Room)) (fun args_ U => args_ = #[(.long x), (.long y), (.long t), (.int (1 : Int32))] ∧ Z.Warmed39 U.vm ∧ U.heap = h0) (fun _ _ _ _ _ => True) (fun _ U o U' => ∃ v L, o = .returned v ∧ (own_Q_own_maxof1 Z x y t h0 n0) v U'.heap L ∧ FrameEnd U o U' L ({ frames := 0, cells := 0, slots := 0, locals := 0 } : Room).cells ({ frames := 0, cells := 0, slots := 0, locals := 0 } : Room).slots) := by
  refine MetFree.of_bodySF (plainFor_of_name own_pn0) hisR ?_
  intro p e s m args below meth c s₁ Bd hml0 hP hK
  obtain ⟨rfl, hZ, hh⟩ := hP
  have hx := Bd.exec
  have hby := Bd.bytes
  have hml : c.maxLocals = 7 := hml0
  have hown : s.vm.findClass "com/example/respite/respite/cli/LatenciesAddPinLaw" = some m.cls := findClass_of_methodNamed Bd.named
  have hnm := (name_of_methodNamed Bd.named Bd.method).1
  have X0 : Stand p l e ({ frames := 0, cells := 0, slots := 0, locals := 0 } : Room) s m #[(.long x), (.long y), (.long t), (.int (1 : Int32))] below meth c s₁ [] 0 0 := Stand.of_body Bd
  have e0 : s₁.heap = h0 := by rw [← hh, Bd.state]; rfl
  have N0 := Fr.nil n0
  refine own_close (s := s) (Q := (own_Q_own_maxof1 Z x y t h0 n0)) (C := (({ frames := 0, cells := 0, slots := 0, locals := 0 } : Room)).cells) (N := (({ frames := 0, cells := 0, slots := 0, locals := 0 } : Room)).slots) (own_st (fun _ kt => castTop (own_ef12 m x y t (1 : Int32)) kt) ?_)
  show own_Rch p e below _ s₁ (mkF m 0 #[.val (.long x), .second, .val (.long y), .second, .val (.long t), .second, .val (.int (1 : Int32))] [])
  refine own_st (fun _ kt => XS.iload X0.here hx rfl (hb hby own_d12_0) rfl  kt) ?_
  show own_Rch p e below _ s₁ (mkF m 2 #[.val (.long x), .second, .val (.long y), .second, .val (.long t), .second, .val (.int (1 : Int32))] [(.int (1 : Int32))])
  refine own_st (fun _ kt => XS.iconst X0.here hx rfl (hb hby own_d12_2) kt) ?_
  show own_Rch p e below _ s₁ (mkF m 3 #[.val (.long x), .second, .val (.long y), .second, .val (.long t), .second, .val (.int (1 : Int32))] [(.int (1 : Int32)), (.int (1 : Int32))])
  refine own_st (fun _ kt => XS.icmpNo X0.here hx rfl (hb hby own_d12_3) rfl (teq (rfl : (1 : Int32) = (1 : Int32))).2 kt) ?_
  show own_Rch p e below _ s₁ (mkF m 6 #[.val (.long x), .second, .val (.long y), .second, .val (.long t), .second, .val (.int (1 : Int32))] [])
  refine own_st (fun _ kt => XS.lloadN X0.here hx rfl (hb hby own_d12_6) rfl  kt) ?_
  show own_Rch p e below _ s₁ (mkF m 7 #[.val (.long x), .second, .val (.long y), .second, .val (.long t), .second, .val (.int (1 : Int32))] [(.long x)])
  refine own_retL X0 hx Bd.notSynchronized Bd.returns (hb hby own_d12_7) (by decide) (by decide) ?_
  rw [e0]
  exact ⟨rfl, N0, rfl⟩
theorem own_ef14 (m : MethodId) (x0 : Int64) (x1 : Int64) (x2 : Int64) (x3 : Int32) : entryFrame m #[(.long x0), (.long x1), (.long x2), (.int x3)] 7 = mkF m 0 #[.val (.long x0), .second, .val (.long x1), .second, .val (.long x2), .second, .val (.int x3)] [] := by first | (simp [entryFrame, mkF, argsToLocals, Value.category]; done) | rfl
theorem own_d14_0 : decode method_3_code 0 = .ok (.iload 6, 2) := by decide +kernel
theorem own_d14_2 : decode method_3_code 2 = .ok (.iconst 1, 1) := by decide +kernel
theorem own_d14_3 : decode method_3_code 3 = .ok (.if_icmp .ne 5, 3) := by decide +kernel
theorem own_d14_6 : decode method_3_code 6 = .ok (.lload_n 0, 1) := by decide +kernel
theorem own_d14_7 : decode method_3_code 7 = .ok (.lreturn, 1) := by decide +kernel
def own_Q_own_minof1 (Z : State) (x : Int64) (y : Int64) (t : Int64) (h0 : Heap) (n0 : Nat) (v : Option Value) (h : Heap) (L : List Loc) : Prop := v = some (.long x) ∧ Fr n0 L ∧ h = h0
set_option maxRecDepth 65536 in
set_option maxHeartbeats 40000000 in
theorem own_minof1 (l : Launch) (Z : State) (a0 : Array Value) (hw : ∀ d ∈ tables_1, d.before a0 Z = true) (ws : List Jvm.Cond) (x : Int64) (y : Int64) (t : Int64) (h0 : Heap) (n0 : Nat) (O0 : Old Z n0 h0) :
    MetFree l (⟨"com/example/respite/respite/cli/LatenciesAddPinLaw", "minOf", "(JJJI)J"⟩ : MethodName) (head1 (Jvm.Cond.code (⟨"com/example/respite/respite/cli/LatenciesAddPinLaw", "minOf", "(JJJI)J"⟩ : MethodName) method_3_code 7 (some .long) :: ws) ({ frames := 0, cells := 0, slots := 0, locals := 0 } : Room)) (fun args_ U => args_ = #[(.long x), (.long y), (.long t), (.int (1 : Int32))] ∧ Z.Warmed39 U.vm ∧ U.heap = h0) (fun _ _ _ _ _ => True) (fun _ U o U' => ∃ v L, o = .returned v ∧ (own_Q_own_minof1 Z x y t h0 n0) v U'.heap L ∧ FrameEnd U o U' L ({ frames := 0, cells := 0, slots := 0, locals := 0 } : Room).cells ({ frames := 0, cells := 0, slots := 0, locals := 0 } : Room).slots) := by
  refine MetFree.of_bodySF (plainFor_of_name own_pn0) hisR ?_
  intro p e s m args below meth c s₁ Bd hml0 hP hK
  obtain ⟨rfl, hZ, hh⟩ := hP
  have hx := Bd.exec
  have hby := Bd.bytes
  have hml : c.maxLocals = 7 := hml0
  have hown : s.vm.findClass "com/example/respite/respite/cli/LatenciesAddPinLaw" = some m.cls := findClass_of_methodNamed Bd.named
  have hnm := (name_of_methodNamed Bd.named Bd.method).1
  have X0 : Stand p l e ({ frames := 0, cells := 0, slots := 0, locals := 0 } : Room) s m #[(.long x), (.long y), (.long t), (.int (1 : Int32))] below meth c s₁ [] 0 0 := Stand.of_body Bd
  have e0 : s₁.heap = h0 := by rw [← hh, Bd.state]; rfl
  have N0 := Fr.nil n0
  refine own_close (s := s) (Q := (own_Q_own_minof1 Z x y t h0 n0)) (C := (({ frames := 0, cells := 0, slots := 0, locals := 0 } : Room)).cells) (N := (({ frames := 0, cells := 0, slots := 0, locals := 0 } : Room)).slots) (own_st (fun _ kt => castTop (own_ef14 m x y t (1 : Int32)) kt) ?_)
  show own_Rch p e below _ s₁ (mkF m 0 #[.val (.long x), .second, .val (.long y), .second, .val (.long t), .second, .val (.int (1 : Int32))] [])
  refine own_st (fun _ kt => XS.iload X0.here hx rfl (hb hby own_d14_0) rfl  kt) ?_
  show own_Rch p e below _ s₁ (mkF m 2 #[.val (.long x), .second, .val (.long y), .second, .val (.long t), .second, .val (.int (1 : Int32))] [(.int (1 : Int32))])
  refine own_st (fun _ kt => XS.iconst X0.here hx rfl (hb hby own_d14_2) kt) ?_
  show own_Rch p e below _ s₁ (mkF m 3 #[.val (.long x), .second, .val (.long y), .second, .val (.long t), .second, .val (.int (1 : Int32))] [(.int (1 : Int32)), (.int (1 : Int32))])
  refine own_st (fun _ kt => XS.icmpNo X0.here hx rfl (hb hby own_d14_3) rfl (teq (rfl : (1 : Int32) = (1 : Int32))).2 kt) ?_
  show own_Rch p e below _ s₁ (mkF m 6 #[.val (.long x), .second, .val (.long y), .second, .val (.long t), .second, .val (.int (1 : Int32))] [])
  refine own_st (fun _ kt => XS.lloadN X0.here hx rfl (hb hby own_d14_6) rfl  kt) ?_
  show own_Rch p e below _ s₁ (mkF m 7 #[.val (.long x), .second, .val (.long y), .second, .val (.long t), .second, .val (.int (1 : Int32))] [(.long x)])
  refine own_retL X0 hx Bd.notSynchronized Bd.returns (hb hby own_d14_7) (by decide) (by decide) ?_
  rw [e0]
  exact ⟨rfl, N0, rfl⟩
theorem own_d12_8 : decode method_2_code 8 = .ok (.iload 6, 2) := by decide +kernel
theorem own_d12_10 : decode method_2_code 10 = .ok (.iconst 2, 1) := by decide +kernel
theorem own_d12_11 : decode method_2_code 11 = .ok (.if_icmp .ne 9, 3) := by decide +kernel
theorem own_d12_14 : decode method_2_code 14 = .ok (.lload_n 0, 1) := by decide +kernel
theorem own_d12_15 : decode method_2_code 15 = .ok (.lload_n 2, 1) := by decide +kernel
theorem own_d12_16 : decode method_2_code 16 = .ok (.invokestatic 7, 3) := by decide +kernel
theorem own_pd0 : parseMethodDescriptor "(JJ)J" = some ⟨[.long, .long], some .long⟩ := by decide +kernel
theorem own_d12_19 : decode method_2_code 19 = .ok (.lreturn, 1) := by decide +kernel
def own_Q_own_maxof2 (Z : State) (x : Int64) (y : Int64) (t : Int64) (h0 : Heap) (n0 : Nat) (v : Option Value) (h : Heap) (L : List Loc) : Prop := v = some (.long (own_maxL x y)) ∧ Fr n0 L ∧ h = h0
set_option maxRecDepth 65536 in
set_option maxHeartbeats 40000000 in
theorem own_maxof2 (l : Launch) (Z : State) (a0 : Array Value) (hw : ∀ d ∈ tables_1, d.before a0 Z = true) (ws : List Jvm.Cond) (x : Int64) (y : Int64) (t : Int64) (h0 : Heap) (n0 : Nat) (O0 : Old Z n0 h0) :
    MetFree l (⟨"com/example/respite/respite/cli/LatenciesAddPinLaw", "maxOf", "(JJJI)J"⟩ : MethodName) (head1 (Jvm.Cond.code (⟨"com/example/respite/respite/cli/LatenciesAddPinLaw", "maxOf", "(JJJI)J"⟩ : MethodName) method_2_code 7 (some .long) :: ws) ({ frames := 1, cells := 0, slots := 0, locals := 15 } : Room)) (fun args_ U => args_ = #[(.long x), (.long y), (.long t), (.int (2 : Int32))] ∧ Z.Warmed39 U.vm ∧ U.heap = h0) (fun _ _ _ _ _ => True) (fun _ U o U' => ∃ v L, o = .returned v ∧ (own_Q_own_maxof2 Z x y t h0 n0) v U'.heap L ∧ FrameEnd U o U' L ({ frames := 1, cells := 0, slots := 0, locals := 15 } : Room).cells ({ frames := 1, cells := 0, slots := 0, locals := 15 } : Room).slots) := by
  refine MetFree.of_bodySF (plainFor_of_name own_pn0) hisR ?_
  intro p e s m args below meth c s₁ Bd hml0 hP hK
  obtain ⟨rfl, hZ, hh⟩ := hP
  have hx := Bd.exec
  have hby := Bd.bytes
  have hml : c.maxLocals = 7 := hml0
  have hown : s.vm.findClass "com/example/respite/respite/cli/LatenciesAddPinLaw" = some m.cls := findClass_of_methodNamed Bd.named
  have hnm := (name_of_methodNamed Bd.named Bd.method).1
  have X0 : Stand p l e ({ frames := 1, cells := 0, slots := 0, locals := 15 } : Room) s m #[(.long x), (.long y), (.long t), (.int (2 : Int32))] below meth c s₁ [] 0 0 := Stand.of_body Bd
  have e0 : s₁.heap = h0 := by rw [← hh, Bd.state]; rfl
  have N0 := Fr.nil n0
  refine own_close (s := s) (Q := (own_Q_own_maxof2 Z x y t h0 n0)) (C := (({ frames := 1, cells := 0, slots := 0, locals := 15 } : Room)).cells) (N := (({ frames := 1, cells := 0, slots := 0, locals := 15 } : Room)).slots) (own_st (fun _ kt => castTop (own_ef12 m x y t (2 : Int32)) kt) ?_)
  show own_Rch p e below _ s₁ (mkF m 0 #[.val (.long x), .second, .val (.long y), .second, .val (.long t), .second, .val (.int (2 : Int32))] [])
  refine own_st (fun _ kt => XS.iload X0.here hx rfl (hb hby own_d12_0) rfl  kt) ?_
  show own_Rch p e below _ s₁ (mkF m 2 #[.val (.long x), .second, .val (.long y), .second, .val (.long t), .second, .val (.int (2 : Int32))] [(.int (2 : Int32))])
  refine own_st (fun _ kt => XS.iconst X0.here hx rfl (hb hby own_d12_2) kt) ?_
  show own_Rch p e below _ s₁ (mkF m 3 #[.val (.long x), .second, .val (.long y), .second, .val (.long t), .second, .val (.int (2 : Int32))] [(.int (1 : Int32)), (.int (2 : Int32))])
  refine own_st (fun _ kt => XS.icmpYes X0.here hx rfl (pc0 := 3) (pc' := 8) rfl (hb hby own_d12_3) rfl (feq ((by decide) : ¬ ((2 : Int32) = (1 : Int32)))).2 (by decide) (by decide) kt) ?_
  show own_Rch p e below _ s₁ (mkF m 8 #[.val (.long x), .second, .val (.long y), .second, .val (.long t), .second, .val (.int (2 : Int32))] [])
  refine own_st (fun _ kt => XS.iload X0.here hx rfl (hb hby own_d12_8) rfl  kt) ?_
  show own_Rch p e below _ s₁ (mkF m 10 #[.val (.long x), .second, .val (.long y), .second, .val (.long t), .second, .val (.int (2 : Int32))] [(.int (2 : Int32))])
  refine own_st (fun _ kt => XS.iconst X0.here hx rfl (hb hby own_d12_10) kt) ?_
  show own_Rch p e below _ s₁ (mkF m 11 #[.val (.long x), .second, .val (.long y), .second, .val (.long t), .second, .val (.int (2 : Int32))] [(.int (2 : Int32)), (.int (2 : Int32))])
  refine own_st (fun _ kt => XS.icmpNo X0.here hx rfl (hb hby own_d12_11) rfl (teq (rfl : (2 : Int32) = (2 : Int32))).2 kt) ?_
  show own_Rch p e below _ s₁ (mkF m 14 #[.val (.long x), .second, .val (.long y), .second, .val (.long t), .second, .val (.int (2 : Int32))] [])
  refine own_st (fun _ kt => XS.lloadN X0.here hx rfl (hb hby own_d12_14) rfl  kt) ?_
  show own_Rch p e below _ s₁ (mkF m 15 #[.val (.long x), .second, .val (.long y), .second, .val (.long t), .second, .val (.int (2 : Int32))] [(.long x)])
  refine own_st (fun _ kt => XS.lloadN X0.here hx rfl (hb hby own_d12_15) rfl  kt) ?_
  show own_Rch p e below _ s₁ (mkF m 16 #[.val (.long x), .second, .val (.long y), .second, .val (.long t), .second, .val (.int (2 : Int32))] [(.long y), (.long x)])
  obtain ⟨_, _, ⟨T1, L1, k1, n1⟩, -, X1, ⟨Lc1, hQ1, l1, y1, z1⟩, st1⟩ := Jvm.LawKit.callS X0 hx (y := (⟨"java/lang/Math", "max", "(JJ)J"⟩ : MethodName)) hown (mvT hZ (hw _ (List.mem_of_getElem? (i := 57) rfl))) (mvT hZ (hw _ (List.mem_of_getElem? (i := 50) rfl))) (mvT hZ (hw _ (List.mem_of_getElem? (i := 51) rfl))) (mvT hZ (hw _ (List.mem_of_getElem? (i := 52) rfl))) (by decide) (backOf (W := 0) (own_lmax l Z a0 hw [] x y h0 n0 O0 ) hZ (hw _ (List.mem_of_getElem? (i := 52) rfl)) (hw _ (List.mem_of_getElem? (i := 51) rfl)) (by decide) (by decide)) (g := (mkF m 16 #[.val (.long x), .second, .val (.long y), .second, .val (.long t), .second, .val (.int (2 : Int32))] [(.long y), (.long x)])) rfl (by rw [hml]; rfl) (argsL := [(.long x), (.long y)]) (rest := []) (lenOf own_pd0 rfl) rfl (by show 2 * 0 + _ ≤ _; exact Nat.le_of_eq rfl) (hb hby own_d12_16) (fun _ _ => ⟨rfl, e0, (by decide : 0 + 0 ≤ _), (by decide : 0 + 0 ≤ _)⟩)
  dsimp only [Pt.U, Pt.locs, Pt.cells, Pt.slots] at X1 l1 y1 z1 st1 hQ1
  subst l1 y1 z1
  obtain ⟨rfl, N1q, hh1⟩ := hQ1
  have N1 := Fr.app N0 N1q
  refine own_st st1 ?_
  show own_Rch p e below _ T1 (mkF m 19 #[.val (.long x), .second, .val (.long y), .second, .val (.long t), .second, .val (.int (2 : Int32))] [(.long (own_maxL x y))])
  refine own_retL X1 hx Bd.notSynchronized Bd.returns (hb hby own_d12_19) (by decide) (by decide) ?_
  rw [hh1]
  exact ⟨rfl, N1, rfl⟩
theorem own_d14_8 : decode method_3_code 8 = .ok (.iload 6, 2) := by decide +kernel
theorem own_d14_10 : decode method_3_code 10 = .ok (.iconst 2, 1) := by decide +kernel
theorem own_d14_11 : decode method_3_code 11 = .ok (.if_icmp .ne 9, 3) := by decide +kernel
theorem own_d14_14 : decode method_3_code 14 = .ok (.lload_n 0, 1) := by decide +kernel
theorem own_d14_15 : decode method_3_code 15 = .ok (.lload_n 2, 1) := by decide +kernel
theorem own_d14_16 : decode method_3_code 16 = .ok (.invokestatic 13, 3) := by decide +kernel
theorem own_d14_19 : decode method_3_code 19 = .ok (.lreturn, 1) := by decide +kernel
def own_Q_own_minof2 (Z : State) (x : Int64) (y : Int64) (t : Int64) (h0 : Heap) (n0 : Nat) (v : Option Value) (h : Heap) (L : List Loc) : Prop := v = some (.long (own_minL x y)) ∧ Fr n0 L ∧ h = h0
set_option maxRecDepth 65536 in
set_option maxHeartbeats 40000000 in
theorem own_minof2 (l : Launch) (Z : State) (a0 : Array Value) (hw : ∀ d ∈ tables_1, d.before a0 Z = true) (ws : List Jvm.Cond) (x : Int64) (y : Int64) (t : Int64) (h0 : Heap) (n0 : Nat) (O0 : Old Z n0 h0) :
    MetFree l (⟨"com/example/respite/respite/cli/LatenciesAddPinLaw", "minOf", "(JJJI)J"⟩ : MethodName) (head1 (Jvm.Cond.code (⟨"com/example/respite/respite/cli/LatenciesAddPinLaw", "minOf", "(JJJI)J"⟩ : MethodName) method_3_code 7 (some .long) :: ws) ({ frames := 1, cells := 0, slots := 0, locals := 15 } : Room)) (fun args_ U => args_ = #[(.long x), (.long y), (.long t), (.int (2 : Int32))] ∧ Z.Warmed39 U.vm ∧ U.heap = h0) (fun _ _ _ _ _ => True) (fun _ U o U' => ∃ v L, o = .returned v ∧ (own_Q_own_minof2 Z x y t h0 n0) v U'.heap L ∧ FrameEnd U o U' L ({ frames := 1, cells := 0, slots := 0, locals := 15 } : Room).cells ({ frames := 1, cells := 0, slots := 0, locals := 15 } : Room).slots) := by
  refine MetFree.of_bodySF (plainFor_of_name own_pn0) hisR ?_
  intro p e s m args below meth c s₁ Bd hml0 hP hK
  obtain ⟨rfl, hZ, hh⟩ := hP
  have hx := Bd.exec
  have hby := Bd.bytes
  have hml : c.maxLocals = 7 := hml0
  have hown : s.vm.findClass "com/example/respite/respite/cli/LatenciesAddPinLaw" = some m.cls := findClass_of_methodNamed Bd.named
  have hnm := (name_of_methodNamed Bd.named Bd.method).1
  have X0 : Stand p l e ({ frames := 1, cells := 0, slots := 0, locals := 15 } : Room) s m #[(.long x), (.long y), (.long t), (.int (2 : Int32))] below meth c s₁ [] 0 0 := Stand.of_body Bd
  have e0 : s₁.heap = h0 := by rw [← hh, Bd.state]; rfl
  have N0 := Fr.nil n0
  refine own_close (s := s) (Q := (own_Q_own_minof2 Z x y t h0 n0)) (C := (({ frames := 1, cells := 0, slots := 0, locals := 15 } : Room)).cells) (N := (({ frames := 1, cells := 0, slots := 0, locals := 15 } : Room)).slots) (own_st (fun _ kt => castTop (own_ef14 m x y t (2 : Int32)) kt) ?_)
  show own_Rch p e below _ s₁ (mkF m 0 #[.val (.long x), .second, .val (.long y), .second, .val (.long t), .second, .val (.int (2 : Int32))] [])
  refine own_st (fun _ kt => XS.iload X0.here hx rfl (hb hby own_d14_0) rfl  kt) ?_
  show own_Rch p e below _ s₁ (mkF m 2 #[.val (.long x), .second, .val (.long y), .second, .val (.long t), .second, .val (.int (2 : Int32))] [(.int (2 : Int32))])
  refine own_st (fun _ kt => XS.iconst X0.here hx rfl (hb hby own_d14_2) kt) ?_
  show own_Rch p e below _ s₁ (mkF m 3 #[.val (.long x), .second, .val (.long y), .second, .val (.long t), .second, .val (.int (2 : Int32))] [(.int (1 : Int32)), (.int (2 : Int32))])
  refine own_st (fun _ kt => XS.icmpYes X0.here hx rfl (pc0 := 3) (pc' := 8) rfl (hb hby own_d14_3) rfl (feq ((by decide) : ¬ ((2 : Int32) = (1 : Int32)))).2 (by decide) (by decide) kt) ?_
  show own_Rch p e below _ s₁ (mkF m 8 #[.val (.long x), .second, .val (.long y), .second, .val (.long t), .second, .val (.int (2 : Int32))] [])
  refine own_st (fun _ kt => XS.iload X0.here hx rfl (hb hby own_d14_8) rfl  kt) ?_
  show own_Rch p e below _ s₁ (mkF m 10 #[.val (.long x), .second, .val (.long y), .second, .val (.long t), .second, .val (.int (2 : Int32))] [(.int (2 : Int32))])
  refine own_st (fun _ kt => XS.iconst X0.here hx rfl (hb hby own_d14_10) kt) ?_
  show own_Rch p e below _ s₁ (mkF m 11 #[.val (.long x), .second, .val (.long y), .second, .val (.long t), .second, .val (.int (2 : Int32))] [(.int (2 : Int32)), (.int (2 : Int32))])
  refine own_st (fun _ kt => XS.icmpNo X0.here hx rfl (hb hby own_d14_11) rfl (teq (rfl : (2 : Int32) = (2 : Int32))).2 kt) ?_
  show own_Rch p e below _ s₁ (mkF m 14 #[.val (.long x), .second, .val (.long y), .second, .val (.long t), .second, .val (.int (2 : Int32))] [])
  refine own_st (fun _ kt => XS.lloadN X0.here hx rfl (hb hby own_d14_14) rfl  kt) ?_
  show own_Rch p e below _ s₁ (mkF m 15 #[.val (.long x), .second, .val (.long y), .second, .val (.long t), .second, .val (.int (2 : Int32))] [(.long x)])
  refine own_st (fun _ kt => XS.lloadN X0.here hx rfl (hb hby own_d14_15) rfl  kt) ?_
  show own_Rch p e below _ s₁ (mkF m 16 #[.val (.long x), .second, .val (.long y), .second, .val (.long t), .second, .val (.int (2 : Int32))] [(.long y), (.long x)])
  obtain ⟨_, _, ⟨T1, L1, k1, n1⟩, -, X1, ⟨Lc1, hQ1, l1, y1, z1⟩, st1⟩ := Jvm.LawKit.callS X0 hx (y := (⟨"java/lang/Math", "min", "(JJ)J"⟩ : MethodName)) hown (mvT hZ (hw _ (List.mem_of_getElem? (i := 58) rfl))) (mvT hZ (hw _ (List.mem_of_getElem? (i := 59) rfl))) (mvT hZ (hw _ (List.mem_of_getElem? (i := 51) rfl))) (mvT hZ (hw _ (List.mem_of_getElem? (i := 60) rfl))) (by decide) (backOf (W := 0) (own_lmin l Z a0 hw [] x y h0 n0 O0 ) hZ (hw _ (List.mem_of_getElem? (i := 60) rfl)) (hw _ (List.mem_of_getElem? (i := 51) rfl)) (by decide) (by decide)) (g := (mkF m 16 #[.val (.long x), .second, .val (.long y), .second, .val (.long t), .second, .val (.int (2 : Int32))] [(.long y), (.long x)])) rfl (by rw [hml]; rfl) (argsL := [(.long x), (.long y)]) (rest := []) (lenOf own_pd0 rfl) rfl (by show 2 * 0 + _ ≤ _; exact Nat.le_of_eq rfl) (hb hby own_d14_16) (fun _ _ => ⟨rfl, e0, (by decide : 0 + 0 ≤ _), (by decide : 0 + 0 ≤ _)⟩)
  dsimp only [Pt.U, Pt.locs, Pt.cells, Pt.slots] at X1 l1 y1 z1 st1 hQ1
  subst l1 y1 z1
  obtain ⟨rfl, N1q, hh1⟩ := hQ1
  have N1 := Fr.app N0 N1q
  refine own_st st1 ?_
  show own_Rch p e below _ T1 (mkF m 19 #[.val (.long x), .second, .val (.long y), .second, .val (.long t), .second, .val (.int (2 : Int32))] [(.long (own_minL x y))])
  refine own_retL X1 hx Bd.notSynchronized Bd.returns (hb hby own_d14_19) (by decide) (by decide) ?_
  rw [hh1]
  exact ⟨rfl, N1, rfl⟩
theorem own_d12_20 : decode method_2_code 20 = .ok (.lload_n 0, 1) := by decide +kernel
theorem own_d12_21 : decode method_2_code 21 = .ok (.lload_n 2, 1) := by decide +kernel
theorem own_d12_22 : decode method_2_code 22 = .ok (.lload 4, 2) := by decide +kernel
theorem own_d12_24 : decode method_2_code 24 = .ok (.invokestatic 7, 3) := by decide +kernel
theorem own_d12_27 : decode method_2_code 27 = .ok (.invokestatic 7, 3) := by decide +kernel
theorem own_d12_30 : decode method_2_code 30 = .ok (.lreturn, 1) := by decide +kernel
def own_Q_own_maxof3 (Z : State) (x : Int64) (y : Int64) (t : Int64) (h0 : Heap) (n0 : Nat) (v : Option Value) (h : Heap) (L : List Loc) : Prop := v = some (.long (own_maxL x (own_maxL y t))) ∧ Fr n0 L ∧ h = h0
set_option maxRecDepth 65536 in
set_option maxHeartbeats 40000000 in
theorem own_maxof3 (l : Launch) (Z : State) (a0 : Array Value) (hw : ∀ d ∈ tables_1, d.before a0 Z = true) (ws : List Jvm.Cond) (x : Int64) (y : Int64) (t : Int64) (h0 : Heap) (n0 : Nat) (O0 : Old Z n0 h0) :
    MetFree l (⟨"com/example/respite/respite/cli/LatenciesAddPinLaw", "maxOf", "(JJJI)J"⟩ : MethodName) (head1 (Jvm.Cond.code (⟨"com/example/respite/respite/cli/LatenciesAddPinLaw", "maxOf", "(JJJI)J"⟩ : MethodName) method_2_code 7 (some .long) :: ws) ({ frames := 1, cells := 0, slots := 0, locals := 17 } : Room)) (fun args_ U => args_ = #[(.long x), (.long y), (.long t), (.int (3 : Int32))] ∧ Z.Warmed39 U.vm ∧ U.heap = h0) (fun _ _ _ _ _ => True) (fun _ U o U' => ∃ v L, o = .returned v ∧ (own_Q_own_maxof3 Z x y t h0 n0) v U'.heap L ∧ FrameEnd U o U' L ({ frames := 1, cells := 0, slots := 0, locals := 17 } : Room).cells ({ frames := 1, cells := 0, slots := 0, locals := 17 } : Room).slots) := by
  refine MetFree.of_bodySF (plainFor_of_name own_pn0) hisR ?_
  intro p e s m args below meth c s₁ Bd hml0 hP hK
  obtain ⟨rfl, hZ, hh⟩ := hP
  have hx := Bd.exec
  have hby := Bd.bytes
  have hml : c.maxLocals = 7 := hml0
  have hown : s.vm.findClass "com/example/respite/respite/cli/LatenciesAddPinLaw" = some m.cls := findClass_of_methodNamed Bd.named
  have hnm := (name_of_methodNamed Bd.named Bd.method).1
  have X0 : Stand p l e ({ frames := 1, cells := 0, slots := 0, locals := 17 } : Room) s m #[(.long x), (.long y), (.long t), (.int (3 : Int32))] below meth c s₁ [] 0 0 := Stand.of_body Bd
  have e0 : s₁.heap = h0 := by rw [← hh, Bd.state]; rfl
  have N0 := Fr.nil n0
  refine own_close (s := s) (Q := (own_Q_own_maxof3 Z x y t h0 n0)) (C := (({ frames := 1, cells := 0, slots := 0, locals := 17 } : Room)).cells) (N := (({ frames := 1, cells := 0, slots := 0, locals := 17 } : Room)).slots) (own_st (fun _ kt => castTop (own_ef12 m x y t (3 : Int32)) kt) ?_)
  show own_Rch p e below _ s₁ (mkF m 0 #[.val (.long x), .second, .val (.long y), .second, .val (.long t), .second, .val (.int (3 : Int32))] [])
  refine own_st (fun _ kt => XS.iload X0.here hx rfl (hb hby own_d12_0) rfl  kt) ?_
  show own_Rch p e below _ s₁ (mkF m 2 #[.val (.long x), .second, .val (.long y), .second, .val (.long t), .second, .val (.int (3 : Int32))] [(.int (3 : Int32))])
  refine own_st (fun _ kt => XS.iconst X0.here hx rfl (hb hby own_d12_2) kt) ?_
  show own_Rch p e below _ s₁ (mkF m 3 #[.val (.long x), .second, .val (.long y), .second, .val (.long t), .second, .val (.int (3 : Int32))] [(.int (1 : Int32)), (.int (3 : Int32))])
  refine own_st (fun _ kt => XS.icmpYes X0.here hx rfl (pc0 := 3) (pc' := 8) rfl (hb hby own_d12_3) rfl (feq ((by decide) : ¬ ((3 : Int32) = (1 : Int32)))).2 (by decide) (by decide) kt) ?_
  show own_Rch p e below _ s₁ (mkF m 8 #[.val (.long x), .second, .val (.long y), .second, .val (.long t), .second, .val (.int (3 : Int32))] [])
  refine own_st (fun _ kt => XS.iload X0.here hx rfl (hb hby own_d12_8) rfl  kt) ?_
  show own_Rch p e below _ s₁ (mkF m 10 #[.val (.long x), .second, .val (.long y), .second, .val (.long t), .second, .val (.int (3 : Int32))] [(.int (3 : Int32))])
  refine own_st (fun _ kt => XS.iconst X0.here hx rfl (hb hby own_d12_10) kt) ?_
  show own_Rch p e below _ s₁ (mkF m 11 #[.val (.long x), .second, .val (.long y), .second, .val (.long t), .second, .val (.int (3 : Int32))] [(.int (2 : Int32)), (.int (3 : Int32))])
  refine own_st (fun _ kt => XS.icmpYes X0.here hx rfl (pc0 := 11) (pc' := 20) rfl (hb hby own_d12_11) rfl (feq ((by decide) : ¬ ((3 : Int32) = (2 : Int32)))).2 (by decide) (by decide) kt) ?_
  show own_Rch p e below _ s₁ (mkF m 20 #[.val (.long x), .second, .val (.long y), .second, .val (.long t), .second, .val (.int (3 : Int32))] [])
  refine own_st (fun _ kt => XS.lloadN X0.here hx rfl (hb hby own_d12_20) rfl  kt) ?_
  show own_Rch p e below _ s₁ (mkF m 21 #[.val (.long x), .second, .val (.long y), .second, .val (.long t), .second, .val (.int (3 : Int32))] [(.long x)])
  refine own_st (fun _ kt => XS.lloadN X0.here hx rfl (hb hby own_d12_21) rfl  kt) ?_
  show own_Rch p e below _ s₁ (mkF m 22 #[.val (.long x), .second, .val (.long y), .second, .val (.long t), .second, .val (.int (3 : Int32))] [(.long y), (.long x)])
  refine own_st (fun _ kt => XS.lload X0.here hx rfl (hb hby own_d12_22) rfl  kt) ?_
  show own_Rch p e below _ s₁ (mkF m 24 #[.val (.long x), .second, .val (.long y), .second, .val (.long t), .second, .val (.int (3 : Int32))] [(.long t), (.long y), (.long x)])
  obtain ⟨_, _, ⟨T1, L1, k1, n1⟩, -, X1, ⟨Lc1, hQ1, l1, y1, z1⟩, st1⟩ := Jvm.LawKit.callS X0 hx (y := (⟨"java/lang/Math", "max", "(JJ)J"⟩ : MethodName)) hown (mvT hZ (hw _ (List.mem_of_getElem? (i := 57) rfl))) (mvT hZ (hw _ (List.mem_of_getElem? (i := 50) rfl))) (mvT hZ (hw _ (List.mem_of_getElem? (i := 51) rfl))) (mvT hZ (hw _ (List.mem_of_getElem? (i := 52) rfl))) (by decide) (backOf (W := 2) (own_lmax l Z a0 hw [] y t h0 n0 O0 ) hZ (hw _ (List.mem_of_getElem? (i := 52) rfl)) (hw _ (List.mem_of_getElem? (i := 51) rfl)) (by decide) (by decide)) (g := (mkF m 24 #[.val (.long x), .second, .val (.long y), .second, .val (.long t), .second, .val (.int (3 : Int32))] [(.long t), (.long y), (.long x)])) rfl (by rw [hml]; rfl) (argsL := [(.long y), (.long t)]) (rest := [(.long x)]) (lenOf own_pd0 rfl) rfl (by show 2 * 0 + _ ≤ _; exact Nat.le_of_eq rfl) (hb hby own_d12_24) (fun _ _ => ⟨rfl, e0, (by decide : 0 + 0 ≤ _), (by decide : 0 + 0 ≤ _)⟩)
  dsimp only [Pt.U, Pt.locs, Pt.cells, Pt.slots] at X1 l1 y1 z1 st1 hQ1
  subst l1 y1 z1
  obtain ⟨rfl, N1q, hh1⟩ := hQ1
  have N1 := Fr.app N0 N1q
  refine own_st st1 ?_
  show own_Rch p e below _ T1 (mkF m 27 #[.val (.long x), .second, .val (.long y), .second, .val (.long t), .second, .val (.int (3 : Int32))] [(.long (own_maxL y t)), (.long x)])
  obtain ⟨_, _, ⟨T2, L2, k2, n2⟩, -, X2, ⟨Lc2, hQ2, l2, y2, z2⟩, st2⟩ := Jvm.LawKit.callS X1 hx (y := (⟨"java/lang/Math", "max", "(JJ)J"⟩ : MethodName)) hown (mvT hZ (hw _ (List.mem_of_getElem? (i := 57) rfl))) (mvT hZ (hw _ (List.mem_of_getElem? (i := 50) rfl))) (mvT hZ (hw _ (List.mem_of_getElem? (i := 51) rfl))) (mvT hZ (hw _ (List.mem_of_getElem? (i := 52) rfl))) (by decide) (backOf (W := 0) (own_lmax l Z a0 hw [] x (own_maxL y t) h0 n0 O0 ) hZ (hw _ (List.mem_of_getElem? (i := 52) rfl)) (hw _ (List.mem_of_getElem? (i := 51) rfl)) (by decide) (by decide)) (g := (mkF m 27 #[.val (.long x), .second, .val (.long y), .second, .val (.long t), .second, .val (.int (3 : Int32))] [(.long (own_maxL y t)), (.long x)])) rfl (by rw [hml]; rfl) (argsL := [(.long x), (.long (own_maxL y t))]) (rest := []) (lenOf own_pd0 rfl) rfl (by show 2 * 0 + _ ≤ _; exact Nat.le_of_eq rfl) (hb hby own_d12_27) (fun _ _ => ⟨rfl, hh1, (by decide : 0 + 0 ≤ _), (by decide : 0 + 0 ≤ _)⟩)
  dsimp only [Pt.U, Pt.locs, Pt.cells, Pt.slots] at X2 l2 y2 z2 st2 hQ2
  subst l2 y2 z2
  obtain ⟨rfl, N2q, hh2⟩ := hQ2
  have N2 := Fr.app N1 N2q
  refine own_st st2 ?_
  show own_Rch p e below _ T2 (mkF m 30 #[.val (.long x), .second, .val (.long y), .second, .val (.long t), .second, .val (.int (3 : Int32))] [(.long (own_maxL x (own_maxL y t)))])
  refine own_retL X2 hx Bd.notSynchronized Bd.returns (hb hby own_d12_30) (by decide) (by decide) ?_
  rw [hh2]
  exact ⟨rfl, N2, rfl⟩
theorem own_d14_20 : decode method_3_code 20 = .ok (.lload_n 0, 1) := by decide +kernel
theorem own_d14_21 : decode method_3_code 21 = .ok (.lload_n 2, 1) := by decide +kernel
theorem own_d14_22 : decode method_3_code 22 = .ok (.lload 4, 2) := by decide +kernel
theorem own_d14_24 : decode method_3_code 24 = .ok (.invokestatic 13, 3) := by decide +kernel
theorem own_d14_27 : decode method_3_code 27 = .ok (.invokestatic 13, 3) := by decide +kernel
theorem own_d14_30 : decode method_3_code 30 = .ok (.lreturn, 1) := by decide +kernel
def own_Q_own_minof3 (Z : State) (x : Int64) (y : Int64) (t : Int64) (h0 : Heap) (n0 : Nat) (v : Option Value) (h : Heap) (L : List Loc) : Prop := v = some (.long (own_minL x (own_minL y t))) ∧ Fr n0 L ∧ h = h0
set_option maxRecDepth 65536 in
set_option maxHeartbeats 40000000 in
theorem own_minof3 (l : Launch) (Z : State) (a0 : Array Value) (hw : ∀ d ∈ tables_1, d.before a0 Z = true) (ws : List Jvm.Cond) (x : Int64) (y : Int64) (t : Int64) (h0 : Heap) (n0 : Nat) (O0 : Old Z n0 h0) :
    MetFree l (⟨"com/example/respite/respite/cli/LatenciesAddPinLaw", "minOf", "(JJJI)J"⟩ : MethodName) (head1 (Jvm.Cond.code (⟨"com/example/respite/respite/cli/LatenciesAddPinLaw", "minOf", "(JJJI)J"⟩ : MethodName) method_3_code 7 (some .long) :: ws) ({ frames := 1, cells := 0, slots := 0, locals := 17 } : Room)) (fun args_ U => args_ = #[(.long x), (.long y), (.long t), (.int (3 : Int32))] ∧ Z.Warmed39 U.vm ∧ U.heap = h0) (fun _ _ _ _ _ => True) (fun _ U o U' => ∃ v L, o = .returned v ∧ (own_Q_own_minof3 Z x y t h0 n0) v U'.heap L ∧ FrameEnd U o U' L ({ frames := 1, cells := 0, slots := 0, locals := 17 } : Room).cells ({ frames := 1, cells := 0, slots := 0, locals := 17 } : Room).slots) := by
  refine MetFree.of_bodySF (plainFor_of_name own_pn0) hisR ?_
  intro p e s m args below meth c s₁ Bd hml0 hP hK
  obtain ⟨rfl, hZ, hh⟩ := hP
  have hx := Bd.exec
  have hby := Bd.bytes
  have hml : c.maxLocals = 7 := hml0
  have hown : s.vm.findClass "com/example/respite/respite/cli/LatenciesAddPinLaw" = some m.cls := findClass_of_methodNamed Bd.named
  have hnm := (name_of_methodNamed Bd.named Bd.method).1
  have X0 : Stand p l e ({ frames := 1, cells := 0, slots := 0, locals := 17 } : Room) s m #[(.long x), (.long y), (.long t), (.int (3 : Int32))] below meth c s₁ [] 0 0 := Stand.of_body Bd
  have e0 : s₁.heap = h0 := by rw [← hh, Bd.state]; rfl
  have N0 := Fr.nil n0
  refine own_close (s := s) (Q := (own_Q_own_minof3 Z x y t h0 n0)) (C := (({ frames := 1, cells := 0, slots := 0, locals := 17 } : Room)).cells) (N := (({ frames := 1, cells := 0, slots := 0, locals := 17 } : Room)).slots) (own_st (fun _ kt => castTop (own_ef14 m x y t (3 : Int32)) kt) ?_)
  show own_Rch p e below _ s₁ (mkF m 0 #[.val (.long x), .second, .val (.long y), .second, .val (.long t), .second, .val (.int (3 : Int32))] [])
  refine own_st (fun _ kt => XS.iload X0.here hx rfl (hb hby own_d14_0) rfl  kt) ?_
  show own_Rch p e below _ s₁ (mkF m 2 #[.val (.long x), .second, .val (.long y), .second, .val (.long t), .second, .val (.int (3 : Int32))] [(.int (3 : Int32))])
  refine own_st (fun _ kt => XS.iconst X0.here hx rfl (hb hby own_d14_2) kt) ?_
  show own_Rch p e below _ s₁ (mkF m 3 #[.val (.long x), .second, .val (.long y), .second, .val (.long t), .second, .val (.int (3 : Int32))] [(.int (1 : Int32)), (.int (3 : Int32))])
  refine own_st (fun _ kt => XS.icmpYes X0.here hx rfl (pc0 := 3) (pc' := 8) rfl (hb hby own_d14_3) rfl (feq ((by decide) : ¬ ((3 : Int32) = (1 : Int32)))).2 (by decide) (by decide) kt) ?_
  show own_Rch p e below _ s₁ (mkF m 8 #[.val (.long x), .second, .val (.long y), .second, .val (.long t), .second, .val (.int (3 : Int32))] [])
  refine own_st (fun _ kt => XS.iload X0.here hx rfl (hb hby own_d14_8) rfl  kt) ?_
  show own_Rch p e below _ s₁ (mkF m 10 #[.val (.long x), .second, .val (.long y), .second, .val (.long t), .second, .val (.int (3 : Int32))] [(.int (3 : Int32))])
  refine own_st (fun _ kt => XS.iconst X0.here hx rfl (hb hby own_d14_10) kt) ?_
  show own_Rch p e below _ s₁ (mkF m 11 #[.val (.long x), .second, .val (.long y), .second, .val (.long t), .second, .val (.int (3 : Int32))] [(.int (2 : Int32)), (.int (3 : Int32))])
  refine own_st (fun _ kt => XS.icmpYes X0.here hx rfl (pc0 := 11) (pc' := 20) rfl (hb hby own_d14_11) rfl (feq ((by decide) : ¬ ((3 : Int32) = (2 : Int32)))).2 (by decide) (by decide) kt) ?_
  show own_Rch p e below _ s₁ (mkF m 20 #[.val (.long x), .second, .val (.long y), .second, .val (.long t), .second, .val (.int (3 : Int32))] [])
  refine own_st (fun _ kt => XS.lloadN X0.here hx rfl (hb hby own_d14_20) rfl  kt) ?_
  show own_Rch p e below _ s₁ (mkF m 21 #[.val (.long x), .second, .val (.long y), .second, .val (.long t), .second, .val (.int (3 : Int32))] [(.long x)])
  refine own_st (fun _ kt => XS.lloadN X0.here hx rfl (hb hby own_d14_21) rfl  kt) ?_
  show own_Rch p e below _ s₁ (mkF m 22 #[.val (.long x), .second, .val (.long y), .second, .val (.long t), .second, .val (.int (3 : Int32))] [(.long y), (.long x)])
  refine own_st (fun _ kt => XS.lload X0.here hx rfl (hb hby own_d14_22) rfl  kt) ?_
  show own_Rch p e below _ s₁ (mkF m 24 #[.val (.long x), .second, .val (.long y), .second, .val (.long t), .second, .val (.int (3 : Int32))] [(.long t), (.long y), (.long x)])
  obtain ⟨_, _, ⟨T1, L1, k1, n1⟩, -, X1, ⟨Lc1, hQ1, l1, y1, z1⟩, st1⟩ := Jvm.LawKit.callS X0 hx (y := (⟨"java/lang/Math", "min", "(JJ)J"⟩ : MethodName)) hown (mvT hZ (hw _ (List.mem_of_getElem? (i := 58) rfl))) (mvT hZ (hw _ (List.mem_of_getElem? (i := 59) rfl))) (mvT hZ (hw _ (List.mem_of_getElem? (i := 51) rfl))) (mvT hZ (hw _ (List.mem_of_getElem? (i := 60) rfl))) (by decide) (backOf (W := 2) (own_lmin l Z a0 hw [] y t h0 n0 O0 ) hZ (hw _ (List.mem_of_getElem? (i := 60) rfl)) (hw _ (List.mem_of_getElem? (i := 51) rfl)) (by decide) (by decide)) (g := (mkF m 24 #[.val (.long x), .second, .val (.long y), .second, .val (.long t), .second, .val (.int (3 : Int32))] [(.long t), (.long y), (.long x)])) rfl (by rw [hml]; rfl) (argsL := [(.long y), (.long t)]) (rest := [(.long x)]) (lenOf own_pd0 rfl) rfl (by show 2 * 0 + _ ≤ _; exact Nat.le_of_eq rfl) (hb hby own_d14_24) (fun _ _ => ⟨rfl, e0, (by decide : 0 + 0 ≤ _), (by decide : 0 + 0 ≤ _)⟩)
  dsimp only [Pt.U, Pt.locs, Pt.cells, Pt.slots] at X1 l1 y1 z1 st1 hQ1
  subst l1 y1 z1
  obtain ⟨rfl, N1q, hh1⟩ := hQ1
  have N1 := Fr.app N0 N1q
  refine own_st st1 ?_
  show own_Rch p e below _ T1 (mkF m 27 #[.val (.long x), .second, .val (.long y), .second, .val (.long t), .second, .val (.int (3 : Int32))] [(.long (own_minL y t)), (.long x)])
  obtain ⟨_, _, ⟨T2, L2, k2, n2⟩, -, X2, ⟨Lc2, hQ2, l2, y2, z2⟩, st2⟩ := Jvm.LawKit.callS X1 hx (y := (⟨"java/lang/Math", "min", "(JJ)J"⟩ : MethodName)) hown (mvT hZ (hw _ (List.mem_of_getElem? (i := 58) rfl))) (mvT hZ (hw _ (List.mem_of_getElem? (i := 59) rfl))) (mvT hZ (hw _ (List.mem_of_getElem? (i := 51) rfl))) (mvT hZ (hw _ (List.mem_of_getElem? (i := 60) rfl))) (by decide) (backOf (W := 0) (own_lmin l Z a0 hw [] x (own_minL y t) h0 n0 O0 ) hZ (hw _ (List.mem_of_getElem? (i := 60) rfl)) (hw _ (List.mem_of_getElem? (i := 51) rfl)) (by decide) (by decide)) (g := (mkF m 27 #[.val (.long x), .second, .val (.long y), .second, .val (.long t), .second, .val (.int (3 : Int32))] [(.long (own_minL y t)), (.long x)])) rfl (by rw [hml]; rfl) (argsL := [(.long x), (.long (own_minL y t))]) (rest := []) (lenOf own_pd0 rfl) rfl (by show 2 * 0 + _ ≤ _; exact Nat.le_of_eq rfl) (hb hby own_d14_27) (fun _ _ => ⟨rfl, hh1, (by decide : 0 + 0 ≤ _), (by decide : 0 + 0 ≤ _)⟩)
  dsimp only [Pt.U, Pt.locs, Pt.cells, Pt.slots] at X2 l2 y2 z2 st2 hQ2
  subst l2 y2 z2
  obtain ⟨rfl, N2q, hh2⟩ := hQ2
  have N2 := Fr.app N1 N2q
  refine own_st st2 ?_
  show own_Rch p e below _ T2 (mkF m 30 #[.val (.long x), .second, .val (.long y), .second, .val (.long t), .second, .val (.int (3 : Int32))] [(.long (own_minL x (own_minL y t)))])
  refine own_retL X2 hx Bd.notSynchronized Bd.returns (hb hby own_d14_30) (by decide) (by decide) ?_
  rw [hh2]
  exact ⟨rfl, N2, rfl⟩
theorem own_pn1 : plainName "com/example/respite/respite/cli/Latencies" = true := by first | (simp [plainName, overriddenIn]; done) | decide +kernel
theorem own_ef1 (m : MethodId) (x0 : Addr) : entryFrame m #[(.ref x0)] 1 = mkF m 0 #[.val (.ref x0)] [] := by first | (simp [entryFrame, mkF, argsToLocals, Value.category]; done) | rfl
theorem own_d1_0 : decode prog_8_method_1_code 0 = .ok (.aload_n 0, 1) := by decide +kernel
theorem own_d1_1 : decode prog_8_method_1_code 1 = .ok (.invokespecial 1, 3) := by decide +kernel
theorem own_d1_4 : decode prog_8_method_1_code 4 = .ok (.aload_n 0, 1) := by decide +kernel
theorem own_d1_5 : decode prog_8_method_1_code 5 = .ok (.sipush 1024, 3) := by decide +kernel
theorem own_d1_8 : decode prog_8_method_1_code 8 = .ok (.newarray .long, 2) := by decide +kernel
theorem own_d1_10 : decode prog_8_method_1_code 10 = .ok (.putfield 7, 3) := by decide +kernel
theorem own_d1_13 : decode prog_8_method_1_code 13 = .ok (.aload_n 0, 1) := by decide +kernel
theorem own_d1_14 : decode prog_8_method_1_code 14 = .ok (.iconst 1, 1) := by decide +kernel
theorem own_d1_15 : decode prog_8_method_1_code 15 = .ok (.putfield 13, 3) := by decide +kernel
theorem own_d1_18 : decode prog_8_method_1_code 18 = .ok (.return_, 1) := by decide +kernel
def own_Q_own_init (Z : State) (a : Addr) (h0 : Heap) (n0 : Nat) (v : Option Value) (h : Heap) (L : List Loc) : Prop := ∃ (b : Addr) (k : ClassId), v = none ∧ Fr n0 L ∧ Keep h0 h [a] ∧ h0.size ≤ b ∧ Exa Z h a "com/example/respite/respite/cli/Latencies" ∧ Fld Z h a "com/example/respite/respite/cli/Latencies" "nanos" "[J" (.ref b) ∧ Fld Z h a "com/example/respite/respite/cli/Latencies" "count" "I" (.int (0 : Int32)) ∧ Fld Z h a "com/example/respite/respite/cli/Latencies" "sorted" "Z" (.int (1 : Int32)) ∧ Arv Z h b k .long (1024 : Int32) [(.long (0 : Int64)), (.long (0 : Int64)), (.long (0 : Int64)), (.long (0 : Int64))] (.long (0 : Int64))
set_option maxRecDepth 65536 in
set_option maxHeartbeats 40000000 in
theorem own_init (l : Launch) (Z : State) (a0 : Array Value) (hw : ∀ d ∈ tables_1, d.before a0 Z = true) (ws : List Jvm.Cond) (a : Addr) (h0 : Heap) (n0 : Nat) (O0 : Old Z n0 h0) (EA : Exa Z h0 a "com/example/respite/respite/cli/Latencies") (F1 : Fld Z h0 a "com/example/respite/respite/cli/Latencies" "nanos" "[J" .null) (F2 : Fld Z h0 a "com/example/respite/respite/cli/Latencies" "count" "I" (.int (0 : Int32))) (F3 : Fld Z h0 a "com/example/respite/respite/cli/Latencies" "sorted" "Z" (.int (0 : Int32))) (ga : n0 ≤ a) :
    MetFree l (⟨"com/example/respite/respite/cli/Latencies", "<init>", "()V"⟩ : MethodName) (head1 (Jvm.Cond.code (⟨"com/example/respite/respite/cli/Latencies", "<init>", "()V"⟩ : MethodName) prog_8_method_1_code 1 none :: ws) ({ frames := 1, cells := 1, slots := 1024, locals := 12 } : Room)) (fun args_ U => args_ = #[(.ref a)] ∧ Z.Warmed39 U.vm ∧ U.heap = h0) (fun _ _ _ _ _ => True) (fun _ U o U' => ∃ v L, o = .returned v ∧ (own_Q_own_init Z a h0 n0) v U'.heap L ∧ FrameEnd U o U' L ({ frames := 1, cells := 1, slots := 1024, locals := 12 } : Room).cells ({ frames := 1, cells := 1, slots := 1024, locals := 12 } : Room).slots) := by
  refine MetFree.of_bodySF (plainFor_of_name own_pn1) hisR ?_
  intro p e s m args below meth c s₁ Bd hml0 hP hK
  obtain ⟨rfl, hZ, hh⟩ := hP
  have hx := Bd.exec
  have hby := Bd.bytes
  have hml : c.maxLocals = 1 := hml0
  have hown : s.vm.findClass "com/example/respite/respite/cli/Latencies" = some m.cls := findClass_of_methodNamed Bd.named
  have hnm := (name_of_methodNamed Bd.named Bd.method).1
  have X0 : Stand p l e ({ frames := 1, cells := 1, slots := 1024, locals := 12 } : Room) s m #[(.ref a)] below meth c s₁ [] 0 0 := Stand.of_body Bd
  have e0 : s₁.heap = h0 := by rw [← hh, Bd.state]; rfl
  have N0 := Fr.nil n0
  refine own_close (s := s) (Q := (own_Q_own_init Z a h0 n0)) (C := (({ frames := 1, cells := 1, slots := 1024, locals := 12 } : Room)).cells) (N := (({ frames := 1, cells := 1, slots := 1024, locals := 12 } : Room)).slots) (own_st (fun _ kt => castTop (own_ef1 m a) kt) ?_)
  have K0 := Keep.refl h0 [a]
  show own_Rch p e below _ s₁ (mkF m 0 #[.val (.ref a)] [])
  refine own_st (fun _ kt => XS.aloadN X0.here hx rfl (hb hby own_d1_0) rfl rfl  kt) ?_
  show own_Rch p e below _ s₁ (mkF m 1 #[.val (.ref a)] [(.ref a)])
  obtain ⟨T1, X1, e1, st1⟩ := initO X0 hx hZ hown (hw _ (List.mem_of_getElem? (i := 6) rfl)) (hw _ (List.mem_of_getElem? (i := 7) rfl)) (hw _ (List.mem_of_getElem? (i := 8) rfl)) e0 (g := (mkF m 1 #[.val (.ref a)] [(.ref a)])) rfl (by rw [hml]; rfl) rfl (hb hby own_d1_1) (by decide) (W := 0) (by show 2 * 0 + _ ≤ _; exact Nat.le_of_eq rfl) (by decide)
  refine own_st st1 ?_
  show own_Rch p e below _ T1 (mkF m 4 #[.val (.ref a)] [])
  refine own_st (fun _ kt => XS.aloadN X1.here hx rfl (hb hby own_d1_4) rfl rfl  kt) ?_
  show own_Rch p e below _ T1 (mkF m 5 #[.val (.ref a)] [(.ref a)])
  refine own_st (fun _ kt => XS.sipush X1.here hx rfl (hb hby own_d1_5) kt) ?_
  show own_Rch p e below _ T1 (mkF m 8 #[.val (.ref a)] [(.int (1024 : Int32)), (.ref a)])
  obtain ⟨T2, h2, k2, X2, e2, E2, A2, st2⟩ := newP X1 hx hZ (hw _ (List.mem_of_getElem? (i := 9) rfl)) e1 (g := (mkF m 8 #[.val (.ref a)] [(.int (1024 : Int32)), (.ref a)])) rfl (hb hby own_d1_8) rfl (by decide) (cap := 1024) (by decide) (by decide) (by decide) (by decide)
  obtain ⟨b2, g2⟩ : ∃ z, z = h0.size := ⟨_, rfl⟩
  rw [← g2] at A2 st2
  have ge2 : n0 ≤ b2 := by rw [g2]; exact own_old_le O0
  have ne2_a : a ≠ b2 := by rw [g2]; exact Nat.ne_of_lt EA.lt
  have sz2 : h0.size ≤ b2 := by rw [g2]; exact K0.1
  have O0_x2 := O0.ext E2
  have EA_x2 := EA.ext E2
  have F1_x2 := F1.ext E2
  have F2_x2 := F2.ext E2
  have F3_x2 := F3.ext E2
  have K0_x2 := K0.ext E2
  refine own_st st2 ?_
  have V2 := Arv.new A2 (by decide)
  have V2p : Arv Z h2 b2 k2 .long (1024 : Int32) [(.long (0 : Int64)), (.long (0 : Int64)), (.long (0 : Int64)), (.long (0 : Int64))] (.long (0 : Int64)) := V2.pad (pad_rep [] (.long (0 : Int64)) 4)
  show own_Rch p e below _ T2 (mkF m 10 #[.val (.ref a)] [(.ref b2), (.ref a)])
  obtain ⟨T3, h3, X3, e3, W3, st3⟩ := putF X2 hx hZ hown (host := "") (Or.inl (hw _ (List.mem_of_getElem? (i := 10) rfl))) Via.refl e2 F1_x2 EA_x2 (Or.inl (hw _ (List.mem_of_getElem? (i := 11) rfl))) (hw _ (List.mem_of_getElem? (i := 1) rfl)) (ty := (.array .long)) (by decide) rfl rfl (g := (mkF m 10 #[.val (.ref a)] [(.ref b2), (.ref a)])) rfl rfl (hb hby own_d1_10)
  refine own_st st3 ?_
  have Fw3 := F1_x2.same W3
  have N3 := Fr.snoc X3 N0 ga
  have O0_x3 := O0_x2.wr W3 ga
  have EA_x3 := EA_x2.wr W3
  have F2_x3 := F2_x2.other W3 (Or.inr (slot_ne (Or.inl (hw _ (List.mem_of_getElem? (i := 20) rfl))) (Or.inl (hw _ (List.mem_of_getElem? (i := 11) rfl))) (by decide) (t := .int) (t' := (.array .long)) (by decide) (by decide)))
  have F3_x3 := F3_x2.other W3 (Or.inr (slot_ne (Or.inl (hw _ (List.mem_of_getElem? (i := 13) rfl))) (Or.inl (hw _ (List.mem_of_getElem? (i := 11) rfl))) (by decide) (t := .boolean) (t' := (.array .long)) (by decide) (by decide)))
  have K0_x3 := K0_x2.wr W3 (Or.inl (List.mem_of_getElem? (i := 0) rfl))
  have V2p_x3 := V2p.other W3 (Ne.symm ne2_a)
  show own_Rch p e below _ T3 (mkF m 13 #[.val (.ref a)] [])
  refine own_st (fun _ kt => XS.aloadN X3.here hx rfl (hb hby own_d1_13) rfl rfl  kt) ?_
  show own_Rch p e below _ T3 (mkF m 14 #[.val (.ref a)] [(.ref a)])
  refine own_st (fun _ kt => XS.iconst X3.here hx rfl (hb hby own_d1_14) kt) ?_
  show own_Rch p e below _ T3 (mkF m 15 #[.val (.ref a)] [(.int (1 : Int32)), (.ref a)])
  obtain ⟨T4, h4, X4, e4, W4, st4⟩ := putFN X3 hx hZ hown (hw _ (List.mem_of_getElem? (i := 12) rfl)) Via.refl e3 F3_x3 EA_x3 (Or.inl (hw _ (List.mem_of_getElem? (i := 13) rfl))) (hw _ (List.mem_of_getElem? (i := 1) rfl)) (ty := .boolean) (v' := (.int (1 : Int32))) (by decide) rfl (by decide) (g := (mkF m 15 #[.val (.ref a)] [(.int (1 : Int32)), (.ref a)])) rfl rfl (hb hby own_d1_15)
  refine own_st st4 ?_
  have Fw4 := F3_x3.same W4
  have N4 := Fr.snoc X4 N3 ga
  have O0_x4 := O0_x3.wr W4 ga
  have EA_x4 := EA_x3.wr W4
  have Fw3_x4 := Fw3.other W4 (Or.inr (slot_ne (Or.inl (hw _ (List.mem_of_getElem? (i := 11) rfl))) (Or.inl (hw _ (List.mem_of_getElem? (i := 13) rfl))) (by decide) (t := (.array .long)) (t' := .boolean) (by decide) (by decide)))
  have F2_x4 := F2_x3.other W4 (Or.inr (slot_ne (Or.inl (hw _ (List.mem_of_getElem? (i := 20) rfl))) (Or.inl (hw _ (List.mem_of_getElem? (i := 13) rfl))) (by decide) (t := .int) (t' := .boolean) (by decide) (by decide)))
  have K0_x4 := K0_x3.wr W4 (Or.inl (List.mem_of_getElem? (i := 0) rfl))
  have V2p_x4 := V2p_x3.other W4 (Ne.symm ne2_a)
  show own_Rch p e below _ T4 (mkF m 18 #[.val (.ref a)] [])
  refine own_retV X4 hx Bd.notSynchronized Bd.returns (hb hby own_d1_18) (by decide) (by decide) ?_
  rw [e4]
  exact ⟨_, _, rfl, N4, K0_x4, sz2, EA_x4, Fw3_x4, F2_x4, Fw4, V2p_x4⟩
theorem own_ef3 (m : MethodId) (x0 : Addr) (x1 : Int64) : entryFrame m #[(.ref x0), (.long x1)] 3 = mkF m 0 #[.val (.ref x0), .val (.long x1), .second] [] := by first | (simp [entryFrame, mkF, argsToLocals, Value.category]; done) | rfl
theorem own_d3_0 : decode prog_8_method_2_code 0 = .ok (.aload_n 0, 1) := by decide +kernel
theorem own_d3_1 : decode prog_8_method_2_code 1 = .ok (.getfield 17, 3) := by decide +kernel
theorem own_d3_4 : decode prog_8_method_2_code 4 = .ok (.aload_n 0, 1) := by decide +kernel
theorem own_d3_5 : decode prog_8_method_2_code 5 = .ok (.getfield 7, 3) := by decide +kernel
theorem own_d3_8 : decode prog_8_method_2_code 8 = .ok (.arraylength, 1) := by decide +kernel
theorem own_d3_9 : decode prog_8_method_2_code 9 = .ok (.if_icmp .ne 20, 3) := by decide +kernel
theorem own_d3_29 : decode prog_8_method_2_code 29 = .ok (.aload_n 0, 1) := by decide +kernel
theorem own_d3_30 : decode prog_8_method_2_code 30 = .ok (.getfield 7, 3) := by decide +kernel
theorem own_d3_33 : decode prog_8_method_2_code 33 = .ok (.aload_n 0, 1) := by decide +kernel
theorem own_d3_34 : decode prog_8_method_2_code 34 = .ok (.dup, 1) := by decide +kernel
theorem own_d3_35 : decode prog_8_method_2_code 35 = .ok (.getfield 17, 3) := by decide +kernel
theorem own_d3_38 : decode prog_8_method_2_code 38 = .ok (.dup_x1, 1) := by decide +kernel
theorem own_d3_39 : decode prog_8_method_2_code 39 = .ok (.iconst 1, 1) := by decide +kernel
theorem own_d3_40 : decode prog_8_method_2_code 40 = .ok (.iadd, 1) := by decide +kernel
theorem own_d3_41 : decode prog_8_method_2_code 41 = .ok (.putfield 17, 3) := by decide +kernel
theorem own_d3_44 : decode prog_8_method_2_code 44 = .ok (.lload_n 1, 1) := by decide +kernel
theorem own_d3_45 : decode prog_8_method_2_code 45 = .ok (.lastore, 1) := by decide +kernel
theorem own_d3_46 : decode prog_8_method_2_code 46 = .ok (.aload_n 0, 1) := by decide +kernel
theorem own_d3_47 : decode prog_8_method_2_code 47 = .ok (.iconst 0, 1) := by decide +kernel
theorem own_d3_48 : decode prog_8_method_2_code 48 = .ok (.putfield 13, 3) := by decide +kernel
theorem own_d3_51 : decode prog_8_method_2_code 51 = .ok (.return_, 1) := by decide +kernel
def own_Q_own_add0 (Z : State) (a : Addr) (b : Addr) (k : ClassId) (q : Int64) (y0 : Int64) (y1 : Int64) (y2 : Int64) (y3 : Int64) (t : Int32) (h0 : Heap) (n0 : Nat) (v : Option Value) (h : Heap) (L : List Loc) : Prop := v = none ∧ Fr n0 L ∧ Keep h0 h [a, b] ∧ Exa Z h a "com/example/respite/respite/cli/Latencies" ∧ Fld Z h a "com/example/respite/respite/cli/Latencies" "nanos" "[J" (.ref b) ∧ Fld Z h a "com/example/respite/respite/cli/Latencies" "count" "I" (.int (1 : Int32)) ∧ Fld Z h a "com/example/respite/respite/cli/Latencies" "sorted" "Z" (.int (0 : Int32)) ∧ Arv Z h b k .long (1024 : Int32) [(.long q), (.long y1), (.long y2), (.long y3)] (.long (0 : Int64))
set_option maxRecDepth 65536 in
set_option maxHeartbeats 40000000 in
theorem own_add0 (l : Launch) (Z : State) (a0 : Array Value) (hw : ∀ d ∈ tables_1, d.before a0 Z = true) (ws : List Jvm.Cond) (a : Addr) (b : Addr) (k : ClassId) (q : Int64) (y0 : Int64) (y1 : Int64) (y2 : Int64) (y3 : Int64) (t : Int32) (h0 : Heap) (n0 : Nat) (O0 : Old Z n0 h0) (EA : Exa Z h0 a "com/example/respite/respite/cli/Latencies") (F1 : Fld Z h0 a "com/example/respite/respite/cli/Latencies" "nanos" "[J" (.ref b)) (F2 : Fld Z h0 a "com/example/respite/respite/cli/Latencies" "count" "I" (.int (0 : Int32))) (F3 : Fld Z h0 a "com/example/respite/respite/cli/Latencies" "sorted" "Z" (.int t)) (VB : Arv Z h0 b k .long (1024 : Int32) [(.long y0), (.long y1), (.long y2), (.long y3)] (.long (0 : Int64))) (ga : n0 ≤ a) (gb : n0 ≤ b) (hab : a ≠ b) :
    MetFree l (⟨"com/example/respite/respite/cli/Latencies", "add", "(J)V"⟩ : MethodName) (head1 (Jvm.Cond.code (⟨"com/example/respite/respite/cli/Latencies", "add", "(J)V"⟩ : MethodName) prog_8_method_2_code 3 none :: ws) ({ frames := 0, cells := 0, slots := 0, locals := 0 } : Room)) (fun args_ U => args_ = #[(.ref a), (.long q)] ∧ Z.Warmed39 U.vm ∧ U.heap = h0) (fun _ _ _ _ _ => True) (fun _ U o U' => ∃ v L, o = .returned v ∧ (own_Q_own_add0 Z a b k q y0 y1 y2 y3 t h0 n0) v U'.heap L ∧ FrameEnd U o U' L ({ frames := 0, cells := 0, slots := 0, locals := 0 } : Room).cells ({ frames := 0, cells := 0, slots := 0, locals := 0 } : Room).slots) := by
  refine MetFree.of_bodySF (plainFor_of_name own_pn1) hisR ?_
  intro p e s m args below meth c s₁ Bd hml0 hP hK
  obtain ⟨rfl, hZ, hh⟩ := hP
  have hx := Bd.exec
  have hby := Bd.bytes
  have hml : c.maxLocals = 3 := hml0
  have hown : s.vm.findClass "com/example/respite/respite/cli/Latencies" = some m.cls := findClass_of_methodNamed Bd.named
  have hnm := (name_of_methodNamed Bd.named Bd.method).1
  have X0 : Stand p l e ({ frames := 0, cells := 0, slots := 0, locals := 0 } : Room) s m #[(.ref a), (.long q)] below meth c s₁ [] 0 0 := Stand.of_body Bd
  have e0 : s₁.heap = h0 := by rw [← hh, Bd.state]; rfl
  have N0 := Fr.nil n0
  refine own_close (s := s) (Q := (own_Q_own_add0 Z a b k q y0 y1 y2 y3 t h0 n0)) (C := (({ frames := 0, cells := 0, slots := 0, locals := 0 } : Room)).cells) (N := (({ frames := 0, cells := 0, slots := 0, locals := 0 } : Room)).slots) (own_st (fun _ kt => castTop (own_ef3 m a q) kt) ?_)
  have K0 := Keep.refl h0 [a, b]
  show own_Rch p e below _ s₁ (mkF m 0 #[.val (.ref a), .val (.long q), .second] [])
  refine own_st (fun _ kt => XS.aloadN X0.here hx rfl (hb hby own_d3_0) rfl rfl  kt) ?_
  show own_Rch p e below _ s₁ (mkF m 1 #[.val (.ref a), .val (.long q), .second] [(.ref a)])
  obtain ⟨T1, X1, e1, st1⟩ := getF X0 hx hZ hown (host := "") (Or.inl (hw _ (List.mem_of_getElem? (i := 19) rfl))) Via.refl e0 F2 (g := (mkF m 1 #[.val (.ref a), .val (.long q), .second] [(.ref a)])) rfl rfl (hb hby own_d3_1)
  refine own_st st1 ?_
  show own_Rch p e below _ T1 (mkF m 4 #[.val (.ref a), .val (.long q), .second] [(.int (0 : Int32))])
  refine own_st (fun _ kt => XS.aloadN X1.here hx rfl (hb hby own_d3_4) rfl rfl  kt) ?_
  show own_Rch p e below _ T1 (mkF m 5 #[.val (.ref a), .val (.long q), .second] [(.ref a), (.int (0 : Int32))])
  obtain ⟨T2, X2, e2, st2⟩ := getF X1 hx hZ hown (host := "") (Or.inl (hw _ (List.mem_of_getElem? (i := 10) rfl))) Via.refl e1 F1 (g := (mkF m 5 #[.val (.ref a), .val (.long q), .second] [(.ref a), (.int (0 : Int32))])) rfl rfl (hb hby own_d3_5)
  refine own_st st2 ?_
  show own_Rch p e below _ T2 (mkF m 8 #[.val (.ref a), .val (.long q), .second] [(.ref b), (.int (0 : Int32))])
  obtain ⟨cl3, Ar3, -, S3, M3, -, -⟩ := id VB
  refine own_st (X2.arraylength hx (by rw [e2]; exact Ar3.1) (State.isArrayOf_alike (hZ).alike Ar3.2.1) (g := (mkF m 8 #[.val (.ref a), .val (.long q), .second] [(.ref b), (.int (0 : Int32))])) rfl rfl (hb hby own_d3_8)) ?_
  rw [len_of S3 M3]
  show own_Rch p e below _ T2 (mkF m 9 #[.val (.ref a), .val (.long q), .second] [(.int (1024 : Int32)), (.int (0 : Int32))])
  refine own_st (fun _ kt => XS.icmpYes X2.here hx rfl (pc0 := 9) (pc' := 29) rfl (hb hby own_d3_9) rfl (feq ((by decide) : ¬ ((0 : Int32) = (1024 : Int32)))).2 (by decide) (by decide) kt) ?_
  show own_Rch p e below _ T2 (mkF m 29 #[.val (.ref a), .val (.long q), .second] [])
  refine own_st (fun _ kt => XS.aloadN X2.here hx rfl (hb hby own_d3_29) rfl rfl  kt) ?_
  show own_Rch p e below _ T2 (mkF m 30 #[.val (.ref a), .val (.long q), .second] [(.ref a)])
  obtain ⟨T4, X4, e4, st4⟩ := getF X2 hx hZ hown (host := "") (Or.inl (hw _ (List.mem_of_getElem? (i := 10) rfl))) Via.refl e2 F1 (g := (mkF m 30 #[.val (.ref a), .val (.long q), .second] [(.ref a)])) rfl rfl (hb hby own_d3_30)
  refine own_st st4 ?_
  show own_Rch p e below _ T4 (mkF m 33 #[.val (.ref a), .val (.long q), .second] [(.ref b)])
  refine own_st (fun _ kt => XS.aloadN X4.here hx rfl (hb hby own_d3_33) rfl rfl  kt) ?_
  show own_Rch p e below _ T4 (mkF m 34 #[.val (.ref a), .val (.long q), .second] [(.ref a), (.ref b)])
  refine own_st (fun _ kt => XS.dup X4.here hx rfl (hb hby own_d3_34) rfl rfl kt) ?_
  show own_Rch p e below _ T4 (mkF m 35 #[.val (.ref a), .val (.long q), .second] [(.ref a), (.ref a), (.ref b)])
  obtain ⟨T5, X5, e5, st5⟩ := getF X4 hx hZ hown (host := "") (Or.inl (hw _ (List.mem_of_getElem? (i := 19) rfl))) Via.refl e4 F2 (g := (mkF m 35 #[.val (.ref a), .val (.long q), .second] [(.ref a), (.ref a), (.ref b)])) rfl rfl (hb hby own_d3_35)
  refine own_st st5 ?_
  show own_Rch p e below _ T5 (mkF m 38 #[.val (.ref a), .val (.long q), .second] [(.int (0 : Int32)), (.ref a), (.ref b)])
  refine own_st (fun _ kt => XS.dupX1 X5.here hx rfl (hb hby own_d3_38) rfl rfl rfl kt) ?_
  show own_Rch p e below _ T5 (mkF m 39 #[.val (.ref a), .val (.long q), .second] [(.int (0 : Int32)), (.ref a), (.int (0 : Int32)), (.ref b)])
  refine own_st (fun _ kt => XS.iconst X5.here hx rfl (hb hby own_d3_39) kt) ?_
  show own_Rch p e below _ T5 (mkF m 40 #[.val (.ref a), .val (.long q), .second] [(.int (1 : Int32)), (.int (0 : Int32)), (.ref a), (.int (0 : Int32)), (.ref b)])
  refine own_st (fun _ kt => XS.iadd X5.here hx rfl (hb hby own_d3_40) rfl kt) ?_
  show own_Rch p e below _ T5 (mkF m 41 #[.val (.ref a), .val (.long q), .second] [(.int (1 : Int32)), (.ref a), (.int (0 : Int32)), (.ref b)])
  obtain ⟨T6, h6, X6, e6, W6, st6⟩ := putF X5 hx hZ hown (host := "") (Or.inl (hw _ (List.mem_of_getElem? (i := 19) rfl))) Via.refl e5 F2 EA (Or.inl (hw _ (List.mem_of_getElem? (i := 20) rfl))) (hw _ (List.mem_of_getElem? (i := 1) rfl)) (ty := .int) (by decide) rfl rfl (g := (mkF m 41 #[.val (.ref a), .val (.long q), .second] [(.int (1 : Int32)), (.ref a), (.int (0 : Int32)), (.ref b)])) rfl rfl (hb hby own_d3_41)
  refine own_st st6 ?_
  have Fw6 := F2.same W6
  have N6 := Fr.snoc X6 N0 ga
  have O0_x6 := O0.wr W6 ga
  have EA_x6 := EA.wr W6
  have F1_x6 := F1.other W6 (Or.inr (slot_ne (Or.inl (hw _ (List.mem_of_getElem? (i := 11) rfl))) (Or.inl (hw _ (List.mem_of_getElem? (i := 20) rfl))) (by decide) (t := (.array .long)) (t' := .int) (by decide) (by decide)))
  have F3_x6 := F3.other W6 (Or.inr (slot_ne (Or.inl (hw _ (List.mem_of_getElem? (i := 13) rfl))) (Or.inl (hw _ (List.mem_of_getElem? (i := 20) rfl))) (by decide) (t := .boolean) (t' := .int) (by decide) (by decide)))
  have VB_x6 := VB.other W6 (Ne.symm hab)
  have K0_x6 := K0.wr W6 (Or.inl (List.mem_of_getElem? (i := 0) rfl))
  show own_Rch p e below _ T6 (mkF m 44 #[.val (.ref a), .val (.long q), .second] [(.int (0 : Int32)), (.ref b)])
  refine own_st (fun _ kt => XS.lloadN X6.here hx rfl (hb hby own_d3_44) rfl  kt) ?_
  show own_Rch p e below _ T6 (mkF m 45 #[.val (.ref a), .val (.long q), .second] [(.long q), (.int (0 : Int32)), (.ref b)])
  obtain ⟨cl7, Ar7, q7, S7, M7, H7, G7⟩ := id VB_x6
  have hin7 : ¬ ((0 : Int32) < 0 ∨ cl7.slots.size ≤ ((0 : Int32)).toNatClampNeg) := inb_of S7 ⟨by decide, by decide⟩
  obtain ⟨T7, h7, X7, e7, W7, st7⟩ := stJ X6 hx hZ e6 Ar7 (j := (0 : Int32)) hin7 (g := (mkF m 45 #[.val (.ref a), .val (.long q), .second] [(.long q), (.int (0 : Int32)), (.ref b)])) rfl rfl (hb hby own_d3_45)
  have V7 := Arv.set Ar7 q7 S7 M7 H7 G7 rfl W7 0 rfl (Nat.le_of_ble_eq_true rfl)
  have V7s : Arv Z h7 b k .long (1024 : Int32) [(.long q), (.long y1), (.long y2), (.long y3)] (.long (0 : Int64)) := V7
  have N7 := Fr.snoc X7 N6 gb
  refine own_st st7 ?_
  have O0_x7 := O0_x6.wr W7 gb
  have EA_x7 := EA_x6.wr W7
  have F1_x7 := F1_x6.other W7 (Or.inl hab)
  have Fw6_x7 := Fw6.other W7 (Or.inl hab)
  have F3_x7 := F3_x6.other W7 (Or.inl hab)
  have K0_x7 := K0_x6.wr W7 (Or.inl (List.mem_of_getElem? (i := 1) rfl))
  show own_Rch p e below _ T7 (mkF m 46 #[.val (.ref a), .val (.long q), .second] [])
  refine own_st (fun _ kt => XS.aloadN X7.here hx rfl (hb hby own_d3_46) rfl rfl  kt) ?_
  show own_Rch p e below _ T7 (mkF m 47 #[.val (.ref a), .val (.long q), .second] [(.ref a)])
  refine own_st (fun _ kt => XS.iconst X7.here hx rfl (hb hby own_d3_47) kt) ?_
  show own_Rch p e below _ T7 (mkF m 48 #[.val (.ref a), .val (.long q), .second] [(.int (0 : Int32)), (.ref a)])
  obtain ⟨T8, h8, X8, e8, W8, st8⟩ := putFN X7 hx hZ hown (hw _ (List.mem_of_getElem? (i := 12) rfl)) Via.refl e7 F3_x7 EA_x7 (Or.inl (hw _ (List.mem_of_getElem? (i := 13) rfl))) (hw _ (List.mem_of_getElem? (i := 1) rfl)) (ty := .boolean) (v' := (.int (0 : Int32))) (by decide) rfl (by decide) (g := (mkF m 48 #[.val (.ref a), .val (.long q), .second] [(.int (0 : Int32)), (.ref a)])) rfl rfl (hb hby own_d3_48)
  refine own_st st8 ?_
  have Fw8 := F3_x7.same W8
  have N8 := Fr.snoc X8 N7 ga
  have O0_x8 := O0_x7.wr W8 ga
  have EA_x8 := EA_x7.wr W8
  have F1_x8 := F1_x7.other W8 (Or.inr (slot_ne (Or.inl (hw _ (List.mem_of_getElem? (i := 11) rfl))) (Or.inl (hw _ (List.mem_of_getElem? (i := 13) rfl))) (by decide) (t := (.array .long)) (t' := .boolean) (by decide) (by decide)))
  have Fw6_x8 := Fw6_x7.other W8 (Or.inr (slot_ne (Or.inl (hw _ (List.mem_of_getElem? (i := 20) rfl))) (Or.inl (hw _ (List.mem_of_getElem? (i := 13) rfl))) (by decide) (t := .int) (t' := .boolean) (by decide) (by decide)))
  have V7s_x8 := V7s.other W8 (Ne.symm hab)
  have K0_x8 := K0_x7.wr W8 (Or.inl (List.mem_of_getElem? (i := 0) rfl))
  show own_Rch p e below _ T8 (mkF m 51 #[.val (.ref a), .val (.long q), .second] [])
  refine own_retV X8 hx Bd.notSynchronized Bd.returns (hb hby own_d3_51) (by decide) (by decide) ?_
  rw [e8]
  exact ⟨rfl, N8, K0_x8, EA_x8, F1_x8, Fw6_x8, Fw8, V7s_x8⟩
def own_Q_own_add1 (Z : State) (a : Addr) (b : Addr) (k : ClassId) (q : Int64) (y0 : Int64) (y1 : Int64) (y2 : Int64) (y3 : Int64) (t : Int32) (h0 : Heap) (n0 : Nat) (v : Option Value) (h : Heap) (L : List Loc) : Prop := v = none ∧ Fr n0 L ∧ Keep h0 h [a, b] ∧ Exa Z h a "com/example/respite/respite/cli/Latencies" ∧ Fld Z h a "com/example/respite/respite/cli/Latencies" "nanos" "[J" (.ref b) ∧ Fld Z h a "com/example/respite/respite/cli/Latencies" "count" "I" (.int (2 : Int32)) ∧ Fld Z h a "com/example/respite/respite/cli/Latencies" "sorted" "Z" (.int (0 : Int32)) ∧ Arv Z h b k .long (1024 : Int32) [(.long y0), (.long q), (.long y2), (.long y3)] (.long (0 : Int64))
set_option maxRecDepth 65536 in
set_option maxHeartbeats 40000000 in
theorem own_add1 (l : Launch) (Z : State) (a0 : Array Value) (hw : ∀ d ∈ tables_1, d.before a0 Z = true) (ws : List Jvm.Cond) (a : Addr) (b : Addr) (k : ClassId) (q : Int64) (y0 : Int64) (y1 : Int64) (y2 : Int64) (y3 : Int64) (t : Int32) (h0 : Heap) (n0 : Nat) (O0 : Old Z n0 h0) (EA : Exa Z h0 a "com/example/respite/respite/cli/Latencies") (F1 : Fld Z h0 a "com/example/respite/respite/cli/Latencies" "nanos" "[J" (.ref b)) (F2 : Fld Z h0 a "com/example/respite/respite/cli/Latencies" "count" "I" (.int (1 : Int32))) (F3 : Fld Z h0 a "com/example/respite/respite/cli/Latencies" "sorted" "Z" (.int t)) (VB : Arv Z h0 b k .long (1024 : Int32) [(.long y0), (.long y1), (.long y2), (.long y3)] (.long (0 : Int64))) (ga : n0 ≤ a) (gb : n0 ≤ b) (hab : a ≠ b) :
    MetFree l (⟨"com/example/respite/respite/cli/Latencies", "add", "(J)V"⟩ : MethodName) (head1 (Jvm.Cond.code (⟨"com/example/respite/respite/cli/Latencies", "add", "(J)V"⟩ : MethodName) prog_8_method_2_code 3 none :: ws) ({ frames := 0, cells := 0, slots := 0, locals := 0 } : Room)) (fun args_ U => args_ = #[(.ref a), (.long q)] ∧ Z.Warmed39 U.vm ∧ U.heap = h0) (fun _ _ _ _ _ => True) (fun _ U o U' => ∃ v L, o = .returned v ∧ (own_Q_own_add1 Z a b k q y0 y1 y2 y3 t h0 n0) v U'.heap L ∧ FrameEnd U o U' L ({ frames := 0, cells := 0, slots := 0, locals := 0 } : Room).cells ({ frames := 0, cells := 0, slots := 0, locals := 0 } : Room).slots) := by
  refine MetFree.of_bodySF (plainFor_of_name own_pn1) hisR ?_
  intro p e s m args below meth c s₁ Bd hml0 hP hK
  obtain ⟨rfl, hZ, hh⟩ := hP
  have hx := Bd.exec
  have hby := Bd.bytes
  have hml : c.maxLocals = 3 := hml0
  have hown : s.vm.findClass "com/example/respite/respite/cli/Latencies" = some m.cls := findClass_of_methodNamed Bd.named
  have hnm := (name_of_methodNamed Bd.named Bd.method).1
  have X0 : Stand p l e ({ frames := 0, cells := 0, slots := 0, locals := 0 } : Room) s m #[(.ref a), (.long q)] below meth c s₁ [] 0 0 := Stand.of_body Bd
  have e0 : s₁.heap = h0 := by rw [← hh, Bd.state]; rfl
  have N0 := Fr.nil n0
  refine own_close (s := s) (Q := (own_Q_own_add1 Z a b k q y0 y1 y2 y3 t h0 n0)) (C := (({ frames := 0, cells := 0, slots := 0, locals := 0 } : Room)).cells) (N := (({ frames := 0, cells := 0, slots := 0, locals := 0 } : Room)).slots) (own_st (fun _ kt => castTop (own_ef3 m a q) kt) ?_)
  have K0 := Keep.refl h0 [a, b]
  show own_Rch p e below _ s₁ (mkF m 0 #[.val (.ref a), .val (.long q), .second] [])
  refine own_st (fun _ kt => XS.aloadN X0.here hx rfl (hb hby own_d3_0) rfl rfl  kt) ?_
  show own_Rch p e below _ s₁ (mkF m 1 #[.val (.ref a), .val (.long q), .second] [(.ref a)])
  obtain ⟨T1, X1, e1, st1⟩ := getF X0 hx hZ hown (host := "") (Or.inl (hw _ (List.mem_of_getElem? (i := 19) rfl))) Via.refl e0 F2 (g := (mkF m 1 #[.val (.ref a), .val (.long q), .second] [(.ref a)])) rfl rfl (hb hby own_d3_1)
  refine own_st st1 ?_
  show own_Rch p e below _ T1 (mkF m 4 #[.val (.ref a), .val (.long q), .second] [(.int (1 : Int32))])
  refine own_st (fun _ kt => XS.aloadN X1.here hx rfl (hb hby own_d3_4) rfl rfl  kt) ?_
  show own_Rch p e below _ T1 (mkF m 5 #[.val (.ref a), .val (.long q), .second] [(.ref a), (.int (1 : Int32))])
  obtain ⟨T2, X2, e2, st2⟩ := getF X1 hx hZ hown (host := "") (Or.inl (hw _ (List.mem_of_getElem? (i := 10) rfl))) Via.refl e1 F1 (g := (mkF m 5 #[.val (.ref a), .val (.long q), .second] [(.ref a), (.int (1 : Int32))])) rfl rfl (hb hby own_d3_5)
  refine own_st st2 ?_
  show own_Rch p e below _ T2 (mkF m 8 #[.val (.ref a), .val (.long q), .second] [(.ref b), (.int (1 : Int32))])
  obtain ⟨cl3, Ar3, -, S3, M3, -, -⟩ := id VB
  refine own_st (X2.arraylength hx (by rw [e2]; exact Ar3.1) (State.isArrayOf_alike (hZ).alike Ar3.2.1) (g := (mkF m 8 #[.val (.ref a), .val (.long q), .second] [(.ref b), (.int (1 : Int32))])) rfl rfl (hb hby own_d3_8)) ?_
  rw [len_of S3 M3]
  show own_Rch p e below _ T2 (mkF m 9 #[.val (.ref a), .val (.long q), .second] [(.int (1024 : Int32)), (.int (1 : Int32))])
  refine own_st (fun _ kt => XS.icmpYes X2.here hx rfl (pc0 := 9) (pc' := 29) rfl (hb hby own_d3_9) rfl (feq ((by decide) : ¬ ((1 : Int32) = (1024 : Int32)))).2 (by decide) (by decide) kt) ?_
  show own_Rch p e below _ T2 (mkF m 29 #[.val (.ref a), .val (.long q), .second] [])
  refine own_st (fun _ kt => XS.aloadN X2.here hx rfl (hb hby own_d3_29) rfl rfl  kt) ?_
  show own_Rch p e below _ T2 (mkF m 30 #[.val (.ref a), .val (.long q), .second] [(.ref a)])
  obtain ⟨T4, X4, e4, st4⟩ := getF X2 hx hZ hown (host := "") (Or.inl (hw _ (List.mem_of_getElem? (i := 10) rfl))) Via.refl e2 F1 (g := (mkF m 30 #[.val (.ref a), .val (.long q), .second] [(.ref a)])) rfl rfl (hb hby own_d3_30)
  refine own_st st4 ?_
  show own_Rch p e below _ T4 (mkF m 33 #[.val (.ref a), .val (.long q), .second] [(.ref b)])
  refine own_st (fun _ kt => XS.aloadN X4.here hx rfl (hb hby own_d3_33) rfl rfl  kt) ?_
  show own_Rch p e below _ T4 (mkF m 34 #[.val (.ref a), .val (.long q), .second] [(.ref a), (.ref b)])
  refine own_st (fun _ kt => XS.dup X4.here hx rfl (hb hby own_d3_34) rfl rfl kt) ?_
  show own_Rch p e below _ T4 (mkF m 35 #[.val (.ref a), .val (.long q), .second] [(.ref a), (.ref a), (.ref b)])
  obtain ⟨T5, X5, e5, st5⟩ := getF X4 hx hZ hown (host := "") (Or.inl (hw _ (List.mem_of_getElem? (i := 19) rfl))) Via.refl e4 F2 (g := (mkF m 35 #[.val (.ref a), .val (.long q), .second] [(.ref a), (.ref a), (.ref b)])) rfl rfl (hb hby own_d3_35)
  refine own_st st5 ?_
  show own_Rch p e below _ T5 (mkF m 38 #[.val (.ref a), .val (.long q), .second] [(.int (1 : Int32)), (.ref a), (.ref b)])
  refine own_st (fun _ kt => XS.dupX1 X5.here hx rfl (hb hby own_d3_38) rfl rfl rfl kt) ?_
  show own_Rch p e below _ T5 (mkF m 39 #[.val (.ref a), .val (.long q), .second] [(.int (1 : Int32)), (.ref a), (.int (1 : Int32)), (.ref b)])
  refine own_st (fun _ kt => XS.iconst X5.here hx rfl (hb hby own_d3_39) kt) ?_
  show own_Rch p e below _ T5 (mkF m 40 #[.val (.ref a), .val (.long q), .second] [(.int (1 : Int32)), (.int (1 : Int32)), (.ref a), (.int (1 : Int32)), (.ref b)])
  refine own_st (fun _ kt => XS.iadd X5.here hx rfl (hb hby own_d3_40) rfl kt) ?_
  show own_Rch p e below _ T5 (mkF m 41 #[.val (.ref a), .val (.long q), .second] [(.int (2 : Int32)), (.ref a), (.int (1 : Int32)), (.ref b)])
  obtain ⟨T6, h6, X6, e6, W6, st6⟩ := putF X5 hx hZ hown (host := "") (Or.inl (hw _ (List.mem_of_getElem? (i := 19) rfl))) Via.refl e5 F2 EA (Or.inl (hw _ (List.mem_of_getElem? (i := 20) rfl))) (hw _ (List.mem_of_getElem? (i := 1) rfl)) (ty := .int) (by decide) rfl rfl (g := (mkF m 41 #[.val (.ref a), .val (.long q), .second] [(.int (2 : Int32)), (.ref a), (.int (1 : Int32)), (.ref b)])) rfl rfl (hb hby own_d3_41)
  refine own_st st6 ?_
  have Fw6 := F2.same W6
  have N6 := Fr.snoc X6 N0 ga
  have O0_x6 := O0.wr W6 ga
  have EA_x6 := EA.wr W6
  have F1_x6 := F1.other W6 (Or.inr (slot_ne (Or.inl (hw _ (List.mem_of_getElem? (i := 11) rfl))) (Or.inl (hw _ (List.mem_of_getElem? (i := 20) rfl))) (by decide) (t := (.array .long)) (t' := .int) (by decide) (by decide)))
  have F3_x6 := F3.other W6 (Or.inr (slot_ne (Or.inl (hw _ (List.mem_of_getElem? (i := 13) rfl))) (Or.inl (hw _ (List.mem_of_getElem? (i := 20) rfl))) (by decide) (t := .boolean) (t' := .int) (by decide) (by decide)))
  have VB_x6 := VB.other W6 (Ne.symm hab)
  have K0_x6 := K0.wr W6 (Or.inl (List.mem_of_getElem? (i := 0) rfl))
  show own_Rch p e below _ T6 (mkF m 44 #[.val (.ref a), .val (.long q), .second] [(.int (1 : Int32)), (.ref b)])
  refine own_st (fun _ kt => XS.lloadN X6.here hx rfl (hb hby own_d3_44) rfl  kt) ?_
  show own_Rch p e below _ T6 (mkF m 45 #[.val (.ref a), .val (.long q), .second] [(.long q), (.int (1 : Int32)), (.ref b)])
  obtain ⟨cl7, Ar7, q7, S7, M7, H7, G7⟩ := id VB_x6
  have hin7 : ¬ ((1 : Int32) < 0 ∨ cl7.slots.size ≤ ((1 : Int32)).toNatClampNeg) := inb_of S7 ⟨by decide, by decide⟩
  obtain ⟨T7, h7, X7, e7, W7, st7⟩ := stJ X6 hx hZ e6 Ar7 (j := (1 : Int32)) hin7 (g := (mkF m 45 #[.val (.ref a), .val (.long q), .second] [(.long q), (.int (1 : Int32)), (.ref b)])) rfl rfl (hb hby own_d3_45)
  have V7 := Arv.set Ar7 q7 S7 M7 H7 G7 rfl W7 1 rfl (Nat.le_of_ble_eq_true rfl)
  have V7s : Arv Z h7 b k .long (1024 : Int32) [(.long y0), (.long q), (.long y2), (.long y3)] (.long (0 : Int64)) := V7
  have N7 := Fr.snoc X7 N6 gb
  refine own_st st7 ?_
  have O0_x7 := O0_x6.wr W7 gb
  have EA_x7 := EA_x6.wr W7
  have F1_x7 := F1_x6.other W7 (Or.inl hab)
  have Fw6_x7 := Fw6.other W7 (Or.inl hab)
  have F3_x7 := F3_x6.other W7 (Or.inl hab)
  have K0_x7 := K0_x6.wr W7 (Or.inl (List.mem_of_getElem? (i := 1) rfl))
  show own_Rch p e below _ T7 (mkF m 46 #[.val (.ref a), .val (.long q), .second] [])
  refine own_st (fun _ kt => XS.aloadN X7.here hx rfl (hb hby own_d3_46) rfl rfl  kt) ?_
  show own_Rch p e below _ T7 (mkF m 47 #[.val (.ref a), .val (.long q), .second] [(.ref a)])
  refine own_st (fun _ kt => XS.iconst X7.here hx rfl (hb hby own_d3_47) kt) ?_
  show own_Rch p e below _ T7 (mkF m 48 #[.val (.ref a), .val (.long q), .second] [(.int (0 : Int32)), (.ref a)])
  obtain ⟨T8, h8, X8, e8, W8, st8⟩ := putFN X7 hx hZ hown (hw _ (List.mem_of_getElem? (i := 12) rfl)) Via.refl e7 F3_x7 EA_x7 (Or.inl (hw _ (List.mem_of_getElem? (i := 13) rfl))) (hw _ (List.mem_of_getElem? (i := 1) rfl)) (ty := .boolean) (v' := (.int (0 : Int32))) (by decide) rfl (by decide) (g := (mkF m 48 #[.val (.ref a), .val (.long q), .second] [(.int (0 : Int32)), (.ref a)])) rfl rfl (hb hby own_d3_48)
  refine own_st st8 ?_
  have Fw8 := F3_x7.same W8
  have N8 := Fr.snoc X8 N7 ga
  have O0_x8 := O0_x7.wr W8 ga
  have EA_x8 := EA_x7.wr W8
  have F1_x8 := F1_x7.other W8 (Or.inr (slot_ne (Or.inl (hw _ (List.mem_of_getElem? (i := 11) rfl))) (Or.inl (hw _ (List.mem_of_getElem? (i := 13) rfl))) (by decide) (t := (.array .long)) (t' := .boolean) (by decide) (by decide)))
  have Fw6_x8 := Fw6_x7.other W8 (Or.inr (slot_ne (Or.inl (hw _ (List.mem_of_getElem? (i := 20) rfl))) (Or.inl (hw _ (List.mem_of_getElem? (i := 13) rfl))) (by decide) (t := .int) (t' := .boolean) (by decide) (by decide)))
  have V7s_x8 := V7s.other W8 (Ne.symm hab)
  have K0_x8 := K0_x7.wr W8 (Or.inl (List.mem_of_getElem? (i := 0) rfl))
  show own_Rch p e below _ T8 (mkF m 51 #[.val (.ref a), .val (.long q), .second] [])
  refine own_retV X8 hx Bd.notSynchronized Bd.returns (hb hby own_d3_51) (by decide) (by decide) ?_
  rw [e8]
  exact ⟨rfl, N8, K0_x8, EA_x8, F1_x8, Fw6_x8, Fw8, V7s_x8⟩
def own_Q_own_add2 (Z : State) (a : Addr) (b : Addr) (k : ClassId) (q : Int64) (y0 : Int64) (y1 : Int64) (y2 : Int64) (y3 : Int64) (t : Int32) (h0 : Heap) (n0 : Nat) (v : Option Value) (h : Heap) (L : List Loc) : Prop := v = none ∧ Fr n0 L ∧ Keep h0 h [a, b] ∧ Exa Z h a "com/example/respite/respite/cli/Latencies" ∧ Fld Z h a "com/example/respite/respite/cli/Latencies" "nanos" "[J" (.ref b) ∧ Fld Z h a "com/example/respite/respite/cli/Latencies" "count" "I" (.int (3 : Int32)) ∧ Fld Z h a "com/example/respite/respite/cli/Latencies" "sorted" "Z" (.int (0 : Int32)) ∧ Arv Z h b k .long (1024 : Int32) [(.long y0), (.long y1), (.long q), (.long y3)] (.long (0 : Int64))
set_option maxRecDepth 65536 in
set_option maxHeartbeats 40000000 in
theorem own_add2 (l : Launch) (Z : State) (a0 : Array Value) (hw : ∀ d ∈ tables_1, d.before a0 Z = true) (ws : List Jvm.Cond) (a : Addr) (b : Addr) (k : ClassId) (q : Int64) (y0 : Int64) (y1 : Int64) (y2 : Int64) (y3 : Int64) (t : Int32) (h0 : Heap) (n0 : Nat) (O0 : Old Z n0 h0) (EA : Exa Z h0 a "com/example/respite/respite/cli/Latencies") (F1 : Fld Z h0 a "com/example/respite/respite/cli/Latencies" "nanos" "[J" (.ref b)) (F2 : Fld Z h0 a "com/example/respite/respite/cli/Latencies" "count" "I" (.int (2 : Int32))) (F3 : Fld Z h0 a "com/example/respite/respite/cli/Latencies" "sorted" "Z" (.int t)) (VB : Arv Z h0 b k .long (1024 : Int32) [(.long y0), (.long y1), (.long y2), (.long y3)] (.long (0 : Int64))) (ga : n0 ≤ a) (gb : n0 ≤ b) (hab : a ≠ b) :
    MetFree l (⟨"com/example/respite/respite/cli/Latencies", "add", "(J)V"⟩ : MethodName) (head1 (Jvm.Cond.code (⟨"com/example/respite/respite/cli/Latencies", "add", "(J)V"⟩ : MethodName) prog_8_method_2_code 3 none :: ws) ({ frames := 0, cells := 0, slots := 0, locals := 0 } : Room)) (fun args_ U => args_ = #[(.ref a), (.long q)] ∧ Z.Warmed39 U.vm ∧ U.heap = h0) (fun _ _ _ _ _ => True) (fun _ U o U' => ∃ v L, o = .returned v ∧ (own_Q_own_add2 Z a b k q y0 y1 y2 y3 t h0 n0) v U'.heap L ∧ FrameEnd U o U' L ({ frames := 0, cells := 0, slots := 0, locals := 0 } : Room).cells ({ frames := 0, cells := 0, slots := 0, locals := 0 } : Room).slots) := by
  refine MetFree.of_bodySF (plainFor_of_name own_pn1) hisR ?_
  intro p e s m args below meth c s₁ Bd hml0 hP hK
  obtain ⟨rfl, hZ, hh⟩ := hP
  have hx := Bd.exec
  have hby := Bd.bytes
  have hml : c.maxLocals = 3 := hml0
  have hown : s.vm.findClass "com/example/respite/respite/cli/Latencies" = some m.cls := findClass_of_methodNamed Bd.named
  have hnm := (name_of_methodNamed Bd.named Bd.method).1
  have X0 : Stand p l e ({ frames := 0, cells := 0, slots := 0, locals := 0 } : Room) s m #[(.ref a), (.long q)] below meth c s₁ [] 0 0 := Stand.of_body Bd
  have e0 : s₁.heap = h0 := by rw [← hh, Bd.state]; rfl
  have N0 := Fr.nil n0
  refine own_close (s := s) (Q := (own_Q_own_add2 Z a b k q y0 y1 y2 y3 t h0 n0)) (C := (({ frames := 0, cells := 0, slots := 0, locals := 0 } : Room)).cells) (N := (({ frames := 0, cells := 0, slots := 0, locals := 0 } : Room)).slots) (own_st (fun _ kt => castTop (own_ef3 m a q) kt) ?_)
  have K0 := Keep.refl h0 [a, b]
  show own_Rch p e below _ s₁ (mkF m 0 #[.val (.ref a), .val (.long q), .second] [])
  refine own_st (fun _ kt => XS.aloadN X0.here hx rfl (hb hby own_d3_0) rfl rfl  kt) ?_
  show own_Rch p e below _ s₁ (mkF m 1 #[.val (.ref a), .val (.long q), .second] [(.ref a)])
  obtain ⟨T1, X1, e1, st1⟩ := getF X0 hx hZ hown (host := "") (Or.inl (hw _ (List.mem_of_getElem? (i := 19) rfl))) Via.refl e0 F2 (g := (mkF m 1 #[.val (.ref a), .val (.long q), .second] [(.ref a)])) rfl rfl (hb hby own_d3_1)
  refine own_st st1 ?_
  show own_Rch p e below _ T1 (mkF m 4 #[.val (.ref a), .val (.long q), .second] [(.int (2 : Int32))])
  refine own_st (fun _ kt => XS.aloadN X1.here hx rfl (hb hby own_d3_4) rfl rfl  kt) ?_
  show own_Rch p e below _ T1 (mkF m 5 #[.val (.ref a), .val (.long q), .second] [(.ref a), (.int (2 : Int32))])
  obtain ⟨T2, X2, e2, st2⟩ := getF X1 hx hZ hown (host := "") (Or.inl (hw _ (List.mem_of_getElem? (i := 10) rfl))) Via.refl e1 F1 (g := (mkF m 5 #[.val (.ref a), .val (.long q), .second] [(.ref a), (.int (2 : Int32))])) rfl rfl (hb hby own_d3_5)
  refine own_st st2 ?_
  show own_Rch p e below _ T2 (mkF m 8 #[.val (.ref a), .val (.long q), .second] [(.ref b), (.int (2 : Int32))])
  obtain ⟨cl3, Ar3, -, S3, M3, -, -⟩ := id VB
  refine own_st (X2.arraylength hx (by rw [e2]; exact Ar3.1) (State.isArrayOf_alike (hZ).alike Ar3.2.1) (g := (mkF m 8 #[.val (.ref a), .val (.long q), .second] [(.ref b), (.int (2 : Int32))])) rfl rfl (hb hby own_d3_8)) ?_
  rw [len_of S3 M3]
  show own_Rch p e below _ T2 (mkF m 9 #[.val (.ref a), .val (.long q), .second] [(.int (1024 : Int32)), (.int (2 : Int32))])
  refine own_st (fun _ kt => XS.icmpYes X2.here hx rfl (pc0 := 9) (pc' := 29) rfl (hb hby own_d3_9) rfl (feq ((by decide) : ¬ ((2 : Int32) = (1024 : Int32)))).2 (by decide) (by decide) kt) ?_
  show own_Rch p e below _ T2 (mkF m 29 #[.val (.ref a), .val (.long q), .second] [])
  refine own_st (fun _ kt => XS.aloadN X2.here hx rfl (hb hby own_d3_29) rfl rfl  kt) ?_
  show own_Rch p e below _ T2 (mkF m 30 #[.val (.ref a), .val (.long q), .second] [(.ref a)])
  obtain ⟨T4, X4, e4, st4⟩ := getF X2 hx hZ hown (host := "") (Or.inl (hw _ (List.mem_of_getElem? (i := 10) rfl))) Via.refl e2 F1 (g := (mkF m 30 #[.val (.ref a), .val (.long q), .second] [(.ref a)])) rfl rfl (hb hby own_d3_30)
  refine own_st st4 ?_
  show own_Rch p e below _ T4 (mkF m 33 #[.val (.ref a), .val (.long q), .second] [(.ref b)])
  refine own_st (fun _ kt => XS.aloadN X4.here hx rfl (hb hby own_d3_33) rfl rfl  kt) ?_
  show own_Rch p e below _ T4 (mkF m 34 #[.val (.ref a), .val (.long q), .second] [(.ref a), (.ref b)])
  refine own_st (fun _ kt => XS.dup X4.here hx rfl (hb hby own_d3_34) rfl rfl kt) ?_
  show own_Rch p e below _ T4 (mkF m 35 #[.val (.ref a), .val (.long q), .second] [(.ref a), (.ref a), (.ref b)])
  obtain ⟨T5, X5, e5, st5⟩ := getF X4 hx hZ hown (host := "") (Or.inl (hw _ (List.mem_of_getElem? (i := 19) rfl))) Via.refl e4 F2 (g := (mkF m 35 #[.val (.ref a), .val (.long q), .second] [(.ref a), (.ref a), (.ref b)])) rfl rfl (hb hby own_d3_35)
  refine own_st st5 ?_
  show own_Rch p e below _ T5 (mkF m 38 #[.val (.ref a), .val (.long q), .second] [(.int (2 : Int32)), (.ref a), (.ref b)])
  refine own_st (fun _ kt => XS.dupX1 X5.here hx rfl (hb hby own_d3_38) rfl rfl rfl kt) ?_
  show own_Rch p e below _ T5 (mkF m 39 #[.val (.ref a), .val (.long q), .second] [(.int (2 : Int32)), (.ref a), (.int (2 : Int32)), (.ref b)])
  refine own_st (fun _ kt => XS.iconst X5.here hx rfl (hb hby own_d3_39) kt) ?_
  show own_Rch p e below _ T5 (mkF m 40 #[.val (.ref a), .val (.long q), .second] [(.int (1 : Int32)), (.int (2 : Int32)), (.ref a), (.int (2 : Int32)), (.ref b)])
  refine own_st (fun _ kt => XS.iadd X5.here hx rfl (hb hby own_d3_40) rfl kt) ?_
  show own_Rch p e below _ T5 (mkF m 41 #[.val (.ref a), .val (.long q), .second] [(.int (3 : Int32)), (.ref a), (.int (2 : Int32)), (.ref b)])
  obtain ⟨T6, h6, X6, e6, W6, st6⟩ := putF X5 hx hZ hown (host := "") (Or.inl (hw _ (List.mem_of_getElem? (i := 19) rfl))) Via.refl e5 F2 EA (Or.inl (hw _ (List.mem_of_getElem? (i := 20) rfl))) (hw _ (List.mem_of_getElem? (i := 1) rfl)) (ty := .int) (by decide) rfl rfl (g := (mkF m 41 #[.val (.ref a), .val (.long q), .second] [(.int (3 : Int32)), (.ref a), (.int (2 : Int32)), (.ref b)])) rfl rfl (hb hby own_d3_41)
  refine own_st st6 ?_
  have Fw6 := F2.same W6
  have N6 := Fr.snoc X6 N0 ga
  have O0_x6 := O0.wr W6 ga
  have EA_x6 := EA.wr W6
  have F1_x6 := F1.other W6 (Or.inr (slot_ne (Or.inl (hw _ (List.mem_of_getElem? (i := 11) rfl))) (Or.inl (hw _ (List.mem_of_getElem? (i := 20) rfl))) (by decide) (t := (.array .long)) (t' := .int) (by decide) (by decide)))
  have F3_x6 := F3.other W6 (Or.inr (slot_ne (Or.inl (hw _ (List.mem_of_getElem? (i := 13) rfl))) (Or.inl (hw _ (List.mem_of_getElem? (i := 20) rfl))) (by decide) (t := .boolean) (t' := .int) (by decide) (by decide)))
  have VB_x6 := VB.other W6 (Ne.symm hab)
  have K0_x6 := K0.wr W6 (Or.inl (List.mem_of_getElem? (i := 0) rfl))
  show own_Rch p e below _ T6 (mkF m 44 #[.val (.ref a), .val (.long q), .second] [(.int (2 : Int32)), (.ref b)])
  refine own_st (fun _ kt => XS.lloadN X6.here hx rfl (hb hby own_d3_44) rfl  kt) ?_
  show own_Rch p e below _ T6 (mkF m 45 #[.val (.ref a), .val (.long q), .second] [(.long q), (.int (2 : Int32)), (.ref b)])
  obtain ⟨cl7, Ar7, q7, S7, M7, H7, G7⟩ := id VB_x6
  have hin7 : ¬ ((2 : Int32) < 0 ∨ cl7.slots.size ≤ ((2 : Int32)).toNatClampNeg) := inb_of S7 ⟨by decide, by decide⟩
  obtain ⟨T7, h7, X7, e7, W7, st7⟩ := stJ X6 hx hZ e6 Ar7 (j := (2 : Int32)) hin7 (g := (mkF m 45 #[.val (.ref a), .val (.long q), .second] [(.long q), (.int (2 : Int32)), (.ref b)])) rfl rfl (hb hby own_d3_45)
  have V7 := Arv.set Ar7 q7 S7 M7 H7 G7 rfl W7 2 rfl (Nat.le_of_ble_eq_true rfl)
  have V7s : Arv Z h7 b k .long (1024 : Int32) [(.long y0), (.long y1), (.long q), (.long y3)] (.long (0 : Int64)) := V7
  have N7 := Fr.snoc X7 N6 gb
  refine own_st st7 ?_
  have O0_x7 := O0_x6.wr W7 gb
  have EA_x7 := EA_x6.wr W7
  have F1_x7 := F1_x6.other W7 (Or.inl hab)
  have Fw6_x7 := Fw6.other W7 (Or.inl hab)
  have F3_x7 := F3_x6.other W7 (Or.inl hab)
  have K0_x7 := K0_x6.wr W7 (Or.inl (List.mem_of_getElem? (i := 1) rfl))
  show own_Rch p e below _ T7 (mkF m 46 #[.val (.ref a), .val (.long q), .second] [])
  refine own_st (fun _ kt => XS.aloadN X7.here hx rfl (hb hby own_d3_46) rfl rfl  kt) ?_
  show own_Rch p e below _ T7 (mkF m 47 #[.val (.ref a), .val (.long q), .second] [(.ref a)])
  refine own_st (fun _ kt => XS.iconst X7.here hx rfl (hb hby own_d3_47) kt) ?_
  show own_Rch p e below _ T7 (mkF m 48 #[.val (.ref a), .val (.long q), .second] [(.int (0 : Int32)), (.ref a)])
  obtain ⟨T8, h8, X8, e8, W8, st8⟩ := putFN X7 hx hZ hown (hw _ (List.mem_of_getElem? (i := 12) rfl)) Via.refl e7 F3_x7 EA_x7 (Or.inl (hw _ (List.mem_of_getElem? (i := 13) rfl))) (hw _ (List.mem_of_getElem? (i := 1) rfl)) (ty := .boolean) (v' := (.int (0 : Int32))) (by decide) rfl (by decide) (g := (mkF m 48 #[.val (.ref a), .val (.long q), .second] [(.int (0 : Int32)), (.ref a)])) rfl rfl (hb hby own_d3_48)
  refine own_st st8 ?_
  have Fw8 := F3_x7.same W8
  have N8 := Fr.snoc X8 N7 ga
  have O0_x8 := O0_x7.wr W8 ga
  have EA_x8 := EA_x7.wr W8
  have F1_x8 := F1_x7.other W8 (Or.inr (slot_ne (Or.inl (hw _ (List.mem_of_getElem? (i := 11) rfl))) (Or.inl (hw _ (List.mem_of_getElem? (i := 13) rfl))) (by decide) (t := (.array .long)) (t' := .boolean) (by decide) (by decide)))
  have Fw6_x8 := Fw6_x7.other W8 (Or.inr (slot_ne (Or.inl (hw _ (List.mem_of_getElem? (i := 20) rfl))) (Or.inl (hw _ (List.mem_of_getElem? (i := 13) rfl))) (by decide) (t := .int) (t' := .boolean) (by decide) (by decide)))
  have V7s_x8 := V7s.other W8 (Ne.symm hab)
  have K0_x8 := K0_x7.wr W8 (Or.inl (List.mem_of_getElem? (i := 0) rfl))
  show own_Rch p e below _ T8 (mkF m 51 #[.val (.ref a), .val (.long q), .second] [])
  refine own_retV X8 hx Bd.notSynchronized Bd.returns (hb hby own_d3_51) (by decide) (by decide) ?_
  rw [e8]
  exact ⟨rfl, N8, K0_x8, EA_x8, F1_x8, Fw6_x8, Fw8, V7s_x8⟩
def own_Q_own_add3 (Z : State) (a : Addr) (b : Addr) (k : ClassId) (q : Int64) (y0 : Int64) (y1 : Int64) (y2 : Int64) (y3 : Int64) (t : Int32) (h0 : Heap) (n0 : Nat) (v : Option Value) (h : Heap) (L : List Loc) : Prop := v = none ∧ Fr n0 L ∧ Keep h0 h [a, b] ∧ Exa Z h a "com/example/respite/respite/cli/Latencies" ∧ Fld Z h a "com/example/respite/respite/cli/Latencies" "nanos" "[J" (.ref b) ∧ Fld Z h a "com/example/respite/respite/cli/Latencies" "count" "I" (.int (4 : Int32)) ∧ Fld Z h a "com/example/respite/respite/cli/Latencies" "sorted" "Z" (.int (0 : Int32)) ∧ Arv Z h b k .long (1024 : Int32) [(.long y0), (.long y1), (.long y2), (.long q)] (.long (0 : Int64))
set_option maxRecDepth 65536 in
set_option maxHeartbeats 40000000 in
theorem own_add3 (l : Launch) (Z : State) (a0 : Array Value) (hw : ∀ d ∈ tables_1, d.before a0 Z = true) (ws : List Jvm.Cond) (a : Addr) (b : Addr) (k : ClassId) (q : Int64) (y0 : Int64) (y1 : Int64) (y2 : Int64) (y3 : Int64) (t : Int32) (h0 : Heap) (n0 : Nat) (O0 : Old Z n0 h0) (EA : Exa Z h0 a "com/example/respite/respite/cli/Latencies") (F1 : Fld Z h0 a "com/example/respite/respite/cli/Latencies" "nanos" "[J" (.ref b)) (F2 : Fld Z h0 a "com/example/respite/respite/cli/Latencies" "count" "I" (.int (3 : Int32))) (F3 : Fld Z h0 a "com/example/respite/respite/cli/Latencies" "sorted" "Z" (.int t)) (VB : Arv Z h0 b k .long (1024 : Int32) [(.long y0), (.long y1), (.long y2), (.long y3)] (.long (0 : Int64))) (ga : n0 ≤ a) (gb : n0 ≤ b) (hab : a ≠ b) :
    MetFree l (⟨"com/example/respite/respite/cli/Latencies", "add", "(J)V"⟩ : MethodName) (head1 (Jvm.Cond.code (⟨"com/example/respite/respite/cli/Latencies", "add", "(J)V"⟩ : MethodName) prog_8_method_2_code 3 none :: ws) ({ frames := 0, cells := 0, slots := 0, locals := 0 } : Room)) (fun args_ U => args_ = #[(.ref a), (.long q)] ∧ Z.Warmed39 U.vm ∧ U.heap = h0) (fun _ _ _ _ _ => True) (fun _ U o U' => ∃ v L, o = .returned v ∧ (own_Q_own_add3 Z a b k q y0 y1 y2 y3 t h0 n0) v U'.heap L ∧ FrameEnd U o U' L ({ frames := 0, cells := 0, slots := 0, locals := 0 } : Room).cells ({ frames := 0, cells := 0, slots := 0, locals := 0 } : Room).slots) := by
  refine MetFree.of_bodySF (plainFor_of_name own_pn1) hisR ?_
  intro p e s m args below meth c s₁ Bd hml0 hP hK
  obtain ⟨rfl, hZ, hh⟩ := hP
  have hx := Bd.exec
  have hby := Bd.bytes
  have hml : c.maxLocals = 3 := hml0
  have hown : s.vm.findClass "com/example/respite/respite/cli/Latencies" = some m.cls := findClass_of_methodNamed Bd.named
  have hnm := (name_of_methodNamed Bd.named Bd.method).1
  have X0 : Stand p l e ({ frames := 0, cells := 0, slots := 0, locals := 0 } : Room) s m #[(.ref a), (.long q)] below meth c s₁ [] 0 0 := Stand.of_body Bd
  have e0 : s₁.heap = h0 := by rw [← hh, Bd.state]; rfl
  have N0 := Fr.nil n0
  refine own_close (s := s) (Q := (own_Q_own_add3 Z a b k q y0 y1 y2 y3 t h0 n0)) (C := (({ frames := 0, cells := 0, slots := 0, locals := 0 } : Room)).cells) (N := (({ frames := 0, cells := 0, slots := 0, locals := 0 } : Room)).slots) (own_st (fun _ kt => castTop (own_ef3 m a q) kt) ?_)
  have K0 := Keep.refl h0 [a, b]
  show own_Rch p e below _ s₁ (mkF m 0 #[.val (.ref a), .val (.long q), .second] [])
  refine own_st (fun _ kt => XS.aloadN X0.here hx rfl (hb hby own_d3_0) rfl rfl  kt) ?_
  show own_Rch p e below _ s₁ (mkF m 1 #[.val (.ref a), .val (.long q), .second] [(.ref a)])
  obtain ⟨T1, X1, e1, st1⟩ := getF X0 hx hZ hown (host := "") (Or.inl (hw _ (List.mem_of_getElem? (i := 19) rfl))) Via.refl e0 F2 (g := (mkF m 1 #[.val (.ref a), .val (.long q), .second] [(.ref a)])) rfl rfl (hb hby own_d3_1)
  refine own_st st1 ?_
  show own_Rch p e below _ T1 (mkF m 4 #[.val (.ref a), .val (.long q), .second] [(.int (3 : Int32))])
  refine own_st (fun _ kt => XS.aloadN X1.here hx rfl (hb hby own_d3_4) rfl rfl  kt) ?_
  show own_Rch p e below _ T1 (mkF m 5 #[.val (.ref a), .val (.long q), .second] [(.ref a), (.int (3 : Int32))])
  obtain ⟨T2, X2, e2, st2⟩ := getF X1 hx hZ hown (host := "") (Or.inl (hw _ (List.mem_of_getElem? (i := 10) rfl))) Via.refl e1 F1 (g := (mkF m 5 #[.val (.ref a), .val (.long q), .second] [(.ref a), (.int (3 : Int32))])) rfl rfl (hb hby own_d3_5)
  refine own_st st2 ?_
  show own_Rch p e below _ T2 (mkF m 8 #[.val (.ref a), .val (.long q), .second] [(.ref b), (.int (3 : Int32))])
  obtain ⟨cl3, Ar3, -, S3, M3, -, -⟩ := id VB
  refine own_st (X2.arraylength hx (by rw [e2]; exact Ar3.1) (State.isArrayOf_alike (hZ).alike Ar3.2.1) (g := (mkF m 8 #[.val (.ref a), .val (.long q), .second] [(.ref b), (.int (3 : Int32))])) rfl rfl (hb hby own_d3_8)) ?_
  rw [len_of S3 M3]
  show own_Rch p e below _ T2 (mkF m 9 #[.val (.ref a), .val (.long q), .second] [(.int (1024 : Int32)), (.int (3 : Int32))])
  refine own_st (fun _ kt => XS.icmpYes X2.here hx rfl (pc0 := 9) (pc' := 29) rfl (hb hby own_d3_9) rfl (feq ((by decide) : ¬ ((3 : Int32) = (1024 : Int32)))).2 (by decide) (by decide) kt) ?_
  show own_Rch p e below _ T2 (mkF m 29 #[.val (.ref a), .val (.long q), .second] [])
  refine own_st (fun _ kt => XS.aloadN X2.here hx rfl (hb hby own_d3_29) rfl rfl  kt) ?_
  show own_Rch p e below _ T2 (mkF m 30 #[.val (.ref a), .val (.long q), .second] [(.ref a)])
  obtain ⟨T4, X4, e4, st4⟩ := getF X2 hx hZ hown (host := "") (Or.inl (hw _ (List.mem_of_getElem? (i := 10) rfl))) Via.refl e2 F1 (g := (mkF m 30 #[.val (.ref a), .val (.long q), .second] [(.ref a)])) rfl rfl (hb hby own_d3_30)
  refine own_st st4 ?_
  show own_Rch p e below _ T4 (mkF m 33 #[.val (.ref a), .val (.long q), .second] [(.ref b)])
  refine own_st (fun _ kt => XS.aloadN X4.here hx rfl (hb hby own_d3_33) rfl rfl  kt) ?_
  show own_Rch p e below _ T4 (mkF m 34 #[.val (.ref a), .val (.long q), .second] [(.ref a), (.ref b)])
  refine own_st (fun _ kt => XS.dup X4.here hx rfl (hb hby own_d3_34) rfl rfl kt) ?_
  show own_Rch p e below _ T4 (mkF m 35 #[.val (.ref a), .val (.long q), .second] [(.ref a), (.ref a), (.ref b)])
  obtain ⟨T5, X5, e5, st5⟩ := getF X4 hx hZ hown (host := "") (Or.inl (hw _ (List.mem_of_getElem? (i := 19) rfl))) Via.refl e4 F2 (g := (mkF m 35 #[.val (.ref a), .val (.long q), .second] [(.ref a), (.ref a), (.ref b)])) rfl rfl (hb hby own_d3_35)
  refine own_st st5 ?_
  show own_Rch p e below _ T5 (mkF m 38 #[.val (.ref a), .val (.long q), .second] [(.int (3 : Int32)), (.ref a), (.ref b)])
  refine own_st (fun _ kt => XS.dupX1 X5.here hx rfl (hb hby own_d3_38) rfl rfl rfl kt) ?_
  show own_Rch p e below _ T5 (mkF m 39 #[.val (.ref a), .val (.long q), .second] [(.int (3 : Int32)), (.ref a), (.int (3 : Int32)), (.ref b)])
  refine own_st (fun _ kt => XS.iconst X5.here hx rfl (hb hby own_d3_39) kt) ?_
  show own_Rch p e below _ T5 (mkF m 40 #[.val (.ref a), .val (.long q), .second] [(.int (1 : Int32)), (.int (3 : Int32)), (.ref a), (.int (3 : Int32)), (.ref b)])
  refine own_st (fun _ kt => XS.iadd X5.here hx rfl (hb hby own_d3_40) rfl kt) ?_
  show own_Rch p e below _ T5 (mkF m 41 #[.val (.ref a), .val (.long q), .second] [(.int (4 : Int32)), (.ref a), (.int (3 : Int32)), (.ref b)])
  obtain ⟨T6, h6, X6, e6, W6, st6⟩ := putF X5 hx hZ hown (host := "") (Or.inl (hw _ (List.mem_of_getElem? (i := 19) rfl))) Via.refl e5 F2 EA (Or.inl (hw _ (List.mem_of_getElem? (i := 20) rfl))) (hw _ (List.mem_of_getElem? (i := 1) rfl)) (ty := .int) (by decide) rfl rfl (g := (mkF m 41 #[.val (.ref a), .val (.long q), .second] [(.int (4 : Int32)), (.ref a), (.int (3 : Int32)), (.ref b)])) rfl rfl (hb hby own_d3_41)
  refine own_st st6 ?_
  have Fw6 := F2.same W6
  have N6 := Fr.snoc X6 N0 ga
  have O0_x6 := O0.wr W6 ga
  have EA_x6 := EA.wr W6
  have F1_x6 := F1.other W6 (Or.inr (slot_ne (Or.inl (hw _ (List.mem_of_getElem? (i := 11) rfl))) (Or.inl (hw _ (List.mem_of_getElem? (i := 20) rfl))) (by decide) (t := (.array .long)) (t' := .int) (by decide) (by decide)))
  have F3_x6 := F3.other W6 (Or.inr (slot_ne (Or.inl (hw _ (List.mem_of_getElem? (i := 13) rfl))) (Or.inl (hw _ (List.mem_of_getElem? (i := 20) rfl))) (by decide) (t := .boolean) (t' := .int) (by decide) (by decide)))
  have VB_x6 := VB.other W6 (Ne.symm hab)
  have K0_x6 := K0.wr W6 (Or.inl (List.mem_of_getElem? (i := 0) rfl))
  show own_Rch p e below _ T6 (mkF m 44 #[.val (.ref a), .val (.long q), .second] [(.int (3 : Int32)), (.ref b)])
  refine own_st (fun _ kt => XS.lloadN X6.here hx rfl (hb hby own_d3_44) rfl  kt) ?_
  show own_Rch p e below _ T6 (mkF m 45 #[.val (.ref a), .val (.long q), .second] [(.long q), (.int (3 : Int32)), (.ref b)])
  obtain ⟨cl7, Ar7, q7, S7, M7, H7, G7⟩ := id VB_x6
  have hin7 : ¬ ((3 : Int32) < 0 ∨ cl7.slots.size ≤ ((3 : Int32)).toNatClampNeg) := inb_of S7 ⟨by decide, by decide⟩
  obtain ⟨T7, h7, X7, e7, W7, st7⟩ := stJ X6 hx hZ e6 Ar7 (j := (3 : Int32)) hin7 (g := (mkF m 45 #[.val (.ref a), .val (.long q), .second] [(.long q), (.int (3 : Int32)), (.ref b)])) rfl rfl (hb hby own_d3_45)
  have V7 := Arv.set Ar7 q7 S7 M7 H7 G7 rfl W7 3 rfl (Nat.le_of_ble_eq_true rfl)
  have V7s : Arv Z h7 b k .long (1024 : Int32) [(.long y0), (.long y1), (.long y2), (.long q)] (.long (0 : Int64)) := V7
  have N7 := Fr.snoc X7 N6 gb
  refine own_st st7 ?_
  have O0_x7 := O0_x6.wr W7 gb
  have EA_x7 := EA_x6.wr W7
  have F1_x7 := F1_x6.other W7 (Or.inl hab)
  have Fw6_x7 := Fw6.other W7 (Or.inl hab)
  have F3_x7 := F3_x6.other W7 (Or.inl hab)
  have K0_x7 := K0_x6.wr W7 (Or.inl (List.mem_of_getElem? (i := 1) rfl))
  show own_Rch p e below _ T7 (mkF m 46 #[.val (.ref a), .val (.long q), .second] [])
  refine own_st (fun _ kt => XS.aloadN X7.here hx rfl (hb hby own_d3_46) rfl rfl  kt) ?_
  show own_Rch p e below _ T7 (mkF m 47 #[.val (.ref a), .val (.long q), .second] [(.ref a)])
  refine own_st (fun _ kt => XS.iconst X7.here hx rfl (hb hby own_d3_47) kt) ?_
  show own_Rch p e below _ T7 (mkF m 48 #[.val (.ref a), .val (.long q), .second] [(.int (0 : Int32)), (.ref a)])
  obtain ⟨T8, h8, X8, e8, W8, st8⟩ := putFN X7 hx hZ hown (hw _ (List.mem_of_getElem? (i := 12) rfl)) Via.refl e7 F3_x7 EA_x7 (Or.inl (hw _ (List.mem_of_getElem? (i := 13) rfl))) (hw _ (List.mem_of_getElem? (i := 1) rfl)) (ty := .boolean) (v' := (.int (0 : Int32))) (by decide) rfl (by decide) (g := (mkF m 48 #[.val (.ref a), .val (.long q), .second] [(.int (0 : Int32)), (.ref a)])) rfl rfl (hb hby own_d3_48)
  refine own_st st8 ?_
  have Fw8 := F3_x7.same W8
  have N8 := Fr.snoc X8 N7 ga
  have O0_x8 := O0_x7.wr W8 ga
  have EA_x8 := EA_x7.wr W8
  have F1_x8 := F1_x7.other W8 (Or.inr (slot_ne (Or.inl (hw _ (List.mem_of_getElem? (i := 11) rfl))) (Or.inl (hw _ (List.mem_of_getElem? (i := 13) rfl))) (by decide) (t := (.array .long)) (t' := .boolean) (by decide) (by decide)))
  have Fw6_x8 := Fw6_x7.other W8 (Or.inr (slot_ne (Or.inl (hw _ (List.mem_of_getElem? (i := 20) rfl))) (Or.inl (hw _ (List.mem_of_getElem? (i := 13) rfl))) (by decide) (t := .int) (t' := .boolean) (by decide) (by decide)))
  have V7s_x8 := V7s.other W8 (Ne.symm hab)
  have K0_x8 := K0_x7.wr W8 (Or.inl (List.mem_of_getElem? (i := 0) rfl))
  show own_Rch p e below _ T8 (mkF m 51 #[.val (.ref a), .val (.long q), .second] [])
  refine own_retV X8 hx Bd.notSynchronized Bd.returns (hb hby own_d3_51) (by decide) (by decide) ?_
  rw [e8]
  exact ⟨rfl, N8, K0_x8, EA_x8, F1_x8, Fw6_x8, Fw8, V7s_x8⟩
theorem own_ef5 (m : MethodId) (x0 : Addr) : entryFrame m #[(.ref x0)] 1 = mkF m 0 #[.val (.ref x0)] [] := by first | (simp [entryFrame, mkF, argsToLocals, Value.category]; done) | rfl
theorem own_d5_0 : decode prog_8_method_7_code 0 = .ok (.aload_n 0, 1) := by decide +kernel
theorem own_d5_1 : decode prog_8_method_7_code 1 = .ok (.getfield 17, 3) := by decide +kernel
theorem own_d5_4 : decode prog_8_method_7_code 4 = .ok (.ifCond .ne 13, 3) := by decide +kernel
theorem own_d5_17 : decode prog_8_method_7_code 17 = .ok (.return_, 1) := by decide +kernel
def own_Q_own_req (Z : State) (a : Addr) (t : Int32) (h0 : Heap) (n0 : Nat) (v : Option Value) (h : Heap) (L : List Loc) : Prop := v = none ∧ Fr n0 L ∧ h = h0
set_option maxRecDepth 65536 in
set_option maxHeartbeats 40000000 in
theorem own_req (l : Launch) (Z : State) (a0 : Array Value) (hw : ∀ d ∈ tables_1, d.before a0 Z = true) (ws : List Jvm.Cond) (a : Addr) (t : Int32) (h0 : Heap) (n0 : Nat) (O0 : Old Z n0 h0) (F2 : Fld Z h0 a "com/example/respite/respite/cli/Latencies" "count" "I" (.int t)) (ht : ¬ t = 0) :
    MetFree l (⟨"com/example/respite/respite/cli/Latencies", "requireAny", "()V"⟩ : MethodName) (head1 (Jvm.Cond.code (⟨"com/example/respite/respite/cli/Latencies", "requireAny", "()V"⟩ : MethodName) prog_8_method_7_code 1 none :: ws) ({ frames := 0, cells := 0, slots := 0, locals := 0 } : Room)) (fun args_ U => args_ = #[(.ref a)] ∧ Z.Warmed39 U.vm ∧ U.heap = h0) (fun _ _ _ _ _ => True) (fun _ U o U' => ∃ v L, o = .returned v ∧ (own_Q_own_req Z a t h0 n0) v U'.heap L ∧ FrameEnd U o U' L ({ frames := 0, cells := 0, slots := 0, locals := 0 } : Room).cells ({ frames := 0, cells := 0, slots := 0, locals := 0 } : Room).slots) := by
  refine MetFree.of_bodySF (plainFor_of_name own_pn1) hisR ?_
  intro p e s m args below meth c s₁ Bd hml0 hP hK
  obtain ⟨rfl, hZ, hh⟩ := hP
  have hx := Bd.exec
  have hby := Bd.bytes
  have hml : c.maxLocals = 1 := hml0
  have hown : s.vm.findClass "com/example/respite/respite/cli/Latencies" = some m.cls := findClass_of_methodNamed Bd.named
  have hnm := (name_of_methodNamed Bd.named Bd.method).1
  have X0 : Stand p l e ({ frames := 0, cells := 0, slots := 0, locals := 0 } : Room) s m #[(.ref a)] below meth c s₁ [] 0 0 := Stand.of_body Bd
  have e0 : s₁.heap = h0 := by rw [← hh, Bd.state]; rfl
  have N0 := Fr.nil n0
  refine own_close (s := s) (Q := (own_Q_own_req Z a t h0 n0)) (C := (({ frames := 0, cells := 0, slots := 0, locals := 0 } : Room)).cells) (N := (({ frames := 0, cells := 0, slots := 0, locals := 0 } : Room)).slots) (own_st (fun _ kt => castTop (own_ef5 m a) kt) ?_)
  show own_Rch p e below _ s₁ (mkF m 0 #[.val (.ref a)] [])
  refine own_st (fun _ kt => XS.aloadN X0.here hx rfl (hb hby own_d5_0) rfl rfl  kt) ?_
  show own_Rch p e below _ s₁ (mkF m 1 #[.val (.ref a)] [(.ref a)])
  obtain ⟨T1, X1, e1, st1⟩ := getF X0 hx hZ hown (host := "") (Or.inl (hw _ (List.mem_of_getElem? (i := 19) rfl))) Via.refl e0 F2 (g := (mkF m 1 #[.val (.ref a)] [(.ref a)])) rfl rfl (hb hby own_d5_1)
  refine own_st st1 ?_
  show own_Rch p e below _ T1 (mkF m 4 #[.val (.ref a)] [(.int t)])
  refine own_st (fun _ kt => XS.ifYes X1.here hx rfl (pc0 := 4) (pc' := 17) rfl (hb hby own_d5_4) rfl ((if0 _ _).trans (feq (ht : ¬ (t = (0 : Int32)))).2) (by decide) (by decide) kt) ?_
  show own_Rch p e below _ T1 (mkF m 17 #[.val (.ref a)] [])
  refine own_retV X1 hx Bd.notSynchronized Bd.returns (hb hby own_d5_17) (by decide) (by decide) ?_
  rw [e1]
  exact ⟨rfl, N0, rfl⟩
theorem own_ef15 (m : MethodId) (x0 : Addr) : entryFrame m #[(.ref x0)] 1 = mkF m 0 #[.val (.ref x0)] [] := by first | (simp [entryFrame, mkF, argsToLocals, Value.category]; done) | rfl
theorem own_d15_0 : decode prog_8_method_4_code 0 = .ok (.aload_n 0, 1) := by decide +kernel
theorem own_d15_1 : decode prog_8_method_4_code 1 = .ok (.getfield 17, 3) := by decide +kernel
theorem own_d15_4 : decode prog_8_method_4_code 4 = .ok (.ireturn, 1) := by decide +kernel
def own_Q_own_count (Z : State) (a : Addr) (t : Int32) (h0 : Heap) (n0 : Nat) (v : Option Value) (h : Heap) (L : List Loc) : Prop := v = some (.int t) ∧ Fr n0 L ∧ h = h0
set_option maxRecDepth 65536 in
set_option maxHeartbeats 40000000 in
theorem own_count (l : Launch) (Z : State) (a0 : Array Value) (hw : ∀ d ∈ tables_1, d.before a0 Z = true) (ws : List Jvm.Cond) (a : Addr) (t : Int32) (h0 : Heap) (n0 : Nat) (O0 : Old Z n0 h0) (F2 : Fld Z h0 a "com/example/respite/respite/cli/Latencies" "count" "I" (.int t)) :
    MetFree l (⟨"com/example/respite/respite/cli/Latencies", "count", "()I"⟩ : MethodName) (head1 (Jvm.Cond.code (⟨"com/example/respite/respite/cli/Latencies", "count", "()I"⟩ : MethodName) prog_8_method_4_code 1 (some .int) :: ws) ({ frames := 0, cells := 0, slots := 0, locals := 0 } : Room)) (fun args_ U => args_ = #[(.ref a)] ∧ Z.Warmed39 U.vm ∧ U.heap = h0) (fun _ _ _ _ _ => True) (fun _ U o U' => ∃ v L, o = .returned v ∧ (own_Q_own_count Z a t h0 n0) v U'.heap L ∧ FrameEnd U o U' L ({ frames := 0, cells := 0, slots := 0, locals := 0 } : Room).cells ({ frames := 0, cells := 0, slots := 0, locals := 0 } : Room).slots) := by
  refine MetFree.of_bodySF (plainFor_of_name own_pn1) hisR ?_
  intro p e s m args below meth c s₁ Bd hml0 hP hK
  obtain ⟨rfl, hZ, hh⟩ := hP
  have hx := Bd.exec
  have hby := Bd.bytes
  have hml : c.maxLocals = 1 := hml0
  have hown : s.vm.findClass "com/example/respite/respite/cli/Latencies" = some m.cls := findClass_of_methodNamed Bd.named
  have hnm := (name_of_methodNamed Bd.named Bd.method).1
  have X0 : Stand p l e ({ frames := 0, cells := 0, slots := 0, locals := 0 } : Room) s m #[(.ref a)] below meth c s₁ [] 0 0 := Stand.of_body Bd
  have e0 : s₁.heap = h0 := by rw [← hh, Bd.state]; rfl
  have N0 := Fr.nil n0
  refine own_close (s := s) (Q := (own_Q_own_count Z a t h0 n0)) (C := (({ frames := 0, cells := 0, slots := 0, locals := 0 } : Room)).cells) (N := (({ frames := 0, cells := 0, slots := 0, locals := 0 } : Room)).slots) (own_st (fun _ kt => castTop (own_ef15 m a) kt) ?_)
  show own_Rch p e below _ s₁ (mkF m 0 #[.val (.ref a)] [])
  refine own_st (fun _ kt => XS.aloadN X0.here hx rfl (hb hby own_d15_0) rfl rfl  kt) ?_
  show own_Rch p e below _ s₁ (mkF m 1 #[.val (.ref a)] [(.ref a)])
  obtain ⟨T1, X1, e1, st1⟩ := getF X0 hx hZ hown (host := "") (Or.inl (hw _ (List.mem_of_getElem? (i := 19) rfl))) Via.refl e0 F2 (g := (mkF m 1 #[.val (.ref a)] [(.ref a)])) rfl rfl (hb hby own_d15_1)
  refine own_st st1 ?_
  show own_Rch p e below _ T1 (mkF m 4 #[.val (.ref a)] [(.int t)])
  refine own_retI X1 hx Bd.notSynchronized Bd.returns (hb hby own_d15_4) (by decide) (by decide) ?_
  rw [e1]
  exact ⟨rfl, N0, rfl⟩
theorem own_pn2 : plainName "java/util/Arrays" = true := by first | (simp [plainName, overriddenIn]; done) | decide +kernel
theorem own_ef7 (m : MethodId) (x0 : Int32) (x1 : Int32) (x2 : Int32) : entryFrame m #[(.int x0), (.int x1), (.int x2)] 3 = mkF m 0 #[.val (.int x0), .val (.int x1), .val (.int x2)] [] := by first | (simp [entryFrame, mkF, argsToLocals, Value.category]; done) | rfl
theorem own_d7_0 : decode jdk_65_method_30_code 0 = .ok (.iload_n 1, 1) := by decide +kernel
theorem own_d7_1 : decode jdk_65_method_30_code 1 = .ok (.iload_n 2, 1) := by decide +kernel
theorem own_d7_2 : decode jdk_65_method_30_code 2 = .ok (.if_icmp .le 44, 3) := by decide +kernel
theorem own_d7_46 : decode jdk_65_method_30_code 46 = .ok (.iload_n 1, 1) := by decide +kernel
theorem own_d7_47 : decode jdk_65_method_30_code 47 = .ok (.ifCond .ge 12, 3) := by decide +kernel
theorem own_d7_59 : decode jdk_65_method_30_code 59 = .ok (.iload_n 2, 1) := by decide +kernel
theorem own_d7_60 : decode jdk_65_method_30_code 60 = .ok (.iload_n 0, 1) := by decide +kernel
theorem own_d7_61 : decode jdk_65_method_30_code 61 = .ok (.if_icmp .le 12, 3) := by decide +kernel
theorem own_d7_73 : decode jdk_65_method_30_code 73 = .ok (.return_, 1) := by decide +kernel
def own_Q_own_rc (Z : State) (x : Int32) (y : Int32) (t : Int32) (h0 : Heap) (n0 : Nat) (v : Option Value) (h : Heap) (L : List Loc) : Prop := v = none ∧ Fr n0 L ∧ h = h0
set_option maxRecDepth 65536 in
set_option maxHeartbeats 40000000 in
theorem own_rc (l : Launch) (Z : State) (a0 : Array Value) (hw : ∀ d ∈ tables_1, d.before a0 Z = true) (ws : List Jvm.Cond) (x : Int32) (y : Int32) (t : Int32) (h0 : Heap) (n0 : Nat) (O0 : Old Z n0 h0) (h1 : ¬ t < y) (h2 : ¬ y < 0) (h3 : ¬ x < t) :
    MetFree l (⟨"java/util/Arrays", "rangeCheck", "(III)V"⟩ : MethodName) (head1 (Jvm.Cond.code (⟨"java/util/Arrays", "rangeCheck", "(III)V"⟩ : MethodName) jdk_65_method_30_code 3 none :: ws) ({ frames := 0, cells := 0, slots := 0, locals := 0 } : Room)) (fun args_ U => args_ = #[(.int x), (.int y), (.int t)] ∧ Z.Warmed39 U.vm ∧ U.heap = h0) (fun _ _ _ _ _ => True) (fun _ U o U' => ∃ v L, o = .returned v ∧ (own_Q_own_rc Z x y t h0 n0) v U'.heap L ∧ FrameEnd U o U' L ({ frames := 0, cells := 0, slots := 0, locals := 0 } : Room).cells ({ frames := 0, cells := 0, slots := 0, locals := 0 } : Room).slots) := by
  refine MetFree.of_bodySF (plainFor_of_name own_pn2) hisR ?_
  intro p e s m args below meth c s₁ Bd hml0 hP hK
  obtain ⟨rfl, hZ, hh⟩ := hP
  have hx := Bd.exec
  have hby := Bd.bytes
  have hml : c.maxLocals = 3 := hml0
  have hown : s.vm.findClass "java/util/Arrays" = some m.cls := findClass_of_methodNamed Bd.named
  have hnm := (name_of_methodNamed Bd.named Bd.method).1
  have X0 : Stand p l e ({ frames := 0, cells := 0, slots := 0, locals := 0 } : Room) s m #[(.int x), (.int y), (.int t)] below meth c s₁ [] 0 0 := Stand.of_body Bd
  have e0 : s₁.heap = h0 := by rw [← hh, Bd.state]; rfl
  have N0 := Fr.nil n0
  refine own_close (s := s) (Q := (own_Q_own_rc Z x y t h0 n0)) (C := (({ frames := 0, cells := 0, slots := 0, locals := 0 } : Room)).cells) (N := (({ frames := 0, cells := 0, slots := 0, locals := 0 } : Room)).slots) (own_st (fun _ kt => castTop (own_ef7 m x y t) kt) ?_)
  show own_Rch p e below _ s₁ (mkF m 0 #[.val (.int x), .val (.int y), .val (.int t)] [])
  refine own_st (fun _ kt => XS.iloadN X0.here hx rfl (hb hby own_d7_0) rfl  kt) ?_
  show own_Rch p e below _ s₁ (mkF m 1 #[.val (.int x), .val (.int y), .val (.int t)] [(.int y)])
  refine own_st (fun _ kt => XS.iloadN X0.here hx rfl (hb hby own_d7_1) rfl  kt) ?_
  show own_Rch p e below _ s₁ (mkF m 2 #[.val (.int x), .val (.int y), .val (.int t)] [(.int t), (.int y)])
  refine own_st (fun _ kt => XS.icmpYes X0.here hx rfl (pc0 := 2) (pc' := 46) rfl (hb hby own_d7_2) rfl (flt (h1 : ¬ (t < y))).2.2.2 (by decide) (by decide) kt) ?_
  show own_Rch p e below _ s₁ (mkF m 46 #[.val (.int x), .val (.int y), .val (.int t)] [])
  refine own_st (fun _ kt => XS.iloadN X0.here hx rfl (hb hby own_d7_46) rfl  kt) ?_
  show own_Rch p e below _ s₁ (mkF m 47 #[.val (.int x), .val (.int y), .val (.int t)] [(.int y)])
  refine own_st (fun _ kt => XS.ifYes X0.here hx rfl (pc0 := 47) (pc' := 59) rfl (hb hby own_d7_47) rfl ((if0 _ _).trans (flt (h2 : ¬ (y < (0 : Int32)))).2.1) (by decide) (by decide) kt) ?_
  show own_Rch p e below _ s₁ (mkF m 59 #[.val (.int x), .val (.int y), .val (.int t)] [])
  refine own_st (fun _ kt => XS.iloadN X0.here hx rfl (hb hby own_d7_59) rfl  kt) ?_
  show own_Rch p e below _ s₁ (mkF m 60 #[.val (.int x), .val (.int y), .val (.int t)] [(.int t)])
  refine own_st (fun _ kt => XS.iloadN X0.here hx rfl (hb hby own_d7_60) rfl  kt) ?_
  show own_Rch p e below _ s₁ (mkF m 61 #[.val (.int x), .val (.int y), .val (.int t)] [(.int x), (.int t)])
  refine own_st (fun _ kt => XS.icmpYes X0.here hx rfl (pc0 := 61) (pc' := 73) rfl (hb hby own_d7_61) rfl (flt (h3 : ¬ (x < t))).2.2.2 (by decide) (by decide) kt) ?_
  show own_Rch p e below _ s₁ (mkF m 73 #[.val (.int x), .val (.int y), .val (.int t)] [])
  refine own_retV X0 hx Bd.notSynchronized Bd.returns (hb hby own_d7_73) (by decide) (by decide) ?_
  rw [e0]
  exact ⟨rfl, N0, rfl⟩
theorem own_pn3 : plainName "java/util/DualPivotQuicksort" = true := by first | (simp [plainName, overriddenIn]; done) | decide +kernel
theorem own_ef10 (m : MethodId) (x0 : Addr) (x1 : Int32) (x2 : Int32) : entryFrame m #[(.ref x0), (.int x1), (.int x2)] 7 = mkF m 0 #[.val (.ref x0), .val (.int x1), .val (.int x2), .unset, .unset, .unset, .unset] [] := by first | (simp [entryFrame, mkF, argsToLocals, Value.category]; done) | rfl
theorem own_d10_6 : decode jdk_2529_method_15_code 6 = .ok (.iload 4, 2) := by decide +kernel
theorem own_d10_8 : decode jdk_2529_method_15_code 8 = .ok (.iload_n 2, 1) := by decide +kernel
theorem own_d10_9 : decode jdk_2529_method_15_code 9 = .ok (.if_icmp .ge 60, 3) := by decide +kernel
theorem own_d10_69 : decode jdk_2529_method_15_code 69 = .ok (.return_, 1) := by decide +kernel
theorem own_d10_0 : decode jdk_2529_method_15_code 0 = .ok (.iload_n 1, 1) := by decide +kernel
theorem own_d10_1 : decode jdk_2529_method_15_code 1 = .ok (.istore 4, 2) := by decide +kernel
theorem own_d10_3 : decode jdk_2529_method_15_code 3 = .ok (.iinc 4 1, 3) := by decide +kernel
def own_Q_own_ins1 (Z : State) (b : Addr) (k : ClassId) (y0 : Int64) (y1 : Int64) (y2 : Int64) (y3 : Int64) (h0 : Heap) (n0 : Nat) (v : Option Value) (h : Heap) (L : List Loc) : Prop := ∃ w0, own_isort [y0] = [w0] ∧ v = none ∧ Fr n0 L ∧ Keep h0 h [b] ∧ Arv Z h b k .long (1024 : Int32) [(.long w0), (.long y1), (.long y2), (.long y3)] (.long (0 : Int64))
set_option maxRecDepth 65536 in
set_option maxHeartbeats 40000000 in
theorem own_ins1 (l : Launch) (Z : State) (a0 : Array Value) (hw : ∀ d ∈ tables_1, d.before a0 Z = true) (ws : List Jvm.Cond) (b : Addr) (k : ClassId) (y0 : Int64) (y1 : Int64) (y2 : Int64) (y3 : Int64) (h0 : Heap) (n0 : Nat) (O0 : Old Z n0 h0) (VB : Arv Z h0 b k .long (1024 : Int32) [(.long y0), (.long y1), (.long y2), (.long y3)] (.long (0 : Int64))) (gb : n0 ≤ b) :
    MetFree l (⟨"java/util/DualPivotQuicksort", "insertionSort", "([JII)V"⟩ : MethodName) (head1 (Jvm.Cond.code (⟨"java/util/DualPivotQuicksort", "insertionSort", "([JII)V"⟩ : MethodName) jdk_2529_method_15_code 7 none :: ws) ({ frames := 0, cells := 0, slots := 0, locals := 0 } : Room)) (fun args_ U => args_ = #[(.ref b), (.int (0 : Int32)), (.int (1 : Int32))] ∧ Z.Warmed39 U.vm ∧ U.heap = h0) (fun _ _ _ _ _ => True) (fun _ U o U' => ∃ v L, o = .returned v ∧ (own_Q_own_ins1 Z b k y0 y1 y2 y3 h0 n0) v U'.heap L ∧ FrameEnd U o U' L ({ frames := 0, cells := 0, slots := 0, locals := 0 } : Room).cells ({ frames := 0, cells := 0, slots := 0, locals := 0 } : Room).slots) := by
  refine MetFree.of_bodySF (plainFor_of_name own_pn3) hisR ?_
  intro p e s m args below meth c s₁ Bd hml0 hP hK
  obtain ⟨rfl, hZ, hh⟩ := hP
  have hx := Bd.exec
  have hby := Bd.bytes
  have hml : c.maxLocals = 7 := hml0
  have hown : s.vm.findClass "java/util/DualPivotQuicksort" = some m.cls := findClass_of_methodNamed Bd.named
  have hnm := (name_of_methodNamed Bd.named Bd.method).1
  have X0 : Stand p l e ({ frames := 0, cells := 0, slots := 0, locals := 0 } : Room) s m #[(.ref b), (.int (0 : Int32)), (.int (1 : Int32))] below meth c s₁ [] 0 0 := Stand.of_body Bd
  have e0 : s₁.heap = h0 := by rw [← hh, Bd.state]; rfl
  have N0 := Fr.nil n0
  refine own_close (s := s) (Q := (own_Q_own_ins1 Z b k y0 y1 y2 y3 h0 n0)) (C := (({ frames := 0, cells := 0, slots := 0, locals := 0 } : Room)).cells) (N := (({ frames := 0, cells := 0, slots := 0, locals := 0 } : Room)).slots) (own_st (fun _ kt => castTop (own_ef10 m b (0 : Int32) (1 : Int32)) kt) ?_)
  have K0 := Keep.refl h0 [b]
  have c1 : ∀ (w0 : Int64) (T1 : State) (lc1 : List Loc) (X1 : Stand p l e (({ frames := 0, cells := 0, slots := 0, locals := 0 } : Room)) s m #[(.ref b), (.int (0 : Int32)), (.int (1 : Int32))] below meth c T1 lc1 0 0) (hv1 : Heap) (e1 : T1.heap = hv1) (N1 : Fr n0 lc1) (O1 : Old Z n0 hv1) (K1 : Keep h0 hv1 [b]) (VB1 : Arv Z hv1 b k .long (1024 : Int32) [(.long w0), (.long y1), (.long y2), (.long y3)] (.long (0 : Int64))) (hI : own_isort [y0] = own_isr [] [w0]), own_Rch p e below (own_End s below (own_Q_own_ins1 Z b k y0 y1 y2 y3 h0 n0) (({ frames := 0, cells := 0, slots := 0, locals := 0 } : Room)).cells (({ frames := 0, cells := 0, slots := 0, locals := 0 } : Room)).slots) T1 (mkF m 6 #[.val (.ref b), .val (.int (0 : Int32)), .val (.int (1 : Int32)), .unset, .val (.int (1 : Int32)), .unset, .unset] []) := by
    intro w0 T1 lc1 X1 hv1 e1 N1 O1 K1 VB1 hI
    show own_Rch p e below _ T1 (mkF m 6 #[.val (.ref b), .val (.int (0 : Int32)), .val (.int (1 : Int32)), .unset, .val (.int (1 : Int32)), .unset, .unset] [])
    refine own_st (fun _ kt => XS.iload X1.here hx rfl (hb hby own_d10_6) rfl  kt) ?_
    show own_Rch p e below _ T1 (mkF m 8 #[.val (.ref b), .val (.int (0 : Int32)), .val (.int (1 : Int32)), .unset, .val (.int (1 : Int32)), .unset, .unset] [(.int (1 : Int32))])
    refine own_st (fun _ kt => XS.iloadN X1.here hx rfl (hb hby own_d10_8) rfl  kt) ?_
    show own_Rch p e below _ T1 (mkF m 9 #[.val (.ref b), .val (.int (0 : Int32)), .val (.int (1 : Int32)), .unset, .val (.int (1 : Int32)), .unset, .unset] [(.int (1 : Int32)), (.int (1 : Int32))])
    refine own_st (fun _ kt => XS.icmpYes X1.here hx rfl (pc0 := 9) (pc' := 69) rfl (hb hby own_d10_9) rfl (flt ((by decide) : ¬ ((1 : Int32) < (1 : Int32)))).2.1 (by decide) (by decide) kt) ?_
    show own_Rch p e below _ T1 (mkF m 69 #[.val (.ref b), .val (.int (0 : Int32)), .val (.int (1 : Int32)), .unset, .val (.int (1 : Int32)), .unset, .unset] [])
    refine own_retV X1 hx Bd.notSynchronized Bd.returns (hb hby own_d10_69) (by decide) (by decide) ?_
    rw [e1]
    exact ⟨_, hI, rfl, N1, K1, VB1⟩
  show own_Rch p e below _ s₁ (mkF m 0 #[.val (.ref b), .val (.int (0 : Int32)), .val (.int (1 : Int32)), .unset, .unset, .unset, .unset] [])
  refine own_st (fun _ kt => XS.iloadN X0.here hx rfl (hb hby own_d10_0) rfl  kt) ?_
  show own_Rch p e below _ s₁ (mkF m 1 #[.val (.ref b), .val (.int (0 : Int32)), .val (.int (1 : Int32)), .unset, .unset, .unset, .unset] [(.int (0 : Int32))])
  refine own_st (fun _ kt => XS.istore X0.here hx rfl (hb hby own_d10_1) rfl (l' := #[.val (.ref b), .val (.int (0 : Int32)), .val (.int (1 : Int32)), .unset, .val (.int (0 : Int32)), .unset, .unset]) rfl kt) ?_
  show own_Rch p e below _ s₁ (mkF m 3 #[.val (.ref b), .val (.int (0 : Int32)), .val (.int (1 : Int32)), .unset, .val (.int (0 : Int32)), .unset, .unset] [])
  refine own_st (fun _ kt => XS.iinc X0.here hx rfl (hb hby own_d10_3) rfl (l' := #[.val (.ref b), .val (.int (0 : Int32)), .val (.int (1 : Int32)), .unset, .val (.int (1 : Int32)), .unset, .unset]) rfl kt) ?_
  exact c1 y0 _ _ X0 _ e0 N0 O0 K0 VB rfl
theorem own_ef9n0 (m : MethodId) (x1 : Addr) (x2 : Int32) (x3 : Int32) (x4 : Int32) : entryFrame m #[.null, (.ref x1), (.int x2), (.int x3), (.int x4)] 25 = mkF m 0 #[.val .null, .val (.ref x1), .val (.int x2), .val (.int x3), .val (.int x4), .unset, .unset, .unset, .unset, .unset, .unset, .unset, .unset, .unset, .unset, .unset, .unset, .unset, .unset, .unset, .unset, .unset, .unset, .unset, .unset] [] := by first | (simp [entryFrame, mkF, argsToLocals, Value.category]; done) | rfl
theorem own_d9_0 : decode jdk_2529_method_13_code 0 = .ok (.iload 4, 2) := by decide +kernel
theorem own_d9_2 : decode jdk_2529_method_13_code 2 = .ok (.iconst 1, 1) := by decide +kernel
theorem own_d9_3 : decode jdk_2529_method_13_code 3 = .ok (.isub, 1) := by decide +kernel
theorem own_d9_4 : decode jdk_2529_method_13_code 4 = .ok (.istore 5, 2) := by decide +kernel
theorem own_d9_6 : decode jdk_2529_method_13_code 6 = .ok (.iload 4, 2) := by decide +kernel
theorem own_d9_8 : decode jdk_2529_method_13_code 8 = .ok (.iload_n 3, 1) := by decide +kernel
theorem own_d9_9 : decode jdk_2529_method_13_code 9 = .ok (.isub, 1) := by decide +kernel
theorem own_d9_10 : decode jdk_2529_method_13_code 10 = .ok (.istore 6, 2) := by decide +kernel
theorem own_d9_12 : decode jdk_2529_method_13_code 12 = .ok (.iload 6, 2) := by decide +kernel
theorem own_d9_14 : decode jdk_2529_method_13_code 14 = .ok (.bipush 65, 2) := by decide +kernel
theorem own_d9_16 : decode jdk_2529_method_13_code 16 = .ok (.iload_n 2, 1) := by decide +kernel
theorem own_d9_17 : decode jdk_2529_method_13_code 17 = .ok (.iadd, 1) := by decide +kernel
theorem own_d9_18 : decode jdk_2529_method_13_code 18 = .ok (.if_icmp .ge 28, 3) := by decide +kernel
theorem own_d9_21 : decode jdk_2529_method_13_code 21 = .ok (.iload_n 2, 1) := by decide +kernel
theorem own_d9_22 : decode jdk_2529_method_13_code 22 = .ok (.iconst 1, 1) := by decide +kernel
theorem own_d9_23 : decode jdk_2529_method_13_code 23 = .ok (.iand, 1) := by decide +kernel
theorem own_d9_24 : decode jdk_2529_method_13_code 24 = .ok (.ifCond .le 22, 3) := by decide +kernel
theorem own_d9_46 : decode jdk_2529_method_13_code 46 = .ok (.iload 6, 2) := by decide +kernel
theorem own_d9_48 : decode jdk_2529_method_13_code 48 = .ok (.bipush 44, 2) := by decide +kernel
theorem own_d9_50 : decode jdk_2529_method_13_code 50 = .ok (.if_icmp .ge 11, 3) := by decide +kernel
theorem own_d9_53 : decode jdk_2529_method_13_code 53 = .ok (.aload_n 1, 1) := by decide +kernel
theorem own_d9_54 : decode jdk_2529_method_13_code 54 = .ok (.iload_n 3, 1) := by decide +kernel
theorem own_d9_55 : decode jdk_2529_method_13_code 55 = .ok (.iload 4, 2) := by decide +kernel
theorem own_d9_57 : decode jdk_2529_method_13_code 57 = .ok (.invokestatic 105, 3) := by decide +kernel
theorem own_pd1 : parseMethodDescriptor "([JII)V" = some ⟨[(.array .long), .int, .int], none⟩ := by decide +kernel
theorem own_d9_60 : decode jdk_2529_method_13_code 60 = .ok (.return_, 1) := by decide +kernel
def own_Q_own_qa1 (Z : State) (b : Addr) (k : ClassId) (y0 : Int64) (y1 : Int64) (y2 : Int64) (y3 : Int64) (h0 : Heap) (n0 : Nat) (v : Option Value) (h : Heap) (L : List Loc) : Prop := ∃ w0, own_isort [y0] = [w0] ∧ v = none ∧ Fr n0 L ∧ Keep h0 h [b] ∧ Arv Z h b k .long (1024 : Int32) [(.long w0), (.long y1), (.long y2), (.long y3)] (.long (0 : Int64))
set_option maxRecDepth 65536 in
set_option maxHeartbeats 40000000 in
theorem own_qa1 (l : Launch) (Z : State) (a0 : Array Value) (hw : ∀ d ∈ tables_1, d.before a0 Z = true) (ws : List Jvm.Cond) (b : Addr) (k : ClassId) (y0 : Int64) (y1 : Int64) (y2 : Int64) (y3 : Int64) (h0 : Heap) (n0 : Nat) (O0 : Old Z n0 h0) (VB : Arv Z h0 b k .long (1024 : Int32) [(.long y0), (.long y1), (.long y2), (.long y3)] (.long (0 : Int64))) (gb : n0 ≤ b) :
    MetFree l (⟨"java/util/DualPivotQuicksort", "sort", "(Ljava/util/DualPivotQuicksort$Sorter;[JIII)V"⟩ : MethodName) (head1 (Jvm.Cond.code (⟨"java/util/DualPivotQuicksort", "sort", "(Ljava/util/DualPivotQuicksort$Sorter;[JIII)V"⟩ : MethodName) jdk_2529_method_13_code 25 none :: ws) ({ frames := 1, cells := 0, slots := 0, locals := 18 } : Room)) (fun args_ U => args_ = #[.null, (.ref b), (.int (0 : Int32)), (.int (0 : Int32)), (.int (1 : Int32))] ∧ Z.Warmed39 U.vm ∧ U.heap = h0) (fun _ _ _ _ _ => True) (fun _ U o U' => ∃ v L, o = .returned v ∧ (own_Q_own_qa1 Z b k y0 y1 y2 y3 h0 n0) v U'.heap L ∧ FrameEnd U o U' L ({ frames := 1, cells := 0, slots := 0, locals := 18 } : Room).cells ({ frames := 1, cells := 0, slots := 0, locals := 18 } : Room).slots) := by
  refine MetFree.of_bodySF (plainFor_of_name own_pn3) hisR ?_
  intro p e s m args below meth c s₁ Bd hml0 hP hK
  obtain ⟨rfl, hZ, hh⟩ := hP
  have hx := Bd.exec
  have hby := Bd.bytes
  have hml : c.maxLocals = 25 := hml0
  have hown : s.vm.findClass "java/util/DualPivotQuicksort" = some m.cls := findClass_of_methodNamed Bd.named
  have hnm := (name_of_methodNamed Bd.named Bd.method).1
  have X0 : Stand p l e ({ frames := 1, cells := 0, slots := 0, locals := 18 } : Room) s m #[.null, (.ref b), (.int (0 : Int32)), (.int (0 : Int32)), (.int (1 : Int32))] below meth c s₁ [] 0 0 := Stand.of_body Bd
  have e0 : s₁.heap = h0 := by rw [← hh, Bd.state]; rfl
  have N0 := Fr.nil n0
  refine own_close (s := s) (Q := (own_Q_own_qa1 Z b k y0 y1 y2 y3 h0 n0)) (C := (({ frames := 1, cells := 0, slots := 0, locals := 18 } : Room)).cells) (N := (({ frames := 1, cells := 0, slots := 0, locals := 18 } : Room)).slots) (own_st (fun _ kt => castTop (own_ef9n0 m b (0 : Int32) (0 : Int32) (1 : Int32)) kt) ?_)
  have K0 := Keep.refl h0 [b]
  show own_Rch p e below _ s₁ (mkF m 0 #[.val .null, .val (.ref b), .val (.int (0 : Int32)), .val (.int (0 : Int32)), .val (.int (1 : Int32)), .unset, .unset, .unset, .unset, .unset, .unset, .unset, .unset, .unset, .unset, .unset, .unset, .unset, .unset, .unset, .unset, .unset, .unset, .unset, .unset] [])
  refine own_st (fun _ kt => XS.iload X0.here hx rfl (hb hby own_d9_0) rfl  kt) ?_
  show own_Rch p e below _ s₁ (mkF m 2 #[.val .null, .val (.ref b), .val (.int (0 : Int32)), .val (.int (0 : Int32)), .val (.int (1 : Int32)), .unset, .unset, .unset, .unset, .unset, .unset, .unset, .unset, .unset, .unset, .unset, .unset, .unset, .unset, .unset, .unset, .unset, .unset, .unset, .unset] [(.int (1 : Int32))])
  refine own_st (fun _ kt => XS.iconst X0.here hx rfl (hb hby own_d9_2) kt) ?_
  show own_Rch p e below _ s₁ (mkF m 3 #[.val .null, .val (.ref b), .val (.int (0 : Int32)), .val (.int (0 : Int32)), .val (.int (1 : Int32)), .unset, .unset, .unset, .unset, .unset, .unset, .unset, .unset, .unset, .unset, .unset, .unset, .unset, .unset, .unset, .unset, .unset, .unset, .unset, .unset] [(.int (1 : Int32)), (.int (1 : Int32))])
  refine own_st (fun _ kt => XS.isub X0.here hx rfl (hb hby own_d9_3) rfl kt) ?_
  show own_Rch p e below _ s₁ (mkF m 4 #[.val .null, .val (.ref b), .val (.int (0 : Int32)), .val (.int (0 : Int32)), .val (.int (1 : Int32)), .unset, .unset, .unset, .unset, .unset, .unset, .unset, .unset, .unset, .unset, .unset, .unset, .unset, .unset, .unset, .unset, .unset, .unset, .unset, .unset] [(.int (0 : Int32))])
  refine own_st (fun _ kt => XS.istore X0.here hx rfl (hb hby own_d9_4) rfl (l' := #[.val .null, .val (.ref b), .val (.int (0 : Int32)), .val (.int (0 : Int32)), .val (.int (1 : Int32)), .val (.int (0 : Int32)), .unset, .unset, .unset, .unset, .unset, .unset, .unset, .unset, .unset, .unset, .unset, .unset, .unset, .unset, .unset, .unset, .unset, .unset, .unset]) rfl kt) ?_
  show own_Rch p e below _ s₁ (mkF m 6 #[.val .null, .val (.ref b), .val (.int (0 : Int32)), .val (.int (0 : Int32)), .val (.int (1 : Int32)), .val (.int (0 : Int32)), .unset, .unset, .unset, .unset, .unset, .unset, .unset, .unset, .unset, .unset, .unset, .unset, .unset, .unset, .unset, .unset, .unset, .unset, .unset] [])
  refine own_st (fun _ kt => XS.iload X0.here hx rfl (hb hby own_d9_6) rfl  kt) ?_
  show own_Rch p e below _ s₁ (mkF m 8 #[.val .null, .val (.ref b), .val (.int (0 : Int32)), .val (.int (0 : Int32)), .val (.int (1 : Int32)), .val (.int (0 : Int32)), .unset, .unset, .unset, .unset, .unset, .unset, .unset, .unset, .unset, .unset, .unset, .unset, .unset, .unset, .unset, .unset, .unset, .unset, .unset] [(.int (1 : Int32))])
  refine own_st (fun _ kt => XS.iloadN X0.here hx rfl (hb hby own_d9_8) rfl  kt) ?_
  show own_Rch p e below _ s₁ (mkF m 9 #[.val .null, .val (.ref b), .val (.int (0 : Int32)), .val (.int (0 : Int32)), .val (.int (1 : Int32)), .val (.int (0 : Int32)), .unset, .unset, .unset, .unset, .unset, .unset, .unset, .unset, .unset, .unset, .unset, .unset, .unset, .unset, .unset, .unset, .unset, .unset, .unset] [(.int (0 : Int32)), (.int (1 : Int32))])
  refine own_st (fun _ kt => XS.isub X0.here hx rfl (hb hby own_d9_9) rfl kt) ?_
  show own_Rch p e below _ s₁ (mkF m 10 #[.val .null, .val (.ref b), .val (.int (0 : Int32)), .val (.int (0 : Int32)), .val (.int (1 : Int32)), .val (.int (0 : Int32)), .unset, .unset, .unset, .unset, .unset, .unset, .unset, .unset, .unset, .unset, .unset, .unset, .unset, .unset, .unset, .unset, .unset, .unset, .unset] [(.int (1 : Int32))])
  refine own_st (fun _ kt => XS.istore X0.here hx rfl (hb hby own_d9_10) rfl (l' := #[.val .null, .val (.ref b), .val (.int (0 : Int32)), .val (.int (0 : Int32)), .val (.int (1 : Int32)), .val (.int (0 : Int32)), .val (.int (1 : Int32)), .unset, .unset, .unset, .unset, .unset, .unset, .unset, .unset, .unset, .unset, .unset, .unset, .unset, .unset, .unset, .unset, .unset, .unset]) rfl kt) ?_
  show own_Rch p e below _ s₁ (mkF m 12 #[.val .null, .val (.ref b), .val (.int (0 : Int32)), .val (.int (0 : Int32)), .val (.int (1 : Int32)), .val (.int (0 : Int32)), .val (.int (1 : Int32)), .unset, .unset, .unset, .unset, .unset, .unset, .unset, .unset, .unset, .unset, .unset, .unset, .unset, .unset, .unset, .unset, .unset, .unset] [])
  refine own_st (fun _ kt => XS.iload X0.here hx rfl (hb hby own_d9_12) rfl  kt) ?_
  show own_Rch p e below _ s₁ (mkF m 14 #[.val .null, .val (.ref b), .val (.int (0 : Int32)), .val (.int (0 : Int32)), .val (.int (1 : Int32)), .val (.int (0 : Int32)), .val (.int (1 : Int32)), .unset, .unset, .unset, .unset, .unset, .unset, .unset, .unset, .unset, .unset, .unset, .unset, .unset, .unset, .unset, .unset, .unset, .unset] [(.int (1 : Int32))])
  refine own_st (fun _ kt => XS.bipush X0.here hx rfl (hb hby own_d9_14) kt) ?_
  show own_Rch p e below _ s₁ (mkF m 16 #[.val .null, .val (.ref b), .val (.int (0 : Int32)), .val (.int (0 : Int32)), .val (.int (1 : Int32)), .val (.int (0 : Int32)), .val (.int (1 : Int32)), .unset, .unset, .unset, .unset, .unset, .unset, .unset, .unset, .unset, .unset, .unset, .unset, .unset, .unset, .unset, .unset, .unset, .unset] [(.int (65 : Int32)), (.int (1 : Int32))])
  refine own_st (fun _ kt => XS.iloadN X0.here hx rfl (hb hby own_d9_16) rfl  kt) ?_
  show own_Rch p e below _ s₁ (mkF m 17 #[.val .null, .val (.ref b), .val (.int (0 : Int32)), .val (.int (0 : Int32)), .val (.int (1 : Int32)), .val (.int (0 : Int32)), .val (.int (1 : Int32)), .unset, .unset, .unset, .unset, .unset, .unset, .unset, .unset, .unset, .unset, .unset, .unset, .unset, .unset, .unset, .unset, .unset, .unset] [(.int (0 : Int32)), (.int (65 : Int32)), (.int (1 : Int32))])
  refine own_st (fun _ kt => XS.iadd X0.here hx rfl (hb hby own_d9_17) rfl kt) ?_
  show own_Rch p e below _ s₁ (mkF m 18 #[.val .null, .val (.ref b), .val (.int (0 : Int32)), .val (.int (0 : Int32)), .val (.int (1 : Int32)), .val (.int (0 : Int32)), .val (.int (1 : Int32)), .unset, .unset, .unset, .unset, .unset, .unset, .unset, .unset, .unset, .unset, .unset, .unset, .unset, .unset, .unset, .unset, .unset, .unset] [(.int (65 : Int32)), (.int (1 : Int32))])
  refine own_st (fun _ kt => XS.icmpNo X0.here hx rfl (hb hby own_d9_18) rfl (tlt ((by decide) : (1 : Int32) < (65 : Int32))).2.1 kt) ?_
  show own_Rch p e below _ s₁ (mkF m 21 #[.val .null, .val (.ref b), .val (.int (0 : Int32)), .val (.int (0 : Int32)), .val (.int (1 : Int32)), .val (.int (0 : Int32)), .val (.int (1 : Int32)), .unset, .unset, .unset, .unset, .unset, .unset, .unset, .unset, .unset, .unset, .unset, .unset, .unset, .unset, .unset, .unset, .unset, .unset] [])
  refine own_st (fun _ kt => XS.iloadN X0.here hx rfl (hb hby own_d9_21) rfl  kt) ?_
  show own_Rch p e below _ s₁ (mkF m 22 #[.val .null, .val (.ref b), .val (.int (0 : Int32)), .val (.int (0 : Int32)), .val (.int (1 : Int32)), .val (.int (0 : Int32)), .val (.int (1 : Int32)), .unset, .unset, .unset, .unset, .unset, .unset, .unset, .unset, .unset, .unset, .unset, .unset, .unset, .unset, .unset, .unset, .unset, .unset] [(.int (0 : Int32))])
  refine own_st (fun _ kt => XS.iconst X0.here hx rfl (hb hby own_d9_22) kt) ?_
  show own_Rch p e below _ s₁ (mkF m 23 #[.val .null, .val (.ref b), .val (.int (0 : Int32)), .val (.int (0 : Int32)), .val (.int (1 : Int32)), .val (.int (0 : Int32)), .val (.int (1 : Int32)), .unset, .unset, .unset, .unset, .unset, .unset, .unset, .unset, .unset, .unset, .unset, .unset, .unset, .unset, .unset, .unset, .unset, .unset] [(.int (1 : Int32)), (.int (0 : Int32))])
  refine own_st (fun _ kt => XS.iand X0.here hx rfl (hb hby own_d9_23) rfl kt) ?_
  show own_Rch p e below _ s₁ (mkF m 24 #[.val .null, .val (.ref b), .val (.int (0 : Int32)), .val (.int (0 : Int32)), .val (.int (1 : Int32)), .val (.int (0 : Int32)), .val (.int (1 : Int32)), .unset, .unset, .unset, .unset, .unset, .unset, .unset, .unset, .unset, .unset, .unset, .unset, .unset, .unset, .unset, .unset, .unset, .unset] [(.int (0 : Int32))])
  refine own_st (fun _ kt => XS.ifYes X0.here hx rfl (pc0 := 24) (pc' := 46) rfl (hb hby own_d9_24) rfl ((if0 _ _).trans (flt ((by decide) : ¬ ((0 : Int32) < (0 : Int32)))).2.2.2) (by decide) (by decide) kt) ?_
  show own_Rch p e below _ s₁ (mkF m 46 #[.val .null, .val (.ref b), .val (.int (0 : Int32)), .val (.int (0 : Int32)), .val (.int (1 : Int32)), .val (.int (0 : Int32)), .val (.int (1 : Int32)), .unset, .unset, .unset, .unset, .unset, .unset, .unset, .unset, .unset, .unset, .unset, .unset, .unset, .unset, .unset, .unset, .unset, .unset] [])
  refine own_st (fun _ kt => XS.iload X0.here hx rfl (hb hby own_d9_46) rfl  kt) ?_
  show own_Rch p e below _ s₁ (mkF m 48 #[.val .null, .val (.ref b), .val (.int (0 : Int32)), .val (.int (0 : Int32)), .val (.int (1 : Int32)), .val (.int (0 : Int32)), .val (.int (1 : Int32)), .unset, .unset, .unset, .unset, .unset, .unset, .unset, .unset, .unset, .unset, .unset, .unset, .unset, .unset, .unset, .unset, .unset, .unset] [(.int (1 : Int32))])
  refine own_st (fun _ kt => XS.bipush X0.here hx rfl (hb hby own_d9_48) kt) ?_
  show own_Rch p e below _ s₁ (mkF m 50 #[.val .null, .val (.ref b), .val (.int (0 : Int32)), .val (.int (0 : Int32)), .val (.int (1 : Int32)), .val (.int (0 : Int32)), .val (.int (1 : Int32)), .unset, .unset, .unset, .unset, .unset, .unset, .unset, .unset, .unset, .unset, .unset, .unset, .unset, .unset, .unset, .unset, .unset, .unset] [(.int (44 : Int32)), (.int (1 : Int32))])
  refine own_st (fun _ kt => XS.icmpNo X0.here hx rfl (hb hby own_d9_50) rfl (tlt ((by decide) : (1 : Int32) < (44 : Int32))).2.1 kt) ?_
  show own_Rch p e below _ s₁ (mkF m 53 #[.val .null, .val (.ref b), .val (.int (0 : Int32)), .val (.int (0 : Int32)), .val (.int (1 : Int32)), .val (.int (0 : Int32)), .val (.int (1 : Int32)), .unset, .unset, .unset, .unset, .unset, .unset, .unset, .unset, .unset, .unset, .unset, .unset, .unset, .unset, .unset, .unset, .unset, .unset] [])
  refine own_st (fun _ kt => XS.aloadN X0.here hx rfl (hb hby own_d9_53) rfl rfl  kt) ?_
  show own_Rch p e below _ s₁ (mkF m 54 #[.val .null, .val (.ref b), .val (.int (0 : Int32)), .val (.int (0 : Int32)), .val (.int (1 : Int32)), .val (.int (0 : Int32)), .val (.int (1 : Int32)), .unset, .unset, .unset, .unset, .unset, .unset, .unset, .unset, .unset, .unset, .unset, .unset, .unset, .unset, .unset, .unset, .unset, .unset] [(.ref b)])
  refine own_st (fun _ kt => XS.iloadN X0.here hx rfl (hb hby own_d9_54) rfl  kt) ?_
  show own_Rch p e below _ s₁ (mkF m 55 #[.val .null, .val (.ref b), .val (.int (0 : Int32)), .val (.int (0 : Int32)), .val (.int (1 : Int32)), .val (.int (0 : Int32)), .val (.int (1 : Int32)), .unset, .unset, .unset, .unset, .unset, .unset, .unset, .unset, .unset, .unset, .unset, .unset, .unset, .unset, .unset, .unset, .unset, .unset] [(.int (0 : Int32)), (.ref b)])
  refine own_st (fun _ kt => XS.iload X0.here hx rfl (hb hby own_d9_55) rfl  kt) ?_
  show own_Rch p e below _ s₁ (mkF m 57 #[.val .null, .val (.ref b), .val (.int (0 : Int32)), .val (.int (0 : Int32)), .val (.int (1 : Int32)), .val (.int (0 : Int32)), .val (.int (1 : Int32)), .unset, .unset, .unset, .unset, .unset, .unset, .unset, .unset, .unset, .unset, .unset, .unset, .unset, .unset, .unset, .unset, .unset, .unset] [(.int (1 : Int32)), (.int (0 : Int32)), (.ref b)])
  obtain ⟨_, _, ⟨T1, L1, k1, n1⟩, -, X1, ⟨Lc1, hQ1, l1, y1, z1⟩, st1⟩ := Jvm.LawKit.callS X0 hx (y := (⟨"java/util/DualPivotQuicksort", "insertionSort", "([JII)V"⟩ : MethodName)) hown (mvT hZ (hw _ (List.mem_of_getElem? (i := 44) rfl))) (mvT hZ (hw _ (List.mem_of_getElem? (i := 45) rfl))) (mvT hZ (hw _ (List.mem_of_getElem? (i := 39) rfl))) (mvT hZ (hw _ (List.mem_of_getElem? (i := 46) rfl))) (by decide) (backOf (W := 0) (own_ins1 l Z a0 hw [] b k y0 y1 y2 y3 h0 n0 O0 VB gb) hZ (hw _ (List.mem_of_getElem? (i := 46) rfl)) (hw _ (List.mem_of_getElem? (i := 39) rfl)) (by decide) (by decide)) (g := (mkF m 57 #[.val .null, .val (.ref b), .val (.int (0 : Int32)), .val (.int (0 : Int32)), .val (.int (1 : Int32)), .val (.int (0 : Int32)), .val (.int (1 : Int32)), .unset, .unset, .unset, .unset, .unset, .unset, .unset, .unset, .unset, .unset, .unset, .unset, .unset, .unset, .unset, .unset, .unset, .unset] [(.int (1 : Int32)), (.int (0 : Int32)), (.ref b)])) rfl (by rw [hml]; rfl) (argsL := [(.ref b), (.int (0 : Int32)), (.int (1 : Int32))]) (rest := []) (lenOf own_pd1 rfl) rfl (by show 2 * 0 + _ ≤ _; exact Nat.le_of_eq rfl) (hb hby own_d9_57) (fun _ _ => ⟨rfl, e0, (by decide : 0 + 0 ≤ _), (by decide : 0 + 0 ≤ _)⟩)
  dsimp only [Pt.U, Pt.locs, Pt.cells, Pt.slots] at X1 l1 y1 z1 st1 hQ1
  subst l1 y1 z1
  obtain ⟨w0, hs1, rfl, N1q, K1, Vb1⟩ := hQ1
  have N1 := Fr.app N0 N1q
  refine own_st st1 ?_
  have O0_x1 := O0.keep K1 (allS gb all0)
  have K0_x1 := K0.trans K1 (allS (Or.inl (List.mem_of_getElem? (i := 0) rfl)) all0)
  show own_Rch p e below _ T1 (mkF m 60 #[.val .null, .val (.ref b), .val (.int (0 : Int32)), .val (.int (0 : Int32)), .val (.int (1 : Int32)), .val (.int (0 : Int32)), .val (.int (1 : Int32)), .unset, .unset, .unset, .unset, .unset, .unset, .unset, .unset, .unset, .unset, .unset, .unset, .unset, .unset, .unset, .unset, .unset, .unset] [])
  refine own_retV X1 hx Bd.notSynchronized Bd.returns (hb hby own_d9_60) (by decide) (by decide) ?_
  exact ⟨_, hs1, rfl, N1, K0_x1, Vb1⟩
theorem own_ef8 (m : MethodId) (x0 : Addr) (x1 : Int32) (x2 : Int32) (x3 : Int32) : entryFrame m #[(.ref x0), (.int x1), (.int x2), (.int x3)] 7 = mkF m 0 #[.val (.ref x0), .val (.int x1), .val (.int x2), .val (.int x3), .unset, .unset, .unset] [] := by first | (simp [entryFrame, mkF, argsToLocals, Value.category]; done) | rfl
theorem own_d8_0 : decode jdk_2529_method_12_code 0 = .ok (.iload_n 3, 1) := by decide +kernel
theorem own_d8_1 : decode jdk_2529_method_12_code 1 = .ok (.iload_n 2, 1) := by decide +kernel
theorem own_d8_2 : decode jdk_2529_method_12_code 2 = .ok (.isub, 1) := by decide +kernel
theorem own_d8_3 : decode jdk_2529_method_12_code 3 = .ok (.istore 4, 2) := by decide +kernel
theorem own_d8_5 : decode jdk_2529_method_12_code 5 = .ok (.iload_n 1, 1) := by decide +kernel
theorem own_d8_6 : decode jdk_2529_method_12_code 6 = .ok (.iconst 1, 1) := by decide +kernel
theorem own_d8_7 : decode jdk_2529_method_12_code 7 = .ok (.if_icmp .le 61, 3) := by decide +kernel
theorem own_d8_68 : decode jdk_2529_method_12_code 68 = .ok (.aconst_null, 1) := by decide +kernel
theorem own_d8_69 : decode jdk_2529_method_12_code 69 = .ok (.aload_n 0, 1) := by decide +kernel
theorem own_d8_70 : decode jdk_2529_method_12_code 70 = .ok (.iconst 0, 1) := by decide +kernel
theorem own_d8_71 : decode jdk_2529_method_12_code 71 = .ok (.iload_n 2, 1) := by decide +kernel
theorem own_d8_72 : decode jdk_2529_method_12_code 72 = .ok (.iload_n 3, 1) := by decide +kernel
theorem own_d8_73 : decode jdk_2529_method_12_code 73 = .ok (.invokestatic 99, 3) := by decide +kernel
theorem own_pd2 : parseMethodDescriptor "(Ljava/util/DualPivotQuicksort$Sorter;[JIII)V" = some ⟨[(.object "java/util/DualPivotQuicksort$Sorter"), (.array .long), .int, .int, .int], none⟩ := by decide +kernel
theorem own_d8_76 : decode jdk_2529_method_12_code 76 = .ok (.return_, 1) := by decide +kernel
def own_Q_own_qb1 (Z : State) (b : Addr) (k : ClassId) (y0 : Int64) (y1 : Int64) (y2 : Int64) (y3 : Int64) (h0 : Heap) (n0 : Nat) (v : Option Value) (h : Heap) (L : List Loc) : Prop := ∃ w0, own_isort [y0] = [w0] ∧ v = none ∧ Fr n0 L ∧ Keep h0 h [b] ∧ Arv Z h b k .long (1024 : Int32) [(.long w0), (.long y1), (.long y2), (.long y3)] (.long (0 : Int64))
set_option maxRecDepth 65536 in
set_option maxHeartbeats 40000000 in
theorem own_qb1 (l : Launch) (Z : State) (a0 : Array Value) (hw : ∀ d ∈ tables_1, d.before a0 Z = true) (ws : List Jvm.Cond) (b : Addr) (k : ClassId) (y0 : Int64) (y1 : Int64) (y2 : Int64) (y3 : Int64) (h0 : Heap) (n0 : Nat) (O0 : Old Z n0 h0) (VB : Arv Z h0 b k .long (1024 : Int32) [(.long y0), (.long y1), (.long y2), (.long y3)] (.long (0 : Int64))) (gb : n0 ≤ b) :
    MetFree l (⟨"java/util/DualPivotQuicksort", "sort", "([JIII)V"⟩ : MethodName) (head1 (Jvm.Cond.code (⟨"java/util/DualPivotQuicksort", "sort", "([JIII)V"⟩ : MethodName) jdk_2529_method_12_code 7 none :: ws) ({ frames := 2, cells := 0, slots := 0, locals := 54 } : Room)) (fun args_ U => args_ = #[(.ref b), (.int (0 : Int32)), (.int (0 : Int32)), (.int (1 : Int32))] ∧ Z.Warmed39 U.vm ∧ U.heap = h0) (fun _ _ _ _ _ => True) (fun _ U o U' => ∃ v L, o = .returned v ∧ (own_Q_own_qb1 Z b k y0 y1 y2 y3 h0 n0) v U'.heap L ∧ FrameEnd U o U' L ({ frames := 2, cells := 0, slots := 0, locals := 54 } : Room).cells ({ frames := 2, cells := 0, slots := 0, locals := 54 } : Room).slots) := by
  refine MetFree.of_bodySF (plainFor_of_name own_pn3) hisR ?_
  intro p e s m args below meth c s₁ Bd hml0 hP hK
  obtain ⟨rfl, hZ, hh⟩ := hP
  have hx := Bd.exec
  have hby := Bd.bytes
  have hml : c.maxLocals = 7 := hml0
  have hown : s.vm.findClass "java/util/DualPivotQuicksort" = some m.cls := findClass_of_methodNamed Bd.named
  have hnm := (name_of_methodNamed Bd.named Bd.method).1
  have X0 : Stand p l e ({ frames := 2, cells := 0, slots := 0, locals := 54 } : Room) s m #[(.ref b), (.int (0 : Int32)), (.int (0 : Int32)), (.int (1 : Int32))] below meth c s₁ [] 0 0 := Stand.of_body Bd
  have e0 : s₁.heap = h0 := by rw [← hh, Bd.state]; rfl
  have N0 := Fr.nil n0
  refine own_close (s := s) (Q := (own_Q_own_qb1 Z b k y0 y1 y2 y3 h0 n0)) (C := (({ frames := 2, cells := 0, slots := 0, locals := 54 } : Room)).cells) (N := (({ frames := 2, cells := 0, slots := 0, locals := 54 } : Room)).slots) (own_st (fun _ kt => castTop (own_ef8 m b (0 : Int32) (0 : Int32) (1 : Int32)) kt) ?_)
  have K0 := Keep.refl h0 [b]
  show own_Rch p e below _ s₁ (mkF m 0 #[.val (.ref b), .val (.int (0 : Int32)), .val (.int (0 : Int32)), .val (.int (1 : Int32)), .unset, .unset, .unset] [])
  refine own_st (fun _ kt => XS.iloadN X0.here hx rfl (hb hby own_d8_0) rfl  kt) ?_
  show own_Rch p e below _ s₁ (mkF m 1 #[.val (.ref b), .val (.int (0 : Int32)), .val (.int (0 : Int32)), .val (.int (1 : Int32)), .unset, .unset, .unset] [(.int (1 : Int32))])
  refine own_st (fun _ kt => XS.iloadN X0.here hx rfl (hb hby own_d8_1) rfl  kt) ?_
  show own_Rch p e below _ s₁ (mkF m 2 #[.val (.ref b), .val (.int (0 : Int32)), .val (.int (0 : Int32)), .val (.int (1 : Int32)), .unset, .unset, .unset] [(.int (0 : Int32)), (.int (1 : Int32))])
  refine own_st (fun _ kt => XS.isub X0.here hx rfl (hb hby own_d8_2) rfl kt) ?_
  show own_Rch p e below _ s₁ (mkF m 3 #[.val (.ref b), .val (.int (0 : Int32)), .val (.int (0 : Int32)), .val (.int (1 : Int32)), .unset, .unset, .unset] [(.int (1 : Int32))])
  refine own_st (fun _ kt => XS.istore X0.here hx rfl (hb hby own_d8_3) rfl (l' := #[.val (.ref b), .val (.int (0 : Int32)), .val (.int (0 : Int32)), .val (.int (1 : Int32)), .val (.int (1 : Int32)), .unset, .unset]) rfl kt) ?_
  show own_Rch p e below _ s₁ (mkF m 5 #[.val (.ref b), .val (.int (0 : Int32)), .val (.int (0 : Int32)), .val (.int (1 : Int32)), .val (.int (1 : Int32)), .unset, .unset] [])
  refine own_st (fun _ kt => XS.iloadN X0.here hx rfl (hb hby own_d8_5) rfl  kt) ?_
  show own_Rch p e below _ s₁ (mkF m 6 #[.val (.ref b), .val (.int (0 : Int32)), .val (.int (0 : Int32)), .val (.int (1 : Int32)), .val (.int (1 : Int32)), .unset, .unset] [(.int (0 : Int32))])
  refine own_st (fun _ kt => XS.iconst X0.here hx rfl (hb hby own_d8_6) kt) ?_
  show own_Rch p e below _ s₁ (mkF m 7 #[.val (.ref b), .val (.int (0 : Int32)), .val (.int (0 : Int32)), .val (.int (1 : Int32)), .val (.int (1 : Int32)), .unset, .unset] [(.int (1 : Int32)), (.int (0 : Int32))])
  refine own_st (fun _ kt => XS.icmpYes X0.here hx rfl (pc0 := 7) (pc' := 68) rfl (hb hby own_d8_7) rfl (flt ((by decide) : ¬ ((1 : Int32) < (0 : Int32)))).2.2.2 (by decide) (by decide) kt) ?_
  show own_Rch p e below _ s₁ (mkF m 68 #[.val (.ref b), .val (.int (0 : Int32)), .val (.int (0 : Int32)), .val (.int (1 : Int32)), .val (.int (1 : Int32)), .unset, .unset] [])
  refine own_st (fun _ kt => XS.aconstNull X0.here hx rfl (hb hby own_d8_68) kt) ?_
  show own_Rch p e below _ s₁ (mkF m 69 #[.val (.ref b), .val (.int (0 : Int32)), .val (.int (0 : Int32)), .val (.int (1 : Int32)), .val (.int (1 : Int32)), .unset, .unset] [.null])
  refine own_st (fun _ kt => XS.aloadN X0.here hx rfl (hb hby own_d8_69) rfl rfl  kt) ?_
  show own_Rch p e below _ s₁ (mkF m 70 #[.val (.ref b), .val (.int (0 : Int32)), .val (.int (0 : Int32)), .val (.int (1 : Int32)), .val (.int (1 : Int32)), .unset, .unset] [(.ref b), .null])
  refine own_st (fun _ kt => XS.iconst X0.here hx rfl (hb hby own_d8_70) kt) ?_
  show own_Rch p e below _ s₁ (mkF m 71 #[.val (.ref b), .val (.int (0 : Int32)), .val (.int (0 : Int32)), .val (.int (1 : Int32)), .val (.int (1 : Int32)), .unset, .unset] [(.int (0 : Int32)), (.ref b), .null])
  refine own_st (fun _ kt => XS.iloadN X0.here hx rfl (hb hby own_d8_71) rfl  kt) ?_
  show own_Rch p e below _ s₁ (mkF m 72 #[.val (.ref b), .val (.int (0 : Int32)), .val (.int (0 : Int32)), .val (.int (1 : Int32)), .val (.int (1 : Int32)), .unset, .unset] [(.int (0 : Int32)), (.int (0 : Int32)), (.ref b), .null])
  refine own_st (fun _ kt => XS.iloadN X0.here hx rfl (hb hby own_d8_72) rfl  kt) ?_
  show own_Rch p e below _ s₁ (mkF m 73 #[.val (.ref b), .val (.int (0 : Int32)), .val (.int (0 : Int32)), .val (.int (1 : Int32)), .val (.int (1 : Int32)), .unset, .unset] [(.int (1 : Int32)), (.int (0 : Int32)), (.int (0 : Int32)), (.ref b), .null])
  obtain ⟨_, _, ⟨T1, L1, k1, n1⟩, -, X1, ⟨Lc1, hQ1, l1, y1, z1⟩, st1⟩ := Jvm.LawKit.callS X0 hx (y := (⟨"java/util/DualPivotQuicksort", "sort", "(Ljava/util/DualPivotQuicksort$Sorter;[JIII)V"⟩ : MethodName)) hown (mvT hZ (hw _ (List.mem_of_getElem? (i := 41) rfl))) (mvT hZ (hw _ (List.mem_of_getElem? (i := 42) rfl))) (mvT hZ (hw _ (List.mem_of_getElem? (i := 39) rfl))) (mvT hZ (hw _ (List.mem_of_getElem? (i := 43) rfl))) (by decide) (backOf (W := 0) (own_qa1 l Z a0 hw [] b k y0 y1 y2 y3 h0 n0 O0 VB gb) hZ (hw _ (List.mem_of_getElem? (i := 43) rfl)) (hw _ (List.mem_of_getElem? (i := 39) rfl)) (by decide) (by decide)) (g := (mkF m 73 #[.val (.ref b), .val (.int (0 : Int32)), .val (.int (0 : Int32)), .val (.int (1 : Int32)), .val (.int (1 : Int32)), .unset, .unset] [(.int (1 : Int32)), (.int (0 : Int32)), (.int (0 : Int32)), (.ref b), .null])) rfl (by rw [hml]; rfl) (argsL := [.null, (.ref b), (.int (0 : Int32)), (.int (0 : Int32)), (.int (1 : Int32))]) (rest := []) (lenOf own_pd2 rfl) rfl (by show 2 * 0 + _ ≤ _; exact Nat.le_of_eq rfl) (hb hby own_d8_73) (fun _ _ => ⟨rfl, e0, (by decide : 0 + 0 ≤ _), (by decide : 0 + 0 ≤ _)⟩)
  dsimp only [Pt.U, Pt.locs, Pt.cells, Pt.slots] at X1 l1 y1 z1 st1 hQ1
  subst l1 y1 z1
  obtain ⟨w0, hs1, rfl, N1q, K1, Vb1⟩ := hQ1
  have N1 := Fr.app N0 N1q
  refine own_st st1 ?_
  have O0_x1 := O0.keep K1 (allS gb all0)
  have K0_x1 := K0.trans K1 (allS (Or.inl (List.mem_of_getElem? (i := 0) rfl)) all0)
  show own_Rch p e below _ T1 (mkF m 76 #[.val (.ref b), .val (.int (0 : Int32)), .val (.int (0 : Int32)), .val (.int (1 : Int32)), .val (.int (1 : Int32)), .unset, .unset] [])
  refine own_retV X1 hx Bd.notSynchronized Bd.returns (hb hby own_d8_76) (by decide) (by decide) ?_
  exact ⟨_, hs1, rfl, N1, K0_x1, Vb1⟩
theorem own_ef6 (m : MethodId) (x0 : Addr) (x1 : Int32) (x2 : Int32) : entryFrame m #[(.ref x0), (.int x1), (.int x2)] 3 = mkF m 0 #[.val (.ref x0), .val (.int x1), .val (.int x2)] [] := by first | (simp [entryFrame, mkF, argsToLocals, Value.category]; done) | rfl
theorem own_d6_0 : decode jdk_65_method_5_code 0 = .ok (.aload_n 0, 1) := by decide +kernel
theorem own_d6_1 : decode jdk_65_method_5_code 1 = .ok (.arraylength, 1) := by decide +kernel
theorem own_d6_2 : decode jdk_65_method_5_code 2 = .ok (.iload_n 1, 1) := by decide +kernel
theorem own_d6_3 : decode jdk_65_method_5_code 3 = .ok (.iload_n 2, 1) := by decide +kernel
theorem own_d6_4 : decode jdk_65_method_5_code 4 = .ok (.invokestatic 13, 3) := by decide +kernel
theorem own_pd3 : parseMethodDescriptor "(III)V" = some ⟨[.int, .int, .int], none⟩ := by decide +kernel
theorem own_d6_7 : decode jdk_65_method_5_code 7 = .ok (.aload_n 0, 1) := by decide +kernel
theorem own_d6_8 : decode jdk_65_method_5_code 8 = .ok (.iconst 0, 1) := by decide +kernel
theorem own_d6_9 : decode jdk_65_method_5_code 9 = .ok (.iload_n 1, 1) := by decide +kernel
theorem own_d6_10 : decode jdk_65_method_5_code 10 = .ok (.iload_n 2, 1) := by decide +kernel
theorem own_d6_11 : decode jdk_65_method_5_code 11 = .ok (.invokestatic 19, 3) := by decide +kernel
theorem own_pd4 : parseMethodDescriptor "([JIII)V" = some ⟨[(.array .long), .int, .int, .int], none⟩ := by decide +kernel
theorem own_d6_14 : decode jdk_65_method_5_code 14 = .ok (.return_, 1) := by decide +kernel
def own_Q_own_as1 (Z : State) (b : Addr) (k : ClassId) (y0 : Int64) (y1 : Int64) (y2 : Int64) (y3 : Int64) (h0 : Heap) (n0 : Nat) (v : Option Value) (h : Heap) (L : List Loc) : Prop := ∃ w0, own_isort [y0] = [w0] ∧ v = none ∧ Fr n0 L ∧ Keep h0 h [b] ∧ Arv Z h b k .long (1024 : Int32) [(.long w0), (.long y1), (.long y2), (.long y3)] (.long (0 : Int64))
set_option maxRecDepth 65536 in
set_option maxHeartbeats 40000000 in
theorem own_as1 (l : Launch) (Z : State) (a0 : Array Value) (hw : ∀ d ∈ tables_1, d.before a0 Z = true) (ws : List Jvm.Cond) (b : Addr) (k : ClassId) (y0 : Int64) (y1 : Int64) (y2 : Int64) (y3 : Int64) (h0 : Heap) (n0 : Nat) (O0 : Old Z n0 h0) (VB : Arv Z h0 b k .long (1024 : Int32) [(.long y0), (.long y1), (.long y2), (.long y3)] (.long (0 : Int64))) (gb : n0 ≤ b) :
    MetFree l (⟨"java/util/Arrays", "sort", "([JII)V"⟩ : MethodName) (head1 (Jvm.Cond.code (⟨"java/util/Arrays", "sort", "([JII)V"⟩ : MethodName) jdk_65_method_5_code 3 none :: ws) ({ frames := 3, cells := 0, slots := 0, locals := 72 } : Room)) (fun args_ U => args_ = #[(.ref b), (.int (0 : Int32)), (.int (1 : Int32))] ∧ Z.Warmed39 U.vm ∧ U.heap = h0) (fun _ _ _ _ _ => True) (fun _ U o U' => ∃ v L, o = .returned v ∧ (own_Q_own_as1 Z b k y0 y1 y2 y3 h0 n0) v U'.heap L ∧ FrameEnd U o U' L ({ frames := 3, cells := 0, slots := 0, locals := 72 } : Room).cells ({ frames := 3, cells := 0, slots := 0, locals := 72 } : Room).slots) := by
  refine MetFree.of_bodySF (plainFor_of_name own_pn2) hisR ?_
  intro p e s m args below meth c s₁ Bd hml0 hP hK
  obtain ⟨rfl, hZ, hh⟩ := hP
  have hx := Bd.exec
  have hby := Bd.bytes
  have hml : c.maxLocals = 3 := hml0
  have hown : s.vm.findClass "java/util/Arrays" = some m.cls := findClass_of_methodNamed Bd.named
  have hnm := (name_of_methodNamed Bd.named Bd.method).1
  have X0 : Stand p l e ({ frames := 3, cells := 0, slots := 0, locals := 72 } : Room) s m #[(.ref b), (.int (0 : Int32)), (.int (1 : Int32))] below meth c s₁ [] 0 0 := Stand.of_body Bd
  have e0 : s₁.heap = h0 := by rw [← hh, Bd.state]; rfl
  have N0 := Fr.nil n0
  refine own_close (s := s) (Q := (own_Q_own_as1 Z b k y0 y1 y2 y3 h0 n0)) (C := (({ frames := 3, cells := 0, slots := 0, locals := 72 } : Room)).cells) (N := (({ frames := 3, cells := 0, slots := 0, locals := 72 } : Room)).slots) (own_st (fun _ kt => castTop (own_ef6 m b (0 : Int32) (1 : Int32)) kt) ?_)
  have K0 := Keep.refl h0 [b]
  show own_Rch p e below _ s₁ (mkF m 0 #[.val (.ref b), .val (.int (0 : Int32)), .val (.int (1 : Int32))] [])
  refine own_st (fun _ kt => XS.aloadN X0.here hx rfl (hb hby own_d6_0) rfl rfl  kt) ?_
  show own_Rch p e below _ s₁ (mkF m 1 #[.val (.ref b), .val (.int (0 : Int32)), .val (.int (1 : Int32))] [(.ref b)])
  obtain ⟨cl1, Ar1, -, S1, M1, -, -⟩ := id VB
  refine own_st (X0.arraylength hx (by rw [e0]; exact Ar1.1) (State.isArrayOf_alike (hZ).alike Ar1.2.1) (g := (mkF m 1 #[.val (.ref b), .val (.int (0 : Int32)), .val (.int (1 : Int32))] [(.ref b)])) rfl rfl (hb hby own_d6_1)) ?_
  rw [len_of S1 M1]
  show own_Rch p e below _ s₁ (mkF m 2 #[.val (.ref b), .val (.int (0 : Int32)), .val (.int (1 : Int32))] [(.int (1024 : Int32))])
  refine own_st (fun _ kt => XS.iloadN X0.here hx rfl (hb hby own_d6_2) rfl  kt) ?_
  show own_Rch p e below _ s₁ (mkF m 3 #[.val (.ref b), .val (.int (0 : Int32)), .val (.int (1 : Int32))] [(.int (0 : Int32)), (.int (1024 : Int32))])
  refine own_st (fun _ kt => XS.iloadN X0.here hx rfl (hb hby own_d6_3) rfl  kt) ?_
  show own_Rch p e below _ s₁ (mkF m 4 #[.val (.ref b), .val (.int (0 : Int32)), .val (.int (1 : Int32))] [(.int (1 : Int32)), (.int (0 : Int32)), (.int (1024 : Int32))])
  obtain ⟨_, _, ⟨T2, L2, k2, n2⟩, -, X2, ⟨Lc2, hQ2, l2, y2, z2⟩, st2⟩ := Jvm.LawKit.callS X0 hx (y := (⟨"java/util/Arrays", "rangeCheck", "(III)V"⟩ : MethodName)) hown (mvT hZ (hw _ (List.mem_of_getElem? (i := 34) rfl))) (mvT hZ (hw _ (List.mem_of_getElem? (i := 35) rfl))) (mvT hZ (hw _ (List.mem_of_getElem? (i := 32) rfl))) (mvT hZ (hw _ (List.mem_of_getElem? (i := 36) rfl))) (by decide) (backOf (W := 0) (own_rc l Z a0 hw [] (1024 : Int32) (0 : Int32) (1 : Int32) h0 n0 O0 (by decide) (by decide) (by decide)) hZ (hw _ (List.mem_of_getElem? (i := 36) rfl)) (hw _ (List.mem_of_getElem? (i := 32) rfl)) (by decide) (by decide)) (g := (mkF m 4 #[.val (.ref b), .val (.int (0 : Int32)), .val (.int (1 : Int32))] [(.int (1 : Int32)), (.int (0 : Int32)), (.int (1024 : Int32))])) rfl (by rw [hml]; rfl) (argsL := [(.int (1024 : Int32)), (.int (0 : Int32)), (.int (1 : Int32))]) (rest := []) (lenOf own_pd3 rfl) rfl (by show 2 * 0 + _ ≤ _; exact Nat.le_of_eq rfl) (hb hby own_d6_4) (fun _ _ => ⟨rfl, e0, (by decide : 0 + 0 ≤ _), (by decide : 0 + 0 ≤ _)⟩)
  dsimp only [Pt.U, Pt.locs, Pt.cells, Pt.slots] at X2 l2 y2 z2 st2 hQ2
  subst l2 y2 z2
  obtain ⟨rfl, N2q, hh2⟩ := hQ2
  have N2 := Fr.app N0 N2q
  refine own_st st2 ?_
  show own_Rch p e below _ T2 (mkF m 7 #[.val (.ref b), .val (.int (0 : Int32)), .val (.int (1 : Int32))] [])
  refine own_st (fun _ kt => XS.aloadN X2.here hx rfl (hb hby own_d6_7) rfl rfl  kt) ?_
  show own_Rch p e below _ T2 (mkF m 8 #[.val (.ref b), .val (.int (0 : Int32)), .val (.int (1 : Int32))] [(.ref b)])
  refine own_st (fun _ kt => XS.iconst X2.here hx rfl (hb hby own_d6_8) kt) ?_
  show own_Rch p e below _ T2 (mkF m 9 #[.val (.ref b), .val (.int (0 : Int32)), .val (.int (1 : Int32))] [(.int (0 : Int32)), (.ref b)])
  refine own_st (fun _ kt => XS.iloadN X2.here hx rfl (hb hby own_d6_9) rfl  kt) ?_
  show own_Rch p e below _ T2 (mkF m 10 #[.val (.ref b), .val (.int (0 : Int32)), .val (.int (1 : Int32))] [(.int (0 : Int32)), (.int (0 : Int32)), (.ref b)])
  refine own_st (fun _ kt => XS.iloadN X2.here hx rfl (hb hby own_d6_10) rfl  kt) ?_
  show own_Rch p e below _ T2 (mkF m 11 #[.val (.ref b), .val (.int (0 : Int32)), .val (.int (1 : Int32))] [(.int (1 : Int32)), (.int (0 : Int32)), (.int (0 : Int32)), (.ref b)])
  obtain ⟨_, _, ⟨T3, L3, k3, n3⟩, -, X3, ⟨Lc3, hQ3, l3, y3, z3⟩, st3⟩ := Jvm.LawKit.callS X2 hx (y := (⟨"java/util/DualPivotQuicksort", "sort", "([JIII)V"⟩ : MethodName)) hown (mvT hZ (hw _ (List.mem_of_getElem? (i := 37) rfl))) (mvT hZ (hw _ (List.mem_of_getElem? (i := 38) rfl))) (mvT hZ (hw _ (List.mem_of_getElem? (i := 39) rfl))) (mvT hZ (hw _ (List.mem_of_getElem? (i := 40) rfl))) (by decide) (backOf (W := 0) (own_qb1 l Z a0 hw [] b k y0 y1 y2 y3 h0 n0 O0 VB gb) hZ (hw _ (List.mem_of_getElem? (i := 40) rfl)) (hw _ (List.mem_of_getElem? (i := 39) rfl)) (by decide) (by decide)) (g := (mkF m 11 #[.val (.ref b), .val (.int (0 : Int32)), .val (.int (1 : Int32))] [(.int (1 : Int32)), (.int (0 : Int32)), (.int (0 : Int32)), (.ref b)])) rfl (by rw [hml]; rfl) (argsL := [(.ref b), (.int (0 : Int32)), (.int (0 : Int32)), (.int (1 : Int32))]) (rest := []) (lenOf own_pd4 rfl) rfl (by show 2 * 0 + _ ≤ _; exact Nat.le_of_eq rfl) (hb hby own_d6_11) (fun _ _ => ⟨rfl, hh2, (by decide : 0 + 0 ≤ _), (by decide : 0 + 0 ≤ _)⟩)
  dsimp only [Pt.U, Pt.locs, Pt.cells, Pt.slots] at X3 l3 y3 z3 st3 hQ3
  subst l3 y3 z3
  obtain ⟨w0, hs3, rfl, N3q, K3, Vb3⟩ := hQ3
  have N3 := Fr.app N2 N3q
  refine own_st st3 ?_
  have O0_x3 := O0.keep K3 (allS gb all0)
  have K0_x3 := K0.trans K3 (allS (Or.inl (List.mem_of_getElem? (i := 0) rfl)) all0)
  show own_Rch p e below _ T3 (mkF m 14 #[.val (.ref b), .val (.int (0 : Int32)), .val (.int (1 : Int32))] [])
  refine own_retV X3 hx Bd.notSynchronized Bd.returns (hb hby own_d6_14) (by decide) (by decide) ?_
  exact ⟨_, hs3, rfl, N3, K0_x3, Vb3⟩
theorem own_d10_12 : decode jdk_2529_method_15_code 12 = .ok (.aload_n 0, 1) := by decide +kernel
theorem own_d10_13 : decode jdk_2529_method_15_code 13 = .ok (.iload 4, 2) := by decide +kernel
theorem own_d10_15 : decode jdk_2529_method_15_code 15 = .ok (.dup, 1) := by decide +kernel
theorem own_d10_16 : decode jdk_2529_method_15_code 16 = .ok (.istore_n 3, 1) := by decide +kernel
theorem own_d10_17 : decode jdk_2529_method_15_code 17 = .ok (.laload, 1) := by decide +kernel
theorem own_d10_18 : decode jdk_2529_method_15_code 18 = .ok (.lstore 5, 2) := by decide +kernel
theorem own_d10_20 : decode jdk_2529_method_15_code 20 = .ok (.lload 5, 2) := by decide +kernel
theorem own_d10_22 : decode jdk_2529_method_15_code 22 = .ok (.aload_n 0, 1) := by decide +kernel
theorem own_d10_23 : decode jdk_2529_method_15_code 23 = .ok (.iload_n 3, 1) := by decide +kernel
theorem own_d10_24 : decode jdk_2529_method_15_code 24 = .ok (.iconst 1, 1) := by decide +kernel
theorem own_d10_25 : decode jdk_2529_method_15_code 25 = .ok (.isub, 1) := by decide +kernel
theorem own_d10_26 : decode jdk_2529_method_15_code 26 = .ok (.laload, 1) := by decide +kernel
theorem own_d10_27 : decode jdk_2529_method_15_code 27 = .ok (.lcmp, 1) := by decide +kernel
theorem own_d10_28 : decode jdk_2529_method_15_code 28 = .ok (.ifCond .ge 38, 3) := by decide +kernel
theorem own_d10_31 : decode jdk_2529_method_15_code 31 = .ok (.iinc 3 (-1), 3) := by decide +kernel
theorem own_d10_34 : decode jdk_2529_method_15_code 34 = .ok (.iload_n 3, 1) := by decide +kernel
theorem own_d10_35 : decode jdk_2529_method_15_code 35 = .ok (.iload_n 1, 1) := by decide +kernel
theorem own_d10_36 : decode jdk_2529_method_15_code 36 = .ok (.if_icmp .lt 23, 3) := by decide +kernel
theorem own_d10_39 : decode jdk_2529_method_15_code 39 = .ok (.lload 5, 2) := by decide +kernel
theorem own_d10_41 : decode jdk_2529_method_15_code 41 = .ok (.aload_n 0, 1) := by decide +kernel
theorem own_d10_42 : decode jdk_2529_method_15_code 42 = .ok (.iload_n 3, 1) := by decide +kernel
theorem own_d10_43 : decode jdk_2529_method_15_code 43 = .ok (.laload, 1) := by decide +kernel
theorem own_d10_44 : decode jdk_2529_method_15_code 44 = .ok (.lcmp, 1) := by decide +kernel
theorem own_d10_45 : decode jdk_2529_method_15_code 45 = .ok (.ifCond .ge 14, 3) := by decide +kernel
theorem own_d10_48 : decode jdk_2529_method_15_code 48 = .ok (.aload_n 0, 1) := by decide +kernel
theorem own_d10_49 : decode jdk_2529_method_15_code 49 = .ok (.iload_n 3, 1) := by decide +kernel
theorem own_d10_50 : decode jdk_2529_method_15_code 50 = .ok (.iconst 1, 1) := by decide +kernel
theorem own_d10_51 : decode jdk_2529_method_15_code 51 = .ok (.iadd, 1) := by decide +kernel
theorem own_d10_52 : decode jdk_2529_method_15_code 52 = .ok (.aload_n 0, 1) := by decide +kernel
theorem own_d10_53 : decode jdk_2529_method_15_code 53 = .ok (.iload_n 3, 1) := by decide +kernel
theorem own_d10_54 : decode jdk_2529_method_15_code 54 = .ok (.laload, 1) := by decide +kernel
theorem own_d10_55 : decode jdk_2529_method_15_code 55 = .ok (.lastore, 1) := by decide +kernel
theorem own_d10_56 : decode jdk_2529_method_15_code 56 = .ok (.goto (-25), 3) := by decide +kernel
theorem own_d10_59 : decode jdk_2529_method_15_code 59 = .ok (.aload_n 0, 1) := by decide +kernel
theorem own_d10_60 : decode jdk_2529_method_15_code 60 = .ok (.iload_n 3, 1) := by decide +kernel
theorem own_d10_61 : decode jdk_2529_method_15_code 61 = .ok (.iconst 1, 1) := by decide +kernel
theorem own_d10_62 : decode jdk_2529_method_15_code 62 = .ok (.iadd, 1) := by decide +kernel
theorem own_d10_63 : decode jdk_2529_method_15_code 63 = .ok (.lload 5, 2) := by decide +kernel
theorem own_d10_65 : decode jdk_2529_method_15_code 65 = .ok (.lastore, 1) := by decide +kernel
theorem own_d10_66 : decode jdk_2529_method_15_code 66 = .ok (.goto (-63), 3) := by decide +kernel
def own_Q_own_ins2 (Z : State) (b : Addr) (k : ClassId) (y0 : Int64) (y1 : Int64) (y2 : Int64) (y3 : Int64) (h0 : Heap) (n0 : Nat) (v : Option Value) (h : Heap) (L : List Loc) : Prop := ∃ w0 w1, own_isort [y0, y1] = [w0, w1] ∧ v = none ∧ Fr n0 L ∧ Keep h0 h [b] ∧ Arv Z h b k .long (1024 : Int32) [(.long w0), (.long w1), (.long y2), (.long y3)] (.long (0 : Int64))
set_option maxRecDepth 65536 in
set_option maxHeartbeats 40000000 in
theorem own_ins2 (l : Launch) (Z : State) (a0 : Array Value) (hw : ∀ d ∈ tables_1, d.before a0 Z = true) (ws : List Jvm.Cond) (b : Addr) (k : ClassId) (y0 : Int64) (y1 : Int64) (y2 : Int64) (y3 : Int64) (h0 : Heap) (n0 : Nat) (O0 : Old Z n0 h0) (VB : Arv Z h0 b k .long (1024 : Int32) [(.long y0), (.long y1), (.long y2), (.long y3)] (.long (0 : Int64))) (gb : n0 ≤ b) :
    MetFree l (⟨"java/util/DualPivotQuicksort", "insertionSort", "([JII)V"⟩ : MethodName) (head1 (Jvm.Cond.code (⟨"java/util/DualPivotQuicksort", "insertionSort", "([JII)V"⟩ : MethodName) jdk_2529_method_15_code 7 none :: ws) ({ frames := 0, cells := 0, slots := 0, locals := 0 } : Room)) (fun args_ U => args_ = #[(.ref b), (.int (0 : Int32)), (.int (2 : Int32))] ∧ Z.Warmed39 U.vm ∧ U.heap = h0) (fun _ _ _ _ _ => True) (fun _ U o U' => ∃ v L, o = .returned v ∧ (own_Q_own_ins2 Z b k y0 y1 y2 y3 h0 n0) v U'.heap L ∧ FrameEnd U o U' L ({ frames := 0, cells := 0, slots := 0, locals := 0 } : Room).cells ({ frames := 0, cells := 0, slots := 0, locals := 0 } : Room).slots) := by
  refine MetFree.of_bodySF (plainFor_of_name own_pn3) hisR ?_
  intro p e s m args below meth c s₁ Bd hml0 hP hK
  obtain ⟨rfl, hZ, hh⟩ := hP
  have hx := Bd.exec
  have hby := Bd.bytes
  have hml : c.maxLocals = 7 := hml0
  have hown : s.vm.findClass "java/util/DualPivotQuicksort" = some m.cls := findClass_of_methodNamed Bd.named
  have hnm := (name_of_methodNamed Bd.named Bd.method).1
  have X0 : Stand p l e ({ frames := 0, cells := 0, slots := 0, locals := 0 } : Room) s m #[(.ref b), (.int (0 : Int32)), (.int (2 : Int32))] below meth c s₁ [] 0 0 := Stand.of_body Bd
  have e0 : s₁.heap = h0 := by rw [← hh, Bd.state]; rfl
  have N0 := Fr.nil n0
  refine own_close (s := s) (Q := (own_Q_own_ins2 Z b k y0 y1 y2 y3 h0 n0)) (C := (({ frames := 0, cells := 0, slots := 0, locals := 0 } : Room)).cells) (N := (({ frames := 0, cells := 0, slots := 0, locals := 0 } : Room)).slots) (own_st (fun _ kt => castTop (own_ef10 m b (0 : Int32) (2 : Int32)) kt) ?_)
  have K0 := Keep.refl h0 [b]
  have c2 : ∀ (w0 w1 tj : Int64) (tk : Int32) (T1 : State) (lc1 : List Loc) (X1 : Stand p l e (({ frames := 0, cells := 0, slots := 0, locals := 0 } : Room)) s m #[(.ref b), (.int (0 : Int32)), (.int (2 : Int32))] below meth c T1 lc1 0 0) (hv1 : Heap) (e1 : T1.heap = hv1) (N1 : Fr n0 lc1) (O1 : Old Z n0 hv1) (K1 : Keep h0 hv1 [b]) (VB2 : Arv Z hv1 b k .long (1024 : Int32) [(.long w0), (.long w1), (.long y2), (.long y3)] (.long (0 : Int64))) (hI : own_isort [y0, y1] = own_isr [] [w1, w0]), own_Rch p e below (own_End s below (own_Q_own_ins2 Z b k y0 y1 y2 y3 h0 n0) (({ frames := 0, cells := 0, slots := 0, locals := 0 } : Room)).cells (({ frames := 0, cells := 0, slots := 0, locals := 0 } : Room)).slots) T1 (mkF m 6 #[.val (.ref b), .val (.int (0 : Int32)), .val (.int (2 : Int32)), .val (.int tk), .val (.int (2 : Int32)), .val (.long tj), .second] []) := by
    intro w0 w1 tj tk T1 lc1 X1 hv1 e1 N1 O1 K1 VB2 hI
    show own_Rch p e below _ T1 (mkF m 6 #[.val (.ref b), .val (.int (0 : Int32)), .val (.int (2 : Int32)), .val (.int tk), .val (.int (2 : Int32)), .val (.long tj), .second] [])
    refine own_st (fun _ kt => XS.iload X1.here hx rfl (hb hby own_d10_6) rfl  kt) ?_
    show own_Rch p e below _ T1 (mkF m 8 #[.val (.ref b), .val (.int (0 : Int32)), .val (.int (2 : Int32)), .val (.int tk), .val (.int (2 : Int32)), .val (.long tj), .second] [(.int (2 : Int32))])
    refine own_st (fun _ kt => XS.iloadN X1.here hx rfl (hb hby own_d10_8) rfl  kt) ?_
    show own_Rch p e below _ T1 (mkF m 9 #[.val (.ref b), .val (.int (0 : Int32)), .val (.int (2 : Int32)), .val (.int tk), .val (.int (2 : Int32)), .val (.long tj), .second] [(.int (2 : Int32)), (.int (2 : Int32))])
    refine own_st (fun _ kt => XS.icmpYes X1.here hx rfl (pc0 := 9) (pc' := 69) rfl (hb hby own_d10_9) rfl (flt ((by decide) : ¬ ((2 : Int32) < (2 : Int32)))).2.1 (by decide) (by decide) kt) ?_
    show own_Rch p e below _ T1 (mkF m 69 #[.val (.ref b), .val (.int (0 : Int32)), .val (.int (2 : Int32)), .val (.int tk), .val (.int (2 : Int32)), .val (.long tj), .second] [])
    refine own_retV X1 hx Bd.notSynchronized Bd.returns (hb hby own_d10_69) (by decide) (by decide) ?_
    rw [e1]
    exact ⟨_, _, hI, rfl, N1, K1, VB2⟩
  have c1 : ∀ (w0 : Int64) (T2 : State) (lc2 : List Loc) (X2 : Stand p l e (({ frames := 0, cells := 0, slots := 0, locals := 0 } : Room)) s m #[(.ref b), (.int (0 : Int32)), (.int (2 : Int32))] below meth c T2 lc2 0 0) (hv2 : Heap) (e2 : T2.heap = hv2) (N2 : Fr n0 lc2) (O2 : Old Z n0 hv2) (K2 : Keep h0 hv2 [b]) (VB1 : Arv Z hv2 b k .long (1024 : Int32) [(.long w0), (.long y1), (.long y2), (.long y3)] (.long (0 : Int64))) (hI : own_isort [y0, y1] = own_isr [y1] [w0]), own_Rch p e below (own_End s below (own_Q_own_ins2 Z b k y0 y1 y2 y3 h0 n0) (({ frames := 0, cells := 0, slots := 0, locals := 0 } : Room)).cells (({ frames := 0, cells := 0, slots := 0, locals := 0 } : Room)).slots) T2 (mkF m 6 #[.val (.ref b), .val (.int (0 : Int32)), .val (.int (2 : Int32)), .unset, .val (.int (1 : Int32)), .unset, .unset] []) := by
    intro w0 T2 lc2 X2 hv2 e2 N2 O2 K2 VB1 hI
    show own_Rch p e below _ T2 (mkF m 6 #[.val (.ref b), .val (.int (0 : Int32)), .val (.int (2 : Int32)), .unset, .val (.int (1 : Int32)), .unset, .unset] [])
    refine own_st (fun _ kt => XS.iload X2.here hx rfl (hb hby own_d10_6) rfl  kt) ?_
    show own_Rch p e below _ T2 (mkF m 8 #[.val (.ref b), .val (.int (0 : Int32)), .val (.int (2 : Int32)), .unset, .val (.int (1 : Int32)), .unset, .unset] [(.int (1 : Int32))])
    refine own_st (fun _ kt => XS.iloadN X2.here hx rfl (hb hby own_d10_8) rfl  kt) ?_
    show own_Rch p e below _ T2 (mkF m 9 #[.val (.ref b), .val (.int (0 : Int32)), .val (.int (2 : Int32)), .unset, .val (.int (1 : Int32)), .unset, .unset] [(.int (2 : Int32)), (.int (1 : Int32))])
    refine own_st (fun _ kt => XS.icmpNo X2.here hx rfl (hb hby own_d10_9) rfl (tlt ((by decide) : (1 : Int32) < (2 : Int32))).2.1 kt) ?_
    show own_Rch p e below _ T2 (mkF m 12 #[.val (.ref b), .val (.int (0 : Int32)), .val (.int (2 : Int32)), .unset, .val (.int (1 : Int32)), .unset, .unset] [])
    refine own_st (fun _ kt => XS.aloadN X2.here hx rfl (hb hby own_d10_12) rfl rfl  kt) ?_
    show own_Rch p e below _ T2 (mkF m 13 #[.val (.ref b), .val (.int (0 : Int32)), .val (.int (2 : Int32)), .unset, .val (.int (1 : Int32)), .unset, .unset] [(.ref b)])
    refine own_st (fun _ kt => XS.iload X2.here hx rfl (hb hby own_d10_13) rfl  kt) ?_
    show own_Rch p e below _ T2 (mkF m 15 #[.val (.ref b), .val (.int (0 : Int32)), .val (.int (2 : Int32)), .unset, .val (.int (1 : Int32)), .unset, .unset] [(.int (1 : Int32)), (.ref b)])
    refine own_st (fun _ kt => XS.dup X2.here hx rfl (hb hby own_d10_15) rfl rfl kt) ?_
    show own_Rch p e below _ T2 (mkF m 16 #[.val (.ref b), .val (.int (0 : Int32)), .val (.int (2 : Int32)), .unset, .val (.int (1 : Int32)), .unset, .unset] [(.int (1 : Int32)), (.int (1 : Int32)), (.ref b)])
    refine own_st (fun _ kt => XS.istoreN X2.here hx rfl (hb hby own_d10_16) rfl (l' := #[.val (.ref b), .val (.int (0 : Int32)), .val (.int (2 : Int32)), .val (.int (1 : Int32)), .val (.int (1 : Int32)), .unset, .unset]) rfl kt) ?_
    show own_Rch p e below _ T2 (mkF m 17 #[.val (.ref b), .val (.int (0 : Int32)), .val (.int (2 : Int32)), .val (.int (1 : Int32)), .val (.int (1 : Int32)), .unset, .unset] [(.int (1 : Int32)), (.ref b)])
    obtain ⟨cl3, Ar3, q3, S3, M3, H3, G3⟩ := id VB1
    have hin3 : ¬ ((1 : Int32) < 0 ∨ cl3.slots.size ≤ ((1 : Int32)).toNatClampNeg) := inb_of S3 ⟨by decide, by decide⟩
    refine own_st (X2.laload hx (j := (1 : Int32)) (v := (.long y1)) (by rw [e2]; exact Ar3.1) (State.isArrayOf_alike (hZ).alike Ar3.2.1) Ar3.2.2 hin3 (H3.at hin3 rfl) (g := (mkF m 17 #[.val (.ref b), .val (.int (0 : Int32)), .val (.int (2 : Int32)), .val (.int (1 : Int32)), .val (.int (1 : Int32)), .unset, .unset] [(.int (1 : Int32)), (.ref b)])) rfl rfl (hb hby own_d10_17)) ?_
    show own_Rch p e below _ T2 (mkF m 18 #[.val (.ref b), .val (.int (0 : Int32)), .val (.int (2 : Int32)), .val (.int (1 : Int32)), .val (.int (1 : Int32)), .unset, .unset] [(.long y1)])
    refine own_st (fun _ kt => XS.lstore X2.here hx rfl (hb hby own_d10_18) rfl (l' := #[.val (.ref b), .val (.int (0 : Int32)), .val (.int (2 : Int32)), .val (.int (1 : Int32)), .val (.int (1 : Int32)), .val (.long y1), .second]) rfl kt) ?_
    show own_Rch p e below _ T2 (mkF m 20 #[.val (.ref b), .val (.int (0 : Int32)), .val (.int (2 : Int32)), .val (.int (1 : Int32)), .val (.int (1 : Int32)), .val (.long y1), .second] [])
    refine own_st (fun _ kt => XS.lload X2.here hx rfl (hb hby own_d10_20) rfl  kt) ?_
    show own_Rch p e below _ T2 (mkF m 22 #[.val (.ref b), .val (.int (0 : Int32)), .val (.int (2 : Int32)), .val (.int (1 : Int32)), .val (.int (1 : Int32)), .val (.long y1), .second] [(.long y1)])
    refine own_st (fun _ kt => XS.aloadN X2.here hx rfl (hb hby own_d10_22) rfl rfl  kt) ?_
    show own_Rch p e below _ T2 (mkF m 23 #[.val (.ref b), .val (.int (0 : Int32)), .val (.int (2 : Int32)), .val (.int (1 : Int32)), .val (.int (1 : Int32)), .val (.long y1), .second] [(.ref b), (.long y1)])
    refine own_st (fun _ kt => XS.iloadN X2.here hx rfl (hb hby own_d10_23) rfl  kt) ?_
    show own_Rch p e below _ T2 (mkF m 24 #[.val (.ref b), .val (.int (0 : Int32)), .val (.int (2 : Int32)), .val (.int (1 : Int32)), .val (.int (1 : Int32)), .val (.long y1), .second] [(.int (1 : Int32)), (.ref b), (.long y1)])
    refine own_st (fun _ kt => XS.iconst X2.here hx rfl (hb hby own_d10_24) kt) ?_
    show own_Rch p e below _ T2 (mkF m 25 #[.val (.ref b), .val (.int (0 : Int32)), .val (.int (2 : Int32)), .val (.int (1 : Int32)), .val (.int (1 : Int32)), .val (.long y1), .second] [(.int (1 : Int32)), (.int (1 : Int32)), (.ref b), (.long y1)])
    refine own_st (fun _ kt => XS.isub X2.here hx rfl (hb hby own_d10_25) rfl kt) ?_
    show own_Rch p e below _ T2 (mkF m 26 #[.val (.ref b), .val (.int (0 : Int32)), .val (.int (2 : Int32)), .val (.int (1 : Int32)), .val (.int (1 : Int32)), .val (.long y1), .second] [(.int (0 : Int32)), (.ref b), (.long y1)])
    obtain ⟨cl4, Ar4, q4, S4, M4, H4, G4⟩ := id VB1
    have hin4 : ¬ ((0 : Int32) < 0 ∨ cl4.slots.size ≤ ((0 : Int32)).toNatClampNeg) := inb_of S4 ⟨by decide, by decide⟩
    refine own_st (X2.laload hx (j := (0 : Int32)) (v := (.long w0)) (by rw [e2]; exact Ar4.1) (State.isArrayOf_alike (hZ).alike Ar4.2.1) Ar4.2.2 hin4 (H4.at hin4 rfl) (g := (mkF m 26 #[.val (.ref b), .val (.int (0 : Int32)), .val (.int (2 : Int32)), .val (.int (1 : Int32)), .val (.int (1 : Int32)), .val (.long y1), .second] [(.int (0 : Int32)), (.ref b), (.long y1)])) rfl rfl (hb hby own_d10_26)) ?_
    show own_Rch p e below _ T2 (mkF m 27 #[.val (.ref b), .val (.int (0 : Int32)), .val (.int (2 : Int32)), .val (.int (1 : Int32)), .val (.int (1 : Int32)), .val (.long y1), .second] [(.long w0), (.long y1)])
    refine own_st (fun _ kt => XS.lcmp X2.here hx rfl (hb hby own_d10_27) rfl kt) ?_
    show own_Rch p e below _ T2 (mkF m 28 #[.val (.ref b), .val (.int (0 : Int32)), .val (.int (2 : Int32)), .val (.int (1 : Int32)), .val (.int (1 : Int32)), .val (.long y1), .second] [(.int (lcmpW y1 w0))])
    by_cases hc28_5 : (lcmpW y1 w0) < (0 : Int32)
    · -- pc 28: True
      refine own_st (fun _ kt => XS.ifNo X2.here hx rfl (hb hby own_d10_28) rfl ((if0 _ _).trans (tlt hc28_5).2.1) kt) ?_
      rw [lw_lt] at hc28_5
      show own_Rch p e below _ T2 (mkF m 31 #[.val (.ref b), .val (.int (0 : Int32)), .val (.int (2 : Int32)), .val (.int (1 : Int32)), .val (.int (1 : Int32)), .val (.long y1), .second] [])
      refine own_st (fun _ kt => XS.iinc X2.here hx rfl (hb hby own_d10_31) rfl (l' := #[.val (.ref b), .val (.int (0 : Int32)), .val (.int (2 : Int32)), .val (.int (0 : Int32)), .val (.int (1 : Int32)), .val (.long y1), .second]) rfl kt) ?_
      show own_Rch p e below _ T2 (mkF m 34 #[.val (.ref b), .val (.int (0 : Int32)), .val (.int (2 : Int32)), .val (.int (0 : Int32)), .val (.int (1 : Int32)), .val (.long y1), .second] [])
      refine own_st (fun _ kt => XS.iloadN X2.here hx rfl (hb hby own_d10_34) rfl  kt) ?_
      show own_Rch p e below _ T2 (mkF m 35 #[.val (.ref b), .val (.int (0 : Int32)), .val (.int (2 : Int32)), .val (.int (0 : Int32)), .val (.int (1 : Int32)), .val (.long y1), .second] [(.int (0 : Int32))])
      refine own_st (fun _ kt => XS.iloadN X2.here hx rfl (hb hby own_d10_35) rfl  kt) ?_
      show own_Rch p e below _ T2 (mkF m 36 #[.val (.ref b), .val (.int (0 : Int32)), .val (.int (2 : Int32)), .val (.int (0 : Int32)), .val (.int (1 : Int32)), .val (.long y1), .second] [(.int (0 : Int32)), (.int (0 : Int32))])
      refine own_st (fun _ kt => XS.icmpNo X2.here hx rfl (hb hby own_d10_36) rfl (flt ((by decide) : ¬ ((0 : Int32) < (0 : Int32)))).1 kt) ?_
      show own_Rch p e below _ T2 (mkF m 39 #[.val (.ref b), .val (.int (0 : Int32)), .val (.int (2 : Int32)), .val (.int (0 : Int32)), .val (.int (1 : Int32)), .val (.long y1), .second] [])
      refine own_st (fun _ kt => XS.lload X2.here hx rfl (hb hby own_d10_39) rfl  kt) ?_
      show own_Rch p e below _ T2 (mkF m 41 #[.val (.ref b), .val (.int (0 : Int32)), .val (.int (2 : Int32)), .val (.int (0 : Int32)), .val (.int (1 : Int32)), .val (.long y1), .second] [(.long y1)])
      refine own_st (fun _ kt => XS.aloadN X2.here hx rfl (hb hby own_d10_41) rfl rfl  kt) ?_
      show own_Rch p e below _ T2 (mkF m 42 #[.val (.ref b), .val (.int (0 : Int32)), .val (.int (2 : Int32)), .val (.int (0 : Int32)), .val (.int (1 : Int32)), .val (.long y1), .second] [(.ref b), (.long y1)])
      refine own_st (fun _ kt => XS.iloadN X2.here hx rfl (hb hby own_d10_42) rfl  kt) ?_
      show own_Rch p e below _ T2 (mkF m 43 #[.val (.ref b), .val (.int (0 : Int32)), .val (.int (2 : Int32)), .val (.int (0 : Int32)), .val (.int (1 : Int32)), .val (.long y1), .second] [(.int (0 : Int32)), (.ref b), (.long y1)])
      obtain ⟨cl6, Ar6, q6, S6, M6, H6, G6⟩ := id VB1
      have hin6 : ¬ ((0 : Int32) < 0 ∨ cl6.slots.size ≤ ((0 : Int32)).toNatClampNeg) := inb_of S6 ⟨by decide, by decide⟩
      refine own_st (X2.laload hx (j := (0 : Int32)) (v := (.long w0)) (by rw [e2]; exact Ar6.1) (State.isArrayOf_alike (hZ).alike Ar6.2.1) Ar6.2.2 hin6 (H6.at hin6 rfl) (g := (mkF m 43 #[.val (.ref b), .val (.int (0 : Int32)), .val (.int (2 : Int32)), .val (.int (0 : Int32)), .val (.int (1 : Int32)), .val (.long y1), .second] [(.int (0 : Int32)), (.ref b), (.long y1)])) rfl rfl (hb hby own_d10_43)) ?_
      show own_Rch p e below _ T2 (mkF m 44 #[.val (.ref b), .val (.int (0 : Int32)), .val (.int (2 : Int32)), .val (.int (0 : Int32)), .val (.int (1 : Int32)), .val (.long y1), .second] [(.long w0), (.long y1)])
      refine own_st (fun _ kt => XS.lcmp X2.here hx rfl (hb hby own_d10_44) rfl kt) ?_
      show own_Rch p e below _ T2 (mkF m 45 #[.val (.ref b), .val (.int (0 : Int32)), .val (.int (2 : Int32)), .val (.int (0 : Int32)), .val (.int (1 : Int32)), .val (.long y1), .second] [(.int (lcmpW y1 w0))])
      refine own_st (fun _ kt => XS.ifNo X2.here hx rfl (hb hby own_d10_45) rfl ((if0 _ _).trans (tlt ((lw_lt _ _).mpr hc28_5 : (lcmpW y1 w0) < (0 : Int32))).2.1) kt) ?_
      show own_Rch p e below _ T2 (mkF m 48 #[.val (.ref b), .val (.int (0 : Int32)), .val (.int (2 : Int32)), .val (.int (0 : Int32)), .val (.int (1 : Int32)), .val (.long y1), .second] [])
      refine own_st (fun _ kt => XS.aloadN X2.here hx rfl (hb hby own_d10_48) rfl rfl  kt) ?_
      show own_Rch p e below _ T2 (mkF m 49 #[.val (.ref b), .val (.int (0 : Int32)), .val (.int (2 : Int32)), .val (.int (0 : Int32)), .val (.int (1 : Int32)), .val (.long y1), .second] [(.ref b)])
      refine own_st (fun _ kt => XS.iloadN X2.here hx rfl (hb hby own_d10_49) rfl  kt) ?_
      show own_Rch p e below _ T2 (mkF m 50 #[.val (.ref b), .val (.int (0 : Int32)), .val (.int (2 : Int32)), .val (.int (0 : Int32)), .val (.int (1 : Int32)), .val (.long y1), .second] [(.int (0 : Int32)), (.ref b)])
      refine own_st (fun _ kt => XS.iconst X2.here hx rfl (hb hby own_d10_50) kt) ?_
      show own_Rch p e below _ T2 (mkF m 51 #[.val (.ref b), .val (.int (0 : Int32)), .val (.int (2 : Int32)), .val (.int (0 : Int32)), .val (.int (1 : Int32)), .val (.long y1), .second] [(.int (1 : Int32)), (.int (0 : Int32)), (.ref b)])
      refine own_st (fun _ kt => XS.iadd X2.here hx rfl (hb hby own_d10_51) rfl kt) ?_
      show own_Rch p e below _ T2 (mkF m 52 #[.val (.ref b), .val (.int (0 : Int32)), .val (.int (2 : Int32)), .val (.int (0 : Int32)), .val (.int (1 : Int32)), .val (.long y1), .second] [(.int (1 : Int32)), (.ref b)])
      refine own_st (fun _ kt => XS.aloadN X2.here hx rfl (hb hby own_d10_52) rfl rfl  kt) ?_
      show own_Rch p e below _ T2 (mkF m 53 #[.val (.ref b), .val (.int (0 : Int32)), .val (.int (2 : Int32)), .val (.int (0 : Int32)), .val (.int (1 : Int32)), .val (.long y1), .second] [(.ref b), (.int (1 : Int32)), (.ref b)])
      refine own_st (fun _ kt => XS.iloadN X2.here hx rfl (hb hby own_d10_53) rfl  kt) ?_
      show own_Rch p e below _ T2 (mkF m 54 #[.val (.ref b), .val (.int (0 : Int32)), .val (.int (2 : Int32)), .val (.int (0 : Int32)), .val (.int (1 : Int32)), .val (.long y1), .second] [(.int (0 : Int32)), (.ref b), (.int (1 : Int32)), (.ref b)])
      obtain ⟨cl7, Ar7, q7, S7, M7, H7, G7⟩ := id VB1
      have hin7 : ¬ ((0 : Int32) < 0 ∨ cl7.slots.size ≤ ((0 : Int32)).toNatClampNeg) := inb_of S7 ⟨by decide, by decide⟩
      refine own_st (X2.laload hx (j := (0 : Int32)) (v := (.long w0)) (by rw [e2]; exact Ar7.1) (State.isArrayOf_alike (hZ).alike Ar7.2.1) Ar7.2.2 hin7 (H7.at hin7 rfl) (g := (mkF m 54 #[.val (.ref b), .val (.int (0 : Int32)), .val (.int (2 : Int32)), .val (.int (0 : Int32)), .val (.int (1 : Int32)), .val (.long y1), .second] [(.int (0 : Int32)), (.ref b), (.int (1 : Int32)), (.ref b)])) rfl rfl (hb hby own_d10_54)) ?_
      show own_Rch p e below _ T2 (mkF m 55 #[.val (.ref b), .val (.int (0 : Int32)), .val (.int (2 : Int32)), .val (.int (0 : Int32)), .val (.int (1 : Int32)), .val (.long y1), .second] [(.long w0), (.int (1 : Int32)), (.ref b)])
      obtain ⟨cl8, Ar8, q8, S8, M8, H8, G8⟩ := id VB1
      have hin8 : ¬ ((1 : Int32) < 0 ∨ cl8.slots.size ≤ ((1 : Int32)).toNatClampNeg) := inb_of S8 ⟨by decide, by decide⟩
      obtain ⟨T8, h8, X8, e8, W8, st8⟩ := stJ X2 hx hZ e2 Ar8 (j := (1 : Int32)) hin8 (g := (mkF m 55 #[.val (.ref b), .val (.int (0 : Int32)), .val (.int (2 : Int32)), .val (.int (0 : Int32)), .val (.int (1 : Int32)), .val (.long y1), .second] [(.long w0), (.int (1 : Int32)), (.ref b)])) rfl rfl (hb hby own_d10_55)
      have V8 := Arv.set Ar8 q8 S8 M8 H8 G8 rfl W8 1 rfl (Nat.le_of_ble_eq_true rfl)
      have V8s : Arv Z h8 b k .long (1024 : Int32) [(.long w0), (.long w0), (.long y2), (.long y3)] (.long (0 : Int64)) := V8
      have N8 := Fr.snoc X8 N2 gb
      refine own_st st8 ?_
      have O2_x8 := O2.wr W8 gb
      have K2_x8 := K2.wr W8 (Or.inl (List.mem_of_getElem? (i := 0) rfl))
      show own_Rch p e below _ T8 (mkF m 56 #[.val (.ref b), .val (.int (0 : Int32)), .val (.int (2 : Int32)), .val (.int (0 : Int32)), .val (.int (1 : Int32)), .val (.long y1), .second] [])
      refine own_st (fun _ kt => XS.goto X8.here hx rfl (pc0 := 56) (pc' := 31) rfl (hb hby own_d10_56) (by decide) (by decide) kt) ?_
      show own_Rch p e below _ T8 (mkF m 31 #[.val (.ref b), .val (.int (0 : Int32)), .val (.int (2 : Int32)), .val (.int (0 : Int32)), .val (.int (1 : Int32)), .val (.long y1), .second] [])
      refine own_st (fun _ kt => XS.iinc X8.here hx rfl (hb hby own_d10_31) rfl (l' := #[.val (.ref b), .val (.int (0 : Int32)), .val (.int (2 : Int32)), .val (.int (-1 : Int32)), .val (.int (1 : Int32)), .val (.long y1), .second]) rfl kt) ?_
      show own_Rch p e below _ T8 (mkF m 34 #[.val (.ref b), .val (.int (0 : Int32)), .val (.int (2 : Int32)), .val (.int (-1 : Int32)), .val (.int (1 : Int32)), .val (.long y1), .second] [])
      refine own_st (fun _ kt => XS.iloadN X8.here hx rfl (hb hby own_d10_34) rfl  kt) ?_
      show own_Rch p e below _ T8 (mkF m 35 #[.val (.ref b), .val (.int (0 : Int32)), .val (.int (2 : Int32)), .val (.int (-1 : Int32)), .val (.int (1 : Int32)), .val (.long y1), .second] [(.int (-1 : Int32))])
      refine own_st (fun _ kt => XS.iloadN X8.here hx rfl (hb hby own_d10_35) rfl  kt) ?_
      show own_Rch p e below _ T8 (mkF m 36 #[.val (.ref b), .val (.int (0 : Int32)), .val (.int (2 : Int32)), .val (.int (-1 : Int32)), .val (.int (1 : Int32)), .val (.long y1), .second] [(.int (0 : Int32)), (.int (-1 : Int32))])
      refine own_st (fun _ kt => XS.icmpYes X8.here hx rfl (pc0 := 36) (pc' := 59) rfl (hb hby own_d10_36) rfl (tlt ((by decide) : (-1 : Int32) < (0 : Int32))).1 (by decide) (by decide) kt) ?_
      show own_Rch p e below _ T8 (mkF m 59 #[.val (.ref b), .val (.int (0 : Int32)), .val (.int (2 : Int32)), .val (.int (-1 : Int32)), .val (.int (1 : Int32)), .val (.long y1), .second] [])
      refine own_st (fun _ kt => XS.aloadN X8.here hx rfl (hb hby own_d10_59) rfl rfl  kt) ?_
      show own_Rch p e below _ T8 (mkF m 60 #[.val (.ref b), .val (.int (0 : Int32)), .val (.int (2 : Int32)), .val (.int (-1 : Int32)), .val (.int (1 : Int32)), .val (.long y1), .second] [(.ref b)])
      refine own_st (fun _ kt => XS.iloadN X8.here hx rfl (hb hby own_d10_60) rfl  kt) ?_
      show own_Rch p e below _ T8 (mkF m 61 #[.val (.ref b), .val (.int (0 : Int32)), .val (.int (2 : Int32)), .val (.int (-1 : Int32)), .val (.int (1 : Int32)), .val (.long y1), .second] [(.int (-1 : Int32)), (.ref b)])
      refine own_st (fun _ kt => XS.iconst X8.here hx rfl (hb hby own_d10_61) kt) ?_
      show own_Rch p e below _ T8 (mkF m 62 #[.val (.ref b), .val (.int (0 : Int32)), .val (.int (2 : Int32)), .val (.int (-1 : Int32)), .val (.int (1 : Int32)), .val (.long y1), .second] [(.int (1 : Int32)), (.int (-1 : Int32)), (.ref b)])
      refine own_st (fun _ kt => XS.iadd X8.here hx rfl (hb hby own_d10_62) rfl kt) ?_
      show own_Rch p e below _ T8 (mkF m 63 #[.val (.ref b), .val (.int (0 : Int32)), .val (.int (2 : Int32)), .val (.int (-1 : Int32)), .val (.int (1 : Int32)), .val (.long y1), .second] [(.int (0 : Int32)), (.ref b)])
      refine own_st (fun _ kt => XS.lload X8.here hx rfl (hb hby own_d10_63) rfl  kt) ?_
      show own_Rch p e below _ T8 (mkF m 65 #[.val (.ref b), .val (.int (0 : Int32)), .val (.int (2 : Int32)), .val (.int (-1 : Int32)), .val (.int (1 : Int32)), .val (.long y1), .second] [(.long y1), (.int (0 : Int32)), (.ref b)])
      obtain ⟨cl9, Ar9, q9, S9, M9, H9, G9⟩ := id V8s
      have hin9 : ¬ ((0 : Int32) < 0 ∨ cl9.slots.size ≤ ((0 : Int32)).toNatClampNeg) := inb_of S9 ⟨by decide, by decide⟩
      obtain ⟨T9, h9, X9, e9, W9, st9⟩ := stJ X8 hx hZ e8 Ar9 (j := (0 : Int32)) hin9 (g := (mkF m 65 #[.val (.ref b), .val (.int (0 : Int32)), .val (.int (2 : Int32)), .val (.int (-1 : Int32)), .val (.int (1 : Int32)), .val (.long y1), .second] [(.long y1), (.int (0 : Int32)), (.ref b)])) rfl rfl (hb hby own_d10_65)
      have V9 := Arv.set Ar9 q9 S9 M9 H9 G9 rfl W9 0 rfl (Nat.le_of_ble_eq_true rfl)
      have V9s : Arv Z h9 b k .long (1024 : Int32) [(.long y1), (.long w0), (.long y2), (.long y3)] (.long (0 : Int64)) := V9
      have N9 := Fr.snoc X9 N8 gb
      refine own_st st9 ?_
      have O2_x9 := O2_x8.wr W9 gb
      have K2_x9 := K2_x8.wr W9 (Or.inl (List.mem_of_getElem? (i := 0) rfl))
      show own_Rch p e below _ T9 (mkF m 66 #[.val (.ref b), .val (.int (0 : Int32)), .val (.int (2 : Int32)), .val (.int (-1 : Int32)), .val (.int (1 : Int32)), .val (.long y1), .second] [])
      refine own_st (fun _ kt => XS.goto X9.here hx rfl (pc0 := 66) (pc' := 3) rfl (hb hby own_d10_66) (by decide) (by decide) kt) ?_
      show own_Rch p e below _ T9 (mkF m 3 #[.val (.ref b), .val (.int (0 : Int32)), .val (.int (2 : Int32)), .val (.int (-1 : Int32)), .val (.int (1 : Int32)), .val (.long y1), .second] [])
      refine own_st (fun _ kt => XS.iinc X9.here hx rfl (hb hby own_d10_3) rfl (l' := #[.val (.ref b), .val (.int (0 : Int32)), .val (.int (2 : Int32)), .val (.int (-1 : Int32)), .val (.int (2 : Int32)), .val (.long y1), .second]) rfl kt) ?_
      exact c2 y1 w0 y1 (-1 : Int32) _ _ X9 _ e9 N9 O2_x9 K2_x9 V9s (hI.trans (congrArg (own_isr []) (by simp [own_insr, hc28_5] : own_insr y1 [w0] = [w0, y1])))
    · -- pc 28: False
      refine own_st (fun _ kt => XS.ifYes X2.here hx rfl (pc0 := 28) (pc' := 66) rfl (hb hby own_d10_28) rfl ((if0 _ _).trans (flt hc28_5).2.1) (by decide) (by decide) kt) ?_
      rw [lw_lt] at hc28_5
      show own_Rch p e below _ T2 (mkF m 66 #[.val (.ref b), .val (.int (0 : Int32)), .val (.int (2 : Int32)), .val (.int (1 : Int32)), .val (.int (1 : Int32)), .val (.long y1), .second] [])
      refine own_st (fun _ kt => XS.goto X2.here hx rfl (pc0 := 66) (pc' := 3) rfl (hb hby own_d10_66) (by decide) (by decide) kt) ?_
      show own_Rch p e below _ T2 (mkF m 3 #[.val (.ref b), .val (.int (0 : Int32)), .val (.int (2 : Int32)), .val (.int (1 : Int32)), .val (.int (1 : Int32)), .val (.long y1), .second] [])
      refine own_st (fun _ kt => XS.iinc X2.here hx rfl (hb hby own_d10_3) rfl (l' := #[.val (.ref b), .val (.int (0 : Int32)), .val (.int (2 : Int32)), .val (.int (1 : Int32)), .val (.int (2 : Int32)), .val (.long y1), .second]) rfl kt) ?_
      exact c2 w0 y1 y1 (1 : Int32) _ _ X2 _ e2 N2 O2 K2 VB1 (hI.trans (congrArg (own_isr []) (by simp [own_insr, hc28_5] : own_insr y1 [w0] = [y1, w0])))
  show own_Rch p e below _ s₁ (mkF m 0 #[.val (.ref b), .val (.int (0 : Int32)), .val (.int (2 : Int32)), .unset, .unset, .unset, .unset] [])
  refine own_st (fun _ kt => XS.iloadN X0.here hx rfl (hb hby own_d10_0) rfl  kt) ?_
  show own_Rch p e below _ s₁ (mkF m 1 #[.val (.ref b), .val (.int (0 : Int32)), .val (.int (2 : Int32)), .unset, .unset, .unset, .unset] [(.int (0 : Int32))])
  refine own_st (fun _ kt => XS.istore X0.here hx rfl (hb hby own_d10_1) rfl (l' := #[.val (.ref b), .val (.int (0 : Int32)), .val (.int (2 : Int32)), .unset, .val (.int (0 : Int32)), .unset, .unset]) rfl kt) ?_
  show own_Rch p e below _ s₁ (mkF m 3 #[.val (.ref b), .val (.int (0 : Int32)), .val (.int (2 : Int32)), .unset, .val (.int (0 : Int32)), .unset, .unset] [])
  refine own_st (fun _ kt => XS.iinc X0.here hx rfl (hb hby own_d10_3) rfl (l' := #[.val (.ref b), .val (.int (0 : Int32)), .val (.int (2 : Int32)), .unset, .val (.int (1 : Int32)), .unset, .unset]) rfl kt) ?_
  exact c1 y0 _ _ X0 _ e0 N0 O0 K0 VB rfl
def own_Q_own_qa2 (Z : State) (b : Addr) (k : ClassId) (y0 : Int64) (y1 : Int64) (y2 : Int64) (y3 : Int64) (h0 : Heap) (n0 : Nat) (v : Option Value) (h : Heap) (L : List Loc) : Prop := ∃ w0 w1, own_isort [y0, y1] = [w0, w1] ∧ v = none ∧ Fr n0 L ∧ Keep h0 h [b] ∧ Arv Z h b k .long (1024 : Int32) [(.long w0), (.long w1), (.long y2), (.long y3)] (.long (0 : Int64))
set_option maxRecDepth 65536 in
set_option maxHeartbeats 40000000 in
theorem own_qa2 (l : Launch) (Z : State) (a0 : Array Value) (hw : ∀ d ∈ tables_1, d.before a0 Z = true) (ws : List Jvm.Cond) (b : Addr) (k : ClassId) (y0 : Int64) (y1 : Int64) (y2 : Int64) (y3 : Int64) (h0 : Heap) (n0 : Nat) (O0 : Old Z n0 h0) (VB : Arv Z h0 b k .long (1024 : Int32) [(.long y0), (.long y1), (.long y2), (.long y3)] (.long (0 : Int64))) (gb : n0 ≤ b) :
    MetFree l (⟨"java/util/DualPivotQuicksort", "sort", "(Ljava/util/DualPivotQuicksort$Sorter;[JIII)V"⟩ : MethodName) (head1 (Jvm.Cond.code (⟨"java/util/DualPivotQuicksort", "sort", "(Ljava/util/DualPivotQuicksort$Sorter;[JIII)V"⟩ : MethodName) jdk_2529_method_13_code 25 none :: ws) ({ frames := 1, cells := 0, slots := 0, locals := 18 } : Room)) (fun args_ U => args_ = #[.null, (.ref b), (.int (0 : Int32)), (.int (0 : Int32)), (.int (2 : Int32))] ∧ Z.Warmed39 U.vm ∧ U.heap = h0) (fun _ _ _ _ _ => True) (fun _ U o U' => ∃ v L, o = .returned v ∧ (own_Q_own_qa2 Z b k y0 y1 y2 y3 h0 n0) v U'.heap L ∧ FrameEnd U o U' L ({ frames := 1, cells := 0, slots := 0, locals := 18 } : Room).cells ({ frames := 1, cells := 0, slots := 0, locals := 18 } : Room).slots) := by
  refine MetFree.of_bodySF (plainFor_of_name own_pn3) hisR ?_
  intro p e s m args below meth c s₁ Bd hml0 hP hK
  obtain ⟨rfl, hZ, hh⟩ := hP
  have hx := Bd.exec
  have hby := Bd.bytes
  have hml : c.maxLocals = 25 := hml0
  have hown : s.vm.findClass "java/util/DualPivotQuicksort" = some m.cls := findClass_of_methodNamed Bd.named
  have hnm := (name_of_methodNamed Bd.named Bd.method).1
  have X0 : Stand p l e ({ frames := 1, cells := 0, slots := 0, locals := 18 } : Room) s m #[.null, (.ref b), (.int (0 : Int32)), (.int (0 : Int32)), (.int (2 : Int32))] below meth c s₁ [] 0 0 := Stand.of_body Bd
  have e0 : s₁.heap = h0 := by rw [← hh, Bd.state]; rfl
  have N0 := Fr.nil n0
  refine own_close (s := s) (Q := (own_Q_own_qa2 Z b k y0 y1 y2 y3 h0 n0)) (C := (({ frames := 1, cells := 0, slots := 0, locals := 18 } : Room)).cells) (N := (({ frames := 1, cells := 0, slots := 0, locals := 18 } : Room)).slots) (own_st (fun _ kt => castTop (own_ef9n0 m b (0 : Int32) (0 : Int32) (2 : Int32)) kt) ?_)
  have K0 := Keep.refl h0 [b]
  show own_Rch p e below _ s₁ (mkF m 0 #[.val .null, .val (.ref b), .val (.int (0 : Int32)), .val (.int (0 : Int32)), .val (.int (2 : Int32)), .unset, .unset, .unset, .unset, .unset, .unset, .unset, .unset, .unset, .unset, .unset, .unset, .unset, .unset, .unset, .unset, .unset, .unset, .unset, .unset] [])
  refine own_st (fun _ kt => XS.iload X0.here hx rfl (hb hby own_d9_0) rfl  kt) ?_
  show own_Rch p e below _ s₁ (mkF m 2 #[.val .null, .val (.ref b), .val (.int (0 : Int32)), .val (.int (0 : Int32)), .val (.int (2 : Int32)), .unset, .unset, .unset, .unset, .unset, .unset, .unset, .unset, .unset, .unset, .unset, .unset, .unset, .unset, .unset, .unset, .unset, .unset, .unset, .unset] [(.int (2 : Int32))])
  refine own_st (fun _ kt => XS.iconst X0.here hx rfl (hb hby own_d9_2) kt) ?_
  show own_Rch p e below _ s₁ (mkF m 3 #[.val .null, .val (.ref b), .val (.int (0 : Int32)), .val (.int (0 : Int32)), .val (.int (2 : Int32)), .unset, .unset, .unset, .unset, .unset, .unset, .unset, .unset, .unset, .unset, .unset, .unset, .unset, .unset, .unset, .unset, .unset, .unset, .unset, .unset] [(.int (1 : Int32)), (.int (2 : Int32))])
  refine own_st (fun _ kt => XS.isub X0.here hx rfl (hb hby own_d9_3) rfl kt) ?_
  show own_Rch p e below _ s₁ (mkF m 4 #[.val .null, .val (.ref b), .val (.int (0 : Int32)), .val (.int (0 : Int32)), .val (.int (2 : Int32)), .unset, .unset, .unset, .unset, .unset, .unset, .unset, .unset, .unset, .unset, .unset, .unset, .unset, .unset, .unset, .unset, .unset, .unset, .unset, .unset] [(.int (1 : Int32))])
  refine own_st (fun _ kt => XS.istore X0.here hx rfl (hb hby own_d9_4) rfl (l' := #[.val .null, .val (.ref b), .val (.int (0 : Int32)), .val (.int (0 : Int32)), .val (.int (2 : Int32)), .val (.int (1 : Int32)), .unset, .unset, .unset, .unset, .unset, .unset, .unset, .unset, .unset, .unset, .unset, .unset, .unset, .unset, .unset, .unset, .unset, .unset, .unset]) rfl kt) ?_
  show own_Rch p e below _ s₁ (mkF m 6 #[.val .null, .val (.ref b), .val (.int (0 : Int32)), .val (.int (0 : Int32)), .val (.int (2 : Int32)), .val (.int (1 : Int32)), .unset, .unset, .unset, .unset, .unset, .unset, .unset, .unset, .unset, .unset, .unset, .unset, .unset, .unset, .unset, .unset, .unset, .unset, .unset] [])
  refine own_st (fun _ kt => XS.iload X0.here hx rfl (hb hby own_d9_6) rfl  kt) ?_
  show own_Rch p e below _ s₁ (mkF m 8 #[.val .null, .val (.ref b), .val (.int (0 : Int32)), .val (.int (0 : Int32)), .val (.int (2 : Int32)), .val (.int (1 : Int32)), .unset, .unset, .unset, .unset, .unset, .unset, .unset, .unset, .unset, .unset, .unset, .unset, .unset, .unset, .unset, .unset, .unset, .unset, .unset] [(.int (2 : Int32))])
  refine own_st (fun _ kt => XS.iloadN X0.here hx rfl (hb hby own_d9_8) rfl  kt) ?_
  show own_Rch p e below _ s₁ (mkF m 9 #[.val .null, .val (.ref b), .val (.int (0 : Int32)), .val (.int (0 : Int32)), .val (.int (2 : Int32)), .val (.int (1 : Int32)), .unset, .unset, .unset, .unset, .unset, .unset, .unset, .unset, .unset, .unset, .unset, .unset, .unset, .unset, .unset, .unset, .unset, .unset, .unset] [(.int (0 : Int32)), (.int (2 : Int32))])
  refine own_st (fun _ kt => XS.isub X0.here hx rfl (hb hby own_d9_9) rfl kt) ?_
  show own_Rch p e below _ s₁ (mkF m 10 #[.val .null, .val (.ref b), .val (.int (0 : Int32)), .val (.int (0 : Int32)), .val (.int (2 : Int32)), .val (.int (1 : Int32)), .unset, .unset, .unset, .unset, .unset, .unset, .unset, .unset, .unset, .unset, .unset, .unset, .unset, .unset, .unset, .unset, .unset, .unset, .unset] [(.int (2 : Int32))])
  refine own_st (fun _ kt => XS.istore X0.here hx rfl (hb hby own_d9_10) rfl (l' := #[.val .null, .val (.ref b), .val (.int (0 : Int32)), .val (.int (0 : Int32)), .val (.int (2 : Int32)), .val (.int (1 : Int32)), .val (.int (2 : Int32)), .unset, .unset, .unset, .unset, .unset, .unset, .unset, .unset, .unset, .unset, .unset, .unset, .unset, .unset, .unset, .unset, .unset, .unset]) rfl kt) ?_
  show own_Rch p e below _ s₁ (mkF m 12 #[.val .null, .val (.ref b), .val (.int (0 : Int32)), .val (.int (0 : Int32)), .val (.int (2 : Int32)), .val (.int (1 : Int32)), .val (.int (2 : Int32)), .unset, .unset, .unset, .unset, .unset, .unset, .unset, .unset, .unset, .unset, .unset, .unset, .unset, .unset, .unset, .unset, .unset, .unset] [])
  refine own_st (fun _ kt => XS.iload X0.here hx rfl (hb hby own_d9_12) rfl  kt) ?_
  show own_Rch p e below _ s₁ (mkF m 14 #[.val .null, .val (.ref b), .val (.int (0 : Int32)), .val (.int (0 : Int32)), .val (.int (2 : Int32)), .val (.int (1 : Int32)), .val (.int (2 : Int32)), .unset, .unset, .unset, .unset, .unset, .unset, .unset, .unset, .unset, .unset, .unset, .unset, .unset, .unset, .unset, .unset, .unset, .unset] [(.int (2 : Int32))])
  refine own_st (fun _ kt => XS.bipush X0.here hx rfl (hb hby own_d9_14) kt) ?_
  show own_Rch p e below _ s₁ (mkF m 16 #[.val .null, .val (.ref b), .val (.int (0 : Int32)), .val (.int (0 : Int32)), .val (.int (2 : Int32)), .val (.int (1 : Int32)), .val (.int (2 : Int32)), .unset, .unset, .unset, .unset, .unset, .unset, .unset, .unset, .unset, .unset, .unset, .unset, .unset, .unset, .unset, .unset, .unset, .unset] [(.int (65 : Int32)), (.int (2 : Int32))])
  refine own_st (fun _ kt => XS.iloadN X0.here hx rfl (hb hby own_d9_16) rfl  kt) ?_
  show own_Rch p e below _ s₁ (mkF m 17 #[.val .null, .val (.ref b), .val (.int (0 : Int32)), .val (.int (0 : Int32)), .val (.int (2 : Int32)), .val (.int (1 : Int32)), .val (.int (2 : Int32)), .unset, .unset, .unset, .unset, .unset, .unset, .unset, .unset, .unset, .unset, .unset, .unset, .unset, .unset, .unset, .unset, .unset, .unset] [(.int (0 : Int32)), (.int (65 : Int32)), (.int (2 : Int32))])
  refine own_st (fun _ kt => XS.iadd X0.here hx rfl (hb hby own_d9_17) rfl kt) ?_
  show own_Rch p e below _ s₁ (mkF m 18 #[.val .null, .val (.ref b), .val (.int (0 : Int32)), .val (.int (0 : Int32)), .val (.int (2 : Int32)), .val (.int (1 : Int32)), .val (.int (2 : Int32)), .unset, .unset, .unset, .unset, .unset, .unset, .unset, .unset, .unset, .unset, .unset, .unset, .unset, .unset, .unset, .unset, .unset, .unset] [(.int (65 : Int32)), (.int (2 : Int32))])
  refine own_st (fun _ kt => XS.icmpNo X0.here hx rfl (hb hby own_d9_18) rfl (tlt ((by decide) : (2 : Int32) < (65 : Int32))).2.1 kt) ?_
  show own_Rch p e below _ s₁ (mkF m 21 #[.val .null, .val (.ref b), .val (.int (0 : Int32)), .val (.int (0 : Int32)), .val (.int (2 : Int32)), .val (.int (1 : Int32)), .val (.int (2 : Int32)), .unset, .unset, .unset, .unset, .unset, .unset, .unset, .unset, .unset, .unset, .unset, .unset, .unset, .unset, .unset, .unset, .unset, .unset] [])
  refine own_st (fun _ kt => XS.iloadN X0.here hx rfl (hb hby own_d9_21) rfl  kt) ?_
  show own_Rch p e below _ s₁ (mkF m 22 #[.val .null, .val (.ref b), .val (.int (0 : Int32)), .val (.int (0 : Int32)), .val (.int (2 : Int32)), .val (.int (1 : Int32)), .val (.int (2 : Int32)), .unset, .unset, .unset, .unset, .unset, .unset, .unset, .unset, .unset, .unset, .unset, .unset, .unset, .unset, .unset, .unset, .unset, .unset] [(.int (0 : Int32))])
  refine own_st (fun _ kt => XS.iconst X0.here hx rfl (hb hby own_d9_22) kt) ?_
  show own_Rch p e below _ s₁ (mkF m 23 #[.val .null, .val (.ref b), .val (.int (0 : Int32)), .val (.int (0 : Int32)), .val (.int (2 : Int32)), .val (.int (1 : Int32)), .val (.int (2 : Int32)), .unset, .unset, .unset, .unset, .unset, .unset, .unset, .unset, .unset, .unset, .unset, .unset, .unset, .unset, .unset, .unset, .unset, .unset] [(.int (1 : Int32)), (.int (0 : Int32))])
  refine own_st (fun _ kt => XS.iand X0.here hx rfl (hb hby own_d9_23) rfl kt) ?_
  show own_Rch p e below _ s₁ (mkF m 24 #[.val .null, .val (.ref b), .val (.int (0 : Int32)), .val (.int (0 : Int32)), .val (.int (2 : Int32)), .val (.int (1 : Int32)), .val (.int (2 : Int32)), .unset, .unset, .unset, .unset, .unset, .unset, .unset, .unset, .unset, .unset, .unset, .unset, .unset, .unset, .unset, .unset, .unset, .unset] [(.int (0 : Int32))])
  refine own_st (fun _ kt => XS.ifYes X0.here hx rfl (pc0 := 24) (pc' := 46) rfl (hb hby own_d9_24) rfl ((if0 _ _).trans (flt ((by decide) : ¬ ((0 : Int32) < (0 : Int32)))).2.2.2) (by decide) (by decide) kt) ?_
  show own_Rch p e below _ s₁ (mkF m 46 #[.val .null, .val (.ref b), .val (.int (0 : Int32)), .val (.int (0 : Int32)), .val (.int (2 : Int32)), .val (.int (1 : Int32)), .val (.int (2 : Int32)), .unset, .unset, .unset, .unset, .unset, .unset, .unset, .unset, .unset, .unset, .unset, .unset, .unset, .unset, .unset, .unset, .unset, .unset] [])
  refine own_st (fun _ kt => XS.iload X0.here hx rfl (hb hby own_d9_46) rfl  kt) ?_
  show own_Rch p e below _ s₁ (mkF m 48 #[.val .null, .val (.ref b), .val (.int (0 : Int32)), .val (.int (0 : Int32)), .val (.int (2 : Int32)), .val (.int (1 : Int32)), .val (.int (2 : Int32)), .unset, .unset, .unset, .unset, .unset, .unset, .unset, .unset, .unset, .unset, .unset, .unset, .unset, .unset, .unset, .unset, .unset, .unset] [(.int (2 : Int32))])
  refine own_st (fun _ kt => XS.bipush X0.here hx rfl (hb hby own_d9_48) kt) ?_
  show own_Rch p e below _ s₁ (mkF m 50 #[.val .null, .val (.ref b), .val (.int (0 : Int32)), .val (.int (0 : Int32)), .val (.int (2 : Int32)), .val (.int (1 : Int32)), .val (.int (2 : Int32)), .unset, .unset, .unset, .unset, .unset, .unset, .unset, .unset, .unset, .unset, .unset, .unset, .unset, .unset, .unset, .unset, .unset, .unset] [(.int (44 : Int32)), (.int (2 : Int32))])
  refine own_st (fun _ kt => XS.icmpNo X0.here hx rfl (hb hby own_d9_50) rfl (tlt ((by decide) : (2 : Int32) < (44 : Int32))).2.1 kt) ?_
  show own_Rch p e below _ s₁ (mkF m 53 #[.val .null, .val (.ref b), .val (.int (0 : Int32)), .val (.int (0 : Int32)), .val (.int (2 : Int32)), .val (.int (1 : Int32)), .val (.int (2 : Int32)), .unset, .unset, .unset, .unset, .unset, .unset, .unset, .unset, .unset, .unset, .unset, .unset, .unset, .unset, .unset, .unset, .unset, .unset] [])
  refine own_st (fun _ kt => XS.aloadN X0.here hx rfl (hb hby own_d9_53) rfl rfl  kt) ?_
  show own_Rch p e below _ s₁ (mkF m 54 #[.val .null, .val (.ref b), .val (.int (0 : Int32)), .val (.int (0 : Int32)), .val (.int (2 : Int32)), .val (.int (1 : Int32)), .val (.int (2 : Int32)), .unset, .unset, .unset, .unset, .unset, .unset, .unset, .unset, .unset, .unset, .unset, .unset, .unset, .unset, .unset, .unset, .unset, .unset] [(.ref b)])
  refine own_st (fun _ kt => XS.iloadN X0.here hx rfl (hb hby own_d9_54) rfl  kt) ?_
  show own_Rch p e below _ s₁ (mkF m 55 #[.val .null, .val (.ref b), .val (.int (0 : Int32)), .val (.int (0 : Int32)), .val (.int (2 : Int32)), .val (.int (1 : Int32)), .val (.int (2 : Int32)), .unset, .unset, .unset, .unset, .unset, .unset, .unset, .unset, .unset, .unset, .unset, .unset, .unset, .unset, .unset, .unset, .unset, .unset] [(.int (0 : Int32)), (.ref b)])
  refine own_st (fun _ kt => XS.iload X0.here hx rfl (hb hby own_d9_55) rfl  kt) ?_
  show own_Rch p e below _ s₁ (mkF m 57 #[.val .null, .val (.ref b), .val (.int (0 : Int32)), .val (.int (0 : Int32)), .val (.int (2 : Int32)), .val (.int (1 : Int32)), .val (.int (2 : Int32)), .unset, .unset, .unset, .unset, .unset, .unset, .unset, .unset, .unset, .unset, .unset, .unset, .unset, .unset, .unset, .unset, .unset, .unset] [(.int (2 : Int32)), (.int (0 : Int32)), (.ref b)])
  obtain ⟨_, _, ⟨T1, L1, k1, n1⟩, -, X1, ⟨Lc1, hQ1, l1, y1, z1⟩, st1⟩ := Jvm.LawKit.callS X0 hx (y := (⟨"java/util/DualPivotQuicksort", "insertionSort", "([JII)V"⟩ : MethodName)) hown (mvT hZ (hw _ (List.mem_of_getElem? (i := 44) rfl))) (mvT hZ (hw _ (List.mem_of_getElem? (i := 45) rfl))) (mvT hZ (hw _ (List.mem_of_getElem? (i := 39) rfl))) (mvT hZ (hw _ (List.mem_of_getElem? (i := 46) rfl))) (by decide) (backOf (W := 0) (own_ins2 l Z a0 hw [] b k y0 y1 y2 y3 h0 n0 O0 VB gb) hZ (hw _ (List.mem_of_getElem? (i := 46) rfl)) (hw _ (List.mem_of_getElem? (i := 39) rfl)) (by decide) (by decide)) (g := (mkF m 57 #[.val .null, .val (.ref b), .val (.int (0 : Int32)), .val (.int (0 : Int32)), .val (.int (2 : Int32)), .val (.int (1 : Int32)), .val (.int (2 : Int32)), .unset, .unset, .unset, .unset, .unset, .unset, .unset, .unset, .unset, .unset, .unset, .unset, .unset, .unset, .unset, .unset, .unset, .unset] [(.int (2 : Int32)), (.int (0 : Int32)), (.ref b)])) rfl (by rw [hml]; rfl) (argsL := [(.ref b), (.int (0 : Int32)), (.int (2 : Int32))]) (rest := []) (lenOf own_pd1 rfl) rfl (by show 2 * 0 + _ ≤ _; exact Nat.le_of_eq rfl) (hb hby own_d9_57) (fun _ _ => ⟨rfl, e0, (by decide : 0 + 0 ≤ _), (by decide : 0 + 0 ≤ _)⟩)
  dsimp only [Pt.U, Pt.locs, Pt.cells, Pt.slots] at X1 l1 y1 z1 st1 hQ1
  subst l1 y1 z1
  obtain ⟨w0, w1, hs1, rfl, N1q, K1, Vb1⟩ := hQ1
  have N1 := Fr.app N0 N1q
  refine own_st st1 ?_
  have O0_x1 := O0.keep K1 (allS gb all0)
  have K0_x1 := K0.trans K1 (allS (Or.inl (List.mem_of_getElem? (i := 0) rfl)) all0)
  show own_Rch p e below _ T1 (mkF m 60 #[.val .null, .val (.ref b), .val (.int (0 : Int32)), .val (.int (0 : Int32)), .val (.int (2 : Int32)), .val (.int (1 : Int32)), .val (.int (2 : Int32)), .unset, .unset, .unset, .unset, .unset, .unset, .unset, .unset, .unset, .unset, .unset, .unset, .unset, .unset, .unset, .unset, .unset, .unset] [])
  refine own_retV X1 hx Bd.notSynchronized Bd.returns (hb hby own_d9_60) (by decide) (by decide) ?_
  exact ⟨_, _, hs1, rfl, N1, K0_x1, Vb1⟩
def own_Q_own_qb2 (Z : State) (b : Addr) (k : ClassId) (y0 : Int64) (y1 : Int64) (y2 : Int64) (y3 : Int64) (h0 : Heap) (n0 : Nat) (v : Option Value) (h : Heap) (L : List Loc) : Prop := ∃ w0 w1, own_isort [y0, y1] = [w0, w1] ∧ v = none ∧ Fr n0 L ∧ Keep h0 h [b] ∧ Arv Z h b k .long (1024 : Int32) [(.long w0), (.long w1), (.long y2), (.long y3)] (.long (0 : Int64))
set_option maxRecDepth 65536 in
set_option maxHeartbeats 40000000 in
theorem own_qb2 (l : Launch) (Z : State) (a0 : Array Value) (hw : ∀ d ∈ tables_1, d.before a0 Z = true) (ws : List Jvm.Cond) (b : Addr) (k : ClassId) (y0 : Int64) (y1 : Int64) (y2 : Int64) (y3 : Int64) (h0 : Heap) (n0 : Nat) (O0 : Old Z n0 h0) (VB : Arv Z h0 b k .long (1024 : Int32) [(.long y0), (.long y1), (.long y2), (.long y3)] (.long (0 : Int64))) (gb : n0 ≤ b) :
    MetFree l (⟨"java/util/DualPivotQuicksort", "sort", "([JIII)V"⟩ : MethodName) (head1 (Jvm.Cond.code (⟨"java/util/DualPivotQuicksort", "sort", "([JIII)V"⟩ : MethodName) jdk_2529_method_12_code 7 none :: ws) ({ frames := 2, cells := 0, slots := 0, locals := 54 } : Room)) (fun args_ U => args_ = #[(.ref b), (.int (0 : Int32)), (.int (0 : Int32)), (.int (2 : Int32))] ∧ Z.Warmed39 U.vm ∧ U.heap = h0) (fun _ _ _ _ _ => True) (fun _ U o U' => ∃ v L, o = .returned v ∧ (own_Q_own_qb2 Z b k y0 y1 y2 y3 h0 n0) v U'.heap L ∧ FrameEnd U o U' L ({ frames := 2, cells := 0, slots := 0, locals := 54 } : Room).cells ({ frames := 2, cells := 0, slots := 0, locals := 54 } : Room).slots) := by
  refine MetFree.of_bodySF (plainFor_of_name own_pn3) hisR ?_
  intro p e s m args below meth c s₁ Bd hml0 hP hK
  obtain ⟨rfl, hZ, hh⟩ := hP
  have hx := Bd.exec
  have hby := Bd.bytes
  have hml : c.maxLocals = 7 := hml0
  have hown : s.vm.findClass "java/util/DualPivotQuicksort" = some m.cls := findClass_of_methodNamed Bd.named
  have hnm := (name_of_methodNamed Bd.named Bd.method).1
  have X0 : Stand p l e ({ frames := 2, cells := 0, slots := 0, locals := 54 } : Room) s m #[(.ref b), (.int (0 : Int32)), (.int (0 : Int32)), (.int (2 : Int32))] below meth c s₁ [] 0 0 := Stand.of_body Bd
  have e0 : s₁.heap = h0 := by rw [← hh, Bd.state]; rfl
  have N0 := Fr.nil n0
  refine own_close (s := s) (Q := (own_Q_own_qb2 Z b k y0 y1 y2 y3 h0 n0)) (C := (({ frames := 2, cells := 0, slots := 0, locals := 54 } : Room)).cells) (N := (({ frames := 2, cells := 0, slots := 0, locals := 54 } : Room)).slots) (own_st (fun _ kt => castTop (own_ef8 m b (0 : Int32) (0 : Int32) (2 : Int32)) kt) ?_)
  have K0 := Keep.refl h0 [b]
  show own_Rch p e below _ s₁ (mkF m 0 #[.val (.ref b), .val (.int (0 : Int32)), .val (.int (0 : Int32)), .val (.int (2 : Int32)), .unset, .unset, .unset] [])
  refine own_st (fun _ kt => XS.iloadN X0.here hx rfl (hb hby own_d8_0) rfl  kt) ?_
  show own_Rch p e below _ s₁ (mkF m 1 #[.val (.ref b), .val (.int (0 : Int32)), .val (.int (0 : Int32)), .val (.int (2 : Int32)), .unset, .unset, .unset] [(.int (2 : Int32))])
  refine own_st (fun _ kt => XS.iloadN X0.here hx rfl (hb hby own_d8_1) rfl  kt) ?_
  show own_Rch p e below _ s₁ (mkF m 2 #[.val (.ref b), .val (.int (0 : Int32)), .val (.int (0 : Int32)), .val (.int (2 : Int32)), .unset, .unset, .unset] [(.int (0 : Int32)), (.int (2 : Int32))])
  refine own_st (fun _ kt => XS.isub X0.here hx rfl (hb hby own_d8_2) rfl kt) ?_
  show own_Rch p e below _ s₁ (mkF m 3 #[.val (.ref b), .val (.int (0 : Int32)), .val (.int (0 : Int32)), .val (.int (2 : Int32)), .unset, .unset, .unset] [(.int (2 : Int32))])
  refine own_st (fun _ kt => XS.istore X0.here hx rfl (hb hby own_d8_3) rfl (l' := #[.val (.ref b), .val (.int (0 : Int32)), .val (.int (0 : Int32)), .val (.int (2 : Int32)), .val (.int (2 : Int32)), .unset, .unset]) rfl kt) ?_
  show own_Rch p e below _ s₁ (mkF m 5 #[.val (.ref b), .val (.int (0 : Int32)), .val (.int (0 : Int32)), .val (.int (2 : Int32)), .val (.int (2 : Int32)), .unset, .unset] [])
  refine own_st (fun _ kt => XS.iloadN X0.here hx rfl (hb hby own_d8_5) rfl  kt) ?_
  show own_Rch p e below _ s₁ (mkF m 6 #[.val (.ref b), .val (.int (0 : Int32)), .val (.int (0 : Int32)), .val (.int (2 : Int32)), .val (.int (2 : Int32)), .unset, .unset] [(.int (0 : Int32))])
  refine own_st (fun _ kt => XS.iconst X0.here hx rfl (hb hby own_d8_6) kt) ?_
  show own_Rch p e below _ s₁ (mkF m 7 #[.val (.ref b), .val (.int (0 : Int32)), .val (.int (0 : Int32)), .val (.int (2 : Int32)), .val (.int (2 : Int32)), .unset, .unset] [(.int (1 : Int32)), (.int (0 : Int32))])
  refine own_st (fun _ kt => XS.icmpYes X0.here hx rfl (pc0 := 7) (pc' := 68) rfl (hb hby own_d8_7) rfl (flt ((by decide) : ¬ ((1 : Int32) < (0 : Int32)))).2.2.2 (by decide) (by decide) kt) ?_
  show own_Rch p e below _ s₁ (mkF m 68 #[.val (.ref b), .val (.int (0 : Int32)), .val (.int (0 : Int32)), .val (.int (2 : Int32)), .val (.int (2 : Int32)), .unset, .unset] [])
  refine own_st (fun _ kt => XS.aconstNull X0.here hx rfl (hb hby own_d8_68) kt) ?_
  show own_Rch p e below _ s₁ (mkF m 69 #[.val (.ref b), .val (.int (0 : Int32)), .val (.int (0 : Int32)), .val (.int (2 : Int32)), .val (.int (2 : Int32)), .unset, .unset] [.null])
  refine own_st (fun _ kt => XS.aloadN X0.here hx rfl (hb hby own_d8_69) rfl rfl  kt) ?_
  show own_Rch p e below _ s₁ (mkF m 70 #[.val (.ref b), .val (.int (0 : Int32)), .val (.int (0 : Int32)), .val (.int (2 : Int32)), .val (.int (2 : Int32)), .unset, .unset] [(.ref b), .null])
  refine own_st (fun _ kt => XS.iconst X0.here hx rfl (hb hby own_d8_70) kt) ?_
  show own_Rch p e below _ s₁ (mkF m 71 #[.val (.ref b), .val (.int (0 : Int32)), .val (.int (0 : Int32)), .val (.int (2 : Int32)), .val (.int (2 : Int32)), .unset, .unset] [(.int (0 : Int32)), (.ref b), .null])
  refine own_st (fun _ kt => XS.iloadN X0.here hx rfl (hb hby own_d8_71) rfl  kt) ?_
  show own_Rch p e below _ s₁ (mkF m 72 #[.val (.ref b), .val (.int (0 : Int32)), .val (.int (0 : Int32)), .val (.int (2 : Int32)), .val (.int (2 : Int32)), .unset, .unset] [(.int (0 : Int32)), (.int (0 : Int32)), (.ref b), .null])
  refine own_st (fun _ kt => XS.iloadN X0.here hx rfl (hb hby own_d8_72) rfl  kt) ?_
  show own_Rch p e below _ s₁ (mkF m 73 #[.val (.ref b), .val (.int (0 : Int32)), .val (.int (0 : Int32)), .val (.int (2 : Int32)), .val (.int (2 : Int32)), .unset, .unset] [(.int (2 : Int32)), (.int (0 : Int32)), (.int (0 : Int32)), (.ref b), .null])
  obtain ⟨_, _, ⟨T1, L1, k1, n1⟩, -, X1, ⟨Lc1, hQ1, l1, y1, z1⟩, st1⟩ := Jvm.LawKit.callS X0 hx (y := (⟨"java/util/DualPivotQuicksort", "sort", "(Ljava/util/DualPivotQuicksort$Sorter;[JIII)V"⟩ : MethodName)) hown (mvT hZ (hw _ (List.mem_of_getElem? (i := 41) rfl))) (mvT hZ (hw _ (List.mem_of_getElem? (i := 42) rfl))) (mvT hZ (hw _ (List.mem_of_getElem? (i := 39) rfl))) (mvT hZ (hw _ (List.mem_of_getElem? (i := 43) rfl))) (by decide) (backOf (W := 0) (own_qa2 l Z a0 hw [] b k y0 y1 y2 y3 h0 n0 O0 VB gb) hZ (hw _ (List.mem_of_getElem? (i := 43) rfl)) (hw _ (List.mem_of_getElem? (i := 39) rfl)) (by decide) (by decide)) (g := (mkF m 73 #[.val (.ref b), .val (.int (0 : Int32)), .val (.int (0 : Int32)), .val (.int (2 : Int32)), .val (.int (2 : Int32)), .unset, .unset] [(.int (2 : Int32)), (.int (0 : Int32)), (.int (0 : Int32)), (.ref b), .null])) rfl (by rw [hml]; rfl) (argsL := [.null, (.ref b), (.int (0 : Int32)), (.int (0 : Int32)), (.int (2 : Int32))]) (rest := []) (lenOf own_pd2 rfl) rfl (by show 2 * 0 + _ ≤ _; exact Nat.le_of_eq rfl) (hb hby own_d8_73) (fun _ _ => ⟨rfl, e0, (by decide : 0 + 0 ≤ _), (by decide : 0 + 0 ≤ _)⟩)
  dsimp only [Pt.U, Pt.locs, Pt.cells, Pt.slots] at X1 l1 y1 z1 st1 hQ1
  subst l1 y1 z1
  obtain ⟨w0, w1, hs1, rfl, N1q, K1, Vb1⟩ := hQ1
  have N1 := Fr.app N0 N1q
  refine own_st st1 ?_
  have O0_x1 := O0.keep K1 (allS gb all0)
  have K0_x1 := K0.trans K1 (allS (Or.inl (List.mem_of_getElem? (i := 0) rfl)) all0)
  show own_Rch p e below _ T1 (mkF m 76 #[.val (.ref b), .val (.int (0 : Int32)), .val (.int (0 : Int32)), .val (.int (2 : Int32)), .val (.int (2 : Int32)), .unset, .unset] [])
  refine own_retV X1 hx Bd.notSynchronized Bd.returns (hb hby own_d8_76) (by decide) (by decide) ?_
  exact ⟨_, _, hs1, rfl, N1, K0_x1, Vb1⟩
def own_Q_own_as2 (Z : State) (b : Addr) (k : ClassId) (y0 : Int64) (y1 : Int64) (y2 : Int64) (y3 : Int64) (h0 : Heap) (n0 : Nat) (v : Option Value) (h : Heap) (L : List Loc) : Prop := ∃ w0 w1, own_isort [y0, y1] = [w0, w1] ∧ v = none ∧ Fr n0 L ∧ Keep h0 h [b] ∧ Arv Z h b k .long (1024 : Int32) [(.long w0), (.long w1), (.long y2), (.long y3)] (.long (0 : Int64))
set_option maxRecDepth 65536 in
set_option maxHeartbeats 40000000 in
theorem own_as2 (l : Launch) (Z : State) (a0 : Array Value) (hw : ∀ d ∈ tables_1, d.before a0 Z = true) (ws : List Jvm.Cond) (b : Addr) (k : ClassId) (y0 : Int64) (y1 : Int64) (y2 : Int64) (y3 : Int64) (h0 : Heap) (n0 : Nat) (O0 : Old Z n0 h0) (VB : Arv Z h0 b k .long (1024 : Int32) [(.long y0), (.long y1), (.long y2), (.long y3)] (.long (0 : Int64))) (gb : n0 ≤ b) :
    MetFree l (⟨"java/util/Arrays", "sort", "([JII)V"⟩ : MethodName) (head1 (Jvm.Cond.code (⟨"java/util/Arrays", "sort", "([JII)V"⟩ : MethodName) jdk_65_method_5_code 3 none :: ws) ({ frames := 3, cells := 0, slots := 0, locals := 72 } : Room)) (fun args_ U => args_ = #[(.ref b), (.int (0 : Int32)), (.int (2 : Int32))] ∧ Z.Warmed39 U.vm ∧ U.heap = h0) (fun _ _ _ _ _ => True) (fun _ U o U' => ∃ v L, o = .returned v ∧ (own_Q_own_as2 Z b k y0 y1 y2 y3 h0 n0) v U'.heap L ∧ FrameEnd U o U' L ({ frames := 3, cells := 0, slots := 0, locals := 72 } : Room).cells ({ frames := 3, cells := 0, slots := 0, locals := 72 } : Room).slots) := by
  refine MetFree.of_bodySF (plainFor_of_name own_pn2) hisR ?_
  intro p e s m args below meth c s₁ Bd hml0 hP hK
  obtain ⟨rfl, hZ, hh⟩ := hP
  have hx := Bd.exec
  have hby := Bd.bytes
  have hml : c.maxLocals = 3 := hml0
  have hown : s.vm.findClass "java/util/Arrays" = some m.cls := findClass_of_methodNamed Bd.named
  have hnm := (name_of_methodNamed Bd.named Bd.method).1
  have X0 : Stand p l e ({ frames := 3, cells := 0, slots := 0, locals := 72 } : Room) s m #[(.ref b), (.int (0 : Int32)), (.int (2 : Int32))] below meth c s₁ [] 0 0 := Stand.of_body Bd
  have e0 : s₁.heap = h0 := by rw [← hh, Bd.state]; rfl
  have N0 := Fr.nil n0
  refine own_close (s := s) (Q := (own_Q_own_as2 Z b k y0 y1 y2 y3 h0 n0)) (C := (({ frames := 3, cells := 0, slots := 0, locals := 72 } : Room)).cells) (N := (({ frames := 3, cells := 0, slots := 0, locals := 72 } : Room)).slots) (own_st (fun _ kt => castTop (own_ef6 m b (0 : Int32) (2 : Int32)) kt) ?_)
  have K0 := Keep.refl h0 [b]
  show own_Rch p e below _ s₁ (mkF m 0 #[.val (.ref b), .val (.int (0 : Int32)), .val (.int (2 : Int32))] [])
  refine own_st (fun _ kt => XS.aloadN X0.here hx rfl (hb hby own_d6_0) rfl rfl  kt) ?_
  show own_Rch p e below _ s₁ (mkF m 1 #[.val (.ref b), .val (.int (0 : Int32)), .val (.int (2 : Int32))] [(.ref b)])
  obtain ⟨cl1, Ar1, -, S1, M1, -, -⟩ := id VB
  refine own_st (X0.arraylength hx (by rw [e0]; exact Ar1.1) (State.isArrayOf_alike (hZ).alike Ar1.2.1) (g := (mkF m 1 #[.val (.ref b), .val (.int (0 : Int32)), .val (.int (2 : Int32))] [(.ref b)])) rfl rfl (hb hby own_d6_1)) ?_
  rw [len_of S1 M1]
  show own_Rch p e below _ s₁ (mkF m 2 #[.val (.ref b), .val (.int (0 : Int32)), .val (.int (2 : Int32))] [(.int (1024 : Int32))])
  refine own_st (fun _ kt => XS.iloadN X0.here hx rfl (hb hby own_d6_2) rfl  kt) ?_
  show own_Rch p e below _ s₁ (mkF m 3 #[.val (.ref b), .val (.int (0 : Int32)), .val (.int (2 : Int32))] [(.int (0 : Int32)), (.int (1024 : Int32))])
  refine own_st (fun _ kt => XS.iloadN X0.here hx rfl (hb hby own_d6_3) rfl  kt) ?_
  show own_Rch p e below _ s₁ (mkF m 4 #[.val (.ref b), .val (.int (0 : Int32)), .val (.int (2 : Int32))] [(.int (2 : Int32)), (.int (0 : Int32)), (.int (1024 : Int32))])
  obtain ⟨_, _, ⟨T2, L2, k2, n2⟩, -, X2, ⟨Lc2, hQ2, l2, y2, z2⟩, st2⟩ := Jvm.LawKit.callS X0 hx (y := (⟨"java/util/Arrays", "rangeCheck", "(III)V"⟩ : MethodName)) hown (mvT hZ (hw _ (List.mem_of_getElem? (i := 34) rfl))) (mvT hZ (hw _ (List.mem_of_getElem? (i := 35) rfl))) (mvT hZ (hw _ (List.mem_of_getElem? (i := 32) rfl))) (mvT hZ (hw _ (List.mem_of_getElem? (i := 36) rfl))) (by decide) (backOf (W := 0) (own_rc l Z a0 hw [] (1024 : Int32) (0 : Int32) (2 : Int32) h0 n0 O0 (by decide) (by decide) (by decide)) hZ (hw _ (List.mem_of_getElem? (i := 36) rfl)) (hw _ (List.mem_of_getElem? (i := 32) rfl)) (by decide) (by decide)) (g := (mkF m 4 #[.val (.ref b), .val (.int (0 : Int32)), .val (.int (2 : Int32))] [(.int (2 : Int32)), (.int (0 : Int32)), (.int (1024 : Int32))])) rfl (by rw [hml]; rfl) (argsL := [(.int (1024 : Int32)), (.int (0 : Int32)), (.int (2 : Int32))]) (rest := []) (lenOf own_pd3 rfl) rfl (by show 2 * 0 + _ ≤ _; exact Nat.le_of_eq rfl) (hb hby own_d6_4) (fun _ _ => ⟨rfl, e0, (by decide : 0 + 0 ≤ _), (by decide : 0 + 0 ≤ _)⟩)
  dsimp only [Pt.U, Pt.locs, Pt.cells, Pt.slots] at X2 l2 y2 z2 st2 hQ2
  subst l2 y2 z2
  obtain ⟨rfl, N2q, hh2⟩ := hQ2
  have N2 := Fr.app N0 N2q
  refine own_st st2 ?_
  show own_Rch p e below _ T2 (mkF m 7 #[.val (.ref b), .val (.int (0 : Int32)), .val (.int (2 : Int32))] [])
  refine own_st (fun _ kt => XS.aloadN X2.here hx rfl (hb hby own_d6_7) rfl rfl  kt) ?_
  show own_Rch p e below _ T2 (mkF m 8 #[.val (.ref b), .val (.int (0 : Int32)), .val (.int (2 : Int32))] [(.ref b)])
  refine own_st (fun _ kt => XS.iconst X2.here hx rfl (hb hby own_d6_8) kt) ?_
  show own_Rch p e below _ T2 (mkF m 9 #[.val (.ref b), .val (.int (0 : Int32)), .val (.int (2 : Int32))] [(.int (0 : Int32)), (.ref b)])
  refine own_st (fun _ kt => XS.iloadN X2.here hx rfl (hb hby own_d6_9) rfl  kt) ?_
  show own_Rch p e below _ T2 (mkF m 10 #[.val (.ref b), .val (.int (0 : Int32)), .val (.int (2 : Int32))] [(.int (0 : Int32)), (.int (0 : Int32)), (.ref b)])
  refine own_st (fun _ kt => XS.iloadN X2.here hx rfl (hb hby own_d6_10) rfl  kt) ?_
  show own_Rch p e below _ T2 (mkF m 11 #[.val (.ref b), .val (.int (0 : Int32)), .val (.int (2 : Int32))] [(.int (2 : Int32)), (.int (0 : Int32)), (.int (0 : Int32)), (.ref b)])
  obtain ⟨_, _, ⟨T3, L3, k3, n3⟩, -, X3, ⟨Lc3, hQ3, l3, y3, z3⟩, st3⟩ := Jvm.LawKit.callS X2 hx (y := (⟨"java/util/DualPivotQuicksort", "sort", "([JIII)V"⟩ : MethodName)) hown (mvT hZ (hw _ (List.mem_of_getElem? (i := 37) rfl))) (mvT hZ (hw _ (List.mem_of_getElem? (i := 38) rfl))) (mvT hZ (hw _ (List.mem_of_getElem? (i := 39) rfl))) (mvT hZ (hw _ (List.mem_of_getElem? (i := 40) rfl))) (by decide) (backOf (W := 0) (own_qb2 l Z a0 hw [] b k y0 y1 y2 y3 h0 n0 O0 VB gb) hZ (hw _ (List.mem_of_getElem? (i := 40) rfl)) (hw _ (List.mem_of_getElem? (i := 39) rfl)) (by decide) (by decide)) (g := (mkF m 11 #[.val (.ref b), .val (.int (0 : Int32)), .val (.int (2 : Int32))] [(.int (2 : Int32)), (.int (0 : Int32)), (.int (0 : Int32)), (.ref b)])) rfl (by rw [hml]; rfl) (argsL := [(.ref b), (.int (0 : Int32)), (.int (0 : Int32)), (.int (2 : Int32))]) (rest := []) (lenOf own_pd4 rfl) rfl (by show 2 * 0 + _ ≤ _; exact Nat.le_of_eq rfl) (hb hby own_d6_11) (fun _ _ => ⟨rfl, hh2, (by decide : 0 + 0 ≤ _), (by decide : 0 + 0 ≤ _)⟩)
  dsimp only [Pt.U, Pt.locs, Pt.cells, Pt.slots] at X3 l3 y3 z3 st3 hQ3
  subst l3 y3 z3
  obtain ⟨w0, w1, hs3, rfl, N3q, K3, Vb3⟩ := hQ3
  have N3 := Fr.app N2 N3q
  refine own_st st3 ?_
  have O0_x3 := O0.keep K3 (allS gb all0)
  have K0_x3 := K0.trans K3 (allS (Or.inl (List.mem_of_getElem? (i := 0) rfl)) all0)
  show own_Rch p e below _ T3 (mkF m 14 #[.val (.ref b), .val (.int (0 : Int32)), .val (.int (2 : Int32))] [])
  refine own_retV X3 hx Bd.notSynchronized Bd.returns (hb hby own_d6_14) (by decide) (by decide) ?_
  exact ⟨_, _, hs3, rfl, N3, K0_x3, Vb3⟩
def own_Q_own_ins3 (Z : State) (b : Addr) (k : ClassId) (y0 : Int64) (y1 : Int64) (y2 : Int64) (y3 : Int64) (h0 : Heap) (n0 : Nat) (v : Option Value) (h : Heap) (L : List Loc) : Prop := ∃ w0 w1 w2, own_isort [y0, y1, y2] = [w0, w1, w2] ∧ v = none ∧ Fr n0 L ∧ Keep h0 h [b] ∧ Arv Z h b k .long (1024 : Int32) [(.long w0), (.long w1), (.long w2), (.long y3)] (.long (0 : Int64))
set_option maxRecDepth 65536 in
set_option maxHeartbeats 40000000 in
theorem own_ins3 (l : Launch) (Z : State) (a0 : Array Value) (hw : ∀ d ∈ tables_1, d.before a0 Z = true) (ws : List Jvm.Cond) (b : Addr) (k : ClassId) (y0 : Int64) (y1 : Int64) (y2 : Int64) (y3 : Int64) (h0 : Heap) (n0 : Nat) (O0 : Old Z n0 h0) (VB : Arv Z h0 b k .long (1024 : Int32) [(.long y0), (.long y1), (.long y2), (.long y3)] (.long (0 : Int64))) (gb : n0 ≤ b) :
    MetFree l (⟨"java/util/DualPivotQuicksort", "insertionSort", "([JII)V"⟩ : MethodName) (head1 (Jvm.Cond.code (⟨"java/util/DualPivotQuicksort", "insertionSort", "([JII)V"⟩ : MethodName) jdk_2529_method_15_code 7 none :: ws) ({ frames := 0, cells := 0, slots := 0, locals := 0 } : Room)) (fun args_ U => args_ = #[(.ref b), (.int (0 : Int32)), (.int (3 : Int32))] ∧ Z.Warmed39 U.vm ∧ U.heap = h0) (fun _ _ _ _ _ => True) (fun _ U o U' => ∃ v L, o = .returned v ∧ (own_Q_own_ins3 Z b k y0 y1 y2 y3 h0 n0) v U'.heap L ∧ FrameEnd U o U' L ({ frames := 0, cells := 0, slots := 0, locals := 0 } : Room).cells ({ frames := 0, cells := 0, slots := 0, locals := 0 } : Room).slots) := by
  refine MetFree.of_bodySF (plainFor_of_name own_pn3) hisR ?_
  intro p e s m args below meth c s₁ Bd hml0 hP hK
  obtain ⟨rfl, hZ, hh⟩ := hP
  have hx := Bd.exec
  have hby := Bd.bytes
  have hml : c.maxLocals = 7 := hml0
  have hown : s.vm.findClass "java/util/DualPivotQuicksort" = some m.cls := findClass_of_methodNamed Bd.named
  have hnm := (name_of_methodNamed Bd.named Bd.method).1
  have X0 : Stand p l e ({ frames := 0, cells := 0, slots := 0, locals := 0 } : Room) s m #[(.ref b), (.int (0 : Int32)), (.int (3 : Int32))] below meth c s₁ [] 0 0 := Stand.of_body Bd
  have e0 : s₁.heap = h0 := by rw [← hh, Bd.state]; rfl
  have N0 := Fr.nil n0
  refine own_close (s := s) (Q := (own_Q_own_ins3 Z b k y0 y1 y2 y3 h0 n0)) (C := (({ frames := 0, cells := 0, slots := 0, locals := 0 } : Room)).cells) (N := (({ frames := 0, cells := 0, slots := 0, locals := 0 } : Room)).slots) (own_st (fun _ kt => castTop (own_ef10 m b (0 : Int32) (3 : Int32)) kt) ?_)
  have K0 := Keep.refl h0 [b]
  have c3 : ∀ (w0 w1 w2 tj : Int64) (tk : Int32) (T1 : State) (lc1 : List Loc) (X1 : Stand p l e (({ frames := 0, cells := 0, slots := 0, locals := 0 } : Room)) s m #[(.ref b), (.int (0 : Int32)), (.int (3 : Int32))] below meth c T1 lc1 0 0) (hv1 : Heap) (e1 : T1.heap = hv1) (N1 : Fr n0 lc1) (O1 : Old Z n0 hv1) (K1 : Keep h0 hv1 [b]) (VB3 : Arv Z hv1 b k .long (1024 : Int32) [(.long w0), (.long w1), (.long w2), (.long y3)] (.long (0 : Int64))) (hI : own_isort [y0, y1, y2] = own_isr [] [w2, w1, w0]), own_Rch p e below (own_End s below (own_Q_own_ins3 Z b k y0 y1 y2 y3 h0 n0) (({ frames := 0, cells := 0, slots := 0, locals := 0 } : Room)).cells (({ frames := 0, cells := 0, slots := 0, locals := 0 } : Room)).slots) T1 (mkF m 6 #[.val (.ref b), .val (.int (0 : Int32)), .val (.int (3 : Int32)), .val (.int tk), .val (.int (3 : Int32)), .val (.long tj), .second] []) := by
    intro w0 w1 w2 tj tk T1 lc1 X1 hv1 e1 N1 O1 K1 VB3 hI
    show own_Rch p e below _ T1 (mkF m 6 #[.val (.ref b), .val (.int (0 : Int32)), .val (.int (3 : Int32)), .val (.int tk), .val (.int (3 : Int32)), .val (.long tj), .second] [])
    refine own_st (fun _ kt => XS.iload X1.here hx rfl (hb hby own_d10_6) rfl  kt) ?_
    show own_Rch p e below _ T1 (mkF m 8 #[.val (.ref b), .val (.int (0 : Int32)), .val (.int (3 : Int32)), .val (.int tk), .val (.int (3 : Int32)), .val (.long tj), .second] [(.int (3 : Int32))])
    refine own_st (fun _ kt => XS.iloadN X1.here hx rfl (hb hby own_d10_8) rfl  kt) ?_
    show own_Rch p e below _ T1 (mkF m 9 #[.val (.ref b), .val (.int (0 : Int32)), .val (.int (3 : Int32)), .val (.int tk), .val (.int (3 : Int32)), .val (.long tj), .second] [(.int (3 : Int32)), (.int (3 : Int32))])
    refine own_st (fun _ kt => XS.icmpYes X1.here hx rfl (pc0 := 9) (pc' := 69) rfl (hb hby own_d10_9) rfl (flt ((by decide) : ¬ ((3 : Int32) < (3 : Int32)))).2.1 (by decide) (by decide) kt) ?_
    show own_Rch p e below _ T1 (mkF m 69 #[.val (.ref b), .val (.int (0 : Int32)), .val (.int (3 : Int32)), .val (.int tk), .val (.int (3 : Int32)), .val (.long tj), .second] [])
    refine own_retV X1 hx Bd.notSynchronized Bd.returns (hb hby own_d10_69) (by decide) (by decide) ?_
    rw [e1]
    exact ⟨_, _, _, hI, rfl, N1, K1, VB3⟩
  have c2 : ∀ (w0 w1 tj : Int64) (tk : Int32) (T2 : State) (lc2 : List Loc) (X2 : Stand p l e (({ frames := 0, cells := 0, slots := 0, locals := 0 } : Room)) s m #[(.ref b), (.int (0 : Int32)), (.int (3 : Int32))] below meth c T2 lc2 0 0) (hv2 : Heap) (e2 : T2.heap = hv2) (N2 : Fr n0 lc2) (O2 : Old Z n0 hv2) (K2 : Keep h0 hv2 [b]) (VB2 : Arv Z hv2 b k .long (1024 : Int32) [(.long w0), (.long w1), (.long y2), (.long y3)] (.long (0 : Int64))) (hI : own_isort [y0, y1, y2] = own_isr [y2] [w1, w0]), own_Rch p e below (own_End s below (own_Q_own_ins3 Z b k y0 y1 y2 y3 h0 n0) (({ frames := 0, cells := 0, slots := 0, locals := 0 } : Room)).cells (({ frames := 0, cells := 0, slots := 0, locals := 0 } : Room)).slots) T2 (mkF m 6 #[.val (.ref b), .val (.int (0 : Int32)), .val (.int (3 : Int32)), .val (.int tk), .val (.int (2 : Int32)), .val (.long tj), .second] []) := by
    intro w0 w1 tj tk T2 lc2 X2 hv2 e2 N2 O2 K2 VB2 hI
    show own_Rch p e below _ T2 (mkF m 6 #[.val (.ref b), .val (.int (0 : Int32)), .val (.int (3 : Int32)), .val (.int tk), .val (.int (2 : Int32)), .val (.long tj), .second] [])
    refine own_st (fun _ kt => XS.iload X2.here hx rfl (hb hby own_d10_6) rfl  kt) ?_
    show own_Rch p e below _ T2 (mkF m 8 #[.val (.ref b), .val (.int (0 : Int32)), .val (.int (3 : Int32)), .val (.int tk), .val (.int (2 : Int32)), .val (.long tj), .second] [(.int (2 : Int32))])
    refine own_st (fun _ kt => XS.iloadN X2.here hx rfl (hb hby own_d10_8) rfl  kt) ?_
    show own_Rch p e below _ T2 (mkF m 9 #[.val (.ref b), .val (.int (0 : Int32)), .val (.int (3 : Int32)), .val (.int tk), .val (.int (2 : Int32)), .val (.long tj), .second] [(.int (3 : Int32)), (.int (2 : Int32))])
    refine own_st (fun _ kt => XS.icmpNo X2.here hx rfl (hb hby own_d10_9) rfl (tlt ((by decide) : (2 : Int32) < (3 : Int32))).2.1 kt) ?_
    show own_Rch p e below _ T2 (mkF m 12 #[.val (.ref b), .val (.int (0 : Int32)), .val (.int (3 : Int32)), .val (.int tk), .val (.int (2 : Int32)), .val (.long tj), .second] [])
    refine own_st (fun _ kt => XS.aloadN X2.here hx rfl (hb hby own_d10_12) rfl rfl  kt) ?_
    show own_Rch p e below _ T2 (mkF m 13 #[.val (.ref b), .val (.int (0 : Int32)), .val (.int (3 : Int32)), .val (.int tk), .val (.int (2 : Int32)), .val (.long tj), .second] [(.ref b)])
    refine own_st (fun _ kt => XS.iload X2.here hx rfl (hb hby own_d10_13) rfl  kt) ?_
    show own_Rch p e below _ T2 (mkF m 15 #[.val (.ref b), .val (.int (0 : Int32)), .val (.int (3 : Int32)), .val (.int tk), .val (.int (2 : Int32)), .val (.long tj), .second] [(.int (2 : Int32)), (.ref b)])
    refine own_st (fun _ kt => XS.dup X2.here hx rfl (hb hby own_d10_15) rfl rfl kt) ?_
    show own_Rch p e below _ T2 (mkF m 16 #[.val (.ref b), .val (.int (0 : Int32)), .val (.int (3 : Int32)), .val (.int tk), .val (.int (2 : Int32)), .val (.long tj), .second] [(.int (2 : Int32)), (.int (2 : Int32)), (.ref b)])
    refine own_st (fun _ kt => XS.istoreN X2.here hx rfl (hb hby own_d10_16) rfl (l' := #[.val (.ref b), .val (.int (0 : Int32)), .val (.int (3 : Int32)), .val (.int (2 : Int32)), .val (.int (2 : Int32)), .val (.long tj), .second]) rfl kt) ?_
    show own_Rch p e below _ T2 (mkF m 17 #[.val (.ref b), .val (.int (0 : Int32)), .val (.int (3 : Int32)), .val (.int (2 : Int32)), .val (.int (2 : Int32)), .val (.long tj), .second] [(.int (2 : Int32)), (.ref b)])
    obtain ⟨cl3, Ar3, q3, S3, M3, H3, G3⟩ := id VB2
    have hin3 : ¬ ((2 : Int32) < 0 ∨ cl3.slots.size ≤ ((2 : Int32)).toNatClampNeg) := inb_of S3 ⟨by decide, by decide⟩
    refine own_st (X2.laload hx (j := (2 : Int32)) (v := (.long y2)) (by rw [e2]; exact Ar3.1) (State.isArrayOf_alike (hZ).alike Ar3.2.1) Ar3.2.2 hin3 (H3.at hin3 rfl) (g := (mkF m 17 #[.val (.ref b), .val (.int (0 : Int32)), .val (.int (3 : Int32)), .val (.int (2 : Int32)), .val (.int (2 : Int32)), .val (.long tj), .second] [(.int (2 : Int32)), (.ref b)])) rfl rfl (hb hby own_d10_17)) ?_
    show own_Rch p e below _ T2 (mkF m 18 #[.val (.ref b), .val (.int (0 : Int32)), .val (.int (3 : Int32)), .val (.int (2 : Int32)), .val (.int (2 : Int32)), .val (.long tj), .second] [(.long y2)])
    refine own_st (fun _ kt => XS.lstore X2.here hx rfl (hb hby own_d10_18) rfl (l' := #[.val (.ref b), .val (.int (0 : Int32)), .val (.int (3 : Int32)), .val (.int (2 : Int32)), .val (.int (2 : Int32)), .val (.long y2), .second]) rfl kt) ?_
    show own_Rch p e below _ T2 (mkF m 20 #[.val (.ref b), .val (.int (0 : Int32)), .val (.int (3 : Int32)), .val (.int (2 : Int32)), .val (.int (2 : Int32)), .val (.long y2), .second] [])
    refine own_st (fun _ kt => XS.lload X2.here hx rfl (hb hby own_d10_20) rfl  kt) ?_
    show own_Rch p e below _ T2 (mkF m 22 #[.val (.ref b), .val (.int (0 : Int32)), .val (.int (3 : Int32)), .val (.int (2 : Int32)), .val (.int (2 : Int32)), .val (.long y2), .second] [(.long y2)])
    refine own_st (fun _ kt => XS.aloadN X2.here hx rfl (hb hby own_d10_22) rfl rfl  kt) ?_
    show own_Rch p e below _ T2 (mkF m 23 #[.val (.ref b), .val (.int (0 : Int32)), .val (.int (3 : Int32)), .val (.int (2 : Int32)), .val (.int (2 : Int32)), .val (.long y2), .second] [(.ref b), (.long y2)])
    refine own_st (fun _ kt => XS.iloadN X2.here hx rfl (hb hby own_d10_23) rfl  kt) ?_
    show own_Rch p e below _ T2 (mkF m 24 #[.val (.ref b), .val (.int (0 : Int32)), .val (.int (3 : Int32)), .val (.int (2 : Int32)), .val (.int (2 : Int32)), .val (.long y2), .second] [(.int (2 : Int32)), (.ref b), (.long y2)])
    refine own_st (fun _ kt => XS.iconst X2.here hx rfl (hb hby own_d10_24) kt) ?_
    show own_Rch p e below _ T2 (mkF m 25 #[.val (.ref b), .val (.int (0 : Int32)), .val (.int (3 : Int32)), .val (.int (2 : Int32)), .val (.int (2 : Int32)), .val (.long y2), .second] [(.int (1 : Int32)), (.int (2 : Int32)), (.ref b), (.long y2)])
    refine own_st (fun _ kt => XS.isub X2.here hx rfl (hb hby own_d10_25) rfl kt) ?_
    show own_Rch p e below _ T2 (mkF m 26 #[.val (.ref b), .val (.int (0 : Int32)), .val (.int (3 : Int32)), .val (.int (2 : Int32)), .val (.int (2 : Int32)), .val (.long y2), .second] [(.int (1 : Int32)), (.ref b), (.long y2)])
    obtain ⟨cl4, Ar4, q4, S4, M4, H4, G4⟩ := id VB2
    have hin4 : ¬ ((1 : Int32) < 0 ∨ cl4.slots.size ≤ ((1 : Int32)).toNatClampNeg) := inb_of S4 ⟨by decide, by decide⟩
    refine own_st (X2.laload hx (j := (1 : Int32)) (v := (.long w1)) (by rw [e2]; exact Ar4.1) (State.isArrayOf_alike (hZ).alike Ar4.2.1) Ar4.2.2 hin4 (H4.at hin4 rfl) (g := (mkF m 26 #[.val (.ref b), .val (.int (0 : Int32)), .val (.int (3 : Int32)), .val (.int (2 : Int32)), .val (.int (2 : Int32)), .val (.long y2), .second] [(.int (1 : Int32)), (.ref b), (.long y2)])) rfl rfl (hb hby own_d10_26)) ?_
    show own_Rch p e below _ T2 (mkF m 27 #[.val (.ref b), .val (.int (0 : Int32)), .val (.int (3 : Int32)), .val (.int (2 : Int32)), .val (.int (2 : Int32)), .val (.long y2), .second] [(.long w1), (.long y2)])
    refine own_st (fun _ kt => XS.lcmp X2.here hx rfl (hb hby own_d10_27) rfl kt) ?_
    show own_Rch p e below _ T2 (mkF m 28 #[.val (.ref b), .val (.int (0 : Int32)), .val (.int (3 : Int32)), .val (.int (2 : Int32)), .val (.int (2 : Int32)), .val (.long y2), .second] [(.int (lcmpW y2 w1))])
    by_cases hc28_5 : (lcmpW y2 w1) < (0 : Int32)
    · -- pc 28: True
      refine own_st (fun _ kt => XS.ifNo X2.here hx rfl (hb hby own_d10_28) rfl ((if0 _ _).trans (tlt hc28_5).2.1) kt) ?_
      rw [lw_lt] at hc28_5
      show own_Rch p e below _ T2 (mkF m 31 #[.val (.ref b), .val (.int (0 : Int32)), .val (.int (3 : Int32)), .val (.int (2 : Int32)), .val (.int (2 : Int32)), .val (.long y2), .second] [])
      refine own_st (fun _ kt => XS.iinc X2.here hx rfl (hb hby own_d10_31) rfl (l' := #[.val (.ref b), .val (.int (0 : Int32)), .val (.int (3 : Int32)), .val (.int (1 : Int32)), .val (.int (2 : Int32)), .val (.long y2), .second]) rfl kt) ?_
      show own_Rch p e below _ T2 (mkF m 34 #[.val (.ref b), .val (.int (0 : Int32)), .val (.int (3 : Int32)), .val (.int (1 : Int32)), .val (.int (2 : Int32)), .val (.long y2), .second] [])
      refine own_st (fun _ kt => XS.iloadN X2.here hx rfl (hb hby own_d10_34) rfl  kt) ?_
      show own_Rch p e below _ T2 (mkF m 35 #[.val (.ref b), .val (.int (0 : Int32)), .val (.int (3 : Int32)), .val (.int (1 : Int32)), .val (.int (2 : Int32)), .val (.long y2), .second] [(.int (1 : Int32))])
      refine own_st (fun _ kt => XS.iloadN X2.here hx rfl (hb hby own_d10_35) rfl  kt) ?_
      show own_Rch p e below _ T2 (mkF m 36 #[.val (.ref b), .val (.int (0 : Int32)), .val (.int (3 : Int32)), .val (.int (1 : Int32)), .val (.int (2 : Int32)), .val (.long y2), .second] [(.int (0 : Int32)), (.int (1 : Int32))])
      refine own_st (fun _ kt => XS.icmpNo X2.here hx rfl (hb hby own_d10_36) rfl (flt ((by decide) : ¬ ((1 : Int32) < (0 : Int32)))).1 kt) ?_
      show own_Rch p e below _ T2 (mkF m 39 #[.val (.ref b), .val (.int (0 : Int32)), .val (.int (3 : Int32)), .val (.int (1 : Int32)), .val (.int (2 : Int32)), .val (.long y2), .second] [])
      refine own_st (fun _ kt => XS.lload X2.here hx rfl (hb hby own_d10_39) rfl  kt) ?_
      show own_Rch p e below _ T2 (mkF m 41 #[.val (.ref b), .val (.int (0 : Int32)), .val (.int (3 : Int32)), .val (.int (1 : Int32)), .val (.int (2 : Int32)), .val (.long y2), .second] [(.long y2)])
      refine own_st (fun _ kt => XS.aloadN X2.here hx rfl (hb hby own_d10_41) rfl rfl  kt) ?_
      show own_Rch p e below _ T2 (mkF m 42 #[.val (.ref b), .val (.int (0 : Int32)), .val (.int (3 : Int32)), .val (.int (1 : Int32)), .val (.int (2 : Int32)), .val (.long y2), .second] [(.ref b), (.long y2)])
      refine own_st (fun _ kt => XS.iloadN X2.here hx rfl (hb hby own_d10_42) rfl  kt) ?_
      show own_Rch p e below _ T2 (mkF m 43 #[.val (.ref b), .val (.int (0 : Int32)), .val (.int (3 : Int32)), .val (.int (1 : Int32)), .val (.int (2 : Int32)), .val (.long y2), .second] [(.int (1 : Int32)), (.ref b), (.long y2)])
      obtain ⟨cl6, Ar6, q6, S6, M6, H6, G6⟩ := id VB2
      have hin6 : ¬ ((1 : Int32) < 0 ∨ cl6.slots.size ≤ ((1 : Int32)).toNatClampNeg) := inb_of S6 ⟨by decide, by decide⟩
      refine own_st (X2.laload hx (j := (1 : Int32)) (v := (.long w1)) (by rw [e2]; exact Ar6.1) (State.isArrayOf_alike (hZ).alike Ar6.2.1) Ar6.2.2 hin6 (H6.at hin6 rfl) (g := (mkF m 43 #[.val (.ref b), .val (.int (0 : Int32)), .val (.int (3 : Int32)), .val (.int (1 : Int32)), .val (.int (2 : Int32)), .val (.long y2), .second] [(.int (1 : Int32)), (.ref b), (.long y2)])) rfl rfl (hb hby own_d10_43)) ?_
      show own_Rch p e below _ T2 (mkF m 44 #[.val (.ref b), .val (.int (0 : Int32)), .val (.int (3 : Int32)), .val (.int (1 : Int32)), .val (.int (2 : Int32)), .val (.long y2), .second] [(.long w1), (.long y2)])
      refine own_st (fun _ kt => XS.lcmp X2.here hx rfl (hb hby own_d10_44) rfl kt) ?_
      show own_Rch p e below _ T2 (mkF m 45 #[.val (.ref b), .val (.int (0 : Int32)), .val (.int (3 : Int32)), .val (.int (1 : Int32)), .val (.int (2 : Int32)), .val (.long y2), .second] [(.int (lcmpW y2 w1))])
      refine own_st (fun _ kt => XS.ifNo X2.here hx rfl (hb hby own_d10_45) rfl ((if0 _ _).trans (tlt ((lw_lt _ _).mpr hc28_5 : (lcmpW y2 w1) < (0 : Int32))).2.1) kt) ?_
      show own_Rch p e below _ T2 (mkF m 48 #[.val (.ref b), .val (.int (0 : Int32)), .val (.int (3 : Int32)), .val (.int (1 : Int32)), .val (.int (2 : Int32)), .val (.long y2), .second] [])
      refine own_st (fun _ kt => XS.aloadN X2.here hx rfl (hb hby own_d10_48) rfl rfl  kt) ?_
      show own_Rch p e below _ T2 (mkF m 49 #[.val (.ref b), .val (.int (0 : Int32)), .val (.int (3 : Int32)), .val (.int (1 : Int32)), .val (.int (2 : Int32)), .val (.long y2), .second] [(.ref b)])
      refine own_st (fun _ kt => XS.iloadN X2.here hx rfl (hb hby own_d10_49) rfl  kt) ?_
      show own_Rch p e below _ T2 (mkF m 50 #[.val (.ref b), .val (.int (0 : Int32)), .val (.int (3 : Int32)), .val (.int (1 : Int32)), .val (.int (2 : Int32)), .val (.long y2), .second] [(.int (1 : Int32)), (.ref b)])
      refine own_st (fun _ kt => XS.iconst X2.here hx rfl (hb hby own_d10_50) kt) ?_
      show own_Rch p e below _ T2 (mkF m 51 #[.val (.ref b), .val (.int (0 : Int32)), .val (.int (3 : Int32)), .val (.int (1 : Int32)), .val (.int (2 : Int32)), .val (.long y2), .second] [(.int (1 : Int32)), (.int (1 : Int32)), (.ref b)])
      refine own_st (fun _ kt => XS.iadd X2.here hx rfl (hb hby own_d10_51) rfl kt) ?_
      show own_Rch p e below _ T2 (mkF m 52 #[.val (.ref b), .val (.int (0 : Int32)), .val (.int (3 : Int32)), .val (.int (1 : Int32)), .val (.int (2 : Int32)), .val (.long y2), .second] [(.int (2 : Int32)), (.ref b)])
      refine own_st (fun _ kt => XS.aloadN X2.here hx rfl (hb hby own_d10_52) rfl rfl  kt) ?_
      show own_Rch p e below _ T2 (mkF m 53 #[.val (.ref b), .val (.int (0 : Int32)), .val (.int (3 : Int32)), .val (.int (1 : Int32)), .val (.int (2 : Int32)), .val (.long y2), .second] [(.ref b), (.int (2 : Int32)), (.ref b)])
      refine own_st (fun _ kt => XS.iloadN X2.here hx rfl (hb hby own_d10_53) rfl  kt) ?_
      show own_Rch p e below _ T2 (mkF m 54 #[.val (.ref b), .val (.int (0 : Int32)), .val (.int (3 : Int32)), .val (.int (1 : Int32)), .val (.int (2 : Int32)), .val (.long y2), .second] [(.int (1 : Int32)), (.ref b), (.int (2 : Int32)), (.ref b)])
      obtain ⟨cl7, Ar7, q7, S7, M7, H7, G7⟩ := id VB2
      have hin7 : ¬ ((1 : Int32) < 0 ∨ cl7.slots.size ≤ ((1 : Int32)).toNatClampNeg) := inb_of S7 ⟨by decide, by decide⟩
      refine own_st (X2.laload hx (j := (1 : Int32)) (v := (.long w1)) (by rw [e2]; exact Ar7.1) (State.isArrayOf_alike (hZ).alike Ar7.2.1) Ar7.2.2 hin7 (H7.at hin7 rfl) (g := (mkF m 54 #[.val (.ref b), .val (.int (0 : Int32)), .val (.int (3 : Int32)), .val (.int (1 : Int32)), .val (.int (2 : Int32)), .val (.long y2), .second] [(.int (1 : Int32)), (.ref b), (.int (2 : Int32)), (.ref b)])) rfl rfl (hb hby own_d10_54)) ?_
      show own_Rch p e below _ T2 (mkF m 55 #[.val (.ref b), .val (.int (0 : Int32)), .val (.int (3 : Int32)), .val (.int (1 : Int32)), .val (.int (2 : Int32)), .val (.long y2), .second] [(.long w1), (.int (2 : Int32)), (.ref b)])
      obtain ⟨cl8, Ar8, q8, S8, M8, H8, G8⟩ := id VB2
      have hin8 : ¬ ((2 : Int32) < 0 ∨ cl8.slots.size ≤ ((2 : Int32)).toNatClampNeg) := inb_of S8 ⟨by decide, by decide⟩
      obtain ⟨T8, h8, X8, e8, W8, st8⟩ := stJ X2 hx hZ e2 Ar8 (j := (2 : Int32)) hin8 (g := (mkF m 55 #[.val (.ref b), .val (.int (0 : Int32)), .val (.int (3 : Int32)), .val (.int (1 : Int32)), .val (.int (2 : Int32)), .val (.long y2), .second] [(.long w1), (.int (2 : Int32)), (.ref b)])) rfl rfl (hb hby own_d10_55)
      have V8 := Arv.set Ar8 q8 S8 M8 H8 G8 rfl W8 2 rfl (Nat.le_of_ble_eq_true rfl)
      have V8s : Arv Z h8 b k .long (1024 : Int32) [(.long w0), (.long w1), (.long w1), (.long y3)] (.long (0 : Int64)) := V8
      have N8 := Fr.snoc X8 N2 gb
      refine own_st st8 ?_
      have O2_x8 := O2.wr W8 gb
      have K2_x8 := K2.wr W8 (Or.inl (List.mem_of_getElem? (i := 0) rfl))
      show own_Rch p e below _ T8 (mkF m 56 #[.val (.ref b), .val (.int (0 : Int32)), .val (.int (3 : Int32)), .val (.int (1 : Int32)), .val (.int (2 : Int32)), .val (.long y2), .second] [])
      refine own_st (fun _ kt => XS.goto X8.here hx rfl (pc0 := 56) (pc' := 31) rfl (hb hby own_d10_56) (by decide) (by decide) kt) ?_
      show own_Rch p e below _ T8 (mkF m 31 #[.val (.ref b), .val (.int (0 : Int32)), .val (.int (3 : Int32)), .val (.int (1 : Int32)), .val (.int (2 : Int32)), .val (.long y2), .second] [])
      refine own_st (fun _ kt => XS.iinc X8.here hx rfl (hb hby own_d10_31) rfl (l' := #[.val (.ref b), .val (.int (0 : Int32)), .val (.int (3 : Int32)), .val (.int (0 : Int32)), .val (.int (2 : Int32)), .val (.long y2), .second]) rfl kt) ?_
      show own_Rch p e below _ T8 (mkF m 34 #[.val (.ref b), .val (.int (0 : Int32)), .val (.int (3 : Int32)), .val (.int (0 : Int32)), .val (.int (2 : Int32)), .val (.long y2), .second] [])
      refine own_st (fun _ kt => XS.iloadN X8.here hx rfl (hb hby own_d10_34) rfl  kt) ?_
      show own_Rch p e below _ T8 (mkF m 35 #[.val (.ref b), .val (.int (0 : Int32)), .val (.int (3 : Int32)), .val (.int (0 : Int32)), .val (.int (2 : Int32)), .val (.long y2), .second] [(.int (0 : Int32))])
      refine own_st (fun _ kt => XS.iloadN X8.here hx rfl (hb hby own_d10_35) rfl  kt) ?_
      show own_Rch p e below _ T8 (mkF m 36 #[.val (.ref b), .val (.int (0 : Int32)), .val (.int (3 : Int32)), .val (.int (0 : Int32)), .val (.int (2 : Int32)), .val (.long y2), .second] [(.int (0 : Int32)), (.int (0 : Int32))])
      refine own_st (fun _ kt => XS.icmpNo X8.here hx rfl (hb hby own_d10_36) rfl (flt ((by decide) : ¬ ((0 : Int32) < (0 : Int32)))).1 kt) ?_
      show own_Rch p e below _ T8 (mkF m 39 #[.val (.ref b), .val (.int (0 : Int32)), .val (.int (3 : Int32)), .val (.int (0 : Int32)), .val (.int (2 : Int32)), .val (.long y2), .second] [])
      refine own_st (fun _ kt => XS.lload X8.here hx rfl (hb hby own_d10_39) rfl  kt) ?_
      show own_Rch p e below _ T8 (mkF m 41 #[.val (.ref b), .val (.int (0 : Int32)), .val (.int (3 : Int32)), .val (.int (0 : Int32)), .val (.int (2 : Int32)), .val (.long y2), .second] [(.long y2)])
      refine own_st (fun _ kt => XS.aloadN X8.here hx rfl (hb hby own_d10_41) rfl rfl  kt) ?_
      show own_Rch p e below _ T8 (mkF m 42 #[.val (.ref b), .val (.int (0 : Int32)), .val (.int (3 : Int32)), .val (.int (0 : Int32)), .val (.int (2 : Int32)), .val (.long y2), .second] [(.ref b), (.long y2)])
      refine own_st (fun _ kt => XS.iloadN X8.here hx rfl (hb hby own_d10_42) rfl  kt) ?_
      show own_Rch p e below _ T8 (mkF m 43 #[.val (.ref b), .val (.int (0 : Int32)), .val (.int (3 : Int32)), .val (.int (0 : Int32)), .val (.int (2 : Int32)), .val (.long y2), .second] [(.int (0 : Int32)), (.ref b), (.long y2)])
      obtain ⟨cl9, Ar9, q9, S9, M9, H9, G9⟩ := id V8s
      have hin9 : ¬ ((0 : Int32) < 0 ∨ cl9.slots.size ≤ ((0 : Int32)).toNatClampNeg) := inb_of S9 ⟨by decide, by decide⟩
      refine own_st (X8.laload hx (j := (0 : Int32)) (v := (.long w0)) (by rw [e8]; exact Ar9.1) (State.isArrayOf_alike (hZ).alike Ar9.2.1) Ar9.2.2 hin9 (H9.at hin9 rfl) (g := (mkF m 43 #[.val (.ref b), .val (.int (0 : Int32)), .val (.int (3 : Int32)), .val (.int (0 : Int32)), .val (.int (2 : Int32)), .val (.long y2), .second] [(.int (0 : Int32)), (.ref b), (.long y2)])) rfl rfl (hb hby own_d10_43)) ?_
      show own_Rch p e below _ T8 (mkF m 44 #[.val (.ref b), .val (.int (0 : Int32)), .val (.int (3 : Int32)), .val (.int (0 : Int32)), .val (.int (2 : Int32)), .val (.long y2), .second] [(.long w0), (.long y2)])
      refine own_st (fun _ kt => XS.lcmp X8.here hx rfl (hb hby own_d10_44) rfl kt) ?_
      show own_Rch p e below _ T8 (mkF m 45 #[.val (.ref b), .val (.int (0 : Int32)), .val (.int (3 : Int32)), .val (.int (0 : Int32)), .val (.int (2 : Int32)), .val (.long y2), .second] [(.int (lcmpW y2 w0))])
      by_cases hc45_10 : (lcmpW y2 w0) < (0 : Int32)
      · -- pc 45: True
        refine own_st (fun _ kt => XS.ifNo X8.here hx rfl (hb hby own_d10_45) rfl ((if0 _ _).trans (tlt hc45_10).2.1) kt) ?_
        rw [lw_lt] at hc45_10
        show own_Rch p e below _ T8 (mkF m 48 #[.val (.ref b), .val (.int (0 : Int32)), .val (.int (3 : Int32)), .val (.int (0 : Int32)), .val (.int (2 : Int32)), .val (.long y2), .second] [])
        refine own_st (fun _ kt => XS.aloadN X8.here hx rfl (hb hby own_d10_48) rfl rfl  kt) ?_
        show own_Rch p e below _ T8 (mkF m 49 #[.val (.ref b), .val (.int (0 : Int32)), .val (.int (3 : Int32)), .val (.int (0 : Int32)), .val (.int (2 : Int32)), .val (.long y2), .second] [(.ref b)])
        refine own_st (fun _ kt => XS.iloadN X8.here hx rfl (hb hby own_d10_49) rfl  kt) ?_
        show own_Rch p e below _ T8 (mkF m 50 #[.val (.ref b), .val (.int (0 : Int32)), .val (.int (3 : Int32)), .val (.int (0 : Int32)), .val (.int (2 : Int32)), .val (.long y2), .second] [(.int (0 : Int32)), (.ref b)])
        refine own_st (fun _ kt => XS.iconst X8.here hx rfl (hb hby own_d10_50) kt) ?_
        show own_Rch p e below _ T8 (mkF m 51 #[.val (.ref b), .val (.int (0 : Int32)), .val (.int (3 : Int32)), .val (.int (0 : Int32)), .val (.int (2 : Int32)), .val (.long y2), .second] [(.int (1 : Int32)), (.int (0 : Int32)), (.ref b)])
        refine own_st (fun _ kt => XS.iadd X8.here hx rfl (hb hby own_d10_51) rfl kt) ?_
        show own_Rch p e below _ T8 (mkF m 52 #[.val (.ref b), .val (.int (0 : Int32)), .val (.int (3 : Int32)), .val (.int (0 : Int32)), .val (.int (2 : Int32)), .val (.long y2), .second] [(.int (1 : Int32)), (.ref b)])
        refine own_st (fun _ kt => XS.aloadN X8.here hx rfl (hb hby own_d10_52) rfl rfl  kt) ?_
        show own_Rch p e below _ T8 (mkF m 53 #[.val (.ref b), .val (.int (0 : Int32)), .val (.int (3 : Int32)), .val (.int (0 : Int32)), .val (.int (2 : Int32)), .val (.long y2), .second] [(.ref b), (.int (1 : Int32)), (.ref b)])
        refine own_st (fun _ kt => XS.iloadN X8.here hx rfl (hb hby own_d10_53) rfl  kt) ?_
        show own_Rch p e below _ T8 (mkF m 54 #[.val (.ref b), .val (.int (0 : Int32)), .val (.int (3 : Int32)), .val (.int (0 : Int32)), .val (.int (2 : Int32)), .val (.long y2), .second] [(.int (0 : Int32)), (.ref b), (.int (1 : Int32)), (.ref b)])
        obtain ⟨cl11, Ar11, q11, S11, M11, H11, G11⟩ := id V8s
        have hin11 : ¬ ((0 : Int32) < 0 ∨ cl11.slots.size ≤ ((0 : Int32)).toNatClampNeg) := inb_of S11 ⟨by decide, by decide⟩
        refine own_st (X8.laload hx (j := (0 : Int32)) (v := (.long w0)) (by rw [e8]; exact Ar11.1) (State.isArrayOf_alike (hZ).alike Ar11.2.1) Ar11.2.2 hin11 (H11.at hin11 rfl) (g := (mkF m 54 #[.val (.ref b), .val (.int (0 : Int32)), .val (.int (3 : Int32)), .val (.int (0 : Int32)), .val (.int (2 : Int32)), .val (.long y2), .second] [(.int (0 : Int32)), (.ref b), (.int (1 : Int32)), (.ref b)])) rfl rfl (hb hby own_d10_54)) ?_
        show own_Rch p e below _ T8 (mkF m 55 #[.val (.ref b), .val (.int (0 : Int32)), .val (.int (3 : Int32)), .val (.int (0 : Int32)), .val (.int (2 : Int32)), .val (.long y2), .second] [(.long w0), (.int (1 : Int32)), (.ref b)])
        obtain ⟨cl12, Ar12, q12, S12, M12, H12, G12⟩ := id V8s
        have hin12 : ¬ ((1 : Int32) < 0 ∨ cl12.slots.size ≤ ((1 : Int32)).toNatClampNeg) := inb_of S12 ⟨by decide, by decide⟩
        obtain ⟨T12, h12, X12, e12, W12, st12⟩ := stJ X8 hx hZ e8 Ar12 (j := (1 : Int32)) hin12 (g := (mkF m 55 #[.val (.ref b), .val (.int (0 : Int32)), .val (.int (3 : Int32)), .val (.int (0 : Int32)), .val (.int (2 : Int32)), .val (.long y2), .second] [(.long w0), (.int (1 : Int32)), (.ref b)])) rfl rfl (hb hby own_d10_55)
        have V12 := Arv.set Ar12 q12 S12 M12 H12 G12 rfl W12 1 rfl (Nat.le_of_ble_eq_true rfl)
        have V12s : Arv Z h12 b k .long (1024 : Int32) [(.long w0), (.long w0), (.long w1), (.long y3)] (.long (0 : Int64)) := V12
        have N12 := Fr.snoc X12 N8 gb
        refine own_st st12 ?_
        have O2_x12 := O2_x8.wr W12 gb
        have K2_x12 := K2_x8.wr W12 (Or.inl (List.mem_of_getElem? (i := 0) rfl))
        show own_Rch p e below _ T12 (mkF m 56 #[.val (.ref b), .val (.int (0 : Int32)), .val (.int (3 : Int32)), .val (.int (0 : Int32)), .val (.int (2 : Int32)), .val (.long y2), .second] [])
        refine own_st (fun _ kt => XS.goto X12.here hx rfl (pc0 := 56) (pc' := 31) rfl (hb hby own_d10_56) (by decide) (by decide) kt) ?_
        show own_Rch p e below _ T12 (mkF m 31 #[.val (.ref b), .val (.int (0 : Int32)), .val (.int (3 : Int32)), .val (.int (0 : Int32)), .val (.int (2 : Int32)), .val (.long y2), .second] [])
        refine own_st (fun _ kt => XS.iinc X12.here hx rfl (hb hby own_d10_31) rfl (l' := #[.val (.ref b), .val (.int (0 : Int32)), .val (.int (3 : Int32)), .val (.int (-1 : Int32)), .val (.int (2 : Int32)), .val (.long y2), .second]) rfl kt) ?_
        show own_Rch p e below _ T12 (mkF m 34 #[.val (.ref b), .val (.int (0 : Int32)), .val (.int (3 : Int32)), .val (.int (-1 : Int32)), .val (.int (2 : Int32)), .val (.long y2), .second] [])
        refine own_st (fun _ kt => XS.iloadN X12.here hx rfl (hb hby own_d10_34) rfl  kt) ?_
        show own_Rch p e below _ T12 (mkF m 35 #[.val (.ref b), .val (.int (0 : Int32)), .val (.int (3 : Int32)), .val (.int (-1 : Int32)), .val (.int (2 : Int32)), .val (.long y2), .second] [(.int (-1 : Int32))])
        refine own_st (fun _ kt => XS.iloadN X12.here hx rfl (hb hby own_d10_35) rfl  kt) ?_
        show own_Rch p e below _ T12 (mkF m 36 #[.val (.ref b), .val (.int (0 : Int32)), .val (.int (3 : Int32)), .val (.int (-1 : Int32)), .val (.int (2 : Int32)), .val (.long y2), .second] [(.int (0 : Int32)), (.int (-1 : Int32))])
        refine own_st (fun _ kt => XS.icmpYes X12.here hx rfl (pc0 := 36) (pc' := 59) rfl (hb hby own_d10_36) rfl (tlt ((by decide) : (-1 : Int32) < (0 : Int32))).1 (by decide) (by decide) kt) ?_
        show own_Rch p e below _ T12 (mkF m 59 #[.val (.ref b), .val (.int (0 : Int32)), .val (.int (3 : Int32)), .val (.int (-1 : Int32)), .val (.int (2 : Int32)), .val (.long y2), .second] [])
        refine own_st (fun _ kt => XS.aloadN X12.here hx rfl (hb hby own_d10_59) rfl rfl  kt) ?_
        show own_Rch p e below _ T12 (mkF m 60 #[.val (.ref b), .val (.int (0 : Int32)), .val (.int (3 : Int32)), .val (.int (-1 : Int32)), .val (.int (2 : Int32)), .val (.long y2), .second] [(.ref b)])
        refine own_st (fun _ kt => XS.iloadN X12.here hx rfl (hb hby own_d10_60) rfl  kt) ?_
        show own_Rch p e below _ T12 (mkF m 61 #[.val (.ref b), .val (.int (0 : Int32)), .val (.int (3 : Int32)), .val (.int (-1 : Int32)), .val (.int (2 : Int32)), .val (.long y2), .second] [(.int (-1 : Int32)), (.ref b)])
        refine own_st (fun _ kt => XS.iconst X12.here hx rfl (hb hby own_d10_61) kt) ?_
        show own_Rch p e below _ T12 (mkF m 62 #[.val (.ref b), .val (.int (0 : Int32)), .val (.int (3 : Int32)), .val (.int (-1 : Int32)), .val (.int (2 : Int32)), .val (.long y2), .second] [(.int (1 : Int32)), (.int (-1 : Int32)), (.ref b)])
        refine own_st (fun _ kt => XS.iadd X12.here hx rfl (hb hby own_d10_62) rfl kt) ?_
        show own_Rch p e below _ T12 (mkF m 63 #[.val (.ref b), .val (.int (0 : Int32)), .val (.int (3 : Int32)), .val (.int (-1 : Int32)), .val (.int (2 : Int32)), .val (.long y2), .second] [(.int (0 : Int32)), (.ref b)])
        refine own_st (fun _ kt => XS.lload X12.here hx rfl (hb hby own_d10_63) rfl  kt) ?_
        show own_Rch p e below _ T12 (mkF m 65 #[.val (.ref b), .val (.int (0 : Int32)), .val (.int (3 : Int32)), .val (.int (-1 : Int32)), .val (.int (2 : Int32)), .val (.long y2), .second] [(.long y2), (.int (0 : Int32)), (.ref b)])
        obtain ⟨cl13, Ar13, q13, S13, M13, H13, G13⟩ := id V12s
        have hin13 : ¬ ((0 : Int32) < 0 ∨ cl13.slots.size ≤ ((0 : Int32)).toNatClampNeg) := inb_of S13 ⟨by decide, by decide⟩
        obtain ⟨T13, h13, X13, e13, W13, st13⟩ := stJ X12 hx hZ e12 Ar13 (j := (0 : Int32)) hin13 (g := (mkF m 65 #[.val (.ref b), .val (.int (0 : Int32)), .val (.int (3 : Int32)), .val (.int (-1 : Int32)), .val (.int (2 : Int32)), .val (.long y2), .second] [(.long y2), (.int (0 : Int32)), (.ref b)])) rfl rfl (hb hby own_d10_65)
        have V13 := Arv.set Ar13 q13 S13 M13 H13 G13 rfl W13 0 rfl (Nat.le_of_ble_eq_true rfl)
        have V13s : Arv Z h13 b k .long (1024 : Int32) [(.long y2), (.long w0), (.long w1), (.long y3)] (.long (0 : Int64)) := V13
        have N13 := Fr.snoc X13 N12 gb
        refine own_st st13 ?_
        have O2_x13 := O2_x12.wr W13 gb
        have K2_x13 := K2_x12.wr W13 (Or.inl (List.mem_of_getElem? (i := 0) rfl))
        show own_Rch p e below _ T13 (mkF m 66 #[.val (.ref b), .val (.int (0 : Int32)), .val (.int (3 : Int32)), .val (.int (-1 : Int32)), .val (.int (2 : Int32)), .val (.long y2), .second] [])
        refine own_st (fun _ kt => XS.goto X13.here hx rfl (pc0 := 66) (pc' := 3) rfl (hb hby own_d10_66) (by decide) (by decide) kt) ?_
        show own_Rch p e below _ T13 (mkF m 3 #[.val (.ref b), .val (.int (0 : Int32)), .val (.int (3 : Int32)), .val (.int (-1 : Int32)), .val (.int (2 : Int32)), .val (.long y2), .second] [])
        refine own_st (fun _ kt => XS.iinc X13.here hx rfl (hb hby own_d10_3) rfl (l' := #[.val (.ref b), .val (.int (0 : Int32)), .val (.int (3 : Int32)), .val (.int (-1 : Int32)), .val (.int (3 : Int32)), .val (.long y2), .second]) rfl kt) ?_
        exact c3 y2 w0 w1 y2 (-1 : Int32) _ _ X13 _ e13 N13 O2_x13 K2_x13 V13s (hI.trans (congrArg (own_isr []) (by simp [own_insr, hc28_5, hc45_10] : own_insr y2 [w1, w0] = [w1, w0, y2])))
      · -- pc 45: False
        refine own_st (fun _ kt => XS.ifYes X8.here hx rfl (pc0 := 45) (pc' := 59) rfl (hb hby own_d10_45) rfl ((if0 _ _).trans (flt hc45_10).2.1) (by decide) (by decide) kt) ?_
        rw [lw_lt] at hc45_10
        show own_Rch p e below _ T8 (mkF m 59 #[.val (.ref b), .val (.int (0 : Int32)), .val (.int (3 : Int32)), .val (.int (0 : Int32)), .val (.int (2 : Int32)), .val (.long y2), .second] [])
        refine own_st (fun _ kt => XS.aloadN X8.here hx rfl (hb hby own_d10_59) rfl rfl  kt) ?_
        show own_Rch p e below _ T8 (mkF m 60 #[.val (.ref b), .val (.int (0 : Int32)), .val (.int (3 : Int32)), .val (.int (0 : Int32)), .val (.int (2 : Int32)), .val (.long y2), .second] [(.ref b)])
        refine own_st (fun _ kt => XS.iloadN X8.here hx rfl (hb hby own_d10_60) rfl  kt) ?_
        show own_Rch p e below _ T8 (mkF m 61 #[.val (.ref b), .val (.int (0 : Int32)), .val (.int (3 : Int32)), .val (.int (0 : Int32)), .val (.int (2 : Int32)), .val (.long y2), .second] [(.int (0 : Int32)), (.ref b)])
        refine own_st (fun _ kt => XS.iconst X8.here hx rfl (hb hby own_d10_61) kt) ?_
        show own_Rch p e below _ T8 (mkF m 62 #[.val (.ref b), .val (.int (0 : Int32)), .val (.int (3 : Int32)), .val (.int (0 : Int32)), .val (.int (2 : Int32)), .val (.long y2), .second] [(.int (1 : Int32)), (.int (0 : Int32)), (.ref b)])
        refine own_st (fun _ kt => XS.iadd X8.here hx rfl (hb hby own_d10_62) rfl kt) ?_
        show own_Rch p e below _ T8 (mkF m 63 #[.val (.ref b), .val (.int (0 : Int32)), .val (.int (3 : Int32)), .val (.int (0 : Int32)), .val (.int (2 : Int32)), .val (.long y2), .second] [(.int (1 : Int32)), (.ref b)])
        refine own_st (fun _ kt => XS.lload X8.here hx rfl (hb hby own_d10_63) rfl  kt) ?_
        show own_Rch p e below _ T8 (mkF m 65 #[.val (.ref b), .val (.int (0 : Int32)), .val (.int (3 : Int32)), .val (.int (0 : Int32)), .val (.int (2 : Int32)), .val (.long y2), .second] [(.long y2), (.int (1 : Int32)), (.ref b)])
        obtain ⟨cl14, Ar14, q14, S14, M14, H14, G14⟩ := id V8s
        have hin14 : ¬ ((1 : Int32) < 0 ∨ cl14.slots.size ≤ ((1 : Int32)).toNatClampNeg) := inb_of S14 ⟨by decide, by decide⟩
        obtain ⟨T14, h14, X14, e14, W14, st14⟩ := stJ X8 hx hZ e8 Ar14 (j := (1 : Int32)) hin14 (g := (mkF m 65 #[.val (.ref b), .val (.int (0 : Int32)), .val (.int (3 : Int32)), .val (.int (0 : Int32)), .val (.int (2 : Int32)), .val (.long y2), .second] [(.long y2), (.int (1 : Int32)), (.ref b)])) rfl rfl (hb hby own_d10_65)
        have V14 := Arv.set Ar14 q14 S14 M14 H14 G14 rfl W14 1 rfl (Nat.le_of_ble_eq_true rfl)
        have V14s : Arv Z h14 b k .long (1024 : Int32) [(.long w0), (.long y2), (.long w1), (.long y3)] (.long (0 : Int64)) := V14
        have N14 := Fr.snoc X14 N8 gb
        refine own_st st14 ?_
        have O2_x14 := O2_x8.wr W14 gb
        have K2_x14 := K2_x8.wr W14 (Or.inl (List.mem_of_getElem? (i := 0) rfl))
        show own_Rch p e below _ T14 (mkF m 66 #[.val (.ref b), .val (.int (0 : Int32)), .val (.int (3 : Int32)), .val (.int (0 : Int32)), .val (.int (2 : Int32)), .val (.long y2), .second] [])
        refine own_st (fun _ kt => XS.goto X14.here hx rfl (pc0 := 66) (pc' := 3) rfl (hb hby own_d10_66) (by decide) (by decide) kt) ?_
        show own_Rch p e below _ T14 (mkF m 3 #[.val (.ref b), .val (.int (0 : Int32)), .val (.int (3 : Int32)), .val (.int (0 : Int32)), .val (.int (2 : Int32)), .val (.long y2), .second] [])
        refine own_st (fun _ kt => XS.iinc X14.here hx rfl (hb hby own_d10_3) rfl (l' := #[.val (.ref b), .val (.int (0 : Int32)), .val (.int (3 : Int32)), .val (.int (0 : Int32)), .val (.int (3 : Int32)), .val (.long y2), .second]) rfl kt) ?_
        exact c3 w0 y2 w1 y2 (0 : Int32) _ _ X14 _ e14 N14 O2_x14 K2_x14 V14s (hI.trans (congrArg (own_isr []) (by simp [own_insr, hc28_5, hc45_10] : own_insr y2 [w1, w0] = [w1, y2, w0])))
    · -- pc 28: False
      refine own_st (fun _ kt => XS.ifYes X2.here hx rfl (pc0 := 28) (pc' := 66) rfl (hb hby own_d10_28) rfl ((if0 _ _).trans (flt hc28_5).2.1) (by decide) (by decide) kt) ?_
      rw [lw_lt] at hc28_5
      show own_Rch p e below _ T2 (mkF m 66 #[.val (.ref b), .val (.int (0 : Int32)), .val (.int (3 : Int32)), .val (.int (2 : Int32)), .val (.int (2 : Int32)), .val (.long y2), .second] [])
      refine own_st (fun _ kt => XS.goto X2.here hx rfl (pc0 := 66) (pc' := 3) rfl (hb hby own_d10_66) (by decide) (by decide) kt) ?_
      show own_Rch p e below _ T2 (mkF m 3 #[.val (.ref b), .val (.int (0 : Int32)), .val (.int (3 : Int32)), .val (.int (2 : Int32)), .val (.int (2 : Int32)), .val (.long y2), .second] [])
      refine own_st (fun _ kt => XS.iinc X2.here hx rfl (hb hby own_d10_3) rfl (l' := #[.val (.ref b), .val (.int (0 : Int32)), .val (.int (3 : Int32)), .val (.int (2 : Int32)), .val (.int (3 : Int32)), .val (.long y2), .second]) rfl kt) ?_
      exact c3 w0 w1 y2 y2 (2 : Int32) _ _ X2 _ e2 N2 O2 K2 VB2 (hI.trans (congrArg (own_isr []) (by simp [own_insr, hc28_5] : own_insr y2 [w1, w0] = [y2, w1, w0])))
  have c1 : ∀ (w0 : Int64) (T15 : State) (lc15 : List Loc) (X15 : Stand p l e (({ frames := 0, cells := 0, slots := 0, locals := 0 } : Room)) s m #[(.ref b), (.int (0 : Int32)), (.int (3 : Int32))] below meth c T15 lc15 0 0) (hv15 : Heap) (e15 : T15.heap = hv15) (N15 : Fr n0 lc15) (O15 : Old Z n0 hv15) (K15 : Keep h0 hv15 [b]) (VB1 : Arv Z hv15 b k .long (1024 : Int32) [(.long w0), (.long y1), (.long y2), (.long y3)] (.long (0 : Int64))) (hI : own_isort [y0, y1, y2] = own_isr [y1, y2] [w0]), own_Rch p e below (own_End s below (own_Q_own_ins3 Z b k y0 y1 y2 y3 h0 n0) (({ frames := 0, cells := 0, slots := 0, locals := 0 } : Room)).cells (({ frames := 0, cells := 0, slots := 0, locals := 0 } : Room)).slots) T15 (mkF m 6 #[.val (.ref b), .val (.int (0 : Int32)), .val (.int (3 : Int32)), .unset, .val (.int (1 : Int32)), .unset, .unset] []) := by
    intro w0 T15 lc15 X15 hv15 e15 N15 O15 K15 VB1 hI
    show own_Rch p e below _ T15 (mkF m 6 #[.val (.ref b), .val (.int (0 : Int32)), .val (.int (3 : Int32)), .unset, .val (.int (1 : Int32)), .unset, .unset] [])
    refine own_st (fun _ kt => XS.iload X15.here hx rfl (hb hby own_d10_6) rfl  kt) ?_
    show own_Rch p e below _ T15 (mkF m 8 #[.val (.ref b), .val (.int (0 : Int32)), .val (.int (3 : Int32)), .unset, .val (.int (1 : Int32)), .unset, .unset] [(.int (1 : Int32))])
    refine own_st (fun _ kt => XS.iloadN X15.here hx rfl (hb hby own_d10_8) rfl  kt) ?_
    show own_Rch p e below _ T15 (mkF m 9 #[.val (.ref b), .val (.int (0 : Int32)), .val (.int (3 : Int32)), .unset, .val (.int (1 : Int32)), .unset, .unset] [(.int (3 : Int32)), (.int (1 : Int32))])
    refine own_st (fun _ kt => XS.icmpNo X15.here hx rfl (hb hby own_d10_9) rfl (tlt ((by decide) : (1 : Int32) < (3 : Int32))).2.1 kt) ?_
    show own_Rch p e below _ T15 (mkF m 12 #[.val (.ref b), .val (.int (0 : Int32)), .val (.int (3 : Int32)), .unset, .val (.int (1 : Int32)), .unset, .unset] [])
    refine own_st (fun _ kt => XS.aloadN X15.here hx rfl (hb hby own_d10_12) rfl rfl  kt) ?_
    show own_Rch p e below _ T15 (mkF m 13 #[.val (.ref b), .val (.int (0 : Int32)), .val (.int (3 : Int32)), .unset, .val (.int (1 : Int32)), .unset, .unset] [(.ref b)])
    refine own_st (fun _ kt => XS.iload X15.here hx rfl (hb hby own_d10_13) rfl  kt) ?_
    show own_Rch p e below _ T15 (mkF m 15 #[.val (.ref b), .val (.int (0 : Int32)), .val (.int (3 : Int32)), .unset, .val (.int (1 : Int32)), .unset, .unset] [(.int (1 : Int32)), (.ref b)])
    refine own_st (fun _ kt => XS.dup X15.here hx rfl (hb hby own_d10_15) rfl rfl kt) ?_
    show own_Rch p e below _ T15 (mkF m 16 #[.val (.ref b), .val (.int (0 : Int32)), .val (.int (3 : Int32)), .unset, .val (.int (1 : Int32)), .unset, .unset] [(.int (1 : Int32)), (.int (1 : Int32)), (.ref b)])
    refine own_st (fun _ kt => XS.istoreN X15.here hx rfl (hb hby own_d10_16) rfl (l' := #[.val (.ref b), .val (.int (0 : Int32)), .val (.int (3 : Int32)), .val (.int (1 : Int32)), .val (.int (1 : Int32)), .unset, .unset]) rfl kt) ?_
    show own_Rch p e below _ T15 (mkF m 17 #[.val (.ref b), .val (.int (0 : Int32)), .val (.int (3 : Int32)), .val (.int (1 : Int32)), .val (.int (1 : Int32)), .unset, .unset] [(.int (1 : Int32)), (.ref b)])
    obtain ⟨cl16, Ar16, q16, S16, M16, H16, G16⟩ := id VB1
    have hin16 : ¬ ((1 : Int32) < 0 ∨ cl16.slots.size ≤ ((1 : Int32)).toNatClampNeg) := inb_of S16 ⟨by decide, by decide⟩
    refine own_st (X15.laload hx (j := (1 : Int32)) (v := (.long y1)) (by rw [e15]; exact Ar16.1) (State.isArrayOf_alike (hZ).alike Ar16.2.1) Ar16.2.2 hin16 (H16.at hin16 rfl) (g := (mkF m 17 #[.val (.ref b), .val (.int (0 : Int32)), .val (.int (3 : Int32)), .val (.int (1 : Int32)), .val (.int (1 : Int32)), .unset, .unset] [(.int (1 : Int32)), (.ref b)])) rfl rfl (hb hby own_d10_17)) ?_
    show own_Rch p e below _ T15 (mkF m 18 #[.val (.ref b), .val (.int (0 : Int32)), .val (.int (3 : Int32)), .val (.int (1 : Int32)), .val (.int (1 : Int32)), .unset, .unset] [(.long y1)])
    refine own_st (fun _ kt => XS.lstore X15.here hx rfl (hb hby own_d10_18) rfl (l' := #[.val (.ref b), .val (.int (0 : Int32)), .val (.int (3 : Int32)), .val (.int (1 : Int32)), .val (.int (1 : Int32)), .val (.long y1), .second]) rfl kt) ?_
    show own_Rch p e below _ T15 (mkF m 20 #[.val (.ref b), .val (.int (0 : Int32)), .val (.int (3 : Int32)), .val (.int (1 : Int32)), .val (.int (1 : Int32)), .val (.long y1), .second] [])
    refine own_st (fun _ kt => XS.lload X15.here hx rfl (hb hby own_d10_20) rfl  kt) ?_
    show own_Rch p e below _ T15 (mkF m 22 #[.val (.ref b), .val (.int (0 : Int32)), .val (.int (3 : Int32)), .val (.int (1 : Int32)), .val (.int (1 : Int32)), .val (.long y1), .second] [(.long y1)])
    refine own_st (fun _ kt => XS.aloadN X15.here hx rfl (hb hby own_d10_22) rfl rfl  kt) ?_
    show own_Rch p e below _ T15 (mkF m 23 #[.val (.ref b), .val (.int (0 : Int32)), .val (.int (3 : Int32)), .val (.int (1 : Int32)), .val (.int (1 : Int32)), .val (.long y1), .second] [(.ref b), (.long y1)])
    refine own_st (fun _ kt => XS.iloadN X15.here hx rfl (hb hby own_d10_23) rfl  kt) ?_
    show own_Rch p e below _ T15 (mkF m 24 #[.val (.ref b), .val (.int (0 : Int32)), .val (.int (3 : Int32)), .val (.int (1 : Int32)), .val (.int (1 : Int32)), .val (.long y1), .second] [(.int (1 : Int32)), (.ref b), (.long y1)])
    refine own_st (fun _ kt => XS.iconst X15.here hx rfl (hb hby own_d10_24) kt) ?_
    show own_Rch p e below _ T15 (mkF m 25 #[.val (.ref b), .val (.int (0 : Int32)), .val (.int (3 : Int32)), .val (.int (1 : Int32)), .val (.int (1 : Int32)), .val (.long y1), .second] [(.int (1 : Int32)), (.int (1 : Int32)), (.ref b), (.long y1)])
    refine own_st (fun _ kt => XS.isub X15.here hx rfl (hb hby own_d10_25) rfl kt) ?_
    show own_Rch p e below _ T15 (mkF m 26 #[.val (.ref b), .val (.int (0 : Int32)), .val (.int (3 : Int32)), .val (.int (1 : Int32)), .val (.int (1 : Int32)), .val (.long y1), .second] [(.int (0 : Int32)), (.ref b), (.long y1)])
    obtain ⟨cl17, Ar17, q17, S17, M17, H17, G17⟩ := id VB1
    have hin17 : ¬ ((0 : Int32) < 0 ∨ cl17.slots.size ≤ ((0 : Int32)).toNatClampNeg) := inb_of S17 ⟨by decide, by decide⟩
    refine own_st (X15.laload hx (j := (0 : Int32)) (v := (.long w0)) (by rw [e15]; exact Ar17.1) (State.isArrayOf_alike (hZ).alike Ar17.2.1) Ar17.2.2 hin17 (H17.at hin17 rfl) (g := (mkF m 26 #[.val (.ref b), .val (.int (0 : Int32)), .val (.int (3 : Int32)), .val (.int (1 : Int32)), .val (.int (1 : Int32)), .val (.long y1), .second] [(.int (0 : Int32)), (.ref b), (.long y1)])) rfl rfl (hb hby own_d10_26)) ?_
    show own_Rch p e below _ T15 (mkF m 27 #[.val (.ref b), .val (.int (0 : Int32)), .val (.int (3 : Int32)), .val (.int (1 : Int32)), .val (.int (1 : Int32)), .val (.long y1), .second] [(.long w0), (.long y1)])
    refine own_st (fun _ kt => XS.lcmp X15.here hx rfl (hb hby own_d10_27) rfl kt) ?_
    show own_Rch p e below _ T15 (mkF m 28 #[.val (.ref b), .val (.int (0 : Int32)), .val (.int (3 : Int32)), .val (.int (1 : Int32)), .val (.int (1 : Int32)), .val (.long y1), .second] [(.int (lcmpW y1 w0))])
    by_cases hc28_18 : (lcmpW y1 w0) < (0 : Int32)
    · -- pc 28: True
      refine own_st (fun _ kt => XS.ifNo X15.here hx rfl (hb hby own_d10_28) rfl ((if0 _ _).trans (tlt hc28_18).2.1) kt) ?_
      rw [lw_lt] at hc28_18
      show own_Rch p e below _ T15 (mkF m 31 #[.val (.ref b), .val (.int (0 : Int32)), .val (.int (3 : Int32)), .val (.int (1 : Int32)), .val (.int (1 : Int32)), .val (.long y1), .second] [])
      refine own_st (fun _ kt => XS.iinc X15.here hx rfl (hb hby own_d10_31) rfl (l' := #[.val (.ref b), .val (.int (0 : Int32)), .val (.int (3 : Int32)), .val (.int (0 : Int32)), .val (.int (1 : Int32)), .val (.long y1), .second]) rfl kt) ?_
      show own_Rch p e below _ T15 (mkF m 34 #[.val (.ref b), .val (.int (0 : Int32)), .val (.int (3 : Int32)), .val (.int (0 : Int32)), .val (.int (1 : Int32)), .val (.long y1), .second] [])
      refine own_st (fun _ kt => XS.iloadN X15.here hx rfl (hb hby own_d10_34) rfl  kt) ?_
      show own_Rch p e below _ T15 (mkF m 35 #[.val (.ref b), .val (.int (0 : Int32)), .val (.int (3 : Int32)), .val (.int (0 : Int32)), .val (.int (1 : Int32)), .val (.long y1), .second] [(.int (0 : Int32))])
      refine own_st (fun _ kt => XS.iloadN X15.here hx rfl (hb hby own_d10_35) rfl  kt) ?_
      show own_Rch p e below _ T15 (mkF m 36 #[.val (.ref b), .val (.int (0 : Int32)), .val (.int (3 : Int32)), .val (.int (0 : Int32)), .val (.int (1 : Int32)), .val (.long y1), .second] [(.int (0 : Int32)), (.int (0 : Int32))])
      refine own_st (fun _ kt => XS.icmpNo X15.here hx rfl (hb hby own_d10_36) rfl (flt ((by decide) : ¬ ((0 : Int32) < (0 : Int32)))).1 kt) ?_
      show own_Rch p e below _ T15 (mkF m 39 #[.val (.ref b), .val (.int (0 : Int32)), .val (.int (3 : Int32)), .val (.int (0 : Int32)), .val (.int (1 : Int32)), .val (.long y1), .second] [])
      refine own_st (fun _ kt => XS.lload X15.here hx rfl (hb hby own_d10_39) rfl  kt) ?_
      show own_Rch p e below _ T15 (mkF m 41 #[.val (.ref b), .val (.int (0 : Int32)), .val (.int (3 : Int32)), .val (.int (0 : Int32)), .val (.int (1 : Int32)), .val (.long y1), .second] [(.long y1)])
      refine own_st (fun _ kt => XS.aloadN X15.here hx rfl (hb hby own_d10_41) rfl rfl  kt) ?_
      show own_Rch p e below _ T15 (mkF m 42 #[.val (.ref b), .val (.int (0 : Int32)), .val (.int (3 : Int32)), .val (.int (0 : Int32)), .val (.int (1 : Int32)), .val (.long y1), .second] [(.ref b), (.long y1)])
      refine own_st (fun _ kt => XS.iloadN X15.here hx rfl (hb hby own_d10_42) rfl  kt) ?_
      show own_Rch p e below _ T15 (mkF m 43 #[.val (.ref b), .val (.int (0 : Int32)), .val (.int (3 : Int32)), .val (.int (0 : Int32)), .val (.int (1 : Int32)), .val (.long y1), .second] [(.int (0 : Int32)), (.ref b), (.long y1)])
      obtain ⟨cl19, Ar19, q19, S19, M19, H19, G19⟩ := id VB1
      have hin19 : ¬ ((0 : Int32) < 0 ∨ cl19.slots.size ≤ ((0 : Int32)).toNatClampNeg) := inb_of S19 ⟨by decide, by decide⟩
      refine own_st (X15.laload hx (j := (0 : Int32)) (v := (.long w0)) (by rw [e15]; exact Ar19.1) (State.isArrayOf_alike (hZ).alike Ar19.2.1) Ar19.2.2 hin19 (H19.at hin19 rfl) (g := (mkF m 43 #[.val (.ref b), .val (.int (0 : Int32)), .val (.int (3 : Int32)), .val (.int (0 : Int32)), .val (.int (1 : Int32)), .val (.long y1), .second] [(.int (0 : Int32)), (.ref b), (.long y1)])) rfl rfl (hb hby own_d10_43)) ?_
      show own_Rch p e below _ T15 (mkF m 44 #[.val (.ref b), .val (.int (0 : Int32)), .val (.int (3 : Int32)), .val (.int (0 : Int32)), .val (.int (1 : Int32)), .val (.long y1), .second] [(.long w0), (.long y1)])
      refine own_st (fun _ kt => XS.lcmp X15.here hx rfl (hb hby own_d10_44) rfl kt) ?_
      show own_Rch p e below _ T15 (mkF m 45 #[.val (.ref b), .val (.int (0 : Int32)), .val (.int (3 : Int32)), .val (.int (0 : Int32)), .val (.int (1 : Int32)), .val (.long y1), .second] [(.int (lcmpW y1 w0))])
      refine own_st (fun _ kt => XS.ifNo X15.here hx rfl (hb hby own_d10_45) rfl ((if0 _ _).trans (tlt ((lw_lt _ _).mpr hc28_18 : (lcmpW y1 w0) < (0 : Int32))).2.1) kt) ?_
      show own_Rch p e below _ T15 (mkF m 48 #[.val (.ref b), .val (.int (0 : Int32)), .val (.int (3 : Int32)), .val (.int (0 : Int32)), .val (.int (1 : Int32)), .val (.long y1), .second] [])
      refine own_st (fun _ kt => XS.aloadN X15.here hx rfl (hb hby own_d10_48) rfl rfl  kt) ?_
      show own_Rch p e below _ T15 (mkF m 49 #[.val (.ref b), .val (.int (0 : Int32)), .val (.int (3 : Int32)), .val (.int (0 : Int32)), .val (.int (1 : Int32)), .val (.long y1), .second] [(.ref b)])
      refine own_st (fun _ kt => XS.iloadN X15.here hx rfl (hb hby own_d10_49) rfl  kt) ?_
      show own_Rch p e below _ T15 (mkF m 50 #[.val (.ref b), .val (.int (0 : Int32)), .val (.int (3 : Int32)), .val (.int (0 : Int32)), .val (.int (1 : Int32)), .val (.long y1), .second] [(.int (0 : Int32)), (.ref b)])
      refine own_st (fun _ kt => XS.iconst X15.here hx rfl (hb hby own_d10_50) kt) ?_
      show own_Rch p e below _ T15 (mkF m 51 #[.val (.ref b), .val (.int (0 : Int32)), .val (.int (3 : Int32)), .val (.int (0 : Int32)), .val (.int (1 : Int32)), .val (.long y1), .second] [(.int (1 : Int32)), (.int (0 : Int32)), (.ref b)])
      refine own_st (fun _ kt => XS.iadd X15.here hx rfl (hb hby own_d10_51) rfl kt) ?_
      show own_Rch p e below _ T15 (mkF m 52 #[.val (.ref b), .val (.int (0 : Int32)), .val (.int (3 : Int32)), .val (.int (0 : Int32)), .val (.int (1 : Int32)), .val (.long y1), .second] [(.int (1 : Int32)), (.ref b)])
      refine own_st (fun _ kt => XS.aloadN X15.here hx rfl (hb hby own_d10_52) rfl rfl  kt) ?_
      show own_Rch p e below _ T15 (mkF m 53 #[.val (.ref b), .val (.int (0 : Int32)), .val (.int (3 : Int32)), .val (.int (0 : Int32)), .val (.int (1 : Int32)), .val (.long y1), .second] [(.ref b), (.int (1 : Int32)), (.ref b)])
      refine own_st (fun _ kt => XS.iloadN X15.here hx rfl (hb hby own_d10_53) rfl  kt) ?_
      show own_Rch p e below _ T15 (mkF m 54 #[.val (.ref b), .val (.int (0 : Int32)), .val (.int (3 : Int32)), .val (.int (0 : Int32)), .val (.int (1 : Int32)), .val (.long y1), .second] [(.int (0 : Int32)), (.ref b), (.int (1 : Int32)), (.ref b)])
      obtain ⟨cl20, Ar20, q20, S20, M20, H20, G20⟩ := id VB1
      have hin20 : ¬ ((0 : Int32) < 0 ∨ cl20.slots.size ≤ ((0 : Int32)).toNatClampNeg) := inb_of S20 ⟨by decide, by decide⟩
      refine own_st (X15.laload hx (j := (0 : Int32)) (v := (.long w0)) (by rw [e15]; exact Ar20.1) (State.isArrayOf_alike (hZ).alike Ar20.2.1) Ar20.2.2 hin20 (H20.at hin20 rfl) (g := (mkF m 54 #[.val (.ref b), .val (.int (0 : Int32)), .val (.int (3 : Int32)), .val (.int (0 : Int32)), .val (.int (1 : Int32)), .val (.long y1), .second] [(.int (0 : Int32)), (.ref b), (.int (1 : Int32)), (.ref b)])) rfl rfl (hb hby own_d10_54)) ?_
      show own_Rch p e below _ T15 (mkF m 55 #[.val (.ref b), .val (.int (0 : Int32)), .val (.int (3 : Int32)), .val (.int (0 : Int32)), .val (.int (1 : Int32)), .val (.long y1), .second] [(.long w0), (.int (1 : Int32)), (.ref b)])
      obtain ⟨cl21, Ar21, q21, S21, M21, H21, G21⟩ := id VB1
      have hin21 : ¬ ((1 : Int32) < 0 ∨ cl21.slots.size ≤ ((1 : Int32)).toNatClampNeg) := inb_of S21 ⟨by decide, by decide⟩
      obtain ⟨T21, h21, X21, e21, W21, st21⟩ := stJ X15 hx hZ e15 Ar21 (j := (1 : Int32)) hin21 (g := (mkF m 55 #[.val (.ref b), .val (.int (0 : Int32)), .val (.int (3 : Int32)), .val (.int (0 : Int32)), .val (.int (1 : Int32)), .val (.long y1), .second] [(.long w0), (.int (1 : Int32)), (.ref b)])) rfl rfl (hb hby own_d10_55)
      have V21 := Arv.set Ar21 q21 S21 M21 H21 G21 rfl W21 1 rfl (Nat.le_of_ble_eq_true rfl)
      have V21s : Arv Z h21 b k .long (1024 : Int32) [(.long w0), (.long w0), (.long y2), (.long y3)] (.long (0 : Int64)) := V21
      have N21 := Fr.snoc X21 N15 gb
      refine own_st st21 ?_
      have O15_x21 := O15.wr W21 gb
      have K15_x21 := K15.wr W21 (Or.inl (List.mem_of_getElem? (i := 0) rfl))
      show own_Rch p e below _ T21 (mkF m 56 #[.val (.ref b), .val (.int (0 : Int32)), .val (.int (3 : Int32)), .val (.int (0 : Int32)), .val (.int (1 : Int32)), .val (.long y1), .second] [])
      refine own_st (fun _ kt => XS.goto X21.here hx rfl (pc0 := 56) (pc' := 31) rfl (hb hby own_d10_56) (by decide) (by decide) kt) ?_
      show own_Rch p e below _ T21 (mkF m 31 #[.val (.ref b), .val (.int (0 : Int32)), .val (.int (3 : Int32)), .val (.int (0 : Int32)), .val (.int (1 : Int32)), .val (.long y1), .second] [])
      refine own_st (fun _ kt => XS.iinc X21.here hx rfl (hb hby own_d10_31) rfl (l' := #[.val (.ref b), .val (.int (0 : Int32)), .val (.int (3 : Int32)), .val (.int (-1 : Int32)), .val (.int (1 : Int32)), .val (.long y1), .second]) rfl kt) ?_
      show own_Rch p e below _ T21 (mkF m 34 #[.val (.ref b), .val (.int (0 : Int32)), .val (.int (3 : Int32)), .val (.int (-1 : Int32)), .val (.int (1 : Int32)), .val (.long y1), .second] [])
      refine own_st (fun _ kt => XS.iloadN X21.here hx rfl (hb hby own_d10_34) rfl  kt) ?_
      show own_Rch p e below _ T21 (mkF m 35 #[.val (.ref b), .val (.int (0 : Int32)), .val (.int (3 : Int32)), .val (.int (-1 : Int32)), .val (.int (1 : Int32)), .val (.long y1), .second] [(.int (-1 : Int32))])
      refine own_st (fun _ kt => XS.iloadN X21.here hx rfl (hb hby own_d10_35) rfl  kt) ?_
      show own_Rch p e below _ T21 (mkF m 36 #[.val (.ref b), .val (.int (0 : Int32)), .val (.int (3 : Int32)), .val (.int (-1 : Int32)), .val (.int (1 : Int32)), .val (.long y1), .second] [(.int (0 : Int32)), (.int (-1 : Int32))])
      refine own_st (fun _ kt => XS.icmpYes X21.here hx rfl (pc0 := 36) (pc' := 59) rfl (hb hby own_d10_36) rfl (tlt ((by decide) : (-1 : Int32) < (0 : Int32))).1 (by decide) (by decide) kt) ?_
      show own_Rch p e below _ T21 (mkF m 59 #[.val (.ref b), .val (.int (0 : Int32)), .val (.int (3 : Int32)), .val (.int (-1 : Int32)), .val (.int (1 : Int32)), .val (.long y1), .second] [])
      refine own_st (fun _ kt => XS.aloadN X21.here hx rfl (hb hby own_d10_59) rfl rfl  kt) ?_
      show own_Rch p e below _ T21 (mkF m 60 #[.val (.ref b), .val (.int (0 : Int32)), .val (.int (3 : Int32)), .val (.int (-1 : Int32)), .val (.int (1 : Int32)), .val (.long y1), .second] [(.ref b)])
      refine own_st (fun _ kt => XS.iloadN X21.here hx rfl (hb hby own_d10_60) rfl  kt) ?_
      show own_Rch p e below _ T21 (mkF m 61 #[.val (.ref b), .val (.int (0 : Int32)), .val (.int (3 : Int32)), .val (.int (-1 : Int32)), .val (.int (1 : Int32)), .val (.long y1), .second] [(.int (-1 : Int32)), (.ref b)])
      refine own_st (fun _ kt => XS.iconst X21.here hx rfl (hb hby own_d10_61) kt) ?_
      show own_Rch p e below _ T21 (mkF m 62 #[.val (.ref b), .val (.int (0 : Int32)), .val (.int (3 : Int32)), .val (.int (-1 : Int32)), .val (.int (1 : Int32)), .val (.long y1), .second] [(.int (1 : Int32)), (.int (-1 : Int32)), (.ref b)])
      refine own_st (fun _ kt => XS.iadd X21.here hx rfl (hb hby own_d10_62) rfl kt) ?_
      show own_Rch p e below _ T21 (mkF m 63 #[.val (.ref b), .val (.int (0 : Int32)), .val (.int (3 : Int32)), .val (.int (-1 : Int32)), .val (.int (1 : Int32)), .val (.long y1), .second] [(.int (0 : Int32)), (.ref b)])
      refine own_st (fun _ kt => XS.lload X21.here hx rfl (hb hby own_d10_63) rfl  kt) ?_
      show own_Rch p e below _ T21 (mkF m 65 #[.val (.ref b), .val (.int (0 : Int32)), .val (.int (3 : Int32)), .val (.int (-1 : Int32)), .val (.int (1 : Int32)), .val (.long y1), .second] [(.long y1), (.int (0 : Int32)), (.ref b)])
      obtain ⟨cl22, Ar22, q22, S22, M22, H22, G22⟩ := id V21s
      have hin22 : ¬ ((0 : Int32) < 0 ∨ cl22.slots.size ≤ ((0 : Int32)).toNatClampNeg) := inb_of S22 ⟨by decide, by decide⟩
      obtain ⟨T22, h22, X22, e22, W22, st22⟩ := stJ X21 hx hZ e21 Ar22 (j := (0 : Int32)) hin22 (g := (mkF m 65 #[.val (.ref b), .val (.int (0 : Int32)), .val (.int (3 : Int32)), .val (.int (-1 : Int32)), .val (.int (1 : Int32)), .val (.long y1), .second] [(.long y1), (.int (0 : Int32)), (.ref b)])) rfl rfl (hb hby own_d10_65)
      have V22 := Arv.set Ar22 q22 S22 M22 H22 G22 rfl W22 0 rfl (Nat.le_of_ble_eq_true rfl)
      have V22s : Arv Z h22 b k .long (1024 : Int32) [(.long y1), (.long w0), (.long y2), (.long y3)] (.long (0 : Int64)) := V22
      have N22 := Fr.snoc X22 N21 gb
      refine own_st st22 ?_
      have O15_x22 := O15_x21.wr W22 gb
      have K15_x22 := K15_x21.wr W22 (Or.inl (List.mem_of_getElem? (i := 0) rfl))
      show own_Rch p e below _ T22 (mkF m 66 #[.val (.ref b), .val (.int (0 : Int32)), .val (.int (3 : Int32)), .val (.int (-1 : Int32)), .val (.int (1 : Int32)), .val (.long y1), .second] [])
      refine own_st (fun _ kt => XS.goto X22.here hx rfl (pc0 := 66) (pc' := 3) rfl (hb hby own_d10_66) (by decide) (by decide) kt) ?_
      show own_Rch p e below _ T22 (mkF m 3 #[.val (.ref b), .val (.int (0 : Int32)), .val (.int (3 : Int32)), .val (.int (-1 : Int32)), .val (.int (1 : Int32)), .val (.long y1), .second] [])
      refine own_st (fun _ kt => XS.iinc X22.here hx rfl (hb hby own_d10_3) rfl (l' := #[.val (.ref b), .val (.int (0 : Int32)), .val (.int (3 : Int32)), .val (.int (-1 : Int32)), .val (.int (2 : Int32)), .val (.long y1), .second]) rfl kt) ?_
      exact c2 y1 w0 y1 (-1 : Int32) _ _ X22 _ e22 N22 O15_x22 K15_x22 V22s (hI.trans (congrArg (own_isr [y2]) (by simp [own_insr, hc28_18] : own_insr y1 [w0] = [w0, y1])))
    · -- pc 28: False
      refine own_st (fun _ kt => XS.ifYes X15.here hx rfl (pc0 := 28) (pc' := 66) rfl (hb hby own_d10_28) rfl ((if0 _ _).trans (flt hc28_18).2.1) (by decide) (by decide) kt) ?_
      rw [lw_lt] at hc28_18
      show own_Rch p e below _ T15 (mkF m 66 #[.val (.ref b), .val (.int (0 : Int32)), .val (.int (3 : Int32)), .val (.int (1 : Int32)), .val (.int (1 : Int32)), .val (.long y1), .second] [])
      refine own_st (fun _ kt => XS.goto X15.here hx rfl (pc0 := 66) (pc' := 3) rfl (hb hby own_d10_66) (by decide) (by decide) kt) ?_
      show own_Rch p e below _ T15 (mkF m 3 #[.val (.ref b), .val (.int (0 : Int32)), .val (.int (3 : Int32)), .val (.int (1 : Int32)), .val (.int (1 : Int32)), .val (.long y1), .second] [])
      refine own_st (fun _ kt => XS.iinc X15.here hx rfl (hb hby own_d10_3) rfl (l' := #[.val (.ref b), .val (.int (0 : Int32)), .val (.int (3 : Int32)), .val (.int (1 : Int32)), .val (.int (2 : Int32)), .val (.long y1), .second]) rfl kt) ?_
      exact c2 w0 y1 y1 (1 : Int32) _ _ X15 _ e15 N15 O15 K15 VB1 (hI.trans (congrArg (own_isr [y2]) (by simp [own_insr, hc28_18] : own_insr y1 [w0] = [y1, w0])))
  show own_Rch p e below _ s₁ (mkF m 0 #[.val (.ref b), .val (.int (0 : Int32)), .val (.int (3 : Int32)), .unset, .unset, .unset, .unset] [])
  refine own_st (fun _ kt => XS.iloadN X0.here hx rfl (hb hby own_d10_0) rfl  kt) ?_
  show own_Rch p e below _ s₁ (mkF m 1 #[.val (.ref b), .val (.int (0 : Int32)), .val (.int (3 : Int32)), .unset, .unset, .unset, .unset] [(.int (0 : Int32))])
  refine own_st (fun _ kt => XS.istore X0.here hx rfl (hb hby own_d10_1) rfl (l' := #[.val (.ref b), .val (.int (0 : Int32)), .val (.int (3 : Int32)), .unset, .val (.int (0 : Int32)), .unset, .unset]) rfl kt) ?_
  show own_Rch p e below _ s₁ (mkF m 3 #[.val (.ref b), .val (.int (0 : Int32)), .val (.int (3 : Int32)), .unset, .val (.int (0 : Int32)), .unset, .unset] [])
  refine own_st (fun _ kt => XS.iinc X0.here hx rfl (hb hby own_d10_3) rfl (l' := #[.val (.ref b), .val (.int (0 : Int32)), .val (.int (3 : Int32)), .unset, .val (.int (1 : Int32)), .unset, .unset]) rfl kt) ?_
  exact c1 y0 _ _ X0 _ e0 N0 O0 K0 VB rfl
def own_Q_own_qa3 (Z : State) (b : Addr) (k : ClassId) (y0 : Int64) (y1 : Int64) (y2 : Int64) (y3 : Int64) (h0 : Heap) (n0 : Nat) (v : Option Value) (h : Heap) (L : List Loc) : Prop := ∃ w0 w1 w2, own_isort [y0, y1, y2] = [w0, w1, w2] ∧ v = none ∧ Fr n0 L ∧ Keep h0 h [b] ∧ Arv Z h b k .long (1024 : Int32) [(.long w0), (.long w1), (.long w2), (.long y3)] (.long (0 : Int64))
set_option maxRecDepth 65536 in
set_option maxHeartbeats 40000000 in
theorem own_qa3 (l : Launch) (Z : State) (a0 : Array Value) (hw : ∀ d ∈ tables_1, d.before a0 Z = true) (ws : List Jvm.Cond) (b : Addr) (k : ClassId) (y0 : Int64) (y1 : Int64) (y2 : Int64) (y3 : Int64) (h0 : Heap) (n0 : Nat) (O0 : Old Z n0 h0) (VB : Arv Z h0 b k .long (1024 : Int32) [(.long y0), (.long y1), (.long y2), (.long y3)] (.long (0 : Int64))) (gb : n0 ≤ b) :
    MetFree l (⟨"java/util/DualPivotQuicksort", "sort", "(Ljava/util/DualPivotQuicksort$Sorter;[JIII)V"⟩ : MethodName) (head1 (Jvm.Cond.code (⟨"java/util/DualPivotQuicksort", "sort", "(Ljava/util/DualPivotQuicksort$Sorter;[JIII)V"⟩ : MethodName) jdk_2529_method_13_code 25 none :: ws) ({ frames := 1, cells := 0, slots := 0, locals := 18 } : Room)) (fun args_ U => args_ = #[.null, (.ref b), (.int (0 : Int32)), (.int (0 : Int32)), (.int (3 : Int32))] ∧ Z.Warmed39 U.vm ∧ U.heap = h0) (fun _ _ _ _ _ => True) (fun _ U o U' => ∃ v L, o = .returned v ∧ (own_Q_own_qa3 Z b k y0 y1 y2 y3 h0 n0) v U'.heap L ∧ FrameEnd U o U' L ({ frames := 1, cells := 0, slots := 0, locals := 18 } : Room).cells ({ frames := 1, cells := 0, slots := 0, locals := 18 } : Room).slots) := by
  refine MetFree.of_bodySF (plainFor_of_name own_pn3) hisR ?_
  intro p e s m args below meth c s₁ Bd hml0 hP hK
  obtain ⟨rfl, hZ, hh⟩ := hP
  have hx := Bd.exec
  have hby := Bd.bytes
  have hml : c.maxLocals = 25 := hml0
  have hown : s.vm.findClass "java/util/DualPivotQuicksort" = some m.cls := findClass_of_methodNamed Bd.named
  have hnm := (name_of_methodNamed Bd.named Bd.method).1
  have X0 : Stand p l e ({ frames := 1, cells := 0, slots := 0, locals := 18 } : Room) s m #[.null, (.ref b), (.int (0 : Int32)), (.int (0 : Int32)), (.int (3 : Int32))] below meth c s₁ [] 0 0 := Stand.of_body Bd
  have e0 : s₁.heap = h0 := by rw [← hh, Bd.state]; rfl
  have N0 := Fr.nil n0
  refine own_close (s := s) (Q := (own_Q_own_qa3 Z b k y0 y1 y2 y3 h0 n0)) (C := (({ frames := 1, cells := 0, slots := 0, locals := 18 } : Room)).cells) (N := (({ frames := 1, cells := 0, slots := 0, locals := 18 } : Room)).slots) (own_st (fun _ kt => castTop (own_ef9n0 m b (0 : Int32) (0 : Int32) (3 : Int32)) kt) ?_)
  have K0 := Keep.refl h0 [b]
  show own_Rch p e below _ s₁ (mkF m 0 #[.val .null, .val (.ref b), .val (.int (0 : Int32)), .val (.int (0 : Int32)), .val (.int (3 : Int32)), .unset, .unset, .unset, .unset, .unset, .unset, .unset, .unset, .unset, .unset, .unset, .unset, .unset, .unset, .unset, .unset, .unset, .unset, .unset, .unset] [])
  refine own_st (fun _ kt => XS.iload X0.here hx rfl (hb hby own_d9_0) rfl  kt) ?_
  show own_Rch p e below _ s₁ (mkF m 2 #[.val .null, .val (.ref b), .val (.int (0 : Int32)), .val (.int (0 : Int32)), .val (.int (3 : Int32)), .unset, .unset, .unset, .unset, .unset, .unset, .unset, .unset, .unset, .unset, .unset, .unset, .unset, .unset, .unset, .unset, .unset, .unset, .unset, .unset] [(.int (3 : Int32))])
  refine own_st (fun _ kt => XS.iconst X0.here hx rfl (hb hby own_d9_2) kt) ?_
  show own_Rch p e below _ s₁ (mkF m 3 #[.val .null, .val (.ref b), .val (.int (0 : Int32)), .val (.int (0 : Int32)), .val (.int (3 : Int32)), .unset, .unset, .unset, .unset, .unset, .unset, .unset, .unset, .unset, .unset, .unset, .unset, .unset, .unset, .unset, .unset, .unset, .unset, .unset, .unset] [(.int (1 : Int32)), (.int (3 : Int32))])
  refine own_st (fun _ kt => XS.isub X0.here hx rfl (hb hby own_d9_3) rfl kt) ?_
  show own_Rch p e below _ s₁ (mkF m 4 #[.val .null, .val (.ref b), .val (.int (0 : Int32)), .val (.int (0 : Int32)), .val (.int (3 : Int32)), .unset, .unset, .unset, .unset, .unset, .unset, .unset, .unset, .unset, .unset, .unset, .unset, .unset, .unset, .unset, .unset, .unset, .unset, .unset, .unset] [(.int (2 : Int32))])
  refine own_st (fun _ kt => XS.istore X0.here hx rfl (hb hby own_d9_4) rfl (l' := #[.val .null, .val (.ref b), .val (.int (0 : Int32)), .val (.int (0 : Int32)), .val (.int (3 : Int32)), .val (.int (2 : Int32)), .unset, .unset, .unset, .unset, .unset, .unset, .unset, .unset, .unset, .unset, .unset, .unset, .unset, .unset, .unset, .unset, .unset, .unset, .unset]) rfl kt) ?_
  show own_Rch p e below _ s₁ (mkF m 6 #[.val .null, .val (.ref b), .val (.int (0 : Int32)), .val (.int (0 : Int32)), .val (.int (3 : Int32)), .val (.int (2 : Int32)), .unset, .unset, .unset, .unset, .unset, .unset, .unset, .unset, .unset, .unset, .unset, .unset, .unset, .unset, .unset, .unset, .unset, .unset, .unset] [])
  refine own_st (fun _ kt => XS.iload X0.here hx rfl (hb hby own_d9_6) rfl  kt) ?_
  show own_Rch p e below _ s₁ (mkF m 8 #[.val .null, .val (.ref b), .val (.int (0 : Int32)), .val (.int (0 : Int32)), .val (.int (3 : Int32)), .val (.int (2 : Int32)), .unset, .unset, .unset, .unset, .unset, .unset, .unset, .unset, .unset, .unset, .unset, .unset, .unset, .unset, .unset, .unset, .unset, .unset, .unset] [(.int (3 : Int32))])
  refine own_st (fun _ kt => XS.iloadN X0.here hx rfl (hb hby own_d9_8) rfl  kt) ?_
  show own_Rch p e below _ s₁ (mkF m 9 #[.val .null, .val (.ref b), .val (.int (0 : Int32)), .val (.int (0 : Int32)), .val (.int (3 : Int32)), .val (.int (2 : Int32)), .unset, .unset, .unset, .unset, .unset, .unset, .unset, .unset, .unset, .unset, .unset, .unset, .unset, .unset, .unset, .unset, .unset, .unset, .unset] [(.int (0 : Int32)), (.int (3 : Int32))])
  refine own_st (fun _ kt => XS.isub X0.here hx rfl (hb hby own_d9_9) rfl kt) ?_
  show own_Rch p e below _ s₁ (mkF m 10 #[.val .null, .val (.ref b), .val (.int (0 : Int32)), .val (.int (0 : Int32)), .val (.int (3 : Int32)), .val (.int (2 : Int32)), .unset, .unset, .unset, .unset, .unset, .unset, .unset, .unset, .unset, .unset, .unset, .unset, .unset, .unset, .unset, .unset, .unset, .unset, .unset] [(.int (3 : Int32))])
  refine own_st (fun _ kt => XS.istore X0.here hx rfl (hb hby own_d9_10) rfl (l' := #[.val .null, .val (.ref b), .val (.int (0 : Int32)), .val (.int (0 : Int32)), .val (.int (3 : Int32)), .val (.int (2 : Int32)), .val (.int (3 : Int32)), .unset, .unset, .unset, .unset, .unset, .unset, .unset, .unset, .unset, .unset, .unset, .unset, .unset, .unset, .unset, .unset, .unset, .unset]) rfl kt) ?_
  show own_Rch p e below _ s₁ (mkF m 12 #[.val .null, .val (.ref b), .val (.int (0 : Int32)), .val (.int (0 : Int32)), .val (.int (3 : Int32)), .val (.int (2 : Int32)), .val (.int (3 : Int32)), .unset, .unset, .unset, .unset, .unset, .unset, .unset, .unset, .unset, .unset, .unset, .unset, .unset, .unset, .unset, .unset, .unset, .unset] [])
  refine own_st (fun _ kt => XS.iload X0.here hx rfl (hb hby own_d9_12) rfl  kt) ?_
  show own_Rch p e below _ s₁ (mkF m 14 #[.val .null, .val (.ref b), .val (.int (0 : Int32)), .val (.int (0 : Int32)), .val (.int (3 : Int32)), .val (.int (2 : Int32)), .val (.int (3 : Int32)), .unset, .unset, .unset, .unset, .unset, .unset, .unset, .unset, .unset, .unset, .unset, .unset, .unset, .unset, .unset, .unset, .unset, .unset] [(.int (3 : Int32))])
  refine own_st (fun _ kt => XS.bipush X0.here hx rfl (hb hby own_d9_14) kt) ?_
  show own_Rch p e below _ s₁ (mkF m 16 #[.val .null, .val (.ref b), .val (.int (0 : Int32)), .val (.int (0 : Int32)), .val (.int (3 : Int32)), .val (.int (2 : Int32)), .val (.int (3 : Int32)), .unset, .unset, .unset, .unset, .unset, .unset, .unset, .unset, .unset, .unset, .unset, .unset, .unset, .unset, .unset, .unset, .unset, .unset] [(.int (65 : Int32)), (.int (3 : Int32))])
  refine own_st (fun _ kt => XS.iloadN X0.here hx rfl (hb hby own_d9_16) rfl  kt) ?_
  show own_Rch p e below _ s₁ (mkF m 17 #[.val .null, .val (.ref b), .val (.int (0 : Int32)), .val (.int (0 : Int32)), .val (.int (3 : Int32)), .val (.int (2 : Int32)), .val (.int (3 : Int32)), .unset, .unset, .unset, .unset, .unset, .unset, .unset, .unset, .unset, .unset, .unset, .unset, .unset, .unset, .unset, .unset, .unset, .unset] [(.int (0 : Int32)), (.int (65 : Int32)), (.int (3 : Int32))])
  refine own_st (fun _ kt => XS.iadd X0.here hx rfl (hb hby own_d9_17) rfl kt) ?_
  show own_Rch p e below _ s₁ (mkF m 18 #[.val .null, .val (.ref b), .val (.int (0 : Int32)), .val (.int (0 : Int32)), .val (.int (3 : Int32)), .val (.int (2 : Int32)), .val (.int (3 : Int32)), .unset, .unset, .unset, .unset, .unset, .unset, .unset, .unset, .unset, .unset, .unset, .unset, .unset, .unset, .unset, .unset, .unset, .unset] [(.int (65 : Int32)), (.int (3 : Int32))])
  refine own_st (fun _ kt => XS.icmpNo X0.here hx rfl (hb hby own_d9_18) rfl (tlt ((by decide) : (3 : Int32) < (65 : Int32))).2.1 kt) ?_
  show own_Rch p e below _ s₁ (mkF m 21 #[.val .null, .val (.ref b), .val (.int (0 : Int32)), .val (.int (0 : Int32)), .val (.int (3 : Int32)), .val (.int (2 : Int32)), .val (.int (3 : Int32)), .unset, .unset, .unset, .unset, .unset, .unset, .unset, .unset, .unset, .unset, .unset, .unset, .unset, .unset, .unset, .unset, .unset, .unset] [])
  refine own_st (fun _ kt => XS.iloadN X0.here hx rfl (hb hby own_d9_21) rfl  kt) ?_
  show own_Rch p e below _ s₁ (mkF m 22 #[.val .null, .val (.ref b), .val (.int (0 : Int32)), .val (.int (0 : Int32)), .val (.int (3 : Int32)), .val (.int (2 : Int32)), .val (.int (3 : Int32)), .unset, .unset, .unset, .unset, .unset, .unset, .unset, .unset, .unset, .unset, .unset, .unset, .unset, .unset, .unset, .unset, .unset, .unset] [(.int (0 : Int32))])
  refine own_st (fun _ kt => XS.iconst X0.here hx rfl (hb hby own_d9_22) kt) ?_
  show own_Rch p e below _ s₁ (mkF m 23 #[.val .null, .val (.ref b), .val (.int (0 : Int32)), .val (.int (0 : Int32)), .val (.int (3 : Int32)), .val (.int (2 : Int32)), .val (.int (3 : Int32)), .unset, .unset, .unset, .unset, .unset, .unset, .unset, .unset, .unset, .unset, .unset, .unset, .unset, .unset, .unset, .unset, .unset, .unset] [(.int (1 : Int32)), (.int (0 : Int32))])
  refine own_st (fun _ kt => XS.iand X0.here hx rfl (hb hby own_d9_23) rfl kt) ?_
  show own_Rch p e below _ s₁ (mkF m 24 #[.val .null, .val (.ref b), .val (.int (0 : Int32)), .val (.int (0 : Int32)), .val (.int (3 : Int32)), .val (.int (2 : Int32)), .val (.int (3 : Int32)), .unset, .unset, .unset, .unset, .unset, .unset, .unset, .unset, .unset, .unset, .unset, .unset, .unset, .unset, .unset, .unset, .unset, .unset] [(.int (0 : Int32))])
  refine own_st (fun _ kt => XS.ifYes X0.here hx rfl (pc0 := 24) (pc' := 46) rfl (hb hby own_d9_24) rfl ((if0 _ _).trans (flt ((by decide) : ¬ ((0 : Int32) < (0 : Int32)))).2.2.2) (by decide) (by decide) kt) ?_
  show own_Rch p e below _ s₁ (mkF m 46 #[.val .null, .val (.ref b), .val (.int (0 : Int32)), .val (.int (0 : Int32)), .val (.int (3 : Int32)), .val (.int (2 : Int32)), .val (.int (3 : Int32)), .unset, .unset, .unset, .unset, .unset, .unset, .unset, .unset, .unset, .unset, .unset, .unset, .unset, .unset, .unset, .unset, .unset, .unset] [])
  refine own_st (fun _ kt => XS.iload X0.here hx rfl (hb hby own_d9_46) rfl  kt) ?_
  show own_Rch p e below _ s₁ (mkF m 48 #[.val .null, .val (.ref b), .val (.int (0 : Int32)), .val (.int (0 : Int32)), .val (.int (3 : Int32)), .val (.int (2 : Int32)), .val (.int (3 : Int32)), .unset, .unset, .unset, .unset, .unset, .unset, .unset, .unset, .unset, .unset, .unset, .unset, .unset, .unset, .unset, .unset, .unset, .unset] [(.int (3 : Int32))])
  refine own_st (fun _ kt => XS.bipush X0.here hx rfl (hb hby own_d9_48) kt) ?_
  show own_Rch p e below _ s₁ (mkF m 50 #[.val .null, .val (.ref b), .val (.int (0 : Int32)), .val (.int (0 : Int32)), .val (.int (3 : Int32)), .val (.int (2 : Int32)), .val (.int (3 : Int32)), .unset, .unset, .unset, .unset, .unset, .unset, .unset, .unset, .unset, .unset, .unset, .unset, .unset, .unset, .unset, .unset, .unset, .unset] [(.int (44 : Int32)), (.int (3 : Int32))])
  refine own_st (fun _ kt => XS.icmpNo X0.here hx rfl (hb hby own_d9_50) rfl (tlt ((by decide) : (3 : Int32) < (44 : Int32))).2.1 kt) ?_
  show own_Rch p e below _ s₁ (mkF m 53 #[.val .null, .val (.ref b), .val (.int (0 : Int32)), .val (.int (0 : Int32)), .val (.int (3 : Int32)), .val (.int (2 : Int32)), .val (.int (3 : Int32)), .unset, .unset, .unset, .unset, .unset, .unset, .unset, .unset, .unset, .unset, .unset, .unset, .unset, .unset, .unset, .unset, .unset, .unset] [])
  refine own_st (fun _ kt => XS.aloadN X0.here hx rfl (hb hby own_d9_53) rfl rfl  kt) ?_
  show own_Rch p e below _ s₁ (mkF m 54 #[.val .null, .val (.ref b), .val (.int (0 : Int32)), .val (.int (0 : Int32)), .val (.int (3 : Int32)), .val (.int (2 : Int32)), .val (.int (3 : Int32)), .unset, .unset, .unset, .unset, .unset, .unset, .unset, .unset, .unset, .unset, .unset, .unset, .unset, .unset, .unset, .unset, .unset, .unset] [(.ref b)])
  refine own_st (fun _ kt => XS.iloadN X0.here hx rfl (hb hby own_d9_54) rfl  kt) ?_
  show own_Rch p e below _ s₁ (mkF m 55 #[.val .null, .val (.ref b), .val (.int (0 : Int32)), .val (.int (0 : Int32)), .val (.int (3 : Int32)), .val (.int (2 : Int32)), .val (.int (3 : Int32)), .unset, .unset, .unset, .unset, .unset, .unset, .unset, .unset, .unset, .unset, .unset, .unset, .unset, .unset, .unset, .unset, .unset, .unset] [(.int (0 : Int32)), (.ref b)])
  refine own_st (fun _ kt => XS.iload X0.here hx rfl (hb hby own_d9_55) rfl  kt) ?_
  show own_Rch p e below _ s₁ (mkF m 57 #[.val .null, .val (.ref b), .val (.int (0 : Int32)), .val (.int (0 : Int32)), .val (.int (3 : Int32)), .val (.int (2 : Int32)), .val (.int (3 : Int32)), .unset, .unset, .unset, .unset, .unset, .unset, .unset, .unset, .unset, .unset, .unset, .unset, .unset, .unset, .unset, .unset, .unset, .unset] [(.int (3 : Int32)), (.int (0 : Int32)), (.ref b)])
  obtain ⟨_, _, ⟨T1, L1, k1, n1⟩, -, X1, ⟨Lc1, hQ1, l1, y1, z1⟩, st1⟩ := Jvm.LawKit.callS X0 hx (y := (⟨"java/util/DualPivotQuicksort", "insertionSort", "([JII)V"⟩ : MethodName)) hown (mvT hZ (hw _ (List.mem_of_getElem? (i := 44) rfl))) (mvT hZ (hw _ (List.mem_of_getElem? (i := 45) rfl))) (mvT hZ (hw _ (List.mem_of_getElem? (i := 39) rfl))) (mvT hZ (hw _ (List.mem_of_getElem? (i := 46) rfl))) (by decide) (backOf (W := 0) (own_ins3 l Z a0 hw [] b k y0 y1 y2 y3 h0 n0 O0 VB gb) hZ (hw _ (List.mem_of_getElem? (i := 46) rfl)) (hw _ (List.mem_of_getElem? (i := 39) rfl)) (by decide) (by decide)) (g := (mkF m 57 #[.val .null, .val (.ref b), .val (.int (0 : Int32)), .val (.int (0 : Int32)), .val (.int (3 : Int32)), .val (.int (2 : Int32)), .val (.int (3 : Int32)), .unset, .unset, .unset, .unset, .unset, .unset, .unset, .unset, .unset, .unset, .unset, .unset, .unset, .unset, .unset, .unset, .unset, .unset] [(.int (3 : Int32)), (.int (0 : Int32)), (.ref b)])) rfl (by rw [hml]; rfl) (argsL := [(.ref b), (.int (0 : Int32)), (.int (3 : Int32))]) (rest := []) (lenOf own_pd1 rfl) rfl (by show 2 * 0 + _ ≤ _; exact Nat.le_of_eq rfl) (hb hby own_d9_57) (fun _ _ => ⟨rfl, e0, (by decide : 0 + 0 ≤ _), (by decide : 0 + 0 ≤ _)⟩)
  dsimp only [Pt.U, Pt.locs, Pt.cells, Pt.slots] at X1 l1 y1 z1 st1 hQ1
  subst l1 y1 z1
  obtain ⟨w0, w1, w2, hs1, rfl, N1q, K1, Vb1⟩ := hQ1
  have N1 := Fr.app N0 N1q
  refine own_st st1 ?_
  have O0_x1 := O0.keep K1 (allS gb all0)
  have K0_x1 := K0.trans K1 (allS (Or.inl (List.mem_of_getElem? (i := 0) rfl)) all0)
  show own_Rch p e below _ T1 (mkF m 60 #[.val .null, .val (.ref b), .val (.int (0 : Int32)), .val (.int (0 : Int32)), .val (.int (3 : Int32)), .val (.int (2 : Int32)), .val (.int (3 : Int32)), .unset, .unset, .unset, .unset, .unset, .unset, .unset, .unset, .unset, .unset, .unset, .unset, .unset, .unset, .unset, .unset, .unset, .unset] [])
  refine own_retV X1 hx Bd.notSynchronized Bd.returns (hb hby own_d9_60) (by decide) (by decide) ?_
  exact ⟨_, _, _, hs1, rfl, N1, K0_x1, Vb1⟩
def own_Q_own_qb3 (Z : State) (b : Addr) (k : ClassId) (y0 : Int64) (y1 : Int64) (y2 : Int64) (y3 : Int64) (h0 : Heap) (n0 : Nat) (v : Option Value) (h : Heap) (L : List Loc) : Prop := ∃ w0 w1 w2, own_isort [y0, y1, y2] = [w0, w1, w2] ∧ v = none ∧ Fr n0 L ∧ Keep h0 h [b] ∧ Arv Z h b k .long (1024 : Int32) [(.long w0), (.long w1), (.long w2), (.long y3)] (.long (0 : Int64))
set_option maxRecDepth 65536 in
set_option maxHeartbeats 40000000 in
theorem own_qb3 (l : Launch) (Z : State) (a0 : Array Value) (hw : ∀ d ∈ tables_1, d.before a0 Z = true) (ws : List Jvm.Cond) (b : Addr) (k : ClassId) (y0 : Int64) (y1 : Int64) (y2 : Int64) (y3 : Int64) (h0 : Heap) (n0 : Nat) (O0 : Old Z n0 h0) (VB : Arv Z h0 b k .long (1024 : Int32) [(.long y0), (.long y1), (.long y2), (.long y3)] (.long (0 : Int64))) (gb : n0 ≤ b) :
    MetFree l (⟨"java/util/DualPivotQuicksort", "sort", "([JIII)V"⟩ : MethodName) (head1 (Jvm.Cond.code (⟨"java/util/DualPivotQuicksort", "sort", "([JIII)V"⟩ : MethodName) jdk_2529_method_12_code 7 none :: ws) ({ frames := 2, cells := 0, slots := 0, locals := 54 } : Room)) (fun args_ U => args_ = #[(.ref b), (.int (0 : Int32)), (.int (0 : Int32)), (.int (3 : Int32))] ∧ Z.Warmed39 U.vm ∧ U.heap = h0) (fun _ _ _ _ _ => True) (fun _ U o U' => ∃ v L, o = .returned v ∧ (own_Q_own_qb3 Z b k y0 y1 y2 y3 h0 n0) v U'.heap L ∧ FrameEnd U o U' L ({ frames := 2, cells := 0, slots := 0, locals := 54 } : Room).cells ({ frames := 2, cells := 0, slots := 0, locals := 54 } : Room).slots) := by
  refine MetFree.of_bodySF (plainFor_of_name own_pn3) hisR ?_
  intro p e s m args below meth c s₁ Bd hml0 hP hK
  obtain ⟨rfl, hZ, hh⟩ := hP
  have hx := Bd.exec
  have hby := Bd.bytes
  have hml : c.maxLocals = 7 := hml0
  have hown : s.vm.findClass "java/util/DualPivotQuicksort" = some m.cls := findClass_of_methodNamed Bd.named
  have hnm := (name_of_methodNamed Bd.named Bd.method).1
  have X0 : Stand p l e ({ frames := 2, cells := 0, slots := 0, locals := 54 } : Room) s m #[(.ref b), (.int (0 : Int32)), (.int (0 : Int32)), (.int (3 : Int32))] below meth c s₁ [] 0 0 := Stand.of_body Bd
  have e0 : s₁.heap = h0 := by rw [← hh, Bd.state]; rfl
  have N0 := Fr.nil n0
  refine own_close (s := s) (Q := (own_Q_own_qb3 Z b k y0 y1 y2 y3 h0 n0)) (C := (({ frames := 2, cells := 0, slots := 0, locals := 54 } : Room)).cells) (N := (({ frames := 2, cells := 0, slots := 0, locals := 54 } : Room)).slots) (own_st (fun _ kt => castTop (own_ef8 m b (0 : Int32) (0 : Int32) (3 : Int32)) kt) ?_)
  have K0 := Keep.refl h0 [b]
  show own_Rch p e below _ s₁ (mkF m 0 #[.val (.ref b), .val (.int (0 : Int32)), .val (.int (0 : Int32)), .val (.int (3 : Int32)), .unset, .unset, .unset] [])
  refine own_st (fun _ kt => XS.iloadN X0.here hx rfl (hb hby own_d8_0) rfl  kt) ?_
  show own_Rch p e below _ s₁ (mkF m 1 #[.val (.ref b), .val (.int (0 : Int32)), .val (.int (0 : Int32)), .val (.int (3 : Int32)), .unset, .unset, .unset] [(.int (3 : Int32))])
  refine own_st (fun _ kt => XS.iloadN X0.here hx rfl (hb hby own_d8_1) rfl  kt) ?_
  show own_Rch p e below _ s₁ (mkF m 2 #[.val (.ref b), .val (.int (0 : Int32)), .val (.int (0 : Int32)), .val (.int (3 : Int32)), .unset, .unset, .unset] [(.int (0 : Int32)), (.int (3 : Int32))])
  refine own_st (fun _ kt => XS.isub X0.here hx rfl (hb hby own_d8_2) rfl kt) ?_
  show own_Rch p e below _ s₁ (mkF m 3 #[.val (.ref b), .val (.int (0 : Int32)), .val (.int (0 : Int32)), .val (.int (3 : Int32)), .unset, .unset, .unset] [(.int (3 : Int32))])
  refine own_st (fun _ kt => XS.istore X0.here hx rfl (hb hby own_d8_3) rfl (l' := #[.val (.ref b), .val (.int (0 : Int32)), .val (.int (0 : Int32)), .val (.int (3 : Int32)), .val (.int (3 : Int32)), .unset, .unset]) rfl kt) ?_
  show own_Rch p e below _ s₁ (mkF m 5 #[.val (.ref b), .val (.int (0 : Int32)), .val (.int (0 : Int32)), .val (.int (3 : Int32)), .val (.int (3 : Int32)), .unset, .unset] [])
  refine own_st (fun _ kt => XS.iloadN X0.here hx rfl (hb hby own_d8_5) rfl  kt) ?_
  show own_Rch p e below _ s₁ (mkF m 6 #[.val (.ref b), .val (.int (0 : Int32)), .val (.int (0 : Int32)), .val (.int (3 : Int32)), .val (.int (3 : Int32)), .unset, .unset] [(.int (0 : Int32))])
  refine own_st (fun _ kt => XS.iconst X0.here hx rfl (hb hby own_d8_6) kt) ?_
  show own_Rch p e below _ s₁ (mkF m 7 #[.val (.ref b), .val (.int (0 : Int32)), .val (.int (0 : Int32)), .val (.int (3 : Int32)), .val (.int (3 : Int32)), .unset, .unset] [(.int (1 : Int32)), (.int (0 : Int32))])
  refine own_st (fun _ kt => XS.icmpYes X0.here hx rfl (pc0 := 7) (pc' := 68) rfl (hb hby own_d8_7) rfl (flt ((by decide) : ¬ ((1 : Int32) < (0 : Int32)))).2.2.2 (by decide) (by decide) kt) ?_
  show own_Rch p e below _ s₁ (mkF m 68 #[.val (.ref b), .val (.int (0 : Int32)), .val (.int (0 : Int32)), .val (.int (3 : Int32)), .val (.int (3 : Int32)), .unset, .unset] [])
  refine own_st (fun _ kt => XS.aconstNull X0.here hx rfl (hb hby own_d8_68) kt) ?_
  show own_Rch p e below _ s₁ (mkF m 69 #[.val (.ref b), .val (.int (0 : Int32)), .val (.int (0 : Int32)), .val (.int (3 : Int32)), .val (.int (3 : Int32)), .unset, .unset] [.null])
  refine own_st (fun _ kt => XS.aloadN X0.here hx rfl (hb hby own_d8_69) rfl rfl  kt) ?_
  show own_Rch p e below _ s₁ (mkF m 70 #[.val (.ref b), .val (.int (0 : Int32)), .val (.int (0 : Int32)), .val (.int (3 : Int32)), .val (.int (3 : Int32)), .unset, .unset] [(.ref b), .null])
  refine own_st (fun _ kt => XS.iconst X0.here hx rfl (hb hby own_d8_70) kt) ?_
  show own_Rch p e below _ s₁ (mkF m 71 #[.val (.ref b), .val (.int (0 : Int32)), .val (.int (0 : Int32)), .val (.int (3 : Int32)), .val (.int (3 : Int32)), .unset, .unset] [(.int (0 : Int32)), (.ref b), .null])
  refine own_st (fun _ kt => XS.iloadN X0.here hx rfl (hb hby own_d8_71) rfl  kt) ?_
  show own_Rch p e below _ s₁ (mkF m 72 #[.val (.ref b), .val (.int (0 : Int32)), .val (.int (0 : Int32)), .val (.int (3 : Int32)), .val (.int (3 : Int32)), .unset, .unset] [(.int (0 : Int32)), (.int (0 : Int32)), (.ref b), .null])
  refine own_st (fun _ kt => XS.iloadN X0.here hx rfl (hb hby own_d8_72) rfl  kt) ?_
  show own_Rch p e below _ s₁ (mkF m 73 #[.val (.ref b), .val (.int (0 : Int32)), .val (.int (0 : Int32)), .val (.int (3 : Int32)), .val (.int (3 : Int32)), .unset, .unset] [(.int (3 : Int32)), (.int (0 : Int32)), (.int (0 : Int32)), (.ref b), .null])
  obtain ⟨_, _, ⟨T1, L1, k1, n1⟩, -, X1, ⟨Lc1, hQ1, l1, y1, z1⟩, st1⟩ := Jvm.LawKit.callS X0 hx (y := (⟨"java/util/DualPivotQuicksort", "sort", "(Ljava/util/DualPivotQuicksort$Sorter;[JIII)V"⟩ : MethodName)) hown (mvT hZ (hw _ (List.mem_of_getElem? (i := 41) rfl))) (mvT hZ (hw _ (List.mem_of_getElem? (i := 42) rfl))) (mvT hZ (hw _ (List.mem_of_getElem? (i := 39) rfl))) (mvT hZ (hw _ (List.mem_of_getElem? (i := 43) rfl))) (by decide) (backOf (W := 0) (own_qa3 l Z a0 hw [] b k y0 y1 y2 y3 h0 n0 O0 VB gb) hZ (hw _ (List.mem_of_getElem? (i := 43) rfl)) (hw _ (List.mem_of_getElem? (i := 39) rfl)) (by decide) (by decide)) (g := (mkF m 73 #[.val (.ref b), .val (.int (0 : Int32)), .val (.int (0 : Int32)), .val (.int (3 : Int32)), .val (.int (3 : Int32)), .unset, .unset] [(.int (3 : Int32)), (.int (0 : Int32)), (.int (0 : Int32)), (.ref b), .null])) rfl (by rw [hml]; rfl) (argsL := [.null, (.ref b), (.int (0 : Int32)), (.int (0 : Int32)), (.int (3 : Int32))]) (rest := []) (lenOf own_pd2 rfl) rfl (by show 2 * 0 + _ ≤ _; exact Nat.le_of_eq rfl) (hb hby own_d8_73) (fun _ _ => ⟨rfl, e0, (by decide : 0 + 0 ≤ _), (by decide : 0 + 0 ≤ _)⟩)
  dsimp only [Pt.U, Pt.locs, Pt.cells, Pt.slots] at X1 l1 y1 z1 st1 hQ1
  subst l1 y1 z1
  obtain ⟨w0, w1, w2, hs1, rfl, N1q, K1, Vb1⟩ := hQ1
  have N1 := Fr.app N0 N1q
  refine own_st st1 ?_
  have O0_x1 := O0.keep K1 (allS gb all0)
  have K0_x1 := K0.trans K1 (allS (Or.inl (List.mem_of_getElem? (i := 0) rfl)) all0)
  show own_Rch p e below _ T1 (mkF m 76 #[.val (.ref b), .val (.int (0 : Int32)), .val (.int (0 : Int32)), .val (.int (3 : Int32)), .val (.int (3 : Int32)), .unset, .unset] [])
  refine own_retV X1 hx Bd.notSynchronized Bd.returns (hb hby own_d8_76) (by decide) (by decide) ?_
  exact ⟨_, _, _, hs1, rfl, N1, K0_x1, Vb1⟩
def own_Q_own_as3 (Z : State) (b : Addr) (k : ClassId) (y0 : Int64) (y1 : Int64) (y2 : Int64) (y3 : Int64) (h0 : Heap) (n0 : Nat) (v : Option Value) (h : Heap) (L : List Loc) : Prop := ∃ w0 w1 w2, own_isort [y0, y1, y2] = [w0, w1, w2] ∧ v = none ∧ Fr n0 L ∧ Keep h0 h [b] ∧ Arv Z h b k .long (1024 : Int32) [(.long w0), (.long w1), (.long w2), (.long y3)] (.long (0 : Int64))
set_option maxRecDepth 65536 in
set_option maxHeartbeats 40000000 in
theorem own_as3 (l : Launch) (Z : State) (a0 : Array Value) (hw : ∀ d ∈ tables_1, d.before a0 Z = true) (ws : List Jvm.Cond) (b : Addr) (k : ClassId) (y0 : Int64) (y1 : Int64) (y2 : Int64) (y3 : Int64) (h0 : Heap) (n0 : Nat) (O0 : Old Z n0 h0) (VB : Arv Z h0 b k .long (1024 : Int32) [(.long y0), (.long y1), (.long y2), (.long y3)] (.long (0 : Int64))) (gb : n0 ≤ b) :
    MetFree l (⟨"java/util/Arrays", "sort", "([JII)V"⟩ : MethodName) (head1 (Jvm.Cond.code (⟨"java/util/Arrays", "sort", "([JII)V"⟩ : MethodName) jdk_65_method_5_code 3 none :: ws) ({ frames := 3, cells := 0, slots := 0, locals := 72 } : Room)) (fun args_ U => args_ = #[(.ref b), (.int (0 : Int32)), (.int (3 : Int32))] ∧ Z.Warmed39 U.vm ∧ U.heap = h0) (fun _ _ _ _ _ => True) (fun _ U o U' => ∃ v L, o = .returned v ∧ (own_Q_own_as3 Z b k y0 y1 y2 y3 h0 n0) v U'.heap L ∧ FrameEnd U o U' L ({ frames := 3, cells := 0, slots := 0, locals := 72 } : Room).cells ({ frames := 3, cells := 0, slots := 0, locals := 72 } : Room).slots) := by
  refine MetFree.of_bodySF (plainFor_of_name own_pn2) hisR ?_
  intro p e s m args below meth c s₁ Bd hml0 hP hK
  obtain ⟨rfl, hZ, hh⟩ := hP
  have hx := Bd.exec
  have hby := Bd.bytes
  have hml : c.maxLocals = 3 := hml0
  have hown : s.vm.findClass "java/util/Arrays" = some m.cls := findClass_of_methodNamed Bd.named
  have hnm := (name_of_methodNamed Bd.named Bd.method).1
  have X0 : Stand p l e ({ frames := 3, cells := 0, slots := 0, locals := 72 } : Room) s m #[(.ref b), (.int (0 : Int32)), (.int (3 : Int32))] below meth c s₁ [] 0 0 := Stand.of_body Bd
  have e0 : s₁.heap = h0 := by rw [← hh, Bd.state]; rfl
  have N0 := Fr.nil n0
  refine own_close (s := s) (Q := (own_Q_own_as3 Z b k y0 y1 y2 y3 h0 n0)) (C := (({ frames := 3, cells := 0, slots := 0, locals := 72 } : Room)).cells) (N := (({ frames := 3, cells := 0, slots := 0, locals := 72 } : Room)).slots) (own_st (fun _ kt => castTop (own_ef6 m b (0 : Int32) (3 : Int32)) kt) ?_)
  have K0 := Keep.refl h0 [b]
  show own_Rch p e below _ s₁ (mkF m 0 #[.val (.ref b), .val (.int (0 : Int32)), .val (.int (3 : Int32))] [])
  refine own_st (fun _ kt => XS.aloadN X0.here hx rfl (hb hby own_d6_0) rfl rfl  kt) ?_
  show own_Rch p e below _ s₁ (mkF m 1 #[.val (.ref b), .val (.int (0 : Int32)), .val (.int (3 : Int32))] [(.ref b)])
  obtain ⟨cl1, Ar1, -, S1, M1, -, -⟩ := id VB
  refine own_st (X0.arraylength hx (by rw [e0]; exact Ar1.1) (State.isArrayOf_alike (hZ).alike Ar1.2.1) (g := (mkF m 1 #[.val (.ref b), .val (.int (0 : Int32)), .val (.int (3 : Int32))] [(.ref b)])) rfl rfl (hb hby own_d6_1)) ?_
  rw [len_of S1 M1]
  show own_Rch p e below _ s₁ (mkF m 2 #[.val (.ref b), .val (.int (0 : Int32)), .val (.int (3 : Int32))] [(.int (1024 : Int32))])
  refine own_st (fun _ kt => XS.iloadN X0.here hx rfl (hb hby own_d6_2) rfl  kt) ?_
  show own_Rch p e below _ s₁ (mkF m 3 #[.val (.ref b), .val (.int (0 : Int32)), .val (.int (3 : Int32))] [(.int (0 : Int32)), (.int (1024 : Int32))])
  refine own_st (fun _ kt => XS.iloadN X0.here hx rfl (hb hby own_d6_3) rfl  kt) ?_
  show own_Rch p e below _ s₁ (mkF m 4 #[.val (.ref b), .val (.int (0 : Int32)), .val (.int (3 : Int32))] [(.int (3 : Int32)), (.int (0 : Int32)), (.int (1024 : Int32))])
  obtain ⟨_, _, ⟨T2, L2, k2, n2⟩, -, X2, ⟨Lc2, hQ2, l2, y2, z2⟩, st2⟩ := Jvm.LawKit.callS X0 hx (y := (⟨"java/util/Arrays", "rangeCheck", "(III)V"⟩ : MethodName)) hown (mvT hZ (hw _ (List.mem_of_getElem? (i := 34) rfl))) (mvT hZ (hw _ (List.mem_of_getElem? (i := 35) rfl))) (mvT hZ (hw _ (List.mem_of_getElem? (i := 32) rfl))) (mvT hZ (hw _ (List.mem_of_getElem? (i := 36) rfl))) (by decide) (backOf (W := 0) (own_rc l Z a0 hw [] (1024 : Int32) (0 : Int32) (3 : Int32) h0 n0 O0 (by decide) (by decide) (by decide)) hZ (hw _ (List.mem_of_getElem? (i := 36) rfl)) (hw _ (List.mem_of_getElem? (i := 32) rfl)) (by decide) (by decide)) (g := (mkF m 4 #[.val (.ref b), .val (.int (0 : Int32)), .val (.int (3 : Int32))] [(.int (3 : Int32)), (.int (0 : Int32)), (.int (1024 : Int32))])) rfl (by rw [hml]; rfl) (argsL := [(.int (1024 : Int32)), (.int (0 : Int32)), (.int (3 : Int32))]) (rest := []) (lenOf own_pd3 rfl) rfl (by show 2 * 0 + _ ≤ _; exact Nat.le_of_eq rfl) (hb hby own_d6_4) (fun _ _ => ⟨rfl, e0, (by decide : 0 + 0 ≤ _), (by decide : 0 + 0 ≤ _)⟩)
  dsimp only [Pt.U, Pt.locs, Pt.cells, Pt.slots] at X2 l2 y2 z2 st2 hQ2
  subst l2 y2 z2
  obtain ⟨rfl, N2q, hh2⟩ := hQ2
  have N2 := Fr.app N0 N2q
  refine own_st st2 ?_
  show own_Rch p e below _ T2 (mkF m 7 #[.val (.ref b), .val (.int (0 : Int32)), .val (.int (3 : Int32))] [])
  refine own_st (fun _ kt => XS.aloadN X2.here hx rfl (hb hby own_d6_7) rfl rfl  kt) ?_
  show own_Rch p e below _ T2 (mkF m 8 #[.val (.ref b), .val (.int (0 : Int32)), .val (.int (3 : Int32))] [(.ref b)])
  refine own_st (fun _ kt => XS.iconst X2.here hx rfl (hb hby own_d6_8) kt) ?_
  show own_Rch p e below _ T2 (mkF m 9 #[.val (.ref b), .val (.int (0 : Int32)), .val (.int (3 : Int32))] [(.int (0 : Int32)), (.ref b)])
  refine own_st (fun _ kt => XS.iloadN X2.here hx rfl (hb hby own_d6_9) rfl  kt) ?_
  show own_Rch p e below _ T2 (mkF m 10 #[.val (.ref b), .val (.int (0 : Int32)), .val (.int (3 : Int32))] [(.int (0 : Int32)), (.int (0 : Int32)), (.ref b)])
  refine own_st (fun _ kt => XS.iloadN X2.here hx rfl (hb hby own_d6_10) rfl  kt) ?_
  show own_Rch p e below _ T2 (mkF m 11 #[.val (.ref b), .val (.int (0 : Int32)), .val (.int (3 : Int32))] [(.int (3 : Int32)), (.int (0 : Int32)), (.int (0 : Int32)), (.ref b)])
  obtain ⟨_, _, ⟨T3, L3, k3, n3⟩, -, X3, ⟨Lc3, hQ3, l3, y3, z3⟩, st3⟩ := Jvm.LawKit.callS X2 hx (y := (⟨"java/util/DualPivotQuicksort", "sort", "([JIII)V"⟩ : MethodName)) hown (mvT hZ (hw _ (List.mem_of_getElem? (i := 37) rfl))) (mvT hZ (hw _ (List.mem_of_getElem? (i := 38) rfl))) (mvT hZ (hw _ (List.mem_of_getElem? (i := 39) rfl))) (mvT hZ (hw _ (List.mem_of_getElem? (i := 40) rfl))) (by decide) (backOf (W := 0) (own_qb3 l Z a0 hw [] b k y0 y1 y2 y3 h0 n0 O0 VB gb) hZ (hw _ (List.mem_of_getElem? (i := 40) rfl)) (hw _ (List.mem_of_getElem? (i := 39) rfl)) (by decide) (by decide)) (g := (mkF m 11 #[.val (.ref b), .val (.int (0 : Int32)), .val (.int (3 : Int32))] [(.int (3 : Int32)), (.int (0 : Int32)), (.int (0 : Int32)), (.ref b)])) rfl (by rw [hml]; rfl) (argsL := [(.ref b), (.int (0 : Int32)), (.int (0 : Int32)), (.int (3 : Int32))]) (rest := []) (lenOf own_pd4 rfl) rfl (by show 2 * 0 + _ ≤ _; exact Nat.le_of_eq rfl) (hb hby own_d6_11) (fun _ _ => ⟨rfl, hh2, (by decide : 0 + 0 ≤ _), (by decide : 0 + 0 ≤ _)⟩)
  dsimp only [Pt.U, Pt.locs, Pt.cells, Pt.slots] at X3 l3 y3 z3 st3 hQ3
  subst l3 y3 z3
  obtain ⟨w0, w1, w2, hs3, rfl, N3q, K3, Vb3⟩ := hQ3
  have N3 := Fr.app N2 N3q
  refine own_st st3 ?_
  have O0_x3 := O0.keep K3 (allS gb all0)
  have K0_x3 := K0.trans K3 (allS (Or.inl (List.mem_of_getElem? (i := 0) rfl)) all0)
  show own_Rch p e below _ T3 (mkF m 14 #[.val (.ref b), .val (.int (0 : Int32)), .val (.int (3 : Int32))] [])
  refine own_retV X3 hx Bd.notSynchronized Bd.returns (hb hby own_d6_14) (by decide) (by decide) ?_
  exact ⟨_, _, _, hs3, rfl, N3, K0_x3, Vb3⟩
def own_Q_own_ins4 (Z : State) (b : Addr) (k : ClassId) (y0 : Int64) (y1 : Int64) (y2 : Int64) (y3 : Int64) (h0 : Heap) (n0 : Nat) (v : Option Value) (h : Heap) (L : List Loc) : Prop := ∃ w0 w1 w2 w3, own_isort [y0, y1, y2, y3] = [w0, w1, w2, w3] ∧ v = none ∧ Fr n0 L ∧ Keep h0 h [b] ∧ Arv Z h b k .long (1024 : Int32) [(.long w0), (.long w1), (.long w2), (.long w3)] (.long (0 : Int64))
set_option maxRecDepth 65536 in
set_option maxHeartbeats 40000000 in
theorem own_ins4 (l : Launch) (Z : State) (a0 : Array Value) (hw : ∀ d ∈ tables_1, d.before a0 Z = true) (ws : List Jvm.Cond) (b : Addr) (k : ClassId) (y0 : Int64) (y1 : Int64) (y2 : Int64) (y3 : Int64) (h0 : Heap) (n0 : Nat) (O0 : Old Z n0 h0) (VB : Arv Z h0 b k .long (1024 : Int32) [(.long y0), (.long y1), (.long y2), (.long y3)] (.long (0 : Int64))) (gb : n0 ≤ b) :
    MetFree l (⟨"java/util/DualPivotQuicksort", "insertionSort", "([JII)V"⟩ : MethodName) (head1 (Jvm.Cond.code (⟨"java/util/DualPivotQuicksort", "insertionSort", "([JII)V"⟩ : MethodName) jdk_2529_method_15_code 7 none :: ws) ({ frames := 0, cells := 0, slots := 0, locals := 0 } : Room)) (fun args_ U => args_ = #[(.ref b), (.int (0 : Int32)), (.int (4 : Int32))] ∧ Z.Warmed39 U.vm ∧ U.heap = h0) (fun _ _ _ _ _ => True) (fun _ U o U' => ∃ v L, o = .returned v ∧ (own_Q_own_ins4 Z b k y0 y1 y2 y3 h0 n0) v U'.heap L ∧ FrameEnd U o U' L ({ frames := 0, cells := 0, slots := 0, locals := 0 } : Room).cells ({ frames := 0, cells := 0, slots := 0, locals := 0 } : Room).slots) := by
  refine MetFree.of_bodySF (plainFor_of_name own_pn3) hisR ?_
  intro p e s m args below meth c s₁ Bd hml0 hP hK
  obtain ⟨rfl, hZ, hh⟩ := hP
  have hx := Bd.exec
  have hby := Bd.bytes
  have hml : c.maxLocals = 7 := hml0
  have hown : s.vm.findClass "java/util/DualPivotQuicksort" = some m.cls := findClass_of_methodNamed Bd.named
  have hnm := (name_of_methodNamed Bd.named Bd.method).1
  have X0 : Stand p l e ({ frames := 0, cells := 0, slots := 0, locals := 0 } : Room) s m #[(.ref b), (.int (0 : Int32)), (.int (4 : Int32))] below meth c s₁ [] 0 0 := Stand.of_body Bd
  have e0 : s₁.heap = h0 := by rw [← hh, Bd.state]; rfl
  have N0 := Fr.nil n0
  refine own_close (s := s) (Q := (own_Q_own_ins4 Z b k y0 y1 y2 y3 h0 n0)) (C := (({ frames := 0, cells := 0, slots := 0, locals := 0 } : Room)).cells) (N := (({ frames := 0, cells := 0, slots := 0, locals := 0 } : Room)).slots) (own_st (fun _ kt => castTop (own_ef10 m b (0 : Int32) (4 : Int32)) kt) ?_)
  have K0 := Keep.refl h0 [b]
  have c4 : ∀ (w0 w1 w2 w3 tj : Int64) (tk : Int32) (T1 : State) (lc1 : List Loc) (X1 : Stand p l e (({ frames := 0, cells := 0, slots := 0, locals := 0 } : Room)) s m #[(.ref b), (.int (0 : Int32)), (.int (4 : Int32))] below meth c T1 lc1 0 0) (hv1 : Heap) (e1 : T1.heap = hv1) (N1 : Fr n0 lc1) (O1 : Old Z n0 hv1) (K1 : Keep h0 hv1 [b]) (VB4 : Arv Z hv1 b k .long (1024 : Int32) [(.long w0), (.long w1), (.long w2), (.long w3)] (.long (0 : Int64))) (hI : own_isort [y0, y1, y2, y3] = own_isr [] [w3, w2, w1, w0]), own_Rch p e below (own_End s below (own_Q_own_ins4 Z b k y0 y1 y2 y3 h0 n0) (({ frames := 0, cells := 0, slots := 0, locals := 0 } : Room)).cells (({ frames := 0, cells := 0, slots := 0, locals := 0 } : Room)).slots) T1 (mkF m 6 #[.val (.ref b), .val (.int (0 : Int32)), .val (.int (4 : Int32)), .val (.int tk), .val (.int (4 : Int32)), .val (.long tj), .second] []) := by
    intro w0 w1 w2 w3 tj tk T1 lc1 X1 hv1 e1 N1 O1 K1 VB4 hI
    show own_Rch p e below _ T1 (mkF m 6 #[.val (.ref b), .val (.int (0 : Int32)), .val (.int (4 : Int32)), .val (.int tk), .val (.int (4 : Int32)), .val (.long tj), .second] [])
    refine own_st (fun _ kt => XS.iload X1.here hx rfl (hb hby own_d10_6) rfl  kt) ?_
    show own_Rch p e below _ T1 (mkF m 8 #[.val (.ref b), .val (.int (0 : Int32)), .val (.int (4 : Int32)), .val (.int tk), .val (.int (4 : Int32)), .val (.long tj), .second] [(.int (4 : Int32))])
    refine own_st (fun _ kt => XS.iloadN X1.here hx rfl (hb hby own_d10_8) rfl  kt) ?_
    show own_Rch p e below _ T1 (mkF m 9 #[.val (.ref b), .val (.int (0 : Int32)), .val (.int (4 : Int32)), .val (.int tk), .val (.int (4 : Int32)), .val (.long tj), .second] [(.int (4 : Int32)), (.int (4 : Int32))])
    refine own_st (fun _ kt => XS.icmpYes X1.here hx rfl (pc0 := 9) (pc' := 69) rfl (hb hby own_d10_9) rfl (flt ((by decide) : ¬ ((4 : Int32) < (4 : Int32)))).2.1 (by decide) (by decide) kt) ?_
    show own_Rch p e below _ T1 (mkF m 69 #[.val (.ref b), .val (.int (0 : Int32)), .val (.int (4 : Int32)), .val (.int tk), .val (.int (4 : Int32)), .val (.long tj), .second] [])
    refine own_retV X1 hx Bd.notSynchronized Bd.returns (hb hby own_d10_69) (by decide) (by decide) ?_
    rw [e1]
    exact ⟨_, _, _, _, hI, rfl, N1, K1, VB4⟩
  have c3 : ∀ (w0 w1 w2 tj : Int64) (tk : Int32) (T2 : State) (lc2 : List Loc) (X2 : Stand p l e (({ frames := 0, cells := 0, slots := 0, locals := 0 } : Room)) s m #[(.ref b), (.int (0 : Int32)), (.int (4 : Int32))] below meth c T2 lc2 0 0) (hv2 : Heap) (e2 : T2.heap = hv2) (N2 : Fr n0 lc2) (O2 : Old Z n0 hv2) (K2 : Keep h0 hv2 [b]) (VB3 : Arv Z hv2 b k .long (1024 : Int32) [(.long w0), (.long w1), (.long w2), (.long y3)] (.long (0 : Int64))) (hI : own_isort [y0, y1, y2, y3] = own_isr [y3] [w2, w1, w0]), own_Rch p e below (own_End s below (own_Q_own_ins4 Z b k y0 y1 y2 y3 h0 n0) (({ frames := 0, cells := 0, slots := 0, locals := 0 } : Room)).cells (({ frames := 0, cells := 0, slots := 0, locals := 0 } : Room)).slots) T2 (mkF m 6 #[.val (.ref b), .val (.int (0 : Int32)), .val (.int (4 : Int32)), .val (.int tk), .val (.int (3 : Int32)), .val (.long tj), .second] []) := by
    intro w0 w1 w2 tj tk T2 lc2 X2 hv2 e2 N2 O2 K2 VB3 hI
    show own_Rch p e below _ T2 (mkF m 6 #[.val (.ref b), .val (.int (0 : Int32)), .val (.int (4 : Int32)), .val (.int tk), .val (.int (3 : Int32)), .val (.long tj), .second] [])
    refine own_st (fun _ kt => XS.iload X2.here hx rfl (hb hby own_d10_6) rfl  kt) ?_
    show own_Rch p e below _ T2 (mkF m 8 #[.val (.ref b), .val (.int (0 : Int32)), .val (.int (4 : Int32)), .val (.int tk), .val (.int (3 : Int32)), .val (.long tj), .second] [(.int (3 : Int32))])
    refine own_st (fun _ kt => XS.iloadN X2.here hx rfl (hb hby own_d10_8) rfl  kt) ?_
    show own_Rch p e below _ T2 (mkF m 9 #[.val (.ref b), .val (.int (0 : Int32)), .val (.int (4 : Int32)), .val (.int tk), .val (.int (3 : Int32)), .val (.long tj), .second] [(.int (4 : Int32)), (.int (3 : Int32))])
    refine own_st (fun _ kt => XS.icmpNo X2.here hx rfl (hb hby own_d10_9) rfl (tlt ((by decide) : (3 : Int32) < (4 : Int32))).2.1 kt) ?_
    show own_Rch p e below _ T2 (mkF m 12 #[.val (.ref b), .val (.int (0 : Int32)), .val (.int (4 : Int32)), .val (.int tk), .val (.int (3 : Int32)), .val (.long tj), .second] [])
    refine own_st (fun _ kt => XS.aloadN X2.here hx rfl (hb hby own_d10_12) rfl rfl  kt) ?_
    show own_Rch p e below _ T2 (mkF m 13 #[.val (.ref b), .val (.int (0 : Int32)), .val (.int (4 : Int32)), .val (.int tk), .val (.int (3 : Int32)), .val (.long tj), .second] [(.ref b)])
    refine own_st (fun _ kt => XS.iload X2.here hx rfl (hb hby own_d10_13) rfl  kt) ?_
    show own_Rch p e below _ T2 (mkF m 15 #[.val (.ref b), .val (.int (0 : Int32)), .val (.int (4 : Int32)), .val (.int tk), .val (.int (3 : Int32)), .val (.long tj), .second] [(.int (3 : Int32)), (.ref b)])
    refine own_st (fun _ kt => XS.dup X2.here hx rfl (hb hby own_d10_15) rfl rfl kt) ?_
    show own_Rch p e below _ T2 (mkF m 16 #[.val (.ref b), .val (.int (0 : Int32)), .val (.int (4 : Int32)), .val (.int tk), .val (.int (3 : Int32)), .val (.long tj), .second] [(.int (3 : Int32)), (.int (3 : Int32)), (.ref b)])
    refine own_st (fun _ kt => XS.istoreN X2.here hx rfl (hb hby own_d10_16) rfl (l' := #[.val (.ref b), .val (.int (0 : Int32)), .val (.int (4 : Int32)), .val (.int (3 : Int32)), .val (.int (3 : Int32)), .val (.long tj), .second]) rfl kt) ?_
    show own_Rch p e below _ T2 (mkF m 17 #[.val (.ref b), .val (.int (0 : Int32)), .val (.int (4 : Int32)), .val (.int (3 : Int32)), .val (.int (3 : Int32)), .val (.long tj), .second] [(.int (3 : Int32)), (.ref b)])
    obtain ⟨cl3, Ar3, q3, S3, M3, H3, G3⟩ := id VB3
    have hin3 : ¬ ((3 : Int32) < 0 ∨ cl3.slots.size ≤ ((3 : Int32)).toNatClampNeg) := inb_of S3 ⟨by decide, by decide⟩
    refine own_st (X2.laload hx (j := (3 : Int32)) (v := (.long y3)) (by rw [e2]; exact Ar3.1) (State.isArrayOf_alike (hZ).alike Ar3.2.1) Ar3.2.2 hin3 (H3.at hin3 rfl) (g := (mkF m 17 #[.val (.ref b), .val (.int (0 : Int32)), .val (.int (4 : Int32)), .val (.int (3 : Int32)), .val (.int (3 : Int32)), .val (.long tj), .second] [(.int (3 : Int32)), (.ref b)])) rfl rfl (hb hby own_d10_17)) ?_
    show own_Rch p e below _ T2 (mkF m 18 #[.val (.ref b), .val (.int (0 : Int32)), .val (.int (4 : Int32)), .val (.int (3 : Int32)), .val (.int (3 : Int32)), .val (.long tj), .second] [(.long y3)])
    refine own_st (fun _ kt => XS.lstore X2.here hx rfl (hb hby own_d10_18) rfl (l' := #[.val (.ref b), .val (.int (0 : Int32)), .val (.int (4 : Int32)), .val (.int (3 : Int32)), .val (.int (3 : Int32)), .val (.long y3), .second]) rfl kt) ?_
    show own_Rch p e below _ T2 (mkF m 20 #[.val (.ref b), .val (.int (0 : Int32)), .val (.int (4 : Int32)), .val (.int (3 : Int32)), .val (.int (3 : Int32)), .val (.long y3), .second] [])
    refine own_st (fun _ kt => XS.lload X2.here hx rfl (hb hby own_d10_20) rfl  kt) ?_
    show own_Rch p e below _ T2 (mkF m 22 #[.val (.ref b), .val (.int (0 : Int32)), .val (.int (4 : Int32)), .val (.int (3 : Int32)), .val (.int (3 : Int32)), .val (.long y3), .second] [(.long y3)])
    refine own_st (fun _ kt => XS.aloadN X2.here hx rfl (hb hby own_d10_22) rfl rfl  kt) ?_
    show own_Rch p e below _ T2 (mkF m 23 #[.val (.ref b), .val (.int (0 : Int32)), .val (.int (4 : Int32)), .val (.int (3 : Int32)), .val (.int (3 : Int32)), .val (.long y3), .second] [(.ref b), (.long y3)])
    refine own_st (fun _ kt => XS.iloadN X2.here hx rfl (hb hby own_d10_23) rfl  kt) ?_
    show own_Rch p e below _ T2 (mkF m 24 #[.val (.ref b), .val (.int (0 : Int32)), .val (.int (4 : Int32)), .val (.int (3 : Int32)), .val (.int (3 : Int32)), .val (.long y3), .second] [(.int (3 : Int32)), (.ref b), (.long y3)])
    refine own_st (fun _ kt => XS.iconst X2.here hx rfl (hb hby own_d10_24) kt) ?_
    show own_Rch p e below _ T2 (mkF m 25 #[.val (.ref b), .val (.int (0 : Int32)), .val (.int (4 : Int32)), .val (.int (3 : Int32)), .val (.int (3 : Int32)), .val (.long y3), .second] [(.int (1 : Int32)), (.int (3 : Int32)), (.ref b), (.long y3)])
    refine own_st (fun _ kt => XS.isub X2.here hx rfl (hb hby own_d10_25) rfl kt) ?_
    show own_Rch p e below _ T2 (mkF m 26 #[.val (.ref b), .val (.int (0 : Int32)), .val (.int (4 : Int32)), .val (.int (3 : Int32)), .val (.int (3 : Int32)), .val (.long y3), .second] [(.int (2 : Int32)), (.ref b), (.long y3)])
    obtain ⟨cl4, Ar4, q4, S4, M4, H4, G4⟩ := id VB3
    have hin4 : ¬ ((2 : Int32) < 0 ∨ cl4.slots.size ≤ ((2 : Int32)).toNatClampNeg) := inb_of S4 ⟨by decide, by decide⟩
    refine own_st (X2.laload hx (j := (2 : Int32)) (v := (.long w2)) (by rw [e2]; exact Ar4.1) (State.isArrayOf_alike (hZ).alike Ar4.2.1) Ar4.2.2 hin4 (H4.at hin4 rfl) (g := (mkF m 26 #[.val (.ref b), .val (.int (0 : Int32)), .val (.int (4 : Int32)), .val (.int (3 : Int32)), .val (.int (3 : Int32)), .val (.long y3), .second] [(.int (2 : Int32)), (.ref b), (.long y3)])) rfl rfl (hb hby own_d10_26)) ?_
    show own_Rch p e below _ T2 (mkF m 27 #[.val (.ref b), .val (.int (0 : Int32)), .val (.int (4 : Int32)), .val (.int (3 : Int32)), .val (.int (3 : Int32)), .val (.long y3), .second] [(.long w2), (.long y3)])
    refine own_st (fun _ kt => XS.lcmp X2.here hx rfl (hb hby own_d10_27) rfl kt) ?_
    show own_Rch p e below _ T2 (mkF m 28 #[.val (.ref b), .val (.int (0 : Int32)), .val (.int (4 : Int32)), .val (.int (3 : Int32)), .val (.int (3 : Int32)), .val (.long y3), .second] [(.int (lcmpW y3 w2))])
    by_cases hc28_5 : (lcmpW y3 w2) < (0 : Int32)
    · -- pc 28: True
      refine own_st (fun _ kt => XS.ifNo X2.here hx rfl (hb hby own_d10_28) rfl ((if0 _ _).trans (tlt hc28_5).2.1) kt) ?_
      rw [lw_lt] at hc28_5
      show own_Rch p e below _ T2 (mkF m 31 #[.val (.ref b), .val (.int (0 : Int32)), .val (.int (4 : Int32)), .val (.int (3 : Int32)), .val (.int (3 : Int32)), .val (.long y3), .second] [])
      refine own_st (fun _ kt => XS.iinc X2.here hx rfl (hb hby own_d10_31) rfl (l' := #[.val (.ref b), .val (.int (0 : Int32)), .val (.int (4 : Int32)), .val (.int (2 : Int32)), .val (.int (3 : Int32)), .val (.long y3), .second]) rfl kt) ?_
      show own_Rch p e below _ T2 (mkF m 34 #[.val (.ref b), .val (.int (0 : Int32)), .val (.int (4 : Int32)), .val (.int (2 : Int32)), .val (.int (3 : Int32)), .val (.long y3), .second] [])
      refine own_st (fun _ kt => XS.iloadN X2.here hx rfl (hb hby own_d10_34) rfl  kt) ?_
      show own_Rch p e below _ T2 (mkF m 35 #[.val (.ref b), .val (.int (0 : Int32)), .val (.int (4 : Int32)), .val (.int (2 : Int32)), .val (.int (3 : Int32)), .val (.long y3), .second] [(.int (2 : Int32))])
      refine own_st (fun _ kt => XS.iloadN X2.here hx rfl (hb hby own_d10_35) rfl  kt) ?_
      show own_Rch p e below _ T2 (mkF m 36 #[.val (.ref b), .val (.int (0 : Int32)), .val (.int (4 : Int32)), .val (.int (2 : Int32)), .val (.int (3 : Int32)), .val (.long y3), .second] [(.int (0 : Int32)), (.int (2 : Int32))])
      refine own_st (fun _ kt => XS.icmpNo X2.here hx rfl (hb hby own_d10_36) rfl (flt ((by decide) : ¬ ((2 : Int32) < (0 : Int32)))).1 kt) ?_
      show own_Rch p e below _ T2 (mkF m 39 #[.val (.ref b), .val (.int (0 : Int32)), .val (.int (4 : Int32)), .val (.int (2 : Int32)), .val (.int (3 : Int32)), .val (.long y3), .second] [])
      refine own_st (fun _ kt => XS.lload X2.here hx rfl (hb hby own_d10_39) rfl  kt) ?_
      show own_Rch p e below _ T2 (mkF m 41 #[.val (.ref b), .val (.int (0 : Int32)), .val (.int (4 : Int32)), .val (.int (2 : Int32)), .val (.int (3 : Int32)), .val (.long y3), .second] [(.long y3)])
      refine own_st (fun _ kt => XS.aloadN X2.here hx rfl (hb hby own_d10_41) rfl rfl  kt) ?_
      show own_Rch p e below _ T2 (mkF m 42 #[.val (.ref b), .val (.int (0 : Int32)), .val (.int (4 : Int32)), .val (.int (2 : Int32)), .val (.int (3 : Int32)), .val (.long y3), .second] [(.ref b), (.long y3)])
      refine own_st (fun _ kt => XS.iloadN X2.here hx rfl (hb hby own_d10_42) rfl  kt) ?_
      show own_Rch p e below _ T2 (mkF m 43 #[.val (.ref b), .val (.int (0 : Int32)), .val (.int (4 : Int32)), .val (.int (2 : Int32)), .val (.int (3 : Int32)), .val (.long y3), .second] [(.int (2 : Int32)), (.ref b), (.long y3)])
      obtain ⟨cl6, Ar6, q6, S6, M6, H6, G6⟩ := id VB3
      have hin6 : ¬ ((2 : Int32) < 0 ∨ cl6.slots.size ≤ ((2 : Int32)).toNatClampNeg) := inb_of S6 ⟨by decide, by decide⟩
      refine own_st (X2.laload hx (j := (2 : Int32)) (v := (.long w2)) (by rw [e2]; exact Ar6.1) (State.isArrayOf_alike (hZ).alike Ar6.2.1) Ar6.2.2 hin6 (H6.at hin6 rfl) (g := (mkF m 43 #[.val (.ref b), .val (.int (0 : Int32)), .val (.int (4 : Int32)), .val (.int (2 : Int32)), .val (.int (3 : Int32)), .val (.long y3), .second] [(.int (2 : Int32)), (.ref b), (.long y3)])) rfl rfl (hb hby own_d10_43)) ?_
      show own_Rch p e below _ T2 (mkF m 44 #[.val (.ref b), .val (.int (0 : Int32)), .val (.int (4 : Int32)), .val (.int (2 : Int32)), .val (.int (3 : Int32)), .val (.long y3), .second] [(.long w2), (.long y3)])
      refine own_st (fun _ kt => XS.lcmp X2.here hx rfl (hb hby own_d10_44) rfl kt) ?_
      show own_Rch p e below _ T2 (mkF m 45 #[.val (.ref b), .val (.int (0 : Int32)), .val (.int (4 : Int32)), .val (.int (2 : Int32)), .val (.int (3 : Int32)), .val (.long y3), .second] [(.int (lcmpW y3 w2))])
      refine own_st (fun _ kt => XS.ifNo X2.here hx rfl (hb hby own_d10_45) rfl ((if0 _ _).trans (tlt ((lw_lt _ _).mpr hc28_5 : (lcmpW y3 w2) < (0 : Int32))).2.1) kt) ?_
      show own_Rch p e below _ T2 (mkF m 48 #[.val (.ref b), .val (.int (0 : Int32)), .val (.int (4 : Int32)), .val (.int (2 : Int32)), .val (.int (3 : Int32)), .val (.long y3), .second] [])
      refine own_st (fun _ kt => XS.aloadN X2.here hx rfl (hb hby own_d10_48) rfl rfl  kt) ?_
      show own_Rch p e below _ T2 (mkF m 49 #[.val (.ref b), .val (.int (0 : Int32)), .val (.int (4 : Int32)), .val (.int (2 : Int32)), .val (.int (3 : Int32)), .val (.long y3), .second] [(.ref b)])
      refine own_st (fun _ kt => XS.iloadN X2.here hx rfl (hb hby own_d10_49) rfl  kt) ?_
      show own_Rch p e below _ T2 (mkF m 50 #[.val (.ref b), .val (.int (0 : Int32)), .val (.int (4 : Int32)), .val (.int (2 : Int32)), .val (.int (3 : Int32)), .val (.long y3), .second] [(.int (2 : Int32)), (.ref b)])
      refine own_st (fun _ kt => XS.iconst X2.here hx rfl (hb hby own_d10_50) kt) ?_
      show own_Rch p e below _ T2 (mkF m 51 #[.val (.ref b), .val (.int (0 : Int32)), .val (.int (4 : Int32)), .val (.int (2 : Int32)), .val (.int (3 : Int32)), .val (.long y3), .second] [(.int (1 : Int32)), (.int (2 : Int32)), (.ref b)])
      refine own_st (fun _ kt => XS.iadd X2.here hx rfl (hb hby own_d10_51) rfl kt) ?_
      show own_Rch p e below _ T2 (mkF m 52 #[.val (.ref b), .val (.int (0 : Int32)), .val (.int (4 : Int32)), .val (.int (2 : Int32)), .val (.int (3 : Int32)), .val (.long y3), .second] [(.int (3 : Int32)), (.ref b)])
      refine own_st (fun _ kt => XS.aloadN X2.here hx rfl (hb hby own_d10_52) rfl rfl  kt) ?_
      show own_Rch p e below _ T2 (mkF m 53 #[.val (.ref b), .val (.int (0 : Int32)), .val (.int (4 : Int32)), .val (.int (2 : Int32)), .val (.int (3 : Int32)), .val (.long y3), .second] [(.ref b), (.int (3 : Int32)), (.ref b)])
      refine own_st (fun _ kt => XS.iloadN X2.here hx rfl (hb hby own_d10_53) rfl  kt) ?_
      show own_Rch p e below _ T2 (mkF m 54 #[.val (.ref b), .val (.int (0 : Int32)), .val (.int (4 : Int32)), .val (.int (2 : Int32)), .val (.int (3 : Int32)), .val (.long y3), .second] [(.int (2 : Int32)), (.ref b), (.int (3 : Int32)), (.ref b)])
      obtain ⟨cl7, Ar7, q7, S7, M7, H7, G7⟩ := id VB3
      have hin7 : ¬ ((2 : Int32) < 0 ∨ cl7.slots.size ≤ ((2 : Int32)).toNatClampNeg) := inb_of S7 ⟨by decide, by decide⟩
      refine own_st (X2.laload hx (j := (2 : Int32)) (v := (.long w2)) (by rw [e2]; exact Ar7.1) (State.isArrayOf_alike (hZ).alike Ar7.2.1) Ar7.2.2 hin7 (H7.at hin7 rfl) (g := (mkF m 54 #[.val (.ref b), .val (.int (0 : Int32)), .val (.int (4 : Int32)), .val (.int (2 : Int32)), .val (.int (3 : Int32)), .val (.long y3), .second] [(.int (2 : Int32)), (.ref b), (.int (3 : Int32)), (.ref b)])) rfl rfl (hb hby own_d10_54)) ?_
      show own_Rch p e below _ T2 (mkF m 55 #[.val (.ref b), .val (.int (0 : Int32)), .val (.int (4 : Int32)), .val (.int (2 : Int32)), .val (.int (3 : Int32)), .val (.long y3), .second] [(.long w2), (.int (3 : Int32)), (.ref b)])
      obtain ⟨cl8, Ar8, q8, S8, M8, H8, G8⟩ := id VB3
      have hin8 : ¬ ((3 : Int32) < 0 ∨ cl8.slots.size ≤ ((3 : Int32)).toNatClampNeg) := inb_of S8 ⟨by decide, by decide⟩
      obtain ⟨T8, h8, X8, e8, W8, st8⟩ := stJ X2 hx hZ e2 Ar8 (j := (3 : Int32)) hin8 (g := (mkF m 55 #[.val (.ref b), .val (.int (0 : Int32)), .val (.int (4 : Int32)), .val (.int (2 : Int32)), .val (.int (3 : Int32)), .val (.long y3), .second] [(.long w2), (.int (3 : Int32)), (.ref b)])) rfl rfl (hb hby own_d10_55)
      have V8 := Arv.set Ar8 q8 S8 M8 H8 G8 rfl W8 3 rfl (Nat.le_of_ble_eq_true rfl)
      have V8s : Arv Z h8 b k .long (1024 : Int32) [(.long w0), (.long w1), (.long w2), (.long w2)] (.long (0 : Int64)) := V8
      have N8 := Fr.snoc X8 N2 gb
      refine own_st st8 ?_
      have O2_x8 := O2.wr W8 gb
      have K2_x8 := K2.wr W8 (Or.inl (List.mem_of_getElem? (i := 0) rfl))
      show own_Rch p e below _ T8 (mkF m 56 #[.val (.ref b), .val (.int (0 : Int32)), .val (.int (4 : Int32)), .val (.int (2 : Int32)), .val (.int (3 : Int32)), .val (.long y3), .second] [])
      refine own_st (fun _ kt => XS.goto X8.here hx rfl (pc0 := 56) (pc' := 31) rfl (hb hby own_d10_56) (by decide) (by decide) kt) ?_
      show own_Rch p e below _ T8 (mkF m 31 #[.val (.ref b), .val (.int (0 : Int32)), .val (.int (4 : Int32)), .val (.int (2 : Int32)), .val (.int (3 : Int32)), .val (.long y3), .second] [])
      refine own_st (fun _ kt => XS.iinc X8.here hx rfl (hb hby own_d10_31) rfl (l' := #[.val (.ref b), .val (.int (0 : Int32)), .val (.int (4 : Int32)), .val (.int (1 : Int32)), .val (.int (3 : Int32)), .val (.long y3), .second]) rfl kt) ?_
      show own_Rch p e below _ T8 (mkF m 34 #[.val (.ref b), .val (.int (0 : Int32)), .val (.int (4 : Int32)), .val (.int (1 : Int32)), .val (.int (3 : Int32)), .val (.long y3), .second] [])
      refine own_st (fun _ kt => XS.iloadN X8.here hx rfl (hb hby own_d10_34) rfl  kt) ?_
      show own_Rch p e below _ T8 (mkF m 35 #[.val (.ref b), .val (.int (0 : Int32)), .val (.int (4 : Int32)), .val (.int (1 : Int32)), .val (.int (3 : Int32)), .val (.long y3), .second] [(.int (1 : Int32))])
      refine own_st (fun _ kt => XS.iloadN X8.here hx rfl (hb hby own_d10_35) rfl  kt) ?_
      show own_Rch p e below _ T8 (mkF m 36 #[.val (.ref b), .val (.int (0 : Int32)), .val (.int (4 : Int32)), .val (.int (1 : Int32)), .val (.int (3 : Int32)), .val (.long y3), .second] [(.int (0 : Int32)), (.int (1 : Int32))])
      refine own_st (fun _ kt => XS.icmpNo X8.here hx rfl (hb hby own_d10_36) rfl (flt ((by decide) : ¬ ((1 : Int32) < (0 : Int32)))).1 kt) ?_
      show own_Rch p e below _ T8 (mkF m 39 #[.val (.ref b), .val (.int (0 : Int32)), .val (.int (4 : Int32)), .val (.int (1 : Int32)), .val (.int (3 : Int32)), .val (.long y3), .second] [])
      refine own_st (fun _ kt => XS.lload X8.here hx rfl (hb hby own_d10_39) rfl  kt) ?_
      show own_Rch p e below _ T8 (mkF m 41 #[.val (.ref b), .val (.int (0 : Int32)), .val (.int (4 : Int32)), .val (.int (1 : Int32)), .val (.int (3 : Int32)), .val (.long y3), .second] [(.long y3)])
      refine own_st (fun _ kt => XS.aloadN X8.here hx rfl (hb hby own_d10_41) rfl rfl  kt) ?_
      show own_Rch p e below _ T8 (mkF m 42 #[.val (.ref b), .val (.int (0 : Int32)), .val (.int (4 : Int32)), .val (.int (1 : Int32)), .val (.int (3 : Int32)), .val (.long y3), .second] [(.ref b), (.long y3)])
      refine own_st (fun _ kt => XS.iloadN X8.here hx rfl (hb hby own_d10_42) rfl  kt) ?_
      show own_Rch p e below _ T8 (mkF m 43 #[.val (.ref b), .val (.int (0 : Int32)), .val (.int (4 : Int32)), .val (.int (1 : Int32)), .val (.int (3 : Int32)), .val (.long y3), .second] [(.int (1 : Int32)), (.ref b), (.long y3)])
      obtain ⟨cl9, Ar9, q9, S9, M9, H9, G9⟩ := id V8s
      have hin9 : ¬ ((1 : Int32) < 0 ∨ cl9.slots.size ≤ ((1 : Int32)).toNatClampNeg) := inb_of S9 ⟨by decide, by decide⟩
      refine own_st (X8.laload hx (j := (1 : Int32)) (v := (.long w1)) (by rw [e8]; exact Ar9.1) (State.isArrayOf_alike (hZ).alike Ar9.2.1) Ar9.2.2 hin9 (H9.at hin9 rfl) (g := (mkF m 43 #[.val (.ref b), .val (.int (0 : Int32)), .val (.int (4 : Int32)), .val (.int (1 : Int32)), .val (.int (3 : Int32)), .val (.long y3), .second] [(.int (1 : Int32)), (.ref b), (.long y3)])) rfl rfl (hb hby own_d10_43)) ?_
      show own_Rch p e below _ T8 (mkF m 44 #[.val (.ref b), .val (.int (0 : Int32)), .val (.int (4 : Int32)), .val (.int (1 : Int32)), .val (.int (3 : Int32)), .val (.long y3), .second] [(.long w1), (.long y3)])
      refine own_st (fun _ kt => XS.lcmp X8.here hx rfl (hb hby own_d10_44) rfl kt) ?_
      show own_Rch p e below _ T8 (mkF m 45 #[.val (.ref b), .val (.int (0 : Int32)), .val (.int (4 : Int32)), .val (.int (1 : Int32)), .val (.int (3 : Int32)), .val (.long y3), .second] [(.int (lcmpW y3 w1))])
      by_cases hc45_10 : (lcmpW y3 w1) < (0 : Int32)
      · -- pc 45: True
        refine own_st (fun _ kt => XS.ifNo X8.here hx rfl (hb hby own_d10_45) rfl ((if0 _ _).trans (tlt hc45_10).2.1) kt) ?_
        rw [lw_lt] at hc45_10
        show own_Rch p e below _ T8 (mkF m 48 #[.val (.ref b), .val (.int (0 : Int32)), .val (.int (4 : Int32)), .val (.int (1 : Int32)), .val (.int (3 : Int32)), .val (.long y3), .second] [])
        refine own_st (fun _ kt => XS.aloadN X8.here hx rfl (hb hby own_d10_48) rfl rfl  kt) ?_
        show own_Rch p e below _ T8 (mkF m 49 #[.val (.ref b), .val (.int (0 : Int32)), .val (.int (4 : Int32)), .val (.int (1 : Int32)), .val (.int (3 : Int32)), .val (.long y3), .second] [(.ref b)])
        refine own_st (fun _ kt => XS.iloadN X8.here hx rfl (hb hby own_d10_49) rfl  kt) ?_
        show own_Rch p e below _ T8 (mkF m 50 #[.val (.ref b), .val (.int (0 : Int32)), .val (.int (4 : Int32)), .val (.int (1 : Int32)), .val (.int (3 : Int32)), .val (.long y3), .second] [(.int (1 : Int32)), (.ref b)])
        refine own_st (fun _ kt => XS.iconst X8.here hx rfl (hb hby own_d10_50) kt) ?_
        show own_Rch p e below _ T8 (mkF m 51 #[.val (.ref b), .val (.int (0 : Int32)), .val (.int (4 : Int32)), .val (.int (1 : Int32)), .val (.int (3 : Int32)), .val (.long y3), .second] [(.int (1 : Int32)), (.int (1 : Int32)), (.ref b)])
        refine own_st (fun _ kt => XS.iadd X8.here hx rfl (hb hby own_d10_51) rfl kt) ?_
        show own_Rch p e below _ T8 (mkF m 52 #[.val (.ref b), .val (.int (0 : Int32)), .val (.int (4 : Int32)), .val (.int (1 : Int32)), .val (.int (3 : Int32)), .val (.long y3), .second] [(.int (2 : Int32)), (.ref b)])
        refine own_st (fun _ kt => XS.aloadN X8.here hx rfl (hb hby own_d10_52) rfl rfl  kt) ?_
        show own_Rch p e below _ T8 (mkF m 53 #[.val (.ref b), .val (.int (0 : Int32)), .val (.int (4 : Int32)), .val (.int (1 : Int32)), .val (.int (3 : Int32)), .val (.long y3), .second] [(.ref b), (.int (2 : Int32)), (.ref b)])
        refine own_st (fun _ kt => XS.iloadN X8.here hx rfl (hb hby own_d10_53) rfl  kt) ?_
        show own_Rch p e below _ T8 (mkF m 54 #[.val (.ref b), .val (.int (0 : Int32)), .val (.int (4 : Int32)), .val (.int (1 : Int32)), .val (.int (3 : Int32)), .val (.long y3), .second] [(.int (1 : Int32)), (.ref b), (.int (2 : Int32)), (.ref b)])
        obtain ⟨cl11, Ar11, q11, S11, M11, H11, G11⟩ := id V8s
        have hin11 : ¬ ((1 : Int32) < 0 ∨ cl11.slots.size ≤ ((1 : Int32)).toNatClampNeg) := inb_of S11 ⟨by decide, by decide⟩
        refine own_st (X8.laload hx (j := (1 : Int32)) (v := (.long w1)) (by rw [e8]; exact Ar11.1) (State.isArrayOf_alike (hZ).alike Ar11.2.1) Ar11.2.2 hin11 (H11.at hin11 rfl) (g := (mkF m 54 #[.val (.ref b), .val (.int (0 : Int32)), .val (.int (4 : Int32)), .val (.int (1 : Int32)), .val (.int (3 : Int32)), .val (.long y3), .second] [(.int (1 : Int32)), (.ref b), (.int (2 : Int32)), (.ref b)])) rfl rfl (hb hby own_d10_54)) ?_
        show own_Rch p e below _ T8 (mkF m 55 #[.val (.ref b), .val (.int (0 : Int32)), .val (.int (4 : Int32)), .val (.int (1 : Int32)), .val (.int (3 : Int32)), .val (.long y3), .second] [(.long w1), (.int (2 : Int32)), (.ref b)])
        obtain ⟨cl12, Ar12, q12, S12, M12, H12, G12⟩ := id V8s
        have hin12 : ¬ ((2 : Int32) < 0 ∨ cl12.slots.size ≤ ((2 : Int32)).toNatClampNeg) := inb_of S12 ⟨by decide, by decide⟩
        obtain ⟨T12, h12, X12, e12, W12, st12⟩ := stJ X8 hx hZ e8 Ar12 (j := (2 : Int32)) hin12 (g := (mkF m 55 #[.val (.ref b), .val (.int (0 : Int32)), .val (.int (4 : Int32)), .val (.int (1 : Int32)), .val (.int (3 : Int32)), .val (.long y3), .second] [(.long w1), (.int (2 : Int32)), (.ref b)])) rfl rfl (hb hby own_d10_55)
        have V12 := Arv.set Ar12 q12 S12 M12 H12 G12 rfl W12 2 rfl (Nat.le_of_ble_eq_true rfl)
        have V12s : Arv Z h12 b k .long (1024 : Int32) [(.long w0), (.long w1), (.long w1), (.long w2)] (.long (0 : Int64)) := V12
        have N12 := Fr.snoc X12 N8 gb
        refine own_st st12 ?_
        have O2_x12 := O2_x8.wr W12 gb
        have K2_x12 := K2_x8.wr W12 (Or.inl (List.mem_of_getElem? (i := 0) rfl))
        show own_Rch p e below _ T12 (mkF m 56 #[.val (.ref b), .val (.int (0 : Int32)), .val (.int (4 : Int32)), .val (.int (1 : Int32)), .val (.int (3 : Int32)), .val (.long y3), .second] [])
        refine own_st (fun _ kt => XS.goto X12.here hx rfl (pc0 := 56) (pc' := 31) rfl (hb hby own_d10_56) (by decide) (by decide) kt) ?_
        show own_Rch p e below _ T12 (mkF m 31 #[.val (.ref b), .val (.int (0 : Int32)), .val (.int (4 : Int32)), .val (.int (1 : Int32)), .val (.int (3 : Int32)), .val (.long y3), .second] [])
        refine own_st (fun _ kt => XS.iinc X12.here hx rfl (hb hby own_d10_31) rfl (l' := #[.val (.ref b), .val (.int (0 : Int32)), .val (.int (4 : Int32)), .val (.int (0 : Int32)), .val (.int (3 : Int32)), .val (.long y3), .second]) rfl kt) ?_
        show own_Rch p e below _ T12 (mkF m 34 #[.val (.ref b), .val (.int (0 : Int32)), .val (.int (4 : Int32)), .val (.int (0 : Int32)), .val (.int (3 : Int32)), .val (.long y3), .second] [])
        refine own_st (fun _ kt => XS.iloadN X12.here hx rfl (hb hby own_d10_34) rfl  kt) ?_
        show own_Rch p e below _ T12 (mkF m 35 #[.val (.ref b), .val (.int (0 : Int32)), .val (.int (4 : Int32)), .val (.int (0 : Int32)), .val (.int (3 : Int32)), .val (.long y3), .second] [(.int (0 : Int32))])
        refine own_st (fun _ kt => XS.iloadN X12.here hx rfl (hb hby own_d10_35) rfl  kt) ?_
        show own_Rch p e below _ T12 (mkF m 36 #[.val (.ref b), .val (.int (0 : Int32)), .val (.int (4 : Int32)), .val (.int (0 : Int32)), .val (.int (3 : Int32)), .val (.long y3), .second] [(.int (0 : Int32)), (.int (0 : Int32))])
        refine own_st (fun _ kt => XS.icmpNo X12.here hx rfl (hb hby own_d10_36) rfl (flt ((by decide) : ¬ ((0 : Int32) < (0 : Int32)))).1 kt) ?_
        show own_Rch p e below _ T12 (mkF m 39 #[.val (.ref b), .val (.int (0 : Int32)), .val (.int (4 : Int32)), .val (.int (0 : Int32)), .val (.int (3 : Int32)), .val (.long y3), .second] [])
        refine own_st (fun _ kt => XS.lload X12.here hx rfl (hb hby own_d10_39) rfl  kt) ?_
        show own_Rch p e below _ T12 (mkF m 41 #[.val (.ref b), .val (.int (0 : Int32)), .val (.int (4 : Int32)), .val (.int (0 : Int32)), .val (.int (3 : Int32)), .val (.long y3), .second] [(.long y3)])
        refine own_st (fun _ kt => XS.aloadN X12.here hx rfl (hb hby own_d10_41) rfl rfl  kt) ?_
        show own_Rch p e below _ T12 (mkF m 42 #[.val (.ref b), .val (.int (0 : Int32)), .val (.int (4 : Int32)), .val (.int (0 : Int32)), .val (.int (3 : Int32)), .val (.long y3), .second] [(.ref b), (.long y3)])
        refine own_st (fun _ kt => XS.iloadN X12.here hx rfl (hb hby own_d10_42) rfl  kt) ?_
        show own_Rch p e below _ T12 (mkF m 43 #[.val (.ref b), .val (.int (0 : Int32)), .val (.int (4 : Int32)), .val (.int (0 : Int32)), .val (.int (3 : Int32)), .val (.long y3), .second] [(.int (0 : Int32)), (.ref b), (.long y3)])
        obtain ⟨cl13, Ar13, q13, S13, M13, H13, G13⟩ := id V12s
        have hin13 : ¬ ((0 : Int32) < 0 ∨ cl13.slots.size ≤ ((0 : Int32)).toNatClampNeg) := inb_of S13 ⟨by decide, by decide⟩
        refine own_st (X12.laload hx (j := (0 : Int32)) (v := (.long w0)) (by rw [e12]; exact Ar13.1) (State.isArrayOf_alike (hZ).alike Ar13.2.1) Ar13.2.2 hin13 (H13.at hin13 rfl) (g := (mkF m 43 #[.val (.ref b), .val (.int (0 : Int32)), .val (.int (4 : Int32)), .val (.int (0 : Int32)), .val (.int (3 : Int32)), .val (.long y3), .second] [(.int (0 : Int32)), (.ref b), (.long y3)])) rfl rfl (hb hby own_d10_43)) ?_
        show own_Rch p e below _ T12 (mkF m 44 #[.val (.ref b), .val (.int (0 : Int32)), .val (.int (4 : Int32)), .val (.int (0 : Int32)), .val (.int (3 : Int32)), .val (.long y3), .second] [(.long w0), (.long y3)])
        refine own_st (fun _ kt => XS.lcmp X12.here hx rfl (hb hby own_d10_44) rfl kt) ?_
        show own_Rch p e below _ T12 (mkF m 45 #[.val (.ref b), .val (.int (0 : Int32)), .val (.int (4 : Int32)), .val (.int (0 : Int32)), .val (.int (3 : Int32)), .val (.long y3), .second] [(.int (lcmpW y3 w0))])
        by_cases hc45_14 : (lcmpW y3 w0) < (0 : Int32)
        · -- pc 45: True
          refine own_st (fun _ kt => XS.ifNo X12.here hx rfl (hb hby own_d10_45) rfl ((if0 _ _).trans (tlt hc45_14).2.1) kt) ?_
          rw [lw_lt] at hc45_14
          show own_Rch p e below _ T12 (mkF m 48 #[.val (.ref b), .val (.int (0 : Int32)), .val (.int (4 : Int32)), .val (.int (0 : Int32)), .val (.int (3 : Int32)), .val (.long y3), .second] [])
          refine own_st (fun _ kt => XS.aloadN X12.here hx rfl (hb hby own_d10_48) rfl rfl  kt) ?_
          show own_Rch p e below _ T12 (mkF m 49 #[.val (.ref b), .val (.int (0 : Int32)), .val (.int (4 : Int32)), .val (.int (0 : Int32)), .val (.int (3 : Int32)), .val (.long y3), .second] [(.ref b)])
          refine own_st (fun _ kt => XS.iloadN X12.here hx rfl (hb hby own_d10_49) rfl  kt) ?_
          show own_Rch p e below _ T12 (mkF m 50 #[.val (.ref b), .val (.int (0 : Int32)), .val (.int (4 : Int32)), .val (.int (0 : Int32)), .val (.int (3 : Int32)), .val (.long y3), .second] [(.int (0 : Int32)), (.ref b)])
          refine own_st (fun _ kt => XS.iconst X12.here hx rfl (hb hby own_d10_50) kt) ?_
          show own_Rch p e below _ T12 (mkF m 51 #[.val (.ref b), .val (.int (0 : Int32)), .val (.int (4 : Int32)), .val (.int (0 : Int32)), .val (.int (3 : Int32)), .val (.long y3), .second] [(.int (1 : Int32)), (.int (0 : Int32)), (.ref b)])
          refine own_st (fun _ kt => XS.iadd X12.here hx rfl (hb hby own_d10_51) rfl kt) ?_
          show own_Rch p e below _ T12 (mkF m 52 #[.val (.ref b), .val (.int (0 : Int32)), .val (.int (4 : Int32)), .val (.int (0 : Int32)), .val (.int (3 : Int32)), .val (.long y3), .second] [(.int (1 : Int32)), (.ref b)])
          refine own_st (fun _ kt => XS.aloadN X12.here hx rfl (hb hby own_d10_52) rfl rfl  kt) ?_
          show own_Rch p e below _ T12 (mkF m 53 #[.val (.ref b), .val (.int (0 : Int32)), .val (.int (4 : Int32)), .val (.int (0 : Int32)), .val (.int (3 : Int32)), .val (.long y3), .second] [(.ref b), (.int (1 : Int32)), (.ref b)])
          refine own_st (fun _ kt => XS.iloadN X12.here hx rfl (hb hby own_d10_53) rfl  kt) ?_
          show own_Rch p e below _ T12 (mkF m 54 #[.val (.ref b), .val (.int (0 : Int32)), .val (.int (4 : Int32)), .val (.int (0 : Int32)), .val (.int (3 : Int32)), .val (.long y3), .second] [(.int (0 : Int32)), (.ref b), (.int (1 : Int32)), (.ref b)])
          obtain ⟨cl15, Ar15, q15, S15, M15, H15, G15⟩ := id V12s
          have hin15 : ¬ ((0 : Int32) < 0 ∨ cl15.slots.size ≤ ((0 : Int32)).toNatClampNeg) := inb_of S15 ⟨by decide, by decide⟩
          refine own_st (X12.laload hx (j := (0 : Int32)) (v := (.long w0)) (by rw [e12]; exact Ar15.1) (State.isArrayOf_alike (hZ).alike Ar15.2.1) Ar15.2.2 hin15 (H15.at hin15 rfl) (g := (mkF m 54 #[.val (.ref b), .val (.int (0 : Int32)), .val (.int (4 : Int32)), .val (.int (0 : Int32)), .val (.int (3 : Int32)), .val (.long y3), .second] [(.int (0 : Int32)), (.ref b), (.int (1 : Int32)), (.ref b)])) rfl rfl (hb hby own_d10_54)) ?_
          show own_Rch p e below _ T12 (mkF m 55 #[.val (.ref b), .val (.int (0 : Int32)), .val (.int (4 : Int32)), .val (.int (0 : Int32)), .val (.int (3 : Int32)), .val (.long y3), .second] [(.long w0), (.int (1 : Int32)), (.ref b)])
          obtain ⟨cl16, Ar16, q16, S16, M16, H16, G16⟩ := id V12s
          have hin16 : ¬ ((1 : Int32) < 0 ∨ cl16.slots.size ≤ ((1 : Int32)).toNatClampNeg) := inb_of S16 ⟨by decide, by decide⟩
          obtain ⟨T16, h16, X16, e16, W16, st16⟩ := stJ X12 hx hZ e12 Ar16 (j := (1 : Int32)) hin16 (g := (mkF m 55 #[.val (.ref b), .val (.int (0 : Int32)), .val (.int (4 : Int32)), .val (.int (0 : Int32)), .val (.int (3 : Int32)), .val (.long y3), .second] [(.long w0), (.int (1 : Int32)), (.ref b)])) rfl rfl (hb hby own_d10_55)
          have V16 := Arv.set Ar16 q16 S16 M16 H16 G16 rfl W16 1 rfl (Nat.le_of_ble_eq_true rfl)
          have V16s : Arv Z h16 b k .long (1024 : Int32) [(.long w0), (.long w0), (.long w1), (.long w2)] (.long (0 : Int64)) := V16
          have N16 := Fr.snoc X16 N12 gb
          refine own_st st16 ?_
          have O2_x16 := O2_x12.wr W16 gb
          have K2_x16 := K2_x12.wr W16 (Or.inl (List.mem_of_getElem? (i := 0) rfl))
          show own_Rch p e below _ T16 (mkF m 56 #[.val (.ref b), .val (.int (0 : Int32)), .val (.int (4 : Int32)), .val (.int (0 : Int32)), .val (.int (3 : Int32)), .val (.long y3), .second] [])
          refine own_st (fun _ kt => XS.goto X16.here hx rfl (pc0 := 56) (pc' := 31) rfl (hb hby own_d10_56) (by decide) (by decide) kt) ?_
          show own_Rch p e below _ T16 (mkF m 31 #[.val (.ref b), .val (.int (0 : Int32)), .val (.int (4 : Int32)), .val (.int (0 : Int32)), .val (.int (3 : Int32)), .val (.long y3), .second] [])
          refine own_st (fun _ kt => XS.iinc X16.here hx rfl (hb hby own_d10_31) rfl (l' := #[.val (.ref b), .val (.int (0 : Int32)), .val (.int (4 : Int32)), .val (.int (-1 : Int32)), .val (.int (3 : Int32)), .val (.long y3), .second]) rfl kt) ?_
          show own_Rch p e below _ T16 (mkF m 34 #[.val (.ref b), .val (.int (0 : Int32)), .val (.int (4 : Int32)), .val (.int (-1 : Int32)), .val (.int (3 : Int32)), .val (.long y3), .second] [])
          refine own_st (fun _ kt => XS.iloadN X16.here hx rfl (hb hby own_d10_34) rfl  kt) ?_
          show own_Rch p e below _ T16 (mkF m 35 #[.val (.ref b), .val (.int (0 : Int32)), .val (.int (4 : Int32)), .val (.int (-1 : Int32)), .val (.int (3 : Int32)), .val (.long y3), .second] [(.int (-1 : Int32))])
          refine own_st (fun _ kt => XS.iloadN X16.here hx rfl (hb hby own_d10_35) rfl  kt) ?_
          show own_Rch p e below _ T16 (mkF m 36 #[.val (.ref b), .val (.int (0 : Int32)), .val (.int (4 : Int32)), .val (.int (-1 : Int32)), .val (.int (3 : Int32)), .val (.long y3), .second] [(.int (0 : Int32)), (.int (-1 : Int32))])
          refine own_st (fun _ kt => XS.icmpYes X16.here hx rfl (pc0 := 36) (pc' := 59) rfl (hb hby own_d10_36) rfl (tlt ((by decide) : (-1 : Int32) < (0 : Int32))).1 (by decide) (by decide) kt) ?_
          show own_Rch p e below _ T16 (mkF m 59 #[.val (.ref b), .val (.int (0 : Int32)), .val (.int (4 : Int32)), .val (.int (-1 : Int32)), .val (.int (3 : Int32)), .val (.long y3), .second] [])
          refine own_st (fun _ kt => XS.aloadN X16.here hx rfl (hb hby own_d10_59) rfl rfl  kt) ?_
          show own_Rch p e below _ T16 (mkF m 60 #[.val (.ref b), .val (.int (0 : Int32)), .val (.int (4 : Int32)), .val (.int (-1 : Int32)), .val (.int (3 : Int32)), .val (.long y3), .second] [(.ref b)])
          refine own_st (fun _ kt => XS.iloadN X16.here hx rfl (hb hby own_d10_60) rfl  kt) ?_
          show own_Rch p e below _ T16 (mkF m 61 #[.val (.ref b), .val (.int (0 : Int32)), .val (.int (4 : Int32)), .val (.int (-1 : Int32)), .val (.int (3 : Int32)), .val (.long y3), .second] [(.int (-1 : Int32)), (.ref b)])
          refine own_st (fun _ kt => XS.iconst X16.here hx rfl (hb hby own_d10_61) kt) ?_
          show own_Rch p e below _ T16 (mkF m 62 #[.val (.ref b), .val (.int (0 : Int32)), .val (.int (4 : Int32)), .val (.int (-1 : Int32)), .val (.int (3 : Int32)), .val (.long y3), .second] [(.int (1 : Int32)), (.int (-1 : Int32)), (.ref b)])
          refine own_st (fun _ kt => XS.iadd X16.here hx rfl (hb hby own_d10_62) rfl kt) ?_
          show own_Rch p e below _ T16 (mkF m 63 #[.val (.ref b), .val (.int (0 : Int32)), .val (.int (4 : Int32)), .val (.int (-1 : Int32)), .val (.int (3 : Int32)), .val (.long y3), .second] [(.int (0 : Int32)), (.ref b)])
          refine own_st (fun _ kt => XS.lload X16.here hx rfl (hb hby own_d10_63) rfl  kt) ?_
          show own_Rch p e below _ T16 (mkF m 65 #[.val (.ref b), .val (.int (0 : Int32)), .val (.int (4 : Int32)), .val (.int (-1 : Int32)), .val (.int (3 : Int32)), .val (.long y3), .second] [(.long y3), (.int (0 : Int32)), (.ref b)])
          obtain ⟨cl17, Ar17, q17, S17, M17, H17, G17⟩ := id V16s
          have hin17 : ¬ ((0 : Int32) < 0 ∨ cl17.slots.size ≤ ((0 : Int32)).toNatClampNeg) := inb_of S17 ⟨by decide, by decide⟩
          obtain ⟨T17, h17, X17, e17, W17, st17⟩ := stJ X16 hx hZ e16 Ar17 (j := (0 : Int32)) hin17 (g := (mkF m 65 #[.val (.ref b), .val (.int (0 : Int32)), .val (.int (4 : Int32)), .val (.int (-1 : Int32)), .val (.int (3 : Int32)), .val (.long y3), .second] [(.long y3), (.int (0 : Int32)), (.ref b)])) rfl rfl (hb hby own_d10_65)
          have V17 := Arv.set Ar17 q17 S17 M17 H17 G17 rfl W17 0 rfl (Nat.le_of_ble_eq_true rfl)
          have V17s : Arv Z h17 b k .long (1024 : Int32) [(.long y3), (.long w0), (.long w1), (.long w2)] (.long (0 : Int64)) := V17
          have N17 := Fr.snoc X17 N16 gb
          refine own_st st17 ?_
          have O2_x17 := O2_x16.wr W17 gb
          have K2_x17 := K2_x16.wr W17 (Or.inl (List.mem_of_getElem? (i := 0) rfl))
          show own_Rch p e below _ T17 (mkF m 66 #[.val (.ref b), .val (.int (0 : Int32)), .val (.int (4 : Int32)), .val (.int (-1 : Int32)), .val (.int (3 : Int32)), .val (.long y3), .second] [])
          refine own_st (fun _ kt => XS.goto X17.here hx rfl (pc0 := 66) (pc' := 3) rfl (hb hby own_d10_66) (by decide) (by decide) kt) ?_
          show own_Rch p e below _ T17 (mkF m 3 #[.val (.ref b), .val (.int (0 : Int32)), .val (.int (4 : Int32)), .val (.int (-1 : Int32)), .val (.int (3 : Int32)), .val (.long y3), .second] [])
          refine own_st (fun _ kt => XS.iinc X17.here hx rfl (hb hby own_d10_3) rfl (l' := #[.val (.ref b), .val (.int (0 : Int32)), .val (.int (4 : Int32)), .val (.int (-1 : Int32)), .val (.int (4 : Int32)), .val (.long y3), .second]) rfl kt) ?_
          exact c4 y3 w0 w1 w2 y3 (-1 : Int32) _ _ X17 _ e17 N17 O2_x17 K2_x17 V17s (hI.trans (congrArg (own_isr []) (by simp [own_insr, hc28_5, hc45_10, hc45_14] : own_insr y3 [w2, w1, w0] = [w2, w1, w0, y3])))
        · -- pc 45: False
          refine own_st (fun _ kt => XS.ifYes X12.here hx rfl (pc0 := 45) (pc' := 59) rfl (hb hby own_d10_45) rfl ((if0 _ _).trans (flt hc45_14).2.1) (by decide) (by decide) kt) ?_
          rw [lw_lt] at hc45_14
          show own_Rch p e below _ T12 (mkF m 59 #[.val (.ref b), .val (.int (0 : Int32)), .val (.int (4 : Int32)), .val (.int (0 : Int32)), .val (.int (3 : Int32)), .val (.long y3), .second] [])
          refine own_st (fun _ kt => XS.aloadN X12.here hx rfl (hb hby own_d10_59) rfl rfl  kt) ?_
          show own_Rch p e below _ T12 (mkF m 60 #[.val (.ref b), .val (.int (0 : Int32)), .val (.int (4 : Int32)), .val (.int (0 : Int32)), .val (.int (3 : Int32)), .val (.long y3), .second] [(.ref b)])
          refine own_st (fun _ kt => XS.iloadN X12.here hx rfl (hb hby own_d10_60) rfl  kt) ?_
          show own_Rch p e below _ T12 (mkF m 61 #[.val (.ref b), .val (.int (0 : Int32)), .val (.int (4 : Int32)), .val (.int (0 : Int32)), .val (.int (3 : Int32)), .val (.long y3), .second] [(.int (0 : Int32)), (.ref b)])
          refine own_st (fun _ kt => XS.iconst X12.here hx rfl (hb hby own_d10_61) kt) ?_
          show own_Rch p e below _ T12 (mkF m 62 #[.val (.ref b), .val (.int (0 : Int32)), .val (.int (4 : Int32)), .val (.int (0 : Int32)), .val (.int (3 : Int32)), .val (.long y3), .second] [(.int (1 : Int32)), (.int (0 : Int32)), (.ref b)])
          refine own_st (fun _ kt => XS.iadd X12.here hx rfl (hb hby own_d10_62) rfl kt) ?_
          show own_Rch p e below _ T12 (mkF m 63 #[.val (.ref b), .val (.int (0 : Int32)), .val (.int (4 : Int32)), .val (.int (0 : Int32)), .val (.int (3 : Int32)), .val (.long y3), .second] [(.int (1 : Int32)), (.ref b)])
          refine own_st (fun _ kt => XS.lload X12.here hx rfl (hb hby own_d10_63) rfl  kt) ?_
          show own_Rch p e below _ T12 (mkF m 65 #[.val (.ref b), .val (.int (0 : Int32)), .val (.int (4 : Int32)), .val (.int (0 : Int32)), .val (.int (3 : Int32)), .val (.long y3), .second] [(.long y3), (.int (1 : Int32)), (.ref b)])
          obtain ⟨cl18, Ar18, q18, S18, M18, H18, G18⟩ := id V12s
          have hin18 : ¬ ((1 : Int32) < 0 ∨ cl18.slots.size ≤ ((1 : Int32)).toNatClampNeg) := inb_of S18 ⟨by decide, by decide⟩
          obtain ⟨T18, h18, X18, e18, W18, st18⟩ := stJ X12 hx hZ e12 Ar18 (j := (1 : Int32)) hin18 (g := (mkF m 65 #[.val (.ref b), .val (.int (0 : Int32)), .val (.int (4 : Int32)), .val (.int (0 : Int32)), .val (.int (3 : Int32)), .val (.long y3), .second] [(.long y3), (.int (1 : Int32)), (.ref b)])) rfl rfl (hb hby own_d10_65)
          have V18 := Arv.set Ar18 q18 S18 M18 H18 G18 rfl W18 1 rfl (Nat.le_of_ble_eq_true rfl)
          have V18s : Arv Z h18 b k .long (1024 : Int32) [(.long w0), (.long y3), (.long w1), (.long w2)] (.long (0 : Int64)) := V18
          have N18 := Fr.snoc X18 N12 gb
          refine own_st st18 ?_
          have O2_x18 := O2_x12.wr W18 gb
          have K2_x18 := K2_x12.wr W18 (Or.inl (List.mem_of_getElem? (i := 0) rfl))
          show own_Rch p e below _ T18 (mkF m 66 #[.val (.ref b), .val (.int (0 : Int32)), .val (.int (4 : Int32)), .val (.int (0 : Int32)), .val (.int (3 : Int32)), .val (.long y3), .second] [])
          refine own_st (fun _ kt => XS.goto X18.here hx rfl (pc0 := 66) (pc' := 3) rfl (hb hby own_d10_66) (by decide) (by decide) kt) ?_
          show own_Rch p e below _ T18 (mkF m 3 #[.val (.ref b), .val (.int (0 : Int32)), .val (.int (4 : Int32)), .val (.int (0 : Int32)), .val (.int (3 : Int32)), .val (.long y3), .second] [])
          refine own_st (fun _ kt => XS.iinc X18.here hx rfl (hb hby own_d10_3) rfl (l' := #[.val (.ref b), .val (.int (0 : Int32)), .val (.int (4 : Int32)), .val (.int (0 : Int32)), .val (.int (4 : Int32)), .val (.long y3), .second]) rfl kt) ?_
          exact c4 w0 y3 w1 w2 y3 (0 : Int32) _ _ X18 _ e18 N18 O2_x18 K2_x18 V18s (hI.trans (congrArg (own_isr []) (by simp [own_insr, hc28_5, hc45_10, hc45_14] : own_insr y3 [w2, w1, w0] = [w2, w1, y3, w0])))
      · -- pc 45: False
        refine own_st (fun _ kt => XS.ifYes X8.here hx rfl (pc0 := 45) (pc' := 59) rfl (hb hby own_d10_45) rfl ((if0 _ _).trans (flt hc45_10).2.1) (by decide) (by decide) kt) ?_
        rw [lw_lt] at hc45_10
        show own_Rch p e below _ T8 (mkF m 59 #[.val (.ref b), .val (.int (0 : Int32)), .val (.int (4 : Int32)), .val (.int (1 : Int32)), .val (.int (3 : Int32)), .val (.long y3), .second] [])
        refine own_st (fun _ kt => XS.aloadN X8.here hx rfl (hb hby own_d10_59) rfl rfl  kt) ?_
        show own_Rch p e below _ T8 (mkF m 60 #[.val (.ref b), .val (.int (0 : Int32)), .val (.int (4 : Int32)), .val (.int (1 : Int32)), .val (.int (3 : Int32)), .val (.long y3), .second] [(.ref b)])
        refine own_st (fun _ kt => XS.iloadN X8.here hx rfl (hb hby own_d10_60) rfl  kt) ?_
        show own_Rch p e below _ T8 (mkF m 61 #[.val (.ref b), .val (.int (0 : Int32)), .val (.int (4 : Int32)), .val (.int (1 : Int32)), .val (.int (3 : Int32)), .val (.long y3), .second] [(.int (1 : Int32)), (.ref b)])
        refine own_st (fun _ kt => XS.iconst X8.here hx rfl (hb hby own_d10_61) kt) ?_
        show own_Rch p e below _ T8 (mkF m 62 #[.val (.ref b), .val (.int (0 : Int32)), .val (.int (4 : Int32)), .val (.int (1 : Int32)), .val (.int (3 : Int32)), .val (.long y3), .second] [(.int (1 : Int32)), (.int (1 : Int32)), (.ref b)])
        refine own_st (fun _ kt => XS.iadd X8.here hx rfl (hb hby own_d10_62) rfl kt) ?_
        show own_Rch p e below _ T8 (mkF m 63 #[.val (.ref b), .val (.int (0 : Int32)), .val (.int (4 : Int32)), .val (.int (1 : Int32)), .val (.int (3 : Int32)), .val (.long y3), .second] [(.int (2 : Int32)), (.ref b)])
        refine own_st (fun _ kt => XS.lload X8.here hx rfl (hb hby own_d10_63) rfl  kt) ?_
        show own_Rch p e below _ T8 (mkF m 65 #[.val (.ref b), .val (.int (0 : Int32)), .val (.int (4 : Int32)), .val (.int (1 : Int32)), .val (.int (3 : Int32)), .val (.long y3), .second] [(.long y3), (.int (2 : Int32)), (.ref b)])
        obtain ⟨cl19, Ar19, q19, S19, M19, H19, G19⟩ := id V8s
        have hin19 : ¬ ((2 : Int32) < 0 ∨ cl19.slots.size ≤ ((2 : Int32)).toNatClampNeg) := inb_of S19 ⟨by decide, by decide⟩
        obtain ⟨T19, h19, X19, e19, W19, st19⟩ := stJ X8 hx hZ e8 Ar19 (j := (2 : Int32)) hin19 (g := (mkF m 65 #[.val (.ref b), .val (.int (0 : Int32)), .val (.int (4 : Int32)), .val (.int (1 : Int32)), .val (.int (3 : Int32)), .val (.long y3), .second] [(.long y3), (.int (2 : Int32)), (.ref b)])) rfl rfl (hb hby own_d10_65)
        have V19 := Arv.set Ar19 q19 S19 M19 H19 G19 rfl W19 2 rfl (Nat.le_of_ble_eq_true rfl)
        have V19s : Arv Z h19 b k .long (1024 : Int32) [(.long w0), (.long w1), (.long y3), (.long w2)] (.long (0 : Int64)) := V19
        have N19 := Fr.snoc X19 N8 gb
        refine own_st st19 ?_
        have O2_x19 := O2_x8.wr W19 gb
        have K2_x19 := K2_x8.wr W19 (Or.inl (List.mem_of_getElem? (i := 0) rfl))
        show own_Rch p e below _ T19 (mkF m 66 #[.val (.ref b), .val (.int (0 : Int32)), .val (.int (4 : Int32)), .val (.int (1 : Int32)), .val (.int (3 : Int32)), .val (.long y3), .second] [])
        refine own_st (fun _ kt => XS.goto X19.here hx rfl (pc0 := 66) (pc' := 3) rfl (hb hby own_d10_66) (by decide) (by decide) kt) ?_
        show own_Rch p e below _ T19 (mkF m 3 #[.val (.ref b), .val (.int (0 : Int32)), .val (.int (4 : Int32)), .val (.int (1 : Int32)), .val (.int (3 : Int32)), .val (.long y3), .second] [])
        refine own_st (fun _ kt => XS.iinc X19.here hx rfl (hb hby own_d10_3) rfl (l' := #[.val (.ref b), .val (.int (0 : Int32)), .val (.int (4 : Int32)), .val (.int (1 : Int32)), .val (.int (4 : Int32)), .val (.long y3), .second]) rfl kt) ?_
        exact c4 w0 w1 y3 w2 y3 (1 : Int32) _ _ X19 _ e19 N19 O2_x19 K2_x19 V19s (hI.trans (congrArg (own_isr []) (by simp [own_insr, hc28_5, hc45_10] : own_insr y3 [w2, w1, w0] = [w2, y3, w1, w0])))
    · -- pc 28: False
      refine own_st (fun _ kt => XS.ifYes X2.here hx rfl (pc0 := 28) (pc' := 66) rfl (hb hby own_d10_28) rfl ((if0 _ _).trans (flt hc28_5).2.1) (by decide) (by decide) kt) ?_
      rw [lw_lt] at hc28_5
      show own_Rch p e below _ T2 (mkF m 66 #[.val (.ref b), .val (.int (0 : Int32)), .val (.int (4 : Int32)), .val (.int (3 : Int32)), .val (.int (3 : Int32)), .val (.long y3), .second] [])
      refine own_st (fun _ kt => XS.goto X2.here hx rfl (pc0 := 66) (pc' := 3) rfl (hb hby own_d10_66) (by decide) (by decide) kt) ?_
      show own_Rch p e below _ T2 (mkF m 3 #[.val (.ref b), .val (.int (0 : Int32)), .val (.int (4 : Int32)), .val (.int (3 : Int32)), .val (.int (3 : Int32)), .val (.long y3), .second] [])
      refine own_st (fun _ kt => XS.iinc X2.here hx rfl (hb hby own_d10_3) rfl (l' := #[.val (.ref b), .val (.int (0 : Int32)), .val (.int (4 : Int32)), .val (.int (3 : Int32)), .val (.int (4 : Int32)), .val (.long y3), .second]) rfl kt) ?_
      exact c4 w0 w1 w2 y3 y3 (3 : Int32) _ _ X2 _ e2 N2 O2 K2 VB3 (hI.trans (congrArg (own_isr []) (by simp [own_insr, hc28_5] : own_insr y3 [w2, w1, w0] = [y3, w2, w1, w0])))
  have c2 : ∀ (w0 w1 tj : Int64) (tk : Int32) (T20 : State) (lc20 : List Loc) (X20 : Stand p l e (({ frames := 0, cells := 0, slots := 0, locals := 0 } : Room)) s m #[(.ref b), (.int (0 : Int32)), (.int (4 : Int32))] below meth c T20 lc20 0 0) (hv20 : Heap) (e20 : T20.heap = hv20) (N20 : Fr n0 lc20) (O20 : Old Z n0 hv20) (K20 : Keep h0 hv20 [b]) (VB2 : Arv Z hv20 b k .long (1024 : Int32) [(.long w0), (.long w1), (.long y2), (.long y3)] (.long (0 : Int64))) (hI : own_isort [y0, y1, y2, y3] = own_isr [y2, y3] [w1, w0]), own_Rch p e below (own_End s below (own_Q_own_ins4 Z b k y0 y1 y2 y3 h0 n0) (({ frames := 0, cells := 0, slots := 0, locals := 0 } : Room)).cells (({ frames := 0, cells := 0, slots := 0, locals := 0 } : Room)).slots) T20 (mkF m 6 #[.val (.ref b), .val (.int (0 : Int32)), .val (.int (4 : Int32)), .val (.int tk), .val (.int (2 : Int32)), .val (.long tj), .second] []) := by
    intro w0 w1 tj tk T20 lc20 X20 hv20 e20 N20 O20 K20 VB2 hI
    show own_Rch p e below _ T20 (mkF m 6 #[.val (.ref b), .val (.int (0 : Int32)), .val (.int (4 : Int32)), .val (.int tk), .val (.int (2 : Int32)), .val (.long tj), .second] [])
    refine own_st (fun _ kt => XS.iload X20.here hx rfl (hb hby own_d10_6) rfl  kt) ?_
    show own_Rch p e below _ T20 (mkF m 8 #[.val (.ref b), .val (.int (0 : Int32)), .val (.int (4 : Int32)), .val (.int tk), .val (.int (2 : Int32)), .val (.long tj), .second] [(.int (2 : Int32))])
    refine own_st (fun _ kt => XS.iloadN X20.here hx rfl (hb hby own_d10_8) rfl  kt) ?_
    show own_Rch p e below _ T20 (mkF m 9 #[.val (.ref b), .val (.int (0 : Int32)), .val (.int (4 : Int32)), .val (.int tk), .val (.int (2 : Int32)), .val (.long tj), .second] [(.int (4 : Int32)), (.int (2 : Int32))])
    refine own_st (fun _ kt => XS.icmpNo X20.here hx rfl (hb hby own_d10_9) rfl (tlt ((by decide) : (2 : Int32) < (4 : Int32))).2.1 kt) ?_
    show own_Rch p e below _ T20 (mkF m 12 #[.val (.ref b), .val (.int (0 : Int32)), .val (.int (4 : Int32)), .val (.int tk), .val (.int (2 : Int32)), .val (.long tj), .second] [])
    refine own_st (fun _ kt => XS.aloadN X20.here hx rfl (hb hby own_d10_12) rfl rfl  kt) ?_
    show own_Rch p e below _ T20 (mkF m 13 #[.val (.ref b), .val (.int (0 : Int32)), .val (.int (4 : Int32)), .val (.int tk), .val (.int (2 : Int32)), .val (.long tj), .second] [(.ref b)])
    refine own_st (fun _ kt => XS.iload X20.here hx rfl (hb hby own_d10_13) rfl  kt) ?_
    show own_Rch p e below _ T20 (mkF m 15 #[.val (.ref b), .val (.int (0 : Int32)), .val (.int (4 : Int32)), .val (.int tk), .val (.int (2 : Int32)), .val (.long tj), .second] [(.int (2 : Int32)), (.ref b)])
    refine own_st (fun _ kt => XS.dup X20.here hx rfl (hb hby own_d10_15) rfl rfl kt) ?_
    show own_Rch p e below _ T20 (mkF m 16 #[.val (.ref b), .val (.int (0 : Int32)), .val (.int (4 : Int32)), .val (.int tk), .val (.int (2 : Int32)), .val (.long tj), .second] [(.int (2 : Int32)), (.int (2 : Int32)), (.ref b)])
    refine own_st (fun _ kt => XS.istoreN X20.here hx rfl (hb hby own_d10_16) rfl (l' := #[.val (.ref b), .val (.int (0 : Int32)), .val (.int (4 : Int32)), .val (.int (2 : Int32)), .val (.int (2 : Int32)), .val (.long tj), .second]) rfl kt) ?_
    show own_Rch p e below _ T20 (mkF m 17 #[.val (.ref b), .val (.int (0 : Int32)), .val (.int (4 : Int32)), .val (.int (2 : Int32)), .val (.int (2 : Int32)), .val (.long tj), .second] [(.int (2 : Int32)), (.ref b)])
    obtain ⟨cl21, Ar21, q21, S21, M21, H21, G21⟩ := id VB2
    have hin21 : ¬ ((2 : Int32) < 0 ∨ cl21.slots.size ≤ ((2 : Int32)).toNatClampNeg) := inb_of S21 ⟨by decide, by decide⟩
    refine own_st (X20.laload hx (j := (2 : Int32)) (v := (.long y2)) (by rw [e20]; exact Ar21.1) (State.isArrayOf_alike (hZ).alike Ar21.2.1) Ar21.2.2 hin21 (H21.at hin21 rfl) (g := (mkF m 17 #[.val (.ref b), .val (.int (0 : Int32)), .val (.int (4 : Int32)), .val (.int (2 : Int32)), .val (.int (2 : Int32)), .val (.long tj), .second] [(.int (2 : Int32)), (.ref b)])) rfl rfl (hb hby own_d10_17)) ?_
    show own_Rch p e below _ T20 (mkF m 18 #[.val (.ref b), .val (.int (0 : Int32)), .val (.int (4 : Int32)), .val (.int (2 : Int32)), .val (.int (2 : Int32)), .val (.long tj), .second] [(.long y2)])
    refine own_st (fun _ kt => XS.lstore X20.here hx rfl (hb hby own_d10_18) rfl (l' := #[.val (.ref b), .val (.int (0 : Int32)), .val (.int (4 : Int32)), .val (.int (2 : Int32)), .val (.int (2 : Int32)), .val (.long y2), .second]) rfl kt) ?_
    show own_Rch p e below _ T20 (mkF m 20 #[.val (.ref b), .val (.int (0 : Int32)), .val (.int (4 : Int32)), .val (.int (2 : Int32)), .val (.int (2 : Int32)), .val (.long y2), .second] [])
    refine own_st (fun _ kt => XS.lload X20.here hx rfl (hb hby own_d10_20) rfl  kt) ?_
    show own_Rch p e below _ T20 (mkF m 22 #[.val (.ref b), .val (.int (0 : Int32)), .val (.int (4 : Int32)), .val (.int (2 : Int32)), .val (.int (2 : Int32)), .val (.long y2), .second] [(.long y2)])
    refine own_st (fun _ kt => XS.aloadN X20.here hx rfl (hb hby own_d10_22) rfl rfl  kt) ?_
    show own_Rch p e below _ T20 (mkF m 23 #[.val (.ref b), .val (.int (0 : Int32)), .val (.int (4 : Int32)), .val (.int (2 : Int32)), .val (.int (2 : Int32)), .val (.long y2), .second] [(.ref b), (.long y2)])
    refine own_st (fun _ kt => XS.iloadN X20.here hx rfl (hb hby own_d10_23) rfl  kt) ?_
    show own_Rch p e below _ T20 (mkF m 24 #[.val (.ref b), .val (.int (0 : Int32)), .val (.int (4 : Int32)), .val (.int (2 : Int32)), .val (.int (2 : Int32)), .val (.long y2), .second] [(.int (2 : Int32)), (.ref b), (.long y2)])
    refine own_st (fun _ kt => XS.iconst X20.here hx rfl (hb hby own_d10_24) kt) ?_
    show own_Rch p e below _ T20 (mkF m 25 #[.val (.ref b), .val (.int (0 : Int32)), .val (.int (4 : Int32)), .val (.int (2 : Int32)), .val (.int (2 : Int32)), .val (.long y2), .second] [(.int (1 : Int32)), (.int (2 : Int32)), (.ref b), (.long y2)])
    refine own_st (fun _ kt => XS.isub X20.here hx rfl (hb hby own_d10_25) rfl kt) ?_
    show own_Rch p e below _ T20 (mkF m 26 #[.val (.ref b), .val (.int (0 : Int32)), .val (.int (4 : Int32)), .val (.int (2 : Int32)), .val (.int (2 : Int32)), .val (.long y2), .second] [(.int (1 : Int32)), (.ref b), (.long y2)])
    obtain ⟨cl22, Ar22, q22, S22, M22, H22, G22⟩ := id VB2
    have hin22 : ¬ ((1 : Int32) < 0 ∨ cl22.slots.size ≤ ((1 : Int32)).toNatClampNeg) := inb_of S22 ⟨by decide, by decide⟩
    refine own_st (X20.laload hx (j := (1 : Int32)) (v := (.long w1)) (by rw [e20]; exact Ar22.1) (State.isArrayOf_alike (hZ).alike Ar22.2.1) Ar22.2.2 hin22 (H22.at hin22 rfl) (g := (mkF m 26 #[.val (.ref b), .val (.int (0 : Int32)), .val (.int (4 : Int32)), .val (.int (2 : Int32)), .val (.int (2 : Int32)), .val (.long y2), .second] [(.int (1 : Int32)), (.ref b), (.long y2)])) rfl rfl (hb hby own_d10_26)) ?_
    show own_Rch p e below _ T20 (mkF m 27 #[.val (.ref b), .val (.int (0 : Int32)), .val (.int (4 : Int32)), .val (.int (2 : Int32)), .val (.int (2 : Int32)), .val (.long y2), .second] [(.long w1), (.long y2)])
    refine own_st (fun _ kt => XS.lcmp X20.here hx rfl (hb hby own_d10_27) rfl kt) ?_
    show own_Rch p e below _ T20 (mkF m 28 #[.val (.ref b), .val (.int (0 : Int32)), .val (.int (4 : Int32)), .val (.int (2 : Int32)), .val (.int (2 : Int32)), .val (.long y2), .second] [(.int (lcmpW y2 w1))])
    by_cases hc28_23 : (lcmpW y2 w1) < (0 : Int32)
    · -- pc 28: True
      refine own_st (fun _ kt => XS.ifNo X20.here hx rfl (hb hby own_d10_28) rfl ((if0 _ _).trans (tlt hc28_23).2.1) kt) ?_
      rw [lw_lt] at hc28_23
      show own_Rch p e below _ T20 (mkF m 31 #[.val (.ref b), .val (.int (0 : Int32)), .val (.int (4 : Int32)), .val (.int (2 : Int32)), .val (.int (2 : Int32)), .val (.long y2), .second] [])
      refine own_st (fun _ kt => XS.iinc X20.here hx rfl (hb hby own_d10_31) rfl (l' := #[.val (.ref b), .val (.int (0 : Int32)), .val (.int (4 : Int32)), .val (.int (1 : Int32)), .val (.int (2 : Int32)), .val (.long y2), .second]) rfl kt) ?_
      show own_Rch p e below _ T20 (mkF m 34 #[.val (.ref b), .val (.int (0 : Int32)), .val (.int (4 : Int32)), .val (.int (1 : Int32)), .val (.int (2 : Int32)), .val (.long y2), .second] [])
      refine own_st (fun _ kt => XS.iloadN X20.here hx rfl (hb hby own_d10_34) rfl  kt) ?_
      show own_Rch p e below _ T20 (mkF m 35 #[.val (.ref b), .val (.int (0 : Int32)), .val (.int (4 : Int32)), .val (.int (1 : Int32)), .val (.int (2 : Int32)), .val (.long y2), .second] [(.int (1 : Int32))])
      refine own_st (fun _ kt => XS.iloadN X20.here hx rfl (hb hby own_d10_35) rfl  kt) ?_
      show own_Rch p e below _ T20 (mkF m 36 #[.val (.ref b), .val (.int (0 : Int32)), .val (.int (4 : Int32)), .val (.int (1 : Int32)), .val (.int (2 : Int32)), .val (.long y2), .second] [(.int (0 : Int32)), (.int (1 : Int32))])
      refine own_st (fun _ kt => XS.icmpNo X20.here hx rfl (hb hby own_d10_36) rfl (flt ((by decide) : ¬ ((1 : Int32) < (0 : Int32)))).1 kt) ?_
      show own_Rch p e below _ T20 (mkF m 39 #[.val (.ref b), .val (.int (0 : Int32)), .val (.int (4 : Int32)), .val (.int (1 : Int32)), .val (.int (2 : Int32)), .val (.long y2), .second] [])
      refine own_st (fun _ kt => XS.lload X20.here hx rfl (hb hby own_d10_39) rfl  kt) ?_
      show own_Rch p e below _ T20 (mkF m 41 #[.val (.ref b), .val (.int (0 : Int32)), .val (.int (4 : Int32)), .val (.int (1 : Int32)), .val (.int (2 : Int32)), .val (.long y2), .second] [(.long y2)])
      refine own_st (fun _ kt => XS.aloadN X20.here hx rfl (hb hby own_d10_41) rfl rfl  kt) ?_
      show own_Rch p e below _ T20 (mkF m 42 #[.val (.ref b), .val (.int (0 : Int32)), .val (.int (4 : Int32)), .val (.int (1 : Int32)), .val (.int (2 : Int32)), .val (.long y2), .second] [(.ref b), (.long y2)])
      refine own_st (fun _ kt => XS.iloadN X20.here hx rfl (hb hby own_d10_42) rfl  kt) ?_
      show own_Rch p e below _ T20 (mkF m 43 #[.val (.ref b), .val (.int (0 : Int32)), .val (.int (4 : Int32)), .val (.int (1 : Int32)), .val (.int (2 : Int32)), .val (.long y2), .second] [(.int (1 : Int32)), (.ref b), (.long y2)])
      obtain ⟨cl24, Ar24, q24, S24, M24, H24, G24⟩ := id VB2
      have hin24 : ¬ ((1 : Int32) < 0 ∨ cl24.slots.size ≤ ((1 : Int32)).toNatClampNeg) := inb_of S24 ⟨by decide, by decide⟩
      refine own_st (X20.laload hx (j := (1 : Int32)) (v := (.long w1)) (by rw [e20]; exact Ar24.1) (State.isArrayOf_alike (hZ).alike Ar24.2.1) Ar24.2.2 hin24 (H24.at hin24 rfl) (g := (mkF m 43 #[.val (.ref b), .val (.int (0 : Int32)), .val (.int (4 : Int32)), .val (.int (1 : Int32)), .val (.int (2 : Int32)), .val (.long y2), .second] [(.int (1 : Int32)), (.ref b), (.long y2)])) rfl rfl (hb hby own_d10_43)) ?_
      show own_Rch p e below _ T20 (mkF m 44 #[.val (.ref b), .val (.int (0 : Int32)), .val (.int (4 : Int32)), .val (.int (1 : Int32)), .val (.int (2 : Int32)), .val (.long y2), .second] [(.long w1), (.long y2)])
      refine own_st (fun _ kt => XS.lcmp X20.here hx rfl (hb hby own_d10_44) rfl kt) ?_
      show own_Rch p e below _ T20 (mkF m 45 #[.val (.ref b), .val (.int (0 : Int32)), .val (.int (4 : Int32)), .val (.int (1 : Int32)), .val (.int (2 : Int32)), .val (.long y2), .second] [(.int (lcmpW y2 w1))])
      refine own_st (fun _ kt => XS.ifNo X20.here hx rfl (hb hby own_d10_45) rfl ((if0 _ _).trans (tlt ((lw_lt _ _).mpr hc28_23 : (lcmpW y2 w1) < (0 : Int32))).2.1) kt) ?_
      show own_Rch p e below _ T20 (mkF m 48 #[.val (.ref b), .val (.int (0 : Int32)), .val (.int (4 : Int32)), .val (.int (1 : Int32)), .val (.int (2 : Int32)), .val (.long y2), .second] [])
      refine own_st (fun _ kt => XS.aloadN X20.here hx rfl (hb hby own_d10_48) rfl rfl  kt) ?_
      show own_Rch p e below _ T20 (mkF m 49 #[.val (.ref b), .val (.int (0 : Int32)), .val (.int (4 : Int32)), .val (.int (1 : Int32)), .val (.int (2 : Int32)), .val (.long y2), .second] [(.ref b)])
      refine own_st (fun _ kt => XS.iloadN X20.here hx rfl (hb hby own_d10_49) rfl  kt) ?_
      show own_Rch p e below _ T20 (mkF m 50 #[.val (.ref b), .val (.int (0 : Int32)), .val (.int (4 : Int32)), .val (.int (1 : Int32)), .val (.int (2 : Int32)), .val (.long y2), .second] [(.int (1 : Int32)), (.ref b)])
      refine own_st (fun _ kt => XS.iconst X20.here hx rfl (hb hby own_d10_50) kt) ?_
      show own_Rch p e below _ T20 (mkF m 51 #[.val (.ref b), .val (.int (0 : Int32)), .val (.int (4 : Int32)), .val (.int (1 : Int32)), .val (.int (2 : Int32)), .val (.long y2), .second] [(.int (1 : Int32)), (.int (1 : Int32)), (.ref b)])
      refine own_st (fun _ kt => XS.iadd X20.here hx rfl (hb hby own_d10_51) rfl kt) ?_
      show own_Rch p e below _ T20 (mkF m 52 #[.val (.ref b), .val (.int (0 : Int32)), .val (.int (4 : Int32)), .val (.int (1 : Int32)), .val (.int (2 : Int32)), .val (.long y2), .second] [(.int (2 : Int32)), (.ref b)])
      refine own_st (fun _ kt => XS.aloadN X20.here hx rfl (hb hby own_d10_52) rfl rfl  kt) ?_
      show own_Rch p e below _ T20 (mkF m 53 #[.val (.ref b), .val (.int (0 : Int32)), .val (.int (4 : Int32)), .val (.int (1 : Int32)), .val (.int (2 : Int32)), .val (.long y2), .second] [(.ref b), (.int (2 : Int32)), (.ref b)])
      refine own_st (fun _ kt => XS.iloadN X20.here hx rfl (hb hby own_d10_53) rfl  kt) ?_
      show own_Rch p e below _ T20 (mkF m 54 #[.val (.ref b), .val (.int (0 : Int32)), .val (.int (4 : Int32)), .val (.int (1 : Int32)), .val (.int (2 : Int32)), .val (.long y2), .second] [(.int (1 : Int32)), (.ref b), (.int (2 : Int32)), (.ref b)])
      obtain ⟨cl25, Ar25, q25, S25, M25, H25, G25⟩ := id VB2
      have hin25 : ¬ ((1 : Int32) < 0 ∨ cl25.slots.size ≤ ((1 : Int32)).toNatClampNeg) := inb_of S25 ⟨by decide, by decide⟩
      refine own_st (X20.laload hx (j := (1 : Int32)) (v := (.long w1)) (by rw [e20]; exact Ar25.1) (State.isArrayOf_alike (hZ).alike Ar25.2.1) Ar25.2.2 hin25 (H25.at hin25 rfl) (g := (mkF m 54 #[.val (.ref b), .val (.int (0 : Int32)), .val (.int (4 : Int32)), .val (.int (1 : Int32)), .val (.int (2 : Int32)), .val (.long y2), .second] [(.int (1 : Int32)), (.ref b), (.int (2 : Int32)), (.ref b)])) rfl rfl (hb hby own_d10_54)) ?_
      show own_Rch p e below _ T20 (mkF m 55 #[.val (.ref b), .val (.int (0 : Int32)), .val (.int (4 : Int32)), .val (.int (1 : Int32)), .val (.int (2 : Int32)), .val (.long y2), .second] [(.long w1), (.int (2 : Int32)), (.ref b)])
      obtain ⟨cl26, Ar26, q26, S26, M26, H26, G26⟩ := id VB2
      have hin26 : ¬ ((2 : Int32) < 0 ∨ cl26.slots.size ≤ ((2 : Int32)).toNatClampNeg) := inb_of S26 ⟨by decide, by decide⟩
      obtain ⟨T26, h26, X26, e26, W26, st26⟩ := stJ X20 hx hZ e20 Ar26 (j := (2 : Int32)) hin26 (g := (mkF m 55 #[.val (.ref b), .val (.int (0 : Int32)), .val (.int (4 : Int32)), .val (.int (1 : Int32)), .val (.int (2 : Int32)), .val (.long y2), .second] [(.long w1), (.int (2 : Int32)), (.ref b)])) rfl rfl (hb hby own_d10_55)
      have V26 := Arv.set Ar26 q26 S26 M26 H26 G26 rfl W26 2 rfl (Nat.le_of_ble_eq_true rfl)
      have V26s : Arv Z h26 b k .long (1024 : Int32) [(.long w0), (.long w1), (.long w1), (.long y3)] (.long (0 : Int64)) := V26
      have N26 := Fr.snoc X26 N20 gb
      refine own_st st26 ?_
      have O20_x26 := O20.wr W26 gb
      have K20_x26 := K20.wr W26 (Or.inl (List.mem_of_getElem? (i := 0) rfl))
      show own_Rch p e below _ T26 (mkF m 56 #[.val (.ref b), .val (.int (0 : Int32)), .val (.int (4 : Int32)), .val (.int (1 : Int32)), .val (.int (2 : Int32)), .val (.long y2), .second] [])
      refine own_st (fun _ kt => XS.goto X26.here hx rfl (pc0 := 56) (pc' := 31) rfl (hb hby own_d10_56) (by decide) (by decide) kt) ?_
      show own_Rch p e below _ T26 (mkF m 31 #[.val (.ref b), .val (.int (0 : Int32)), .val (.int (4 : Int32)), .val (.int (1 : Int32)), .val (.int (2 : Int32)), .val (.long y2), .second] [])
      refine own_st (fun _ kt => XS.iinc X26.here hx rfl (hb hby own_d10_31) rfl (l' := #[.val (.ref b), .val (.int (0 : Int32)), .val (.int (4 : Int32)), .val (.int (0 : Int32)), .val (.int (2 : Int32)), .val (.long y2), .second]) rfl kt) ?_
      show own_Rch p e below _ T26 (mkF m 34 #[.val (.ref b), .val (.int (0 : Int32)), .val (.int (4 : Int32)), .val (.int (0 : Int32)), .val (.int (2 : Int32)), .val (.long y2), .second] [])
      refine own_st (fun _ kt => XS.iloadN X26.here hx rfl (hb hby own_d10_34) rfl  kt) ?_
      show own_Rch p e below _ T26 (mkF m 35 #[.val (.ref b), .val (.int (0 : Int32)), .val (.int (4 : Int32)), .val (.int (0 : Int32)), .val (.int (2 : Int32)), .val (.long y2), .second] [(.int (0 : Int32))])
      refine own_st (fun _ kt => XS.iloadN X26.here hx rfl (hb hby own_d10_35) rfl  kt) ?_
      show own_Rch p e below _ T26 (mkF m 36 #[.val (.ref b), .val (.int (0 : Int32)), .val (.int (4 : Int32)), .val (.int (0 : Int32)), .val (.int (2 : Int32)), .val (.long y2), .second] [(.int (0 : Int32)), (.int (0 : Int32))])
      refine own_st (fun _ kt => XS.icmpNo X26.here hx rfl (hb hby own_d10_36) rfl (flt ((by decide) : ¬ ((0 : Int32) < (0 : Int32)))).1 kt) ?_
      show own_Rch p e below _ T26 (mkF m 39 #[.val (.ref b), .val (.int (0 : Int32)), .val (.int (4 : Int32)), .val (.int (0 : Int32)), .val (.int (2 : Int32)), .val (.long y2), .second] [])
      refine own_st (fun _ kt => XS.lload X26.here hx rfl (hb hby own_d10_39) rfl  kt) ?_
      show own_Rch p e below _ T26 (mkF m 41 #[.val (.ref b), .val (.int (0 : Int32)), .val (.int (4 : Int32)), .val (.int (0 : Int32)), .val (.int (2 : Int32)), .val (.long y2), .second] [(.long y2)])
      refine own_st (fun _ kt => XS.aloadN X26.here hx rfl (hb hby own_d10_41) rfl rfl  kt) ?_
      show own_Rch p e below _ T26 (mkF m 42 #[.val (.ref b), .val (.int (0 : Int32)), .val (.int (4 : Int32)), .val (.int (0 : Int32)), .val (.int (2 : Int32)), .val (.long y2), .second] [(.ref b), (.long y2)])
      refine own_st (fun _ kt => XS.iloadN X26.here hx rfl (hb hby own_d10_42) rfl  kt) ?_
      show own_Rch p e below _ T26 (mkF m 43 #[.val (.ref b), .val (.int (0 : Int32)), .val (.int (4 : Int32)), .val (.int (0 : Int32)), .val (.int (2 : Int32)), .val (.long y2), .second] [(.int (0 : Int32)), (.ref b), (.long y2)])
      obtain ⟨cl27, Ar27, q27, S27, M27, H27, G27⟩ := id V26s
      have hin27 : ¬ ((0 : Int32) < 0 ∨ cl27.slots.size ≤ ((0 : Int32)).toNatClampNeg) := inb_of S27 ⟨by decide, by decide⟩
      refine own_st (X26.laload hx (j := (0 : Int32)) (v := (.long w0)) (by rw [e26]; exact Ar27.1) (State.isArrayOf_alike (hZ).alike Ar27.2.1) Ar27.2.2 hin27 (H27.at hin27 rfl) (g := (mkF m 43 #[.val (.ref b), .val (.int (0 : Int32)), .val (.int (4 : Int32)), .val (.int (0 : Int32)), .val (.int (2 : Int32)), .val (.long y2), .second] [(.int (0 : Int32)), (.ref b), (.long y2)])) rfl rfl (hb hby own_d10_43)) ?_
      show own_Rch p e below _ T26 (mkF m 44 #[.val (.ref b), .val (.int (0 : Int32)), .val (.int (4 : Int32)), .val (.int (0 : Int32)), .val (.int (2 : Int32)), .val (.long y2), .second] [(.long w0), (.long y2)])
      refine own_st (fun _ kt => XS.lcmp X26.here hx rfl (hb hby own_d10_44) rfl kt) ?_
      show own_Rch p e below _ T26 (mkF m 45 #[.val (.ref b), .val (.int (0 : Int32)), .val (.int (4 : Int32)), .val (.int (0 : Int32)), .val (.int (2 : Int32)), .val (.long y2), .second] [(.int (lcmpW y2 w0))])
      by_cases hc45_28 : (lcmpW y2 w0) < (0 : Int32)
      · -- pc 45: True
        refine own_st (fun _ kt => XS.ifNo X26.here hx rfl (hb hby own_d10_45) rfl ((if0 _ _).trans (tlt hc45_28).2.1) kt) ?_
        rw [lw_lt] at hc45_28
        show own_Rch p e below _ T26 (mkF m 48 #[.val (.ref b), .val (.int (0 : Int32)), .val (.int (4 : Int32)), .val (.int (0 : Int32)), .val (.int (2 : Int32)), .val (.long y2), .second] [])
        refine own_st (fun _ kt => XS.aloadN X26.here hx rfl (hb hby own_d10_48) rfl rfl  kt) ?_
        show own_Rch p e below _ T26 (mkF m 49 #[.val (.ref b), .val (.int (0 : Int32)), .val (.int (4 : Int32)), .val (.int (0 : Int32)), .val (.int (2 : Int32)), .val (.long y2), .second] [(.ref b)])
        refine own_st (fun _ kt => XS.iloadN X26.here hx rfl (hb hby own_d10_49) rfl  kt) ?_
        show own_Rch p e below _ T26 (mkF m 50 #[.val (.ref b), .val (.int (0 : Int32)), .val (.int (4 : Int32)), .val (.int (0 : Int32)), .val (.int (2 : Int32)), .val (.long y2), .second] [(.int (0 : Int32)), (.ref b)])
        refine own_st (fun _ kt => XS.iconst X26.here hx rfl (hb hby own_d10_50) kt) ?_
        show own_Rch p e below _ T26 (mkF m 51 #[.val (.ref b), .val (.int (0 : Int32)), .val (.int (4 : Int32)), .val (.int (0 : Int32)), .val (.int (2 : Int32)), .val (.long y2), .second] [(.int (1 : Int32)), (.int (0 : Int32)), (.ref b)])
        refine own_st (fun _ kt => XS.iadd X26.here hx rfl (hb hby own_d10_51) rfl kt) ?_
        show own_Rch p e below _ T26 (mkF m 52 #[.val (.ref b), .val (.int (0 : Int32)), .val (.int (4 : Int32)), .val (.int (0 : Int32)), .val (.int (2 : Int32)), .val (.long y2), .second] [(.int (1 : Int32)), (.ref b)])
        refine own_st (fun _ kt => XS.aloadN X26.here hx rfl (hb hby own_d10_52) rfl rfl  kt) ?_
        show own_Rch p e below _ T26 (mkF m 53 #[.val (.ref b), .val (.int (0 : Int32)), .val (.int (4 : Int32)), .val (.int (0 : Int32)), .val (.int (2 : Int32)), .val (.long y2), .second] [(.ref b), (.int (1 : Int32)), (.ref b)])
        refine own_st (fun _ kt => XS.iloadN X26.here hx rfl (hb hby own_d10_53) rfl  kt) ?_
        show own_Rch p e below _ T26 (mkF m 54 #[.val (.ref b), .val (.int (0 : Int32)), .val (.int (4 : Int32)), .val (.int (0 : Int32)), .val (.int (2 : Int32)), .val (.long y2), .second] [(.int (0 : Int32)), (.ref b), (.int (1 : Int32)), (.ref b)])
        obtain ⟨cl29, Ar29, q29, S29, M29, H29, G29⟩ := id V26s
        have hin29 : ¬ ((0 : Int32) < 0 ∨ cl29.slots.size ≤ ((0 : Int32)).toNatClampNeg) := inb_of S29 ⟨by decide, by decide⟩
        refine own_st (X26.laload hx (j := (0 : Int32)) (v := (.long w0)) (by rw [e26]; exact Ar29.1) (State.isArrayOf_alike (hZ).alike Ar29.2.1) Ar29.2.2 hin29 (H29.at hin29 rfl) (g := (mkF m 54 #[.val (.ref b), .val (.int (0 : Int32)), .val (.int (4 : Int32)), .val (.int (0 : Int32)), .val (.int (2 : Int32)), .val (.long y2), .second] [(.int (0 : Int32)), (.ref b), (.int (1 : Int32)), (.ref b)])) rfl rfl (hb hby own_d10_54)) ?_
        show own_Rch p e below _ T26 (mkF m 55 #[.val (.ref b), .val (.int (0 : Int32)), .val (.int (4 : Int32)), .val (.int (0 : Int32)), .val (.int (2 : Int32)), .val (.long y2), .second] [(.long w0), (.int (1 : Int32)), (.ref b)])
        obtain ⟨cl30, Ar30, q30, S30, M30, H30, G30⟩ := id V26s
        have hin30 : ¬ ((1 : Int32) < 0 ∨ cl30.slots.size ≤ ((1 : Int32)).toNatClampNeg) := inb_of S30 ⟨by decide, by decide⟩
        obtain ⟨T30, h30, X30, e30, W30, st30⟩ := stJ X26 hx hZ e26 Ar30 (j := (1 : Int32)) hin30 (g := (mkF m 55 #[.val (.ref b), .val (.int (0 : Int32)), .val (.int (4 : Int32)), .val (.int (0 : Int32)), .val (.int (2 : Int32)), .val (.long y2), .second] [(.long w0), (.int (1 : Int32)), (.ref b)])) rfl rfl (hb hby own_d10_55)
        have V30 := Arv.set Ar30 q30 S30 M30 H30 G30 rfl W30 1 rfl (Nat.le_of_ble_eq_true rfl)
        have V30s : Arv Z h30 b k .long (1024 : Int32) [(.long w0), (.long w0), (.long w1), (.long y3)] (.long (0 : Int64)) := V30
        have N30 := Fr.snoc X30 N26 gb
        refine own_st st30 ?_
        have O20_x30 := O20_x26.wr W30 gb
        have K20_x30 := K20_x26.wr W30 (Or.inl (List.mem_of_getElem? (i := 0) rfl))
        show own_Rch p e below _ T30 (mkF m 56 #[.val (.ref b), .val (.int (0 : Int32)), .val (.int (4 : Int32)), .val (.int (0 : Int32)), .val (.int (2 : Int32)), .val (.long y2), .second] [])
        refine own_st (fun _ kt => XS.goto X30.here hx rfl (pc0 := 56) (pc' := 31) rfl (hb hby own_d10_56) (by decide) (by decide) kt) ?_
        show own_Rch p e below _ T30 (mkF m 31 #[.val (.ref b), .val (.int (0 : Int32)), .val (.int (4 : Int32)), .val (.int (0 : Int32)), .val (.int (2 : Int32)), .val (.long y2), .second] [])
        refine own_st (fun _ kt => XS.iinc X30.here hx rfl (hb hby own_d10_31) rfl (l' := #[.val (.ref b), .val (.int (0 : Int32)), .val (.int (4 : Int32)), .val (.int (-1 : Int32)), .val (.int (2 : Int32)), .val (.long y2), .second]) rfl kt) ?_
        show own_Rch p e below _ T30 (mkF m 34 #[.val (.ref b), .val (.int (0 : Int32)), .val (.int (4 : Int32)), .val (.int (-1 : Int32)), .val (.int (2 : Int32)), .val (.long y2), .second] [])
        refine own_st (fun _ kt => XS.iloadN X30.here hx rfl (hb hby own_d10_34) rfl  kt) ?_
        show own_Rch p e below _ T30 (mkF m 35 #[.val (.ref b), .val (.int (0 : Int32)), .val (.int (4 : Int32)), .val (.int (-1 : Int32)), .val (.int (2 : Int32)), .val (.long y2), .second] [(.int (-1 : Int32))])
        refine own_st (fun _ kt => XS.iloadN X30.here hx rfl (hb hby own_d10_35) rfl  kt) ?_
        show own_Rch p e below _ T30 (mkF m 36 #[.val (.ref b), .val (.int (0 : Int32)), .val (.int (4 : Int32)), .val (.int (-1 : Int32)), .val (.int (2 : Int32)), .val (.long y2), .second] [(.int (0 : Int32)), (.int (-1 : Int32))])
        refine own_st (fun _ kt => XS.icmpYes X30.here hx rfl (pc0 := 36) (pc' := 59) rfl (hb hby own_d10_36) rfl (tlt ((by decide) : (-1 : Int32) < (0 : Int32))).1 (by decide) (by decide) kt) ?_
        show own_Rch p e below _ T30 (mkF m 59 #[.val (.ref b), .val (.int (0 : Int32)), .val (.int (4 : Int32)), .val (.int (-1 : Int32)), .val (.int (2 : Int32)), .val (.long y2), .second] [])
        refine own_st (fun _ kt => XS.aloadN X30.here hx rfl (hb hby own_d10_59) rfl rfl  kt) ?_
        show own_Rch p e below _ T30 (mkF m 60 #[.val (.ref b), .val (.int (0 : Int32)), .val (.int (4 : Int32)), .val (.int (-1 : Int32)), .val (.int (2 : Int32)), .val (.long y2), .second] [(.ref b)])
        refine own_st (fun _ kt => XS.iloadN X30.here hx rfl (hb hby own_d10_60) rfl  kt) ?_
        show own_Rch p e below _ T30 (mkF m 61 #[.val (.ref b), .val (.int (0 : Int32)), .val (.int (4 : Int32)), .val (.int (-1 : Int32)), .val (.int (2 : Int32)), .val (.long y2), .second] [(.int (-1 : Int32)), (.ref b)])
        refine own_st (fun _ kt => XS.iconst X30.here hx rfl (hb hby own_d10_61) kt) ?_
        show own_Rch p e below _ T30 (mkF m 62 #[.val (.ref b), .val (.int (0 : Int32)), .val (.int (4 : Int32)), .val (.int (-1 : Int32)), .val (.int (2 : Int32)), .val (.long y2), .second] [(.int (1 : Int32)), (.int (-1 : Int32)), (.ref b)])
        refine own_st (fun _ kt => XS.iadd X30.here hx rfl (hb hby own_d10_62) rfl kt) ?_
        show own_Rch p e below _ T30 (mkF m 63 #[.val (.ref b), .val (.int (0 : Int32)), .val (.int (4 : Int32)), .val (.int (-1 : Int32)), .val (.int (2 : Int32)), .val (.long y2), .second] [(.int (0 : Int32)), (.ref b)])
        refine own_st (fun _ kt => XS.lload X30.here hx rfl (hb hby own_d10_63) rfl  kt) ?_
        show own_Rch p e below _ T30 (mkF m 65 #[.val (.ref b), .val (.int (0 : Int32)), .val (.int (4 : Int32)), .val (.int (-1 : Int32)), .val (.int (2 : Int32)), .val (.long y2), .second] [(.long y2), (.int (0 : Int32)), (.ref b)])
        obtain ⟨cl31, Ar31, q31, S31, M31, H31, G31⟩ := id V30s
        have hin31 : ¬ ((0 : Int32) < 0 ∨ cl31.slots.size ≤ ((0 : Int32)).toNatClampNeg) := inb_of S31 ⟨by decide, by decide⟩
        obtain ⟨T31, h31, X31, e31, W31, st31⟩ := stJ X30 hx hZ e30 Ar31 (j := (0 : Int32)) hin31 (g := (mkF m 65 #[.val (.ref b), .val (.int (0 : Int32)), .val (.int (4 : Int32)), .val (.int (-1 : Int32)), .val (.int (2 : Int32)), .val (.long y2), .second] [(.long y2), (.int (0 : Int32)), (.ref b)])) rfl rfl (hb hby own_d10_65)
        have V31 := Arv.set Ar31 q31 S31 M31 H31 G31 rfl W31 0 rfl (Nat.le_of_ble_eq_true rfl)
        have V31s : Arv Z h31 b k .long (1024 : Int32) [(.long y2), (.long w0), (.long w1), (.long y3)] (.long (0 : Int64)) := V31
        have N31 := Fr.snoc X31 N30 gb
        refine own_st st31 ?_
        have O20_x31 := O20_x30.wr W31 gb
        have K20_x31 := K20_x30.wr W31 (Or.inl (List.mem_of_getElem? (i := 0) rfl))
        show own_Rch p e below _ T31 (mkF m 66 #[.val (.ref b), .val (.int (0 : Int32)), .val (.int (4 : Int32)), .val (.int (-1 : Int32)), .val (.int (2 : Int32)), .val (.long y2), .second] [])
        refine own_st (fun _ kt => XS.goto X31.here hx rfl (pc0 := 66) (pc' := 3) rfl (hb hby own_d10_66) (by decide) (by decide) kt) ?_
        show own_Rch p e below _ T31 (mkF m 3 #[.val (.ref b), .val (.int (0 : Int32)), .val (.int (4 : Int32)), .val (.int (-1 : Int32)), .val (.int (2 : Int32)), .val (.long y2), .second] [])
        refine own_st (fun _ kt => XS.iinc X31.here hx rfl (hb hby own_d10_3) rfl (l' := #[.val (.ref b), .val (.int (0 : Int32)), .val (.int (4 : Int32)), .val (.int (-1 : Int32)), .val (.int (3 : Int32)), .val (.long y2), .second]) rfl kt) ?_
        exact c3 y2 w0 w1 y2 (-1 : Int32) _ _ X31 _ e31 N31 O20_x31 K20_x31 V31s (hI.trans (congrArg (own_isr [y3]) (by simp [own_insr, hc28_23, hc45_28] : own_insr y2 [w1, w0] = [w1, w0, y2])))
      · -- pc 45: False
        refine own_st (fun _ kt => XS.ifYes X26.here hx rfl (pc0 := 45) (pc' := 59) rfl (hb hby own_d10_45) rfl ((if0 _ _).trans (flt hc45_28).2.1) (by decide) (by decide) kt) ?_
        rw [lw_lt] at hc45_28
        show own_Rch p e below _ T26 (mkF m 59 #[.val (.ref b), .val (.int (0 : Int32)), .val (.int (4 : Int32)), .val (.int (0 : Int32)), .val (.int (2 : Int32)), .val (.long y2), .second] [])
        refine own_st (fun _ kt => XS.aloadN X26.here hx rfl (hb hby own_d10_59) rfl rfl  kt) ?_
        show own_Rch p e below _ T26 (mkF m 60 #[.val (.ref b), .val (.int (0 : Int32)), .val (.int (4 : Int32)), .val (.int (0 : Int32)), .val (.int (2 : Int32)), .val (.long y2), .second] [(.ref b)])
        refine own_st (fun _ kt => XS.iloadN X26.here hx rfl (hb hby own_d10_60) rfl  kt) ?_
        show own_Rch p e below _ T26 (mkF m 61 #[.val (.ref b), .val (.int (0 : Int32)), .val (.int (4 : Int32)), .val (.int (0 : Int32)), .val (.int (2 : Int32)), .val (.long y2), .second] [(.int (0 : Int32)), (.ref b)])
        refine own_st (fun _ kt => XS.iconst X26.here hx rfl (hb hby own_d10_61) kt) ?_
        show own_Rch p e below _ T26 (mkF m 62 #[.val (.ref b), .val (.int (0 : Int32)), .val (.int (4 : Int32)), .val (.int (0 : Int32)), .val (.int (2 : Int32)), .val (.long y2), .second] [(.int (1 : Int32)), (.int (0 : Int32)), (.ref b)])
        refine own_st (fun _ kt => XS.iadd X26.here hx rfl (hb hby own_d10_62) rfl kt) ?_
        show own_Rch p e below _ T26 (mkF m 63 #[.val (.ref b), .val (.int (0 : Int32)), .val (.int (4 : Int32)), .val (.int (0 : Int32)), .val (.int (2 : Int32)), .val (.long y2), .second] [(.int (1 : Int32)), (.ref b)])
        refine own_st (fun _ kt => XS.lload X26.here hx rfl (hb hby own_d10_63) rfl  kt) ?_
        show own_Rch p e below _ T26 (mkF m 65 #[.val (.ref b), .val (.int (0 : Int32)), .val (.int (4 : Int32)), .val (.int (0 : Int32)), .val (.int (2 : Int32)), .val (.long y2), .second] [(.long y2), (.int (1 : Int32)), (.ref b)])
        obtain ⟨cl32, Ar32, q32, S32, M32, H32, G32⟩ := id V26s
        have hin32 : ¬ ((1 : Int32) < 0 ∨ cl32.slots.size ≤ ((1 : Int32)).toNatClampNeg) := inb_of S32 ⟨by decide, by decide⟩
        obtain ⟨T32, h32, X32, e32, W32, st32⟩ := stJ X26 hx hZ e26 Ar32 (j := (1 : Int32)) hin32 (g := (mkF m 65 #[.val (.ref b), .val (.int (0 : Int32)), .val (.int (4 : Int32)), .val (.int (0 : Int32)), .val (.int (2 : Int32)), .val (.long y2), .second] [(.long y2), (.int (1 : Int32)), (.ref b)])) rfl rfl (hb hby own_d10_65)
        have V32 := Arv.set Ar32 q32 S32 M32 H32 G32 rfl W32 1 rfl (Nat.le_of_ble_eq_true rfl)
        have V32s : Arv Z h32 b k .long (1024 : Int32) [(.long w0), (.long y2), (.long w1), (.long y3)] (.long (0 : Int64)) := V32
        have N32 := Fr.snoc X32 N26 gb
        refine own_st st32 ?_
        have O20_x32 := O20_x26.wr W32 gb
        have K20_x32 := K20_x26.wr W32 (Or.inl (List.mem_of_getElem? (i := 0) rfl))
        show own_Rch p e below _ T32 (mkF m 66 #[.val (.ref b), .val (.int (0 : Int32)), .val (.int (4 : Int32)), .val (.int (0 : Int32)), .val (.int (2 : Int32)), .val (.long y2), .second] [])
        refine own_st (fun _ kt => XS.goto X32.here hx rfl (pc0 := 66) (pc' := 3) rfl (hb hby own_d10_66) (by decide) (by decide) kt) ?_
        show own_Rch p e below _ T32 (mkF m 3 #[.val (.ref b), .val (.int (0 : Int32)), .val (.int (4 : Int32)), .val (.int (0 : Int32)), .val (.int (2 : Int32)), .val (.long y2), .second] [])
        refine own_st (fun _ kt => XS.iinc X32.here hx rfl (hb hby own_d10_3) rfl (l' := #[.val (.ref b), .val (.int (0 : Int32)), .val (.int (4 : Int32)), .val (.int (0 : Int32)), .val (.int (3 : Int32)), .val (.long y2), .second]) rfl kt) ?_
        exact c3 w0 y2 w1 y2 (0 : Int32) _ _ X32 _ e32 N32 O20_x32 K20_x32 V32s (hI.trans (congrArg (own_isr [y3]) (by simp [own_insr, hc28_23, hc45_28] : own_insr y2 [w1, w0] = [w1, y2, w0])))
    · -- pc 28: False
      refine own_st (fun _ kt => XS.ifYes X20.here hx rfl (pc0 := 28) (pc' := 66) rfl (hb hby own_d10_28) rfl ((if0 _ _).trans (flt hc28_23).2.1) (by decide) (by decide) kt) ?_
      rw [lw_lt] at hc28_23
      show own_Rch p e below _ T20 (mkF m 66 #[.val (.ref b), .val (.int (0 : Int32)), .val (.int (4 : Int32)), .val (.int (2 : Int32)), .val (.int (2 : Int32)), .val (.long y2), .second] [])
      refine own_st (fun _ kt => XS.goto X20.here hx rfl (pc0 := 66) (pc' := 3) rfl (hb hby own_d10_66) (by decide) (by decide) kt) ?_
      show own_Rch p e below _ T20 (mkF m 3 #[.val (.ref b), .val (.int (0 : Int32)), .val (.int (4 : Int32)), .val (.int (2 : Int32)), .val (.int (2 : Int32)), .val (.long y2), .second] [])
      refine own_st (fun _ kt => XS.iinc X20.here hx rfl (hb hby own_d10_3) rfl (l' := #[.val (.ref b), .val (.int (0 : Int32)), .val (.int (4 : Int32)), .val (.int (2 : Int32)), .val (.int (3 : Int32)), .val (.long y2), .second]) rfl kt) ?_
      exact c3 w0 w1 y2 y2 (2 : Int32) _ _ X20 _ e20 N20 O20 K20 VB2 (hI.trans (congrArg (own_isr [y3]) (by simp [own_insr, hc28_23] : own_insr y2 [w1, w0] = [y2, w1, w0])))
  have c1 : ∀ (w0 : Int64) (T33 : State) (lc33 : List Loc) (X33 : Stand p l e (({ frames := 0, cells := 0, slots := 0, locals := 0 } : Room)) s m #[(.ref b), (.int (0 : Int32)), (.int (4 : Int32))] below meth c T33 lc33 0 0) (hv33 : Heap) (e33 : T33.heap = hv33) (N33 : Fr n0 lc33) (O33 : Old Z n0 hv33) (K33 : Keep h0 hv33 [b]) (VB1 : Arv Z hv33 b k .long (1024 : Int32) [(.long w0), (.long y1), (.long y2), (.long y3)] (.long (0 : Int64))) (hI : own_isort [y0, y1, y2, y3] = own_isr [y1, y2, y3] [w0]), own_Rch p e below (own_End s below (own_Q_own_ins4 Z b k y0 y1 y2 y3 h0 n0) (({ frames := 0, cells := 0, slots := 0, locals := 0 } : Room)).cells (({ frames := 0, cells := 0, slots := 0, locals := 0 } : Room)).slots) T33 (mkF m 6 #[.val (.ref b), .val (.int (0 : Int32)), .val (.int (4 : Int32)), .unset, .val (.int (1 : Int32)), .unset, .unset] []) := by
    intro w0 T33 lc33 X33 hv33 e33 N33 O33 K33 VB1 hI
    show own_Rch p e below _ T33 (mkF m 6 #[.val (.ref b), .val (.int (0 : Int32)), .val (.int (4 : Int32)), .unset, .val (.int (1 : Int32)), .unset, .unset] [])
    refine own_st (fun _ kt => XS.iload X33.here hx rfl (hb hby own_d10_6) rfl  kt) ?_
    show own_Rch p e below _ T33 (mkF m 8 #[.val (.ref b), .val (.int (0 : Int32)), .val (.int (4 : Int32)), .unset, .val (.int (1 : Int32)), .unset, .unset] [(.int (1 : Int32))])
    refine own_st (fun _ kt => XS.iloadN X33.here hx rfl (hb hby own_d10_8) rfl  kt) ?_
    show own_Rch p e below _ T33 (mkF m 9 #[.val (.ref b), .val (.int (0 : Int32)), .val (.int (4 : Int32)), .unset, .val (.int (1 : Int32)), .unset, .unset] [(.int (4 : Int32)), (.int (1 : Int32))])
    refine own_st (fun _ kt => XS.icmpNo X33.here hx rfl (hb hby own_d10_9) rfl (tlt ((by decide) : (1 : Int32) < (4 : Int32))).2.1 kt) ?_
    show own_Rch p e below _ T33 (mkF m 12 #[.val (.ref b), .val (.int (0 : Int32)), .val (.int (4 : Int32)), .unset, .val (.int (1 : Int32)), .unset, .unset] [])
    refine own_st (fun _ kt => XS.aloadN X33.here hx rfl (hb hby own_d10_12) rfl rfl  kt) ?_
    show own_Rch p e below _ T33 (mkF m 13 #[.val (.ref b), .val (.int (0 : Int32)), .val (.int (4 : Int32)), .unset, .val (.int (1 : Int32)), .unset, .unset] [(.ref b)])
    refine own_st (fun _ kt => XS.iload X33.here hx rfl (hb hby own_d10_13) rfl  kt) ?_
    show own_Rch p e below _ T33 (mkF m 15 #[.val (.ref b), .val (.int (0 : Int32)), .val (.int (4 : Int32)), .unset, .val (.int (1 : Int32)), .unset, .unset] [(.int (1 : Int32)), (.ref b)])
    refine own_st (fun _ kt => XS.dup X33.here hx rfl (hb hby own_d10_15) rfl rfl kt) ?_
    show own_Rch p e below _ T33 (mkF m 16 #[.val (.ref b), .val (.int (0 : Int32)), .val (.int (4 : Int32)), .unset, .val (.int (1 : Int32)), .unset, .unset] [(.int (1 : Int32)), (.int (1 : Int32)), (.ref b)])
    refine own_st (fun _ kt => XS.istoreN X33.here hx rfl (hb hby own_d10_16) rfl (l' := #[.val (.ref b), .val (.int (0 : Int32)), .val (.int (4 : Int32)), .val (.int (1 : Int32)), .val (.int (1 : Int32)), .unset, .unset]) rfl kt) ?_
    show own_Rch p e below _ T33 (mkF m 17 #[.val (.ref b), .val (.int (0 : Int32)), .val (.int (4 : Int32)), .val (.int (1 : Int32)), .val (.int (1 : Int32)), .unset, .unset] [(.int (1 : Int32)), (.ref b)])
    obtain ⟨cl34, Ar34, q34, S34, M34, H34, G34⟩ := id VB1
    have hin34 : ¬ ((1 : Int32) < 0 ∨ cl34.slots.size ≤ ((1 : Int32)).toNatClampNeg) := inb_of S34 ⟨by decide, by decide⟩
    refine own_st (X33.laload hx (j := (1 : Int32)) (v := (.long y1)) (by rw [e33]; exact Ar34.1) (State.isArrayOf_alike (hZ).alike Ar34.2.1) Ar34.2.2 hin34 (H34.at hin34 rfl) (g := (mkF m 17 #[.val (.ref b), .val (.int (0 : Int32)), .val (.int (4 : Int32)), .val (.int (1 : Int32)), .val (.int (1 : Int32)), .unset, .unset] [(.int (1 : Int32)), (.ref b)])) rfl rfl (hb hby own_d10_17)) ?_
    show own_Rch p e below _ T33 (mkF m 18 #[.val (.ref b), .val (.int (0 : Int32)), .val (.int (4 : Int32)), .val (.int (1 : Int32)), .val (.int (1 : Int32)), .unset, .unset] [(.long y1)])
    refine own_st (fun _ kt => XS.lstore X33.here hx rfl (hb hby own_d10_18) rfl (l' := #[.val (.ref b), .val (.int (0 : Int32)), .val (.int (4 : Int32)), .val (.int (1 : Int32)), .val (.int (1 : Int32)), .val (.long y1), .second]) rfl kt) ?_
    show own_Rch p e below _ T33 (mkF m 20 #[.val (.ref b), .val (.int (0 : Int32)), .val (.int (4 : Int32)), .val (.int (1 : Int32)), .val (.int (1 : Int32)), .val (.long y1), .second] [])
    refine own_st (fun _ kt => XS.lload X33.here hx rfl (hb hby own_d10_20) rfl  kt) ?_
    show own_Rch p e below _ T33 (mkF m 22 #[.val (.ref b), .val (.int (0 : Int32)), .val (.int (4 : Int32)), .val (.int (1 : Int32)), .val (.int (1 : Int32)), .val (.long y1), .second] [(.long y1)])
    refine own_st (fun _ kt => XS.aloadN X33.here hx rfl (hb hby own_d10_22) rfl rfl  kt) ?_
    show own_Rch p e below _ T33 (mkF m 23 #[.val (.ref b), .val (.int (0 : Int32)), .val (.int (4 : Int32)), .val (.int (1 : Int32)), .val (.int (1 : Int32)), .val (.long y1), .second] [(.ref b), (.long y1)])
    refine own_st (fun _ kt => XS.iloadN X33.here hx rfl (hb hby own_d10_23) rfl  kt) ?_
    show own_Rch p e below _ T33 (mkF m 24 #[.val (.ref b), .val (.int (0 : Int32)), .val (.int (4 : Int32)), .val (.int (1 : Int32)), .val (.int (1 : Int32)), .val (.long y1), .second] [(.int (1 : Int32)), (.ref b), (.long y1)])
    refine own_st (fun _ kt => XS.iconst X33.here hx rfl (hb hby own_d10_24) kt) ?_
    show own_Rch p e below _ T33 (mkF m 25 #[.val (.ref b), .val (.int (0 : Int32)), .val (.int (4 : Int32)), .val (.int (1 : Int32)), .val (.int (1 : Int32)), .val (.long y1), .second] [(.int (1 : Int32)), (.int (1 : Int32)), (.ref b), (.long y1)])
    refine own_st (fun _ kt => XS.isub X33.here hx rfl (hb hby own_d10_25) rfl kt) ?_
    show own_Rch p e below _ T33 (mkF m 26 #[.val (.ref b), .val (.int (0 : Int32)), .val (.int (4 : Int32)), .val (.int (1 : Int32)), .val (.int (1 : Int32)), .val (.long y1), .second] [(.int (0 : Int32)), (.ref b), (.long y1)])
    obtain ⟨cl35, Ar35, q35, S35, M35, H35, G35⟩ := id VB1
    have hin35 : ¬ ((0 : Int32) < 0 ∨ cl35.slots.size ≤ ((0 : Int32)).toNatClampNeg) := inb_of S35 ⟨by decide, by decide⟩
    refine own_st (X33.laload hx (j := (0 : Int32)) (v := (.long w0)) (by rw [e33]; exact Ar35.1) (State.isArrayOf_alike (hZ).alike Ar35.2.1) Ar35.2.2 hin35 (H35.at hin35 rfl) (g := (mkF m 26 #[.val (.ref b), .val (.int (0 : Int32)), .val (.int (4 : Int32)), .val (.int (1 : Int32)), .val (.int (1 : Int32)), .val (.long y1), .second] [(.int (0 : Int32)), (.ref b), (.long y1)])) rfl rfl (hb hby own_d10_26)) ?_
    show own_Rch p e below _ T33 (mkF m 27 #[.val (.ref b), .val (.int (0 : Int32)), .val (.int (4 : Int32)), .val (.int (1 : Int32)), .val (.int (1 : Int32)), .val (.long y1), .second] [(.long w0), (.long y1)])
    refine own_st (fun _ kt => XS.lcmp X33.here hx rfl (hb hby own_d10_27) rfl kt) ?_
    show own_Rch p e below _ T33 (mkF m 28 #[.val (.ref b), .val (.int (0 : Int32)), .val (.int (4 : Int32)), .val (.int (1 : Int32)), .val (.int (1 : Int32)), .val (.long y1), .second] [(.int (lcmpW y1 w0))])
    by_cases hc28_36 : (lcmpW y1 w0) < (0 : Int32)
    · -- pc 28: True
      refine own_st (fun _ kt => XS.ifNo X33.here hx rfl (hb hby own_d10_28) rfl ((if0 _ _).trans (tlt hc28_36).2.1) kt) ?_
      rw [lw_lt] at hc28_36
      show own_Rch p e below _ T33 (mkF m 31 #[.val (.ref b), .val (.int (0 : Int32)), .val (.int (4 : Int32)), .val (.int (1 : Int32)), .val (.int (1 : Int32)), .val (.long y1), .second] [])
      refine own_st (fun _ kt => XS.iinc X33.here hx rfl (hb hby own_d10_31) rfl (l' := #[.val (.ref b), .val (.int (0 : Int32)), .val (.int (4 : Int32)), .val (.int (0 : Int32)), .val (.int (1 : Int32)), .val (.long y1), .second]) rfl kt) ?_
      show own_Rch p e below _ T33 (mkF m 34 #[.val (.ref b), .val (.int (0 : Int32)), .val (.int (4 : Int32)), .val (.int (0 : Int32)), .val (.int (1 : Int32)), .val (.long y1), .second] [])
      refine own_st (fun _ kt => XS.iloadN X33.here hx rfl (hb hby own_d10_34) rfl  kt) ?_
      show own_Rch p e below _ T33 (mkF m 35 #[.val (.ref b), .val (.int (0 : Int32)), .val (.int (4 : Int32)), .val (.int (0 : Int32)), .val (.int (1 : Int32)), .val (.long y1), .second] [(.int (0 : Int32))])
      refine own_st (fun _ kt => XS.iloadN X33.here hx rfl (hb hby own_d10_35) rfl  kt) ?_
      show own_Rch p e below _ T33 (mkF m 36 #[.val (.ref b), .val (.int (0 : Int32)), .val (.int (4 : Int32)), .val (.int (0 : Int32)), .val (.int (1 : Int32)), .val (.long y1), .second] [(.int (0 : Int32)), (.int (0 : Int32))])
      refine own_st (fun _ kt => XS.icmpNo X33.here hx rfl (hb hby own_d10_36) rfl (flt ((by decide) : ¬ ((0 : Int32) < (0 : Int32)))).1 kt) ?_
      show own_Rch p e below _ T33 (mkF m 39 #[.val (.ref b), .val (.int (0 : Int32)), .val (.int (4 : Int32)), .val (.int (0 : Int32)), .val (.int (1 : Int32)), .val (.long y1), .second] [])
      refine own_st (fun _ kt => XS.lload X33.here hx rfl (hb hby own_d10_39) rfl  kt) ?_
      show own_Rch p e below _ T33 (mkF m 41 #[.val (.ref b), .val (.int (0 : Int32)), .val (.int (4 : Int32)), .val (.int (0 : Int32)), .val (.int (1 : Int32)), .val (.long y1), .second] [(.long y1)])
      refine own_st (fun _ kt => XS.aloadN X33.here hx rfl (hb hby own_d10_41) rfl rfl  kt) ?_
      show own_Rch p e below _ T33 (mkF m 42 #[.val (.ref b), .val (.int (0 : Int32)), .val (.int (4 : Int32)), .val (.int (0 : Int32)), .val (.int (1 : Int32)), .val (.long y1), .second] [(.ref b), (.long y1)])
      refine own_st (fun _ kt => XS.iloadN X33.here hx rfl (hb hby own_d10_42) rfl  kt) ?_
      show own_Rch p e below _ T33 (mkF m 43 #[.val (.ref b), .val (.int (0 : Int32)), .val (.int (4 : Int32)), .val (.int (0 : Int32)), .val (.int (1 : Int32)), .val (.long y1), .second] [(.int (0 : Int32)), (.ref b), (.long y1)])
      obtain ⟨cl37, Ar37, q37, S37, M37, H37, G37⟩ := id VB1
      have hin37 : ¬ ((0 : Int32) < 0 ∨ cl37.slots.size ≤ ((0 : Int32)).toNatClampNeg) := inb_of S37 ⟨by decide, by decide⟩
      refine own_st (X33.laload hx (j := (0 : Int32)) (v := (.long w0)) (by rw [e33]; exact Ar37.1) (State.isArrayOf_alike (hZ).alike Ar37.2.1) Ar37.2.2 hin37 (H37.at hin37 rfl) (g := (mkF m 43 #[.val (.ref b), .val (.int (0 : Int32)), .val (.int (4 : Int32)), .val (.int (0 : Int32)), .val (.int (1 : Int32)), .val (.long y1), .second] [(.int (0 : Int32)), (.ref b), (.long y1)])) rfl rfl (hb hby own_d10_43)) ?_
      show own_Rch p e below _ T33 (mkF m 44 #[.val (.ref b), .val (.int (0 : Int32)), .val (.int (4 : Int32)), .val (.int (0 : Int32)), .val (.int (1 : Int32)), .val (.long y1), .second] [(.long w0), (.long y1)])
      refine own_st (fun _ kt => XS.lcmp X33.here hx rfl (hb hby own_d10_44) rfl kt) ?_
      show own_Rch p e below _ T33 (mkF m 45 #[.val (.ref b), .val (.int (0 : Int32)), .val (.int (4 : Int32)), .val (.int (0 : Int32)), .val (.int (1 : Int32)), .val (.long y1), .second] [(.int (lcmpW y1 w0))])
      refine own_st (fun _ kt => XS.ifNo X33.here hx rfl (hb hby own_d10_45) rfl ((if0 _ _).trans (tlt ((lw_lt _ _).mpr hc28_36 : (lcmpW y1 w0) < (0 : Int32))).2.1) kt) ?_
      show own_Rch p e below _ T33 (mkF m 48 #[.val (.ref b), .val (.int (0 : Int32)), .val (.int (4 : Int32)), .val (.int (0 : Int32)), .val (.int (1 : Int32)), .val (.long y1), .second] [])
      refine own_st (fun _ kt => XS.aloadN X33.here hx rfl (hb hby own_d10_48) rfl rfl  kt) ?_
      show own_Rch p e below _ T33 (mkF m 49 #[.val (.ref b), .val (.int (0 : Int32)), .val (.int (4 : Int32)), .val (.int (0 : Int32)), .val (.int (1 : Int32)), .val (.long y1), .second] [(.ref b)])
      refine own_st (fun _ kt => XS.iloadN X33.here hx rfl (hb hby own_d10_49) rfl  kt) ?_
      show own_Rch p e below _ T33 (mkF m 50 #[.val (.ref b), .val (.int (0 : Int32)), .val (.int (4 : Int32)), .val (.int (0 : Int32)), .val (.int (1 : Int32)), .val (.long y1), .second] [(.int (0 : Int32)), (.ref b)])
      refine own_st (fun _ kt => XS.iconst X33.here hx rfl (hb hby own_d10_50) kt) ?_
      show own_Rch p e below _ T33 (mkF m 51 #[.val (.ref b), .val (.int (0 : Int32)), .val (.int (4 : Int32)), .val (.int (0 : Int32)), .val (.int (1 : Int32)), .val (.long y1), .second] [(.int (1 : Int32)), (.int (0 : Int32)), (.ref b)])
      refine own_st (fun _ kt => XS.iadd X33.here hx rfl (hb hby own_d10_51) rfl kt) ?_
      show own_Rch p e below _ T33 (mkF m 52 #[.val (.ref b), .val (.int (0 : Int32)), .val (.int (4 : Int32)), .val (.int (0 : Int32)), .val (.int (1 : Int32)), .val (.long y1), .second] [(.int (1 : Int32)), (.ref b)])
      refine own_st (fun _ kt => XS.aloadN X33.here hx rfl (hb hby own_d10_52) rfl rfl  kt) ?_
      show own_Rch p e below _ T33 (mkF m 53 #[.val (.ref b), .val (.int (0 : Int32)), .val (.int (4 : Int32)), .val (.int (0 : Int32)), .val (.int (1 : Int32)), .val (.long y1), .second] [(.ref b), (.int (1 : Int32)), (.ref b)])
      refine own_st (fun _ kt => XS.iloadN X33.here hx rfl (hb hby own_d10_53) rfl  kt) ?_
      show own_Rch p e below _ T33 (mkF m 54 #[.val (.ref b), .val (.int (0 : Int32)), .val (.int (4 : Int32)), .val (.int (0 : Int32)), .val (.int (1 : Int32)), .val (.long y1), .second] [(.int (0 : Int32)), (.ref b), (.int (1 : Int32)), (.ref b)])
      obtain ⟨cl38, Ar38, q38, S38, M38, H38, G38⟩ := id VB1
      have hin38 : ¬ ((0 : Int32) < 0 ∨ cl38.slots.size ≤ ((0 : Int32)).toNatClampNeg) := inb_of S38 ⟨by decide, by decide⟩
      refine own_st (X33.laload hx (j := (0 : Int32)) (v := (.long w0)) (by rw [e33]; exact Ar38.1) (State.isArrayOf_alike (hZ).alike Ar38.2.1) Ar38.2.2 hin38 (H38.at hin38 rfl) (g := (mkF m 54 #[.val (.ref b), .val (.int (0 : Int32)), .val (.int (4 : Int32)), .val (.int (0 : Int32)), .val (.int (1 : Int32)), .val (.long y1), .second] [(.int (0 : Int32)), (.ref b), (.int (1 : Int32)), (.ref b)])) rfl rfl (hb hby own_d10_54)) ?_
      show own_Rch p e below _ T33 (mkF m 55 #[.val (.ref b), .val (.int (0 : Int32)), .val (.int (4 : Int32)), .val (.int (0 : Int32)), .val (.int (1 : Int32)), .val (.long y1), .second] [(.long w0), (.int (1 : Int32)), (.ref b)])
      obtain ⟨cl39, Ar39, q39, S39, M39, H39, G39⟩ := id VB1
      have hin39 : ¬ ((1 : Int32) < 0 ∨ cl39.slots.size ≤ ((1 : Int32)).toNatClampNeg) := inb_of S39 ⟨by decide, by decide⟩
      obtain ⟨T39, h39, X39, e39, W39, st39⟩ := stJ X33 hx hZ e33 Ar39 (j := (1 : Int32)) hin39 (g := (mkF m 55 #[.val (.ref b), .val (.int (0 : Int32)), .val (.int (4 : Int32)), .val (.int (0 : Int32)), .val (.int (1 : Int32)), .val (.long y1), .second] [(.long w0), (.int (1 : Int32)), (.ref b)])) rfl rfl (hb hby own_d10_55)
      have V39 := Arv.set Ar39 q39 S39 M39 H39 G39 rfl W39 1 rfl (Nat.le_of_ble_eq_true rfl)
      have V39s : Arv Z h39 b k .long (1024 : Int32) [(.long w0), (.long w0), (.long y2), (.long y3)] (.long (0 : Int64)) := V39
      have N39 := Fr.snoc X39 N33 gb
      refine own_st st39 ?_
      have O33_x39 := O33.wr W39 gb
      have K33_x39 := K33.wr W39 (Or.inl (List.mem_of_getElem? (i := 0) rfl))
      show own_Rch p e below _ T39 (mkF m 56 #[.val (.ref b), .val (.int (0 : Int32)), .val (.int (4 : Int32)), .val (.int (0 : Int32)), .val (.int (1 : Int32)), .val (.long y1), .second] [])
      refine own_st (fun _ kt => XS.goto X39.here hx rfl (pc0 := 56) (pc' := 31) rfl (hb hby own_d10_56) (by decide) (by decide) kt) ?_
      show own_Rch p e below _ T39 (mkF m 31 #[.val (.ref b), .val (.int (0 : Int32)), .val (.int (4 : Int32)), .val (.int (0 : Int32)), .val (.int (1 : Int32)), .val (.long y1), .second] [])
      refine own_st (fun _ kt => XS.iinc X39.here hx rfl (hb hby own_d10_31) rfl (l' := #[.val (.ref b), .val (.int (0 : Int32)), .val (.int (4 : Int32)), .val (.int (-1 : Int32)), .val (.int (1 : Int32)), .val (.long y1), .second]) rfl kt) ?_
      show own_Rch p e below _ T39 (mkF m 34 #[.val (.ref b), .val (.int (0 : Int32)), .val (.int (4 : Int32)), .val (.int (-1 : Int32)), .val (.int (1 : Int32)), .val (.long y1), .second] [])
      refine own_st (fun _ kt => XS.iloadN X39.here hx rfl (hb hby own_d10_34) rfl  kt) ?_
      show own_Rch p e below _ T39 (mkF m 35 #[.val (.ref b), .val (.int (0 : Int32)), .val (.int (4 : Int32)), .val (.int (-1 : Int32)), .val (.int (1 : Int32)), .val (.long y1), .second] [(.int (-1 : Int32))])
      refine own_st (fun _ kt => XS.iloadN X39.here hx rfl (hb hby own_d10_35) rfl  kt) ?_
      show own_Rch p e below _ T39 (mkF m 36 #[.val (.ref b), .val (.int (0 : Int32)), .val (.int (4 : Int32)), .val (.int (-1 : Int32)), .val (.int (1 : Int32)), .val (.long y1), .second] [(.int (0 : Int32)), (.int (-1 : Int32))])
      refine own_st (fun _ kt => XS.icmpYes X39.here hx rfl (pc0 := 36) (pc' := 59) rfl (hb hby own_d10_36) rfl (tlt ((by decide) : (-1 : Int32) < (0 : Int32))).1 (by decide) (by decide) kt) ?_
      show own_Rch p e below _ T39 (mkF m 59 #[.val (.ref b), .val (.int (0 : Int32)), .val (.int (4 : Int32)), .val (.int (-1 : Int32)), .val (.int (1 : Int32)), .val (.long y1), .second] [])
      refine own_st (fun _ kt => XS.aloadN X39.here hx rfl (hb hby own_d10_59) rfl rfl  kt) ?_
      show own_Rch p e below _ T39 (mkF m 60 #[.val (.ref b), .val (.int (0 : Int32)), .val (.int (4 : Int32)), .val (.int (-1 : Int32)), .val (.int (1 : Int32)), .val (.long y1), .second] [(.ref b)])
      refine own_st (fun _ kt => XS.iloadN X39.here hx rfl (hb hby own_d10_60) rfl  kt) ?_
      show own_Rch p e below _ T39 (mkF m 61 #[.val (.ref b), .val (.int (0 : Int32)), .val (.int (4 : Int32)), .val (.int (-1 : Int32)), .val (.int (1 : Int32)), .val (.long y1), .second] [(.int (-1 : Int32)), (.ref b)])
      refine own_st (fun _ kt => XS.iconst X39.here hx rfl (hb hby own_d10_61) kt) ?_
      show own_Rch p e below _ T39 (mkF m 62 #[.val (.ref b), .val (.int (0 : Int32)), .val (.int (4 : Int32)), .val (.int (-1 : Int32)), .val (.int (1 : Int32)), .val (.long y1), .second] [(.int (1 : Int32)), (.int (-1 : Int32)), (.ref b)])
      refine own_st (fun _ kt => XS.iadd X39.here hx rfl (hb hby own_d10_62) rfl kt) ?_
      show own_Rch p e below _ T39 (mkF m 63 #[.val (.ref b), .val (.int (0 : Int32)), .val (.int (4 : Int32)), .val (.int (-1 : Int32)), .val (.int (1 : Int32)), .val (.long y1), .second] [(.int (0 : Int32)), (.ref b)])
      refine own_st (fun _ kt => XS.lload X39.here hx rfl (hb hby own_d10_63) rfl  kt) ?_
      show own_Rch p e below _ T39 (mkF m 65 #[.val (.ref b), .val (.int (0 : Int32)), .val (.int (4 : Int32)), .val (.int (-1 : Int32)), .val (.int (1 : Int32)), .val (.long y1), .second] [(.long y1), (.int (0 : Int32)), (.ref b)])
      obtain ⟨cl40, Ar40, q40, S40, M40, H40, G40⟩ := id V39s
      have hin40 : ¬ ((0 : Int32) < 0 ∨ cl40.slots.size ≤ ((0 : Int32)).toNatClampNeg) := inb_of S40 ⟨by decide, by decide⟩
      obtain ⟨T40, h40, X40, e40, W40, st40⟩ := stJ X39 hx hZ e39 Ar40 (j := (0 : Int32)) hin40 (g := (mkF m 65 #[.val (.ref b), .val (.int (0 : Int32)), .val (.int (4 : Int32)), .val (.int (-1 : Int32)), .val (.int (1 : Int32)), .val (.long y1), .second] [(.long y1), (.int (0 : Int32)), (.ref b)])) rfl rfl (hb hby own_d10_65)
      have V40 := Arv.set Ar40 q40 S40 M40 H40 G40 rfl W40 0 rfl (Nat.le_of_ble_eq_true rfl)
      have V40s : Arv Z h40 b k .long (1024 : Int32) [(.long y1), (.long w0), (.long y2), (.long y3)] (.long (0 : Int64)) := V40
      have N40 := Fr.snoc X40 N39 gb
      refine own_st st40 ?_
      have O33_x40 := O33_x39.wr W40 gb
      have K33_x40 := K33_x39.wr W40 (Or.inl (List.mem_of_getElem? (i := 0) rfl))
      show own_Rch p e below _ T40 (mkF m 66 #[.val (.ref b), .val (.int (0 : Int32)), .val (.int (4 : Int32)), .val (.int (-1 : Int32)), .val (.int (1 : Int32)), .val (.long y1), .second] [])
      refine own_st (fun _ kt => XS.goto X40.here hx rfl (pc0 := 66) (pc' := 3) rfl (hb hby own_d10_66) (by decide) (by decide) kt) ?_
      show own_Rch p e below _ T40 (mkF m 3 #[.val (.ref b), .val (.int (0 : Int32)), .val (.int (4 : Int32)), .val (.int (-1 : Int32)), .val (.int (1 : Int32)), .val (.long y1), .second] [])
      refine own_st (fun _ kt => XS.iinc X40.here hx rfl (hb hby own_d10_3) rfl (l' := #[.val (.ref b), .val (.int (0 : Int32)), .val (.int (4 : Int32)), .val (.int (-1 : Int32)), .val (.int (2 : Int32)), .val (.long y1), .second]) rfl kt) ?_
      exact c2 y1 w0 y1 (-1 : Int32) _ _ X40 _ e40 N40 O33_x40 K33_x40 V40s (hI.trans (congrArg (own_isr [y2, y3]) (by simp [own_insr, hc28_36] : own_insr y1 [w0] = [w0, y1])))
    · -- pc 28: False
      refine own_st (fun _ kt => XS.ifYes X33.here hx rfl (pc0 := 28) (pc' := 66) rfl (hb hby own_d10_28) rfl ((if0 _ _).trans (flt hc28_36).2.1) (by decide) (by decide) kt) ?_
      rw [lw_lt] at hc28_36
      show own_Rch p e below _ T33 (mkF m 66 #[.val (.ref b), .val (.int (0 : Int32)), .val (.int (4 : Int32)), .val (.int (1 : Int32)), .val (.int (1 : Int32)), .val (.long y1), .second] [])
      refine own_st (fun _ kt => XS.goto X33.here hx rfl (pc0 := 66) (pc' := 3) rfl (hb hby own_d10_66) (by decide) (by decide) kt) ?_
      show own_Rch p e below _ T33 (mkF m 3 #[.val (.ref b), .val (.int (0 : Int32)), .val (.int (4 : Int32)), .val (.int (1 : Int32)), .val (.int (1 : Int32)), .val (.long y1), .second] [])
      refine own_st (fun _ kt => XS.iinc X33.here hx rfl (hb hby own_d10_3) rfl (l' := #[.val (.ref b), .val (.int (0 : Int32)), .val (.int (4 : Int32)), .val (.int (1 : Int32)), .val (.int (2 : Int32)), .val (.long y1), .second]) rfl kt) ?_
      exact c2 w0 y1 y1 (1 : Int32) _ _ X33 _ e33 N33 O33 K33 VB1 (hI.trans (congrArg (own_isr [y2, y3]) (by simp [own_insr, hc28_36] : own_insr y1 [w0] = [y1, w0])))
  show own_Rch p e below _ s₁ (mkF m 0 #[.val (.ref b), .val (.int (0 : Int32)), .val (.int (4 : Int32)), .unset, .unset, .unset, .unset] [])
  refine own_st (fun _ kt => XS.iloadN X0.here hx rfl (hb hby own_d10_0) rfl  kt) ?_
  show own_Rch p e below _ s₁ (mkF m 1 #[.val (.ref b), .val (.int (0 : Int32)), .val (.int (4 : Int32)), .unset, .unset, .unset, .unset] [(.int (0 : Int32))])
  refine own_st (fun _ kt => XS.istore X0.here hx rfl (hb hby own_d10_1) rfl (l' := #[.val (.ref b), .val (.int (0 : Int32)), .val (.int (4 : Int32)), .unset, .val (.int (0 : Int32)), .unset, .unset]) rfl kt) ?_
  show own_Rch p e below _ s₁ (mkF m 3 #[.val (.ref b), .val (.int (0 : Int32)), .val (.int (4 : Int32)), .unset, .val (.int (0 : Int32)), .unset, .unset] [])
  refine own_st (fun _ kt => XS.iinc X0.here hx rfl (hb hby own_d10_3) rfl (l' := #[.val (.ref b), .val (.int (0 : Int32)), .val (.int (4 : Int32)), .unset, .val (.int (1 : Int32)), .unset, .unset]) rfl kt) ?_
  exact c1 y0 _ _ X0 _ e0 N0 O0 K0 VB rfl
def own_Q_own_qa4 (Z : State) (b : Addr) (k : ClassId) (y0 : Int64) (y1 : Int64) (y2 : Int64) (y3 : Int64) (h0 : Heap) (n0 : Nat) (v : Option Value) (h : Heap) (L : List Loc) : Prop := ∃ w0 w1 w2 w3, own_isort [y0, y1, y2, y3] = [w0, w1, w2, w3] ∧ v = none ∧ Fr n0 L ∧ Keep h0 h [b] ∧ Arv Z h b k .long (1024 : Int32) [(.long w0), (.long w1), (.long w2), (.long w3)] (.long (0 : Int64))
set_option maxRecDepth 65536 in
set_option maxHeartbeats 40000000 in
theorem own_qa4 (l : Launch) (Z : State) (a0 : Array Value) (hw : ∀ d ∈ tables_1, d.before a0 Z = true) (ws : List Jvm.Cond) (b : Addr) (k : ClassId) (y0 : Int64) (y1 : Int64) (y2 : Int64) (y3 : Int64) (h0 : Heap) (n0 : Nat) (O0 : Old Z n0 h0) (VB : Arv Z h0 b k .long (1024 : Int32) [(.long y0), (.long y1), (.long y2), (.long y3)] (.long (0 : Int64))) (gb : n0 ≤ b) :
    MetFree l (⟨"java/util/DualPivotQuicksort", "sort", "(Ljava/util/DualPivotQuicksort$Sorter;[JIII)V"⟩ : MethodName) (head1 (Jvm.Cond.code (⟨"java/util/DualPivotQuicksort", "sort", "(Ljava/util/DualPivotQuicksort$Sorter;[JIII)V"⟩ : MethodName) jdk_2529_method_13_code 25 none :: ws) ({ frames := 1, cells := 0, slots := 0, locals := 18 } : Room)) (fun args_ U => args_ = #[.null, (.ref b), (.int (0 : Int32)), (.int (0 : Int32)), (.int (4 : Int32))] ∧ Z.Warmed39 U.vm ∧ U.heap = h0) (fun _ _ _ _ _ => True) (fun _ U o U' => ∃ v L, o = .returned v ∧ (own_Q_own_qa4 Z b k y0 y1 y2 y3 h0 n0) v U'.heap L ∧ FrameEnd U o U' L ({ frames := 1, cells := 0, slots := 0, locals := 18 } : Room).cells ({ frames := 1, cells := 0, slots := 0, locals := 18 } : Room).slots) := by
  refine MetFree.of_bodySF (plainFor_of_name own_pn3) hisR ?_
  intro p e s m args below meth c s₁ Bd hml0 hP hK
  obtain ⟨rfl, hZ, hh⟩ := hP
  have hx := Bd.exec
  have hby := Bd.bytes
  have hml : c.maxLocals = 25 := hml0
  have hown : s.vm.findClass "java/util/DualPivotQuicksort" = some m.cls := findClass_of_methodNamed Bd.named
  have hnm := (name_of_methodNamed Bd.named Bd.method).1
  have X0 : Stand p l e ({ frames := 1, cells := 0, slots := 0, locals := 18 } : Room) s m #[.null, (.ref b), (.int (0 : Int32)), (.int (0 : Int32)), (.int (4 : Int32))] below meth c s₁ [] 0 0 := Stand.of_body Bd
  have e0 : s₁.heap = h0 := by rw [← hh, Bd.state]; rfl
  have N0 := Fr.nil n0
  refine own_close (s := s) (Q := (own_Q_own_qa4 Z b k y0 y1 y2 y3 h0 n0)) (C := (({ frames := 1, cells := 0, slots := 0, locals := 18 } : Room)).cells) (N := (({ frames := 1, cells := 0, slots := 0, locals := 18 } : Room)).slots) (own_st (fun _ kt => castTop (own_ef9n0 m b (0 : Int32) (0 : Int32) (4 : Int32)) kt) ?_)
  have K0 := Keep.refl h0 [b]
  show own_Rch p e below _ s₁ (mkF m 0 #[.val .null, .val (.ref b), .val (.int (0 : Int32)), .val (.int (0 : Int32)), .val (.int (4 : Int32)), .unset, .unset, .unset, .unset, .unset, .unset, .unset, .unset, .unset, .unset, .unset, .unset, .unset, .unset, .unset, .unset, .unset, .unset, .unset, .unset] [])
  refine own_st (fun _ kt => XS.iload X0.here hx rfl (hb hby own_d9_0) rfl  kt) ?_
  show own_Rch p e below _ s₁ (mkF m 2 #[.val .null, .val (.ref b), .val (.int (0 : Int32)), .val (.int (0 : Int32)), .val (.int (4 : Int32)), .unset, .unset, .unset, .unset, .unset, .unset, .unset, .unset, .unset, .unset, .unset, .unset, .unset, .unset, .unset, .unset, .unset, .unset, .unset, .unset] [(.int (4 : Int32))])
  refine own_st (fun _ kt => XS.iconst X0.here hx rfl (hb hby own_d9_2) kt) ?_
  show own_Rch p e below _ s₁ (mkF m 3 #[.val .null, .val (.ref b), .val (.int (0 : Int32)), .val (.int (0 : Int32)), .val (.int (4 : Int32)), .unset, .unset, .unset, .unset, .unset, .unset, .unset, .unset, .unset, .unset, .unset, .unset, .unset, .unset, .unset, .unset, .unset, .unset, .unset, .unset] [(.int (1 : Int32)), (.int (4 : Int32))])
  refine own_st (fun _ kt => XS.isub X0.here hx rfl (hb hby own_d9_3) rfl kt) ?_
  show own_Rch p e below _ s₁ (mkF m 4 #[.val .null, .val (.ref b), .val (.int (0 : Int32)), .val (.int (0 : Int32)), .val (.int (4 : Int32)), .unset, .unset, .unset, .unset, .unset, .unset, .unset, .unset, .unset, .unset, .unset, .unset, .unset, .unset, .unset, .unset, .unset, .unset, .unset, .unset] [(.int (3 : Int32))])
  refine own_st (fun _ kt => XS.istore X0.here hx rfl (hb hby own_d9_4) rfl (l' := #[.val .null, .val (.ref b), .val (.int (0 : Int32)), .val (.int (0 : Int32)), .val (.int (4 : Int32)), .val (.int (3 : Int32)), .unset, .unset, .unset, .unset, .unset, .unset, .unset, .unset, .unset, .unset, .unset, .unset, .unset, .unset, .unset, .unset, .unset, .unset, .unset]) rfl kt) ?_
  show own_Rch p e below _ s₁ (mkF m 6 #[.val .null, .val (.ref b), .val (.int (0 : Int32)), .val (.int (0 : Int32)), .val (.int (4 : Int32)), .val (.int (3 : Int32)), .unset, .unset, .unset, .unset, .unset, .unset, .unset, .unset, .unset, .unset, .unset, .unset, .unset, .unset, .unset, .unset, .unset, .unset, .unset] [])
  refine own_st (fun _ kt => XS.iload X0.here hx rfl (hb hby own_d9_6) rfl  kt) ?_
  show own_Rch p e below _ s₁ (mkF m 8 #[.val .null, .val (.ref b), .val (.int (0 : Int32)), .val (.int (0 : Int32)), .val (.int (4 : Int32)), .val (.int (3 : Int32)), .unset, .unset, .unset, .unset, .unset, .unset, .unset, .unset, .unset, .unset, .unset, .unset, .unset, .unset, .unset, .unset, .unset, .unset, .unset] [(.int (4 : Int32))])
  refine own_st (fun _ kt => XS.iloadN X0.here hx rfl (hb hby own_d9_8) rfl  kt) ?_
  show own_Rch p e below _ s₁ (mkF m 9 #[.val .null, .val (.ref b), .val (.int (0 : Int32)), .val (.int (0 : Int32)), .val (.int (4 : Int32)), .val (.int (3 : Int32)), .unset, .unset, .unset, .unset, .unset, .unset, .unset, .unset, .unset, .unset, .unset, .unset, .unset, .unset, .unset, .unset, .unset, .unset, .unset] [(.int (0 : Int32)), (.int (4 : Int32))])
  refine own_st (fun _ kt => XS.isub X0.here hx rfl (hb hby own_d9_9) rfl kt) ?_
  show own_Rch p e below _ s₁ (mkF m 10 #[.val .null, .val (.ref b), .val (.int (0 : Int32)), .val (.int (0 : Int32)), .val (.int (4 : Int32)), .val (.int (3 : Int32)), .unset, .unset, .unset, .unset, .unset, .unset, .unset, .unset, .unset, .unset, .unset, .unset, .unset, .unset, .unset, .unset, .unset, .unset, .unset] [(.int (4 : Int32))])
  refine own_st (fun _ kt => XS.istore X0.here hx rfl (hb hby own_d9_10) rfl (l' := #[.val .null, .val (.ref b), .val (.int (0 : Int32)), .val (.int (0 : Int32)), .val (.int (4 : Int32)), .val (.int (3 : Int32)), .val (.int (4 : Int32)), .unset, .unset, .unset, .unset, .unset, .unset, .unset, .unset, .unset, .unset, .unset, .unset, .unset, .unset, .unset, .unset, .unset, .unset]) rfl kt) ?_
  show own_Rch p e below _ s₁ (mkF m 12 #[.val .null, .val (.ref b), .val (.int (0 : Int32)), .val (.int (0 : Int32)), .val (.int (4 : Int32)), .val (.int (3 : Int32)), .val (.int (4 : Int32)), .unset, .unset, .unset, .unset, .unset, .unset, .unset, .unset, .unset, .unset, .unset, .unset, .unset, .unset, .unset, .unset, .unset, .unset] [])
  refine own_st (fun _ kt => XS.iload X0.here hx rfl (hb hby own_d9_12) rfl  kt) ?_
  show own_Rch p e below _ s₁ (mkF m 14 #[.val .null, .val (.ref b), .val (.int (0 : Int32)), .val (.int (0 : Int32)), .val (.int (4 : Int32)), .val (.int (3 : Int32)), .val (.int (4 : Int32)), .unset, .unset, .unset, .unset, .unset, .unset, .unset, .unset, .unset, .unset, .unset, .unset, .unset, .unset, .unset, .unset, .unset, .unset] [(.int (4 : Int32))])
  refine own_st (fun _ kt => XS.bipush X0.here hx rfl (hb hby own_d9_14) kt) ?_
  show own_Rch p e below _ s₁ (mkF m 16 #[.val .null, .val (.ref b), .val (.int (0 : Int32)), .val (.int (0 : Int32)), .val (.int (4 : Int32)), .val (.int (3 : Int32)), .val (.int (4 : Int32)), .unset, .unset, .unset, .unset, .unset, .unset, .unset, .unset, .unset, .unset, .unset, .unset, .unset, .unset, .unset, .unset, .unset, .unset] [(.int (65 : Int32)), (.int (4 : Int32))])
  refine own_st (fun _ kt => XS.iloadN X0.here hx rfl (hb hby own_d9_16) rfl  kt) ?_
  show own_Rch p e below _ s₁ (mkF m 17 #[.val .null, .val (.ref b), .val (.int (0 : Int32)), .val (.int (0 : Int32)), .val (.int (4 : Int32)), .val (.int (3 : Int32)), .val (.int (4 : Int32)), .unset, .unset, .unset, .unset, .unset, .unset, .unset, .unset, .unset, .unset, .unset, .unset, .unset, .unset, .unset, .unset, .unset, .unset] [(.int (0 : Int32)), (.int (65 : Int32)), (.int (4 : Int32))])
  refine own_st (fun _ kt => XS.iadd X0.here hx rfl (hb hby own_d9_17) rfl kt) ?_
  show own_Rch p e below _ s₁ (mkF m 18 #[.val .null, .val (.ref b), .val (.int (0 : Int32)), .val (.int (0 : Int32)), .val (.int (4 : Int32)), .val (.int (3 : Int32)), .val (.int (4 : Int32)), .unset, .unset, .unset, .unset, .unset, .unset, .unset, .unset, .unset, .unset, .unset, .unset, .unset, .unset, .unset, .unset, .unset, .unset] [(.int (65 : Int32)), (.int (4 : Int32))])
  refine own_st (fun _ kt => XS.icmpNo X0.here hx rfl (hb hby own_d9_18) rfl (tlt ((by decide) : (4 : Int32) < (65 : Int32))).2.1 kt) ?_
  show own_Rch p e below _ s₁ (mkF m 21 #[.val .null, .val (.ref b), .val (.int (0 : Int32)), .val (.int (0 : Int32)), .val (.int (4 : Int32)), .val (.int (3 : Int32)), .val (.int (4 : Int32)), .unset, .unset, .unset, .unset, .unset, .unset, .unset, .unset, .unset, .unset, .unset, .unset, .unset, .unset, .unset, .unset, .unset, .unset] [])
  refine own_st (fun _ kt => XS.iloadN X0.here hx rfl (hb hby own_d9_21) rfl  kt) ?_
  show own_Rch p e below _ s₁ (mkF m 22 #[.val .null, .val (.ref b), .val (.int (0 : Int32)), .val (.int (0 : Int32)), .val (.int (4 : Int32)), .val (.int (3 : Int32)), .val (.int (4 : Int32)), .unset, .unset, .unset, .unset, .unset, .unset, .unset, .unset, .unset, .unset, .unset, .unset, .unset, .unset, .unset, .unset, .unset, .unset] [(.int (0 : Int32))])
  refine own_st (fun _ kt => XS.iconst X0.here hx rfl (hb hby own_d9_22) kt) ?_
  show own_Rch p e below _ s₁ (mkF m 23 #[.val .null, .val (.ref b), .val (.int (0 : Int32)), .val (.int (0 : Int32)), .val (.int (4 : Int32)), .val (.int (3 : Int32)), .val (.int (4 : Int32)), .unset, .unset, .unset, .unset, .unset, .unset, .unset, .unset, .unset, .unset, .unset, .unset, .unset, .unset, .unset, .unset, .unset, .unset] [(.int (1 : Int32)), (.int (0 : Int32))])
  refine own_st (fun _ kt => XS.iand X0.here hx rfl (hb hby own_d9_23) rfl kt) ?_
  show own_Rch p e below _ s₁ (mkF m 24 #[.val .null, .val (.ref b), .val (.int (0 : Int32)), .val (.int (0 : Int32)), .val (.int (4 : Int32)), .val (.int (3 : Int32)), .val (.int (4 : Int32)), .unset, .unset, .unset, .unset, .unset, .unset, .unset, .unset, .unset, .unset, .unset, .unset, .unset, .unset, .unset, .unset, .unset, .unset] [(.int (0 : Int32))])
  refine own_st (fun _ kt => XS.ifYes X0.here hx rfl (pc0 := 24) (pc' := 46) rfl (hb hby own_d9_24) rfl ((if0 _ _).trans (flt ((by decide) : ¬ ((0 : Int32) < (0 : Int32)))).2.2.2) (by decide) (by decide) kt) ?_
  show own_Rch p e below _ s₁ (mkF m 46 #[.val .null, .val (.ref b), .val (.int (0 : Int32)), .val (.int (0 : Int32)), .val (.int (4 : Int32)), .val (.int (3 : Int32)), .val (.int (4 : Int32)), .unset, .unset, .unset, .unset, .unset, .unset, .unset, .unset, .unset, .unset, .unset, .unset, .unset, .unset, .unset, .unset, .unset, .unset] [])
  refine own_st (fun _ kt => XS.iload X0.here hx rfl (hb hby own_d9_46) rfl  kt) ?_
  show own_Rch p e below _ s₁ (mkF m 48 #[.val .null, .val (.ref b), .val (.int (0 : Int32)), .val (.int (0 : Int32)), .val (.int (4 : Int32)), .val (.int (3 : Int32)), .val (.int (4 : Int32)), .unset, .unset, .unset, .unset, .unset, .unset, .unset, .unset, .unset, .unset, .unset, .unset, .unset, .unset, .unset, .unset, .unset, .unset] [(.int (4 : Int32))])
  refine own_st (fun _ kt => XS.bipush X0.here hx rfl (hb hby own_d9_48) kt) ?_
  show own_Rch p e below _ s₁ (mkF m 50 #[.val .null, .val (.ref b), .val (.int (0 : Int32)), .val (.int (0 : Int32)), .val (.int (4 : Int32)), .val (.int (3 : Int32)), .val (.int (4 : Int32)), .unset, .unset, .unset, .unset, .unset, .unset, .unset, .unset, .unset, .unset, .unset, .unset, .unset, .unset, .unset, .unset, .unset, .unset] [(.int (44 : Int32)), (.int (4 : Int32))])
  refine own_st (fun _ kt => XS.icmpNo X0.here hx rfl (hb hby own_d9_50) rfl (tlt ((by decide) : (4 : Int32) < (44 : Int32))).2.1 kt) ?_
  show own_Rch p e below _ s₁ (mkF m 53 #[.val .null, .val (.ref b), .val (.int (0 : Int32)), .val (.int (0 : Int32)), .val (.int (4 : Int32)), .val (.int (3 : Int32)), .val (.int (4 : Int32)), .unset, .unset, .unset, .unset, .unset, .unset, .unset, .unset, .unset, .unset, .unset, .unset, .unset, .unset, .unset, .unset, .unset, .unset] [])
  refine own_st (fun _ kt => XS.aloadN X0.here hx rfl (hb hby own_d9_53) rfl rfl  kt) ?_
  show own_Rch p e below _ s₁ (mkF m 54 #[.val .null, .val (.ref b), .val (.int (0 : Int32)), .val (.int (0 : Int32)), .val (.int (4 : Int32)), .val (.int (3 : Int32)), .val (.int (4 : Int32)), .unset, .unset, .unset, .unset, .unset, .unset, .unset, .unset, .unset, .unset, .unset, .unset, .unset, .unset, .unset, .unset, .unset, .unset] [(.ref b)])
  refine own_st (fun _ kt => XS.iloadN X0.here hx rfl (hb hby own_d9_54) rfl  kt) ?_
  show own_Rch p e below _ s₁ (mkF m 55 #[.val .null, .val (.ref b), .val (.int (0 : Int32)), .val (.int (0 : Int32)), .val (.int (4 : Int32)), .val (.int (3 : Int32)), .val (.int (4 : Int32)), .unset, .unset, .unset, .unset, .unset, .unset, .unset, .unset, .unset, .unset, .unset, .unset, .unset, .unset, .unset, .unset, .unset, .unset] [(.int (0 : Int32)), (.ref b)])
  refine own_st (fun _ kt => XS.iload X0.here hx rfl (hb hby own_d9_55) rfl  kt) ?_
  show own_Rch p e below _ s₁ (mkF m 57 #[.val .null, .val (.ref b), .val (.int (0 : Int32)), .val (.int (0 : Int32)), .val (.int (4 : Int32)), .val (.int (3 : Int32)), .val (.int (4 : Int32)), .unset, .unset, .unset, .unset, .unset, .unset, .unset, .unset, .unset, .unset, .unset, .unset, .unset, .unset, .unset, .unset, .unset, .unset] [(.int (4 : Int32)), (.int (0 : Int32)), (.ref b)])
  obtain ⟨_, _, ⟨T1, L1, k1, n1⟩, -, X1, ⟨Lc1, hQ1, l1, y1, z1⟩, st1⟩ := Jvm.LawKit.callS X0 hx (y := (⟨"java/util/DualPivotQuicksort", "insertionSort", "([JII)V"⟩ : MethodName)) hown (mvT hZ (hw _ (List.mem_of_getElem? (i := 44) rfl))) (mvT hZ (hw _ (List.mem_of_getElem? (i := 45) rfl))) (mvT hZ (hw _ (List.mem_of_getElem? (i := 39) rfl))) (mvT hZ (hw _ (List.mem_of_getElem? (i := 46) rfl))) (by decide) (backOf (W := 0) (own_ins4 l Z a0 hw [] b k y0 y1 y2 y3 h0 n0 O0 VB gb) hZ (hw _ (List.mem_of_getElem? (i := 46) rfl)) (hw _ (List.mem_of_getElem? (i := 39) rfl)) (by decide) (by decide)) (g := (mkF m 57 #[.val .null, .val (.ref b), .val (.int (0 : Int32)), .val (.int (0 : Int32)), .val (.int (4 : Int32)), .val (.int (3 : Int32)), .val (.int (4 : Int32)), .unset, .unset, .unset, .unset, .unset, .unset, .unset, .unset, .unset, .unset, .unset, .unset, .unset, .unset, .unset, .unset, .unset, .unset] [(.int (4 : Int32)), (.int (0 : Int32)), (.ref b)])) rfl (by rw [hml]; rfl) (argsL := [(.ref b), (.int (0 : Int32)), (.int (4 : Int32))]) (rest := []) (lenOf own_pd1 rfl) rfl (by show 2 * 0 + _ ≤ _; exact Nat.le_of_eq rfl) (hb hby own_d9_57) (fun _ _ => ⟨rfl, e0, (by decide : 0 + 0 ≤ _), (by decide : 0 + 0 ≤ _)⟩)
  dsimp only [Pt.U, Pt.locs, Pt.cells, Pt.slots] at X1 l1 y1 z1 st1 hQ1
  subst l1 y1 z1
  obtain ⟨w0, w1, w2, w3, hs1, rfl, N1q, K1, Vb1⟩ := hQ1
  have N1 := Fr.app N0 N1q
  refine own_st st1 ?_
  have O0_x1 := O0.keep K1 (allS gb all0)
  have K0_x1 := K0.trans K1 (allS (Or.inl (List.mem_of_getElem? (i := 0) rfl)) all0)
  show own_Rch p e below _ T1 (mkF m 60 #[.val .null, .val (.ref b), .val (.int (0 : Int32)), .val (.int (0 : Int32)), .val (.int (4 : Int32)), .val (.int (3 : Int32)), .val (.int (4 : Int32)), .unset, .unset, .unset, .unset, .unset, .unset, .unset, .unset, .unset, .unset, .unset, .unset, .unset, .unset, .unset, .unset, .unset, .unset] [])
  refine own_retV X1 hx Bd.notSynchronized Bd.returns (hb hby own_d9_60) (by decide) (by decide) ?_
  exact ⟨_, _, _, _, hs1, rfl, N1, K0_x1, Vb1⟩
def own_Q_own_qb4 (Z : State) (b : Addr) (k : ClassId) (y0 : Int64) (y1 : Int64) (y2 : Int64) (y3 : Int64) (h0 : Heap) (n0 : Nat) (v : Option Value) (h : Heap) (L : List Loc) : Prop := ∃ w0 w1 w2 w3, own_isort [y0, y1, y2, y3] = [w0, w1, w2, w3] ∧ v = none ∧ Fr n0 L ∧ Keep h0 h [b] ∧ Arv Z h b k .long (1024 : Int32) [(.long w0), (.long w1), (.long w2), (.long w3)] (.long (0 : Int64))
set_option maxRecDepth 65536 in
set_option maxHeartbeats 40000000 in
theorem own_qb4 (l : Launch) (Z : State) (a0 : Array Value) (hw : ∀ d ∈ tables_1, d.before a0 Z = true) (ws : List Jvm.Cond) (b : Addr) (k : ClassId) (y0 : Int64) (y1 : Int64) (y2 : Int64) (y3 : Int64) (h0 : Heap) (n0 : Nat) (O0 : Old Z n0 h0) (VB : Arv Z h0 b k .long (1024 : Int32) [(.long y0), (.long y1), (.long y2), (.long y3)] (.long (0 : Int64))) (gb : n0 ≤ b) :
    MetFree l (⟨"java/util/DualPivotQuicksort", "sort", "([JIII)V"⟩ : MethodName) (head1 (Jvm.Cond.code (⟨"java/util/DualPivotQuicksort", "sort", "([JIII)V"⟩ : MethodName) jdk_2529_method_12_code 7 none :: ws) ({ frames := 2, cells := 0, slots := 0, locals := 54 } : Room)) (fun args_ U => args_ = #[(.ref b), (.int (0 : Int32)), (.int (0 : Int32)), (.int (4 : Int32))] ∧ Z.Warmed39 U.vm ∧ U.heap = h0) (fun _ _ _ _ _ => True) (fun _ U o U' => ∃ v L, o = .returned v ∧ (own_Q_own_qb4 Z b k y0 y1 y2 y3 h0 n0) v U'.heap L ∧ FrameEnd U o U' L ({ frames := 2, cells := 0, slots := 0, locals := 54 } : Room).cells ({ frames := 2, cells := 0, slots := 0, locals := 54 } : Room).slots) := by
  refine MetFree.of_bodySF (plainFor_of_name own_pn3) hisR ?_
  intro p e s m args below meth c s₁ Bd hml0 hP hK
  obtain ⟨rfl, hZ, hh⟩ := hP
  have hx := Bd.exec
  have hby := Bd.bytes
  have hml : c.maxLocals = 7 := hml0
  have hown : s.vm.findClass "java/util/DualPivotQuicksort" = some m.cls := findClass_of_methodNamed Bd.named
  have hnm := (name_of_methodNamed Bd.named Bd.method).1
  have X0 : Stand p l e ({ frames := 2, cells := 0, slots := 0, locals := 54 } : Room) s m #[(.ref b), (.int (0 : Int32)), (.int (0 : Int32)), (.int (4 : Int32))] below meth c s₁ [] 0 0 := Stand.of_body Bd
  have e0 : s₁.heap = h0 := by rw [← hh, Bd.state]; rfl
  have N0 := Fr.nil n0
  refine own_close (s := s) (Q := (own_Q_own_qb4 Z b k y0 y1 y2 y3 h0 n0)) (C := (({ frames := 2, cells := 0, slots := 0, locals := 54 } : Room)).cells) (N := (({ frames := 2, cells := 0, slots := 0, locals := 54 } : Room)).slots) (own_st (fun _ kt => castTop (own_ef8 m b (0 : Int32) (0 : Int32) (4 : Int32)) kt) ?_)
  have K0 := Keep.refl h0 [b]
  show own_Rch p e below _ s₁ (mkF m 0 #[.val (.ref b), .val (.int (0 : Int32)), .val (.int (0 : Int32)), .val (.int (4 : Int32)), .unset, .unset, .unset] [])
  refine own_st (fun _ kt => XS.iloadN X0.here hx rfl (hb hby own_d8_0) rfl  kt) ?_
  show own_Rch p e below _ s₁ (mkF m 1 #[.val (.ref b), .val (.int (0 : Int32)), .val (.int (0 : Int32)), .val (.int (4 : Int32)), .unset, .unset, .unset] [(.int (4 : Int32))])
  refine own_st (fun _ kt => XS.iloadN X0.here hx rfl (hb hby own_d8_1) rfl  kt) ?_
  show own_Rch p e below _ s₁ (mkF m 2 #[.val (.ref b), .val (.int (0 : Int32)), .val (.int (0 : Int32)), .val (.int (4 : Int32)), .unset, .unset, .unset] [(.int (0 : Int32)), (.int (4 : Int32))])
  refine own_st (fun _ kt => XS.isub X0.here hx rfl (hb hby own_d8_2) rfl kt) ?_
  show own_Rch p e below _ s₁ (mkF m 3 #[.val (.ref b), .val (.int (0 : Int32)), .val (.int (0 : Int32)), .val (.int (4 : Int32)), .unset, .unset, .unset] [(.int (4 : Int32))])
  refine own_st (fun _ kt => XS.istore X0.here hx rfl (hb hby own_d8_3) rfl (l' := #[.val (.ref b), .val (.int (0 : Int32)), .val (.int (0 : Int32)), .val (.int (4 : Int32)), .val (.int (4 : Int32)), .unset, .unset]) rfl kt) ?_
  show own_Rch p e below _ s₁ (mkF m 5 #[.val (.ref b), .val (.int (0 : Int32)), .val (.int (0 : Int32)), .val (.int (4 : Int32)), .val (.int (4 : Int32)), .unset, .unset] [])
  refine own_st (fun _ kt => XS.iloadN X0.here hx rfl (hb hby own_d8_5) rfl  kt) ?_
  show own_Rch p e below _ s₁ (mkF m 6 #[.val (.ref b), .val (.int (0 : Int32)), .val (.int (0 : Int32)), .val (.int (4 : Int32)), .val (.int (4 : Int32)), .unset, .unset] [(.int (0 : Int32))])
  refine own_st (fun _ kt => XS.iconst X0.here hx rfl (hb hby own_d8_6) kt) ?_
  show own_Rch p e below _ s₁ (mkF m 7 #[.val (.ref b), .val (.int (0 : Int32)), .val (.int (0 : Int32)), .val (.int (4 : Int32)), .val (.int (4 : Int32)), .unset, .unset] [(.int (1 : Int32)), (.int (0 : Int32))])
  refine own_st (fun _ kt => XS.icmpYes X0.here hx rfl (pc0 := 7) (pc' := 68) rfl (hb hby own_d8_7) rfl (flt ((by decide) : ¬ ((1 : Int32) < (0 : Int32)))).2.2.2 (by decide) (by decide) kt) ?_
  show own_Rch p e below _ s₁ (mkF m 68 #[.val (.ref b), .val (.int (0 : Int32)), .val (.int (0 : Int32)), .val (.int (4 : Int32)), .val (.int (4 : Int32)), .unset, .unset] [])
  refine own_st (fun _ kt => XS.aconstNull X0.here hx rfl (hb hby own_d8_68) kt) ?_
  show own_Rch p e below _ s₁ (mkF m 69 #[.val (.ref b), .val (.int (0 : Int32)), .val (.int (0 : Int32)), .val (.int (4 : Int32)), .val (.int (4 : Int32)), .unset, .unset] [.null])
  refine own_st (fun _ kt => XS.aloadN X0.here hx rfl (hb hby own_d8_69) rfl rfl  kt) ?_
  show own_Rch p e below _ s₁ (mkF m 70 #[.val (.ref b), .val (.int (0 : Int32)), .val (.int (0 : Int32)), .val (.int (4 : Int32)), .val (.int (4 : Int32)), .unset, .unset] [(.ref b), .null])
  refine own_st (fun _ kt => XS.iconst X0.here hx rfl (hb hby own_d8_70) kt) ?_
  show own_Rch p e below _ s₁ (mkF m 71 #[.val (.ref b), .val (.int (0 : Int32)), .val (.int (0 : Int32)), .val (.int (4 : Int32)), .val (.int (4 : Int32)), .unset, .unset] [(.int (0 : Int32)), (.ref b), .null])
  refine own_st (fun _ kt => XS.iloadN X0.here hx rfl (hb hby own_d8_71) rfl  kt) ?_
  show own_Rch p e below _ s₁ (mkF m 72 #[.val (.ref b), .val (.int (0 : Int32)), .val (.int (0 : Int32)), .val (.int (4 : Int32)), .val (.int (4 : Int32)), .unset, .unset] [(.int (0 : Int32)), (.int (0 : Int32)), (.ref b), .null])
  refine own_st (fun _ kt => XS.iloadN X0.here hx rfl (hb hby own_d8_72) rfl  kt) ?_
  show own_Rch p e below _ s₁ (mkF m 73 #[.val (.ref b), .val (.int (0 : Int32)), .val (.int (0 : Int32)), .val (.int (4 : Int32)), .val (.int (4 : Int32)), .unset, .unset] [(.int (4 : Int32)), (.int (0 : Int32)), (.int (0 : Int32)), (.ref b), .null])
  obtain ⟨_, _, ⟨T1, L1, k1, n1⟩, -, X1, ⟨Lc1, hQ1, l1, y1, z1⟩, st1⟩ := Jvm.LawKit.callS X0 hx (y := (⟨"java/util/DualPivotQuicksort", "sort", "(Ljava/util/DualPivotQuicksort$Sorter;[JIII)V"⟩ : MethodName)) hown (mvT hZ (hw _ (List.mem_of_getElem? (i := 41) rfl))) (mvT hZ (hw _ (List.mem_of_getElem? (i := 42) rfl))) (mvT hZ (hw _ (List.mem_of_getElem? (i := 39) rfl))) (mvT hZ (hw _ (List.mem_of_getElem? (i := 43) rfl))) (by decide) (backOf (W := 0) (own_qa4 l Z a0 hw [] b k y0 y1 y2 y3 h0 n0 O0 VB gb) hZ (hw _ (List.mem_of_getElem? (i := 43) rfl)) (hw _ (List.mem_of_getElem? (i := 39) rfl)) (by decide) (by decide)) (g := (mkF m 73 #[.val (.ref b), .val (.int (0 : Int32)), .val (.int (0 : Int32)), .val (.int (4 : Int32)), .val (.int (4 : Int32)), .unset, .unset] [(.int (4 : Int32)), (.int (0 : Int32)), (.int (0 : Int32)), (.ref b), .null])) rfl (by rw [hml]; rfl) (argsL := [.null, (.ref b), (.int (0 : Int32)), (.int (0 : Int32)), (.int (4 : Int32))]) (rest := []) (lenOf own_pd2 rfl) rfl (by show 2 * 0 + _ ≤ _; exact Nat.le_of_eq rfl) (hb hby own_d8_73) (fun _ _ => ⟨rfl, e0, (by decide : 0 + 0 ≤ _), (by decide : 0 + 0 ≤ _)⟩)
  dsimp only [Pt.U, Pt.locs, Pt.cells, Pt.slots] at X1 l1 y1 z1 st1 hQ1
  subst l1 y1 z1
  obtain ⟨w0, w1, w2, w3, hs1, rfl, N1q, K1, Vb1⟩ := hQ1
  have N1 := Fr.app N0 N1q
  refine own_st st1 ?_
  have O0_x1 := O0.keep K1 (allS gb all0)
  have K0_x1 := K0.trans K1 (allS (Or.inl (List.mem_of_getElem? (i := 0) rfl)) all0)
  show own_Rch p e below _ T1 (mkF m 76 #[.val (.ref b), .val (.int (0 : Int32)), .val (.int (0 : Int32)), .val (.int (4 : Int32)), .val (.int (4 : Int32)), .unset, .unset] [])
  refine own_retV X1 hx Bd.notSynchronized Bd.returns (hb hby own_d8_76) (by decide) (by decide) ?_
  exact ⟨_, _, _, _, hs1, rfl, N1, K0_x1, Vb1⟩
def own_Q_own_as4 (Z : State) (b : Addr) (k : ClassId) (y0 : Int64) (y1 : Int64) (y2 : Int64) (y3 : Int64) (h0 : Heap) (n0 : Nat) (v : Option Value) (h : Heap) (L : List Loc) : Prop := ∃ w0 w1 w2 w3, own_isort [y0, y1, y2, y3] = [w0, w1, w2, w3] ∧ v = none ∧ Fr n0 L ∧ Keep h0 h [b] ∧ Arv Z h b k .long (1024 : Int32) [(.long w0), (.long w1), (.long w2), (.long w3)] (.long (0 : Int64))
set_option maxRecDepth 65536 in
set_option maxHeartbeats 40000000 in
theorem own_as4 (l : Launch) (Z : State) (a0 : Array Value) (hw : ∀ d ∈ tables_1, d.before a0 Z = true) (ws : List Jvm.Cond) (b : Addr) (k : ClassId) (y0 : Int64) (y1 : Int64) (y2 : Int64) (y3 : Int64) (h0 : Heap) (n0 : Nat) (O0 : Old Z n0 h0) (VB : Arv Z h0 b k .long (1024 : Int32) [(.long y0), (.long y1), (.long y2), (.long y3)] (.long (0 : Int64))) (gb : n0 ≤ b) :
    MetFree l (⟨"java/util/Arrays", "sort", "([JII)V"⟩ : MethodName) (head1 (Jvm.Cond.code (⟨"java/util/Arrays", "sort", "([JII)V"⟩ : MethodName) jdk_65_method_5_code 3 none :: ws) ({ frames := 3, cells := 0, slots := 0, locals := 72 } : Room)) (fun args_ U => args_ = #[(.ref b), (.int (0 : Int32)), (.int (4 : Int32))] ∧ Z.Warmed39 U.vm ∧ U.heap = h0) (fun _ _ _ _ _ => True) (fun _ U o U' => ∃ v L, o = .returned v ∧ (own_Q_own_as4 Z b k y0 y1 y2 y3 h0 n0) v U'.heap L ∧ FrameEnd U o U' L ({ frames := 3, cells := 0, slots := 0, locals := 72 } : Room).cells ({ frames := 3, cells := 0, slots := 0, locals := 72 } : Room).slots) := by
  refine MetFree.of_bodySF (plainFor_of_name own_pn2) hisR ?_
  intro p e s m args below meth c s₁ Bd hml0 hP hK
  obtain ⟨rfl, hZ, hh⟩ := hP
  have hx := Bd.exec
  have hby := Bd.bytes
  have hml : c.maxLocals = 3 := hml0
  have hown : s.vm.findClass "java/util/Arrays" = some m.cls := findClass_of_methodNamed Bd.named
  have hnm := (name_of_methodNamed Bd.named Bd.method).1
  have X0 : Stand p l e ({ frames := 3, cells := 0, slots := 0, locals := 72 } : Room) s m #[(.ref b), (.int (0 : Int32)), (.int (4 : Int32))] below meth c s₁ [] 0 0 := Stand.of_body Bd
  have e0 : s₁.heap = h0 := by rw [← hh, Bd.state]; rfl
  have N0 := Fr.nil n0
  refine own_close (s := s) (Q := (own_Q_own_as4 Z b k y0 y1 y2 y3 h0 n0)) (C := (({ frames := 3, cells := 0, slots := 0, locals := 72 } : Room)).cells) (N := (({ frames := 3, cells := 0, slots := 0, locals := 72 } : Room)).slots) (own_st (fun _ kt => castTop (own_ef6 m b (0 : Int32) (4 : Int32)) kt) ?_)
  have K0 := Keep.refl h0 [b]
  show own_Rch p e below _ s₁ (mkF m 0 #[.val (.ref b), .val (.int (0 : Int32)), .val (.int (4 : Int32))] [])
  refine own_st (fun _ kt => XS.aloadN X0.here hx rfl (hb hby own_d6_0) rfl rfl  kt) ?_
  show own_Rch p e below _ s₁ (mkF m 1 #[.val (.ref b), .val (.int (0 : Int32)), .val (.int (4 : Int32))] [(.ref b)])
  obtain ⟨cl1, Ar1, -, S1, M1, -, -⟩ := id VB
  refine own_st (X0.arraylength hx (by rw [e0]; exact Ar1.1) (State.isArrayOf_alike (hZ).alike Ar1.2.1) (g := (mkF m 1 #[.val (.ref b), .val (.int (0 : Int32)), .val (.int (4 : Int32))] [(.ref b)])) rfl rfl (hb hby own_d6_1)) ?_
  rw [len_of S1 M1]
  show own_Rch p e below _ s₁ (mkF m 2 #[.val (.ref b), .val (.int (0 : Int32)), .val (.int (4 : Int32))] [(.int (1024 : Int32))])
  refine own_st (fun _ kt => XS.iloadN X0.here hx rfl (hb hby own_d6_2) rfl  kt) ?_
  show own_Rch p e below _ s₁ (mkF m 3 #[.val (.ref b), .val (.int (0 : Int32)), .val (.int (4 : Int32))] [(.int (0 : Int32)), (.int (1024 : Int32))])
  refine own_st (fun _ kt => XS.iloadN X0.here hx rfl (hb hby own_d6_3) rfl  kt) ?_
  show own_Rch p e below _ s₁ (mkF m 4 #[.val (.ref b), .val (.int (0 : Int32)), .val (.int (4 : Int32))] [(.int (4 : Int32)), (.int (0 : Int32)), (.int (1024 : Int32))])
  obtain ⟨_, _, ⟨T2, L2, k2, n2⟩, -, X2, ⟨Lc2, hQ2, l2, y2, z2⟩, st2⟩ := Jvm.LawKit.callS X0 hx (y := (⟨"java/util/Arrays", "rangeCheck", "(III)V"⟩ : MethodName)) hown (mvT hZ (hw _ (List.mem_of_getElem? (i := 34) rfl))) (mvT hZ (hw _ (List.mem_of_getElem? (i := 35) rfl))) (mvT hZ (hw _ (List.mem_of_getElem? (i := 32) rfl))) (mvT hZ (hw _ (List.mem_of_getElem? (i := 36) rfl))) (by decide) (backOf (W := 0) (own_rc l Z a0 hw [] (1024 : Int32) (0 : Int32) (4 : Int32) h0 n0 O0 (by decide) (by decide) (by decide)) hZ (hw _ (List.mem_of_getElem? (i := 36) rfl)) (hw _ (List.mem_of_getElem? (i := 32) rfl)) (by decide) (by decide)) (g := (mkF m 4 #[.val (.ref b), .val (.int (0 : Int32)), .val (.int (4 : Int32))] [(.int (4 : Int32)), (.int (0 : Int32)), (.int (1024 : Int32))])) rfl (by rw [hml]; rfl) (argsL := [(.int (1024 : Int32)), (.int (0 : Int32)), (.int (4 : Int32))]) (rest := []) (lenOf own_pd3 rfl) rfl (by show 2 * 0 + _ ≤ _; exact Nat.le_of_eq rfl) (hb hby own_d6_4) (fun _ _ => ⟨rfl, e0, (by decide : 0 + 0 ≤ _), (by decide : 0 + 0 ≤ _)⟩)
  dsimp only [Pt.U, Pt.locs, Pt.cells, Pt.slots] at X2 l2 y2 z2 st2 hQ2
  subst l2 y2 z2
  obtain ⟨rfl, N2q, hh2⟩ := hQ2
  have N2 := Fr.app N0 N2q
  refine own_st st2 ?_
  show own_Rch p e below _ T2 (mkF m 7 #[.val (.ref b), .val (.int (0 : Int32)), .val (.int (4 : Int32))] [])
  refine own_st (fun _ kt => XS.aloadN X2.here hx rfl (hb hby own_d6_7) rfl rfl  kt) ?_
  show own_Rch p e below _ T2 (mkF m 8 #[.val (.ref b), .val (.int (0 : Int32)), .val (.int (4 : Int32))] [(.ref b)])
  refine own_st (fun _ kt => XS.iconst X2.here hx rfl (hb hby own_d6_8) kt) ?_
  show own_Rch p e below _ T2 (mkF m 9 #[.val (.ref b), .val (.int (0 : Int32)), .val (.int (4 : Int32))] [(.int (0 : Int32)), (.ref b)])
  refine own_st (fun _ kt => XS.iloadN X2.here hx rfl (hb hby own_d6_9) rfl  kt) ?_
  show own_Rch p e below _ T2 (mkF m 10 #[.val (.ref b), .val (.int (0 : Int32)), .val (.int (4 : Int32))] [(.int (0 : Int32)), (.int (0 : Int32)), (.ref b)])
  refine own_st (fun _ kt => XS.iloadN X2.here hx rfl (hb hby own_d6_10) rfl  kt) ?_
  show own_Rch p e below _ T2 (mkF m 11 #[.val (.ref b), .val (.int (0 : Int32)), .val (.int (4 : Int32))] [(.int (4 : Int32)), (.int (0 : Int32)), (.int (0 : Int32)), (.ref b)])
  obtain ⟨_, _, ⟨T3, L3, k3, n3⟩, -, X3, ⟨Lc3, hQ3, l3, y3, z3⟩, st3⟩ := Jvm.LawKit.callS X2 hx (y := (⟨"java/util/DualPivotQuicksort", "sort", "([JIII)V"⟩ : MethodName)) hown (mvT hZ (hw _ (List.mem_of_getElem? (i := 37) rfl))) (mvT hZ (hw _ (List.mem_of_getElem? (i := 38) rfl))) (mvT hZ (hw _ (List.mem_of_getElem? (i := 39) rfl))) (mvT hZ (hw _ (List.mem_of_getElem? (i := 40) rfl))) (by decide) (backOf (W := 0) (own_qb4 l Z a0 hw [] b k y0 y1 y2 y3 h0 n0 O0 VB gb) hZ (hw _ (List.mem_of_getElem? (i := 40) rfl)) (hw _ (List.mem_of_getElem? (i := 39) rfl)) (by decide) (by decide)) (g := (mkF m 11 #[.val (.ref b), .val (.int (0 : Int32)), .val (.int (4 : Int32))] [(.int (4 : Int32)), (.int (0 : Int32)), (.int (0 : Int32)), (.ref b)])) rfl (by rw [hml]; rfl) (argsL := [(.ref b), (.int (0 : Int32)), (.int (0 : Int32)), (.int (4 : Int32))]) (rest := []) (lenOf own_pd4 rfl) rfl (by show 2 * 0 + _ ≤ _; exact Nat.le_of_eq rfl) (hb hby own_d6_11) (fun _ _ => ⟨rfl, hh2, (by decide : 0 + 0 ≤ _), (by decide : 0 + 0 ≤ _)⟩)
  dsimp only [Pt.U, Pt.locs, Pt.cells, Pt.slots] at X3 l3 y3 z3 st3 hQ3
  subst l3 y3 z3
  obtain ⟨w0, w1, w2, w3, hs3, rfl, N3q, K3, Vb3⟩ := hQ3
  have N3 := Fr.app N2 N3q
  refine own_st st3 ?_
  have O0_x3 := O0.keep K3 (allS gb all0)
  have K0_x3 := K0.trans K3 (allS (Or.inl (List.mem_of_getElem? (i := 0) rfl)) all0)
  show own_Rch p e below _ T3 (mkF m 14 #[.val (.ref b), .val (.int (0 : Int32)), .val (.int (4 : Int32))] [])
  refine own_retV X3 hx Bd.notSynchronized Bd.returns (hb hby own_d6_14) (by decide) (by decide) ?_
  exact ⟨_, _, _, _, hs3, rfl, N3, K0_x3, Vb3⟩
theorem own_ef4 (m : MethodId) (x0 : Addr) (x1 : Int32) : entryFrame m #[(.ref x0), (.int x1)] 4 = mkF m 0 #[.val (.ref x0), .val (.int x1), .unset, .unset] [] := by first | (simp [entryFrame, mkF, argsToLocals, Value.category]; done) | rfl
theorem own_d4_0 : decode prog_8_method_5_code 0 = .ok (.aload_n 0, 1) := by decide +kernel
theorem own_d4_1 : decode prog_8_method_5_code 1 = .ok (.invokevirtual 39, 3) := by decide +kernel
theorem own_pd5 : parseMethodDescriptor "()V" = some ⟨[], none⟩ := by decide +kernel
theorem own_d4_4 : decode prog_8_method_5_code 4 = .ok (.aload_n 0, 1) := by decide +kernel
theorem own_d4_5 : decode prog_8_method_5_code 5 = .ok (.getfield 13, 3) := by decide +kernel
theorem own_d4_8 : decode prog_8_method_5_code 8 = .ok (.ifCond .ne 20, 3) := by decide +kernel
theorem own_d4_11 : decode prog_8_method_5_code 11 = .ok (.aload_n 0, 1) := by decide +kernel
theorem own_d4_12 : decode prog_8_method_5_code 12 = .ok (.getfield 7, 3) := by decide +kernel
theorem own_d4_15 : decode prog_8_method_5_code 15 = .ok (.iconst 0, 1) := by decide +kernel
theorem own_d4_16 : decode prog_8_method_5_code 16 = .ok (.aload_n 0, 1) := by decide +kernel
theorem own_d4_17 : decode prog_8_method_5_code 17 = .ok (.getfield 17, 3) := by decide +kernel
theorem own_d4_20 : decode prog_8_method_5_code 20 = .ok (.invokestatic 42, 3) := by decide +kernel
theorem own_d4_23 : decode prog_8_method_5_code 23 = .ok (.aload_n 0, 1) := by decide +kernel
theorem own_d4_24 : decode prog_8_method_5_code 24 = .ok (.iconst 1, 1) := by decide +kernel
theorem own_d4_25 : decode prog_8_method_5_code 25 = .ok (.putfield 13, 3) := by decide +kernel
theorem own_d4_28 : decode prog_8_method_5_code 28 = .ok (.iload_n 1, 1) := by decide +kernel
theorem own_d4_29 : decode prog_8_method_5_code 29 = .ok (.i2l, 1) := by decide +kernel
theorem own_d4_30 : decode prog_8_method_5_code 30 = .ok (.aload_n 0, 1) := by decide +kernel
theorem own_d4_31 : decode prog_8_method_5_code 31 = .ok (.getfield 17, 3) := by decide +kernel
theorem own_d4_34 : decode prog_8_method_5_code 34 = .ok (.i2l, 1) := by decide +kernel
theorem own_d4_35 : decode prog_8_method_5_code 35 = .ok (.lmul, 1) := by decide +kernel
theorem own_d4_36 : decode prog_8_method_5_code 36 = .ok (.ldc2_w 46, 3) := by decide +kernel
theorem own_d4_39 : decode prog_8_method_5_code 39 = .ok (.ladd, 1) := by decide +kernel
theorem own_d4_40 : decode prog_8_method_5_code 40 = .ok (.ldc2_w 48, 3) := by decide +kernel
theorem own_d4_43 : decode prog_8_method_5_code 43 = .ok (.ldiv, 1) := by decide +kernel
theorem own_d4_44 : decode prog_8_method_5_code 44 = .ok (.lstore_n 2, 1) := by decide +kernel
theorem own_d4_45 : decode prog_8_method_5_code 45 = .ok (.aload_n 0, 1) := by decide +kernel
theorem own_d4_46 : decode prog_8_method_5_code 46 = .ok (.getfield 7, 3) := by decide +kernel
theorem own_d4_49 : decode prog_8_method_5_code 49 = .ok (.lload_n 2, 1) := by decide +kernel
theorem own_d4_50 : decode prog_8_method_5_code 50 = .ok (.lconst 1, 1) := by decide +kernel
theorem own_d4_51 : decode prog_8_method_5_code 51 = .ok (.invokestatic 50, 3) := by decide +kernel
theorem own_d4_54 : decode prog_8_method_5_code 54 = .ok (.l2i, 1) := by decide +kernel
theorem own_d4_55 : decode prog_8_method_5_code 55 = .ok (.iconst 1, 1) := by decide +kernel
theorem own_d4_56 : decode prog_8_method_5_code 56 = .ok (.isub, 1) := by decide +kernel
theorem own_d4_57 : decode prog_8_method_5_code 57 = .ok (.laload, 1) := by decide +kernel
theorem own_d4_58 : decode prog_8_method_5_code 58 = .ok (.lreturn, 1) := by decide +kernel
def own_Q_own_pc_100_1_0 (Z : State) (a : Addr) (b : Addr) (k : ClassId) (y0 : Int64) (y1 : Int64) (y2 : Int64) (y3 : Int64) (h0 : Heap) (n0 : Nat) (v : Option Value) (h : Heap) (L : List Loc) : Prop := ∃ w0, own_isort [y0] = [w0] ∧ v = some (.long w0) ∧ Fr n0 L ∧ Keep h0 h [a, b] ∧ Exa Z h a "com/example/respite/respite/cli/Latencies" ∧ Fld Z h a "com/example/respite/respite/cli/Latencies" "nanos" "[J" (.ref b) ∧ Fld Z h a "com/example/respite/respite/cli/Latencies" "count" "I" (.int (1 : Int32)) ∧ Fld Z h a "com/example/respite/respite/cli/Latencies" "sorted" "Z" (.int (1 : Int32)) ∧ Arv Z h b k .long (1024 : Int32) [(.long w0), (.long y1), (.long y2), (.long y3)] (.long (0 : Int64))
set_option maxRecDepth 65536 in
set_option maxHeartbeats 40000000 in
theorem own_pc_100_1_0 (l : Launch) (Z : State) (a0 : Array Value) (hw : ∀ d ∈ tables_1, d.before a0 Z = true) (ws : List Jvm.Cond) (a : Addr) (b : Addr) (k : ClassId) (y0 : Int64) (y1 : Int64) (y2 : Int64) (y3 : Int64) (h0 : Heap) (n0 : Nat) (O0 : Old Z n0 h0) (EA : Exa Z h0 a "com/example/respite/respite/cli/Latencies") (F1 : Fld Z h0 a "com/example/respite/respite/cli/Latencies" "nanos" "[J" (.ref b)) (F2 : Fld Z h0 a "com/example/respite/respite/cli/Latencies" "count" "I" (.int (1 : Int32))) (F3 : Fld Z h0 a "com/example/respite/respite/cli/Latencies" "sorted" "Z" (.int (0 : Int32))) (VB : Arv Z h0 b k .long (1024 : Int32) [(.long y0), (.long y1), (.long y2), (.long y3)] (.long (0 : Int64))) (ga : n0 ≤ a) (gb : n0 ≤ b) (hab : a ≠ b) :
    MetFree l (⟨"com/example/respite/respite/cli/Latencies", "percentile", "(I)J"⟩ : MethodName) (head1 (Jvm.Cond.code (⟨"com/example/respite/respite/cli/Latencies", "percentile", "(I)J"⟩ : MethodName) prog_8_method_5_code 4 (some .long) :: ws) ({ frames := 4, cells := 0, slots := 0, locals := 86 } : Room)) (fun args_ U => args_ = #[(.ref a), (.int (100 : Int32))] ∧ Z.Warmed39 U.vm ∧ U.heap = h0) (fun _ _ _ _ _ => True) (fun _ U o U' => ∃ v L, o = .returned v ∧ (own_Q_own_pc_100_1_0 Z a b k y0 y1 y2 y3 h0 n0) v U'.heap L ∧ FrameEnd U o U' L ({ frames := 4, cells := 0, slots := 0, locals := 86 } : Room).cells ({ frames := 4, cells := 0, slots := 0, locals := 86 } : Room).slots) := by
  refine MetFree.of_bodySF (plainFor_of_name own_pn1) hisR ?_
  intro p e s m args below meth c s₁ Bd hml0 hP hK
  obtain ⟨rfl, hZ, hh⟩ := hP
  have hx := Bd.exec
  have hby := Bd.bytes
  have hml : c.maxLocals = 4 := hml0
  have hown : s.vm.findClass "com/example/respite/respite/cli/Latencies" = some m.cls := findClass_of_methodNamed Bd.named
  have hnm := (name_of_methodNamed Bd.named Bd.method).1
  have X0 : Stand p l e ({ frames := 4, cells := 0, slots := 0, locals := 86 } : Room) s m #[(.ref a), (.int (100 : Int32))] below meth c s₁ [] 0 0 := Stand.of_body Bd
  have e0 : s₁.heap = h0 := by rw [← hh, Bd.state]; rfl
  have N0 := Fr.nil n0
  refine own_close (s := s) (Q := (own_Q_own_pc_100_1_0 Z a b k y0 y1 y2 y3 h0 n0)) (C := (({ frames := 4, cells := 0, slots := 0, locals := 86 } : Room)).cells) (N := (({ frames := 4, cells := 0, slots := 0, locals := 86 } : Room)).slots) (own_st (fun _ kt => castTop (own_ef4 m a (100 : Int32)) kt) ?_)
  have K0 := Keep.refl h0 [a, b]
  show own_Rch p e below _ s₁ (mkF m 0 #[.val (.ref a), .val (.int (100 : Int32)), .unset, .unset] [])
  refine own_st (fun _ kt => XS.aloadN X0.here hx rfl (hb hby own_d4_0) rfl rfl  kt) ?_
  show own_Rch p e below _ s₁ (mkF m 1 #[.val (.ref a), .val (.int (100 : Int32)), .unset, .unset] [(.ref a)])
  obtain ⟨cq1, q1a, q1b⟩ := EA.cell
  obtain ⟨_, _, ⟨T1, L1, k1, n1⟩, -, X1, ⟨Lc1, hQ1, l1, y1, z1⟩, st1⟩ := X0.privateBack hx (y := (⟨"com/example/respite/respite/cli/Latencies", "requireAny", "()V"⟩ : MethodName)) hown (mvT hZ (hw _ (List.mem_of_getElem? (i := 26) rfl))) (mvT hZ (hw _ (List.mem_of_getElem? (i := 27) rfl))) (mvT hZ (own_psel (hw _ (List.mem_of_getElem? (i := 1) rfl)) (hw _ (List.mem_of_getElem? (i := 28) rfl)) (hw _ (List.mem_of_getElem? (i := 27) rfl)))) (Cond.privateMethod_at (mvP hZ (hw _ (List.mem_of_getElem? (i := 28) rfl)) (args := #[]))) (mvT hZ (hw _ (List.mem_of_getElem? (i := 29) rfl))) (by decide) (backOf (W := 0) (own_req l Z a0 hw [] a (1 : Int32) h0 n0 O0 F2 (by decide)) hZ (hw _ (List.mem_of_getElem? (i := 29) rfl)) (hw _ (List.mem_of_getElem? (i := 2) rfl)) (by decide) (by decide)) (g := (mkF m 1 #[.val (.ref a), .val (.int (100 : Int32)), .unset, .unset] [(.ref a)])) rfl (by rw [hml]; rfl) (Steps.refl _) (a := a) (by rw [e0]; exact q1a) q1b (argsL := []) (rest := []) (lenOf own_pd5 rfl) rfl (by show 2 * 0 + _ ≤ _; exact Nat.le_of_eq rfl) (hb hby own_d4_1) (fun _ _ => ⟨rfl, e0, (by decide : 0 + 0 ≤ _), (by decide : 0 + 0 ≤ _)⟩)
  dsimp only [Pt.U, Pt.locs, Pt.cells, Pt.slots] at X1 l1 y1 z1 st1 hQ1
  subst l1 y1 z1
  obtain ⟨rfl, N1q, hh1⟩ := hQ1
  have N1 := Fr.app N0 N1q
  refine own_st (fun _ kt => st1.trans kt) ?_
  show own_Rch p e below _ T1 (mkF m 4 #[.val (.ref a), .val (.int (100 : Int32)), .unset, .unset] [])
  refine own_st (fun _ kt => XS.aloadN X1.here hx rfl (hb hby own_d4_4) rfl rfl  kt) ?_
  show own_Rch p e below _ T1 (mkF m 5 #[.val (.ref a), .val (.int (100 : Int32)), .unset, .unset] [(.ref a)])
  obtain ⟨T2, X2, e2, st2⟩ := getF X1 hx hZ hown (host := "") (Or.inl (hw _ (List.mem_of_getElem? (i := 12) rfl))) Via.refl hh1 F3 (g := (mkF m 5 #[.val (.ref a), .val (.int (100 : Int32)), .unset, .unset] [(.ref a)])) rfl rfl (hb hby own_d4_5)
  refine own_st st2 ?_
  show own_Rch p e below _ T2 (mkF m 8 #[.val (.ref a), .val (.int (100 : Int32)), .unset, .unset] [(.int (0 : Int32))])
  refine own_st (fun _ kt => XS.ifNo X2.here hx rfl (hb hby own_d4_8) rfl ((if0 _ _).trans (teq (rfl : (0 : Int32) = (0 : Int32))).2) kt) ?_
  show own_Rch p e below _ T2 (mkF m 11 #[.val (.ref a), .val (.int (100 : Int32)), .unset, .unset] [])
  refine own_st (fun _ kt => XS.aloadN X2.here hx rfl (hb hby own_d4_11) rfl rfl  kt) ?_
  show own_Rch p e below _ T2 (mkF m 12 #[.val (.ref a), .val (.int (100 : Int32)), .unset, .unset] [(.ref a)])
  obtain ⟨T3, X3, e3, st3⟩ := getF X2 hx hZ hown (host := "") (Or.inl (hw _ (List.mem_of_getElem? (i := 10) rfl))) Via.refl e2 F1 (g := (mkF m 12 #[.val (.ref a), .val (.int (100 : Int32)), .unset, .unset] [(.ref a)])) rfl rfl (hb hby own_d4_12)
  refine own_st st3 ?_
  show own_Rch p e below _ T3 (mkF m 15 #[.val (.ref a), .val (.int (100 : Int32)), .unset, .unset] [(.ref b)])
  refine own_st (fun _ kt => XS.iconst X3.here hx rfl (hb hby own_d4_15) kt) ?_
  show own_Rch p e below _ T3 (mkF m 16 #[.val (.ref a), .val (.int (100 : Int32)), .unset, .unset] [(.int (0 : Int32)), (.ref b)])
  refine own_st (fun _ kt => XS.aloadN X3.here hx rfl (hb hby own_d4_16) rfl rfl  kt) ?_
  show own_Rch p e below _ T3 (mkF m 17 #[.val (.ref a), .val (.int (100 : Int32)), .unset, .unset] [(.ref a), (.int (0 : Int32)), (.ref b)])
  obtain ⟨T4, X4, e4, st4⟩ := getF X3 hx hZ hown (host := "") (Or.inl (hw _ (List.mem_of_getElem? (i := 19) rfl))) Via.refl e3 F2 (g := (mkF m 17 #[.val (.ref a), .val (.int (100 : Int32)), .unset, .unset] [(.ref a), (.int (0 : Int32)), (.ref b)])) rfl rfl (hb hby own_d4_17)
  refine own_st st4 ?_
  show own_Rch p e below _ T4 (mkF m 20 #[.val (.ref a), .val (.int (100 : Int32)), .unset, .unset] [(.int (1 : Int32)), (.int (0 : Int32)), (.ref b)])
  obtain ⟨_, _, ⟨T5, L5, k5, n5⟩, -, X5, ⟨Lc5, hQ5, l5, y5, z5⟩, st5⟩ := Jvm.LawKit.callS X4 hx (y := (⟨"java/util/Arrays", "sort", "([JII)V"⟩ : MethodName)) hown (mvT hZ (hw _ (List.mem_of_getElem? (i := 30) rfl))) (mvT hZ (hw _ (List.mem_of_getElem? (i := 31) rfl))) (mvT hZ (hw _ (List.mem_of_getElem? (i := 32) rfl))) (mvT hZ (hw _ (List.mem_of_getElem? (i := 33) rfl))) (by decide) (backOf (W := 0) (own_as1 l Z a0 hw [] b k y0 y1 y2 y3 h0 n0 O0 VB gb) hZ (hw _ (List.mem_of_getElem? (i := 33) rfl)) (hw _ (List.mem_of_getElem? (i := 32) rfl)) (by decide) (by decide)) (g := (mkF m 20 #[.val (.ref a), .val (.int (100 : Int32)), .unset, .unset] [(.int (1 : Int32)), (.int (0 : Int32)), (.ref b)])) rfl (by rw [hml]; rfl) (argsL := [(.ref b), (.int (0 : Int32)), (.int (1 : Int32))]) (rest := []) (lenOf own_pd1 rfl) rfl (by show 2 * 0 + _ ≤ _; exact Nat.le_of_eq rfl) (hb hby own_d4_20) (fun _ _ => ⟨rfl, e4, (by decide : 0 + 0 ≤ _), (by decide : 0 + 0 ≤ _)⟩)
  dsimp only [Pt.U, Pt.locs, Pt.cells, Pt.slots] at X5 l5 y5 z5 st5 hQ5
  subst l5 y5 z5
  obtain ⟨w0, hs5, rfl, N5q, K5, Vb5⟩ := hQ5
  have N5 := Fr.app N1 N5q
  refine own_st st5 ?_
  have O0_x5 := O0.keep K5 (allS gb all0)
  have EA_x5 := EA.keep K5
  have F1_x5 := F1.keep K5 (ninS hab nin0)
  have F2_x5 := F2.keep K5 (ninS hab nin0)
  have F3_x5 := F3.keep K5 (ninS hab nin0)
  have K0_x5 := K0.trans K5 (allS (Or.inl (List.mem_of_getElem? (i := 1) rfl)) all0)
  show own_Rch p e below _ T5 (mkF m 23 #[.val (.ref a), .val (.int (100 : Int32)), .unset, .unset] [])
  refine own_st (fun _ kt => XS.aloadN X5.here hx rfl (hb hby own_d4_23) rfl rfl  kt) ?_
  show own_Rch p e below _ T5 (mkF m 24 #[.val (.ref a), .val (.int (100 : Int32)), .unset, .unset] [(.ref a)])
  refine own_st (fun _ kt => XS.iconst X5.here hx rfl (hb hby own_d4_24) kt) ?_
  show own_Rch p e below _ T5 (mkF m 25 #[.val (.ref a), .val (.int (100 : Int32)), .unset, .unset] [(.int (1 : Int32)), (.ref a)])
  obtain ⟨T6, h6, X6, e6, W6, st6⟩ := putFN X5 hx hZ hown (hw _ (List.mem_of_getElem? (i := 12) rfl)) Via.refl rfl F3_x5 EA_x5 (Or.inl (hw _ (List.mem_of_getElem? (i := 13) rfl))) (hw _ (List.mem_of_getElem? (i := 1) rfl)) (ty := .boolean) (v' := (.int (1 : Int32))) (by decide) rfl (by decide) (g := (mkF m 25 #[.val (.ref a), .val (.int (100 : Int32)), .unset, .unset] [(.int (1 : Int32)), (.ref a)])) rfl rfl (hb hby own_d4_25)
  refine own_st st6 ?_
  have Fw6 := F3_x5.same W6
  have N6 := Fr.snoc X6 N5 ga
  have O0_x6 := O0_x5.wr W6 ga
  have EA_x6 := EA_x5.wr W6
  have F1_x6 := F1_x5.other W6 (Or.inr (slot_ne (Or.inl (hw _ (List.mem_of_getElem? (i := 11) rfl))) (Or.inl (hw _ (List.mem_of_getElem? (i := 13) rfl))) (by decide) (t := (.array .long)) (t' := .boolean) (by decide) (by decide)))
  have F2_x6 := F2_x5.other W6 (Or.inr (slot_ne (Or.inl (hw _ (List.mem_of_getElem? (i := 20) rfl))) (Or.inl (hw _ (List.mem_of_getElem? (i := 13) rfl))) (by decide) (t := .int) (t' := .boolean) (by decide) (by decide)))
  have K0_x6 := K0_x5.wr W6 (Or.inl (List.mem_of_getElem? (i := 0) rfl))
  have Vb5_x6 := Vb5.other W6 (Ne.symm hab)
  show own_Rch p e below _ T6 (mkF m 28 #[.val (.ref a), .val (.int (100 : Int32)), .unset, .unset] [])
  refine own_st (fun _ kt => XS.iloadN X6.here hx rfl (hb hby own_d4_28) rfl  kt) ?_
  show own_Rch p e below _ T6 (mkF m 29 #[.val (.ref a), .val (.int (100 : Int32)), .unset, .unset] [(.int (100 : Int32))])
  refine own_st (fun _ kt => XS.i2l X6.here hx rfl (hb hby own_d4_29) rfl kt) ?_
  show own_Rch p e below _ T6 (mkF m 30 #[.val (.ref a), .val (.int (100 : Int32)), .unset, .unset] [(.long (100 : Int64))])
  refine own_st (fun _ kt => XS.aloadN X6.here hx rfl (hb hby own_d4_30) rfl rfl  kt) ?_
  show own_Rch p e below _ T6 (mkF m 31 #[.val (.ref a), .val (.int (100 : Int32)), .unset, .unset] [(.ref a), (.long (100 : Int64))])
  obtain ⟨T7, X7, e7, st7⟩ := getF X6 hx hZ hown (host := "") (Or.inl (hw _ (List.mem_of_getElem? (i := 19) rfl))) Via.refl e6 F2_x6 (g := (mkF m 31 #[.val (.ref a), .val (.int (100 : Int32)), .unset, .unset] [(.ref a), (.long (100 : Int64))])) rfl rfl (hb hby own_d4_31)
  refine own_st st7 ?_
  show own_Rch p e below _ T7 (mkF m 34 #[.val (.ref a), .val (.int (100 : Int32)), .unset, .unset] [(.int (1 : Int32)), (.long (100 : Int64))])
  refine own_st (fun _ kt => XS.i2l X7.here hx rfl (hb hby own_d4_34) rfl kt) ?_
  show own_Rch p e below _ T7 (mkF m 35 #[.val (.ref a), .val (.int (100 : Int32)), .unset, .unset] [(.long (1 : Int64)), (.long (100 : Int64))])
  refine own_st (fun _ kt => XS.lmul X7.here hx rfl (hb hby own_d4_35) rfl kt) ?_
  show own_Rch p e below _ T7 (mkF m 36 #[.val (.ref a), .val (.int (100 : Int32)), .unset, .unset] [(.long (100 : Int64))])
  refine own_st (X7.ldc2Long hx hown (mvT hZ (hw _ (List.mem_of_getElem? (i := 47) rfl))) (g := (mkF m 36 #[.val (.ref a), .val (.int (100 : Int32)), .unset, .unset] [(.long (100 : Int64))])) rfl (hb hby own_d4_36)) ?_
  show own_Rch p e below _ T7 (mkF m 39 #[.val (.ref a), .val (.int (100 : Int32)), .unset, .unset] [(.long (99 : Int64)), (.long (100 : Int64))])
  refine own_st (fun _ kt => XS.ladd X7.here hx rfl (hb hby own_d4_39) rfl kt) ?_
  show own_Rch p e below _ T7 (mkF m 40 #[.val (.ref a), .val (.int (100 : Int32)), .unset, .unset] [(.long (199 : Int64))])
  refine own_st (X7.ldc2Long hx hown (mvT hZ (hw _ (List.mem_of_getElem? (i := 48) rfl))) (g := (mkF m 40 #[.val (.ref a), .val (.int (100 : Int32)), .unset, .unset] [(.long (199 : Int64))])) rfl (hb hby own_d4_40)) ?_
  show own_Rch p e below _ T7 (mkF m 43 #[.val (.ref a), .val (.int (100 : Int32)), .unset, .unset] [(.long (100 : Int64)), (.long (199 : Int64))])
  refine own_st (fun _ kt => XS.ldiv X7.here hx rfl (hb hby own_d4_43) rfl (by decide) kt) ?_
  show own_Rch p e below _ T7 (mkF m 44 #[.val (.ref a), .val (.int (100 : Int32)), .unset, .unset] [(.long (1 : Int64))])
  refine own_st (fun _ kt => XS.lstoreN X7.here hx rfl (hb hby own_d4_44) rfl (l' := #[.val (.ref a), .val (.int (100 : Int32)), .val (.long (1 : Int64)), .second]) rfl kt) ?_
  show own_Rch p e below _ T7 (mkF m 45 #[.val (.ref a), .val (.int (100 : Int32)), .val (.long (1 : Int64)), .second] [])
  refine own_st (fun _ kt => XS.aloadN X7.here hx rfl (hb hby own_d4_45) rfl rfl  kt) ?_
  show own_Rch p e below _ T7 (mkF m 46 #[.val (.ref a), .val (.int (100 : Int32)), .val (.long (1 : Int64)), .second] [(.ref a)])
  obtain ⟨T8, X8, e8, st8⟩ := getF X7 hx hZ hown (host := "") (Or.inl (hw _ (List.mem_of_getElem? (i := 10) rfl))) Via.refl e7 F1_x6 (g := (mkF m 46 #[.val (.ref a), .val (.int (100 : Int32)), .val (.long (1 : Int64)), .second] [(.ref a)])) rfl rfl (hb hby own_d4_46)
  refine own_st st8 ?_
  show own_Rch p e below _ T8 (mkF m 49 #[.val (.ref a), .val (.int (100 : Int32)), .val (.long (1 : Int64)), .second] [(.ref b)])
  refine own_st (fun _ kt => XS.lloadN X8.here hx rfl (hb hby own_d4_49) rfl  kt) ?_
  show own_Rch p e below _ T8 (mkF m 50 #[.val (.ref a), .val (.int (100 : Int32)), .val (.long (1 : Int64)), .second] [(.long (1 : Int64)), (.ref b)])
  refine own_st (fun _ kt => XS.lconst X8.here hx rfl (hb hby own_d4_50) kt) ?_
  show own_Rch p e below _ T8 (mkF m 51 #[.val (.ref a), .val (.int (100 : Int32)), .val (.long (1 : Int64)), .second] [(.long (1 : Int64)), (.long (1 : Int64)), (.ref b)])
  obtain ⟨_, _, ⟨T9, L9, k9, n9⟩, -, X9, ⟨Lc9, hQ9, l9, y9, z9⟩, st9⟩ := Jvm.LawKit.callS X8 hx (y := (⟨"java/lang/Math", "max", "(JJ)J"⟩ : MethodName)) hown (mvT hZ (hw _ (List.mem_of_getElem? (i := 49) rfl))) (mvT hZ (hw _ (List.mem_of_getElem? (i := 50) rfl))) (mvT hZ (hw _ (List.mem_of_getElem? (i := 51) rfl))) (mvT hZ (hw _ (List.mem_of_getElem? (i := 52) rfl))) (by decide) (backOf (W := 1) (own_lmaxl l Z a0 hw [] (1 : Int64) (1 : Int64) h6 n0 O0_x6 (by decide)) hZ (hw _ (List.mem_of_getElem? (i := 52) rfl)) (hw _ (List.mem_of_getElem? (i := 51) rfl)) (by decide) (by decide)) (g := (mkF m 51 #[.val (.ref a), .val (.int (100 : Int32)), .val (.long (1 : Int64)), .second] [(.long (1 : Int64)), (.long (1 : Int64)), (.ref b)])) rfl (by rw [hml]; rfl) (argsL := [(.long (1 : Int64)), (.long (1 : Int64))]) (rest := [(.ref b)]) (lenOf own_pd0 rfl) rfl (by show 2 * 0 + _ ≤ _; exact Nat.le_of_eq rfl) (hb hby own_d4_51) (fun _ _ => ⟨rfl, e8, (by decide : 0 + 0 ≤ _), (by decide : 0 + 0 ≤ _)⟩)
  dsimp only [Pt.U, Pt.locs, Pt.cells, Pt.slots] at X9 l9 y9 z9 st9 hQ9
  subst l9 y9 z9
  obtain ⟨rfl, N9q, hh9⟩ := hQ9
  have N9 := Fr.app N6 N9q
  refine own_st st9 ?_
  show own_Rch p e below _ T9 (mkF m 54 #[.val (.ref a), .val (.int (100 : Int32)), .val (.long (1 : Int64)), .second] [(.long (1 : Int64)), (.ref b)])
  refine own_st (fun _ kt => XS.l2i X9.here hx rfl (hb hby own_d4_54) rfl kt) ?_
  show own_Rch p e below _ T9 (mkF m 55 #[.val (.ref a), .val (.int (100 : Int32)), .val (.long (1 : Int64)), .second] [(.int (1 : Int32)), (.ref b)])
  refine own_st (fun _ kt => XS.iconst X9.here hx rfl (hb hby own_d4_55) kt) ?_
  show own_Rch p e below _ T9 (mkF m 56 #[.val (.ref a), .val (.int (100 : Int32)), .val (.long (1 : Int64)), .second] [(.int (1 : Int32)), (.int (1 : Int32)), (.ref b)])
  refine own_st (fun _ kt => XS.isub X9.here hx rfl (hb hby own_d4_56) rfl kt) ?_
  show own_Rch p e below _ T9 (mkF m 57 #[.val (.ref a), .val (.int (100 : Int32)), .val (.long (1 : Int64)), .second] [(.int (0 : Int32)), (.ref b)])
  obtain ⟨cl10, Ar10, q10, S10, M10, H10, G10⟩ := id Vb5_x6
  have hin10 : ¬ ((0 : Int32) < 0 ∨ cl10.slots.size ≤ ((0 : Int32)).toNatClampNeg) := inb_of S10 ⟨by decide, by decide⟩
  refine own_st (X9.laload hx (j := (0 : Int32)) (v := (.long w0)) (by rw [hh9]; exact Ar10.1) (State.isArrayOf_alike (hZ).alike Ar10.2.1) Ar10.2.2 hin10 (H10.at hin10 rfl) (g := (mkF m 57 #[.val (.ref a), .val (.int (100 : Int32)), .val (.long (1 : Int64)), .second] [(.int (0 : Int32)), (.ref b)])) rfl rfl (hb hby own_d4_57)) ?_
  show own_Rch p e below _ T9 (mkF m 58 #[.val (.ref a), .val (.int (100 : Int32)), .val (.long (1 : Int64)), .second] [(.long w0)])
  refine own_retL X9 hx Bd.notSynchronized Bd.returns (hb hby own_d4_58) (by decide) (by decide) ?_
  rw [hh9]
  exact ⟨_, hs5, rfl, N9, K0_x6, EA_x6, F1_x6, F2_x6, Fw6, Vb5_x6⟩
def own_Q_own_pc_100_2_0 (Z : State) (a : Addr) (b : Addr) (k : ClassId) (y0 : Int64) (y1 : Int64) (y2 : Int64) (y3 : Int64) (h0 : Heap) (n0 : Nat) (v : Option Value) (h : Heap) (L : List Loc) : Prop := ∃ w0 w1, own_isort [y0, y1] = [w0, w1] ∧ v = some (.long w1) ∧ Fr n0 L ∧ Keep h0 h [a, b] ∧ Exa Z h a "com/example/respite/respite/cli/Latencies" ∧ Fld Z h a "com/example/respite/respite/cli/Latencies" "nanos" "[J" (.ref b) ∧ Fld Z h a "com/example/respite/respite/cli/Latencies" "count" "I" (.int (2 : Int32)) ∧ Fld Z h a "com/example/respite/respite/cli/Latencies" "sorted" "Z" (.int (1 : Int32)) ∧ Arv Z h b k .long (1024 : Int32) [(.long w0), (.long w1), (.long y2), (.long y3)] (.long (0 : Int64))
set_option maxRecDepth 65536 in
set_option maxHeartbeats 40000000 in
theorem own_pc_100_2_0 (l : Launch) (Z : State) (a0 : Array Value) (hw : ∀ d ∈ tables_1, d.before a0 Z = true) (ws : List Jvm.Cond) (a : Addr) (b : Addr) (k : ClassId) (y0 : Int64) (y1 : Int64) (y2 : Int64) (y3 : Int64) (h0 : Heap) (n0 : Nat) (O0 : Old Z n0 h0) (EA : Exa Z h0 a "com/example/respite/respite/cli/Latencies") (F1 : Fld Z h0 a "com/example/respite/respite/cli/Latencies" "nanos" "[J" (.ref b)) (F2 : Fld Z h0 a "com/example/respite/respite/cli/Latencies" "count" "I" (.int (2 : Int32))) (F3 : Fld Z h0 a "com/example/respite/respite/cli/Latencies" "sorted" "Z" (.int (0 : Int32))) (VB : Arv Z h0 b k .long (1024 : Int32) [(.long y0), (.long y1), (.long y2), (.long y3)] (.long (0 : Int64))) (ga : n0 ≤ a) (gb : n0 ≤ b) (hab : a ≠ b) :
    MetFree l (⟨"com/example/respite/respite/cli/Latencies", "percentile", "(I)J"⟩ : MethodName) (head1 (Jvm.Cond.code (⟨"com/example/respite/respite/cli/Latencies", "percentile", "(I)J"⟩ : MethodName) prog_8_method_5_code 4 (some .long) :: ws) ({ frames := 4, cells := 0, slots := 0, locals := 86 } : Room)) (fun args_ U => args_ = #[(.ref a), (.int (100 : Int32))] ∧ Z.Warmed39 U.vm ∧ U.heap = h0) (fun _ _ _ _ _ => True) (fun _ U o U' => ∃ v L, o = .returned v ∧ (own_Q_own_pc_100_2_0 Z a b k y0 y1 y2 y3 h0 n0) v U'.heap L ∧ FrameEnd U o U' L ({ frames := 4, cells := 0, slots := 0, locals := 86 } : Room).cells ({ frames := 4, cells := 0, slots := 0, locals := 86 } : Room).slots) := by
  refine MetFree.of_bodySF (plainFor_of_name own_pn1) hisR ?_
  intro p e s m args below meth c s₁ Bd hml0 hP hK
  obtain ⟨rfl, hZ, hh⟩ := hP
  have hx := Bd.exec
  have hby := Bd.bytes
  have hml : c.maxLocals = 4 := hml0
  have hown : s.vm.findClass "com/example/respite/respite/cli/Latencies" = some m.cls := findClass_of_methodNamed Bd.named
  have hnm := (name_of_methodNamed Bd.named Bd.method).1
  have X0 : Stand p l e ({ frames := 4, cells := 0, slots := 0, locals := 86 } : Room) s m #[(.ref a), (.int (100 : Int32))] below meth c s₁ [] 0 0 := Stand.of_body Bd
  have e0 : s₁.heap = h0 := by rw [← hh, Bd.state]; rfl
  have N0 := Fr.nil n0
  refine own_close (s := s) (Q := (own_Q_own_pc_100_2_0 Z a b k y0 y1 y2 y3 h0 n0)) (C := (({ frames := 4, cells := 0, slots := 0, locals := 86 } : Room)).cells) (N := (({ frames := 4, cells := 0, slots := 0, locals := 86 } : Room)).slots) (own_st (fun _ kt => castTop (own_ef4 m a (100 : Int32)) kt) ?_)
  have K0 := Keep.refl h0 [a, b]
  show own_Rch p e below _ s₁ (mkF m 0 #[.val (.ref a), .val (.int (100 : Int32)), .unset, .unset] [])
  refine own_st (fun _ kt => XS.aloadN X0.here hx rfl (hb hby own_d4_0) rfl rfl  kt) ?_
  show own_Rch p e below _ s₁ (mkF m 1 #[.val (.ref a), .val (.int (100 : Int32)), .unset, .unset] [(.ref a)])
  obtain ⟨cq1, q1a, q1b⟩ := EA.cell
  obtain ⟨_, _, ⟨T1, L1, k1, n1⟩, -, X1, ⟨Lc1, hQ1, l1, y1, z1⟩, st1⟩ := X0.privateBack hx (y := (⟨"com/example/respite/respite/cli/Latencies", "requireAny", "()V"⟩ : MethodName)) hown (mvT hZ (hw _ (List.mem_of_getElem? (i := 26) rfl))) (mvT hZ (hw _ (List.mem_of_getElem? (i := 27) rfl))) (mvT hZ (own_psel (hw _ (List.mem_of_getElem? (i := 1) rfl)) (hw _ (List.mem_of_getElem? (i := 28) rfl)) (hw _ (List.mem_of_getElem? (i := 27) rfl)))) (Cond.privateMethod_at (mvP hZ (hw _ (List.mem_of_getElem? (i := 28) rfl)) (args := #[]))) (mvT hZ (hw _ (List.mem_of_getElem? (i := 29) rfl))) (by decide) (backOf (W := 0) (own_req l Z a0 hw [] a (2 : Int32) h0 n0 O0 F2 (by decide)) hZ (hw _ (List.mem_of_getElem? (i := 29) rfl)) (hw _ (List.mem_of_getElem? (i := 2) rfl)) (by decide) (by decide)) (g := (mkF m 1 #[.val (.ref a), .val (.int (100 : Int32)), .unset, .unset] [(.ref a)])) rfl (by rw [hml]; rfl) (Steps.refl _) (a := a) (by rw [e0]; exact q1a) q1b (argsL := []) (rest := []) (lenOf own_pd5 rfl) rfl (by show 2 * 0 + _ ≤ _; exact Nat.le_of_eq rfl) (hb hby own_d4_1) (fun _ _ => ⟨rfl, e0, (by decide : 0 + 0 ≤ _), (by decide : 0 + 0 ≤ _)⟩)
  dsimp only [Pt.U, Pt.locs, Pt.cells, Pt.slots] at X1 l1 y1 z1 st1 hQ1
  subst l1 y1 z1
  obtain ⟨rfl, N1q, hh1⟩ := hQ1
  have N1 := Fr.app N0 N1q
  refine own_st (fun _ kt => st1.trans kt) ?_
  show own_Rch p e below _ T1 (mkF m 4 #[.val (.ref a), .val (.int (100 : Int32)), .unset, .unset] [])
  refine own_st (fun _ kt => XS.aloadN X1.here hx rfl (hb hby own_d4_4) rfl rfl  kt) ?_
  show own_Rch p e below _ T1 (mkF m 5 #[.val (.ref a), .val (.int (100 : Int32)), .unset, .unset] [(.ref a)])
  obtain ⟨T2, X2, e2, st2⟩ := getF X1 hx hZ hown (host := "") (Or.inl (hw _ (List.mem_of_getElem? (i := 12) rfl))) Via.refl hh1 F3 (g := (mkF m 5 #[.val (.ref a), .val (.int (100 : Int32)), .unset, .unset] [(.ref a)])) rfl rfl (hb hby own_d4_5)
  refine own_st st2 ?_
  show own_Rch p e below _ T2 (mkF m 8 #[.val (.ref a), .val (.int (100 : Int32)), .unset, .unset] [(.int (0 : Int32))])
  refine own_st (fun _ kt => XS.ifNo X2.here hx rfl (hb hby own_d4_8) rfl ((if0 _ _).trans (teq (rfl : (0 : Int32) = (0 : Int32))).2) kt) ?_
  show own_Rch p e below _ T2 (mkF m 11 #[.val (.ref a), .val (.int (100 : Int32)), .unset, .unset] [])
  refine own_st (fun _ kt => XS.aloadN X2.here hx rfl (hb hby own_d4_11) rfl rfl  kt) ?_
  show own_Rch p e below _ T2 (mkF m 12 #[.val (.ref a), .val (.int (100 : Int32)), .unset, .unset] [(.ref a)])
  obtain ⟨T3, X3, e3, st3⟩ := getF X2 hx hZ hown (host := "") (Or.inl (hw _ (List.mem_of_getElem? (i := 10) rfl))) Via.refl e2 F1 (g := (mkF m 12 #[.val (.ref a), .val (.int (100 : Int32)), .unset, .unset] [(.ref a)])) rfl rfl (hb hby own_d4_12)
  refine own_st st3 ?_
  show own_Rch p e below _ T3 (mkF m 15 #[.val (.ref a), .val (.int (100 : Int32)), .unset, .unset] [(.ref b)])
  refine own_st (fun _ kt => XS.iconst X3.here hx rfl (hb hby own_d4_15) kt) ?_
  show own_Rch p e below _ T3 (mkF m 16 #[.val (.ref a), .val (.int (100 : Int32)), .unset, .unset] [(.int (0 : Int32)), (.ref b)])
  refine own_st (fun _ kt => XS.aloadN X3.here hx rfl (hb hby own_d4_16) rfl rfl  kt) ?_
  show own_Rch p e below _ T3 (mkF m 17 #[.val (.ref a), .val (.int (100 : Int32)), .unset, .unset] [(.ref a), (.int (0 : Int32)), (.ref b)])
  obtain ⟨T4, X4, e4, st4⟩ := getF X3 hx hZ hown (host := "") (Or.inl (hw _ (List.mem_of_getElem? (i := 19) rfl))) Via.refl e3 F2 (g := (mkF m 17 #[.val (.ref a), .val (.int (100 : Int32)), .unset, .unset] [(.ref a), (.int (0 : Int32)), (.ref b)])) rfl rfl (hb hby own_d4_17)
  refine own_st st4 ?_
  show own_Rch p e below _ T4 (mkF m 20 #[.val (.ref a), .val (.int (100 : Int32)), .unset, .unset] [(.int (2 : Int32)), (.int (0 : Int32)), (.ref b)])
  obtain ⟨_, _, ⟨T5, L5, k5, n5⟩, -, X5, ⟨Lc5, hQ5, l5, y5, z5⟩, st5⟩ := Jvm.LawKit.callS X4 hx (y := (⟨"java/util/Arrays", "sort", "([JII)V"⟩ : MethodName)) hown (mvT hZ (hw _ (List.mem_of_getElem? (i := 30) rfl))) (mvT hZ (hw _ (List.mem_of_getElem? (i := 31) rfl))) (mvT hZ (hw _ (List.mem_of_getElem? (i := 32) rfl))) (mvT hZ (hw _ (List.mem_of_getElem? (i := 33) rfl))) (by decide) (backOf (W := 0) (own_as2 l Z a0 hw [] b k y0 y1 y2 y3 h0 n0 O0 VB gb) hZ (hw _ (List.mem_of_getElem? (i := 33) rfl)) (hw _ (List.mem_of_getElem? (i := 32) rfl)) (by decide) (by decide)) (g := (mkF m 20 #[.val (.ref a), .val (.int (100 : Int32)), .unset, .unset] [(.int (2 : Int32)), (.int (0 : Int32)), (.ref b)])) rfl (by rw [hml]; rfl) (argsL := [(.ref b), (.int (0 : Int32)), (.int (2 : Int32))]) (rest := []) (lenOf own_pd1 rfl) rfl (by show 2 * 0 + _ ≤ _; exact Nat.le_of_eq rfl) (hb hby own_d4_20) (fun _ _ => ⟨rfl, e4, (by decide : 0 + 0 ≤ _), (by decide : 0 + 0 ≤ _)⟩)
  dsimp only [Pt.U, Pt.locs, Pt.cells, Pt.slots] at X5 l5 y5 z5 st5 hQ5
  subst l5 y5 z5
  obtain ⟨w0, w1, hs5, rfl, N5q, K5, Vb5⟩ := hQ5
  have N5 := Fr.app N1 N5q
  refine own_st st5 ?_
  have O0_x5 := O0.keep K5 (allS gb all0)
  have EA_x5 := EA.keep K5
  have F1_x5 := F1.keep K5 (ninS hab nin0)
  have F2_x5 := F2.keep K5 (ninS hab nin0)
  have F3_x5 := F3.keep K5 (ninS hab nin0)
  have K0_x5 := K0.trans K5 (allS (Or.inl (List.mem_of_getElem? (i := 1) rfl)) all0)
  show own_Rch p e below _ T5 (mkF m 23 #[.val (.ref a), .val (.int (100 : Int32)), .unset, .unset] [])
  refine own_st (fun _ kt => XS.aloadN X5.here hx rfl (hb hby own_d4_23) rfl rfl  kt) ?_
  show own_Rch p e below _ T5 (mkF m 24 #[.val (.ref a), .val (.int (100 : Int32)), .unset, .unset] [(.ref a)])
  refine own_st (fun _ kt => XS.iconst X5.here hx rfl (hb hby own_d4_24) kt) ?_
  show own_Rch p e below _ T5 (mkF m 25 #[.val (.ref a), .val (.int (100 : Int32)), .unset, .unset] [(.int (1 : Int32)), (.ref a)])
  obtain ⟨T6, h6, X6, e6, W6, st6⟩ := putFN X5 hx hZ hown (hw _ (List.mem_of_getElem? (i := 12) rfl)) Via.refl rfl F3_x5 EA_x5 (Or.inl (hw _ (List.mem_of_getElem? (i := 13) rfl))) (hw _ (List.mem_of_getElem? (i := 1) rfl)) (ty := .boolean) (v' := (.int (1 : Int32))) (by decide) rfl (by decide) (g := (mkF m 25 #[.val (.ref a), .val (.int (100 : Int32)), .unset, .unset] [(.int (1 : Int32)), (.ref a)])) rfl rfl (hb hby own_d4_25)
  refine own_st st6 ?_
  have Fw6 := F3_x5.same W6
  have N6 := Fr.snoc X6 N5 ga
  have O0_x6 := O0_x5.wr W6 ga
  have EA_x6 := EA_x5.wr W6
  have F1_x6 := F1_x5.other W6 (Or.inr (slot_ne (Or.inl (hw _ (List.mem_of_getElem? (i := 11) rfl))) (Or.inl (hw _ (List.mem_of_getElem? (i := 13) rfl))) (by decide) (t := (.array .long)) (t' := .boolean) (by decide) (by decide)))
  have F2_x6 := F2_x5.other W6 (Or.inr (slot_ne (Or.inl (hw _ (List.mem_of_getElem? (i := 20) rfl))) (Or.inl (hw _ (List.mem_of_getElem? (i := 13) rfl))) (by decide) (t := .int) (t' := .boolean) (by decide) (by decide)))
  have K0_x6 := K0_x5.wr W6 (Or.inl (List.mem_of_getElem? (i := 0) rfl))
  have Vb5_x6 := Vb5.other W6 (Ne.symm hab)
  show own_Rch p e below _ T6 (mkF m 28 #[.val (.ref a), .val (.int (100 : Int32)), .unset, .unset] [])
  refine own_st (fun _ kt => XS.iloadN X6.here hx rfl (hb hby own_d4_28) rfl  kt) ?_
  show own_Rch p e below _ T6 (mkF m 29 #[.val (.ref a), .val (.int (100 : Int32)), .unset, .unset] [(.int (100 : Int32))])
  refine own_st (fun _ kt => XS.i2l X6.here hx rfl (hb hby own_d4_29) rfl kt) ?_
  show own_Rch p e below _ T6 (mkF m 30 #[.val (.ref a), .val (.int (100 : Int32)), .unset, .unset] [(.long (100 : Int64))])
  refine own_st (fun _ kt => XS.aloadN X6.here hx rfl (hb hby own_d4_30) rfl rfl  kt) ?_
  show own_Rch p e below _ T6 (mkF m 31 #[.val (.ref a), .val (.int (100 : Int32)), .unset, .unset] [(.ref a), (.long (100 : Int64))])
  obtain ⟨T7, X7, e7, st7⟩ := getF X6 hx hZ hown (host := "") (Or.inl (hw _ (List.mem_of_getElem? (i := 19) rfl))) Via.refl e6 F2_x6 (g := (mkF m 31 #[.val (.ref a), .val (.int (100 : Int32)), .unset, .unset] [(.ref a), (.long (100 : Int64))])) rfl rfl (hb hby own_d4_31)
  refine own_st st7 ?_
  show own_Rch p e below _ T7 (mkF m 34 #[.val (.ref a), .val (.int (100 : Int32)), .unset, .unset] [(.int (2 : Int32)), (.long (100 : Int64))])
  refine own_st (fun _ kt => XS.i2l X7.here hx rfl (hb hby own_d4_34) rfl kt) ?_
  show own_Rch p e below _ T7 (mkF m 35 #[.val (.ref a), .val (.int (100 : Int32)), .unset, .unset] [(.long (2 : Int64)), (.long (100 : Int64))])
  refine own_st (fun _ kt => XS.lmul X7.here hx rfl (hb hby own_d4_35) rfl kt) ?_
  show own_Rch p e below _ T7 (mkF m 36 #[.val (.ref a), .val (.int (100 : Int32)), .unset, .unset] [(.long (200 : Int64))])
  refine own_st (X7.ldc2Long hx hown (mvT hZ (hw _ (List.mem_of_getElem? (i := 47) rfl))) (g := (mkF m 36 #[.val (.ref a), .val (.int (100 : Int32)), .unset, .unset] [(.long (200 : Int64))])) rfl (hb hby own_d4_36)) ?_
  show own_Rch p e below _ T7 (mkF m 39 #[.val (.ref a), .val (.int (100 : Int32)), .unset, .unset] [(.long (99 : Int64)), (.long (200 : Int64))])
  refine own_st (fun _ kt => XS.ladd X7.here hx rfl (hb hby own_d4_39) rfl kt) ?_
  show own_Rch p e below _ T7 (mkF m 40 #[.val (.ref a), .val (.int (100 : Int32)), .unset, .unset] [(.long (299 : Int64))])
  refine own_st (X7.ldc2Long hx hown (mvT hZ (hw _ (List.mem_of_getElem? (i := 48) rfl))) (g := (mkF m 40 #[.val (.ref a), .val (.int (100 : Int32)), .unset, .unset] [(.long (299 : Int64))])) rfl (hb hby own_d4_40)) ?_
  show own_Rch p e below _ T7 (mkF m 43 #[.val (.ref a), .val (.int (100 : Int32)), .unset, .unset] [(.long (100 : Int64)), (.long (299 : Int64))])
  refine own_st (fun _ kt => XS.ldiv X7.here hx rfl (hb hby own_d4_43) rfl (by decide) kt) ?_
  show own_Rch p e below _ T7 (mkF m 44 #[.val (.ref a), .val (.int (100 : Int32)), .unset, .unset] [(.long (2 : Int64))])
  refine own_st (fun _ kt => XS.lstoreN X7.here hx rfl (hb hby own_d4_44) rfl (l' := #[.val (.ref a), .val (.int (100 : Int32)), .val (.long (2 : Int64)), .second]) rfl kt) ?_
  show own_Rch p e below _ T7 (mkF m 45 #[.val (.ref a), .val (.int (100 : Int32)), .val (.long (2 : Int64)), .second] [])
  refine own_st (fun _ kt => XS.aloadN X7.here hx rfl (hb hby own_d4_45) rfl rfl  kt) ?_
  show own_Rch p e below _ T7 (mkF m 46 #[.val (.ref a), .val (.int (100 : Int32)), .val (.long (2 : Int64)), .second] [(.ref a)])
  obtain ⟨T8, X8, e8, st8⟩ := getF X7 hx hZ hown (host := "") (Or.inl (hw _ (List.mem_of_getElem? (i := 10) rfl))) Via.refl e7 F1_x6 (g := (mkF m 46 #[.val (.ref a), .val (.int (100 : Int32)), .val (.long (2 : Int64)), .second] [(.ref a)])) rfl rfl (hb hby own_d4_46)
  refine own_st st8 ?_
  show own_Rch p e below _ T8 (mkF m 49 #[.val (.ref a), .val (.int (100 : Int32)), .val (.long (2 : Int64)), .second] [(.ref b)])
  refine own_st (fun _ kt => XS.lloadN X8.here hx rfl (hb hby own_d4_49) rfl  kt) ?_
  show own_Rch p e below _ T8 (mkF m 50 #[.val (.ref a), .val (.int (100 : Int32)), .val (.long (2 : Int64)), .second] [(.long (2 : Int64)), (.ref b)])
  refine own_st (fun _ kt => XS.lconst X8.here hx rfl (hb hby own_d4_50) kt) ?_
  show own_Rch p e below _ T8 (mkF m 51 #[.val (.ref a), .val (.int (100 : Int32)), .val (.long (2 : Int64)), .second] [(.long (1 : Int64)), (.long (2 : Int64)), (.ref b)])
  obtain ⟨_, _, ⟨T9, L9, k9, n9⟩, -, X9, ⟨Lc9, hQ9, l9, y9, z9⟩, st9⟩ := Jvm.LawKit.callS X8 hx (y := (⟨"java/lang/Math", "max", "(JJ)J"⟩ : MethodName)) hown (mvT hZ (hw _ (List.mem_of_getElem? (i := 49) rfl))) (mvT hZ (hw _ (List.mem_of_getElem? (i := 50) rfl))) (mvT hZ (hw _ (List.mem_of_getElem? (i := 51) rfl))) (mvT hZ (hw _ (List.mem_of_getElem? (i := 52) rfl))) (by decide) (backOf (W := 1) (own_lmaxl l Z a0 hw [] (2 : Int64) (1 : Int64) h6 n0 O0_x6 (by decide)) hZ (hw _ (List.mem_of_getElem? (i := 52) rfl)) (hw _ (List.mem_of_getElem? (i := 51) rfl)) (by decide) (by decide)) (g := (mkF m 51 #[.val (.ref a), .val (.int (100 : Int32)), .val (.long (2 : Int64)), .second] [(.long (1 : Int64)), (.long (2 : Int64)), (.ref b)])) rfl (by rw [hml]; rfl) (argsL := [(.long (2 : Int64)), (.long (1 : Int64))]) (rest := [(.ref b)]) (lenOf own_pd0 rfl) rfl (by show 2 * 0 + _ ≤ _; exact Nat.le_of_eq rfl) (hb hby own_d4_51) (fun _ _ => ⟨rfl, e8, (by decide : 0 + 0 ≤ _), (by decide : 0 + 0 ≤ _)⟩)
  dsimp only [Pt.U, Pt.locs, Pt.cells, Pt.slots] at X9 l9 y9 z9 st9 hQ9
  subst l9 y9 z9
  obtain ⟨rfl, N9q, hh9⟩ := hQ9
  have N9 := Fr.app N6 N9q
  refine own_st st9 ?_
  show own_Rch p e below _ T9 (mkF m 54 #[.val (.ref a), .val (.int (100 : Int32)), .val (.long (2 : Int64)), .second] [(.long (2 : Int64)), (.ref b)])
  refine own_st (fun _ kt => XS.l2i X9.here hx rfl (hb hby own_d4_54) rfl kt) ?_
  show own_Rch p e below _ T9 (mkF m 55 #[.val (.ref a), .val (.int (100 : Int32)), .val (.long (2 : Int64)), .second] [(.int (2 : Int32)), (.ref b)])
  refine own_st (fun _ kt => XS.iconst X9.here hx rfl (hb hby own_d4_55) kt) ?_
  show own_Rch p e below _ T9 (mkF m 56 #[.val (.ref a), .val (.int (100 : Int32)), .val (.long (2 : Int64)), .second] [(.int (1 : Int32)), (.int (2 : Int32)), (.ref b)])
  refine own_st (fun _ kt => XS.isub X9.here hx rfl (hb hby own_d4_56) rfl kt) ?_
  show own_Rch p e below _ T9 (mkF m 57 #[.val (.ref a), .val (.int (100 : Int32)), .val (.long (2 : Int64)), .second] [(.int (1 : Int32)), (.ref b)])
  obtain ⟨cl10, Ar10, q10, S10, M10, H10, G10⟩ := id Vb5_x6
  have hin10 : ¬ ((1 : Int32) < 0 ∨ cl10.slots.size ≤ ((1 : Int32)).toNatClampNeg) := inb_of S10 ⟨by decide, by decide⟩
  refine own_st (X9.laload hx (j := (1 : Int32)) (v := (.long w1)) (by rw [hh9]; exact Ar10.1) (State.isArrayOf_alike (hZ).alike Ar10.2.1) Ar10.2.2 hin10 (H10.at hin10 rfl) (g := (mkF m 57 #[.val (.ref a), .val (.int (100 : Int32)), .val (.long (2 : Int64)), .second] [(.int (1 : Int32)), (.ref b)])) rfl rfl (hb hby own_d4_57)) ?_
  show own_Rch p e below _ T9 (mkF m 58 #[.val (.ref a), .val (.int (100 : Int32)), .val (.long (2 : Int64)), .second] [(.long w1)])
  refine own_retL X9 hx Bd.notSynchronized Bd.returns (hb hby own_d4_58) (by decide) (by decide) ?_
  rw [hh9]
  exact ⟨_, _, hs5, rfl, N9, K0_x6, EA_x6, F1_x6, F2_x6, Fw6, Vb5_x6⟩
def own_Q_own_pc_100_3_0 (Z : State) (a : Addr) (b : Addr) (k : ClassId) (y0 : Int64) (y1 : Int64) (y2 : Int64) (y3 : Int64) (h0 : Heap) (n0 : Nat) (v : Option Value) (h : Heap) (L : List Loc) : Prop := ∃ w0 w1 w2, own_isort [y0, y1, y2] = [w0, w1, w2] ∧ v = some (.long w2) ∧ Fr n0 L ∧ Keep h0 h [a, b] ∧ Exa Z h a "com/example/respite/respite/cli/Latencies" ∧ Fld Z h a "com/example/respite/respite/cli/Latencies" "nanos" "[J" (.ref b) ∧ Fld Z h a "com/example/respite/respite/cli/Latencies" "count" "I" (.int (3 : Int32)) ∧ Fld Z h a "com/example/respite/respite/cli/Latencies" "sorted" "Z" (.int (1 : Int32)) ∧ Arv Z h b k .long (1024 : Int32) [(.long w0), (.long w1), (.long w2), (.long y3)] (.long (0 : Int64))
set_option maxRecDepth 65536 in
set_option maxHeartbeats 40000000 in
theorem own_pc_100_3_0 (l : Launch) (Z : State) (a0 : Array Value) (hw : ∀ d ∈ tables_1, d.before a0 Z = true) (ws : List Jvm.Cond) (a : Addr) (b : Addr) (k : ClassId) (y0 : Int64) (y1 : Int64) (y2 : Int64) (y3 : Int64) (h0 : Heap) (n0 : Nat) (O0 : Old Z n0 h0) (EA : Exa Z h0 a "com/example/respite/respite/cli/Latencies") (F1 : Fld Z h0 a "com/example/respite/respite/cli/Latencies" "nanos" "[J" (.ref b)) (F2 : Fld Z h0 a "com/example/respite/respite/cli/Latencies" "count" "I" (.int (3 : Int32))) (F3 : Fld Z h0 a "com/example/respite/respite/cli/Latencies" "sorted" "Z" (.int (0 : Int32))) (VB : Arv Z h0 b k .long (1024 : Int32) [(.long y0), (.long y1), (.long y2), (.long y3)] (.long (0 : Int64))) (ga : n0 ≤ a) (gb : n0 ≤ b) (hab : a ≠ b) :
    MetFree l (⟨"com/example/respite/respite/cli/Latencies", "percentile", "(I)J"⟩ : MethodName) (head1 (Jvm.Cond.code (⟨"com/example/respite/respite/cli/Latencies", "percentile", "(I)J"⟩ : MethodName) prog_8_method_5_code 4 (some .long) :: ws) ({ frames := 4, cells := 0, slots := 0, locals := 86 } : Room)) (fun args_ U => args_ = #[(.ref a), (.int (100 : Int32))] ∧ Z.Warmed39 U.vm ∧ U.heap = h0) (fun _ _ _ _ _ => True) (fun _ U o U' => ∃ v L, o = .returned v ∧ (own_Q_own_pc_100_3_0 Z a b k y0 y1 y2 y3 h0 n0) v U'.heap L ∧ FrameEnd U o U' L ({ frames := 4, cells := 0, slots := 0, locals := 86 } : Room).cells ({ frames := 4, cells := 0, slots := 0, locals := 86 } : Room).slots) := by
  refine MetFree.of_bodySF (plainFor_of_name own_pn1) hisR ?_
  intro p e s m args below meth c s₁ Bd hml0 hP hK
  obtain ⟨rfl, hZ, hh⟩ := hP
  have hx := Bd.exec
  have hby := Bd.bytes
  have hml : c.maxLocals = 4 := hml0
  have hown : s.vm.findClass "com/example/respite/respite/cli/Latencies" = some m.cls := findClass_of_methodNamed Bd.named
  have hnm := (name_of_methodNamed Bd.named Bd.method).1
  have X0 : Stand p l e ({ frames := 4, cells := 0, slots := 0, locals := 86 } : Room) s m #[(.ref a), (.int (100 : Int32))] below meth c s₁ [] 0 0 := Stand.of_body Bd
  have e0 : s₁.heap = h0 := by rw [← hh, Bd.state]; rfl
  have N0 := Fr.nil n0
  refine own_close (s := s) (Q := (own_Q_own_pc_100_3_0 Z a b k y0 y1 y2 y3 h0 n0)) (C := (({ frames := 4, cells := 0, slots := 0, locals := 86 } : Room)).cells) (N := (({ frames := 4, cells := 0, slots := 0, locals := 86 } : Room)).slots) (own_st (fun _ kt => castTop (own_ef4 m a (100 : Int32)) kt) ?_)
  have K0 := Keep.refl h0 [a, b]
  show own_Rch p e below _ s₁ (mkF m 0 #[.val (.ref a), .val (.int (100 : Int32)), .unset, .unset] [])
  refine own_st (fun _ kt => XS.aloadN X0.here hx rfl (hb hby own_d4_0) rfl rfl  kt) ?_
  show own_Rch p e below _ s₁ (mkF m 1 #[.val (.ref a), .val (.int (100 : Int32)), .unset, .unset] [(.ref a)])
  obtain ⟨cq1, q1a, q1b⟩ := EA.cell
  obtain ⟨_, _, ⟨T1, L1, k1, n1⟩, -, X1, ⟨Lc1, hQ1, l1, y1, z1⟩, st1⟩ := X0.privateBack hx (y := (⟨"com/example/respite/respite/cli/Latencies", "requireAny", "()V"⟩ : MethodName)) hown (mvT hZ (hw _ (List.mem_of_getElem? (i := 26) rfl))) (mvT hZ (hw _ (List.mem_of_getElem? (i := 27) rfl))) (mvT hZ (own_psel (hw _ (List.mem_of_getElem? (i := 1) rfl)) (hw _ (List.mem_of_getElem? (i := 28) rfl)) (hw _ (List.mem_of_getElem? (i := 27) rfl)))) (Cond.privateMethod_at (mvP hZ (hw _ (List.mem_of_getElem? (i := 28) rfl)) (args := #[]))) (mvT hZ (hw _ (List.mem_of_getElem? (i := 29) rfl))) (by decide) (backOf (W := 0) (own_req l Z a0 hw [] a (3 : Int32) h0 n0 O0 F2 (by decide)) hZ (hw _ (List.mem_of_getElem? (i := 29) rfl)) (hw _ (List.mem_of_getElem? (i := 2) rfl)) (by decide) (by decide)) (g := (mkF m 1 #[.val (.ref a), .val (.int (100 : Int32)), .unset, .unset] [(.ref a)])) rfl (by rw [hml]; rfl) (Steps.refl _) (a := a) (by rw [e0]; exact q1a) q1b (argsL := []) (rest := []) (lenOf own_pd5 rfl) rfl (by show 2 * 0 + _ ≤ _; exact Nat.le_of_eq rfl) (hb hby own_d4_1) (fun _ _ => ⟨rfl, e0, (by decide : 0 + 0 ≤ _), (by decide : 0 + 0 ≤ _)⟩)
  dsimp only [Pt.U, Pt.locs, Pt.cells, Pt.slots] at X1 l1 y1 z1 st1 hQ1
  subst l1 y1 z1
  obtain ⟨rfl, N1q, hh1⟩ := hQ1
  have N1 := Fr.app N0 N1q
  refine own_st (fun _ kt => st1.trans kt) ?_
  show own_Rch p e below _ T1 (mkF m 4 #[.val (.ref a), .val (.int (100 : Int32)), .unset, .unset] [])
  refine own_st (fun _ kt => XS.aloadN X1.here hx rfl (hb hby own_d4_4) rfl rfl  kt) ?_
  show own_Rch p e below _ T1 (mkF m 5 #[.val (.ref a), .val (.int (100 : Int32)), .unset, .unset] [(.ref a)])
  obtain ⟨T2, X2, e2, st2⟩ := getF X1 hx hZ hown (host := "") (Or.inl (hw _ (List.mem_of_getElem? (i := 12) rfl))) Via.refl hh1 F3 (g := (mkF m 5 #[.val (.ref a), .val (.int (100 : Int32)), .unset, .unset] [(.ref a)])) rfl rfl (hb hby own_d4_5)
  refine own_st st2 ?_
  show own_Rch p e below _ T2 (mkF m 8 #[.val (.ref a), .val (.int (100 : Int32)), .unset, .unset] [(.int (0 : Int32))])
  refine own_st (fun _ kt => XS.ifNo X2.here hx rfl (hb hby own_d4_8) rfl ((if0 _ _).trans (teq (rfl : (0 : Int32) = (0 : Int32))).2) kt) ?_
  show own_Rch p e below _ T2 (mkF m 11 #[.val (.ref a), .val (.int (100 : Int32)), .unset, .unset] [])
  refine own_st (fun _ kt => XS.aloadN X2.here hx rfl (hb hby own_d4_11) rfl rfl  kt) ?_
  show own_Rch p e below _ T2 (mkF m 12 #[.val (.ref a), .val (.int (100 : Int32)), .unset, .unset] [(.ref a)])
  obtain ⟨T3, X3, e3, st3⟩ := getF X2 hx hZ hown (host := "") (Or.inl (hw _ (List.mem_of_getElem? (i := 10) rfl))) Via.refl e2 F1 (g := (mkF m 12 #[.val (.ref a), .val (.int (100 : Int32)), .unset, .unset] [(.ref a)])) rfl rfl (hb hby own_d4_12)
  refine own_st st3 ?_
  show own_Rch p e below _ T3 (mkF m 15 #[.val (.ref a), .val (.int (100 : Int32)), .unset, .unset] [(.ref b)])
  refine own_st (fun _ kt => XS.iconst X3.here hx rfl (hb hby own_d4_15) kt) ?_
  show own_Rch p e below _ T3 (mkF m 16 #[.val (.ref a), .val (.int (100 : Int32)), .unset, .unset] [(.int (0 : Int32)), (.ref b)])
  refine own_st (fun _ kt => XS.aloadN X3.here hx rfl (hb hby own_d4_16) rfl rfl  kt) ?_
  show own_Rch p e below _ T3 (mkF m 17 #[.val (.ref a), .val (.int (100 : Int32)), .unset, .unset] [(.ref a), (.int (0 : Int32)), (.ref b)])
  obtain ⟨T4, X4, e4, st4⟩ := getF X3 hx hZ hown (host := "") (Or.inl (hw _ (List.mem_of_getElem? (i := 19) rfl))) Via.refl e3 F2 (g := (mkF m 17 #[.val (.ref a), .val (.int (100 : Int32)), .unset, .unset] [(.ref a), (.int (0 : Int32)), (.ref b)])) rfl rfl (hb hby own_d4_17)
  refine own_st st4 ?_
  show own_Rch p e below _ T4 (mkF m 20 #[.val (.ref a), .val (.int (100 : Int32)), .unset, .unset] [(.int (3 : Int32)), (.int (0 : Int32)), (.ref b)])
  obtain ⟨_, _, ⟨T5, L5, k5, n5⟩, -, X5, ⟨Lc5, hQ5, l5, y5, z5⟩, st5⟩ := Jvm.LawKit.callS X4 hx (y := (⟨"java/util/Arrays", "sort", "([JII)V"⟩ : MethodName)) hown (mvT hZ (hw _ (List.mem_of_getElem? (i := 30) rfl))) (mvT hZ (hw _ (List.mem_of_getElem? (i := 31) rfl))) (mvT hZ (hw _ (List.mem_of_getElem? (i := 32) rfl))) (mvT hZ (hw _ (List.mem_of_getElem? (i := 33) rfl))) (by decide) (backOf (W := 0) (own_as3 l Z a0 hw [] b k y0 y1 y2 y3 h0 n0 O0 VB gb) hZ (hw _ (List.mem_of_getElem? (i := 33) rfl)) (hw _ (List.mem_of_getElem? (i := 32) rfl)) (by decide) (by decide)) (g := (mkF m 20 #[.val (.ref a), .val (.int (100 : Int32)), .unset, .unset] [(.int (3 : Int32)), (.int (0 : Int32)), (.ref b)])) rfl (by rw [hml]; rfl) (argsL := [(.ref b), (.int (0 : Int32)), (.int (3 : Int32))]) (rest := []) (lenOf own_pd1 rfl) rfl (by show 2 * 0 + _ ≤ _; exact Nat.le_of_eq rfl) (hb hby own_d4_20) (fun _ _ => ⟨rfl, e4, (by decide : 0 + 0 ≤ _), (by decide : 0 + 0 ≤ _)⟩)
  dsimp only [Pt.U, Pt.locs, Pt.cells, Pt.slots] at X5 l5 y5 z5 st5 hQ5
  subst l5 y5 z5
  obtain ⟨w0, w1, w2, hs5, rfl, N5q, K5, Vb5⟩ := hQ5
  have N5 := Fr.app N1 N5q
  refine own_st st5 ?_
  have O0_x5 := O0.keep K5 (allS gb all0)
  have EA_x5 := EA.keep K5
  have F1_x5 := F1.keep K5 (ninS hab nin0)
  have F2_x5 := F2.keep K5 (ninS hab nin0)
  have F3_x5 := F3.keep K5 (ninS hab nin0)
  have K0_x5 := K0.trans K5 (allS (Or.inl (List.mem_of_getElem? (i := 1) rfl)) all0)
  show own_Rch p e below _ T5 (mkF m 23 #[.val (.ref a), .val (.int (100 : Int32)), .unset, .unset] [])
  refine own_st (fun _ kt => XS.aloadN X5.here hx rfl (hb hby own_d4_23) rfl rfl  kt) ?_
  show own_Rch p e below _ T5 (mkF m 24 #[.val (.ref a), .val (.int (100 : Int32)), .unset, .unset] [(.ref a)])
  refine own_st (fun _ kt => XS.iconst X5.here hx rfl (hb hby own_d4_24) kt) ?_
  show own_Rch p e below _ T5 (mkF m 25 #[.val (.ref a), .val (.int (100 : Int32)), .unset, .unset] [(.int (1 : Int32)), (.ref a)])
  obtain ⟨T6, h6, X6, e6, W6, st6⟩ := putFN X5 hx hZ hown (hw _ (List.mem_of_getElem? (i := 12) rfl)) Via.refl rfl F3_x5 EA_x5 (Or.inl (hw _ (List.mem_of_getElem? (i := 13) rfl))) (hw _ (List.mem_of_getElem? (i := 1) rfl)) (ty := .boolean) (v' := (.int (1 : Int32))) (by decide) rfl (by decide) (g := (mkF m 25 #[.val (.ref a), .val (.int (100 : Int32)), .unset, .unset] [(.int (1 : Int32)), (.ref a)])) rfl rfl (hb hby own_d4_25)
  refine own_st st6 ?_
  have Fw6 := F3_x5.same W6
  have N6 := Fr.snoc X6 N5 ga
  have O0_x6 := O0_x5.wr W6 ga
  have EA_x6 := EA_x5.wr W6
  have F1_x6 := F1_x5.other W6 (Or.inr (slot_ne (Or.inl (hw _ (List.mem_of_getElem? (i := 11) rfl))) (Or.inl (hw _ (List.mem_of_getElem? (i := 13) rfl))) (by decide) (t := (.array .long)) (t' := .boolean) (by decide) (by decide)))
  have F2_x6 := F2_x5.other W6 (Or.inr (slot_ne (Or.inl (hw _ (List.mem_of_getElem? (i := 20) rfl))) (Or.inl (hw _ (List.mem_of_getElem? (i := 13) rfl))) (by decide) (t := .int) (t' := .boolean) (by decide) (by decide)))
  have K0_x6 := K0_x5.wr W6 (Or.inl (List.mem_of_getElem? (i := 0) rfl))
  have Vb5_x6 := Vb5.other W6 (Ne.symm hab)
  show own_Rch p e below _ T6 (mkF m 28 #[.val (.ref a), .val (.int (100 : Int32)), .unset, .unset] [])
  refine own_st (fun _ kt => XS.iloadN X6.here hx rfl (hb hby own_d4_28) rfl  kt) ?_
  show own_Rch p e below _ T6 (mkF m 29 #[.val (.ref a), .val (.int (100 : Int32)), .unset, .unset] [(.int (100 : Int32))])
  refine own_st (fun _ kt => XS.i2l X6.here hx rfl (hb hby own_d4_29) rfl kt) ?_
  show own_Rch p e below _ T6 (mkF m 30 #[.val (.ref a), .val (.int (100 : Int32)), .unset, .unset] [(.long (100 : Int64))])
  refine own_st (fun _ kt => XS.aloadN X6.here hx rfl (hb hby own_d4_30) rfl rfl  kt) ?_
  show own_Rch p e below _ T6 (mkF m 31 #[.val (.ref a), .val (.int (100 : Int32)), .unset, .unset] [(.ref a), (.long (100 : Int64))])
  obtain ⟨T7, X7, e7, st7⟩ := getF X6 hx hZ hown (host := "") (Or.inl (hw _ (List.mem_of_getElem? (i := 19) rfl))) Via.refl e6 F2_x6 (g := (mkF m 31 #[.val (.ref a), .val (.int (100 : Int32)), .unset, .unset] [(.ref a), (.long (100 : Int64))])) rfl rfl (hb hby own_d4_31)
  refine own_st st7 ?_
  show own_Rch p e below _ T7 (mkF m 34 #[.val (.ref a), .val (.int (100 : Int32)), .unset, .unset] [(.int (3 : Int32)), (.long (100 : Int64))])
  refine own_st (fun _ kt => XS.i2l X7.here hx rfl (hb hby own_d4_34) rfl kt) ?_
  show own_Rch p e below _ T7 (mkF m 35 #[.val (.ref a), .val (.int (100 : Int32)), .unset, .unset] [(.long (3 : Int64)), (.long (100 : Int64))])
  refine own_st (fun _ kt => XS.lmul X7.here hx rfl (hb hby own_d4_35) rfl kt) ?_
  show own_Rch p e below _ T7 (mkF m 36 #[.val (.ref a), .val (.int (100 : Int32)), .unset, .unset] [(.long (300 : Int64))])
  refine own_st (X7.ldc2Long hx hown (mvT hZ (hw _ (List.mem_of_getElem? (i := 47) rfl))) (g := (mkF m 36 #[.val (.ref a), .val (.int (100 : Int32)), .unset, .unset] [(.long (300 : Int64))])) rfl (hb hby own_d4_36)) ?_
  show own_Rch p e below _ T7 (mkF m 39 #[.val (.ref a), .val (.int (100 : Int32)), .unset, .unset] [(.long (99 : Int64)), (.long (300 : Int64))])
  refine own_st (fun _ kt => XS.ladd X7.here hx rfl (hb hby own_d4_39) rfl kt) ?_
  show own_Rch p e below _ T7 (mkF m 40 #[.val (.ref a), .val (.int (100 : Int32)), .unset, .unset] [(.long (399 : Int64))])
  refine own_st (X7.ldc2Long hx hown (mvT hZ (hw _ (List.mem_of_getElem? (i := 48) rfl))) (g := (mkF m 40 #[.val (.ref a), .val (.int (100 : Int32)), .unset, .unset] [(.long (399 : Int64))])) rfl (hb hby own_d4_40)) ?_
  show own_Rch p e below _ T7 (mkF m 43 #[.val (.ref a), .val (.int (100 : Int32)), .unset, .unset] [(.long (100 : Int64)), (.long (399 : Int64))])
  refine own_st (fun _ kt => XS.ldiv X7.here hx rfl (hb hby own_d4_43) rfl (by decide) kt) ?_
  show own_Rch p e below _ T7 (mkF m 44 #[.val (.ref a), .val (.int (100 : Int32)), .unset, .unset] [(.long (3 : Int64))])
  refine own_st (fun _ kt => XS.lstoreN X7.here hx rfl (hb hby own_d4_44) rfl (l' := #[.val (.ref a), .val (.int (100 : Int32)), .val (.long (3 : Int64)), .second]) rfl kt) ?_
  show own_Rch p e below _ T7 (mkF m 45 #[.val (.ref a), .val (.int (100 : Int32)), .val (.long (3 : Int64)), .second] [])
  refine own_st (fun _ kt => XS.aloadN X7.here hx rfl (hb hby own_d4_45) rfl rfl  kt) ?_
  show own_Rch p e below _ T7 (mkF m 46 #[.val (.ref a), .val (.int (100 : Int32)), .val (.long (3 : Int64)), .second] [(.ref a)])
  obtain ⟨T8, X8, e8, st8⟩ := getF X7 hx hZ hown (host := "") (Or.inl (hw _ (List.mem_of_getElem? (i := 10) rfl))) Via.refl e7 F1_x6 (g := (mkF m 46 #[.val (.ref a), .val (.int (100 : Int32)), .val (.long (3 : Int64)), .second] [(.ref a)])) rfl rfl (hb hby own_d4_46)
  refine own_st st8 ?_
  show own_Rch p e below _ T8 (mkF m 49 #[.val (.ref a), .val (.int (100 : Int32)), .val (.long (3 : Int64)), .second] [(.ref b)])
  refine own_st (fun _ kt => XS.lloadN X8.here hx rfl (hb hby own_d4_49) rfl  kt) ?_
  show own_Rch p e below _ T8 (mkF m 50 #[.val (.ref a), .val (.int (100 : Int32)), .val (.long (3 : Int64)), .second] [(.long (3 : Int64)), (.ref b)])
  refine own_st (fun _ kt => XS.lconst X8.here hx rfl (hb hby own_d4_50) kt) ?_
  show own_Rch p e below _ T8 (mkF m 51 #[.val (.ref a), .val (.int (100 : Int32)), .val (.long (3 : Int64)), .second] [(.long (1 : Int64)), (.long (3 : Int64)), (.ref b)])
  obtain ⟨_, _, ⟨T9, L9, k9, n9⟩, -, X9, ⟨Lc9, hQ9, l9, y9, z9⟩, st9⟩ := Jvm.LawKit.callS X8 hx (y := (⟨"java/lang/Math", "max", "(JJ)J"⟩ : MethodName)) hown (mvT hZ (hw _ (List.mem_of_getElem? (i := 49) rfl))) (mvT hZ (hw _ (List.mem_of_getElem? (i := 50) rfl))) (mvT hZ (hw _ (List.mem_of_getElem? (i := 51) rfl))) (mvT hZ (hw _ (List.mem_of_getElem? (i := 52) rfl))) (by decide) (backOf (W := 1) (own_lmaxl l Z a0 hw [] (3 : Int64) (1 : Int64) h6 n0 O0_x6 (by decide)) hZ (hw _ (List.mem_of_getElem? (i := 52) rfl)) (hw _ (List.mem_of_getElem? (i := 51) rfl)) (by decide) (by decide)) (g := (mkF m 51 #[.val (.ref a), .val (.int (100 : Int32)), .val (.long (3 : Int64)), .second] [(.long (1 : Int64)), (.long (3 : Int64)), (.ref b)])) rfl (by rw [hml]; rfl) (argsL := [(.long (3 : Int64)), (.long (1 : Int64))]) (rest := [(.ref b)]) (lenOf own_pd0 rfl) rfl (by show 2 * 0 + _ ≤ _; exact Nat.le_of_eq rfl) (hb hby own_d4_51) (fun _ _ => ⟨rfl, e8, (by decide : 0 + 0 ≤ _), (by decide : 0 + 0 ≤ _)⟩)
  dsimp only [Pt.U, Pt.locs, Pt.cells, Pt.slots] at X9 l9 y9 z9 st9 hQ9
  subst l9 y9 z9
  obtain ⟨rfl, N9q, hh9⟩ := hQ9
  have N9 := Fr.app N6 N9q
  refine own_st st9 ?_
  show own_Rch p e below _ T9 (mkF m 54 #[.val (.ref a), .val (.int (100 : Int32)), .val (.long (3 : Int64)), .second] [(.long (3 : Int64)), (.ref b)])
  refine own_st (fun _ kt => XS.l2i X9.here hx rfl (hb hby own_d4_54) rfl kt) ?_
  show own_Rch p e below _ T9 (mkF m 55 #[.val (.ref a), .val (.int (100 : Int32)), .val (.long (3 : Int64)), .second] [(.int (3 : Int32)), (.ref b)])
  refine own_st (fun _ kt => XS.iconst X9.here hx rfl (hb hby own_d4_55) kt) ?_
  show own_Rch p e below _ T9 (mkF m 56 #[.val (.ref a), .val (.int (100 : Int32)), .val (.long (3 : Int64)), .second] [(.int (1 : Int32)), (.int (3 : Int32)), (.ref b)])
  refine own_st (fun _ kt => XS.isub X9.here hx rfl (hb hby own_d4_56) rfl kt) ?_
  show own_Rch p e below _ T9 (mkF m 57 #[.val (.ref a), .val (.int (100 : Int32)), .val (.long (3 : Int64)), .second] [(.int (2 : Int32)), (.ref b)])
  obtain ⟨cl10, Ar10, q10, S10, M10, H10, G10⟩ := id Vb5_x6
  have hin10 : ¬ ((2 : Int32) < 0 ∨ cl10.slots.size ≤ ((2 : Int32)).toNatClampNeg) := inb_of S10 ⟨by decide, by decide⟩
  refine own_st (X9.laload hx (j := (2 : Int32)) (v := (.long w2)) (by rw [hh9]; exact Ar10.1) (State.isArrayOf_alike (hZ).alike Ar10.2.1) Ar10.2.2 hin10 (H10.at hin10 rfl) (g := (mkF m 57 #[.val (.ref a), .val (.int (100 : Int32)), .val (.long (3 : Int64)), .second] [(.int (2 : Int32)), (.ref b)])) rfl rfl (hb hby own_d4_57)) ?_
  show own_Rch p e below _ T9 (mkF m 58 #[.val (.ref a), .val (.int (100 : Int32)), .val (.long (3 : Int64)), .second] [(.long w2)])
  refine own_retL X9 hx Bd.notSynchronized Bd.returns (hb hby own_d4_58) (by decide) (by decide) ?_
  rw [hh9]
  exact ⟨_, _, _, hs5, rfl, N9, K0_x6, EA_x6, F1_x6, F2_x6, Fw6, Vb5_x6⟩
def own_Q_own_pc_50_3_1 (Z : State) (a : Addr) (b : Addr) (k : ClassId) (y0 : Int64) (y1 : Int64) (y2 : Int64) (y3 : Int64) (h0 : Heap) (n0 : Nat) (v : Option Value) (h : Heap) (L : List Loc) : Prop := v = some (.long y1) ∧ Fr n0 L ∧ h = h0
set_option maxRecDepth 65536 in
set_option maxHeartbeats 40000000 in
theorem own_pc_50_3_1 (l : Launch) (Z : State) (a0 : Array Value) (hw : ∀ d ∈ tables_1, d.before a0 Z = true) (ws : List Jvm.Cond) (a : Addr) (b : Addr) (k : ClassId) (y0 : Int64) (y1 : Int64) (y2 : Int64) (y3 : Int64) (h0 : Heap) (n0 : Nat) (O0 : Old Z n0 h0) (EA : Exa Z h0 a "com/example/respite/respite/cli/Latencies") (F1 : Fld Z h0 a "com/example/respite/respite/cli/Latencies" "nanos" "[J" (.ref b)) (F2 : Fld Z h0 a "com/example/respite/respite/cli/Latencies" "count" "I" (.int (3 : Int32))) (F3 : Fld Z h0 a "com/example/respite/respite/cli/Latencies" "sorted" "Z" (.int (1 : Int32))) (VB : Arv Z h0 b k .long (1024 : Int32) [(.long y0), (.long y1), (.long y2), (.long y3)] (.long (0 : Int64))) (ga : n0 ≤ a) (gb : n0 ≤ b) (hab : a ≠ b) :
    MetFree l (⟨"com/example/respite/respite/cli/Latencies", "percentile", "(I)J"⟩ : MethodName) (head1 (Jvm.Cond.code (⟨"com/example/respite/respite/cli/Latencies", "percentile", "(I)J"⟩ : MethodName) prog_8_method_5_code 4 (some .long) :: ws) ({ frames := 1, cells := 0, slots := 0, locals := 16 } : Room)) (fun args_ U => args_ = #[(.ref a), (.int (50 : Int32))] ∧ Z.Warmed39 U.vm ∧ U.heap = h0) (fun _ _ _ _ _ => True) (fun _ U o U' => ∃ v L, o = .returned v ∧ (own_Q_own_pc_50_3_1 Z a b k y0 y1 y2 y3 h0 n0) v U'.heap L ∧ FrameEnd U o U' L ({ frames := 1, cells := 0, slots := 0, locals := 16 } : Room).cells ({ frames := 1, cells := 0, slots := 0, locals := 16 } : Room).slots) := by
  refine MetFree.of_bodySF (plainFor_of_name own_pn1) hisR ?_
  intro p e s m args below meth c s₁ Bd hml0 hP hK
  obtain ⟨rfl, hZ, hh⟩ := hP
  have hx := Bd.exec
  have hby := Bd.bytes
  have hml : c.maxLocals = 4 := hml0
  have hown : s.vm.findClass "com/example/respite/respite/cli/Latencies" = some m.cls := findClass_of_methodNamed Bd.named
  have hnm := (name_of_methodNamed Bd.named Bd.method).1
  have X0 : Stand p l e ({ frames := 1, cells := 0, slots := 0, locals := 16 } : Room) s m #[(.ref a), (.int (50 : Int32))] below meth c s₁ [] 0 0 := Stand.of_body Bd
  have e0 : s₁.heap = h0 := by rw [← hh, Bd.state]; rfl
  have N0 := Fr.nil n0
  refine own_close (s := s) (Q := (own_Q_own_pc_50_3_1 Z a b k y0 y1 y2 y3 h0 n0)) (C := (({ frames := 1, cells := 0, slots := 0, locals := 16 } : Room)).cells) (N := (({ frames := 1, cells := 0, slots := 0, locals := 16 } : Room)).slots) (own_st (fun _ kt => castTop (own_ef4 m a (50 : Int32)) kt) ?_)
  show own_Rch p e below _ s₁ (mkF m 0 #[.val (.ref a), .val (.int (50 : Int32)), .unset, .unset] [])
  refine own_st (fun _ kt => XS.aloadN X0.here hx rfl (hb hby own_d4_0) rfl rfl  kt) ?_
  show own_Rch p e below _ s₁ (mkF m 1 #[.val (.ref a), .val (.int (50 : Int32)), .unset, .unset] [(.ref a)])
  obtain ⟨cq1, q1a, q1b⟩ := EA.cell
  obtain ⟨_, _, ⟨T1, L1, k1, n1⟩, -, X1, ⟨Lc1, hQ1, l1, y1, z1⟩, st1⟩ := X0.privateBack hx (y := (⟨"com/example/respite/respite/cli/Latencies", "requireAny", "()V"⟩ : MethodName)) hown (mvT hZ (hw _ (List.mem_of_getElem? (i := 26) rfl))) (mvT hZ (hw _ (List.mem_of_getElem? (i := 27) rfl))) (mvT hZ (own_psel (hw _ (List.mem_of_getElem? (i := 1) rfl)) (hw _ (List.mem_of_getElem? (i := 28) rfl)) (hw _ (List.mem_of_getElem? (i := 27) rfl)))) (Cond.privateMethod_at (mvP hZ (hw _ (List.mem_of_getElem? (i := 28) rfl)) (args := #[]))) (mvT hZ (hw _ (List.mem_of_getElem? (i := 29) rfl))) (by decide) (backOf (W := 0) (own_req l Z a0 hw [] a (3 : Int32) h0 n0 O0 F2 (by decide)) hZ (hw _ (List.mem_of_getElem? (i := 29) rfl)) (hw _ (List.mem_of_getElem? (i := 2) rfl)) (by decide) (by decide)) (g := (mkF m 1 #[.val (.ref a), .val (.int (50 : Int32)), .unset, .unset] [(.ref a)])) rfl (by rw [hml]; rfl) (Steps.refl _) (a := a) (by rw [e0]; exact q1a) q1b (argsL := []) (rest := []) (lenOf own_pd5 rfl) rfl (by show 2 * 0 + _ ≤ _; exact Nat.le_of_eq rfl) (hb hby own_d4_1) (fun _ _ => ⟨rfl, e0, (by decide : 0 + 0 ≤ _), (by decide : 0 + 0 ≤ _)⟩)
  dsimp only [Pt.U, Pt.locs, Pt.cells, Pt.slots] at X1 l1 y1 z1 st1 hQ1
  subst l1 y1 z1
  obtain ⟨rfl, N1q, hh1⟩ := hQ1
  have N1 := Fr.app N0 N1q
  refine own_st (fun _ kt => st1.trans kt) ?_
  show own_Rch p e below _ T1 (mkF m 4 #[.val (.ref a), .val (.int (50 : Int32)), .unset, .unset] [])
  refine own_st (fun _ kt => XS.aloadN X1.here hx rfl (hb hby own_d4_4) rfl rfl  kt) ?_
  show own_Rch p e below _ T1 (mkF m 5 #[.val (.ref a), .val (.int (50 : Int32)), .unset, .unset] [(.ref a)])
  obtain ⟨T2, X2, e2, st2⟩ := getF X1 hx hZ hown (host := "") (Or.inl (hw _ (List.mem_of_getElem? (i := 12) rfl))) Via.refl hh1 F3 (g := (mkF m 5 #[.val (.ref a), .val (.int (50 : Int32)), .unset, .unset] [(.ref a)])) rfl rfl (hb hby own_d4_5)
  refine own_st st2 ?_
  show own_Rch p e below _ T2 (mkF m 8 #[.val (.ref a), .val (.int (50 : Int32)), .unset, .unset] [(.int (1 : Int32))])
  refine own_st (fun _ kt => XS.ifYes X2.here hx rfl (pc0 := 8) (pc' := 28) rfl (hb hby own_d4_8) rfl ((if0 _ _).trans (feq ((by decide) : ¬ ((1 : Int32) = (0 : Int32)))).2) (by decide) (by decide) kt) ?_
  show own_Rch p e below _ T2 (mkF m 28 #[.val (.ref a), .val (.int (50 : Int32)), .unset, .unset] [])
  refine own_st (fun _ kt => XS.iloadN X2.here hx rfl (hb hby own_d4_28) rfl  kt) ?_
  show own_Rch p e below _ T2 (mkF m 29 #[.val (.ref a), .val (.int (50 : Int32)), .unset, .unset] [(.int (50 : Int32))])
  refine own_st (fun _ kt => XS.i2l X2.here hx rfl (hb hby own_d4_29) rfl kt) ?_
  show own_Rch p e below _ T2 (mkF m 30 #[.val (.ref a), .val (.int (50 : Int32)), .unset, .unset] [(.long (50 : Int64))])
  refine own_st (fun _ kt => XS.aloadN X2.here hx rfl (hb hby own_d4_30) rfl rfl  kt) ?_
  show own_Rch p e below _ T2 (mkF m 31 #[.val (.ref a), .val (.int (50 : Int32)), .unset, .unset] [(.ref a), (.long (50 : Int64))])
  obtain ⟨T3, X3, e3, st3⟩ := getF X2 hx hZ hown (host := "") (Or.inl (hw _ (List.mem_of_getElem? (i := 19) rfl))) Via.refl e2 F2 (g := (mkF m 31 #[.val (.ref a), .val (.int (50 : Int32)), .unset, .unset] [(.ref a), (.long (50 : Int64))])) rfl rfl (hb hby own_d4_31)
  refine own_st st3 ?_
  show own_Rch p e below _ T3 (mkF m 34 #[.val (.ref a), .val (.int (50 : Int32)), .unset, .unset] [(.int (3 : Int32)), (.long (50 : Int64))])
  refine own_st (fun _ kt => XS.i2l X3.here hx rfl (hb hby own_d4_34) rfl kt) ?_
  show own_Rch p e below _ T3 (mkF m 35 #[.val (.ref a), .val (.int (50 : Int32)), .unset, .unset] [(.long (3 : Int64)), (.long (50 : Int64))])
  refine own_st (fun _ kt => XS.lmul X3.here hx rfl (hb hby own_d4_35) rfl kt) ?_
  show own_Rch p e below _ T3 (mkF m 36 #[.val (.ref a), .val (.int (50 : Int32)), .unset, .unset] [(.long (150 : Int64))])
  refine own_st (X3.ldc2Long hx hown (mvT hZ (hw _ (List.mem_of_getElem? (i := 47) rfl))) (g := (mkF m 36 #[.val (.ref a), .val (.int (50 : Int32)), .unset, .unset] [(.long (150 : Int64))])) rfl (hb hby own_d4_36)) ?_
  show own_Rch p e below _ T3 (mkF m 39 #[.val (.ref a), .val (.int (50 : Int32)), .unset, .unset] [(.long (99 : Int64)), (.long (150 : Int64))])
  refine own_st (fun _ kt => XS.ladd X3.here hx rfl (hb hby own_d4_39) rfl kt) ?_
  show own_Rch p e below _ T3 (mkF m 40 #[.val (.ref a), .val (.int (50 : Int32)), .unset, .unset] [(.long (249 : Int64))])
  refine own_st (X3.ldc2Long hx hown (mvT hZ (hw _ (List.mem_of_getElem? (i := 48) rfl))) (g := (mkF m 40 #[.val (.ref a), .val (.int (50 : Int32)), .unset, .unset] [(.long (249 : Int64))])) rfl (hb hby own_d4_40)) ?_
  show own_Rch p e below _ T3 (mkF m 43 #[.val (.ref a), .val (.int (50 : Int32)), .unset, .unset] [(.long (100 : Int64)), (.long (249 : Int64))])
  refine own_st (fun _ kt => XS.ldiv X3.here hx rfl (hb hby own_d4_43) rfl (by decide) kt) ?_
  show own_Rch p e below _ T3 (mkF m 44 #[.val (.ref a), .val (.int (50 : Int32)), .unset, .unset] [(.long (2 : Int64))])
  refine own_st (fun _ kt => XS.lstoreN X3.here hx rfl (hb hby own_d4_44) rfl (l' := #[.val (.ref a), .val (.int (50 : Int32)), .val (.long (2 : Int64)), .second]) rfl kt) ?_
  show own_Rch p e below _ T3 (mkF m 45 #[.val (.ref a), .val (.int (50 : Int32)), .val (.long (2 : Int64)), .second] [])
  refine own_st (fun _ kt => XS.aloadN X3.here hx rfl (hb hby own_d4_45) rfl rfl  kt) ?_
  show own_Rch p e below _ T3 (mkF m 46 #[.val (.ref a), .val (.int (50 : Int32)), .val (.long (2 : Int64)), .second] [(.ref a)])
  obtain ⟨T4, X4, e4, st4⟩ := getF X3 hx hZ hown (host := "") (Or.inl (hw _ (List.mem_of_getElem? (i := 10) rfl))) Via.refl e3 F1 (g := (mkF m 46 #[.val (.ref a), .val (.int (50 : Int32)), .val (.long (2 : Int64)), .second] [(.ref a)])) rfl rfl (hb hby own_d4_46)
  refine own_st st4 ?_
  show own_Rch p e below _ T4 (mkF m 49 #[.val (.ref a), .val (.int (50 : Int32)), .val (.long (2 : Int64)), .second] [(.ref b)])
  refine own_st (fun _ kt => XS.lloadN X4.here hx rfl (hb hby own_d4_49) rfl  kt) ?_
  show own_Rch p e below _ T4 (mkF m 50 #[.val (.ref a), .val (.int (50 : Int32)), .val (.long (2 : Int64)), .second] [(.long (2 : Int64)), (.ref b)])
  refine own_st (fun _ kt => XS.lconst X4.here hx rfl (hb hby own_d4_50) kt) ?_
  show own_Rch p e below _ T4 (mkF m 51 #[.val (.ref a), .val (.int (50 : Int32)), .val (.long (2 : Int64)), .second] [(.long (1 : Int64)), (.long (2 : Int64)), (.ref b)])
  obtain ⟨_, _, ⟨T5, L5, k5, n5⟩, -, X5, ⟨Lc5, hQ5, l5, y5, z5⟩, st5⟩ := Jvm.LawKit.callS X4 hx (y := (⟨"java/lang/Math", "max", "(JJ)J"⟩ : MethodName)) hown (mvT hZ (hw _ (List.mem_of_getElem? (i := 49) rfl))) (mvT hZ (hw _ (List.mem_of_getElem? (i := 50) rfl))) (mvT hZ (hw _ (List.mem_of_getElem? (i := 51) rfl))) (mvT hZ (hw _ (List.mem_of_getElem? (i := 52) rfl))) (by decide) (backOf (W := 1) (own_lmaxl l Z a0 hw [] (2 : Int64) (1 : Int64) h0 n0 O0 (by decide)) hZ (hw _ (List.mem_of_getElem? (i := 52) rfl)) (hw _ (List.mem_of_getElem? (i := 51) rfl)) (by decide) (by decide)) (g := (mkF m 51 #[.val (.ref a), .val (.int (50 : Int32)), .val (.long (2 : Int64)), .second] [(.long (1 : Int64)), (.long (2 : Int64)), (.ref b)])) rfl (by rw [hml]; rfl) (argsL := [(.long (2 : Int64)), (.long (1 : Int64))]) (rest := [(.ref b)]) (lenOf own_pd0 rfl) rfl (by show 2 * 0 + _ ≤ _; exact Nat.le_of_eq rfl) (hb hby own_d4_51) (fun _ _ => ⟨rfl, e4, (by decide : 0 + 0 ≤ _), (by decide : 0 + 0 ≤ _)⟩)
  dsimp only [Pt.U, Pt.locs, Pt.cells, Pt.slots] at X5 l5 y5 z5 st5 hQ5
  subst l5 y5 z5
  obtain ⟨rfl, N5q, hh5⟩ := hQ5
  have N5 := Fr.app N1 N5q
  refine own_st st5 ?_
  show own_Rch p e below _ T5 (mkF m 54 #[.val (.ref a), .val (.int (50 : Int32)), .val (.long (2 : Int64)), .second] [(.long (2 : Int64)), (.ref b)])
  refine own_st (fun _ kt => XS.l2i X5.here hx rfl (hb hby own_d4_54) rfl kt) ?_
  show own_Rch p e below _ T5 (mkF m 55 #[.val (.ref a), .val (.int (50 : Int32)), .val (.long (2 : Int64)), .second] [(.int (2 : Int32)), (.ref b)])
  refine own_st (fun _ kt => XS.iconst X5.here hx rfl (hb hby own_d4_55) kt) ?_
  show own_Rch p e below _ T5 (mkF m 56 #[.val (.ref a), .val (.int (50 : Int32)), .val (.long (2 : Int64)), .second] [(.int (1 : Int32)), (.int (2 : Int32)), (.ref b)])
  refine own_st (fun _ kt => XS.isub X5.here hx rfl (hb hby own_d4_56) rfl kt) ?_
  show own_Rch p e below _ T5 (mkF m 57 #[.val (.ref a), .val (.int (50 : Int32)), .val (.long (2 : Int64)), .second] [(.int (1 : Int32)), (.ref b)])
  obtain ⟨cl6, Ar6, q6, S6, M6, H6, G6⟩ := id VB
  have hin6 : ¬ ((1 : Int32) < 0 ∨ cl6.slots.size ≤ ((1 : Int32)).toNatClampNeg) := inb_of S6 ⟨by decide, by decide⟩
  refine own_st (X5.laload hx (j := (1 : Int32)) (v := (.long y1)) (by rw [hh5]; exact Ar6.1) (State.isArrayOf_alike (hZ).alike Ar6.2.1) Ar6.2.2 hin6 (H6.at hin6 rfl) (g := (mkF m 57 #[.val (.ref a), .val (.int (50 : Int32)), .val (.long (2 : Int64)), .second] [(.int (1 : Int32)), (.ref b)])) rfl rfl (hb hby own_d4_57)) ?_
  show own_Rch p e below _ T5 (mkF m 58 #[.val (.ref a), .val (.int (50 : Int32)), .val (.long (2 : Int64)), .second] [(.long y1)])
  refine own_retL X5 hx Bd.notSynchronized Bd.returns (hb hby own_d4_58) (by decide) (by decide) ?_
  rw [hh5]
  exact ⟨rfl, N5, rfl⟩
def own_Q_own_pc_1_1_0 (Z : State) (a : Addr) (b : Addr) (k : ClassId) (y0 : Int64) (y1 : Int64) (y2 : Int64) (y3 : Int64) (h0 : Heap) (n0 : Nat) (v : Option Value) (h : Heap) (L : List Loc) : Prop := ∃ w0, own_isort [y0] = [w0] ∧ v = some (.long w0) ∧ Fr n0 L ∧ Keep h0 h [a, b] ∧ Exa Z h a "com/example/respite/respite/cli/Latencies" ∧ Fld Z h a "com/example/respite/respite/cli/Latencies" "nanos" "[J" (.ref b) ∧ Fld Z h a "com/example/respite/respite/cli/Latencies" "count" "I" (.int (1 : Int32)) ∧ Fld Z h a "com/example/respite/respite/cli/Latencies" "sorted" "Z" (.int (1 : Int32)) ∧ Arv Z h b k .long (1024 : Int32) [(.long w0), (.long y1), (.long y2), (.long y3)] (.long (0 : Int64))
set_option maxRecDepth 65536 in
set_option maxHeartbeats 40000000 in
theorem own_pc_1_1_0 (l : Launch) (Z : State) (a0 : Array Value) (hw : ∀ d ∈ tables_1, d.before a0 Z = true) (ws : List Jvm.Cond) (a : Addr) (b : Addr) (k : ClassId) (y0 : Int64) (y1 : Int64) (y2 : Int64) (y3 : Int64) (h0 : Heap) (n0 : Nat) (O0 : Old Z n0 h0) (EA : Exa Z h0 a "com/example/respite/respite/cli/Latencies") (F1 : Fld Z h0 a "com/example/respite/respite/cli/Latencies" "nanos" "[J" (.ref b)) (F2 : Fld Z h0 a "com/example/respite/respite/cli/Latencies" "count" "I" (.int (1 : Int32))) (F3 : Fld Z h0 a "com/example/respite/respite/cli/Latencies" "sorted" "Z" (.int (0 : Int32))) (VB : Arv Z h0 b k .long (1024 : Int32) [(.long y0), (.long y1), (.long y2), (.long y3)] (.long (0 : Int64))) (ga : n0 ≤ a) (gb : n0 ≤ b) (hab : a ≠ b) :
    MetFree l (⟨"com/example/respite/respite/cli/Latencies", "percentile", "(I)J"⟩ : MethodName) (head1 (Jvm.Cond.code (⟨"com/example/respite/respite/cli/Latencies", "percentile", "(I)J"⟩ : MethodName) prog_8_method_5_code 4 (some .long) :: ws) ({ frames := 4, cells := 0, slots := 0, locals := 86 } : Room)) (fun args_ U => args_ = #[(.ref a), (.int (1 : Int32))] ∧ Z.Warmed39 U.vm ∧ U.heap = h0) (fun _ _ _ _ _ => True) (fun _ U o U' => ∃ v L, o = .returned v ∧ (own_Q_own_pc_1_1_0 Z a b k y0 y1 y2 y3 h0 n0) v U'.heap L ∧ FrameEnd U o U' L ({ frames := 4, cells := 0, slots := 0, locals := 86 } : Room).cells ({ frames := 4, cells := 0, slots := 0, locals := 86 } : Room).slots) := by
  refine MetFree.of_bodySF (plainFor_of_name own_pn1) hisR ?_
  intro p e s m args below meth c s₁ Bd hml0 hP hK
  obtain ⟨rfl, hZ, hh⟩ := hP
  have hx := Bd.exec
  have hby := Bd.bytes
  have hml : c.maxLocals = 4 := hml0
  have hown : s.vm.findClass "com/example/respite/respite/cli/Latencies" = some m.cls := findClass_of_methodNamed Bd.named
  have hnm := (name_of_methodNamed Bd.named Bd.method).1
  have X0 : Stand p l e ({ frames := 4, cells := 0, slots := 0, locals := 86 } : Room) s m #[(.ref a), (.int (1 : Int32))] below meth c s₁ [] 0 0 := Stand.of_body Bd
  have e0 : s₁.heap = h0 := by rw [← hh, Bd.state]; rfl
  have N0 := Fr.nil n0
  refine own_close (s := s) (Q := (own_Q_own_pc_1_1_0 Z a b k y0 y1 y2 y3 h0 n0)) (C := (({ frames := 4, cells := 0, slots := 0, locals := 86 } : Room)).cells) (N := (({ frames := 4, cells := 0, slots := 0, locals := 86 } : Room)).slots) (own_st (fun _ kt => castTop (own_ef4 m a (1 : Int32)) kt) ?_)
  have K0 := Keep.refl h0 [a, b]
  show own_Rch p e below _ s₁ (mkF m 0 #[.val (.ref a), .val (.int (1 : Int32)), .unset, .unset] [])
  refine own_st (fun _ kt => XS.aloadN X0.here hx rfl (hb hby own_d4_0) rfl rfl  kt) ?_
  show own_Rch p e below _ s₁ (mkF m 1 #[.val (.ref a), .val (.int (1 : Int32)), .unset, .unset] [(.ref a)])
  obtain ⟨cq1, q1a, q1b⟩ := EA.cell
  obtain ⟨_, _, ⟨T1, L1, k1, n1⟩, -, X1, ⟨Lc1, hQ1, l1, y1, z1⟩, st1⟩ := X0.privateBack hx (y := (⟨"com/example/respite/respite/cli/Latencies", "requireAny", "()V"⟩ : MethodName)) hown (mvT hZ (hw _ (List.mem_of_getElem? (i := 26) rfl))) (mvT hZ (hw _ (List.mem_of_getElem? (i := 27) rfl))) (mvT hZ (own_psel (hw _ (List.mem_of_getElem? (i := 1) rfl)) (hw _ (List.mem_of_getElem? (i := 28) rfl)) (hw _ (List.mem_of_getElem? (i := 27) rfl)))) (Cond.privateMethod_at (mvP hZ (hw _ (List.mem_of_getElem? (i := 28) rfl)) (args := #[]))) (mvT hZ (hw _ (List.mem_of_getElem? (i := 29) rfl))) (by decide) (backOf (W := 0) (own_req l Z a0 hw [] a (1 : Int32) h0 n0 O0 F2 (by decide)) hZ (hw _ (List.mem_of_getElem? (i := 29) rfl)) (hw _ (List.mem_of_getElem? (i := 2) rfl)) (by decide) (by decide)) (g := (mkF m 1 #[.val (.ref a), .val (.int (1 : Int32)), .unset, .unset] [(.ref a)])) rfl (by rw [hml]; rfl) (Steps.refl _) (a := a) (by rw [e0]; exact q1a) q1b (argsL := []) (rest := []) (lenOf own_pd5 rfl) rfl (by show 2 * 0 + _ ≤ _; exact Nat.le_of_eq rfl) (hb hby own_d4_1) (fun _ _ => ⟨rfl, e0, (by decide : 0 + 0 ≤ _), (by decide : 0 + 0 ≤ _)⟩)
  dsimp only [Pt.U, Pt.locs, Pt.cells, Pt.slots] at X1 l1 y1 z1 st1 hQ1
  subst l1 y1 z1
  obtain ⟨rfl, N1q, hh1⟩ := hQ1
  have N1 := Fr.app N0 N1q
  refine own_st (fun _ kt => st1.trans kt) ?_
  show own_Rch p e below _ T1 (mkF m 4 #[.val (.ref a), .val (.int (1 : Int32)), .unset, .unset] [])
  refine own_st (fun _ kt => XS.aloadN X1.here hx rfl (hb hby own_d4_4) rfl rfl  kt) ?_
  show own_Rch p e below _ T1 (mkF m 5 #[.val (.ref a), .val (.int (1 : Int32)), .unset, .unset] [(.ref a)])
  obtain ⟨T2, X2, e2, st2⟩ := getF X1 hx hZ hown (host := "") (Or.inl (hw _ (List.mem_of_getElem? (i := 12) rfl))) Via.refl hh1 F3 (g := (mkF m 5 #[.val (.ref a), .val (.int (1 : Int32)), .unset, .unset] [(.ref a)])) rfl rfl (hb hby own_d4_5)
  refine own_st st2 ?_
  show own_Rch p e below _ T2 (mkF m 8 #[.val (.ref a), .val (.int (1 : Int32)), .unset, .unset] [(.int (0 : Int32))])
  refine own_st (fun _ kt => XS.ifNo X2.here hx rfl (hb hby own_d4_8) rfl ((if0 _ _).trans (teq (rfl : (0 : Int32) = (0 : Int32))).2) kt) ?_
  show own_Rch p e below _ T2 (mkF m 11 #[.val (.ref a), .val (.int (1 : Int32)), .unset, .unset] [])
  refine own_st (fun _ kt => XS.aloadN X2.here hx rfl (hb hby own_d4_11) rfl rfl  kt) ?_
  show own_Rch p e below _ T2 (mkF m 12 #[.val (.ref a), .val (.int (1 : Int32)), .unset, .unset] [(.ref a)])
  obtain ⟨T3, X3, e3, st3⟩ := getF X2 hx hZ hown (host := "") (Or.inl (hw _ (List.mem_of_getElem? (i := 10) rfl))) Via.refl e2 F1 (g := (mkF m 12 #[.val (.ref a), .val (.int (1 : Int32)), .unset, .unset] [(.ref a)])) rfl rfl (hb hby own_d4_12)
  refine own_st st3 ?_
  show own_Rch p e below _ T3 (mkF m 15 #[.val (.ref a), .val (.int (1 : Int32)), .unset, .unset] [(.ref b)])
  refine own_st (fun _ kt => XS.iconst X3.here hx rfl (hb hby own_d4_15) kt) ?_
  show own_Rch p e below _ T3 (mkF m 16 #[.val (.ref a), .val (.int (1 : Int32)), .unset, .unset] [(.int (0 : Int32)), (.ref b)])
  refine own_st (fun _ kt => XS.aloadN X3.here hx rfl (hb hby own_d4_16) rfl rfl  kt) ?_
  show own_Rch p e below _ T3 (mkF m 17 #[.val (.ref a), .val (.int (1 : Int32)), .unset, .unset] [(.ref a), (.int (0 : Int32)), (.ref b)])
  obtain ⟨T4, X4, e4, st4⟩ := getF X3 hx hZ hown (host := "") (Or.inl (hw _ (List.mem_of_getElem? (i := 19) rfl))) Via.refl e3 F2 (g := (mkF m 17 #[.val (.ref a), .val (.int (1 : Int32)), .unset, .unset] [(.ref a), (.int (0 : Int32)), (.ref b)])) rfl rfl (hb hby own_d4_17)
  refine own_st st4 ?_
  show own_Rch p e below _ T4 (mkF m 20 #[.val (.ref a), .val (.int (1 : Int32)), .unset, .unset] [(.int (1 : Int32)), (.int (0 : Int32)), (.ref b)])
  obtain ⟨_, _, ⟨T5, L5, k5, n5⟩, -, X5, ⟨Lc5, hQ5, l5, y5, z5⟩, st5⟩ := Jvm.LawKit.callS X4 hx (y := (⟨"java/util/Arrays", "sort", "([JII)V"⟩ : MethodName)) hown (mvT hZ (hw _ (List.mem_of_getElem? (i := 30) rfl))) (mvT hZ (hw _ (List.mem_of_getElem? (i := 31) rfl))) (mvT hZ (hw _ (List.mem_of_getElem? (i := 32) rfl))) (mvT hZ (hw _ (List.mem_of_getElem? (i := 33) rfl))) (by decide) (backOf (W := 0) (own_as1 l Z a0 hw [] b k y0 y1 y2 y3 h0 n0 O0 VB gb) hZ (hw _ (List.mem_of_getElem? (i := 33) rfl)) (hw _ (List.mem_of_getElem? (i := 32) rfl)) (by decide) (by decide)) (g := (mkF m 20 #[.val (.ref a), .val (.int (1 : Int32)), .unset, .unset] [(.int (1 : Int32)), (.int (0 : Int32)), (.ref b)])) rfl (by rw [hml]; rfl) (argsL := [(.ref b), (.int (0 : Int32)), (.int (1 : Int32))]) (rest := []) (lenOf own_pd1 rfl) rfl (by show 2 * 0 + _ ≤ _; exact Nat.le_of_eq rfl) (hb hby own_d4_20) (fun _ _ => ⟨rfl, e4, (by decide : 0 + 0 ≤ _), (by decide : 0 + 0 ≤ _)⟩)
  dsimp only [Pt.U, Pt.locs, Pt.cells, Pt.slots] at X5 l5 y5 z5 st5 hQ5
  subst l5 y5 z5
  obtain ⟨w0, hs5, rfl, N5q, K5, Vb5⟩ := hQ5
  have N5 := Fr.app N1 N5q
  refine own_st st5 ?_
  have O0_x5 := O0.keep K5 (allS gb all0)
  have EA_x5 := EA.keep K5
  have F1_x5 := F1.keep K5 (ninS hab nin0)
  have F2_x5 := F2.keep K5 (ninS hab nin0)
  have F3_x5 := F3.keep K5 (ninS hab nin0)
  have K0_x5 := K0.trans K5 (allS (Or.inl (List.mem_of_getElem? (i := 1) rfl)) all0)
  show own_Rch p e below _ T5 (mkF m 23 #[.val (.ref a), .val (.int (1 : Int32)), .unset, .unset] [])
  refine own_st (fun _ kt => XS.aloadN X5.here hx rfl (hb hby own_d4_23) rfl rfl  kt) ?_
  show own_Rch p e below _ T5 (mkF m 24 #[.val (.ref a), .val (.int (1 : Int32)), .unset, .unset] [(.ref a)])
  refine own_st (fun _ kt => XS.iconst X5.here hx rfl (hb hby own_d4_24) kt) ?_
  show own_Rch p e below _ T5 (mkF m 25 #[.val (.ref a), .val (.int (1 : Int32)), .unset, .unset] [(.int (1 : Int32)), (.ref a)])
  obtain ⟨T6, h6, X6, e6, W6, st6⟩ := putFN X5 hx hZ hown (hw _ (List.mem_of_getElem? (i := 12) rfl)) Via.refl rfl F3_x5 EA_x5 (Or.inl (hw _ (List.mem_of_getElem? (i := 13) rfl))) (hw _ (List.mem_of_getElem? (i := 1) rfl)) (ty := .boolean) (v' := (.int (1 : Int32))) (by decide) rfl (by decide) (g := (mkF m 25 #[.val (.ref a), .val (.int (1 : Int32)), .unset, .unset] [(.int (1 : Int32)), (.ref a)])) rfl rfl (hb hby own_d4_25)
  refine own_st st6 ?_
  have Fw6 := F3_x5.same W6
  have N6 := Fr.snoc X6 N5 ga
  have O0_x6 := O0_x5.wr W6 ga
  have EA_x6 := EA_x5.wr W6
  have F1_x6 := F1_x5.other W6 (Or.inr (slot_ne (Or.inl (hw _ (List.mem_of_getElem? (i := 11) rfl))) (Or.inl (hw _ (List.mem_of_getElem? (i := 13) rfl))) (by decide) (t := (.array .long)) (t' := .boolean) (by decide) (by decide)))
  have F2_x6 := F2_x5.other W6 (Or.inr (slot_ne (Or.inl (hw _ (List.mem_of_getElem? (i := 20) rfl))) (Or.inl (hw _ (List.mem_of_getElem? (i := 13) rfl))) (by decide) (t := .int) (t' := .boolean) (by decide) (by decide)))
  have K0_x6 := K0_x5.wr W6 (Or.inl (List.mem_of_getElem? (i := 0) rfl))
  have Vb5_x6 := Vb5.other W6 (Ne.symm hab)
  show own_Rch p e below _ T6 (mkF m 28 #[.val (.ref a), .val (.int (1 : Int32)), .unset, .unset] [])
  refine own_st (fun _ kt => XS.iloadN X6.here hx rfl (hb hby own_d4_28) rfl  kt) ?_
  show own_Rch p e below _ T6 (mkF m 29 #[.val (.ref a), .val (.int (1 : Int32)), .unset, .unset] [(.int (1 : Int32))])
  refine own_st (fun _ kt => XS.i2l X6.here hx rfl (hb hby own_d4_29) rfl kt) ?_
  show own_Rch p e below _ T6 (mkF m 30 #[.val (.ref a), .val (.int (1 : Int32)), .unset, .unset] [(.long (1 : Int64))])
  refine own_st (fun _ kt => XS.aloadN X6.here hx rfl (hb hby own_d4_30) rfl rfl  kt) ?_
  show own_Rch p e below _ T6 (mkF m 31 #[.val (.ref a), .val (.int (1 : Int32)), .unset, .unset] [(.ref a), (.long (1 : Int64))])
  obtain ⟨T7, X7, e7, st7⟩ := getF X6 hx hZ hown (host := "") (Or.inl (hw _ (List.mem_of_getElem? (i := 19) rfl))) Via.refl e6 F2_x6 (g := (mkF m 31 #[.val (.ref a), .val (.int (1 : Int32)), .unset, .unset] [(.ref a), (.long (1 : Int64))])) rfl rfl (hb hby own_d4_31)
  refine own_st st7 ?_
  show own_Rch p e below _ T7 (mkF m 34 #[.val (.ref a), .val (.int (1 : Int32)), .unset, .unset] [(.int (1 : Int32)), (.long (1 : Int64))])
  refine own_st (fun _ kt => XS.i2l X7.here hx rfl (hb hby own_d4_34) rfl kt) ?_
  show own_Rch p e below _ T7 (mkF m 35 #[.val (.ref a), .val (.int (1 : Int32)), .unset, .unset] [(.long (1 : Int64)), (.long (1 : Int64))])
  refine own_st (fun _ kt => XS.lmul X7.here hx rfl (hb hby own_d4_35) rfl kt) ?_
  show own_Rch p e below _ T7 (mkF m 36 #[.val (.ref a), .val (.int (1 : Int32)), .unset, .unset] [(.long (1 : Int64))])
  refine own_st (X7.ldc2Long hx hown (mvT hZ (hw _ (List.mem_of_getElem? (i := 47) rfl))) (g := (mkF m 36 #[.val (.ref a), .val (.int (1 : Int32)), .unset, .unset] [(.long (1 : Int64))])) rfl (hb hby own_d4_36)) ?_
  show own_Rch p e below _ T7 (mkF m 39 #[.val (.ref a), .val (.int (1 : Int32)), .unset, .unset] [(.long (99 : Int64)), (.long (1 : Int64))])
  refine own_st (fun _ kt => XS.ladd X7.here hx rfl (hb hby own_d4_39) rfl kt) ?_
  show own_Rch p e below _ T7 (mkF m 40 #[.val (.ref a), .val (.int (1 : Int32)), .unset, .unset] [(.long (100 : Int64))])
  refine own_st (X7.ldc2Long hx hown (mvT hZ (hw _ (List.mem_of_getElem? (i := 48) rfl))) (g := (mkF m 40 #[.val (.ref a), .val (.int (1 : Int32)), .unset, .unset] [(.long (100 : Int64))])) rfl (hb hby own_d4_40)) ?_
  show own_Rch p e below _ T7 (mkF m 43 #[.val (.ref a), .val (.int (1 : Int32)), .unset, .unset] [(.long (100 : Int64)), (.long (100 : Int64))])
  refine own_st (fun _ kt => XS.ldiv X7.here hx rfl (hb hby own_d4_43) rfl (by decide) kt) ?_
  show own_Rch p e below _ T7 (mkF m 44 #[.val (.ref a), .val (.int (1 : Int32)), .unset, .unset] [(.long (1 : Int64))])
  refine own_st (fun _ kt => XS.lstoreN X7.here hx rfl (hb hby own_d4_44) rfl (l' := #[.val (.ref a), .val (.int (1 : Int32)), .val (.long (1 : Int64)), .second]) rfl kt) ?_
  show own_Rch p e below _ T7 (mkF m 45 #[.val (.ref a), .val (.int (1 : Int32)), .val (.long (1 : Int64)), .second] [])
  refine own_st (fun _ kt => XS.aloadN X7.here hx rfl (hb hby own_d4_45) rfl rfl  kt) ?_
  show own_Rch p e below _ T7 (mkF m 46 #[.val (.ref a), .val (.int (1 : Int32)), .val (.long (1 : Int64)), .second] [(.ref a)])
  obtain ⟨T8, X8, e8, st8⟩ := getF X7 hx hZ hown (host := "") (Or.inl (hw _ (List.mem_of_getElem? (i := 10) rfl))) Via.refl e7 F1_x6 (g := (mkF m 46 #[.val (.ref a), .val (.int (1 : Int32)), .val (.long (1 : Int64)), .second] [(.ref a)])) rfl rfl (hb hby own_d4_46)
  refine own_st st8 ?_
  show own_Rch p e below _ T8 (mkF m 49 #[.val (.ref a), .val (.int (1 : Int32)), .val (.long (1 : Int64)), .second] [(.ref b)])
  refine own_st (fun _ kt => XS.lloadN X8.here hx rfl (hb hby own_d4_49) rfl  kt) ?_
  show own_Rch p e below _ T8 (mkF m 50 #[.val (.ref a), .val (.int (1 : Int32)), .val (.long (1 : Int64)), .second] [(.long (1 : Int64)), (.ref b)])
  refine own_st (fun _ kt => XS.lconst X8.here hx rfl (hb hby own_d4_50) kt) ?_
  show own_Rch p e below _ T8 (mkF m 51 #[.val (.ref a), .val (.int (1 : Int32)), .val (.long (1 : Int64)), .second] [(.long (1 : Int64)), (.long (1 : Int64)), (.ref b)])
  obtain ⟨_, _, ⟨T9, L9, k9, n9⟩, -, X9, ⟨Lc9, hQ9, l9, y9, z9⟩, st9⟩ := Jvm.LawKit.callS X8 hx (y := (⟨"java/lang/Math", "max", "(JJ)J"⟩ : MethodName)) hown (mvT hZ (hw _ (List.mem_of_getElem? (i := 49) rfl))) (mvT hZ (hw _ (List.mem_of_getElem? (i := 50) rfl))) (mvT hZ (hw _ (List.mem_of_getElem? (i := 51) rfl))) (mvT hZ (hw _ (List.mem_of_getElem? (i := 52) rfl))) (by decide) (backOf (W := 1) (own_lmaxl l Z a0 hw [] (1 : Int64) (1 : Int64) h6 n0 O0_x6 (by decide)) hZ (hw _ (List.mem_of_getElem? (i := 52) rfl)) (hw _ (List.mem_of_getElem? (i := 51) rfl)) (by decide) (by decide)) (g := (mkF m 51 #[.val (.ref a), .val (.int (1 : Int32)), .val (.long (1 : Int64)), .second] [(.long (1 : Int64)), (.long (1 : Int64)), (.ref b)])) rfl (by rw [hml]; rfl) (argsL := [(.long (1 : Int64)), (.long (1 : Int64))]) (rest := [(.ref b)]) (lenOf own_pd0 rfl) rfl (by show 2 * 0 + _ ≤ _; exact Nat.le_of_eq rfl) (hb hby own_d4_51) (fun _ _ => ⟨rfl, e8, (by decide : 0 + 0 ≤ _), (by decide : 0 + 0 ≤ _)⟩)
  dsimp only [Pt.U, Pt.locs, Pt.cells, Pt.slots] at X9 l9 y9 z9 st9 hQ9
  subst l9 y9 z9
  obtain ⟨rfl, N9q, hh9⟩ := hQ9
  have N9 := Fr.app N6 N9q
  refine own_st st9 ?_
  show own_Rch p e below _ T9 (mkF m 54 #[.val (.ref a), .val (.int (1 : Int32)), .val (.long (1 : Int64)), .second] [(.long (1 : Int64)), (.ref b)])
  refine own_st (fun _ kt => XS.l2i X9.here hx rfl (hb hby own_d4_54) rfl kt) ?_
  show own_Rch p e below _ T9 (mkF m 55 #[.val (.ref a), .val (.int (1 : Int32)), .val (.long (1 : Int64)), .second] [(.int (1 : Int32)), (.ref b)])
  refine own_st (fun _ kt => XS.iconst X9.here hx rfl (hb hby own_d4_55) kt) ?_
  show own_Rch p e below _ T9 (mkF m 56 #[.val (.ref a), .val (.int (1 : Int32)), .val (.long (1 : Int64)), .second] [(.int (1 : Int32)), (.int (1 : Int32)), (.ref b)])
  refine own_st (fun _ kt => XS.isub X9.here hx rfl (hb hby own_d4_56) rfl kt) ?_
  show own_Rch p e below _ T9 (mkF m 57 #[.val (.ref a), .val (.int (1 : Int32)), .val (.long (1 : Int64)), .second] [(.int (0 : Int32)), (.ref b)])
  obtain ⟨cl10, Ar10, q10, S10, M10, H10, G10⟩ := id Vb5_x6
  have hin10 : ¬ ((0 : Int32) < 0 ∨ cl10.slots.size ≤ ((0 : Int32)).toNatClampNeg) := inb_of S10 ⟨by decide, by decide⟩
  refine own_st (X9.laload hx (j := (0 : Int32)) (v := (.long w0)) (by rw [hh9]; exact Ar10.1) (State.isArrayOf_alike (hZ).alike Ar10.2.1) Ar10.2.2 hin10 (H10.at hin10 rfl) (g := (mkF m 57 #[.val (.ref a), .val (.int (1 : Int32)), .val (.long (1 : Int64)), .second] [(.int (0 : Int32)), (.ref b)])) rfl rfl (hb hby own_d4_57)) ?_
  show own_Rch p e below _ T9 (mkF m 58 #[.val (.ref a), .val (.int (1 : Int32)), .val (.long (1 : Int64)), .second] [(.long w0)])
  refine own_retL X9 hx Bd.notSynchronized Bd.returns (hb hby own_d4_58) (by decide) (by decide) ?_
  rw [hh9]
  exact ⟨_, hs5, rfl, N9, K0_x6, EA_x6, F1_x6, F2_x6, Fw6, Vb5_x6⟩
def own_Q_own_pc_1_2_0 (Z : State) (a : Addr) (b : Addr) (k : ClassId) (y0 : Int64) (y1 : Int64) (y2 : Int64) (y3 : Int64) (h0 : Heap) (n0 : Nat) (v : Option Value) (h : Heap) (L : List Loc) : Prop := ∃ w0 w1, own_isort [y0, y1] = [w0, w1] ∧ v = some (.long w0) ∧ Fr n0 L ∧ Keep h0 h [a, b] ∧ Exa Z h a "com/example/respite/respite/cli/Latencies" ∧ Fld Z h a "com/example/respite/respite/cli/Latencies" "nanos" "[J" (.ref b) ∧ Fld Z h a "com/example/respite/respite/cli/Latencies" "count" "I" (.int (2 : Int32)) ∧ Fld Z h a "com/example/respite/respite/cli/Latencies" "sorted" "Z" (.int (1 : Int32)) ∧ Arv Z h b k .long (1024 : Int32) [(.long w0), (.long w1), (.long y2), (.long y3)] (.long (0 : Int64))
set_option maxRecDepth 65536 in
set_option maxHeartbeats 40000000 in
theorem own_pc_1_2_0 (l : Launch) (Z : State) (a0 : Array Value) (hw : ∀ d ∈ tables_1, d.before a0 Z = true) (ws : List Jvm.Cond) (a : Addr) (b : Addr) (k : ClassId) (y0 : Int64) (y1 : Int64) (y2 : Int64) (y3 : Int64) (h0 : Heap) (n0 : Nat) (O0 : Old Z n0 h0) (EA : Exa Z h0 a "com/example/respite/respite/cli/Latencies") (F1 : Fld Z h0 a "com/example/respite/respite/cli/Latencies" "nanos" "[J" (.ref b)) (F2 : Fld Z h0 a "com/example/respite/respite/cli/Latencies" "count" "I" (.int (2 : Int32))) (F3 : Fld Z h0 a "com/example/respite/respite/cli/Latencies" "sorted" "Z" (.int (0 : Int32))) (VB : Arv Z h0 b k .long (1024 : Int32) [(.long y0), (.long y1), (.long y2), (.long y3)] (.long (0 : Int64))) (ga : n0 ≤ a) (gb : n0 ≤ b) (hab : a ≠ b) :
    MetFree l (⟨"com/example/respite/respite/cli/Latencies", "percentile", "(I)J"⟩ : MethodName) (head1 (Jvm.Cond.code (⟨"com/example/respite/respite/cli/Latencies", "percentile", "(I)J"⟩ : MethodName) prog_8_method_5_code 4 (some .long) :: ws) ({ frames := 4, cells := 0, slots := 0, locals := 86 } : Room)) (fun args_ U => args_ = #[(.ref a), (.int (1 : Int32))] ∧ Z.Warmed39 U.vm ∧ U.heap = h0) (fun _ _ _ _ _ => True) (fun _ U o U' => ∃ v L, o = .returned v ∧ (own_Q_own_pc_1_2_0 Z a b k y0 y1 y2 y3 h0 n0) v U'.heap L ∧ FrameEnd U o U' L ({ frames := 4, cells := 0, slots := 0, locals := 86 } : Room).cells ({ frames := 4, cells := 0, slots := 0, locals := 86 } : Room).slots) := by
  refine MetFree.of_bodySF (plainFor_of_name own_pn1) hisR ?_
  intro p e s m args below meth c s₁ Bd hml0 hP hK
  obtain ⟨rfl, hZ, hh⟩ := hP
  have hx := Bd.exec
  have hby := Bd.bytes
  have hml : c.maxLocals = 4 := hml0
  have hown : s.vm.findClass "com/example/respite/respite/cli/Latencies" = some m.cls := findClass_of_methodNamed Bd.named
  have hnm := (name_of_methodNamed Bd.named Bd.method).1
  have X0 : Stand p l e ({ frames := 4, cells := 0, slots := 0, locals := 86 } : Room) s m #[(.ref a), (.int (1 : Int32))] below meth c s₁ [] 0 0 := Stand.of_body Bd
  have e0 : s₁.heap = h0 := by rw [← hh, Bd.state]; rfl
  have N0 := Fr.nil n0
  refine own_close (s := s) (Q := (own_Q_own_pc_1_2_0 Z a b k y0 y1 y2 y3 h0 n0)) (C := (({ frames := 4, cells := 0, slots := 0, locals := 86 } : Room)).cells) (N := (({ frames := 4, cells := 0, slots := 0, locals := 86 } : Room)).slots) (own_st (fun _ kt => castTop (own_ef4 m a (1 : Int32)) kt) ?_)
  have K0 := Keep.refl h0 [a, b]
  show own_Rch p e below _ s₁ (mkF m 0 #[.val (.ref a), .val (.int (1 : Int32)), .unset, .unset] [])
  refine own_st (fun _ kt => XS.aloadN X0.here hx rfl (hb hby own_d4_0) rfl rfl  kt) ?_
  show own_Rch p e below _ s₁ (mkF m 1 #[.val (.ref a), .val (.int (1 : Int32)), .unset, .unset] [(.ref a)])
  obtain ⟨cq1, q1a, q1b⟩ := EA.cell
  obtain ⟨_, _, ⟨T1, L1, k1, n1⟩, -, X1, ⟨Lc1, hQ1, l1, y1, z1⟩, st1⟩ := X0.privateBack hx (y := (⟨"com/example/respite/respite/cli/Latencies", "requireAny", "()V"⟩ : MethodName)) hown (mvT hZ (hw _ (List.mem_of_getElem? (i := 26) rfl))) (mvT hZ (hw _ (List.mem_of_getElem? (i := 27) rfl))) (mvT hZ (own_psel (hw _ (List.mem_of_getElem? (i := 1) rfl)) (hw _ (List.mem_of_getElem? (i := 28) rfl)) (hw _ (List.mem_of_getElem? (i := 27) rfl)))) (Cond.privateMethod_at (mvP hZ (hw _ (List.mem_of_getElem? (i := 28) rfl)) (args := #[]))) (mvT hZ (hw _ (List.mem_of_getElem? (i := 29) rfl))) (by decide) (backOf (W := 0) (own_req l Z a0 hw [] a (2 : Int32) h0 n0 O0 F2 (by decide)) hZ (hw _ (List.mem_of_getElem? (i := 29) rfl)) (hw _ (List.mem_of_getElem? (i := 2) rfl)) (by decide) (by decide)) (g := (mkF m 1 #[.val (.ref a), .val (.int (1 : Int32)), .unset, .unset] [(.ref a)])) rfl (by rw [hml]; rfl) (Steps.refl _) (a := a) (by rw [e0]; exact q1a) q1b (argsL := []) (rest := []) (lenOf own_pd5 rfl) rfl (by show 2 * 0 + _ ≤ _; exact Nat.le_of_eq rfl) (hb hby own_d4_1) (fun _ _ => ⟨rfl, e0, (by decide : 0 + 0 ≤ _), (by decide : 0 + 0 ≤ _)⟩)
  dsimp only [Pt.U, Pt.locs, Pt.cells, Pt.slots] at X1 l1 y1 z1 st1 hQ1
  subst l1 y1 z1
  obtain ⟨rfl, N1q, hh1⟩ := hQ1
  have N1 := Fr.app N0 N1q
  refine own_st (fun _ kt => st1.trans kt) ?_
  show own_Rch p e below _ T1 (mkF m 4 #[.val (.ref a), .val (.int (1 : Int32)), .unset, .unset] [])
  refine own_st (fun _ kt => XS.aloadN X1.here hx rfl (hb hby own_d4_4) rfl rfl  kt) ?_
  show own_Rch p e below _ T1 (mkF m 5 #[.val (.ref a), .val (.int (1 : Int32)), .unset, .unset] [(.ref a)])
  obtain ⟨T2, X2, e2, st2⟩ := getF X1 hx hZ hown (host := "") (Or.inl (hw _ (List.mem_of_getElem? (i := 12) rfl))) Via.refl hh1 F3 (g := (mkF m 5 #[.val (.ref a), .val (.int (1 : Int32)), .unset, .unset] [(.ref a)])) rfl rfl (hb hby own_d4_5)
  refine own_st st2 ?_
  show own_Rch p e below _ T2 (mkF m 8 #[.val (.ref a), .val (.int (1 : Int32)), .unset, .unset] [(.int (0 : Int32))])
  refine own_st (fun _ kt => XS.ifNo X2.here hx rfl (hb hby own_d4_8) rfl ((if0 _ _).trans (teq (rfl : (0 : Int32) = (0 : Int32))).2) kt) ?_
  show own_Rch p e below _ T2 (mkF m 11 #[.val (.ref a), .val (.int (1 : Int32)), .unset, .unset] [])
  refine own_st (fun _ kt => XS.aloadN X2.here hx rfl (hb hby own_d4_11) rfl rfl  kt) ?_
  show own_Rch p e below _ T2 (mkF m 12 #[.val (.ref a), .val (.int (1 : Int32)), .unset, .unset] [(.ref a)])
  obtain ⟨T3, X3, e3, st3⟩ := getF X2 hx hZ hown (host := "") (Or.inl (hw _ (List.mem_of_getElem? (i := 10) rfl))) Via.refl e2 F1 (g := (mkF m 12 #[.val (.ref a), .val (.int (1 : Int32)), .unset, .unset] [(.ref a)])) rfl rfl (hb hby own_d4_12)
  refine own_st st3 ?_
  show own_Rch p e below _ T3 (mkF m 15 #[.val (.ref a), .val (.int (1 : Int32)), .unset, .unset] [(.ref b)])
  refine own_st (fun _ kt => XS.iconst X3.here hx rfl (hb hby own_d4_15) kt) ?_
  show own_Rch p e below _ T3 (mkF m 16 #[.val (.ref a), .val (.int (1 : Int32)), .unset, .unset] [(.int (0 : Int32)), (.ref b)])
  refine own_st (fun _ kt => XS.aloadN X3.here hx rfl (hb hby own_d4_16) rfl rfl  kt) ?_
  show own_Rch p e below _ T3 (mkF m 17 #[.val (.ref a), .val (.int (1 : Int32)), .unset, .unset] [(.ref a), (.int (0 : Int32)), (.ref b)])
  obtain ⟨T4, X4, e4, st4⟩ := getF X3 hx hZ hown (host := "") (Or.inl (hw _ (List.mem_of_getElem? (i := 19) rfl))) Via.refl e3 F2 (g := (mkF m 17 #[.val (.ref a), .val (.int (1 : Int32)), .unset, .unset] [(.ref a), (.int (0 : Int32)), (.ref b)])) rfl rfl (hb hby own_d4_17)
  refine own_st st4 ?_
  show own_Rch p e below _ T4 (mkF m 20 #[.val (.ref a), .val (.int (1 : Int32)), .unset, .unset] [(.int (2 : Int32)), (.int (0 : Int32)), (.ref b)])
  obtain ⟨_, _, ⟨T5, L5, k5, n5⟩, -, X5, ⟨Lc5, hQ5, l5, y5, z5⟩, st5⟩ := Jvm.LawKit.callS X4 hx (y := (⟨"java/util/Arrays", "sort", "([JII)V"⟩ : MethodName)) hown (mvT hZ (hw _ (List.mem_of_getElem? (i := 30) rfl))) (mvT hZ (hw _ (List.mem_of_getElem? (i := 31) rfl))) (mvT hZ (hw _ (List.mem_of_getElem? (i := 32) rfl))) (mvT hZ (hw _ (List.mem_of_getElem? (i := 33) rfl))) (by decide) (backOf (W := 0) (own_as2 l Z a0 hw [] b k y0 y1 y2 y3 h0 n0 O0 VB gb) hZ (hw _ (List.mem_of_getElem? (i := 33) rfl)) (hw _ (List.mem_of_getElem? (i := 32) rfl)) (by decide) (by decide)) (g := (mkF m 20 #[.val (.ref a), .val (.int (1 : Int32)), .unset, .unset] [(.int (2 : Int32)), (.int (0 : Int32)), (.ref b)])) rfl (by rw [hml]; rfl) (argsL := [(.ref b), (.int (0 : Int32)), (.int (2 : Int32))]) (rest := []) (lenOf own_pd1 rfl) rfl (by show 2 * 0 + _ ≤ _; exact Nat.le_of_eq rfl) (hb hby own_d4_20) (fun _ _ => ⟨rfl, e4, (by decide : 0 + 0 ≤ _), (by decide : 0 + 0 ≤ _)⟩)
  dsimp only [Pt.U, Pt.locs, Pt.cells, Pt.slots] at X5 l5 y5 z5 st5 hQ5
  subst l5 y5 z5
  obtain ⟨w0, w1, hs5, rfl, N5q, K5, Vb5⟩ := hQ5
  have N5 := Fr.app N1 N5q
  refine own_st st5 ?_
  have O0_x5 := O0.keep K5 (allS gb all0)
  have EA_x5 := EA.keep K5
  have F1_x5 := F1.keep K5 (ninS hab nin0)
  have F2_x5 := F2.keep K5 (ninS hab nin0)
  have F3_x5 := F3.keep K5 (ninS hab nin0)
  have K0_x5 := K0.trans K5 (allS (Or.inl (List.mem_of_getElem? (i := 1) rfl)) all0)
  show own_Rch p e below _ T5 (mkF m 23 #[.val (.ref a), .val (.int (1 : Int32)), .unset, .unset] [])
  refine own_st (fun _ kt => XS.aloadN X5.here hx rfl (hb hby own_d4_23) rfl rfl  kt) ?_
  show own_Rch p e below _ T5 (mkF m 24 #[.val (.ref a), .val (.int (1 : Int32)), .unset, .unset] [(.ref a)])
  refine own_st (fun _ kt => XS.iconst X5.here hx rfl (hb hby own_d4_24) kt) ?_
  show own_Rch p e below _ T5 (mkF m 25 #[.val (.ref a), .val (.int (1 : Int32)), .unset, .unset] [(.int (1 : Int32)), (.ref a)])
  obtain ⟨T6, h6, X6, e6, W6, st6⟩ := putFN X5 hx hZ hown (hw _ (List.mem_of_getElem? (i := 12) rfl)) Via.refl rfl F3_x5 EA_x5 (Or.inl (hw _ (List.mem_of_getElem? (i := 13) rfl))) (hw _ (List.mem_of_getElem? (i := 1) rfl)) (ty := .boolean) (v' := (.int (1 : Int32))) (by decide) rfl (by decide) (g := (mkF m 25 #[.val (.ref a), .val (.int (1 : Int32)), .unset, .unset] [(.int (1 : Int32)), (.ref a)])) rfl rfl (hb hby own_d4_25)
  refine own_st st6 ?_
  have Fw6 := F3_x5.same W6
  have N6 := Fr.snoc X6 N5 ga
  have O0_x6 := O0_x5.wr W6 ga
  have EA_x6 := EA_x5.wr W6
  have F1_x6 := F1_x5.other W6 (Or.inr (slot_ne (Or.inl (hw _ (List.mem_of_getElem? (i := 11) rfl))) (Or.inl (hw _ (List.mem_of_getElem? (i := 13) rfl))) (by decide) (t := (.array .long)) (t' := .boolean) (by decide) (by decide)))
  have F2_x6 := F2_x5.other W6 (Or.inr (slot_ne (Or.inl (hw _ (List.mem_of_getElem? (i := 20) rfl))) (Or.inl (hw _ (List.mem_of_getElem? (i := 13) rfl))) (by decide) (t := .int) (t' := .boolean) (by decide) (by decide)))
  have K0_x6 := K0_x5.wr W6 (Or.inl (List.mem_of_getElem? (i := 0) rfl))
  have Vb5_x6 := Vb5.other W6 (Ne.symm hab)
  show own_Rch p e below _ T6 (mkF m 28 #[.val (.ref a), .val (.int (1 : Int32)), .unset, .unset] [])
  refine own_st (fun _ kt => XS.iloadN X6.here hx rfl (hb hby own_d4_28) rfl  kt) ?_
  show own_Rch p e below _ T6 (mkF m 29 #[.val (.ref a), .val (.int (1 : Int32)), .unset, .unset] [(.int (1 : Int32))])
  refine own_st (fun _ kt => XS.i2l X6.here hx rfl (hb hby own_d4_29) rfl kt) ?_
  show own_Rch p e below _ T6 (mkF m 30 #[.val (.ref a), .val (.int (1 : Int32)), .unset, .unset] [(.long (1 : Int64))])
  refine own_st (fun _ kt => XS.aloadN X6.here hx rfl (hb hby own_d4_30) rfl rfl  kt) ?_
  show own_Rch p e below _ T6 (mkF m 31 #[.val (.ref a), .val (.int (1 : Int32)), .unset, .unset] [(.ref a), (.long (1 : Int64))])
  obtain ⟨T7, X7, e7, st7⟩ := getF X6 hx hZ hown (host := "") (Or.inl (hw _ (List.mem_of_getElem? (i := 19) rfl))) Via.refl e6 F2_x6 (g := (mkF m 31 #[.val (.ref a), .val (.int (1 : Int32)), .unset, .unset] [(.ref a), (.long (1 : Int64))])) rfl rfl (hb hby own_d4_31)
  refine own_st st7 ?_
  show own_Rch p e below _ T7 (mkF m 34 #[.val (.ref a), .val (.int (1 : Int32)), .unset, .unset] [(.int (2 : Int32)), (.long (1 : Int64))])
  refine own_st (fun _ kt => XS.i2l X7.here hx rfl (hb hby own_d4_34) rfl kt) ?_
  show own_Rch p e below _ T7 (mkF m 35 #[.val (.ref a), .val (.int (1 : Int32)), .unset, .unset] [(.long (2 : Int64)), (.long (1 : Int64))])
  refine own_st (fun _ kt => XS.lmul X7.here hx rfl (hb hby own_d4_35) rfl kt) ?_
  show own_Rch p e below _ T7 (mkF m 36 #[.val (.ref a), .val (.int (1 : Int32)), .unset, .unset] [(.long (2 : Int64))])
  refine own_st (X7.ldc2Long hx hown (mvT hZ (hw _ (List.mem_of_getElem? (i := 47) rfl))) (g := (mkF m 36 #[.val (.ref a), .val (.int (1 : Int32)), .unset, .unset] [(.long (2 : Int64))])) rfl (hb hby own_d4_36)) ?_
  show own_Rch p e below _ T7 (mkF m 39 #[.val (.ref a), .val (.int (1 : Int32)), .unset, .unset] [(.long (99 : Int64)), (.long (2 : Int64))])
  refine own_st (fun _ kt => XS.ladd X7.here hx rfl (hb hby own_d4_39) rfl kt) ?_
  show own_Rch p e below _ T7 (mkF m 40 #[.val (.ref a), .val (.int (1 : Int32)), .unset, .unset] [(.long (101 : Int64))])
  refine own_st (X7.ldc2Long hx hown (mvT hZ (hw _ (List.mem_of_getElem? (i := 48) rfl))) (g := (mkF m 40 #[.val (.ref a), .val (.int (1 : Int32)), .unset, .unset] [(.long (101 : Int64))])) rfl (hb hby own_d4_40)) ?_
  show own_Rch p e below _ T7 (mkF m 43 #[.val (.ref a), .val (.int (1 : Int32)), .unset, .unset] [(.long (100 : Int64)), (.long (101 : Int64))])
  refine own_st (fun _ kt => XS.ldiv X7.here hx rfl (hb hby own_d4_43) rfl (by decide) kt) ?_
  show own_Rch p e below _ T7 (mkF m 44 #[.val (.ref a), .val (.int (1 : Int32)), .unset, .unset] [(.long (1 : Int64))])
  refine own_st (fun _ kt => XS.lstoreN X7.here hx rfl (hb hby own_d4_44) rfl (l' := #[.val (.ref a), .val (.int (1 : Int32)), .val (.long (1 : Int64)), .second]) rfl kt) ?_
  show own_Rch p e below _ T7 (mkF m 45 #[.val (.ref a), .val (.int (1 : Int32)), .val (.long (1 : Int64)), .second] [])
  refine own_st (fun _ kt => XS.aloadN X7.here hx rfl (hb hby own_d4_45) rfl rfl  kt) ?_
  show own_Rch p e below _ T7 (mkF m 46 #[.val (.ref a), .val (.int (1 : Int32)), .val (.long (1 : Int64)), .second] [(.ref a)])
  obtain ⟨T8, X8, e8, st8⟩ := getF X7 hx hZ hown (host := "") (Or.inl (hw _ (List.mem_of_getElem? (i := 10) rfl))) Via.refl e7 F1_x6 (g := (mkF m 46 #[.val (.ref a), .val (.int (1 : Int32)), .val (.long (1 : Int64)), .second] [(.ref a)])) rfl rfl (hb hby own_d4_46)
  refine own_st st8 ?_
  show own_Rch p e below _ T8 (mkF m 49 #[.val (.ref a), .val (.int (1 : Int32)), .val (.long (1 : Int64)), .second] [(.ref b)])
  refine own_st (fun _ kt => XS.lloadN X8.here hx rfl (hb hby own_d4_49) rfl  kt) ?_
  show own_Rch p e below _ T8 (mkF m 50 #[.val (.ref a), .val (.int (1 : Int32)), .val (.long (1 : Int64)), .second] [(.long (1 : Int64)), (.ref b)])
  refine own_st (fun _ kt => XS.lconst X8.here hx rfl (hb hby own_d4_50) kt) ?_
  show own_Rch p e below _ T8 (mkF m 51 #[.val (.ref a), .val (.int (1 : Int32)), .val (.long (1 : Int64)), .second] [(.long (1 : Int64)), (.long (1 : Int64)), (.ref b)])
  obtain ⟨_, _, ⟨T9, L9, k9, n9⟩, -, X9, ⟨Lc9, hQ9, l9, y9, z9⟩, st9⟩ := Jvm.LawKit.callS X8 hx (y := (⟨"java/lang/Math", "max", "(JJ)J"⟩ : MethodName)) hown (mvT hZ (hw _ (List.mem_of_getElem? (i := 49) rfl))) (mvT hZ (hw _ (List.mem_of_getElem? (i := 50) rfl))) (mvT hZ (hw _ (List.mem_of_getElem? (i := 51) rfl))) (mvT hZ (hw _ (List.mem_of_getElem? (i := 52) rfl))) (by decide) (backOf (W := 1) (own_lmaxl l Z a0 hw [] (1 : Int64) (1 : Int64) h6 n0 O0_x6 (by decide)) hZ (hw _ (List.mem_of_getElem? (i := 52) rfl)) (hw _ (List.mem_of_getElem? (i := 51) rfl)) (by decide) (by decide)) (g := (mkF m 51 #[.val (.ref a), .val (.int (1 : Int32)), .val (.long (1 : Int64)), .second] [(.long (1 : Int64)), (.long (1 : Int64)), (.ref b)])) rfl (by rw [hml]; rfl) (argsL := [(.long (1 : Int64)), (.long (1 : Int64))]) (rest := [(.ref b)]) (lenOf own_pd0 rfl) rfl (by show 2 * 0 + _ ≤ _; exact Nat.le_of_eq rfl) (hb hby own_d4_51) (fun _ _ => ⟨rfl, e8, (by decide : 0 + 0 ≤ _), (by decide : 0 + 0 ≤ _)⟩)
  dsimp only [Pt.U, Pt.locs, Pt.cells, Pt.slots] at X9 l9 y9 z9 st9 hQ9
  subst l9 y9 z9
  obtain ⟨rfl, N9q, hh9⟩ := hQ9
  have N9 := Fr.app N6 N9q
  refine own_st st9 ?_
  show own_Rch p e below _ T9 (mkF m 54 #[.val (.ref a), .val (.int (1 : Int32)), .val (.long (1 : Int64)), .second] [(.long (1 : Int64)), (.ref b)])
  refine own_st (fun _ kt => XS.l2i X9.here hx rfl (hb hby own_d4_54) rfl kt) ?_
  show own_Rch p e below _ T9 (mkF m 55 #[.val (.ref a), .val (.int (1 : Int32)), .val (.long (1 : Int64)), .second] [(.int (1 : Int32)), (.ref b)])
  refine own_st (fun _ kt => XS.iconst X9.here hx rfl (hb hby own_d4_55) kt) ?_
  show own_Rch p e below _ T9 (mkF m 56 #[.val (.ref a), .val (.int (1 : Int32)), .val (.long (1 : Int64)), .second] [(.int (1 : Int32)), (.int (1 : Int32)), (.ref b)])
  refine own_st (fun _ kt => XS.isub X9.here hx rfl (hb hby own_d4_56) rfl kt) ?_
  show own_Rch p e below _ T9 (mkF m 57 #[.val (.ref a), .val (.int (1 : Int32)), .val (.long (1 : Int64)), .second] [(.int (0 : Int32)), (.ref b)])
  obtain ⟨cl10, Ar10, q10, S10, M10, H10, G10⟩ := id Vb5_x6
  have hin10 : ¬ ((0 : Int32) < 0 ∨ cl10.slots.size ≤ ((0 : Int32)).toNatClampNeg) := inb_of S10 ⟨by decide, by decide⟩
  refine own_st (X9.laload hx (j := (0 : Int32)) (v := (.long w0)) (by rw [hh9]; exact Ar10.1) (State.isArrayOf_alike (hZ).alike Ar10.2.1) Ar10.2.2 hin10 (H10.at hin10 rfl) (g := (mkF m 57 #[.val (.ref a), .val (.int (1 : Int32)), .val (.long (1 : Int64)), .second] [(.int (0 : Int32)), (.ref b)])) rfl rfl (hb hby own_d4_57)) ?_
  show own_Rch p e below _ T9 (mkF m 58 #[.val (.ref a), .val (.int (1 : Int32)), .val (.long (1 : Int64)), .second] [(.long w0)])
  refine own_retL X9 hx Bd.notSynchronized Bd.returns (hb hby own_d4_58) (by decide) (by decide) ?_
  rw [hh9]
  exact ⟨_, _, hs5, rfl, N9, K0_x6, EA_x6, F1_x6, F2_x6, Fw6, Vb5_x6⟩
def own_Q_own_pc_1_3_0 (Z : State) (a : Addr) (b : Addr) (k : ClassId) (y0 : Int64) (y1 : Int64) (y2 : Int64) (y3 : Int64) (h0 : Heap) (n0 : Nat) (v : Option Value) (h : Heap) (L : List Loc) : Prop := ∃ w0 w1 w2, own_isort [y0, y1, y2] = [w0, w1, w2] ∧ v = some (.long w0) ∧ Fr n0 L ∧ Keep h0 h [a, b] ∧ Exa Z h a "com/example/respite/respite/cli/Latencies" ∧ Fld Z h a "com/example/respite/respite/cli/Latencies" "nanos" "[J" (.ref b) ∧ Fld Z h a "com/example/respite/respite/cli/Latencies" "count" "I" (.int (3 : Int32)) ∧ Fld Z h a "com/example/respite/respite/cli/Latencies" "sorted" "Z" (.int (1 : Int32)) ∧ Arv Z h b k .long (1024 : Int32) [(.long w0), (.long w1), (.long w2), (.long y3)] (.long (0 : Int64))
set_option maxRecDepth 65536 in
set_option maxHeartbeats 40000000 in
theorem own_pc_1_3_0 (l : Launch) (Z : State) (a0 : Array Value) (hw : ∀ d ∈ tables_1, d.before a0 Z = true) (ws : List Jvm.Cond) (a : Addr) (b : Addr) (k : ClassId) (y0 : Int64) (y1 : Int64) (y2 : Int64) (y3 : Int64) (h0 : Heap) (n0 : Nat) (O0 : Old Z n0 h0) (EA : Exa Z h0 a "com/example/respite/respite/cli/Latencies") (F1 : Fld Z h0 a "com/example/respite/respite/cli/Latencies" "nanos" "[J" (.ref b)) (F2 : Fld Z h0 a "com/example/respite/respite/cli/Latencies" "count" "I" (.int (3 : Int32))) (F3 : Fld Z h0 a "com/example/respite/respite/cli/Latencies" "sorted" "Z" (.int (0 : Int32))) (VB : Arv Z h0 b k .long (1024 : Int32) [(.long y0), (.long y1), (.long y2), (.long y3)] (.long (0 : Int64))) (ga : n0 ≤ a) (gb : n0 ≤ b) (hab : a ≠ b) :
    MetFree l (⟨"com/example/respite/respite/cli/Latencies", "percentile", "(I)J"⟩ : MethodName) (head1 (Jvm.Cond.code (⟨"com/example/respite/respite/cli/Latencies", "percentile", "(I)J"⟩ : MethodName) prog_8_method_5_code 4 (some .long) :: ws) ({ frames := 4, cells := 0, slots := 0, locals := 86 } : Room)) (fun args_ U => args_ = #[(.ref a), (.int (1 : Int32))] ∧ Z.Warmed39 U.vm ∧ U.heap = h0) (fun _ _ _ _ _ => True) (fun _ U o U' => ∃ v L, o = .returned v ∧ (own_Q_own_pc_1_3_0 Z a b k y0 y1 y2 y3 h0 n0) v U'.heap L ∧ FrameEnd U o U' L ({ frames := 4, cells := 0, slots := 0, locals := 86 } : Room).cells ({ frames := 4, cells := 0, slots := 0, locals := 86 } : Room).slots) := by
  refine MetFree.of_bodySF (plainFor_of_name own_pn1) hisR ?_
  intro p e s m args below meth c s₁ Bd hml0 hP hK
  obtain ⟨rfl, hZ, hh⟩ := hP
  have hx := Bd.exec
  have hby := Bd.bytes
  have hml : c.maxLocals = 4 := hml0
  have hown : s.vm.findClass "com/example/respite/respite/cli/Latencies" = some m.cls := findClass_of_methodNamed Bd.named
  have hnm := (name_of_methodNamed Bd.named Bd.method).1
  have X0 : Stand p l e ({ frames := 4, cells := 0, slots := 0, locals := 86 } : Room) s m #[(.ref a), (.int (1 : Int32))] below meth c s₁ [] 0 0 := Stand.of_body Bd
  have e0 : s₁.heap = h0 := by rw [← hh, Bd.state]; rfl
  have N0 := Fr.nil n0
  refine own_close (s := s) (Q := (own_Q_own_pc_1_3_0 Z a b k y0 y1 y2 y3 h0 n0)) (C := (({ frames := 4, cells := 0, slots := 0, locals := 86 } : Room)).cells) (N := (({ frames := 4, cells := 0, slots := 0, locals := 86 } : Room)).slots) (own_st (fun _ kt => castTop (own_ef4 m a (1 : Int32)) kt) ?_)
  have K0 := Keep.refl h0 [a, b]
  show own_Rch p e below _ s₁ (mkF m 0 #[.val (.ref a), .val (.int (1 : Int32)), .unset, .unset] [])
  refine own_st (fun _ kt => XS.aloadN X0.here hx rfl (hb hby own_d4_0) rfl rfl  kt) ?_
  show own_Rch p e below _ s₁ (mkF m 1 #[.val (.ref a), .val (.int (1 : Int32)), .unset, .unset] [(.ref a)])
  obtain ⟨cq1, q1a, q1b⟩ := EA.cell
  obtain ⟨_, _, ⟨T1, L1, k1, n1⟩, -, X1, ⟨Lc1, hQ1, l1, y1, z1⟩, st1⟩ := X0.privateBack hx (y := (⟨"com/example/respite/respite/cli/Latencies", "requireAny", "()V"⟩ : MethodName)) hown (mvT hZ (hw _ (List.mem_of_getElem? (i := 26) rfl))) (mvT hZ (hw _ (List.mem_of_getElem? (i := 27) rfl))) (mvT hZ (own_psel (hw _ (List.mem_of_getElem? (i := 1) rfl)) (hw _ (List.mem_of_getElem? (i := 28) rfl)) (hw _ (List.mem_of_getElem? (i := 27) rfl)))) (Cond.privateMethod_at (mvP hZ (hw _ (List.mem_of_getElem? (i := 28) rfl)) (args := #[]))) (mvT hZ (hw _ (List.mem_of_getElem? (i := 29) rfl))) (by decide) (backOf (W := 0) (own_req l Z a0 hw [] a (3 : Int32) h0 n0 O0 F2 (by decide)) hZ (hw _ (List.mem_of_getElem? (i := 29) rfl)) (hw _ (List.mem_of_getElem? (i := 2) rfl)) (by decide) (by decide)) (g := (mkF m 1 #[.val (.ref a), .val (.int (1 : Int32)), .unset, .unset] [(.ref a)])) rfl (by rw [hml]; rfl) (Steps.refl _) (a := a) (by rw [e0]; exact q1a) q1b (argsL := []) (rest := []) (lenOf own_pd5 rfl) rfl (by show 2 * 0 + _ ≤ _; exact Nat.le_of_eq rfl) (hb hby own_d4_1) (fun _ _ => ⟨rfl, e0, (by decide : 0 + 0 ≤ _), (by decide : 0 + 0 ≤ _)⟩)
  dsimp only [Pt.U, Pt.locs, Pt.cells, Pt.slots] at X1 l1 y1 z1 st1 hQ1
  subst l1 y1 z1
  obtain ⟨rfl, N1q, hh1⟩ := hQ1
  have N1 := Fr.app N0 N1q
  refine own_st (fun _ kt => st1.trans kt) ?_
  show own_Rch p e below _ T1 (mkF m 4 #[.val (.ref a), .val (.int (1 : Int32)), .unset, .unset] [])
  refine own_st (fun _ kt => XS.aloadN X1.here hx rfl (hb hby own_d4_4) rfl rfl  kt) ?_
  show own_Rch p e below _ T1 (mkF m 5 #[.val (.ref a), .val (.int (1 : Int32)), .unset, .unset] [(.ref a)])
  obtain ⟨T2, X2, e2, st2⟩ := getF X1 hx hZ hown (host := "") (Or.inl (hw _ (List.mem_of_getElem? (i := 12) rfl))) Via.refl hh1 F3 (g := (mkF m 5 #[.val (.ref a), .val (.int (1 : Int32)), .unset, .unset] [(.ref a)])) rfl rfl (hb hby own_d4_5)
  refine own_st st2 ?_
  show own_Rch p e below _ T2 (mkF m 8 #[.val (.ref a), .val (.int (1 : Int32)), .unset, .unset] [(.int (0 : Int32))])
  refine own_st (fun _ kt => XS.ifNo X2.here hx rfl (hb hby own_d4_8) rfl ((if0 _ _).trans (teq (rfl : (0 : Int32) = (0 : Int32))).2) kt) ?_
  show own_Rch p e below _ T2 (mkF m 11 #[.val (.ref a), .val (.int (1 : Int32)), .unset, .unset] [])
  refine own_st (fun _ kt => XS.aloadN X2.here hx rfl (hb hby own_d4_11) rfl rfl  kt) ?_
  show own_Rch p e below _ T2 (mkF m 12 #[.val (.ref a), .val (.int (1 : Int32)), .unset, .unset] [(.ref a)])
  obtain ⟨T3, X3, e3, st3⟩ := getF X2 hx hZ hown (host := "") (Or.inl (hw _ (List.mem_of_getElem? (i := 10) rfl))) Via.refl e2 F1 (g := (mkF m 12 #[.val (.ref a), .val (.int (1 : Int32)), .unset, .unset] [(.ref a)])) rfl rfl (hb hby own_d4_12)
  refine own_st st3 ?_
  show own_Rch p e below _ T3 (mkF m 15 #[.val (.ref a), .val (.int (1 : Int32)), .unset, .unset] [(.ref b)])
  refine own_st (fun _ kt => XS.iconst X3.here hx rfl (hb hby own_d4_15) kt) ?_
  show own_Rch p e below _ T3 (mkF m 16 #[.val (.ref a), .val (.int (1 : Int32)), .unset, .unset] [(.int (0 : Int32)), (.ref b)])
  refine own_st (fun _ kt => XS.aloadN X3.here hx rfl (hb hby own_d4_16) rfl rfl  kt) ?_
  show own_Rch p e below _ T3 (mkF m 17 #[.val (.ref a), .val (.int (1 : Int32)), .unset, .unset] [(.ref a), (.int (0 : Int32)), (.ref b)])
  obtain ⟨T4, X4, e4, st4⟩ := getF X3 hx hZ hown (host := "") (Or.inl (hw _ (List.mem_of_getElem? (i := 19) rfl))) Via.refl e3 F2 (g := (mkF m 17 #[.val (.ref a), .val (.int (1 : Int32)), .unset, .unset] [(.ref a), (.int (0 : Int32)), (.ref b)])) rfl rfl (hb hby own_d4_17)
  refine own_st st4 ?_
  show own_Rch p e below _ T4 (mkF m 20 #[.val (.ref a), .val (.int (1 : Int32)), .unset, .unset] [(.int (3 : Int32)), (.int (0 : Int32)), (.ref b)])
  obtain ⟨_, _, ⟨T5, L5, k5, n5⟩, -, X5, ⟨Lc5, hQ5, l5, y5, z5⟩, st5⟩ := Jvm.LawKit.callS X4 hx (y := (⟨"java/util/Arrays", "sort", "([JII)V"⟩ : MethodName)) hown (mvT hZ (hw _ (List.mem_of_getElem? (i := 30) rfl))) (mvT hZ (hw _ (List.mem_of_getElem? (i := 31) rfl))) (mvT hZ (hw _ (List.mem_of_getElem? (i := 32) rfl))) (mvT hZ (hw _ (List.mem_of_getElem? (i := 33) rfl))) (by decide) (backOf (W := 0) (own_as3 l Z a0 hw [] b k y0 y1 y2 y3 h0 n0 O0 VB gb) hZ (hw _ (List.mem_of_getElem? (i := 33) rfl)) (hw _ (List.mem_of_getElem? (i := 32) rfl)) (by decide) (by decide)) (g := (mkF m 20 #[.val (.ref a), .val (.int (1 : Int32)), .unset, .unset] [(.int (3 : Int32)), (.int (0 : Int32)), (.ref b)])) rfl (by rw [hml]; rfl) (argsL := [(.ref b), (.int (0 : Int32)), (.int (3 : Int32))]) (rest := []) (lenOf own_pd1 rfl) rfl (by show 2 * 0 + _ ≤ _; exact Nat.le_of_eq rfl) (hb hby own_d4_20) (fun _ _ => ⟨rfl, e4, (by decide : 0 + 0 ≤ _), (by decide : 0 + 0 ≤ _)⟩)
  dsimp only [Pt.U, Pt.locs, Pt.cells, Pt.slots] at X5 l5 y5 z5 st5 hQ5
  subst l5 y5 z5
  obtain ⟨w0, w1, w2, hs5, rfl, N5q, K5, Vb5⟩ := hQ5
  have N5 := Fr.app N1 N5q
  refine own_st st5 ?_
  have O0_x5 := O0.keep K5 (allS gb all0)
  have EA_x5 := EA.keep K5
  have F1_x5 := F1.keep K5 (ninS hab nin0)
  have F2_x5 := F2.keep K5 (ninS hab nin0)
  have F3_x5 := F3.keep K5 (ninS hab nin0)
  have K0_x5 := K0.trans K5 (allS (Or.inl (List.mem_of_getElem? (i := 1) rfl)) all0)
  show own_Rch p e below _ T5 (mkF m 23 #[.val (.ref a), .val (.int (1 : Int32)), .unset, .unset] [])
  refine own_st (fun _ kt => XS.aloadN X5.here hx rfl (hb hby own_d4_23) rfl rfl  kt) ?_
  show own_Rch p e below _ T5 (mkF m 24 #[.val (.ref a), .val (.int (1 : Int32)), .unset, .unset] [(.ref a)])
  refine own_st (fun _ kt => XS.iconst X5.here hx rfl (hb hby own_d4_24) kt) ?_
  show own_Rch p e below _ T5 (mkF m 25 #[.val (.ref a), .val (.int (1 : Int32)), .unset, .unset] [(.int (1 : Int32)), (.ref a)])
  obtain ⟨T6, h6, X6, e6, W6, st6⟩ := putFN X5 hx hZ hown (hw _ (List.mem_of_getElem? (i := 12) rfl)) Via.refl rfl F3_x5 EA_x5 (Or.inl (hw _ (List.mem_of_getElem? (i := 13) rfl))) (hw _ (List.mem_of_getElem? (i := 1) rfl)) (ty := .boolean) (v' := (.int (1 : Int32))) (by decide) rfl (by decide) (g := (mkF m 25 #[.val (.ref a), .val (.int (1 : Int32)), .unset, .unset] [(.int (1 : Int32)), (.ref a)])) rfl rfl (hb hby own_d4_25)
  refine own_st st6 ?_
  have Fw6 := F3_x5.same W6
  have N6 := Fr.snoc X6 N5 ga
  have O0_x6 := O0_x5.wr W6 ga
  have EA_x6 := EA_x5.wr W6
  have F1_x6 := F1_x5.other W6 (Or.inr (slot_ne (Or.inl (hw _ (List.mem_of_getElem? (i := 11) rfl))) (Or.inl (hw _ (List.mem_of_getElem? (i := 13) rfl))) (by decide) (t := (.array .long)) (t' := .boolean) (by decide) (by decide)))
  have F2_x6 := F2_x5.other W6 (Or.inr (slot_ne (Or.inl (hw _ (List.mem_of_getElem? (i := 20) rfl))) (Or.inl (hw _ (List.mem_of_getElem? (i := 13) rfl))) (by decide) (t := .int) (t' := .boolean) (by decide) (by decide)))
  have K0_x6 := K0_x5.wr W6 (Or.inl (List.mem_of_getElem? (i := 0) rfl))
  have Vb5_x6 := Vb5.other W6 (Ne.symm hab)
  show own_Rch p e below _ T6 (mkF m 28 #[.val (.ref a), .val (.int (1 : Int32)), .unset, .unset] [])
  refine own_st (fun _ kt => XS.iloadN X6.here hx rfl (hb hby own_d4_28) rfl  kt) ?_
  show own_Rch p e below _ T6 (mkF m 29 #[.val (.ref a), .val (.int (1 : Int32)), .unset, .unset] [(.int (1 : Int32))])
  refine own_st (fun _ kt => XS.i2l X6.here hx rfl (hb hby own_d4_29) rfl kt) ?_
  show own_Rch p e below _ T6 (mkF m 30 #[.val (.ref a), .val (.int (1 : Int32)), .unset, .unset] [(.long (1 : Int64))])
  refine own_st (fun _ kt => XS.aloadN X6.here hx rfl (hb hby own_d4_30) rfl rfl  kt) ?_
  show own_Rch p e below _ T6 (mkF m 31 #[.val (.ref a), .val (.int (1 : Int32)), .unset, .unset] [(.ref a), (.long (1 : Int64))])
  obtain ⟨T7, X7, e7, st7⟩ := getF X6 hx hZ hown (host := "") (Or.inl (hw _ (List.mem_of_getElem? (i := 19) rfl))) Via.refl e6 F2_x6 (g := (mkF m 31 #[.val (.ref a), .val (.int (1 : Int32)), .unset, .unset] [(.ref a), (.long (1 : Int64))])) rfl rfl (hb hby own_d4_31)
  refine own_st st7 ?_
  show own_Rch p e below _ T7 (mkF m 34 #[.val (.ref a), .val (.int (1 : Int32)), .unset, .unset] [(.int (3 : Int32)), (.long (1 : Int64))])
  refine own_st (fun _ kt => XS.i2l X7.here hx rfl (hb hby own_d4_34) rfl kt) ?_
  show own_Rch p e below _ T7 (mkF m 35 #[.val (.ref a), .val (.int (1 : Int32)), .unset, .unset] [(.long (3 : Int64)), (.long (1 : Int64))])
  refine own_st (fun _ kt => XS.lmul X7.here hx rfl (hb hby own_d4_35) rfl kt) ?_
  show own_Rch p e below _ T7 (mkF m 36 #[.val (.ref a), .val (.int (1 : Int32)), .unset, .unset] [(.long (3 : Int64))])
  refine own_st (X7.ldc2Long hx hown (mvT hZ (hw _ (List.mem_of_getElem? (i := 47) rfl))) (g := (mkF m 36 #[.val (.ref a), .val (.int (1 : Int32)), .unset, .unset] [(.long (3 : Int64))])) rfl (hb hby own_d4_36)) ?_
  show own_Rch p e below _ T7 (mkF m 39 #[.val (.ref a), .val (.int (1 : Int32)), .unset, .unset] [(.long (99 : Int64)), (.long (3 : Int64))])
  refine own_st (fun _ kt => XS.ladd X7.here hx rfl (hb hby own_d4_39) rfl kt) ?_
  show own_Rch p e below _ T7 (mkF m 40 #[.val (.ref a), .val (.int (1 : Int32)), .unset, .unset] [(.long (102 : Int64))])
  refine own_st (X7.ldc2Long hx hown (mvT hZ (hw _ (List.mem_of_getElem? (i := 48) rfl))) (g := (mkF m 40 #[.val (.ref a), .val (.int (1 : Int32)), .unset, .unset] [(.long (102 : Int64))])) rfl (hb hby own_d4_40)) ?_
  show own_Rch p e below _ T7 (mkF m 43 #[.val (.ref a), .val (.int (1 : Int32)), .unset, .unset] [(.long (100 : Int64)), (.long (102 : Int64))])
  refine own_st (fun _ kt => XS.ldiv X7.here hx rfl (hb hby own_d4_43) rfl (by decide) kt) ?_
  show own_Rch p e below _ T7 (mkF m 44 #[.val (.ref a), .val (.int (1 : Int32)), .unset, .unset] [(.long (1 : Int64))])
  refine own_st (fun _ kt => XS.lstoreN X7.here hx rfl (hb hby own_d4_44) rfl (l' := #[.val (.ref a), .val (.int (1 : Int32)), .val (.long (1 : Int64)), .second]) rfl kt) ?_
  show own_Rch p e below _ T7 (mkF m 45 #[.val (.ref a), .val (.int (1 : Int32)), .val (.long (1 : Int64)), .second] [])
  refine own_st (fun _ kt => XS.aloadN X7.here hx rfl (hb hby own_d4_45) rfl rfl  kt) ?_
  show own_Rch p e below _ T7 (mkF m 46 #[.val (.ref a), .val (.int (1 : Int32)), .val (.long (1 : Int64)), .second] [(.ref a)])
  obtain ⟨T8, X8, e8, st8⟩ := getF X7 hx hZ hown (host := "") (Or.inl (hw _ (List.mem_of_getElem? (i := 10) rfl))) Via.refl e7 F1_x6 (g := (mkF m 46 #[.val (.ref a), .val (.int (1 : Int32)), .val (.long (1 : Int64)), .second] [(.ref a)])) rfl rfl (hb hby own_d4_46)
  refine own_st st8 ?_
  show own_Rch p e below _ T8 (mkF m 49 #[.val (.ref a), .val (.int (1 : Int32)), .val (.long (1 : Int64)), .second] [(.ref b)])
  refine own_st (fun _ kt => XS.lloadN X8.here hx rfl (hb hby own_d4_49) rfl  kt) ?_
  show own_Rch p e below _ T8 (mkF m 50 #[.val (.ref a), .val (.int (1 : Int32)), .val (.long (1 : Int64)), .second] [(.long (1 : Int64)), (.ref b)])
  refine own_st (fun _ kt => XS.lconst X8.here hx rfl (hb hby own_d4_50) kt) ?_
  show own_Rch p e below _ T8 (mkF m 51 #[.val (.ref a), .val (.int (1 : Int32)), .val (.long (1 : Int64)), .second] [(.long (1 : Int64)), (.long (1 : Int64)), (.ref b)])
  obtain ⟨_, _, ⟨T9, L9, k9, n9⟩, -, X9, ⟨Lc9, hQ9, l9, y9, z9⟩, st9⟩ := Jvm.LawKit.callS X8 hx (y := (⟨"java/lang/Math", "max", "(JJ)J"⟩ : MethodName)) hown (mvT hZ (hw _ (List.mem_of_getElem? (i := 49) rfl))) (mvT hZ (hw _ (List.mem_of_getElem? (i := 50) rfl))) (mvT hZ (hw _ (List.mem_of_getElem? (i := 51) rfl))) (mvT hZ (hw _ (List.mem_of_getElem? (i := 52) rfl))) (by decide) (backOf (W := 1) (own_lmaxl l Z a0 hw [] (1 : Int64) (1 : Int64) h6 n0 O0_x6 (by decide)) hZ (hw _ (List.mem_of_getElem? (i := 52) rfl)) (hw _ (List.mem_of_getElem? (i := 51) rfl)) (by decide) (by decide)) (g := (mkF m 51 #[.val (.ref a), .val (.int (1 : Int32)), .val (.long (1 : Int64)), .second] [(.long (1 : Int64)), (.long (1 : Int64)), (.ref b)])) rfl (by rw [hml]; rfl) (argsL := [(.long (1 : Int64)), (.long (1 : Int64))]) (rest := [(.ref b)]) (lenOf own_pd0 rfl) rfl (by show 2 * 0 + _ ≤ _; exact Nat.le_of_eq rfl) (hb hby own_d4_51) (fun _ _ => ⟨rfl, e8, (by decide : 0 + 0 ≤ _), (by decide : 0 + 0 ≤ _)⟩)
  dsimp only [Pt.U, Pt.locs, Pt.cells, Pt.slots] at X9 l9 y9 z9 st9 hQ9
  subst l9 y9 z9
  obtain ⟨rfl, N9q, hh9⟩ := hQ9
  have N9 := Fr.app N6 N9q
  refine own_st st9 ?_
  show own_Rch p e below _ T9 (mkF m 54 #[.val (.ref a), .val (.int (1 : Int32)), .val (.long (1 : Int64)), .second] [(.long (1 : Int64)), (.ref b)])
  refine own_st (fun _ kt => XS.l2i X9.here hx rfl (hb hby own_d4_54) rfl kt) ?_
  show own_Rch p e below _ T9 (mkF m 55 #[.val (.ref a), .val (.int (1 : Int32)), .val (.long (1 : Int64)), .second] [(.int (1 : Int32)), (.ref b)])
  refine own_st (fun _ kt => XS.iconst X9.here hx rfl (hb hby own_d4_55) kt) ?_
  show own_Rch p e below _ T9 (mkF m 56 #[.val (.ref a), .val (.int (1 : Int32)), .val (.long (1 : Int64)), .second] [(.int (1 : Int32)), (.int (1 : Int32)), (.ref b)])
  refine own_st (fun _ kt => XS.isub X9.here hx rfl (hb hby own_d4_56) rfl kt) ?_
  show own_Rch p e below _ T9 (mkF m 57 #[.val (.ref a), .val (.int (1 : Int32)), .val (.long (1 : Int64)), .second] [(.int (0 : Int32)), (.ref b)])
  obtain ⟨cl10, Ar10, q10, S10, M10, H10, G10⟩ := id Vb5_x6
  have hin10 : ¬ ((0 : Int32) < 0 ∨ cl10.slots.size ≤ ((0 : Int32)).toNatClampNeg) := inb_of S10 ⟨by decide, by decide⟩
  refine own_st (X9.laload hx (j := (0 : Int32)) (v := (.long w0)) (by rw [hh9]; exact Ar10.1) (State.isArrayOf_alike (hZ).alike Ar10.2.1) Ar10.2.2 hin10 (H10.at hin10 rfl) (g := (mkF m 57 #[.val (.ref a), .val (.int (1 : Int32)), .val (.long (1 : Int64)), .second] [(.int (0 : Int32)), (.ref b)])) rfl rfl (hb hby own_d4_57)) ?_
  show own_Rch p e below _ T9 (mkF m 58 #[.val (.ref a), .val (.int (1 : Int32)), .val (.long (1 : Int64)), .second] [(.long w0)])
  refine own_retL X9 hx Bd.notSynchronized Bd.returns (hb hby own_d4_58) (by decide) (by decide) ?_
  rw [hh9]
  exact ⟨_, _, _, hs5, rfl, N9, K0_x6, EA_x6, F1_x6, F2_x6, Fw6, Vb5_x6⟩
def own_Q_own_pc_1_4_0 (Z : State) (a : Addr) (b : Addr) (k : ClassId) (y0 : Int64) (y1 : Int64) (y2 : Int64) (y3 : Int64) (h0 : Heap) (n0 : Nat) (v : Option Value) (h : Heap) (L : List Loc) : Prop := ∃ w0 w1 w2 w3, own_isort [y0, y1, y2, y3] = [w0, w1, w2, w3] ∧ v = some (.long w0) ∧ Fr n0 L ∧ Keep h0 h [a, b] ∧ Exa Z h a "com/example/respite/respite/cli/Latencies" ∧ Fld Z h a "com/example/respite/respite/cli/Latencies" "nanos" "[J" (.ref b) ∧ Fld Z h a "com/example/respite/respite/cli/Latencies" "count" "I" (.int (4 : Int32)) ∧ Fld Z h a "com/example/respite/respite/cli/Latencies" "sorted" "Z" (.int (1 : Int32)) ∧ Arv Z h b k .long (1024 : Int32) [(.long w0), (.long w1), (.long w2), (.long w3)] (.long (0 : Int64))
set_option maxRecDepth 65536 in
set_option maxHeartbeats 40000000 in
theorem own_pc_1_4_0 (l : Launch) (Z : State) (a0 : Array Value) (hw : ∀ d ∈ tables_1, d.before a0 Z = true) (ws : List Jvm.Cond) (a : Addr) (b : Addr) (k : ClassId) (y0 : Int64) (y1 : Int64) (y2 : Int64) (y3 : Int64) (h0 : Heap) (n0 : Nat) (O0 : Old Z n0 h0) (EA : Exa Z h0 a "com/example/respite/respite/cli/Latencies") (F1 : Fld Z h0 a "com/example/respite/respite/cli/Latencies" "nanos" "[J" (.ref b)) (F2 : Fld Z h0 a "com/example/respite/respite/cli/Latencies" "count" "I" (.int (4 : Int32))) (F3 : Fld Z h0 a "com/example/respite/respite/cli/Latencies" "sorted" "Z" (.int (0 : Int32))) (VB : Arv Z h0 b k .long (1024 : Int32) [(.long y0), (.long y1), (.long y2), (.long y3)] (.long (0 : Int64))) (ga : n0 ≤ a) (gb : n0 ≤ b) (hab : a ≠ b) :
    MetFree l (⟨"com/example/respite/respite/cli/Latencies", "percentile", "(I)J"⟩ : MethodName) (head1 (Jvm.Cond.code (⟨"com/example/respite/respite/cli/Latencies", "percentile", "(I)J"⟩ : MethodName) prog_8_method_5_code 4 (some .long) :: ws) ({ frames := 4, cells := 0, slots := 0, locals := 86 } : Room)) (fun args_ U => args_ = #[(.ref a), (.int (1 : Int32))] ∧ Z.Warmed39 U.vm ∧ U.heap = h0) (fun _ _ _ _ _ => True) (fun _ U o U' => ∃ v L, o = .returned v ∧ (own_Q_own_pc_1_4_0 Z a b k y0 y1 y2 y3 h0 n0) v U'.heap L ∧ FrameEnd U o U' L ({ frames := 4, cells := 0, slots := 0, locals := 86 } : Room).cells ({ frames := 4, cells := 0, slots := 0, locals := 86 } : Room).slots) := by
  refine MetFree.of_bodySF (plainFor_of_name own_pn1) hisR ?_
  intro p e s m args below meth c s₁ Bd hml0 hP hK
  obtain ⟨rfl, hZ, hh⟩ := hP
  have hx := Bd.exec
  have hby := Bd.bytes
  have hml : c.maxLocals = 4 := hml0
  have hown : s.vm.findClass "com/example/respite/respite/cli/Latencies" = some m.cls := findClass_of_methodNamed Bd.named
  have hnm := (name_of_methodNamed Bd.named Bd.method).1
  have X0 : Stand p l e ({ frames := 4, cells := 0, slots := 0, locals := 86 } : Room) s m #[(.ref a), (.int (1 : Int32))] below meth c s₁ [] 0 0 := Stand.of_body Bd
  have e0 : s₁.heap = h0 := by rw [← hh, Bd.state]; rfl
  have N0 := Fr.nil n0
  refine own_close (s := s) (Q := (own_Q_own_pc_1_4_0 Z a b k y0 y1 y2 y3 h0 n0)) (C := (({ frames := 4, cells := 0, slots := 0, locals := 86 } : Room)).cells) (N := (({ frames := 4, cells := 0, slots := 0, locals := 86 } : Room)).slots) (own_st (fun _ kt => castTop (own_ef4 m a (1 : Int32)) kt) ?_)
  have K0 := Keep.refl h0 [a, b]
  show own_Rch p e below _ s₁ (mkF m 0 #[.val (.ref a), .val (.int (1 : Int32)), .unset, .unset] [])
  refine own_st (fun _ kt => XS.aloadN X0.here hx rfl (hb hby own_d4_0) rfl rfl  kt) ?_
  show own_Rch p e below _ s₁ (mkF m 1 #[.val (.ref a), .val (.int (1 : Int32)), .unset, .unset] [(.ref a)])
  obtain ⟨cq1, q1a, q1b⟩ := EA.cell
  obtain ⟨_, _, ⟨T1, L1, k1, n1⟩, -, X1, ⟨Lc1, hQ1, l1, y1, z1⟩, st1⟩ := X0.privateBack hx (y := (⟨"com/example/respite/respite/cli/Latencies", "requireAny", "()V"⟩ : MethodName)) hown (mvT hZ (hw _ (List.mem_of_getElem? (i := 26) rfl))) (mvT hZ (hw _ (List.mem_of_getElem? (i := 27) rfl))) (mvT hZ (own_psel (hw _ (List.mem_of_getElem? (i := 1) rfl)) (hw _ (List.mem_of_getElem? (i := 28) rfl)) (hw _ (List.mem_of_getElem? (i := 27) rfl)))) (Cond.privateMethod_at (mvP hZ (hw _ (List.mem_of_getElem? (i := 28) rfl)) (args := #[]))) (mvT hZ (hw _ (List.mem_of_getElem? (i := 29) rfl))) (by decide) (backOf (W := 0) (own_req l Z a0 hw [] a (4 : Int32) h0 n0 O0 F2 (by decide)) hZ (hw _ (List.mem_of_getElem? (i := 29) rfl)) (hw _ (List.mem_of_getElem? (i := 2) rfl)) (by decide) (by decide)) (g := (mkF m 1 #[.val (.ref a), .val (.int (1 : Int32)), .unset, .unset] [(.ref a)])) rfl (by rw [hml]; rfl) (Steps.refl _) (a := a) (by rw [e0]; exact q1a) q1b (argsL := []) (rest := []) (lenOf own_pd5 rfl) rfl (by show 2 * 0 + _ ≤ _; exact Nat.le_of_eq rfl) (hb hby own_d4_1) (fun _ _ => ⟨rfl, e0, (by decide : 0 + 0 ≤ _), (by decide : 0 + 0 ≤ _)⟩)
  dsimp only [Pt.U, Pt.locs, Pt.cells, Pt.slots] at X1 l1 y1 z1 st1 hQ1
  subst l1 y1 z1
  obtain ⟨rfl, N1q, hh1⟩ := hQ1
  have N1 := Fr.app N0 N1q
  refine own_st (fun _ kt => st1.trans kt) ?_
  show own_Rch p e below _ T1 (mkF m 4 #[.val (.ref a), .val (.int (1 : Int32)), .unset, .unset] [])
  refine own_st (fun _ kt => XS.aloadN X1.here hx rfl (hb hby own_d4_4) rfl rfl  kt) ?_
  show own_Rch p e below _ T1 (mkF m 5 #[.val (.ref a), .val (.int (1 : Int32)), .unset, .unset] [(.ref a)])
  obtain ⟨T2, X2, e2, st2⟩ := getF X1 hx hZ hown (host := "") (Or.inl (hw _ (List.mem_of_getElem? (i := 12) rfl))) Via.refl hh1 F3 (g := (mkF m 5 #[.val (.ref a), .val (.int (1 : Int32)), .unset, .unset] [(.ref a)])) rfl rfl (hb hby own_d4_5)
  refine own_st st2 ?_
  show own_Rch p e below _ T2 (mkF m 8 #[.val (.ref a), .val (.int (1 : Int32)), .unset, .unset] [(.int (0 : Int32))])
  refine own_st (fun _ kt => XS.ifNo X2.here hx rfl (hb hby own_d4_8) rfl ((if0 _ _).trans (teq (rfl : (0 : Int32) = (0 : Int32))).2) kt) ?_
  show own_Rch p e below _ T2 (mkF m 11 #[.val (.ref a), .val (.int (1 : Int32)), .unset, .unset] [])
  refine own_st (fun _ kt => XS.aloadN X2.here hx rfl (hb hby own_d4_11) rfl rfl  kt) ?_
  show own_Rch p e below _ T2 (mkF m 12 #[.val (.ref a), .val (.int (1 : Int32)), .unset, .unset] [(.ref a)])
  obtain ⟨T3, X3, e3, st3⟩ := getF X2 hx hZ hown (host := "") (Or.inl (hw _ (List.mem_of_getElem? (i := 10) rfl))) Via.refl e2 F1 (g := (mkF m 12 #[.val (.ref a), .val (.int (1 : Int32)), .unset, .unset] [(.ref a)])) rfl rfl (hb hby own_d4_12)
  refine own_st st3 ?_
  show own_Rch p e below _ T3 (mkF m 15 #[.val (.ref a), .val (.int (1 : Int32)), .unset, .unset] [(.ref b)])
  refine own_st (fun _ kt => XS.iconst X3.here hx rfl (hb hby own_d4_15) kt) ?_
  show own_Rch p e below _ T3 (mkF m 16 #[.val (.ref a), .val (.int (1 : Int32)), .unset, .unset] [(.int (0 : Int32)), (.ref b)])
  refine own_st (fun _ kt => XS.aloadN X3.here hx rfl (hb hby own_d4_16) rfl rfl  kt) ?_
  show own_Rch p e below _ T3 (mkF m 17 #[.val (.ref a), .val (.int (1 : Int32)), .unset, .unset] [(.ref a), (.int (0 : Int32)), (.ref b)])
  obtain ⟨T4, X4, e4, st4⟩ := getF X3 hx hZ hown (host := "") (Or.inl (hw _ (List.mem_of_getElem? (i := 19) rfl))) Via.refl e3 F2 (g := (mkF m 17 #[.val (.ref a), .val (.int (1 : Int32)), .unset, .unset] [(.ref a), (.int (0 : Int32)), (.ref b)])) rfl rfl (hb hby own_d4_17)
  refine own_st st4 ?_
  show own_Rch p e below _ T4 (mkF m 20 #[.val (.ref a), .val (.int (1 : Int32)), .unset, .unset] [(.int (4 : Int32)), (.int (0 : Int32)), (.ref b)])
  obtain ⟨_, _, ⟨T5, L5, k5, n5⟩, -, X5, ⟨Lc5, hQ5, l5, y5, z5⟩, st5⟩ := Jvm.LawKit.callS X4 hx (y := (⟨"java/util/Arrays", "sort", "([JII)V"⟩ : MethodName)) hown (mvT hZ (hw _ (List.mem_of_getElem? (i := 30) rfl))) (mvT hZ (hw _ (List.mem_of_getElem? (i := 31) rfl))) (mvT hZ (hw _ (List.mem_of_getElem? (i := 32) rfl))) (mvT hZ (hw _ (List.mem_of_getElem? (i := 33) rfl))) (by decide) (backOf (W := 0) (own_as4 l Z a0 hw [] b k y0 y1 y2 y3 h0 n0 O0 VB gb) hZ (hw _ (List.mem_of_getElem? (i := 33) rfl)) (hw _ (List.mem_of_getElem? (i := 32) rfl)) (by decide) (by decide)) (g := (mkF m 20 #[.val (.ref a), .val (.int (1 : Int32)), .unset, .unset] [(.int (4 : Int32)), (.int (0 : Int32)), (.ref b)])) rfl (by rw [hml]; rfl) (argsL := [(.ref b), (.int (0 : Int32)), (.int (4 : Int32))]) (rest := []) (lenOf own_pd1 rfl) rfl (by show 2 * 0 + _ ≤ _; exact Nat.le_of_eq rfl) (hb hby own_d4_20) (fun _ _ => ⟨rfl, e4, (by decide : 0 + 0 ≤ _), (by decide : 0 + 0 ≤ _)⟩)
  dsimp only [Pt.U, Pt.locs, Pt.cells, Pt.slots] at X5 l5 y5 z5 st5 hQ5
  subst l5 y5 z5
  obtain ⟨w0, w1, w2, w3, hs5, rfl, N5q, K5, Vb5⟩ := hQ5
  have N5 := Fr.app N1 N5q
  refine own_st st5 ?_
  have O0_x5 := O0.keep K5 (allS gb all0)
  have EA_x5 := EA.keep K5
  have F1_x5 := F1.keep K5 (ninS hab nin0)
  have F2_x5 := F2.keep K5 (ninS hab nin0)
  have F3_x5 := F3.keep K5 (ninS hab nin0)
  have K0_x5 := K0.trans K5 (allS (Or.inl (List.mem_of_getElem? (i := 1) rfl)) all0)
  show own_Rch p e below _ T5 (mkF m 23 #[.val (.ref a), .val (.int (1 : Int32)), .unset, .unset] [])
  refine own_st (fun _ kt => XS.aloadN X5.here hx rfl (hb hby own_d4_23) rfl rfl  kt) ?_
  show own_Rch p e below _ T5 (mkF m 24 #[.val (.ref a), .val (.int (1 : Int32)), .unset, .unset] [(.ref a)])
  refine own_st (fun _ kt => XS.iconst X5.here hx rfl (hb hby own_d4_24) kt) ?_
  show own_Rch p e below _ T5 (mkF m 25 #[.val (.ref a), .val (.int (1 : Int32)), .unset, .unset] [(.int (1 : Int32)), (.ref a)])
  obtain ⟨T6, h6, X6, e6, W6, st6⟩ := putFN X5 hx hZ hown (hw _ (List.mem_of_getElem? (i := 12) rfl)) Via.refl rfl F3_x5 EA_x5 (Or.inl (hw _ (List.mem_of_getElem? (i := 13) rfl))) (hw _ (List.mem_of_getElem? (i := 1) rfl)) (ty := .boolean) (v' := (.int (1 : Int32))) (by decide) rfl (by decide) (g := (mkF m 25 #[.val (.ref a), .val (.int (1 : Int32)), .unset, .unset] [(.int (1 : Int32)), (.ref a)])) rfl rfl (hb hby own_d4_25)
  refine own_st st6 ?_
  have Fw6 := F3_x5.same W6
  have N6 := Fr.snoc X6 N5 ga
  have O0_x6 := O0_x5.wr W6 ga
  have EA_x6 := EA_x5.wr W6
  have F1_x6 := F1_x5.other W6 (Or.inr (slot_ne (Or.inl (hw _ (List.mem_of_getElem? (i := 11) rfl))) (Or.inl (hw _ (List.mem_of_getElem? (i := 13) rfl))) (by decide) (t := (.array .long)) (t' := .boolean) (by decide) (by decide)))
  have F2_x6 := F2_x5.other W6 (Or.inr (slot_ne (Or.inl (hw _ (List.mem_of_getElem? (i := 20) rfl))) (Or.inl (hw _ (List.mem_of_getElem? (i := 13) rfl))) (by decide) (t := .int) (t' := .boolean) (by decide) (by decide)))
  have K0_x6 := K0_x5.wr W6 (Or.inl (List.mem_of_getElem? (i := 0) rfl))
  have Vb5_x6 := Vb5.other W6 (Ne.symm hab)
  show own_Rch p e below _ T6 (mkF m 28 #[.val (.ref a), .val (.int (1 : Int32)), .unset, .unset] [])
  refine own_st (fun _ kt => XS.iloadN X6.here hx rfl (hb hby own_d4_28) rfl  kt) ?_
  show own_Rch p e below _ T6 (mkF m 29 #[.val (.ref a), .val (.int (1 : Int32)), .unset, .unset] [(.int (1 : Int32))])
  refine own_st (fun _ kt => XS.i2l X6.here hx rfl (hb hby own_d4_29) rfl kt) ?_
  show own_Rch p e below _ T6 (mkF m 30 #[.val (.ref a), .val (.int (1 : Int32)), .unset, .unset] [(.long (1 : Int64))])
  refine own_st (fun _ kt => XS.aloadN X6.here hx rfl (hb hby own_d4_30) rfl rfl  kt) ?_
  show own_Rch p e below _ T6 (mkF m 31 #[.val (.ref a), .val (.int (1 : Int32)), .unset, .unset] [(.ref a), (.long (1 : Int64))])
  obtain ⟨T7, X7, e7, st7⟩ := getF X6 hx hZ hown (host := "") (Or.inl (hw _ (List.mem_of_getElem? (i := 19) rfl))) Via.refl e6 F2_x6 (g := (mkF m 31 #[.val (.ref a), .val (.int (1 : Int32)), .unset, .unset] [(.ref a), (.long (1 : Int64))])) rfl rfl (hb hby own_d4_31)
  refine own_st st7 ?_
  show own_Rch p e below _ T7 (mkF m 34 #[.val (.ref a), .val (.int (1 : Int32)), .unset, .unset] [(.int (4 : Int32)), (.long (1 : Int64))])
  refine own_st (fun _ kt => XS.i2l X7.here hx rfl (hb hby own_d4_34) rfl kt) ?_
  show own_Rch p e below _ T7 (mkF m 35 #[.val (.ref a), .val (.int (1 : Int32)), .unset, .unset] [(.long (4 : Int64)), (.long (1 : Int64))])
  refine own_st (fun _ kt => XS.lmul X7.here hx rfl (hb hby own_d4_35) rfl kt) ?_
  show own_Rch p e below _ T7 (mkF m 36 #[.val (.ref a), .val (.int (1 : Int32)), .unset, .unset] [(.long (4 : Int64))])
  refine own_st (X7.ldc2Long hx hown (mvT hZ (hw _ (List.mem_of_getElem? (i := 47) rfl))) (g := (mkF m 36 #[.val (.ref a), .val (.int (1 : Int32)), .unset, .unset] [(.long (4 : Int64))])) rfl (hb hby own_d4_36)) ?_
  show own_Rch p e below _ T7 (mkF m 39 #[.val (.ref a), .val (.int (1 : Int32)), .unset, .unset] [(.long (99 : Int64)), (.long (4 : Int64))])
  refine own_st (fun _ kt => XS.ladd X7.here hx rfl (hb hby own_d4_39) rfl kt) ?_
  show own_Rch p e below _ T7 (mkF m 40 #[.val (.ref a), .val (.int (1 : Int32)), .unset, .unset] [(.long (103 : Int64))])
  refine own_st (X7.ldc2Long hx hown (mvT hZ (hw _ (List.mem_of_getElem? (i := 48) rfl))) (g := (mkF m 40 #[.val (.ref a), .val (.int (1 : Int32)), .unset, .unset] [(.long (103 : Int64))])) rfl (hb hby own_d4_40)) ?_
  show own_Rch p e below _ T7 (mkF m 43 #[.val (.ref a), .val (.int (1 : Int32)), .unset, .unset] [(.long (100 : Int64)), (.long (103 : Int64))])
  refine own_st (fun _ kt => XS.ldiv X7.here hx rfl (hb hby own_d4_43) rfl (by decide) kt) ?_
  show own_Rch p e below _ T7 (mkF m 44 #[.val (.ref a), .val (.int (1 : Int32)), .unset, .unset] [(.long (1 : Int64))])
  refine own_st (fun _ kt => XS.lstoreN X7.here hx rfl (hb hby own_d4_44) rfl (l' := #[.val (.ref a), .val (.int (1 : Int32)), .val (.long (1 : Int64)), .second]) rfl kt) ?_
  show own_Rch p e below _ T7 (mkF m 45 #[.val (.ref a), .val (.int (1 : Int32)), .val (.long (1 : Int64)), .second] [])
  refine own_st (fun _ kt => XS.aloadN X7.here hx rfl (hb hby own_d4_45) rfl rfl  kt) ?_
  show own_Rch p e below _ T7 (mkF m 46 #[.val (.ref a), .val (.int (1 : Int32)), .val (.long (1 : Int64)), .second] [(.ref a)])
  obtain ⟨T8, X8, e8, st8⟩ := getF X7 hx hZ hown (host := "") (Or.inl (hw _ (List.mem_of_getElem? (i := 10) rfl))) Via.refl e7 F1_x6 (g := (mkF m 46 #[.val (.ref a), .val (.int (1 : Int32)), .val (.long (1 : Int64)), .second] [(.ref a)])) rfl rfl (hb hby own_d4_46)
  refine own_st st8 ?_
  show own_Rch p e below _ T8 (mkF m 49 #[.val (.ref a), .val (.int (1 : Int32)), .val (.long (1 : Int64)), .second] [(.ref b)])
  refine own_st (fun _ kt => XS.lloadN X8.here hx rfl (hb hby own_d4_49) rfl  kt) ?_
  show own_Rch p e below _ T8 (mkF m 50 #[.val (.ref a), .val (.int (1 : Int32)), .val (.long (1 : Int64)), .second] [(.long (1 : Int64)), (.ref b)])
  refine own_st (fun _ kt => XS.lconst X8.here hx rfl (hb hby own_d4_50) kt) ?_
  show own_Rch p e below _ T8 (mkF m 51 #[.val (.ref a), .val (.int (1 : Int32)), .val (.long (1 : Int64)), .second] [(.long (1 : Int64)), (.long (1 : Int64)), (.ref b)])
  obtain ⟨_, _, ⟨T9, L9, k9, n9⟩, -, X9, ⟨Lc9, hQ9, l9, y9, z9⟩, st9⟩ := Jvm.LawKit.callS X8 hx (y := (⟨"java/lang/Math", "max", "(JJ)J"⟩ : MethodName)) hown (mvT hZ (hw _ (List.mem_of_getElem? (i := 49) rfl))) (mvT hZ (hw _ (List.mem_of_getElem? (i := 50) rfl))) (mvT hZ (hw _ (List.mem_of_getElem? (i := 51) rfl))) (mvT hZ (hw _ (List.mem_of_getElem? (i := 52) rfl))) (by decide) (backOf (W := 1) (own_lmaxl l Z a0 hw [] (1 : Int64) (1 : Int64) h6 n0 O0_x6 (by decide)) hZ (hw _ (List.mem_of_getElem? (i := 52) rfl)) (hw _ (List.mem_of_getElem? (i := 51) rfl)) (by decide) (by decide)) (g := (mkF m 51 #[.val (.ref a), .val (.int (1 : Int32)), .val (.long (1 : Int64)), .second] [(.long (1 : Int64)), (.long (1 : Int64)), (.ref b)])) rfl (by rw [hml]; rfl) (argsL := [(.long (1 : Int64)), (.long (1 : Int64))]) (rest := [(.ref b)]) (lenOf own_pd0 rfl) rfl (by show 2 * 0 + _ ≤ _; exact Nat.le_of_eq rfl) (hb hby own_d4_51) (fun _ _ => ⟨rfl, e8, (by decide : 0 + 0 ≤ _), (by decide : 0 + 0 ≤ _)⟩)
  dsimp only [Pt.U, Pt.locs, Pt.cells, Pt.slots] at X9 l9 y9 z9 st9 hQ9
  subst l9 y9 z9
  obtain ⟨rfl, N9q, hh9⟩ := hQ9
  have N9 := Fr.app N6 N9q
  refine own_st st9 ?_
  show own_Rch p e below _ T9 (mkF m 54 #[.val (.ref a), .val (.int (1 : Int32)), .val (.long (1 : Int64)), .second] [(.long (1 : Int64)), (.ref b)])
  refine own_st (fun _ kt => XS.l2i X9.here hx rfl (hb hby own_d4_54) rfl kt) ?_
  show own_Rch p e below _ T9 (mkF m 55 #[.val (.ref a), .val (.int (1 : Int32)), .val (.long (1 : Int64)), .second] [(.int (1 : Int32)), (.ref b)])
  refine own_st (fun _ kt => XS.iconst X9.here hx rfl (hb hby own_d4_55) kt) ?_
  show own_Rch p e below _ T9 (mkF m 56 #[.val (.ref a), .val (.int (1 : Int32)), .val (.long (1 : Int64)), .second] [(.int (1 : Int32)), (.int (1 : Int32)), (.ref b)])
  refine own_st (fun _ kt => XS.isub X9.here hx rfl (hb hby own_d4_56) rfl kt) ?_
  show own_Rch p e below _ T9 (mkF m 57 #[.val (.ref a), .val (.int (1 : Int32)), .val (.long (1 : Int64)), .second] [(.int (0 : Int32)), (.ref b)])
  obtain ⟨cl10, Ar10, q10, S10, M10, H10, G10⟩ := id Vb5_x6
  have hin10 : ¬ ((0 : Int32) < 0 ∨ cl10.slots.size ≤ ((0 : Int32)).toNatClampNeg) := inb_of S10 ⟨by decide, by decide⟩
  refine own_st (X9.laload hx (j := (0 : Int32)) (v := (.long w0)) (by rw [hh9]; exact Ar10.1) (State.isArrayOf_alike (hZ).alike Ar10.2.1) Ar10.2.2 hin10 (H10.at hin10 rfl) (g := (mkF m 57 #[.val (.ref a), .val (.int (1 : Int32)), .val (.long (1 : Int64)), .second] [(.int (0 : Int32)), (.ref b)])) rfl rfl (hb hby own_d4_57)) ?_
  show own_Rch p e below _ T9 (mkF m 58 #[.val (.ref a), .val (.int (1 : Int32)), .val (.long (1 : Int64)), .second] [(.long w0)])
  refine own_retL X9 hx Bd.notSynchronized Bd.returns (hb hby own_d4_58) (by decide) (by decide) ?_
  rw [hh9]
  exact ⟨_, _, _, _, hs5, rfl, N9, K0_x6, EA_x6, F1_x6, F2_x6, Fw6, Vb5_x6⟩
def own_Q_own_pc_100_1_1 (Z : State) (a : Addr) (b : Addr) (k : ClassId) (y0 : Int64) (y1 : Int64) (y2 : Int64) (y3 : Int64) (h0 : Heap) (n0 : Nat) (v : Option Value) (h : Heap) (L : List Loc) : Prop := v = some (.long y0) ∧ Fr n0 L ∧ h = h0
set_option maxRecDepth 65536 in
set_option maxHeartbeats 40000000 in
theorem own_pc_100_1_1 (l : Launch) (Z : State) (a0 : Array Value) (hw : ∀ d ∈ tables_1, d.before a0 Z = true) (ws : List Jvm.Cond) (a : Addr) (b : Addr) (k : ClassId) (y0 : Int64) (y1 : Int64) (y2 : Int64) (y3 : Int64) (h0 : Heap) (n0 : Nat) (O0 : Old Z n0 h0) (EA : Exa Z h0 a "com/example/respite/respite/cli/Latencies") (F1 : Fld Z h0 a "com/example/respite/respite/cli/Latencies" "nanos" "[J" (.ref b)) (F2 : Fld Z h0 a "com/example/respite/respite/cli/Latencies" "count" "I" (.int (1 : Int32))) (F3 : Fld Z h0 a "com/example/respite/respite/cli/Latencies" "sorted" "Z" (.int (1 : Int32))) (VB : Arv Z h0 b k .long (1024 : Int32) [(.long y0), (.long y1), (.long y2), (.long y3)] (.long (0 : Int64))) (ga : n0 ≤ a) (gb : n0 ≤ b) (hab : a ≠ b) :
    MetFree l (⟨"com/example/respite/respite/cli/Latencies", "percentile", "(I)J"⟩ : MethodName) (head1 (Jvm.Cond.code (⟨"com/example/respite/respite/cli/Latencies", "percentile", "(I)J"⟩ : MethodName) prog_8_method_5_code 4 (some .long) :: ws) ({ frames := 1, cells := 0, slots := 0, locals := 16 } : Room)) (fun args_ U => args_ = #[(.ref a), (.int (100 : Int32))] ∧ Z.Warmed39 U.vm ∧ U.heap = h0) (fun _ _ _ _ _ => True) (fun _ U o U' => ∃ v L, o = .returned v ∧ (own_Q_own_pc_100_1_1 Z a b k y0 y1 y2 y3 h0 n0) v U'.heap L ∧ FrameEnd U o U' L ({ frames := 1, cells := 0, slots := 0, locals := 16 } : Room).cells ({ frames := 1, cells := 0, slots := 0, locals := 16 } : Room).slots) := by
  refine MetFree.of_bodySF (plainFor_of_name own_pn1) hisR ?_
  intro p e s m args below meth c s₁ Bd hml0 hP hK
  obtain ⟨rfl, hZ, hh⟩ := hP
  have hx := Bd.exec
  have hby := Bd.bytes
  have hml : c.maxLocals = 4 := hml0
  have hown : s.vm.findClass "com/example/respite/respite/cli/Latencies" = some m.cls := findClass_of_methodNamed Bd.named
  have hnm := (name_of_methodNamed Bd.named Bd.method).1
  have X0 : Stand p l e ({ frames := 1, cells := 0, slots := 0, locals := 16 } : Room) s m #[(.ref a), (.int (100 : Int32))] below meth c s₁ [] 0 0 := Stand.of_body Bd
  have e0 : s₁.heap = h0 := by rw [← hh, Bd.state]; rfl
  have N0 := Fr.nil n0
  refine own_close (s := s) (Q := (own_Q_own_pc_100_1_1 Z a b k y0 y1 y2 y3 h0 n0)) (C := (({ frames := 1, cells := 0, slots := 0, locals := 16 } : Room)).cells) (N := (({ frames := 1, cells := 0, slots := 0, locals := 16 } : Room)).slots) (own_st (fun _ kt => castTop (own_ef4 m a (100 : Int32)) kt) ?_)
  show own_Rch p e below _ s₁ (mkF m 0 #[.val (.ref a), .val (.int (100 : Int32)), .unset, .unset] [])
  refine own_st (fun _ kt => XS.aloadN X0.here hx rfl (hb hby own_d4_0) rfl rfl  kt) ?_
  show own_Rch p e below _ s₁ (mkF m 1 #[.val (.ref a), .val (.int (100 : Int32)), .unset, .unset] [(.ref a)])
  obtain ⟨cq1, q1a, q1b⟩ := EA.cell
  obtain ⟨_, _, ⟨T1, L1, k1, n1⟩, -, X1, ⟨Lc1, hQ1, l1, y1, z1⟩, st1⟩ := X0.privateBack hx (y := (⟨"com/example/respite/respite/cli/Latencies", "requireAny", "()V"⟩ : MethodName)) hown (mvT hZ (hw _ (List.mem_of_getElem? (i := 26) rfl))) (mvT hZ (hw _ (List.mem_of_getElem? (i := 27) rfl))) (mvT hZ (own_psel (hw _ (List.mem_of_getElem? (i := 1) rfl)) (hw _ (List.mem_of_getElem? (i := 28) rfl)) (hw _ (List.mem_of_getElem? (i := 27) rfl)))) (Cond.privateMethod_at (mvP hZ (hw _ (List.mem_of_getElem? (i := 28) rfl)) (args := #[]))) (mvT hZ (hw _ (List.mem_of_getElem? (i := 29) rfl))) (by decide) (backOf (W := 0) (own_req l Z a0 hw [] a (1 : Int32) h0 n0 O0 F2 (by decide)) hZ (hw _ (List.mem_of_getElem? (i := 29) rfl)) (hw _ (List.mem_of_getElem? (i := 2) rfl)) (by decide) (by decide)) (g := (mkF m 1 #[.val (.ref a), .val (.int (100 : Int32)), .unset, .unset] [(.ref a)])) rfl (by rw [hml]; rfl) (Steps.refl _) (a := a) (by rw [e0]; exact q1a) q1b (argsL := []) (rest := []) (lenOf own_pd5 rfl) rfl (by show 2 * 0 + _ ≤ _; exact Nat.le_of_eq rfl) (hb hby own_d4_1) (fun _ _ => ⟨rfl, e0, (by decide : 0 + 0 ≤ _), (by decide : 0 + 0 ≤ _)⟩)
  dsimp only [Pt.U, Pt.locs, Pt.cells, Pt.slots] at X1 l1 y1 z1 st1 hQ1
  subst l1 y1 z1
  obtain ⟨rfl, N1q, hh1⟩ := hQ1
  have N1 := Fr.app N0 N1q
  refine own_st (fun _ kt => st1.trans kt) ?_
  show own_Rch p e below _ T1 (mkF m 4 #[.val (.ref a), .val (.int (100 : Int32)), .unset, .unset] [])
  refine own_st (fun _ kt => XS.aloadN X1.here hx rfl (hb hby own_d4_4) rfl rfl  kt) ?_
  show own_Rch p e below _ T1 (mkF m 5 #[.val (.ref a), .val (.int (100 : Int32)), .unset, .unset] [(.ref a)])
  obtain ⟨T2, X2, e2, st2⟩ := getF X1 hx hZ hown (host := "") (Or.inl (hw _ (List.mem_of_getElem? (i := 12) rfl))) Via.refl hh1 F3 (g := (mkF m 5 #[.val (.ref a), .val (.int (100 : Int32)), .unset, .unset] [(.ref a)])) rfl rfl (hb hby own_d4_5)
  refine own_st st2 ?_
  show own_Rch p e below _ T2 (mkF m 8 #[.val (.ref a), .val (.int (100 : Int32)), .unset, .unset] [(.int (1 : Int32))])
  refine own_st (fun _ kt => XS.ifYes X2.here hx rfl (pc0 := 8) (pc' := 28) rfl (hb hby own_d4_8) rfl ((if0 _ _).trans (feq ((by decide) : ¬ ((1 : Int32) = (0 : Int32)))).2) (by decide) (by decide) kt) ?_
  show own_Rch p e below _ T2 (mkF m 28 #[.val (.ref a), .val (.int (100 : Int32)), .unset, .unset] [])
  refine own_st (fun _ kt => XS.iloadN X2.here hx rfl (hb hby own_d4_28) rfl  kt) ?_
  show own_Rch p e below _ T2 (mkF m 29 #[.val (.ref a), .val (.int (100 : Int32)), .unset, .unset] [(.int (100 : Int32))])
  refine own_st (fun _ kt => XS.i2l X2.here hx rfl (hb hby own_d4_29) rfl kt) ?_
  show own_Rch p e below _ T2 (mkF m 30 #[.val (.ref a), .val (.int (100 : Int32)), .unset, .unset] [(.long (100 : Int64))])
  refine own_st (fun _ kt => XS.aloadN X2.here hx rfl (hb hby own_d4_30) rfl rfl  kt) ?_
  show own_Rch p e below _ T2 (mkF m 31 #[.val (.ref a), .val (.int (100 : Int32)), .unset, .unset] [(.ref a), (.long (100 : Int64))])
  obtain ⟨T3, X3, e3, st3⟩ := getF X2 hx hZ hown (host := "") (Or.inl (hw _ (List.mem_of_getElem? (i := 19) rfl))) Via.refl e2 F2 (g := (mkF m 31 #[.val (.ref a), .val (.int (100 : Int32)), .unset, .unset] [(.ref a), (.long (100 : Int64))])) rfl rfl (hb hby own_d4_31)
  refine own_st st3 ?_
  show own_Rch p e below _ T3 (mkF m 34 #[.val (.ref a), .val (.int (100 : Int32)), .unset, .unset] [(.int (1 : Int32)), (.long (100 : Int64))])
  refine own_st (fun _ kt => XS.i2l X3.here hx rfl (hb hby own_d4_34) rfl kt) ?_
  show own_Rch p e below _ T3 (mkF m 35 #[.val (.ref a), .val (.int (100 : Int32)), .unset, .unset] [(.long (1 : Int64)), (.long (100 : Int64))])
  refine own_st (fun _ kt => XS.lmul X3.here hx rfl (hb hby own_d4_35) rfl kt) ?_
  show own_Rch p e below _ T3 (mkF m 36 #[.val (.ref a), .val (.int (100 : Int32)), .unset, .unset] [(.long (100 : Int64))])
  refine own_st (X3.ldc2Long hx hown (mvT hZ (hw _ (List.mem_of_getElem? (i := 47) rfl))) (g := (mkF m 36 #[.val (.ref a), .val (.int (100 : Int32)), .unset, .unset] [(.long (100 : Int64))])) rfl (hb hby own_d4_36)) ?_
  show own_Rch p e below _ T3 (mkF m 39 #[.val (.ref a), .val (.int (100 : Int32)), .unset, .unset] [(.long (99 : Int64)), (.long (100 : Int64))])
  refine own_st (fun _ kt => XS.ladd X3.here hx rfl (hb hby own_d4_39) rfl kt) ?_
  show own_Rch p e below _ T3 (mkF m 40 #[.val (.ref a), .val (.int (100 : Int32)), .unset, .unset] [(.long (199 : Int64))])
  refine own_st (X3.ldc2Long hx hown (mvT hZ (hw _ (List.mem_of_getElem? (i := 48) rfl))) (g := (mkF m 40 #[.val (.ref a), .val (.int (100 : Int32)), .unset, .unset] [(.long (199 : Int64))])) rfl (hb hby own_d4_40)) ?_
  show own_Rch p e below _ T3 (mkF m 43 #[.val (.ref a), .val (.int (100 : Int32)), .unset, .unset] [(.long (100 : Int64)), (.long (199 : Int64))])
  refine own_st (fun _ kt => XS.ldiv X3.here hx rfl (hb hby own_d4_43) rfl (by decide) kt) ?_
  show own_Rch p e below _ T3 (mkF m 44 #[.val (.ref a), .val (.int (100 : Int32)), .unset, .unset] [(.long (1 : Int64))])
  refine own_st (fun _ kt => XS.lstoreN X3.here hx rfl (hb hby own_d4_44) rfl (l' := #[.val (.ref a), .val (.int (100 : Int32)), .val (.long (1 : Int64)), .second]) rfl kt) ?_
  show own_Rch p e below _ T3 (mkF m 45 #[.val (.ref a), .val (.int (100 : Int32)), .val (.long (1 : Int64)), .second] [])
  refine own_st (fun _ kt => XS.aloadN X3.here hx rfl (hb hby own_d4_45) rfl rfl  kt) ?_
  show own_Rch p e below _ T3 (mkF m 46 #[.val (.ref a), .val (.int (100 : Int32)), .val (.long (1 : Int64)), .second] [(.ref a)])
  obtain ⟨T4, X4, e4, st4⟩ := getF X3 hx hZ hown (host := "") (Or.inl (hw _ (List.mem_of_getElem? (i := 10) rfl))) Via.refl e3 F1 (g := (mkF m 46 #[.val (.ref a), .val (.int (100 : Int32)), .val (.long (1 : Int64)), .second] [(.ref a)])) rfl rfl (hb hby own_d4_46)
  refine own_st st4 ?_
  show own_Rch p e below _ T4 (mkF m 49 #[.val (.ref a), .val (.int (100 : Int32)), .val (.long (1 : Int64)), .second] [(.ref b)])
  refine own_st (fun _ kt => XS.lloadN X4.here hx rfl (hb hby own_d4_49) rfl  kt) ?_
  show own_Rch p e below _ T4 (mkF m 50 #[.val (.ref a), .val (.int (100 : Int32)), .val (.long (1 : Int64)), .second] [(.long (1 : Int64)), (.ref b)])
  refine own_st (fun _ kt => XS.lconst X4.here hx rfl (hb hby own_d4_50) kt) ?_
  show own_Rch p e below _ T4 (mkF m 51 #[.val (.ref a), .val (.int (100 : Int32)), .val (.long (1 : Int64)), .second] [(.long (1 : Int64)), (.long (1 : Int64)), (.ref b)])
  obtain ⟨_, _, ⟨T5, L5, k5, n5⟩, -, X5, ⟨Lc5, hQ5, l5, y5, z5⟩, st5⟩ := Jvm.LawKit.callS X4 hx (y := (⟨"java/lang/Math", "max", "(JJ)J"⟩ : MethodName)) hown (mvT hZ (hw _ (List.mem_of_getElem? (i := 49) rfl))) (mvT hZ (hw _ (List.mem_of_getElem? (i := 50) rfl))) (mvT hZ (hw _ (List.mem_of_getElem? (i := 51) rfl))) (mvT hZ (hw _ (List.mem_of_getElem? (i := 52) rfl))) (by decide) (backOf (W := 1) (own_lmaxl l Z a0 hw [] (1 : Int64) (1 : Int64) h0 n0 O0 (by decide)) hZ (hw _ (List.mem_of_getElem? (i := 52) rfl)) (hw _ (List.mem_of_getElem? (i := 51) rfl)) (by decide) (by decide)) (g := (mkF m 51 #[.val (.ref a), .val (.int (100 : Int32)), .val (.long (1 : Int64)), .second] [(.long (1 : Int64)), (.long (1 : Int64)), (.ref b)])) rfl (by rw [hml]; rfl) (argsL := [(.long (1 : Int64)), (.long (1 : Int64))]) (rest := [(.ref b)]) (lenOf own_pd0 rfl) rfl (by show 2 * 0 + _ ≤ _; exact Nat.le_of_eq rfl) (hb hby own_d4_51) (fun _ _ => ⟨rfl, e4, (by decide : 0 + 0 ≤ _), (by decide : 0 + 0 ≤ _)⟩)
  dsimp only [Pt.U, Pt.locs, Pt.cells, Pt.slots] at X5 l5 y5 z5 st5 hQ5
  subst l5 y5 z5
  obtain ⟨rfl, N5q, hh5⟩ := hQ5
  have N5 := Fr.app N1 N5q
  refine own_st st5 ?_
  show own_Rch p e below _ T5 (mkF m 54 #[.val (.ref a), .val (.int (100 : Int32)), .val (.long (1 : Int64)), .second] [(.long (1 : Int64)), (.ref b)])
  refine own_st (fun _ kt => XS.l2i X5.here hx rfl (hb hby own_d4_54) rfl kt) ?_
  show own_Rch p e below _ T5 (mkF m 55 #[.val (.ref a), .val (.int (100 : Int32)), .val (.long (1 : Int64)), .second] [(.int (1 : Int32)), (.ref b)])
  refine own_st (fun _ kt => XS.iconst X5.here hx rfl (hb hby own_d4_55) kt) ?_
  show own_Rch p e below _ T5 (mkF m 56 #[.val (.ref a), .val (.int (100 : Int32)), .val (.long (1 : Int64)), .second] [(.int (1 : Int32)), (.int (1 : Int32)), (.ref b)])
  refine own_st (fun _ kt => XS.isub X5.here hx rfl (hb hby own_d4_56) rfl kt) ?_
  show own_Rch p e below _ T5 (mkF m 57 #[.val (.ref a), .val (.int (100 : Int32)), .val (.long (1 : Int64)), .second] [(.int (0 : Int32)), (.ref b)])
  obtain ⟨cl6, Ar6, q6, S6, M6, H6, G6⟩ := id VB
  have hin6 : ¬ ((0 : Int32) < 0 ∨ cl6.slots.size ≤ ((0 : Int32)).toNatClampNeg) := inb_of S6 ⟨by decide, by decide⟩
  refine own_st (X5.laload hx (j := (0 : Int32)) (v := (.long y0)) (by rw [hh5]; exact Ar6.1) (State.isArrayOf_alike (hZ).alike Ar6.2.1) Ar6.2.2 hin6 (H6.at hin6 rfl) (g := (mkF m 57 #[.val (.ref a), .val (.int (100 : Int32)), .val (.long (1 : Int64)), .second] [(.int (0 : Int32)), (.ref b)])) rfl rfl (hb hby own_d4_57)) ?_
  show own_Rch p e below _ T5 (mkF m 58 #[.val (.ref a), .val (.int (100 : Int32)), .val (.long (1 : Int64)), .second] [(.long y0)])
  refine own_retL X5 hx Bd.notSynchronized Bd.returns (hb hby own_d4_58) (by decide) (by decide) ?_
  rw [hh5]
  exact ⟨rfl, N5, rfl⟩
def own_Q_own_pc_100_2_1 (Z : State) (a : Addr) (b : Addr) (k : ClassId) (y0 : Int64) (y1 : Int64) (y2 : Int64) (y3 : Int64) (h0 : Heap) (n0 : Nat) (v : Option Value) (h : Heap) (L : List Loc) : Prop := v = some (.long y1) ∧ Fr n0 L ∧ h = h0
set_option maxRecDepth 65536 in
set_option maxHeartbeats 40000000 in
theorem own_pc_100_2_1 (l : Launch) (Z : State) (a0 : Array Value) (hw : ∀ d ∈ tables_1, d.before a0 Z = true) (ws : List Jvm.Cond) (a : Addr) (b : Addr) (k : ClassId) (y0 : Int64) (y1 : Int64) (y2 : Int64) (y3 : Int64) (h0 : Heap) (n0 : Nat) (O0 : Old Z n0 h0) (EA : Exa Z h0 a "com/example/respite/respite/cli/Latencies") (F1 : Fld Z h0 a "com/example/respite/respite/cli/Latencies" "nanos" "[J" (.ref b)) (F2 : Fld Z h0 a "com/example/respite/respite/cli/Latencies" "count" "I" (.int (2 : Int32))) (F3 : Fld Z h0 a "com/example/respite/respite/cli/Latencies" "sorted" "Z" (.int (1 : Int32))) (VB : Arv Z h0 b k .long (1024 : Int32) [(.long y0), (.long y1), (.long y2), (.long y3)] (.long (0 : Int64))) (ga : n0 ≤ a) (gb : n0 ≤ b) (hab : a ≠ b) :
    MetFree l (⟨"com/example/respite/respite/cli/Latencies", "percentile", "(I)J"⟩ : MethodName) (head1 (Jvm.Cond.code (⟨"com/example/respite/respite/cli/Latencies", "percentile", "(I)J"⟩ : MethodName) prog_8_method_5_code 4 (some .long) :: ws) ({ frames := 1, cells := 0, slots := 0, locals := 16 } : Room)) (fun args_ U => args_ = #[(.ref a), (.int (100 : Int32))] ∧ Z.Warmed39 U.vm ∧ U.heap = h0) (fun _ _ _ _ _ => True) (fun _ U o U' => ∃ v L, o = .returned v ∧ (own_Q_own_pc_100_2_1 Z a b k y0 y1 y2 y3 h0 n0) v U'.heap L ∧ FrameEnd U o U' L ({ frames := 1, cells := 0, slots := 0, locals := 16 } : Room).cells ({ frames := 1, cells := 0, slots := 0, locals := 16 } : Room).slots) := by
  refine MetFree.of_bodySF (plainFor_of_name own_pn1) hisR ?_
  intro p e s m args below meth c s₁ Bd hml0 hP hK
  obtain ⟨rfl, hZ, hh⟩ := hP
  have hx := Bd.exec
  have hby := Bd.bytes
  have hml : c.maxLocals = 4 := hml0
  have hown : s.vm.findClass "com/example/respite/respite/cli/Latencies" = some m.cls := findClass_of_methodNamed Bd.named
  have hnm := (name_of_methodNamed Bd.named Bd.method).1
  have X0 : Stand p l e ({ frames := 1, cells := 0, slots := 0, locals := 16 } : Room) s m #[(.ref a), (.int (100 : Int32))] below meth c s₁ [] 0 0 := Stand.of_body Bd
  have e0 : s₁.heap = h0 := by rw [← hh, Bd.state]; rfl
  have N0 := Fr.nil n0
  refine own_close (s := s) (Q := (own_Q_own_pc_100_2_1 Z a b k y0 y1 y2 y3 h0 n0)) (C := (({ frames := 1, cells := 0, slots := 0, locals := 16 } : Room)).cells) (N := (({ frames := 1, cells := 0, slots := 0, locals := 16 } : Room)).slots) (own_st (fun _ kt => castTop (own_ef4 m a (100 : Int32)) kt) ?_)
  show own_Rch p e below _ s₁ (mkF m 0 #[.val (.ref a), .val (.int (100 : Int32)), .unset, .unset] [])
  refine own_st (fun _ kt => XS.aloadN X0.here hx rfl (hb hby own_d4_0) rfl rfl  kt) ?_
  show own_Rch p e below _ s₁ (mkF m 1 #[.val (.ref a), .val (.int (100 : Int32)), .unset, .unset] [(.ref a)])
  obtain ⟨cq1, q1a, q1b⟩ := EA.cell
  obtain ⟨_, _, ⟨T1, L1, k1, n1⟩, -, X1, ⟨Lc1, hQ1, l1, y1, z1⟩, st1⟩ := X0.privateBack hx (y := (⟨"com/example/respite/respite/cli/Latencies", "requireAny", "()V"⟩ : MethodName)) hown (mvT hZ (hw _ (List.mem_of_getElem? (i := 26) rfl))) (mvT hZ (hw _ (List.mem_of_getElem? (i := 27) rfl))) (mvT hZ (own_psel (hw _ (List.mem_of_getElem? (i := 1) rfl)) (hw _ (List.mem_of_getElem? (i := 28) rfl)) (hw _ (List.mem_of_getElem? (i := 27) rfl)))) (Cond.privateMethod_at (mvP hZ (hw _ (List.mem_of_getElem? (i := 28) rfl)) (args := #[]))) (mvT hZ (hw _ (List.mem_of_getElem? (i := 29) rfl))) (by decide) (backOf (W := 0) (own_req l Z a0 hw [] a (2 : Int32) h0 n0 O0 F2 (by decide)) hZ (hw _ (List.mem_of_getElem? (i := 29) rfl)) (hw _ (List.mem_of_getElem? (i := 2) rfl)) (by decide) (by decide)) (g := (mkF m 1 #[.val (.ref a), .val (.int (100 : Int32)), .unset, .unset] [(.ref a)])) rfl (by rw [hml]; rfl) (Steps.refl _) (a := a) (by rw [e0]; exact q1a) q1b (argsL := []) (rest := []) (lenOf own_pd5 rfl) rfl (by show 2 * 0 + _ ≤ _; exact Nat.le_of_eq rfl) (hb hby own_d4_1) (fun _ _ => ⟨rfl, e0, (by decide : 0 + 0 ≤ _), (by decide : 0 + 0 ≤ _)⟩)
  dsimp only [Pt.U, Pt.locs, Pt.cells, Pt.slots] at X1 l1 y1 z1 st1 hQ1
  subst l1 y1 z1
  obtain ⟨rfl, N1q, hh1⟩ := hQ1
  have N1 := Fr.app N0 N1q
  refine own_st (fun _ kt => st1.trans kt) ?_
  show own_Rch p e below _ T1 (mkF m 4 #[.val (.ref a), .val (.int (100 : Int32)), .unset, .unset] [])
  refine own_st (fun _ kt => XS.aloadN X1.here hx rfl (hb hby own_d4_4) rfl rfl  kt) ?_
  show own_Rch p e below _ T1 (mkF m 5 #[.val (.ref a), .val (.int (100 : Int32)), .unset, .unset] [(.ref a)])
  obtain ⟨T2, X2, e2, st2⟩ := getF X1 hx hZ hown (host := "") (Or.inl (hw _ (List.mem_of_getElem? (i := 12) rfl))) Via.refl hh1 F3 (g := (mkF m 5 #[.val (.ref a), .val (.int (100 : Int32)), .unset, .unset] [(.ref a)])) rfl rfl (hb hby own_d4_5)
  refine own_st st2 ?_
  show own_Rch p e below _ T2 (mkF m 8 #[.val (.ref a), .val (.int (100 : Int32)), .unset, .unset] [(.int (1 : Int32))])
  refine own_st (fun _ kt => XS.ifYes X2.here hx rfl (pc0 := 8) (pc' := 28) rfl (hb hby own_d4_8) rfl ((if0 _ _).trans (feq ((by decide) : ¬ ((1 : Int32) = (0 : Int32)))).2) (by decide) (by decide) kt) ?_
  show own_Rch p e below _ T2 (mkF m 28 #[.val (.ref a), .val (.int (100 : Int32)), .unset, .unset] [])
  refine own_st (fun _ kt => XS.iloadN X2.here hx rfl (hb hby own_d4_28) rfl  kt) ?_
  show own_Rch p e below _ T2 (mkF m 29 #[.val (.ref a), .val (.int (100 : Int32)), .unset, .unset] [(.int (100 : Int32))])
  refine own_st (fun _ kt => XS.i2l X2.here hx rfl (hb hby own_d4_29) rfl kt) ?_
  show own_Rch p e below _ T2 (mkF m 30 #[.val (.ref a), .val (.int (100 : Int32)), .unset, .unset] [(.long (100 : Int64))])
  refine own_st (fun _ kt => XS.aloadN X2.here hx rfl (hb hby own_d4_30) rfl rfl  kt) ?_
  show own_Rch p e below _ T2 (mkF m 31 #[.val (.ref a), .val (.int (100 : Int32)), .unset, .unset] [(.ref a), (.long (100 : Int64))])
  obtain ⟨T3, X3, e3, st3⟩ := getF X2 hx hZ hown (host := "") (Or.inl (hw _ (List.mem_of_getElem? (i := 19) rfl))) Via.refl e2 F2 (g := (mkF m 31 #[.val (.ref a), .val (.int (100 : Int32)), .unset, .unset] [(.ref a), (.long (100 : Int64))])) rfl rfl (hb hby own_d4_31)
  refine own_st st3 ?_
  show own_Rch p e below _ T3 (mkF m 34 #[.val (.ref a), .val (.int (100 : Int32)), .unset, .unset] [(.int (2 : Int32)), (.long (100 : Int64))])
  refine own_st (fun _ kt => XS.i2l X3.here hx rfl (hb hby own_d4_34) rfl kt) ?_
  show own_Rch p e below _ T3 (mkF m 35 #[.val (.ref a), .val (.int (100 : Int32)), .unset, .unset] [(.long (2 : Int64)), (.long (100 : Int64))])
  refine own_st (fun _ kt => XS.lmul X3.here hx rfl (hb hby own_d4_35) rfl kt) ?_
  show own_Rch p e below _ T3 (mkF m 36 #[.val (.ref a), .val (.int (100 : Int32)), .unset, .unset] [(.long (200 : Int64))])
  refine own_st (X3.ldc2Long hx hown (mvT hZ (hw _ (List.mem_of_getElem? (i := 47) rfl))) (g := (mkF m 36 #[.val (.ref a), .val (.int (100 : Int32)), .unset, .unset] [(.long (200 : Int64))])) rfl (hb hby own_d4_36)) ?_
  show own_Rch p e below _ T3 (mkF m 39 #[.val (.ref a), .val (.int (100 : Int32)), .unset, .unset] [(.long (99 : Int64)), (.long (200 : Int64))])
  refine own_st (fun _ kt => XS.ladd X3.here hx rfl (hb hby own_d4_39) rfl kt) ?_
  show own_Rch p e below _ T3 (mkF m 40 #[.val (.ref a), .val (.int (100 : Int32)), .unset, .unset] [(.long (299 : Int64))])
  refine own_st (X3.ldc2Long hx hown (mvT hZ (hw _ (List.mem_of_getElem? (i := 48) rfl))) (g := (mkF m 40 #[.val (.ref a), .val (.int (100 : Int32)), .unset, .unset] [(.long (299 : Int64))])) rfl (hb hby own_d4_40)) ?_
  show own_Rch p e below _ T3 (mkF m 43 #[.val (.ref a), .val (.int (100 : Int32)), .unset, .unset] [(.long (100 : Int64)), (.long (299 : Int64))])
  refine own_st (fun _ kt => XS.ldiv X3.here hx rfl (hb hby own_d4_43) rfl (by decide) kt) ?_
  show own_Rch p e below _ T3 (mkF m 44 #[.val (.ref a), .val (.int (100 : Int32)), .unset, .unset] [(.long (2 : Int64))])
  refine own_st (fun _ kt => XS.lstoreN X3.here hx rfl (hb hby own_d4_44) rfl (l' := #[.val (.ref a), .val (.int (100 : Int32)), .val (.long (2 : Int64)), .second]) rfl kt) ?_
  show own_Rch p e below _ T3 (mkF m 45 #[.val (.ref a), .val (.int (100 : Int32)), .val (.long (2 : Int64)), .second] [])
  refine own_st (fun _ kt => XS.aloadN X3.here hx rfl (hb hby own_d4_45) rfl rfl  kt) ?_
  show own_Rch p e below _ T3 (mkF m 46 #[.val (.ref a), .val (.int (100 : Int32)), .val (.long (2 : Int64)), .second] [(.ref a)])
  obtain ⟨T4, X4, e4, st4⟩ := getF X3 hx hZ hown (host := "") (Or.inl (hw _ (List.mem_of_getElem? (i := 10) rfl))) Via.refl e3 F1 (g := (mkF m 46 #[.val (.ref a), .val (.int (100 : Int32)), .val (.long (2 : Int64)), .second] [(.ref a)])) rfl rfl (hb hby own_d4_46)
  refine own_st st4 ?_
  show own_Rch p e below _ T4 (mkF m 49 #[.val (.ref a), .val (.int (100 : Int32)), .val (.long (2 : Int64)), .second] [(.ref b)])
  refine own_st (fun _ kt => XS.lloadN X4.here hx rfl (hb hby own_d4_49) rfl  kt) ?_
  show own_Rch p e below _ T4 (mkF m 50 #[.val (.ref a), .val (.int (100 : Int32)), .val (.long (2 : Int64)), .second] [(.long (2 : Int64)), (.ref b)])
  refine own_st (fun _ kt => XS.lconst X4.here hx rfl (hb hby own_d4_50) kt) ?_
  show own_Rch p e below _ T4 (mkF m 51 #[.val (.ref a), .val (.int (100 : Int32)), .val (.long (2 : Int64)), .second] [(.long (1 : Int64)), (.long (2 : Int64)), (.ref b)])
  obtain ⟨_, _, ⟨T5, L5, k5, n5⟩, -, X5, ⟨Lc5, hQ5, l5, y5, z5⟩, st5⟩ := Jvm.LawKit.callS X4 hx (y := (⟨"java/lang/Math", "max", "(JJ)J"⟩ : MethodName)) hown (mvT hZ (hw _ (List.mem_of_getElem? (i := 49) rfl))) (mvT hZ (hw _ (List.mem_of_getElem? (i := 50) rfl))) (mvT hZ (hw _ (List.mem_of_getElem? (i := 51) rfl))) (mvT hZ (hw _ (List.mem_of_getElem? (i := 52) rfl))) (by decide) (backOf (W := 1) (own_lmaxl l Z a0 hw [] (2 : Int64) (1 : Int64) h0 n0 O0 (by decide)) hZ (hw _ (List.mem_of_getElem? (i := 52) rfl)) (hw _ (List.mem_of_getElem? (i := 51) rfl)) (by decide) (by decide)) (g := (mkF m 51 #[.val (.ref a), .val (.int (100 : Int32)), .val (.long (2 : Int64)), .second] [(.long (1 : Int64)), (.long (2 : Int64)), (.ref b)])) rfl (by rw [hml]; rfl) (argsL := [(.long (2 : Int64)), (.long (1 : Int64))]) (rest := [(.ref b)]) (lenOf own_pd0 rfl) rfl (by show 2 * 0 + _ ≤ _; exact Nat.le_of_eq rfl) (hb hby own_d4_51) (fun _ _ => ⟨rfl, e4, (by decide : 0 + 0 ≤ _), (by decide : 0 + 0 ≤ _)⟩)
  dsimp only [Pt.U, Pt.locs, Pt.cells, Pt.slots] at X5 l5 y5 z5 st5 hQ5
  subst l5 y5 z5
  obtain ⟨rfl, N5q, hh5⟩ := hQ5
  have N5 := Fr.app N1 N5q
  refine own_st st5 ?_
  show own_Rch p e below _ T5 (mkF m 54 #[.val (.ref a), .val (.int (100 : Int32)), .val (.long (2 : Int64)), .second] [(.long (2 : Int64)), (.ref b)])
  refine own_st (fun _ kt => XS.l2i X5.here hx rfl (hb hby own_d4_54) rfl kt) ?_
  show own_Rch p e below _ T5 (mkF m 55 #[.val (.ref a), .val (.int (100 : Int32)), .val (.long (2 : Int64)), .second] [(.int (2 : Int32)), (.ref b)])
  refine own_st (fun _ kt => XS.iconst X5.here hx rfl (hb hby own_d4_55) kt) ?_
  show own_Rch p e below _ T5 (mkF m 56 #[.val (.ref a), .val (.int (100 : Int32)), .val (.long (2 : Int64)), .second] [(.int (1 : Int32)), (.int (2 : Int32)), (.ref b)])
  refine own_st (fun _ kt => XS.isub X5.here hx rfl (hb hby own_d4_56) rfl kt) ?_
  show own_Rch p e below _ T5 (mkF m 57 #[.val (.ref a), .val (.int (100 : Int32)), .val (.long (2 : Int64)), .second] [(.int (1 : Int32)), (.ref b)])
  obtain ⟨cl6, Ar6, q6, S6, M6, H6, G6⟩ := id VB
  have hin6 : ¬ ((1 : Int32) < 0 ∨ cl6.slots.size ≤ ((1 : Int32)).toNatClampNeg) := inb_of S6 ⟨by decide, by decide⟩
  refine own_st (X5.laload hx (j := (1 : Int32)) (v := (.long y1)) (by rw [hh5]; exact Ar6.1) (State.isArrayOf_alike (hZ).alike Ar6.2.1) Ar6.2.2 hin6 (H6.at hin6 rfl) (g := (mkF m 57 #[.val (.ref a), .val (.int (100 : Int32)), .val (.long (2 : Int64)), .second] [(.int (1 : Int32)), (.ref b)])) rfl rfl (hb hby own_d4_57)) ?_
  show own_Rch p e below _ T5 (mkF m 58 #[.val (.ref a), .val (.int (100 : Int32)), .val (.long (2 : Int64)), .second] [(.long y1)])
  refine own_retL X5 hx Bd.notSynchronized Bd.returns (hb hby own_d4_58) (by decide) (by decide) ?_
  rw [hh5]
  exact ⟨rfl, N5, rfl⟩
def own_Q_own_pc_100_3_1 (Z : State) (a : Addr) (b : Addr) (k : ClassId) (y0 : Int64) (y1 : Int64) (y2 : Int64) (y3 : Int64) (h0 : Heap) (n0 : Nat) (v : Option Value) (h : Heap) (L : List Loc) : Prop := v = some (.long y2) ∧ Fr n0 L ∧ h = h0
set_option maxRecDepth 65536 in
set_option maxHeartbeats 40000000 in
theorem own_pc_100_3_1 (l : Launch) (Z : State) (a0 : Array Value) (hw : ∀ d ∈ tables_1, d.before a0 Z = true) (ws : List Jvm.Cond) (a : Addr) (b : Addr) (k : ClassId) (y0 : Int64) (y1 : Int64) (y2 : Int64) (y3 : Int64) (h0 : Heap) (n0 : Nat) (O0 : Old Z n0 h0) (EA : Exa Z h0 a "com/example/respite/respite/cli/Latencies") (F1 : Fld Z h0 a "com/example/respite/respite/cli/Latencies" "nanos" "[J" (.ref b)) (F2 : Fld Z h0 a "com/example/respite/respite/cli/Latencies" "count" "I" (.int (3 : Int32))) (F3 : Fld Z h0 a "com/example/respite/respite/cli/Latencies" "sorted" "Z" (.int (1 : Int32))) (VB : Arv Z h0 b k .long (1024 : Int32) [(.long y0), (.long y1), (.long y2), (.long y3)] (.long (0 : Int64))) (ga : n0 ≤ a) (gb : n0 ≤ b) (hab : a ≠ b) :
    MetFree l (⟨"com/example/respite/respite/cli/Latencies", "percentile", "(I)J"⟩ : MethodName) (head1 (Jvm.Cond.code (⟨"com/example/respite/respite/cli/Latencies", "percentile", "(I)J"⟩ : MethodName) prog_8_method_5_code 4 (some .long) :: ws) ({ frames := 1, cells := 0, slots := 0, locals := 16 } : Room)) (fun args_ U => args_ = #[(.ref a), (.int (100 : Int32))] ∧ Z.Warmed39 U.vm ∧ U.heap = h0) (fun _ _ _ _ _ => True) (fun _ U o U' => ∃ v L, o = .returned v ∧ (own_Q_own_pc_100_3_1 Z a b k y0 y1 y2 y3 h0 n0) v U'.heap L ∧ FrameEnd U o U' L ({ frames := 1, cells := 0, slots := 0, locals := 16 } : Room).cells ({ frames := 1, cells := 0, slots := 0, locals := 16 } : Room).slots) := by
  refine MetFree.of_bodySF (plainFor_of_name own_pn1) hisR ?_
  intro p e s m args below meth c s₁ Bd hml0 hP hK
  obtain ⟨rfl, hZ, hh⟩ := hP
  have hx := Bd.exec
  have hby := Bd.bytes
  have hml : c.maxLocals = 4 := hml0
  have hown : s.vm.findClass "com/example/respite/respite/cli/Latencies" = some m.cls := findClass_of_methodNamed Bd.named
  have hnm := (name_of_methodNamed Bd.named Bd.method).1
  have X0 : Stand p l e ({ frames := 1, cells := 0, slots := 0, locals := 16 } : Room) s m #[(.ref a), (.int (100 : Int32))] below meth c s₁ [] 0 0 := Stand.of_body Bd
  have e0 : s₁.heap = h0 := by rw [← hh, Bd.state]; rfl
  have N0 := Fr.nil n0
  refine own_close (s := s) (Q := (own_Q_own_pc_100_3_1 Z a b k y0 y1 y2 y3 h0 n0)) (C := (({ frames := 1, cells := 0, slots := 0, locals := 16 } : Room)).cells) (N := (({ frames := 1, cells := 0, slots := 0, locals := 16 } : Room)).slots) (own_st (fun _ kt => castTop (own_ef4 m a (100 : Int32)) kt) ?_)
  show own_Rch p e below _ s₁ (mkF m 0 #[.val (.ref a), .val (.int (100 : Int32)), .unset, .unset] [])
  refine own_st (fun _ kt => XS.aloadN X0.here hx rfl (hb hby own_d4_0) rfl rfl  kt) ?_
  show own_Rch p e below _ s₁ (mkF m 1 #[.val (.ref a), .val (.int (100 : Int32)), .unset, .unset] [(.ref a)])
  obtain ⟨cq1, q1a, q1b⟩ := EA.cell
  obtain ⟨_, _, ⟨T1, L1, k1, n1⟩, -, X1, ⟨Lc1, hQ1, l1, y1, z1⟩, st1⟩ := X0.privateBack hx (y := (⟨"com/example/respite/respite/cli/Latencies", "requireAny", "()V"⟩ : MethodName)) hown (mvT hZ (hw _ (List.mem_of_getElem? (i := 26) rfl))) (mvT hZ (hw _ (List.mem_of_getElem? (i := 27) rfl))) (mvT hZ (own_psel (hw _ (List.mem_of_getElem? (i := 1) rfl)) (hw _ (List.mem_of_getElem? (i := 28) rfl)) (hw _ (List.mem_of_getElem? (i := 27) rfl)))) (Cond.privateMethod_at (mvP hZ (hw _ (List.mem_of_getElem? (i := 28) rfl)) (args := #[]))) (mvT hZ (hw _ (List.mem_of_getElem? (i := 29) rfl))) (by decide) (backOf (W := 0) (own_req l Z a0 hw [] a (3 : Int32) h0 n0 O0 F2 (by decide)) hZ (hw _ (List.mem_of_getElem? (i := 29) rfl)) (hw _ (List.mem_of_getElem? (i := 2) rfl)) (by decide) (by decide)) (g := (mkF m 1 #[.val (.ref a), .val (.int (100 : Int32)), .unset, .unset] [(.ref a)])) rfl (by rw [hml]; rfl) (Steps.refl _) (a := a) (by rw [e0]; exact q1a) q1b (argsL := []) (rest := []) (lenOf own_pd5 rfl) rfl (by show 2 * 0 + _ ≤ _; exact Nat.le_of_eq rfl) (hb hby own_d4_1) (fun _ _ => ⟨rfl, e0, (by decide : 0 + 0 ≤ _), (by decide : 0 + 0 ≤ _)⟩)
  dsimp only [Pt.U, Pt.locs, Pt.cells, Pt.slots] at X1 l1 y1 z1 st1 hQ1
  subst l1 y1 z1
  obtain ⟨rfl, N1q, hh1⟩ := hQ1
  have N1 := Fr.app N0 N1q
  refine own_st (fun _ kt => st1.trans kt) ?_
  show own_Rch p e below _ T1 (mkF m 4 #[.val (.ref a), .val (.int (100 : Int32)), .unset, .unset] [])
  refine own_st (fun _ kt => XS.aloadN X1.here hx rfl (hb hby own_d4_4) rfl rfl  kt) ?_
  show own_Rch p e below _ T1 (mkF m 5 #[.val (.ref a), .val (.int (100 : Int32)), .unset, .unset] [(.ref a)])
  obtain ⟨T2, X2, e2, st2⟩ := getF X1 hx hZ hown (host := "") (Or.inl (hw _ (List.mem_of_getElem? (i := 12) rfl))) Via.refl hh1 F3 (g := (mkF m 5 #[.val (.ref a), .val (.int (100 : Int32)), .unset, .unset] [(.ref a)])) rfl rfl (hb hby own_d4_5)
  refine own_st st2 ?_
  show own_Rch p e below _ T2 (mkF m 8 #[.val (.ref a), .val (.int (100 : Int32)), .unset, .unset] [(.int (1 : Int32))])
  refine own_st (fun _ kt => XS.ifYes X2.here hx rfl (pc0 := 8) (pc' := 28) rfl (hb hby own_d4_8) rfl ((if0 _ _).trans (feq ((by decide) : ¬ ((1 : Int32) = (0 : Int32)))).2) (by decide) (by decide) kt) ?_
  show own_Rch p e below _ T2 (mkF m 28 #[.val (.ref a), .val (.int (100 : Int32)), .unset, .unset] [])
  refine own_st (fun _ kt => XS.iloadN X2.here hx rfl (hb hby own_d4_28) rfl  kt) ?_
  show own_Rch p e below _ T2 (mkF m 29 #[.val (.ref a), .val (.int (100 : Int32)), .unset, .unset] [(.int (100 : Int32))])
  refine own_st (fun _ kt => XS.i2l X2.here hx rfl (hb hby own_d4_29) rfl kt) ?_
  show own_Rch p e below _ T2 (mkF m 30 #[.val (.ref a), .val (.int (100 : Int32)), .unset, .unset] [(.long (100 : Int64))])
  refine own_st (fun _ kt => XS.aloadN X2.here hx rfl (hb hby own_d4_30) rfl rfl  kt) ?_
  show own_Rch p e below _ T2 (mkF m 31 #[.val (.ref a), .val (.int (100 : Int32)), .unset, .unset] [(.ref a), (.long (100 : Int64))])
  obtain ⟨T3, X3, e3, st3⟩ := getF X2 hx hZ hown (host := "") (Or.inl (hw _ (List.mem_of_getElem? (i := 19) rfl))) Via.refl e2 F2 (g := (mkF m 31 #[.val (.ref a), .val (.int (100 : Int32)), .unset, .unset] [(.ref a), (.long (100 : Int64))])) rfl rfl (hb hby own_d4_31)
  refine own_st st3 ?_
  show own_Rch p e below _ T3 (mkF m 34 #[.val (.ref a), .val (.int (100 : Int32)), .unset, .unset] [(.int (3 : Int32)), (.long (100 : Int64))])
  refine own_st (fun _ kt => XS.i2l X3.here hx rfl (hb hby own_d4_34) rfl kt) ?_
  show own_Rch p e below _ T3 (mkF m 35 #[.val (.ref a), .val (.int (100 : Int32)), .unset, .unset] [(.long (3 : Int64)), (.long (100 : Int64))])
  refine own_st (fun _ kt => XS.lmul X3.here hx rfl (hb hby own_d4_35) rfl kt) ?_
  show own_Rch p e below _ T3 (mkF m 36 #[.val (.ref a), .val (.int (100 : Int32)), .unset, .unset] [(.long (300 : Int64))])
  refine own_st (X3.ldc2Long hx hown (mvT hZ (hw _ (List.mem_of_getElem? (i := 47) rfl))) (g := (mkF m 36 #[.val (.ref a), .val (.int (100 : Int32)), .unset, .unset] [(.long (300 : Int64))])) rfl (hb hby own_d4_36)) ?_
  show own_Rch p e below _ T3 (mkF m 39 #[.val (.ref a), .val (.int (100 : Int32)), .unset, .unset] [(.long (99 : Int64)), (.long (300 : Int64))])
  refine own_st (fun _ kt => XS.ladd X3.here hx rfl (hb hby own_d4_39) rfl kt) ?_
  show own_Rch p e below _ T3 (mkF m 40 #[.val (.ref a), .val (.int (100 : Int32)), .unset, .unset] [(.long (399 : Int64))])
  refine own_st (X3.ldc2Long hx hown (mvT hZ (hw _ (List.mem_of_getElem? (i := 48) rfl))) (g := (mkF m 40 #[.val (.ref a), .val (.int (100 : Int32)), .unset, .unset] [(.long (399 : Int64))])) rfl (hb hby own_d4_40)) ?_
  show own_Rch p e below _ T3 (mkF m 43 #[.val (.ref a), .val (.int (100 : Int32)), .unset, .unset] [(.long (100 : Int64)), (.long (399 : Int64))])
  refine own_st (fun _ kt => XS.ldiv X3.here hx rfl (hb hby own_d4_43) rfl (by decide) kt) ?_
  show own_Rch p e below _ T3 (mkF m 44 #[.val (.ref a), .val (.int (100 : Int32)), .unset, .unset] [(.long (3 : Int64))])
  refine own_st (fun _ kt => XS.lstoreN X3.here hx rfl (hb hby own_d4_44) rfl (l' := #[.val (.ref a), .val (.int (100 : Int32)), .val (.long (3 : Int64)), .second]) rfl kt) ?_
  show own_Rch p e below _ T3 (mkF m 45 #[.val (.ref a), .val (.int (100 : Int32)), .val (.long (3 : Int64)), .second] [])
  refine own_st (fun _ kt => XS.aloadN X3.here hx rfl (hb hby own_d4_45) rfl rfl  kt) ?_
  show own_Rch p e below _ T3 (mkF m 46 #[.val (.ref a), .val (.int (100 : Int32)), .val (.long (3 : Int64)), .second] [(.ref a)])
  obtain ⟨T4, X4, e4, st4⟩ := getF X3 hx hZ hown (host := "") (Or.inl (hw _ (List.mem_of_getElem? (i := 10) rfl))) Via.refl e3 F1 (g := (mkF m 46 #[.val (.ref a), .val (.int (100 : Int32)), .val (.long (3 : Int64)), .second] [(.ref a)])) rfl rfl (hb hby own_d4_46)
  refine own_st st4 ?_
  show own_Rch p e below _ T4 (mkF m 49 #[.val (.ref a), .val (.int (100 : Int32)), .val (.long (3 : Int64)), .second] [(.ref b)])
  refine own_st (fun _ kt => XS.lloadN X4.here hx rfl (hb hby own_d4_49) rfl  kt) ?_
  show own_Rch p e below _ T4 (mkF m 50 #[.val (.ref a), .val (.int (100 : Int32)), .val (.long (3 : Int64)), .second] [(.long (3 : Int64)), (.ref b)])
  refine own_st (fun _ kt => XS.lconst X4.here hx rfl (hb hby own_d4_50) kt) ?_
  show own_Rch p e below _ T4 (mkF m 51 #[.val (.ref a), .val (.int (100 : Int32)), .val (.long (3 : Int64)), .second] [(.long (1 : Int64)), (.long (3 : Int64)), (.ref b)])
  obtain ⟨_, _, ⟨T5, L5, k5, n5⟩, -, X5, ⟨Lc5, hQ5, l5, y5, z5⟩, st5⟩ := Jvm.LawKit.callS X4 hx (y := (⟨"java/lang/Math", "max", "(JJ)J"⟩ : MethodName)) hown (mvT hZ (hw _ (List.mem_of_getElem? (i := 49) rfl))) (mvT hZ (hw _ (List.mem_of_getElem? (i := 50) rfl))) (mvT hZ (hw _ (List.mem_of_getElem? (i := 51) rfl))) (mvT hZ (hw _ (List.mem_of_getElem? (i := 52) rfl))) (by decide) (backOf (W := 1) (own_lmaxl l Z a0 hw [] (3 : Int64) (1 : Int64) h0 n0 O0 (by decide)) hZ (hw _ (List.mem_of_getElem? (i := 52) rfl)) (hw _ (List.mem_of_getElem? (i := 51) rfl)) (by decide) (by decide)) (g := (mkF m 51 #[.val (.ref a), .val (.int (100 : Int32)), .val (.long (3 : Int64)), .second] [(.long (1 : Int64)), (.long (3 : Int64)), (.ref b)])) rfl (by rw [hml]; rfl) (argsL := [(.long (3 : Int64)), (.long (1 : Int64))]) (rest := [(.ref b)]) (lenOf own_pd0 rfl) rfl (by show 2 * 0 + _ ≤ _; exact Nat.le_of_eq rfl) (hb hby own_d4_51) (fun _ _ => ⟨rfl, e4, (by decide : 0 + 0 ≤ _), (by decide : 0 + 0 ≤ _)⟩)
  dsimp only [Pt.U, Pt.locs, Pt.cells, Pt.slots] at X5 l5 y5 z5 st5 hQ5
  subst l5 y5 z5
  obtain ⟨rfl, N5q, hh5⟩ := hQ5
  have N5 := Fr.app N1 N5q
  refine own_st st5 ?_
  show own_Rch p e below _ T5 (mkF m 54 #[.val (.ref a), .val (.int (100 : Int32)), .val (.long (3 : Int64)), .second] [(.long (3 : Int64)), (.ref b)])
  refine own_st (fun _ kt => XS.l2i X5.here hx rfl (hb hby own_d4_54) rfl kt) ?_
  show own_Rch p e below _ T5 (mkF m 55 #[.val (.ref a), .val (.int (100 : Int32)), .val (.long (3 : Int64)), .second] [(.int (3 : Int32)), (.ref b)])
  refine own_st (fun _ kt => XS.iconst X5.here hx rfl (hb hby own_d4_55) kt) ?_
  show own_Rch p e below _ T5 (mkF m 56 #[.val (.ref a), .val (.int (100 : Int32)), .val (.long (3 : Int64)), .second] [(.int (1 : Int32)), (.int (3 : Int32)), (.ref b)])
  refine own_st (fun _ kt => XS.isub X5.here hx rfl (hb hby own_d4_56) rfl kt) ?_
  show own_Rch p e below _ T5 (mkF m 57 #[.val (.ref a), .val (.int (100 : Int32)), .val (.long (3 : Int64)), .second] [(.int (2 : Int32)), (.ref b)])
  obtain ⟨cl6, Ar6, q6, S6, M6, H6, G6⟩ := id VB
  have hin6 : ¬ ((2 : Int32) < 0 ∨ cl6.slots.size ≤ ((2 : Int32)).toNatClampNeg) := inb_of S6 ⟨by decide, by decide⟩
  refine own_st (X5.laload hx (j := (2 : Int32)) (v := (.long y2)) (by rw [hh5]; exact Ar6.1) (State.isArrayOf_alike (hZ).alike Ar6.2.1) Ar6.2.2 hin6 (H6.at hin6 rfl) (g := (mkF m 57 #[.val (.ref a), .val (.int (100 : Int32)), .val (.long (3 : Int64)), .second] [(.int (2 : Int32)), (.ref b)])) rfl rfl (hb hby own_d4_57)) ?_
  show own_Rch p e below _ T5 (mkF m 58 #[.val (.ref a), .val (.int (100 : Int32)), .val (.long (3 : Int64)), .second] [(.long y2)])
  refine own_retL X5 hx Bd.notSynchronized Bd.returns (hb hby own_d4_58) (by decide) (by decide) ?_
  rw [hh5]
  exact ⟨rfl, N5, rfl⟩
def own_Q_own_pc_100_4_1 (Z : State) (a : Addr) (b : Addr) (k : ClassId) (y0 : Int64) (y1 : Int64) (y2 : Int64) (y3 : Int64) (h0 : Heap) (n0 : Nat) (v : Option Value) (h : Heap) (L : List Loc) : Prop := v = some (.long y3) ∧ Fr n0 L ∧ h = h0
set_option maxRecDepth 65536 in
set_option maxHeartbeats 40000000 in
theorem own_pc_100_4_1 (l : Launch) (Z : State) (a0 : Array Value) (hw : ∀ d ∈ tables_1, d.before a0 Z = true) (ws : List Jvm.Cond) (a : Addr) (b : Addr) (k : ClassId) (y0 : Int64) (y1 : Int64) (y2 : Int64) (y3 : Int64) (h0 : Heap) (n0 : Nat) (O0 : Old Z n0 h0) (EA : Exa Z h0 a "com/example/respite/respite/cli/Latencies") (F1 : Fld Z h0 a "com/example/respite/respite/cli/Latencies" "nanos" "[J" (.ref b)) (F2 : Fld Z h0 a "com/example/respite/respite/cli/Latencies" "count" "I" (.int (4 : Int32))) (F3 : Fld Z h0 a "com/example/respite/respite/cli/Latencies" "sorted" "Z" (.int (1 : Int32))) (VB : Arv Z h0 b k .long (1024 : Int32) [(.long y0), (.long y1), (.long y2), (.long y3)] (.long (0 : Int64))) (ga : n0 ≤ a) (gb : n0 ≤ b) (hab : a ≠ b) :
    MetFree l (⟨"com/example/respite/respite/cli/Latencies", "percentile", "(I)J"⟩ : MethodName) (head1 (Jvm.Cond.code (⟨"com/example/respite/respite/cli/Latencies", "percentile", "(I)J"⟩ : MethodName) prog_8_method_5_code 4 (some .long) :: ws) ({ frames := 1, cells := 0, slots := 0, locals := 16 } : Room)) (fun args_ U => args_ = #[(.ref a), (.int (100 : Int32))] ∧ Z.Warmed39 U.vm ∧ U.heap = h0) (fun _ _ _ _ _ => True) (fun _ U o U' => ∃ v L, o = .returned v ∧ (own_Q_own_pc_100_4_1 Z a b k y0 y1 y2 y3 h0 n0) v U'.heap L ∧ FrameEnd U o U' L ({ frames := 1, cells := 0, slots := 0, locals := 16 } : Room).cells ({ frames := 1, cells := 0, slots := 0, locals := 16 } : Room).slots) := by
  refine MetFree.of_bodySF (plainFor_of_name own_pn1) hisR ?_
  intro p e s m args below meth c s₁ Bd hml0 hP hK
  obtain ⟨rfl, hZ, hh⟩ := hP
  have hx := Bd.exec
  have hby := Bd.bytes
  have hml : c.maxLocals = 4 := hml0
  have hown : s.vm.findClass "com/example/respite/respite/cli/Latencies" = some m.cls := findClass_of_methodNamed Bd.named
  have hnm := (name_of_methodNamed Bd.named Bd.method).1
  have X0 : Stand p l e ({ frames := 1, cells := 0, slots := 0, locals := 16 } : Room) s m #[(.ref a), (.int (100 : Int32))] below meth c s₁ [] 0 0 := Stand.of_body Bd
  have e0 : s₁.heap = h0 := by rw [← hh, Bd.state]; rfl
  have N0 := Fr.nil n0
  refine own_close (s := s) (Q := (own_Q_own_pc_100_4_1 Z a b k y0 y1 y2 y3 h0 n0)) (C := (({ frames := 1, cells := 0, slots := 0, locals := 16 } : Room)).cells) (N := (({ frames := 1, cells := 0, slots := 0, locals := 16 } : Room)).slots) (own_st (fun _ kt => castTop (own_ef4 m a (100 : Int32)) kt) ?_)
  show own_Rch p e below _ s₁ (mkF m 0 #[.val (.ref a), .val (.int (100 : Int32)), .unset, .unset] [])
  refine own_st (fun _ kt => XS.aloadN X0.here hx rfl (hb hby own_d4_0) rfl rfl  kt) ?_
  show own_Rch p e below _ s₁ (mkF m 1 #[.val (.ref a), .val (.int (100 : Int32)), .unset, .unset] [(.ref a)])
  obtain ⟨cq1, q1a, q1b⟩ := EA.cell
  obtain ⟨_, _, ⟨T1, L1, k1, n1⟩, -, X1, ⟨Lc1, hQ1, l1, y1, z1⟩, st1⟩ := X0.privateBack hx (y := (⟨"com/example/respite/respite/cli/Latencies", "requireAny", "()V"⟩ : MethodName)) hown (mvT hZ (hw _ (List.mem_of_getElem? (i := 26) rfl))) (mvT hZ (hw _ (List.mem_of_getElem? (i := 27) rfl))) (mvT hZ (own_psel (hw _ (List.mem_of_getElem? (i := 1) rfl)) (hw _ (List.mem_of_getElem? (i := 28) rfl)) (hw _ (List.mem_of_getElem? (i := 27) rfl)))) (Cond.privateMethod_at (mvP hZ (hw _ (List.mem_of_getElem? (i := 28) rfl)) (args := #[]))) (mvT hZ (hw _ (List.mem_of_getElem? (i := 29) rfl))) (by decide) (backOf (W := 0) (own_req l Z a0 hw [] a (4 : Int32) h0 n0 O0 F2 (by decide)) hZ (hw _ (List.mem_of_getElem? (i := 29) rfl)) (hw _ (List.mem_of_getElem? (i := 2) rfl)) (by decide) (by decide)) (g := (mkF m 1 #[.val (.ref a), .val (.int (100 : Int32)), .unset, .unset] [(.ref a)])) rfl (by rw [hml]; rfl) (Steps.refl _) (a := a) (by rw [e0]; exact q1a) q1b (argsL := []) (rest := []) (lenOf own_pd5 rfl) rfl (by show 2 * 0 + _ ≤ _; exact Nat.le_of_eq rfl) (hb hby own_d4_1) (fun _ _ => ⟨rfl, e0, (by decide : 0 + 0 ≤ _), (by decide : 0 + 0 ≤ _)⟩)
  dsimp only [Pt.U, Pt.locs, Pt.cells, Pt.slots] at X1 l1 y1 z1 st1 hQ1
  subst l1 y1 z1
  obtain ⟨rfl, N1q, hh1⟩ := hQ1
  have N1 := Fr.app N0 N1q
  refine own_st (fun _ kt => st1.trans kt) ?_
  show own_Rch p e below _ T1 (mkF m 4 #[.val (.ref a), .val (.int (100 : Int32)), .unset, .unset] [])
  refine own_st (fun _ kt => XS.aloadN X1.here hx rfl (hb hby own_d4_4) rfl rfl  kt) ?_
  show own_Rch p e below _ T1 (mkF m 5 #[.val (.ref a), .val (.int (100 : Int32)), .unset, .unset] [(.ref a)])
  obtain ⟨T2, X2, e2, st2⟩ := getF X1 hx hZ hown (host := "") (Or.inl (hw _ (List.mem_of_getElem? (i := 12) rfl))) Via.refl hh1 F3 (g := (mkF m 5 #[.val (.ref a), .val (.int (100 : Int32)), .unset, .unset] [(.ref a)])) rfl rfl (hb hby own_d4_5)
  refine own_st st2 ?_
  show own_Rch p e below _ T2 (mkF m 8 #[.val (.ref a), .val (.int (100 : Int32)), .unset, .unset] [(.int (1 : Int32))])
  refine own_st (fun _ kt => XS.ifYes X2.here hx rfl (pc0 := 8) (pc' := 28) rfl (hb hby own_d4_8) rfl ((if0 _ _).trans (feq ((by decide) : ¬ ((1 : Int32) = (0 : Int32)))).2) (by decide) (by decide) kt) ?_
  show own_Rch p e below _ T2 (mkF m 28 #[.val (.ref a), .val (.int (100 : Int32)), .unset, .unset] [])
  refine own_st (fun _ kt => XS.iloadN X2.here hx rfl (hb hby own_d4_28) rfl  kt) ?_
  show own_Rch p e below _ T2 (mkF m 29 #[.val (.ref a), .val (.int (100 : Int32)), .unset, .unset] [(.int (100 : Int32))])
  refine own_st (fun _ kt => XS.i2l X2.here hx rfl (hb hby own_d4_29) rfl kt) ?_
  show own_Rch p e below _ T2 (mkF m 30 #[.val (.ref a), .val (.int (100 : Int32)), .unset, .unset] [(.long (100 : Int64))])
  refine own_st (fun _ kt => XS.aloadN X2.here hx rfl (hb hby own_d4_30) rfl rfl  kt) ?_
  show own_Rch p e below _ T2 (mkF m 31 #[.val (.ref a), .val (.int (100 : Int32)), .unset, .unset] [(.ref a), (.long (100 : Int64))])
  obtain ⟨T3, X3, e3, st3⟩ := getF X2 hx hZ hown (host := "") (Or.inl (hw _ (List.mem_of_getElem? (i := 19) rfl))) Via.refl e2 F2 (g := (mkF m 31 #[.val (.ref a), .val (.int (100 : Int32)), .unset, .unset] [(.ref a), (.long (100 : Int64))])) rfl rfl (hb hby own_d4_31)
  refine own_st st3 ?_
  show own_Rch p e below _ T3 (mkF m 34 #[.val (.ref a), .val (.int (100 : Int32)), .unset, .unset] [(.int (4 : Int32)), (.long (100 : Int64))])
  refine own_st (fun _ kt => XS.i2l X3.here hx rfl (hb hby own_d4_34) rfl kt) ?_
  show own_Rch p e below _ T3 (mkF m 35 #[.val (.ref a), .val (.int (100 : Int32)), .unset, .unset] [(.long (4 : Int64)), (.long (100 : Int64))])
  refine own_st (fun _ kt => XS.lmul X3.here hx rfl (hb hby own_d4_35) rfl kt) ?_
  show own_Rch p e below _ T3 (mkF m 36 #[.val (.ref a), .val (.int (100 : Int32)), .unset, .unset] [(.long (400 : Int64))])
  refine own_st (X3.ldc2Long hx hown (mvT hZ (hw _ (List.mem_of_getElem? (i := 47) rfl))) (g := (mkF m 36 #[.val (.ref a), .val (.int (100 : Int32)), .unset, .unset] [(.long (400 : Int64))])) rfl (hb hby own_d4_36)) ?_
  show own_Rch p e below _ T3 (mkF m 39 #[.val (.ref a), .val (.int (100 : Int32)), .unset, .unset] [(.long (99 : Int64)), (.long (400 : Int64))])
  refine own_st (fun _ kt => XS.ladd X3.here hx rfl (hb hby own_d4_39) rfl kt) ?_
  show own_Rch p e below _ T3 (mkF m 40 #[.val (.ref a), .val (.int (100 : Int32)), .unset, .unset] [(.long (499 : Int64))])
  refine own_st (X3.ldc2Long hx hown (mvT hZ (hw _ (List.mem_of_getElem? (i := 48) rfl))) (g := (mkF m 40 #[.val (.ref a), .val (.int (100 : Int32)), .unset, .unset] [(.long (499 : Int64))])) rfl (hb hby own_d4_40)) ?_
  show own_Rch p e below _ T3 (mkF m 43 #[.val (.ref a), .val (.int (100 : Int32)), .unset, .unset] [(.long (100 : Int64)), (.long (499 : Int64))])
  refine own_st (fun _ kt => XS.ldiv X3.here hx rfl (hb hby own_d4_43) rfl (by decide) kt) ?_
  show own_Rch p e below _ T3 (mkF m 44 #[.val (.ref a), .val (.int (100 : Int32)), .unset, .unset] [(.long (4 : Int64))])
  refine own_st (fun _ kt => XS.lstoreN X3.here hx rfl (hb hby own_d4_44) rfl (l' := #[.val (.ref a), .val (.int (100 : Int32)), .val (.long (4 : Int64)), .second]) rfl kt) ?_
  show own_Rch p e below _ T3 (mkF m 45 #[.val (.ref a), .val (.int (100 : Int32)), .val (.long (4 : Int64)), .second] [])
  refine own_st (fun _ kt => XS.aloadN X3.here hx rfl (hb hby own_d4_45) rfl rfl  kt) ?_
  show own_Rch p e below _ T3 (mkF m 46 #[.val (.ref a), .val (.int (100 : Int32)), .val (.long (4 : Int64)), .second] [(.ref a)])
  obtain ⟨T4, X4, e4, st4⟩ := getF X3 hx hZ hown (host := "") (Or.inl (hw _ (List.mem_of_getElem? (i := 10) rfl))) Via.refl e3 F1 (g := (mkF m 46 #[.val (.ref a), .val (.int (100 : Int32)), .val (.long (4 : Int64)), .second] [(.ref a)])) rfl rfl (hb hby own_d4_46)
  refine own_st st4 ?_
  show own_Rch p e below _ T4 (mkF m 49 #[.val (.ref a), .val (.int (100 : Int32)), .val (.long (4 : Int64)), .second] [(.ref b)])
  refine own_st (fun _ kt => XS.lloadN X4.here hx rfl (hb hby own_d4_49) rfl  kt) ?_
  show own_Rch p e below _ T4 (mkF m 50 #[.val (.ref a), .val (.int (100 : Int32)), .val (.long (4 : Int64)), .second] [(.long (4 : Int64)), (.ref b)])
  refine own_st (fun _ kt => XS.lconst X4.here hx rfl (hb hby own_d4_50) kt) ?_
  show own_Rch p e below _ T4 (mkF m 51 #[.val (.ref a), .val (.int (100 : Int32)), .val (.long (4 : Int64)), .second] [(.long (1 : Int64)), (.long (4 : Int64)), (.ref b)])
  obtain ⟨_, _, ⟨T5, L5, k5, n5⟩, -, X5, ⟨Lc5, hQ5, l5, y5, z5⟩, st5⟩ := Jvm.LawKit.callS X4 hx (y := (⟨"java/lang/Math", "max", "(JJ)J"⟩ : MethodName)) hown (mvT hZ (hw _ (List.mem_of_getElem? (i := 49) rfl))) (mvT hZ (hw _ (List.mem_of_getElem? (i := 50) rfl))) (mvT hZ (hw _ (List.mem_of_getElem? (i := 51) rfl))) (mvT hZ (hw _ (List.mem_of_getElem? (i := 52) rfl))) (by decide) (backOf (W := 1) (own_lmaxl l Z a0 hw [] (4 : Int64) (1 : Int64) h0 n0 O0 (by decide)) hZ (hw _ (List.mem_of_getElem? (i := 52) rfl)) (hw _ (List.mem_of_getElem? (i := 51) rfl)) (by decide) (by decide)) (g := (mkF m 51 #[.val (.ref a), .val (.int (100 : Int32)), .val (.long (4 : Int64)), .second] [(.long (1 : Int64)), (.long (4 : Int64)), (.ref b)])) rfl (by rw [hml]; rfl) (argsL := [(.long (4 : Int64)), (.long (1 : Int64))]) (rest := [(.ref b)]) (lenOf own_pd0 rfl) rfl (by show 2 * 0 + _ ≤ _; exact Nat.le_of_eq rfl) (hb hby own_d4_51) (fun _ _ => ⟨rfl, e4, (by decide : 0 + 0 ≤ _), (by decide : 0 + 0 ≤ _)⟩)
  dsimp only [Pt.U, Pt.locs, Pt.cells, Pt.slots] at X5 l5 y5 z5 st5 hQ5
  subst l5 y5 z5
  obtain ⟨rfl, N5q, hh5⟩ := hQ5
  have N5 := Fr.app N1 N5q
  refine own_st st5 ?_
  show own_Rch p e below _ T5 (mkF m 54 #[.val (.ref a), .val (.int (100 : Int32)), .val (.long (4 : Int64)), .second] [(.long (4 : Int64)), (.ref b)])
  refine own_st (fun _ kt => XS.l2i X5.here hx rfl (hb hby own_d4_54) rfl kt) ?_
  show own_Rch p e below _ T5 (mkF m 55 #[.val (.ref a), .val (.int (100 : Int32)), .val (.long (4 : Int64)), .second] [(.int (4 : Int32)), (.ref b)])
  refine own_st (fun _ kt => XS.iconst X5.here hx rfl (hb hby own_d4_55) kt) ?_
  show own_Rch p e below _ T5 (mkF m 56 #[.val (.ref a), .val (.int (100 : Int32)), .val (.long (4 : Int64)), .second] [(.int (1 : Int32)), (.int (4 : Int32)), (.ref b)])
  refine own_st (fun _ kt => XS.isub X5.here hx rfl (hb hby own_d4_56) rfl kt) ?_
  show own_Rch p e below _ T5 (mkF m 57 #[.val (.ref a), .val (.int (100 : Int32)), .val (.long (4 : Int64)), .second] [(.int (3 : Int32)), (.ref b)])
  obtain ⟨cl6, Ar6, q6, S6, M6, H6, G6⟩ := id VB
  have hin6 : ¬ ((3 : Int32) < 0 ∨ cl6.slots.size ≤ ((3 : Int32)).toNatClampNeg) := inb_of S6 ⟨by decide, by decide⟩
  refine own_st (X5.laload hx (j := (3 : Int32)) (v := (.long y3)) (by rw [hh5]; exact Ar6.1) (State.isArrayOf_alike (hZ).alike Ar6.2.1) Ar6.2.2 hin6 (H6.at hin6 rfl) (g := (mkF m 57 #[.val (.ref a), .val (.int (100 : Int32)), .val (.long (4 : Int64)), .second] [(.int (3 : Int32)), (.ref b)])) rfl rfl (hb hby own_d4_57)) ?_
  show own_Rch p e below _ T5 (mkF m 58 #[.val (.ref a), .val (.int (100 : Int32)), .val (.long (4 : Int64)), .second] [(.long y3)])
  refine own_retL X5 hx Bd.notSynchronized Bd.returns (hb hby own_d4_58) (by decide) (by decide) ?_
  rw [hh5]
  exact ⟨rfl, N5, rfl⟩
theorem own_ends1 {v0 w0 : Int64} (h : own_isort [v0] = [w0]) : (w0.toInt = v0.toInt) ∧ (w0.toInt = v0.toInt) ∧ w0.toInt ≤ v0.toInt ∧ v0.toInt ≤ w0.toInt := by
  obtain ⟨a1, a2⟩ := own_first h
  obtain ⟨b1, b2⟩ := own_last (ws := []) (w := w0) h
  simp only [List.mem_cons, List.not_mem_nil, or_false] at a1 b1
  refine ⟨by rcases a1 with rfl <;> simp, by rcases b1 with rfl <;> simp, a2 v0 (by simp), b2 v0 (by simp)⟩
theorem own_ends2 {v0 v1 w0 w1 : Int64} (h : own_isort [v0, v1] = [w0, w1]) : (w0.toInt = v0.toInt ∨ w0.toInt = v1.toInt) ∧ (w1.toInt = v0.toInt ∨ w1.toInt = v1.toInt) ∧ w0.toInt ≤ v0.toInt ∧ w0.toInt ≤ v1.toInt ∧ v0.toInt ≤ w1.toInt ∧ v1.toInt ≤ w1.toInt := by
  obtain ⟨a1, a2⟩ := own_first h
  obtain ⟨b1, b2⟩ := own_last (ws := [w0]) (w := w1) h
  simp only [List.mem_cons, List.not_mem_nil, or_false] at a1 b1
  refine ⟨by rcases a1 with rfl | rfl <;> simp, by rcases b1 with rfl | rfl <;> simp, a2 v0 (by simp), a2 v1 (by simp), b2 v0 (by simp), b2 v1 (by simp)⟩
theorem own_mid {v0 v1 v2 w0 w1 w2 : Int64} (h : own_isort [v0, v1, v2] = [w0, w1, w2]) : own_maxL (own_minL v0 v1) (own_minL (own_maxL v0 v1) v2) = w1 := by
  have hi : ∀ x y : Int64, x < y ↔ x.toInt < y.toInt := fun x y => Int64.lt_iff_toInt_lt
  apply Int64.toInt_inj.mp
  rw [own_maxL_i, own_minL_i, own_minL_i, own_maxL_i]
  simp only [own_isort, own_isr, own_insr] at h
  by_cases c1 : v1 < v0 <;> by_cases c2 : v2 < v0 <;> by_cases c3 : v2 < v1 <;> simp [own_insr, c1, c2, c3] at h <;> obtain ⟨rfl, rfl, rfl⟩ := h <;> simp only [hi] at c1 c2 c3 <;> (repeat' split) <;> omega
theorem own_ends3 {v0 v1 v2 w0 w1 w2 : Int64} (h : own_isort [v0, v1, v2] = [w0, w1, w2]) : (w0.toInt = v0.toInt ∨ w0.toInt = v1.toInt ∨ w0.toInt = v2.toInt) ∧ (w2.toInt = v0.toInt ∨ w2.toInt = v1.toInt ∨ w2.toInt = v2.toInt) ∧ w0.toInt ≤ v0.toInt ∧ w0.toInt ≤ v1.toInt ∧ w0.toInt ≤ v2.toInt ∧ v0.toInt ≤ w2.toInt ∧ v1.toInt ≤ w2.toInt ∧ v2.toInt ≤ w2.toInt ∧ (own_maxL (own_minL v0 v1) (own_minL (own_maxL v0 v1) v2)).toInt = w1.toInt ∧ (w1.toInt = v0.toInt ∨ w1.toInt = v1.toInt ∨ w1.toInt = v2.toInt) := by
  obtain ⟨a1, a2⟩ := own_first h
  obtain ⟨b1, b2⟩ := own_last (ws := [w0, w1]) (w := w2) h
  simp only [List.mem_cons, List.not_mem_nil, or_false] at a1 b1
  refine ⟨by rcases a1 with rfl | rfl | rfl <;> simp, by rcases b1 with rfl | rfl | rfl <;> simp, a2 v0 (by simp), a2 v1 (by simp), a2 v2 (by simp), b2 v0 (by simp), b2 v1 (by simp), b2 v2 (by simp), congrArg Int64.toInt (own_mid h), by have q := own_in h (w := w1) (by simp); simp only [List.mem_cons, List.not_mem_nil, or_false] at q; rcases q with rfl | rfl | rfl <;> simp⟩
theorem own_ends4 {v0 v1 v2 v3 w0 w1 w2 w3 : Int64} (h : own_isort [v0, v1, v2, v3] = [w0, w1, w2, w3]) : (w0.toInt = v0.toInt ∨ w0.toInt = v1.toInt ∨ w0.toInt = v2.toInt ∨ w0.toInt = v3.toInt) ∧ (w3.toInt = v0.toInt ∨ w3.toInt = v1.toInt ∨ w3.toInt = v2.toInt ∨ w3.toInt = v3.toInt) ∧ w0.toInt ≤ v0.toInt ∧ w0.toInt ≤ v1.toInt ∧ w0.toInt ≤ v2.toInt ∧ w0.toInt ≤ v3.toInt ∧ v0.toInt ≤ w3.toInt ∧ v1.toInt ≤ w3.toInt ∧ v2.toInt ≤ w3.toInt ∧ v3.toInt ≤ w3.toInt := by
  obtain ⟨a1, a2⟩ := own_first h
  obtain ⟨b1, b2⟩ := own_last (ws := [w0, w1, w2]) (w := w3) h
  simp only [List.mem_cons, List.not_mem_nil, or_false] at a1 b1
  refine ⟨by rcases a1 with rfl | rfl | rfl | rfl <;> simp, by rcases b1 with rfl | rfl | rfl | rfl <;> simp, a2 v0 (by simp), a2 v1 (by simp), a2 v2 (by simp), a2 v3 (by simp), b2 v0 (by simp), b2 v1 (by simp), b2 v2 (by simp), b2 v3 (by simp)⟩
theorem own_ef0 (m : MethodId) (x0 : Int64) (x1 : Int64) (x2 : Int64) (x3 : Int64) (x4 : Int32) : entryFrame m #[(.long x0), (.long x1), (.long x2), (.long x3), (.int x4)] maxLocals = mkF m 0 #[.val (.long x0), .second, .val (.long x1), .second, .val (.long x2), .second, .val (.long x3), .second, .val (.int x4), .unset, .unset, .unset, .unset, .unset, .unset, .unset] [] := by first | (simp [entryFrame, mkF, argsToLocals, Value.category, maxLocals]; done) | rfl
theorem own_pd6 : parseMethodDescriptor "(J)V" = some ⟨[.long], none⟩ := by decide +kernel
theorem own_pd7 : parseMethodDescriptor "()I" = some ⟨[], some .int⟩ := by decide +kernel
theorem own_pd8 : parseMethodDescriptor "(I)J" = some ⟨[.int], some .long⟩ := by decide +kernel
theorem own_pd9 : parseMethodDescriptor "(JJJI)J" = some ⟨[.long, .long, .long, .int], some .long⟩ := by decide +kernel
def own_Q_own_rm0 (Z : State) (q0 : Int64) (q2 : Int64) (q4 : Int64) (q6 : Int64) (p8 : Int32) (h0 : Heap) (n0 : Nat) (v : Option Value) (h : Heap) (L : List Loc) : Prop := v = some (.int (1 : Int32)) ∧ Fr n0 L
set_option maxRecDepth 65536 in
set_option maxHeartbeats 40000000 in
theorem own_rm0 (l : Launch) (Z : State) (a0 : Array Value) (hw : ∀ d ∈ tables_1, d.before a0 Z = true) (ws : List Jvm.Cond) (q0 : Int64) (q2 : Int64) (q4 : Int64) (q6 : Int64) (p8 : Int32) (h0 : Heap) (n0 : Nat) (O0 : Old Z n0 h0) :
    MetFree l x (head1 (Jvm.Cond.code x code maxLocals ret :: ws) room_1) (fun args_ U => args_ = #[(.long q0), (.long q2), (.long q4), (.long q6), (.int p8)] ∧ Z.Warmed39 U.vm ∧ U.heap = h0) (fun _ _ _ _ _ => True) (fun _ U o U' => ∃ v L, o = .returned v ∧ (own_Q_own_rm0 Z q0 q2 q4 q6 p8 h0 n0) v U'.heap L ∧ FrameEnd U o U' L room_1.cells room_1.slots) := by
  refine MetFree.of_bodySF (plainFor_of_name own_pn0) hisR ?_
  intro p e s m args below meth c s₁ Bd hml0 hP hK
  obtain ⟨rfl, hZ, hh⟩ := hP
  have hx := Bd.exec
  have hby := Bd.bytes
  have hml : c.maxLocals = 16 := hml0
  have hown : s.vm.findClass "com/example/respite/respite/cli/LatenciesAddPinLaw" = some m.cls := findClass_of_methodNamed Bd.named
  have hnm := (name_of_methodNamed Bd.named Bd.method).1
  have X0 : Stand p l e room_1 s m #[(.long q0), (.long q2), (.long q4), (.long q6), (.int p8)] below meth c s₁ [] 0 0 := Stand.of_body Bd
  have e0 : s₁.heap = h0 := by rw [← hh, Bd.state]; rfl
  have N0 := Fr.nil n0
  refine own_close (s := s) (Q := (own_Q_own_rm0 Z q0 q2 q4 q6 p8 h0 n0)) (C := (room_1).cells) (N := (room_1).slots) (own_st (fun _ kt => castTop (own_ef0 m q0 q2 q4 q6 p8) kt) ?_)
  show own_Rch p e below _ s₁ (mkF m 0 #[.val (.long q0), .second, .val (.long q2), .second, .val (.long q4), .second, .val (.long q6), .second, .val (.int p8), .unset, .unset, .unset, .unset, .unset, .unset, .unset] [])
  refine own_st (fun _ kt => XS.iload X0.here hx rfl (hb hby at_0) rfl  kt) ?_
  show own_Rch p e below _ s₁ (mkF m 2 #[.val (.long q0), .second, .val (.long q2), .second, .val (.long q4), .second, .val (.long q6), .second, .val (.int p8), .unset, .unset, .unset, .unset, .unset, .unset, .unset] [(.int p8)])
  refine own_st (fun _ kt => XS.iconst X0.here hx rfl (hb hby at_2) kt) ?_
  show own_Rch p e below _ s₁ (mkF m 3 #[.val (.long q0), .second, .val (.long q2), .second, .val (.long q4), .second, .val (.long q6), .second, .val (.int p8), .unset, .unset, .unset, .unset, .unset, .unset, .unset] [(.int (3 : Int32)), (.int p8)])
  refine own_st (fun _ kt => XS.iand X0.here hx rfl (hb hby at_3) rfl kt) ?_
  show own_Rch p e below _ s₁ (mkF m 4 #[.val (.long q0), .second, .val (.long q2), .second, .val (.long q4), .second, .val (.long q6), .second, .val (.int p8), .unset, .unset, .unset, .unset, .unset, .unset, .unset] [(.int (p8 &&& (3 : Int32)))])
  refine own_st (fun _ kt => XS.istore X0.here hx rfl (hb hby at_4) rfl (l' := #[.val (.long q0), .second, .val (.long q2), .second, .val (.long q4), .second, .val (.long q6), .second, .val (.int p8), .val (.int (p8 &&& (3 : Int32))), .unset, .unset, .unset, .unset, .unset, .unset]) rfl kt) ?_
  rcases own_mask3 p8 with hm | hm | hm | hm
  · rw [hm]
    show own_Rch p e below _ s₁ (mkF m 6 #[.val (.long q0), .second, .val (.long q2), .second, .val (.long q4), .second, .val (.long q6), .second, .val (.int p8), .val (.int (0 : Int32)), .unset, .unset, .unset, .unset, .unset, .unset] [])
    obtain ⟨T1, h1, X1, e1, E1, A1, D1, U1, st1⟩ := newO X0 hx hZ hown (hw _ (List.mem_of_getElem? (i := 0) rfl)) (hw _ (List.mem_of_getElem? (i := 1) rfl)) (hw _ (List.mem_of_getElem? (i := 2) rfl)) e0 (g := (mkF m 6 #[.val (.long q0), .second, .val (.long q2), .second, .val (.long q4), .second, .val (.long q6), .second, .val (.int p8), .val (.int (0 : Int32)), .unset, .unset, .unset, .unset, .unset, .unset] [])) rfl (hb hby at_6) (by decide) (by decide)
    obtain ⟨b1, g1⟩ : ∃ z, z = h0.size := ⟨_, rfl⟩
    rw [← g1] at A1 D1 U1 st1
    have ge1 : n0 ≤ b1 := by rw [g1]; exact own_old_le O0
    have O0_x1 := O0.ext E1
    refine own_st st1 ?_
    have F1_nanos : Fld Z h1 b1 "com/example/respite/respite/cli/Latencies" "nanos" "[J" .null := D1 (Or.inl (hw _ (List.mem_of_getElem? (i := 11) rfl))) (ty := (.array .long)) (by decide)
    have F1_sorted : Fld Z h1 b1 "com/example/respite/respite/cli/Latencies" "sorted" "Z" (.int (0 : Int32)) := D1 (Or.inl (hw _ (List.mem_of_getElem? (i := 13) rfl))) (ty := .boolean) (by decide)
    have F1_count : Fld Z h1 b1 "com/example/respite/respite/cli/Latencies" "count" "I" (.int (0 : Int32)) := D1 (Or.inl (hw _ (List.mem_of_getElem? (i := 20) rfl))) (ty := .int) (by decide)
    show own_Rch p e below _ T1 (mkF m 9 #[.val (.long q0), .second, .val (.long q2), .second, .val (.long q4), .second, .val (.long q6), .second, .val (.int p8), .val (.int (0 : Int32)), .unset, .unset, .unset, .unset, .unset, .unset] [(.ref b1)])
    refine own_st (fun _ kt => XS.dup X1.here hx rfl (hb hby at_9) rfl rfl kt) ?_
    show own_Rch p e below _ T1 (mkF m 10 #[.val (.long q0), .second, .val (.long q2), .second, .val (.long q4), .second, .val (.long q6), .second, .val (.int p8), .val (.int (0 : Int32)), .unset, .unset, .unset, .unset, .unset, .unset] [(.ref b1), (.ref b1)])
    obtain ⟨_, _, ⟨T2, L2, k2, n2⟩, -, X2, ⟨Lc2, hQ2, l2, y2, z2⟩, st2⟩ := X1.specialBack hx (y := (⟨"com/example/respite/respite/cli/Latencies", "<init>", "()V"⟩ : MethodName)) rfl hown (mvT hZ (hw _ (List.mem_of_getElem? (i := 3) rfl))) (mvT hZ (hw _ (List.mem_of_getElem? (i := 4) rfl))) (mvT hZ (hw _ (List.mem_of_getElem? (i := 5) rfl))) (by decide) (backOf (W := 1) (own_init l Z a0 hw [] b1 h1 n0 O0_x1 A1 F1_nanos F1_count F1_sorted ge1) hZ (hw _ (List.mem_of_getElem? (i := 5) rfl)) (hw _ (List.mem_of_getElem? (i := 2) rfl)) (by decide) (by decide)) (g := (mkF m 10 #[.val (.long q0), .second, .val (.long q2), .second, .val (.long q4), .second, .val (.long q6), .second, .val (.int p8), .val (.int (0 : Int32)), .unset, .unset, .unset, .unset, .unset, .unset] [(.ref b1), (.ref b1)])) rfl (by rw [hml]; rfl) (Steps.refl _) (a := b1) (argsL := []) (rest := [(.ref b1)]) (lenOf own_pd5 rfl) rfl (by show 2 * 0 + _ ≤ _; exact Nat.le_of_eq rfl) (hb hby at_10) (fun _ _ => ⟨rfl, e1, (by decide : 1 + 1 ≤ _), (by decide : 3 + 1024 ≤ _)⟩)
    dsimp only [Pt.U, Pt.locs, Pt.cells, Pt.slots] at X2 l2 y2 z2 st2 hQ2
    subst l2 y2 z2
    obtain ⟨ar2, ka2, rfl, N2q, K2, hb2, Ea2, Fn2, Fc2, Fs2, Vb2⟩ := hQ2
    have N2 := Fr.app N0 N2q
    refine own_st (fun _ kt => st2.trans kt) ?_
    have ne2_b1_ar2 : b1 ≠ ar2 := Nat.ne_of_lt (Nat.lt_of_lt_of_le F1_nanos.lt hb2)
    have ge2_ar2 : n0 ≤ ar2 := Nat.le_trans (own_old_le O0_x1) hb2
    have O0_x2 := O0_x1.keep K2 (allS ge1 all0)
    have A1_x2 := A1.keep K2
    show own_Rch p e below _ T2 (mkF m 13 #[.val (.long q0), .second, .val (.long q2), .second, .val (.long q4), .second, .val (.long q6), .second, .val (.int p8), .val (.int (0 : Int32)), .unset, .unset, .unset, .unset, .unset, .unset] [(.ref b1)])
    refine own_st (fun _ kt => XS.astore X2.here hx rfl (hb hby at_13) rfl rfl (l' := #[.val (.long q0), .second, .val (.long q2), .second, .val (.long q4), .second, .val (.long q6), .second, .val (.int p8), .val (.int (0 : Int32)), .val (.ref b1), .unset, .unset, .unset, .unset, .unset]) rfl kt) ?_
    show own_Rch p e below _ T2 (mkF m 15 #[.val (.long q0), .second, .val (.long q2), .second, .val (.long q4), .second, .val (.long q6), .second, .val (.int p8), .val (.int (0 : Int32)), .val (.ref b1), .unset, .unset, .unset, .unset, .unset] [])
    refine own_st (fun _ kt => XS.iload X2.here hx rfl (hb hby at_15) rfl  kt) ?_
    show own_Rch p e below _ T2 (mkF m 17 #[.val (.long q0), .second, .val (.long q2), .second, .val (.long q4), .second, .val (.long q6), .second, .val (.int p8), .val (.int (0 : Int32)), .val (.ref b1), .unset, .unset, .unset, .unset, .unset] [(.int (0 : Int32))])
    refine own_st (fun _ kt => XS.iconst X2.here hx rfl (hb hby at_17) kt) ?_
    show own_Rch p e below _ T2 (mkF m 18 #[.val (.long q0), .second, .val (.long q2), .second, .val (.long q4), .second, .val (.long q6), .second, .val (.int p8), .val (.int (0 : Int32)), .val (.ref b1), .unset, .unset, .unset, .unset, .unset] [(.int (1 : Int32)), (.int (0 : Int32))])
    refine own_st (fun _ kt => XS.icmpYes X2.here hx rfl (pc0 := 18) (pc' := 27) rfl (hb hby at_18) rfl (tlt ((by decide) : (0 : Int32) < (1 : Int32))).1 (by decide) (by decide) kt) ?_
    show own_Rch p e below _ T2 (mkF m 27 #[.val (.long q0), .second, .val (.long q2), .second, .val (.long q4), .second, .val (.long q6), .second, .val (.int p8), .val (.int (0 : Int32)), .val (.ref b1), .unset, .unset, .unset, .unset, .unset] [])
    refine own_st (fun _ kt => XS.iload X2.here hx rfl (hb hby at_27) rfl  kt) ?_
    show own_Rch p e below _ T2 (mkF m 29 #[.val (.long q0), .second, .val (.long q2), .second, .val (.long q4), .second, .val (.long q6), .second, .val (.int p8), .val (.int (0 : Int32)), .val (.ref b1), .unset, .unset, .unset, .unset, .unset] [(.int (0 : Int32))])
    refine own_st (fun _ kt => XS.iconst X2.here hx rfl (hb hby at_29) kt) ?_
    show own_Rch p e below _ T2 (mkF m 30 #[.val (.long q0), .second, .val (.long q2), .second, .val (.long q4), .second, .val (.long q6), .second, .val (.int p8), .val (.int (0 : Int32)), .val (.ref b1), .unset, .unset, .unset, .unset, .unset] [(.int (2 : Int32)), (.int (0 : Int32))])
    refine own_st (fun _ kt => XS.icmpYes X2.here hx rfl (pc0 := 30) (pc' := 39) rfl (hb hby at_30) rfl (tlt ((by decide) : (0 : Int32) < (2 : Int32))).1 (by decide) (by decide) kt) ?_
    show own_Rch p e below _ T2 (mkF m 39 #[.val (.long q0), .second, .val (.long q2), .second, .val (.long q4), .second, .val (.long q6), .second, .val (.int p8), .val (.int (0 : Int32)), .val (.ref b1), .unset, .unset, .unset, .unset, .unset] [])
    refine own_st (fun _ kt => XS.iload X2.here hx rfl (hb hby at_39) rfl  kt) ?_
    show own_Rch p e below _ T2 (mkF m 41 #[.val (.long q0), .second, .val (.long q2), .second, .val (.long q4), .second, .val (.long q6), .second, .val (.int p8), .val (.int (0 : Int32)), .val (.ref b1), .unset, .unset, .unset, .unset, .unset] [(.int (0 : Int32))])
    refine own_st (fun _ kt => XS.iconst X2.here hx rfl (hb hby at_41) kt) ?_
    show own_Rch p e below _ T2 (mkF m 42 #[.val (.long q0), .second, .val (.long q2), .second, .val (.long q4), .second, .val (.long q6), .second, .val (.int p8), .val (.int (0 : Int32)), .val (.ref b1), .unset, .unset, .unset, .unset, .unset] [(.int (3 : Int32)), (.int (0 : Int32))])
    refine own_st (fun _ kt => XS.icmpYes X2.here hx rfl (pc0 := 42) (pc' := 52) rfl (hb hby at_42) rfl (tlt ((by decide) : (0 : Int32) < (3 : Int32))).1 (by decide) (by decide) kt) ?_
    show own_Rch p e below _ T2 (mkF m 52 #[.val (.long q0), .second, .val (.long q2), .second, .val (.long q4), .second, .val (.long q6), .second, .val (.int p8), .val (.int (0 : Int32)), .val (.ref b1), .unset, .unset, .unset, .unset, .unset] [])
    refine own_st (fun _ kt => XS.iconst X2.here hx rfl (hb hby at_52) kt) ?_
    show own_Rch p e below _ T2 (mkF m 53 #[.val (.long q0), .second, .val (.long q2), .second, .val (.long q4), .second, .val (.long q6), .second, .val (.int p8), .val (.int (0 : Int32)), .val (.ref b1), .unset, .unset, .unset, .unset, .unset] [(.int (1 : Int32))])
    refine own_st (fun _ kt => XS.istore X2.here hx rfl (hb hby at_53) rfl (l' := #[.val (.long q0), .second, .val (.long q2), .second, .val (.long q4), .second, .val (.long q6), .second, .val (.int p8), .val (.int (0 : Int32)), .val (.ref b1), .val (.int (1 : Int32)), .unset, .unset, .unset, .unset]) rfl kt) ?_
    show own_Rch p e below _ T2 (mkF m 55 #[.val (.long q0), .second, .val (.long q2), .second, .val (.long q4), .second, .val (.long q6), .second, .val (.int p8), .val (.int (0 : Int32)), .val (.ref b1), .val (.int (1 : Int32)), .unset, .unset, .unset, .unset] [])
    refine own_st (fun _ kt => XS.iload X2.here hx rfl (hb hby at_55) rfl  kt) ?_
    show own_Rch p e below _ T2 (mkF m 57 #[.val (.long q0), .second, .val (.long q2), .second, .val (.long q4), .second, .val (.long q6), .second, .val (.int p8), .val (.int (0 : Int32)), .val (.ref b1), .val (.int (1 : Int32)), .unset, .unset, .unset, .unset] [(.int (0 : Int32))])
    refine own_st (fun _ kt => XS.iconst X2.here hx rfl (hb hby at_57) kt) ?_
    show own_Rch p e below _ T2 (mkF m 58 #[.val (.long q0), .second, .val (.long q2), .second, .val (.long q4), .second, .val (.long q6), .second, .val (.int p8), .val (.int (0 : Int32)), .val (.ref b1), .val (.int (1 : Int32)), .unset, .unset, .unset, .unset] [(.int (1 : Int32)), (.int (0 : Int32))])
    refine own_st (fun _ kt => XS.icmpYes X2.here hx rfl (pc0 := 58) (pc' := 93) rfl (hb hby at_58) rfl (tlt ((by decide) : (0 : Int32) < (1 : Int32))).1 (by decide) (by decide) kt) ?_
    show own_Rch p e below _ T2 (mkF m 93 #[.val (.long q0), .second, .val (.long q2), .second, .val (.long q4), .second, .val (.long q6), .second, .val (.int p8), .val (.int (0 : Int32)), .val (.ref b1), .val (.int (1 : Int32)), .unset, .unset, .unset, .unset] [])
    refine own_st (fun _ kt => XS.iload X2.here hx rfl (hb hby at_93) rfl  kt) ?_
    show own_Rch p e below _ T2 (mkF m 95 #[.val (.long q0), .second, .val (.long q2), .second, .val (.long q4), .second, .val (.long q6), .second, .val (.int p8), .val (.int (0 : Int32)), .val (.ref b1), .val (.int (1 : Int32)), .unset, .unset, .unset, .unset] [(.int (0 : Int32))])
    refine own_st (fun _ kt => XS.iconst X2.here hx rfl (hb hby at_95) kt) ?_
    show own_Rch p e below _ T2 (mkF m 96 #[.val (.long q0), .second, .val (.long q2), .second, .val (.long q4), .second, .val (.long q6), .second, .val (.int p8), .val (.int (0 : Int32)), .val (.ref b1), .val (.int (1 : Int32)), .unset, .unset, .unset, .unset] [(.int (3 : Int32)), (.int (0 : Int32))])
    refine own_st (fun _ kt => XS.icmpYes X2.here hx rfl (pc0 := 96) (pc' := 144) rfl (hb hby at_96) rfl (feq ((by decide) : ¬ ((0 : Int32) = (3 : Int32)))).2 (by decide) (by decide) kt) ?_
    show own_Rch p e below _ T2 (mkF m 144 #[.val (.long q0), .second, .val (.long q2), .second, .val (.long q4), .second, .val (.long q6), .second, .val (.int p8), .val (.int (0 : Int32)), .val (.ref b1), .val (.int (1 : Int32)), .unset, .unset, .unset, .unset] [])
    refine own_st (fun _ kt => XS.aload X2.here hx rfl (hb hby at_144) rfl rfl  kt) ?_
    show own_Rch p e below _ T2 (mkF m 146 #[.val (.long q0), .second, .val (.long q2), .second, .val (.long q4), .second, .val (.long q6), .second, .val (.int p8), .val (.int (0 : Int32)), .val (.ref b1), .val (.int (1 : Int32)), .unset, .unset, .unset, .unset] [(.ref b1)])
    refine own_st (fun _ kt => XS.lload X2.here hx rfl (hb hby at_146) rfl  kt) ?_
    show own_Rch p e below _ T2 (mkF m 148 #[.val (.long q0), .second, .val (.long q2), .second, .val (.long q4), .second, .val (.long q6), .second, .val (.int p8), .val (.int (0 : Int32)), .val (.ref b1), .val (.int (1 : Int32)), .unset, .unset, .unset, .unset] [(.long q6), (.ref b1)])
    obtain ⟨cq3, kq3, q3a, q3b, q3c⟩ := isOf hZ rfl Ea2
    obtain ⟨_, _, ⟨T3, L3, k3, n3⟩, -, X3, ⟨Lc3, hQ3, l3, y3, z3⟩, st3⟩ := X2.virtualBack hx (y := (⟨"com/example/respite/respite/cli/Latencies", "add", "(J)V"⟩ : MethodName)) (z := (⟨"com/example/respite/respite/cli/Latencies", "add", "(J)V"⟩ : MethodName)) hown (mvT hZ (hw _ (List.mem_of_getElem? (i := 14) rfl))) (mvT hZ (hw _ (List.mem_of_getElem? (i := 15) rfl))) (notFace_of_selects (args := #[]) (mvT hZ (hw _ (List.mem_of_getElem? (i := 17) rfl)))) (mvT hZ (hw _ (List.mem_of_getElem? (i := 17) rfl))) (mvT hZ (hw _ (List.mem_of_getElem? (i := 16) rfl))) (by decide) (backOf (W := 0) (own_add0 l Z a0 hw [] b1 ar2 ka2 q6 (0 : Int64) (0 : Int64) (0 : Int64) (0 : Int64) (1 : Int32) T2.heap n0 O0_x2 Ea2 Fn2 Fc2 Fs2 Vb2 ge1 ge2_ar2 ne2_b1_ar2) hZ (hw _ (List.mem_of_getElem? (i := 18) rfl)) (hw _ (List.mem_of_getElem? (i := 2) rfl)) (by decide) (by decide)) q3a q3c (g := (mkF m 148 #[.val (.long q0), .second, .val (.long q2), .second, .val (.long q4), .second, .val (.long q6), .second, .val (.int p8), .val (.int (0 : Int32)), .val (.ref b1), .val (.int (1 : Int32)), .unset, .unset, .unset, .unset] [(.long q6), (.ref b1)])) rfl (by rw [hml]; rfl) (Steps.refl _) (argsL := [(.long q6)]) (rest := []) (lenOf own_pd6 rfl) rfl (by show 2 * 0 + _ ≤ _; exact Nat.le_of_eq rfl) (hb hby at_148) (fun _ _ => ⟨rfl, rfl, (by decide : 2 + 0 ≤ _), (by decide : 1027 + 0 ≤ _)⟩)
    dsimp only [Pt.U, Pt.locs, Pt.cells, Pt.slots] at X3 l3 y3 z3 st3 hQ3
    subst l3 y3 z3
    obtain ⟨rfl, N3q, K3, Ea3, Fn3, Fc3, Fs3, Vb3⟩ := hQ3
    have N3 := Fr.app N2 N3q
    refine own_st (fun _ kt => st3.trans kt) ?_
    have O0_x3 := O0_x2.keep K3 (allS ge1 (allS ge2_ar2 all0))
    have Ea2_x3 := Ea2.keep K3
    show own_Rch p e below _ T3 (mkF m 151 #[.val (.long q0), .second, .val (.long q2), .second, .val (.long q4), .second, .val (.long q6), .second, .val (.int p8), .val (.int (0 : Int32)), .val (.ref b1), .val (.int (1 : Int32)), .unset, .unset, .unset, .unset] [])
    refine own_st (fun _ kt => XS.iload X3.here hx rfl (hb hby at_151) rfl  kt) ?_
    show own_Rch p e below _ T3 (mkF m 153 #[.val (.long q0), .second, .val (.long q2), .second, .val (.long q4), .second, .val (.long q6), .second, .val (.int p8), .val (.int (0 : Int32)), .val (.ref b1), .val (.int (1 : Int32)), .unset, .unset, .unset, .unset] [(.int (0 : Int32))])
    refine own_st (fun _ kt => XS.ifNo X3.here hx rfl (hb hby at_153) rfl ((if0 _ _).trans (teq (rfl : (0 : Int32) = (0 : Int32))).2) kt) ?_
    show own_Rch p e below _ T3 (mkF m 156 #[.val (.long q0), .second, .val (.long q2), .second, .val (.long q4), .second, .val (.long q6), .second, .val (.int p8), .val (.int (0 : Int32)), .val (.ref b1), .val (.int (1 : Int32)), .unset, .unset, .unset, .unset] [])
    refine own_st (fun _ kt => XS.lload X3.here hx rfl (hb hby at_156) rfl  kt) ?_
    show own_Rch p e below _ T3 (mkF m 158 #[.val (.long q0), .second, .val (.long q2), .second, .val (.long q4), .second, .val (.long q6), .second, .val (.int p8), .val (.int (0 : Int32)), .val (.ref b1), .val (.int (1 : Int32)), .unset, .unset, .unset, .unset] [(.long q6)])
    refine own_st (fun _ kt => XS.goto X3.here hx rfl (pc0 := 158) (pc' := 175) rfl (hb hby at_158) (by decide) (by decide) kt) ?_
    show own_Rch p e below _ T3 (mkF m 175 #[.val (.long q0), .second, .val (.long q2), .second, .val (.long q4), .second, .val (.long q6), .second, .val (.int p8), .val (.int (0 : Int32)), .val (.ref b1), .val (.int (1 : Int32)), .unset, .unset, .unset, .unset] [(.long q6)])
    refine own_st (fun _ kt => XS.lstore X3.here hx rfl (hb hby at_175) rfl (l' := #[.val (.long q0), .second, .val (.long q2), .second, .val (.long q4), .second, .val (.long q6), .second, .val (.int p8), .val (.int (0 : Int32)), .val (.ref b1), .val (.int (1 : Int32)), .val (.long q6), .second, .unset, .unset]) rfl kt) ?_
    show own_Rch p e below _ T3 (mkF m 177 #[.val (.long q0), .second, .val (.long q2), .second, .val (.long q4), .second, .val (.long q6), .second, .val (.int p8), .val (.int (0 : Int32)), .val (.ref b1), .val (.int (1 : Int32)), .val (.long q6), .second, .unset, .unset] [])
    refine own_st (fun _ kt => XS.iload X3.here hx rfl (hb hby at_177) rfl  kt) ?_
    show own_Rch p e below _ T3 (mkF m 179 #[.val (.long q0), .second, .val (.long q2), .second, .val (.long q4), .second, .val (.long q6), .second, .val (.int p8), .val (.int (0 : Int32)), .val (.ref b1), .val (.int (1 : Int32)), .val (.long q6), .second, .unset, .unset] [(.int (0 : Int32))])
    refine own_st (fun _ kt => XS.ifNo X3.here hx rfl (hb hby at_179) rfl ((if0 _ _).trans (teq (rfl : (0 : Int32) = (0 : Int32))).2) kt) ?_
    show own_Rch p e below _ T3 (mkF m 182 #[.val (.long q0), .second, .val (.long q2), .second, .val (.long q4), .second, .val (.long q6), .second, .val (.int p8), .val (.int (0 : Int32)), .val (.ref b1), .val (.int (1 : Int32)), .val (.long q6), .second, .unset, .unset] [])
    refine own_st (fun _ kt => XS.lload X3.here hx rfl (hb hby at_182) rfl  kt) ?_
    show own_Rch p e below _ T3 (mkF m 184 #[.val (.long q0), .second, .val (.long q2), .second, .val (.long q4), .second, .val (.long q6), .second, .val (.int p8), .val (.int (0 : Int32)), .val (.ref b1), .val (.int (1 : Int32)), .val (.long q6), .second, .unset, .unset] [(.long q6)])
    refine own_st (fun _ kt => XS.goto X3.here hx rfl (pc0 := 184) (pc' := 201) rfl (hb hby at_184) (by decide) (by decide) kt) ?_
    show own_Rch p e below _ T3 (mkF m 201 #[.val (.long q0), .second, .val (.long q2), .second, .val (.long q4), .second, .val (.long q6), .second, .val (.int p8), .val (.int (0 : Int32)), .val (.ref b1), .val (.int (1 : Int32)), .val (.long q6), .second, .unset, .unset] [(.long q6)])
    refine own_st (fun _ kt => XS.lstore X3.here hx rfl (hb hby at_201) rfl (l' := #[.val (.long q0), .second, .val (.long q2), .second, .val (.long q4), .second, .val (.long q6), .second, .val (.int p8), .val (.int (0 : Int32)), .val (.ref b1), .val (.int (1 : Int32)), .val (.long q6), .second, .val (.long q6), .second]) rfl kt) ?_
    show own_Rch p e below _ T3 (mkF m 203 #[.val (.long q0), .second, .val (.long q2), .second, .val (.long q4), .second, .val (.long q6), .second, .val (.int p8), .val (.int (0 : Int32)), .val (.ref b1), .val (.int (1 : Int32)), .val (.long q6), .second, .val (.long q6), .second] [])
    refine own_st (fun _ kt => XS.iload X3.here hx rfl (hb hby at_203) rfl  kt) ?_
    show own_Rch p e below _ T3 (mkF m 205 #[.val (.long q0), .second, .val (.long q2), .second, .val (.long q4), .second, .val (.long q6), .second, .val (.int p8), .val (.int (0 : Int32)), .val (.ref b1), .val (.int (1 : Int32)), .val (.long q6), .second, .val (.long q6), .second] [(.int (1 : Int32))])
    refine own_st (fun _ kt => XS.ifNo X3.here hx rfl (hb hby at_205) rfl ((if0 _ _).trans (feq ((by decide) : ¬ ((1 : Int32) = (0 : Int32)))).1) kt) ?_
    show own_Rch p e below _ T3 (mkF m 208 #[.val (.long q0), .second, .val (.long q2), .second, .val (.long q4), .second, .val (.long q6), .second, .val (.int p8), .val (.int (0 : Int32)), .val (.ref b1), .val (.int (1 : Int32)), .val (.long q6), .second, .val (.long q6), .second] [])
    refine own_st (fun _ kt => XS.aload X3.here hx rfl (hb hby at_208) rfl rfl  kt) ?_
    show own_Rch p e below _ T3 (mkF m 210 #[.val (.long q0), .second, .val (.long q2), .second, .val (.long q4), .second, .val (.long q6), .second, .val (.int p8), .val (.int (0 : Int32)), .val (.ref b1), .val (.int (1 : Int32)), .val (.long q6), .second, .val (.long q6), .second] [(.ref b1)])
    obtain ⟨cq4, kq4, q4a, q4b, q4c⟩ := isOf hZ rfl Ea3
    obtain ⟨_, _, ⟨T4, L4, k4, n4⟩, -, X4, ⟨Lc4, hQ4, l4, y4, z4⟩, st4⟩ := X3.virtualBack hx (y := (⟨"com/example/respite/respite/cli/Latencies", "count", "()I"⟩ : MethodName)) (z := (⟨"com/example/respite/respite/cli/Latencies", "count", "()I"⟩ : MethodName)) hown (mvT hZ (hw _ (List.mem_of_getElem? (i := 64) rfl))) (mvT hZ (hw _ (List.mem_of_getElem? (i := 65) rfl))) (notFace_of_selects (args := #[]) (mvT hZ (hw _ (List.mem_of_getElem? (i := 67) rfl)))) (mvT hZ (hw _ (List.mem_of_getElem? (i := 67) rfl))) (mvT hZ (hw _ (List.mem_of_getElem? (i := 66) rfl))) (by decide) (backOf (W := 0) (own_count l Z a0 hw [] b1 (1 : Int32) T3.heap n0 O0_x3 Fc3) hZ (hw _ (List.mem_of_getElem? (i := 68) rfl)) (hw _ (List.mem_of_getElem? (i := 2) rfl)) (by decide) (by decide)) q4a q4c (g := (mkF m 210 #[.val (.long q0), .second, .val (.long q2), .second, .val (.long q4), .second, .val (.long q6), .second, .val (.int p8), .val (.int (0 : Int32)), .val (.ref b1), .val (.int (1 : Int32)), .val (.long q6), .second, .val (.long q6), .second] [(.ref b1)])) rfl (by rw [hml]; rfl) (Steps.refl _) (argsL := []) (rest := []) (lenOf own_pd7 rfl) rfl (by show 2 * 0 + _ ≤ _; exact Nat.le_of_eq rfl) (hb hby at_210) (fun _ _ => ⟨rfl, rfl, (by decide : 2 + 0 ≤ _), (by decide : 1027 + 0 ≤ _)⟩)
    dsimp only [Pt.U, Pt.locs, Pt.cells, Pt.slots] at X4 l4 y4 z4 st4 hQ4
    subst l4 y4 z4
    obtain ⟨rfl, N4q, hh4⟩ := hQ4
    have N4 := Fr.app N3 N4q
    refine own_st (fun _ kt => st4.trans kt) ?_
    show own_Rch p e below _ T4 (mkF m 213 #[.val (.long q0), .second, .val (.long q2), .second, .val (.long q4), .second, .val (.long q6), .second, .val (.int p8), .val (.int (0 : Int32)), .val (.ref b1), .val (.int (1 : Int32)), .val (.long q6), .second, .val (.long q6), .second] [(.int (1 : Int32))])
    refine own_st (fun _ kt => XS.iload X4.here hx rfl (hb hby at_213) rfl  kt) ?_
    show own_Rch p e below _ T4 (mkF m 215 #[.val (.long q0), .second, .val (.long q2), .second, .val (.long q4), .second, .val (.long q6), .second, .val (.int p8), .val (.int (0 : Int32)), .val (.ref b1), .val (.int (1 : Int32)), .val (.long q6), .second, .val (.long q6), .second] [(.int (0 : Int32)), (.int (1 : Int32))])
    refine own_st (fun _ kt => XS.iconst X4.here hx rfl (hb hby at_215) kt) ?_
    show own_Rch p e below _ T4 (mkF m 216 #[.val (.long q0), .second, .val (.long q2), .second, .val (.long q4), .second, .val (.long q6), .second, .val (.int p8), .val (.int (0 : Int32)), .val (.ref b1), .val (.int (1 : Int32)), .val (.long q6), .second, .val (.long q6), .second] [(.int (1 : Int32)), (.int (0 : Int32)), (.int (1 : Int32))])
    refine own_st (fun _ kt => XS.iadd X4.here hx rfl (hb hby at_216) rfl kt) ?_
    show own_Rch p e below _ T4 (mkF m 217 #[.val (.long q0), .second, .val (.long q2), .second, .val (.long q4), .second, .val (.long q6), .second, .val (.int p8), .val (.int (0 : Int32)), .val (.ref b1), .val (.int (1 : Int32)), .val (.long q6), .second, .val (.long q6), .second] [(.int (1 : Int32)), (.int (1 : Int32))])
    refine own_st (fun _ kt => XS.icmpNo X4.here hx rfl (hb hby at_217) rfl (teq (rfl : (1 : Int32) = (1 : Int32))).2 kt) ?_
    show own_Rch p e below _ T4 (mkF m 220 #[.val (.long q0), .second, .val (.long q2), .second, .val (.long q4), .second, .val (.long q6), .second, .val (.int p8), .val (.int (0 : Int32)), .val (.ref b1), .val (.int (1 : Int32)), .val (.long q6), .second, .val (.long q6), .second] [])
    refine own_st (fun _ kt => XS.iconst X4.here hx rfl (hb hby at_220) kt) ?_
    show own_Rch p e below _ T4 (mkF m 221 #[.val (.long q0), .second, .val (.long q2), .second, .val (.long q4), .second, .val (.long q6), .second, .val (.int p8), .val (.int (0 : Int32)), .val (.ref b1), .val (.int (1 : Int32)), .val (.long q6), .second, .val (.long q6), .second] [(.int (1 : Int32))])
    refine own_st (fun _ kt => XS.goto X4.here hx rfl (pc0 := 221) (pc' := 225) rfl (hb hby at_221) (by decide) (by decide) kt) ?_
    show own_Rch p e below _ T4 (mkF m 225 #[.val (.long q0), .second, .val (.long q2), .second, .val (.long q4), .second, .val (.long q6), .second, .val (.int p8), .val (.int (0 : Int32)), .val (.ref b1), .val (.int (1 : Int32)), .val (.long q6), .second, .val (.long q6), .second] [(.int (1 : Int32))])
    refine own_st (fun _ kt => XS.istore X4.here hx rfl (hb hby at_225) rfl (l' := #[.val (.long q0), .second, .val (.long q2), .second, .val (.long q4), .second, .val (.long q6), .second, .val (.int p8), .val (.int (0 : Int32)), .val (.ref b1), .val (.int (1 : Int32)), .val (.long q6), .second, .val (.long q6), .second]) rfl kt) ?_
    show own_Rch p e below _ T4 (mkF m 227 #[.val (.long q0), .second, .val (.long q2), .second, .val (.long q4), .second, .val (.long q6), .second, .val (.int p8), .val (.int (0 : Int32)), .val (.ref b1), .val (.int (1 : Int32)), .val (.long q6), .second, .val (.long q6), .second] [])
    refine own_st (fun _ kt => XS.iload X4.here hx rfl (hb hby at_227) rfl  kt) ?_
    show own_Rch p e below _ T4 (mkF m 229 #[.val (.long q0), .second, .val (.long q2), .second, .val (.long q4), .second, .val (.long q6), .second, .val (.int p8), .val (.int (0 : Int32)), .val (.ref b1), .val (.int (1 : Int32)), .val (.long q6), .second, .val (.long q6), .second] [(.int (1 : Int32))])
    refine own_st (fun _ kt => XS.ifNo X4.here hx rfl (hb hby at_229) rfl ((if0 _ _).trans (feq ((by decide) : ¬ ((1 : Int32) = (0 : Int32)))).1) kt) ?_
    show own_Rch p e below _ T4 (mkF m 232 #[.val (.long q0), .second, .val (.long q2), .second, .val (.long q4), .second, .val (.long q6), .second, .val (.int p8), .val (.int (0 : Int32)), .val (.ref b1), .val (.int (1 : Int32)), .val (.long q6), .second, .val (.long q6), .second] [])
    refine own_st (fun _ kt => XS.aload X4.here hx rfl (hb hby at_232) rfl rfl  kt) ?_
    show own_Rch p e below _ T4 (mkF m 234 #[.val (.long q0), .second, .val (.long q2), .second, .val (.long q4), .second, .val (.long q6), .second, .val (.int p8), .val (.int (0 : Int32)), .val (.ref b1), .val (.int (1 : Int32)), .val (.long q6), .second, .val (.long q6), .second] [(.ref b1)])
    refine own_st (fun _ kt => XS.iconst X4.here hx rfl (hb hby at_234) kt) ?_
    show own_Rch p e below _ T4 (mkF m 235 #[.val (.long q0), .second, .val (.long q2), .second, .val (.long q4), .second, .val (.long q6), .second, .val (.int p8), .val (.int (0 : Int32)), .val (.ref b1), .val (.int (1 : Int32)), .val (.long q6), .second, .val (.long q6), .second] [(.int (1 : Int32)), (.ref b1)])
    obtain ⟨cq5, kq5, q5a, q5b, q5c⟩ := isOf hZ hh4 Ea3
    obtain ⟨_, _, ⟨T5, L5, k5, n5⟩, -, X5, ⟨Lc5, hQ5, l5, y5, z5⟩, st5⟩ := X4.virtualBack hx (y := (⟨"com/example/respite/respite/cli/Latencies", "percentile", "(I)J"⟩ : MethodName)) (z := (⟨"com/example/respite/respite/cli/Latencies", "percentile", "(I)J"⟩ : MethodName)) hown (mvT hZ (hw _ (List.mem_of_getElem? (i := 21) rfl))) (mvT hZ (hw _ (List.mem_of_getElem? (i := 22) rfl))) (notFace_of_selects (args := #[]) (mvT hZ (hw _ (List.mem_of_getElem? (i := 24) rfl)))) (mvT hZ (hw _ (List.mem_of_getElem? (i := 24) rfl))) (mvT hZ (hw _ (List.mem_of_getElem? (i := 23) rfl))) (by decide) (backOf (W := 0) (own_pc_1_1_0 l Z a0 hw [] b1 ar2 ka2 q6 (0 : Int64) (0 : Int64) (0 : Int64) T3.heap n0 O0_x3 Ea3 Fn3 Fc3 Fs3 Vb3 ge1 ge2_ar2 ne2_b1_ar2) hZ (hw _ (List.mem_of_getElem? (i := 25) rfl)) (hw _ (List.mem_of_getElem? (i := 2) rfl)) (by decide) (by decide)) q5a q5c (g := (mkF m 235 #[.val (.long q0), .second, .val (.long q2), .second, .val (.long q4), .second, .val (.long q6), .second, .val (.int p8), .val (.int (0 : Int32)), .val (.ref b1), .val (.int (1 : Int32)), .val (.long q6), .second, .val (.long q6), .second] [(.int (1 : Int32)), (.ref b1)])) rfl (by rw [hml]; rfl) (Steps.refl _) (argsL := [(.int (1 : Int32))]) (rest := []) (lenOf own_pd8 rfl) rfl (by show 2 * 0 + _ ≤ _; exact Nat.le_of_eq rfl) (hb hby at_235) (fun _ _ => ⟨rfl, hh4, (by decide : 2 + 0 ≤ _), (by decide : 1027 + 0 ≤ _)⟩)
    dsimp only [Pt.U, Pt.locs, Pt.cells, Pt.slots] at X5 l5 y5 z5 st5 hQ5
    subst l5 y5 z5
    obtain ⟨u0_0, hs0, rfl, N5q, K5, Ea5, Fn5, Fc5, Fs5, Vb5⟩ := hQ5
    have N5 := Fr.app N4 N5q
    refine own_st (fun _ kt => st5.trans kt) ?_
    have O0_x5 := O0_x3.keep K5 (allS ge1 (allS ge2_ar2 all0))
    have Ea3_x5 := Ea3.keep K5
    show own_Rch p e below _ T5 (mkF m 238 #[.val (.long q0), .second, .val (.long q2), .second, .val (.long q4), .second, .val (.long q6), .second, .val (.int p8), .val (.int (0 : Int32)), .val (.ref b1), .val (.int (1 : Int32)), .val (.long q6), .second, .val (.long q6), .second] [(.long u0_0)])
    refine own_st (fun _ kt => XS.lload X5.here hx rfl (hb hby at_238) rfl  kt) ?_
    show own_Rch p e below _ T5 (mkF m 240 #[.val (.long q0), .second, .val (.long q2), .second, .val (.long q4), .second, .val (.long q6), .second, .val (.int p8), .val (.int (0 : Int32)), .val (.ref b1), .val (.int (1 : Int32)), .val (.long q6), .second, .val (.long q6), .second] [(.long q6), (.long u0_0)])
    refine own_st (fun _ kt => XS.lcmp X5.here hx rfl (hb hby at_240) rfl kt) ?_
    show own_Rch p e below _ T5 (mkF m 241 #[.val (.long q0), .second, .val (.long q2), .second, .val (.long q4), .second, .val (.long q6), .second, .val (.int p8), .val (.int (0 : Int32)), .val (.ref b1), .val (.int (1 : Int32)), .val (.long q6), .second, .val (.long q6), .second] [(.int (lcmpW u0_0 q6))])
    refine own_st (fun _ kt => XS.ifNo X5.here hx rfl (hb hby at_241) rfl ((if0 _ _).trans (teq (by rw [lw_eq, ← Int64.toInt_inj]; have he0 := own_ends1 hs0; omega : (lcmpW u0_0 q6) = (0 : Int32))).2) kt) ?_
    show own_Rch p e below _ T5 (mkF m 244 #[.val (.long q0), .second, .val (.long q2), .second, .val (.long q4), .second, .val (.long q6), .second, .val (.int p8), .val (.int (0 : Int32)), .val (.ref b1), .val (.int (1 : Int32)), .val (.long q6), .second, .val (.long q6), .second] [])
    refine own_st (fun _ kt => XS.iconst X5.here hx rfl (hb hby at_244) kt) ?_
    show own_Rch p e below _ T5 (mkF m 245 #[.val (.long q0), .second, .val (.long q2), .second, .val (.long q4), .second, .val (.long q6), .second, .val (.int p8), .val (.int (0 : Int32)), .val (.ref b1), .val (.int (1 : Int32)), .val (.long q6), .second, .val (.long q6), .second] [(.int (1 : Int32))])
    refine own_st (fun _ kt => XS.goto X5.here hx rfl (pc0 := 245) (pc' := 249) rfl (hb hby at_245) (by decide) (by decide) kt) ?_
    show own_Rch p e below _ T5 (mkF m 249 #[.val (.long q0), .second, .val (.long q2), .second, .val (.long q4), .second, .val (.long q6), .second, .val (.int p8), .val (.int (0 : Int32)), .val (.ref b1), .val (.int (1 : Int32)), .val (.long q6), .second, .val (.long q6), .second] [(.int (1 : Int32))])
    refine own_st (fun _ kt => XS.istore X5.here hx rfl (hb hby at_249) rfl (l' := #[.val (.long q0), .second, .val (.long q2), .second, .val (.long q4), .second, .val (.long q6), .second, .val (.int p8), .val (.int (0 : Int32)), .val (.ref b1), .val (.int (1 : Int32)), .val (.long q6), .second, .val (.long q6), .second]) rfl kt) ?_
    show own_Rch p e below _ T5 (mkF m 251 #[.val (.long q0), .second, .val (.long q2), .second, .val (.long q4), .second, .val (.long q6), .second, .val (.int p8), .val (.int (0 : Int32)), .val (.ref b1), .val (.int (1 : Int32)), .val (.long q6), .second, .val (.long q6), .second] [])
    refine own_st (fun _ kt => XS.iload X5.here hx rfl (hb hby at_251) rfl  kt) ?_
    show own_Rch p e below _ T5 (mkF m 253 #[.val (.long q0), .second, .val (.long q2), .second, .val (.long q4), .second, .val (.long q6), .second, .val (.int p8), .val (.int (0 : Int32)), .val (.ref b1), .val (.int (1 : Int32)), .val (.long q6), .second, .val (.long q6), .second] [(.int (1 : Int32))])
    refine own_st (fun _ kt => XS.ifNo X5.here hx rfl (hb hby at_253) rfl ((if0 _ _).trans (feq ((by decide) : ¬ ((1 : Int32) = (0 : Int32)))).1) kt) ?_
    show own_Rch p e below _ T5 (mkF m 256 #[.val (.long q0), .second, .val (.long q2), .second, .val (.long q4), .second, .val (.long q6), .second, .val (.int p8), .val (.int (0 : Int32)), .val (.ref b1), .val (.int (1 : Int32)), .val (.long q6), .second, .val (.long q6), .second] [])
    refine own_st (fun _ kt => XS.aload X5.here hx rfl (hb hby at_256) rfl rfl  kt) ?_
    show own_Rch p e below _ T5 (mkF m 258 #[.val (.long q0), .second, .val (.long q2), .second, .val (.long q4), .second, .val (.long q6), .second, .val (.int p8), .val (.int (0 : Int32)), .val (.ref b1), .val (.int (1 : Int32)), .val (.long q6), .second, .val (.long q6), .second] [(.ref b1)])
    refine own_st (fun _ kt => XS.bipush X5.here hx rfl (hb hby at_258) kt) ?_
    show own_Rch p e below _ T5 (mkF m 260 #[.val (.long q0), .second, .val (.long q2), .second, .val (.long q4), .second, .val (.long q6), .second, .val (.int p8), .val (.int (0 : Int32)), .val (.ref b1), .val (.int (1 : Int32)), .val (.long q6), .second, .val (.long q6), .second] [(.int (100 : Int32)), (.ref b1)])
    obtain ⟨cq6, kq6, q6a, q6b, q6c⟩ := isOf hZ rfl Ea5
    obtain ⟨_, _, ⟨T6, L6, k6, n6⟩, -, X6, ⟨Lc6, hQ6, l6, y6, z6⟩, st6⟩ := X5.virtualBack hx (y := (⟨"com/example/respite/respite/cli/Latencies", "percentile", "(I)J"⟩ : MethodName)) (z := (⟨"com/example/respite/respite/cli/Latencies", "percentile", "(I)J"⟩ : MethodName)) hown (mvT hZ (hw _ (List.mem_of_getElem? (i := 21) rfl))) (mvT hZ (hw _ (List.mem_of_getElem? (i := 22) rfl))) (notFace_of_selects (args := #[]) (mvT hZ (hw _ (List.mem_of_getElem? (i := 24) rfl)))) (mvT hZ (hw _ (List.mem_of_getElem? (i := 24) rfl))) (mvT hZ (hw _ (List.mem_of_getElem? (i := 23) rfl))) (by decide) (backOf (W := 0) (own_pc_100_1_1 l Z a0 hw [] b1 ar2 ka2 u0_0 (0 : Int64) (0 : Int64) (0 : Int64) T5.heap n0 O0_x5 Ea5 Fn5 Fc5 Fs5 Vb5 ge1 ge2_ar2 ne2_b1_ar2) hZ (hw _ (List.mem_of_getElem? (i := 25) rfl)) (hw _ (List.mem_of_getElem? (i := 2) rfl)) (by decide) (by decide)) q6a q6c (g := (mkF m 260 #[.val (.long q0), .second, .val (.long q2), .second, .val (.long q4), .second, .val (.long q6), .second, .val (.int p8), .val (.int (0 : Int32)), .val (.ref b1), .val (.int (1 : Int32)), .val (.long q6), .second, .val (.long q6), .second] [(.int (100 : Int32)), (.ref b1)])) rfl (by rw [hml]; rfl) (Steps.refl _) (argsL := [(.int (100 : Int32))]) (rest := []) (lenOf own_pd8 rfl) rfl (by show 2 * 0 + _ ≤ _; exact Nat.le_of_eq rfl) (hb hby at_260) (fun _ _ => ⟨rfl, rfl, (by decide : 2 + 0 ≤ _), (by decide : 1027 + 0 ≤ _)⟩)
    dsimp only [Pt.U, Pt.locs, Pt.cells, Pt.slots] at X6 l6 y6 z6 st6 hQ6
    subst l6 y6 z6
    obtain ⟨rfl, N6q, hh6⟩ := hQ6
    have N6 := Fr.app N5 N6q
    refine own_st (fun _ kt => st6.trans kt) ?_
    show own_Rch p e below _ T6 (mkF m 263 #[.val (.long q0), .second, .val (.long q2), .second, .val (.long q4), .second, .val (.long q6), .second, .val (.int p8), .val (.int (0 : Int32)), .val (.ref b1), .val (.int (1 : Int32)), .val (.long q6), .second, .val (.long q6), .second] [(.long u0_0)])
    refine own_st (fun _ kt => XS.lload X6.here hx rfl (hb hby at_263) rfl  kt) ?_
    show own_Rch p e below _ T6 (mkF m 265 #[.val (.long q0), .second, .val (.long q2), .second, .val (.long q4), .second, .val (.long q6), .second, .val (.int p8), .val (.int (0 : Int32)), .val (.ref b1), .val (.int (1 : Int32)), .val (.long q6), .second, .val (.long q6), .second] [(.long q6), (.long u0_0)])
    refine own_st (fun _ kt => XS.lcmp X6.here hx rfl (hb hby at_265) rfl kt) ?_
    show own_Rch p e below _ T6 (mkF m 266 #[.val (.long q0), .second, .val (.long q2), .second, .val (.long q4), .second, .val (.long q6), .second, .val (.int p8), .val (.int (0 : Int32)), .val (.ref b1), .val (.int (1 : Int32)), .val (.long q6), .second, .val (.long q6), .second] [(.int (lcmpW u0_0 q6))])
    refine own_st (fun _ kt => XS.ifNo X6.here hx rfl (hb hby at_266) rfl ((if0 _ _).trans (teq (by rw [lw_eq, ← Int64.toInt_inj]; have he0 := own_ends1 hs0; omega : (lcmpW u0_0 q6) = (0 : Int32))).2) kt) ?_
    show own_Rch p e below _ T6 (mkF m 269 #[.val (.long q0), .second, .val (.long q2), .second, .val (.long q4), .second, .val (.long q6), .second, .val (.int p8), .val (.int (0 : Int32)), .val (.ref b1), .val (.int (1 : Int32)), .val (.long q6), .second, .val (.long q6), .second] [])
    refine own_st (fun _ kt => XS.iconst X6.here hx rfl (hb hby at_269) kt) ?_
    show own_Rch p e below _ T6 (mkF m 270 #[.val (.long q0), .second, .val (.long q2), .second, .val (.long q4), .second, .val (.long q6), .second, .val (.int p8), .val (.int (0 : Int32)), .val (.ref b1), .val (.int (1 : Int32)), .val (.long q6), .second, .val (.long q6), .second] [(.int (1 : Int32))])
    refine own_st (fun _ kt => XS.goto X6.here hx rfl (pc0 := 270) (pc' := 274) rfl (hb hby at_270) (by decide) (by decide) kt) ?_
    show own_Rch p e below _ T6 (mkF m 274 #[.val (.long q0), .second, .val (.long q2), .second, .val (.long q4), .second, .val (.long q6), .second, .val (.int p8), .val (.int (0 : Int32)), .val (.ref b1), .val (.int (1 : Int32)), .val (.long q6), .second, .val (.long q6), .second] [(.int (1 : Int32))])
    refine own_st (fun _ kt => XS.istore X6.here hx rfl (hb hby at_274) rfl (l' := #[.val (.long q0), .second, .val (.long q2), .second, .val (.long q4), .second, .val (.long q6), .second, .val (.int p8), .val (.int (0 : Int32)), .val (.ref b1), .val (.int (1 : Int32)), .val (.long q6), .second, .val (.long q6), .second]) rfl kt) ?_
    show own_Rch p e below _ T6 (mkF m 276 #[.val (.long q0), .second, .val (.long q2), .second, .val (.long q4), .second, .val (.long q6), .second, .val (.int p8), .val (.int (0 : Int32)), .val (.ref b1), .val (.int (1 : Int32)), .val (.long q6), .second, .val (.long q6), .second] [])
    refine own_st (fun _ kt => XS.iload X6.here hx rfl (hb hby at_276) rfl  kt) ?_
    show own_Rch p e below _ T6 (mkF m 278 #[.val (.long q0), .second, .val (.long q2), .second, .val (.long q4), .second, .val (.long q6), .second, .val (.int p8), .val (.int (0 : Int32)), .val (.ref b1), .val (.int (1 : Int32)), .val (.long q6), .second, .val (.long q6), .second] [(.int (1 : Int32))])
    refine own_retN (t := .boolean) (by simp) X6 hx Bd.notSynchronized Bd.returns (hb hby at_278) (by decide) (by decide) ?_
    rw [hh6]
    exact ⟨rfl, N6⟩
  · rw [hm]
    show own_Rch p e below _ s₁ (mkF m 6 #[.val (.long q0), .second, .val (.long q2), .second, .val (.long q4), .second, .val (.long q6), .second, .val (.int p8), .val (.int (1 : Int32)), .unset, .unset, .unset, .unset, .unset, .unset] [])
    obtain ⟨T7, h7, X7, e7, E7, A7, D7, U7, st7⟩ := newO X0 hx hZ hown (hw _ (List.mem_of_getElem? (i := 0) rfl)) (hw _ (List.mem_of_getElem? (i := 1) rfl)) (hw _ (List.mem_of_getElem? (i := 2) rfl)) e0 (g := (mkF m 6 #[.val (.long q0), .second, .val (.long q2), .second, .val (.long q4), .second, .val (.long q6), .second, .val (.int p8), .val (.int (1 : Int32)), .unset, .unset, .unset, .unset, .unset, .unset] [])) rfl (hb hby at_6) (by decide) (by decide)
    obtain ⟨b7, g7⟩ : ∃ z, z = h0.size := ⟨_, rfl⟩
    rw [← g7] at A7 D7 U7 st7
    have ge7 : n0 ≤ b7 := by rw [g7]; exact own_old_le O0
    have O0_x7 := O0.ext E7
    refine own_st st7 ?_
    have F7_nanos : Fld Z h7 b7 "com/example/respite/respite/cli/Latencies" "nanos" "[J" .null := D7 (Or.inl (hw _ (List.mem_of_getElem? (i := 11) rfl))) (ty := (.array .long)) (by decide)
    have F7_sorted : Fld Z h7 b7 "com/example/respite/respite/cli/Latencies" "sorted" "Z" (.int (0 : Int32)) := D7 (Or.inl (hw _ (List.mem_of_getElem? (i := 13) rfl))) (ty := .boolean) (by decide)
    have F7_count : Fld Z h7 b7 "com/example/respite/respite/cli/Latencies" "count" "I" (.int (0 : Int32)) := D7 (Or.inl (hw _ (List.mem_of_getElem? (i := 20) rfl))) (ty := .int) (by decide)
    show own_Rch p e below _ T7 (mkF m 9 #[.val (.long q0), .second, .val (.long q2), .second, .val (.long q4), .second, .val (.long q6), .second, .val (.int p8), .val (.int (1 : Int32)), .unset, .unset, .unset, .unset, .unset, .unset] [(.ref b7)])
    refine own_st (fun _ kt => XS.dup X7.here hx rfl (hb hby at_9) rfl rfl kt) ?_
    show own_Rch p e below _ T7 (mkF m 10 #[.val (.long q0), .second, .val (.long q2), .second, .val (.long q4), .second, .val (.long q6), .second, .val (.int p8), .val (.int (1 : Int32)), .unset, .unset, .unset, .unset, .unset, .unset] [(.ref b7), (.ref b7)])
    obtain ⟨_, _, ⟨T8, L8, k8, n8⟩, -, X8, ⟨Lc8, hQ8, l8, y8, z8⟩, st8⟩ := X7.specialBack hx (y := (⟨"com/example/respite/respite/cli/Latencies", "<init>", "()V"⟩ : MethodName)) rfl hown (mvT hZ (hw _ (List.mem_of_getElem? (i := 3) rfl))) (mvT hZ (hw _ (List.mem_of_getElem? (i := 4) rfl))) (mvT hZ (hw _ (List.mem_of_getElem? (i := 5) rfl))) (by decide) (backOf (W := 1) (own_init l Z a0 hw [] b7 h7 n0 O0_x7 A7 F7_nanos F7_count F7_sorted ge7) hZ (hw _ (List.mem_of_getElem? (i := 5) rfl)) (hw _ (List.mem_of_getElem? (i := 2) rfl)) (by decide) (by decide)) (g := (mkF m 10 #[.val (.long q0), .second, .val (.long q2), .second, .val (.long q4), .second, .val (.long q6), .second, .val (.int p8), .val (.int (1 : Int32)), .unset, .unset, .unset, .unset, .unset, .unset] [(.ref b7), (.ref b7)])) rfl (by rw [hml]; rfl) (Steps.refl _) (a := b7) (argsL := []) (rest := [(.ref b7)]) (lenOf own_pd5 rfl) rfl (by show 2 * 0 + _ ≤ _; exact Nat.le_of_eq rfl) (hb hby at_10) (fun _ _ => ⟨rfl, e7, (by decide : 1 + 1 ≤ _), (by decide : 3 + 1024 ≤ _)⟩)
    dsimp only [Pt.U, Pt.locs, Pt.cells, Pt.slots] at X8 l8 y8 z8 st8 hQ8
    subst l8 y8 z8
    obtain ⟨ar8, ka8, rfl, N8q, K8, hb8, Ea8, Fn8, Fc8, Fs8, Vb8⟩ := hQ8
    have N8 := Fr.app N0 N8q
    refine own_st (fun _ kt => st8.trans kt) ?_
    have ne8_b7_ar8 : b7 ≠ ar8 := Nat.ne_of_lt (Nat.lt_of_lt_of_le F7_nanos.lt hb8)
    have ge8_ar8 : n0 ≤ ar8 := Nat.le_trans (own_old_le O0_x7) hb8
    have O0_x8 := O0_x7.keep K8 (allS ge7 all0)
    have A7_x8 := A7.keep K8
    show own_Rch p e below _ T8 (mkF m 13 #[.val (.long q0), .second, .val (.long q2), .second, .val (.long q4), .second, .val (.long q6), .second, .val (.int p8), .val (.int (1 : Int32)), .unset, .unset, .unset, .unset, .unset, .unset] [(.ref b7)])
    refine own_st (fun _ kt => XS.astore X8.here hx rfl (hb hby at_13) rfl rfl (l' := #[.val (.long q0), .second, .val (.long q2), .second, .val (.long q4), .second, .val (.long q6), .second, .val (.int p8), .val (.int (1 : Int32)), .val (.ref b7), .unset, .unset, .unset, .unset, .unset]) rfl kt) ?_
    show own_Rch p e below _ T8 (mkF m 15 #[.val (.long q0), .second, .val (.long q2), .second, .val (.long q4), .second, .val (.long q6), .second, .val (.int p8), .val (.int (1 : Int32)), .val (.ref b7), .unset, .unset, .unset, .unset, .unset] [])
    refine own_st (fun _ kt => XS.iload X8.here hx rfl (hb hby at_15) rfl  kt) ?_
    show own_Rch p e below _ T8 (mkF m 17 #[.val (.long q0), .second, .val (.long q2), .second, .val (.long q4), .second, .val (.long q6), .second, .val (.int p8), .val (.int (1 : Int32)), .val (.ref b7), .unset, .unset, .unset, .unset, .unset] [(.int (1 : Int32))])
    refine own_st (fun _ kt => XS.iconst X8.here hx rfl (hb hby at_17) kt) ?_
    show own_Rch p e below _ T8 (mkF m 18 #[.val (.long q0), .second, .val (.long q2), .second, .val (.long q4), .second, .val (.long q6), .second, .val (.int p8), .val (.int (1 : Int32)), .val (.ref b7), .unset, .unset, .unset, .unset, .unset] [(.int (1 : Int32)), (.int (1 : Int32))])
    refine own_st (fun _ kt => XS.icmpNo X8.here hx rfl (hb hby at_18) rfl (flt ((by decide) : ¬ ((1 : Int32) < (1 : Int32)))).1 kt) ?_
    show own_Rch p e below _ T8 (mkF m 21 #[.val (.long q0), .second, .val (.long q2), .second, .val (.long q4), .second, .val (.long q6), .second, .val (.int p8), .val (.int (1 : Int32)), .val (.ref b7), .unset, .unset, .unset, .unset, .unset] [])
    refine own_st (fun _ kt => XS.aload X8.here hx rfl (hb hby at_21) rfl rfl  kt) ?_
    show own_Rch p e below _ T8 (mkF m 23 #[.val (.long q0), .second, .val (.long q2), .second, .val (.long q4), .second, .val (.long q6), .second, .val (.int p8), .val (.int (1 : Int32)), .val (.ref b7), .unset, .unset, .unset, .unset, .unset] [(.ref b7)])
    refine own_st (fun _ kt => XS.lloadN X8.here hx rfl (hb hby at_23) rfl  kt) ?_
    show own_Rch p e below _ T8 (mkF m 24 #[.val (.long q0), .second, .val (.long q2), .second, .val (.long q4), .second, .val (.long q6), .second, .val (.int p8), .val (.int (1 : Int32)), .val (.ref b7), .unset, .unset, .unset, .unset, .unset] [(.long q0), (.ref b7)])
    obtain ⟨cq9, kq9, q9a, q9b, q9c⟩ := isOf hZ rfl Ea8
    obtain ⟨_, _, ⟨T9, L9, k9, n9⟩, -, X9, ⟨Lc9, hQ9, l9, y9, z9⟩, st9⟩ := X8.virtualBack hx (y := (⟨"com/example/respite/respite/cli/Latencies", "add", "(J)V"⟩ : MethodName)) (z := (⟨"com/example/respite/respite/cli/Latencies", "add", "(J)V"⟩ : MethodName)) hown (mvT hZ (hw _ (List.mem_of_getElem? (i := 14) rfl))) (mvT hZ (hw _ (List.mem_of_getElem? (i := 15) rfl))) (notFace_of_selects (args := #[]) (mvT hZ (hw _ (List.mem_of_getElem? (i := 17) rfl)))) (mvT hZ (hw _ (List.mem_of_getElem? (i := 17) rfl))) (mvT hZ (hw _ (List.mem_of_getElem? (i := 16) rfl))) (by decide) (backOf (W := 0) (own_add0 l Z a0 hw [] b7 ar8 ka8 q0 (0 : Int64) (0 : Int64) (0 : Int64) (0 : Int64) (1 : Int32) T8.heap n0 O0_x8 Ea8 Fn8 Fc8 Fs8 Vb8 ge7 ge8_ar8 ne8_b7_ar8) hZ (hw _ (List.mem_of_getElem? (i := 18) rfl)) (hw _ (List.mem_of_getElem? (i := 2) rfl)) (by decide) (by decide)) q9a q9c (g := (mkF m 24 #[.val (.long q0), .second, .val (.long q2), .second, .val (.long q4), .second, .val (.long q6), .second, .val (.int p8), .val (.int (1 : Int32)), .val (.ref b7), .unset, .unset, .unset, .unset, .unset] [(.long q0), (.ref b7)])) rfl (by rw [hml]; rfl) (Steps.refl _) (argsL := [(.long q0)]) (rest := []) (lenOf own_pd6 rfl) rfl (by show 2 * 0 + _ ≤ _; exact Nat.le_of_eq rfl) (hb hby at_24) (fun _ _ => ⟨rfl, rfl, (by decide : 2 + 0 ≤ _), (by decide : 1027 + 0 ≤ _)⟩)
    dsimp only [Pt.U, Pt.locs, Pt.cells, Pt.slots] at X9 l9 y9 z9 st9 hQ9
    subst l9 y9 z9
    obtain ⟨rfl, N9q, K9, Ea9, Fn9, Fc9, Fs9, Vb9⟩ := hQ9
    have N9 := Fr.app N8 N9q
    refine own_st (fun _ kt => st9.trans kt) ?_
    have O0_x9 := O0_x8.keep K9 (allS ge7 (allS ge8_ar8 all0))
    have Ea8_x9 := Ea8.keep K9
    show own_Rch p e below _ T9 (mkF m 27 #[.val (.long q0), .second, .val (.long q2), .second, .val (.long q4), .second, .val (.long q6), .second, .val (.int p8), .val (.int (1 : Int32)), .val (.ref b7), .unset, .unset, .unset, .unset, .unset] [])
    refine own_st (fun _ kt => XS.iload X9.here hx rfl (hb hby at_27) rfl  kt) ?_
    show own_Rch p e below _ T9 (mkF m 29 #[.val (.long q0), .second, .val (.long q2), .second, .val (.long q4), .second, .val (.long q6), .second, .val (.int p8), .val (.int (1 : Int32)), .val (.ref b7), .unset, .unset, .unset, .unset, .unset] [(.int (1 : Int32))])
    refine own_st (fun _ kt => XS.iconst X9.here hx rfl (hb hby at_29) kt) ?_
    show own_Rch p e below _ T9 (mkF m 30 #[.val (.long q0), .second, .val (.long q2), .second, .val (.long q4), .second, .val (.long q6), .second, .val (.int p8), .val (.int (1 : Int32)), .val (.ref b7), .unset, .unset, .unset, .unset, .unset] [(.int (2 : Int32)), (.int (1 : Int32))])
    refine own_st (fun _ kt => XS.icmpYes X9.here hx rfl (pc0 := 30) (pc' := 39) rfl (hb hby at_30) rfl (tlt ((by decide) : (1 : Int32) < (2 : Int32))).1 (by decide) (by decide) kt) ?_
    show own_Rch p e below _ T9 (mkF m 39 #[.val (.long q0), .second, .val (.long q2), .second, .val (.long q4), .second, .val (.long q6), .second, .val (.int p8), .val (.int (1 : Int32)), .val (.ref b7), .unset, .unset, .unset, .unset, .unset] [])
    refine own_st (fun _ kt => XS.iload X9.here hx rfl (hb hby at_39) rfl  kt) ?_
    show own_Rch p e below _ T9 (mkF m 41 #[.val (.long q0), .second, .val (.long q2), .second, .val (.long q4), .second, .val (.long q6), .second, .val (.int p8), .val (.int (1 : Int32)), .val (.ref b7), .unset, .unset, .unset, .unset, .unset] [(.int (1 : Int32))])
    refine own_st (fun _ kt => XS.iconst X9.here hx rfl (hb hby at_41) kt) ?_
    show own_Rch p e below _ T9 (mkF m 42 #[.val (.long q0), .second, .val (.long q2), .second, .val (.long q4), .second, .val (.long q6), .second, .val (.int p8), .val (.int (1 : Int32)), .val (.ref b7), .unset, .unset, .unset, .unset, .unset] [(.int (3 : Int32)), (.int (1 : Int32))])
    refine own_st (fun _ kt => XS.icmpYes X9.here hx rfl (pc0 := 42) (pc' := 52) rfl (hb hby at_42) rfl (tlt ((by decide) : (1 : Int32) < (3 : Int32))).1 (by decide) (by decide) kt) ?_
    show own_Rch p e below _ T9 (mkF m 52 #[.val (.long q0), .second, .val (.long q2), .second, .val (.long q4), .second, .val (.long q6), .second, .val (.int p8), .val (.int (1 : Int32)), .val (.ref b7), .unset, .unset, .unset, .unset, .unset] [])
    refine own_st (fun _ kt => XS.iconst X9.here hx rfl (hb hby at_52) kt) ?_
    show own_Rch p e below _ T9 (mkF m 53 #[.val (.long q0), .second, .val (.long q2), .second, .val (.long q4), .second, .val (.long q6), .second, .val (.int p8), .val (.int (1 : Int32)), .val (.ref b7), .unset, .unset, .unset, .unset, .unset] [(.int (1 : Int32))])
    refine own_st (fun _ kt => XS.istore X9.here hx rfl (hb hby at_53) rfl (l' := #[.val (.long q0), .second, .val (.long q2), .second, .val (.long q4), .second, .val (.long q6), .second, .val (.int p8), .val (.int (1 : Int32)), .val (.ref b7), .val (.int (1 : Int32)), .unset, .unset, .unset, .unset]) rfl kt) ?_
    show own_Rch p e below _ T9 (mkF m 55 #[.val (.long q0), .second, .val (.long q2), .second, .val (.long q4), .second, .val (.long q6), .second, .val (.int p8), .val (.int (1 : Int32)), .val (.ref b7), .val (.int (1 : Int32)), .unset, .unset, .unset, .unset] [])
    refine own_st (fun _ kt => XS.iload X9.here hx rfl (hb hby at_55) rfl  kt) ?_
    show own_Rch p e below _ T9 (mkF m 57 #[.val (.long q0), .second, .val (.long q2), .second, .val (.long q4), .second, .val (.long q6), .second, .val (.int p8), .val (.int (1 : Int32)), .val (.ref b7), .val (.int (1 : Int32)), .unset, .unset, .unset, .unset] [(.int (1 : Int32))])
    refine own_st (fun _ kt => XS.iconst X9.here hx rfl (hb hby at_57) kt) ?_
    show own_Rch p e below _ T9 (mkF m 58 #[.val (.long q0), .second, .val (.long q2), .second, .val (.long q4), .second, .val (.long q6), .second, .val (.int p8), .val (.int (1 : Int32)), .val (.ref b7), .val (.int (1 : Int32)), .unset, .unset, .unset, .unset] [(.int (1 : Int32)), (.int (1 : Int32))])
    refine own_st (fun _ kt => XS.icmpNo X9.here hx rfl (hb hby at_58) rfl (flt ((by decide) : ¬ ((1 : Int32) < (1 : Int32)))).1 kt) ?_
    show own_Rch p e below _ T9 (mkF m 61 #[.val (.long q0), .second, .val (.long q2), .second, .val (.long q4), .second, .val (.long q6), .second, .val (.int p8), .val (.int (1 : Int32)), .val (.ref b7), .val (.int (1 : Int32)), .unset, .unset, .unset, .unset] [])
    refine own_st (fun _ kt => XS.iload X9.here hx rfl (hb hby at_61) rfl  kt) ?_
    show own_Rch p e below _ T9 (mkF m 63 #[.val (.long q0), .second, .val (.long q2), .second, .val (.long q4), .second, .val (.long q6), .second, .val (.int p8), .val (.int (1 : Int32)), .val (.ref b7), .val (.int (1 : Int32)), .unset, .unset, .unset, .unset] [(.int (1 : Int32))])
    refine own_st (fun _ kt => XS.ifNo X9.here hx rfl (hb hby at_63) rfl ((if0 _ _).trans (feq ((by decide) : ¬ ((1 : Int32) = (0 : Int32)))).1) kt) ?_
    show own_Rch p e below _ T9 (mkF m 66 #[.val (.long q0), .second, .val (.long q2), .second, .val (.long q4), .second, .val (.long q6), .second, .val (.int p8), .val (.int (1 : Int32)), .val (.ref b7), .val (.int (1 : Int32)), .unset, .unset, .unset, .unset] [])
    refine own_st (fun _ kt => XS.aload X9.here hx rfl (hb hby at_66) rfl rfl  kt) ?_
    show own_Rch p e below _ T9 (mkF m 68 #[.val (.long q0), .second, .val (.long q2), .second, .val (.long q4), .second, .val (.long q6), .second, .val (.int p8), .val (.int (1 : Int32)), .val (.ref b7), .val (.int (1 : Int32)), .unset, .unset, .unset, .unset] [(.ref b7)])
    refine own_st (fun _ kt => XS.bipush X9.here hx rfl (hb hby at_68) kt) ?_
    show own_Rch p e below _ T9 (mkF m 70 #[.val (.long q0), .second, .val (.long q2), .second, .val (.long q4), .second, .val (.long q6), .second, .val (.int p8), .val (.int (1 : Int32)), .val (.ref b7), .val (.int (1 : Int32)), .unset, .unset, .unset, .unset] [(.int (100 : Int32)), (.ref b7)])
    obtain ⟨cq10, kq10, q10a, q10b, q10c⟩ := isOf hZ rfl Ea9
    obtain ⟨_, _, ⟨T10, L10, k10, n10⟩, -, X10, ⟨Lc10, hQ10, l10, y10, z10⟩, st10⟩ := X9.virtualBack hx (y := (⟨"com/example/respite/respite/cli/Latencies", "percentile", "(I)J"⟩ : MethodName)) (z := (⟨"com/example/respite/respite/cli/Latencies", "percentile", "(I)J"⟩ : MethodName)) hown (mvT hZ (hw _ (List.mem_of_getElem? (i := 21) rfl))) (mvT hZ (hw _ (List.mem_of_getElem? (i := 22) rfl))) (notFace_of_selects (args := #[]) (mvT hZ (hw _ (List.mem_of_getElem? (i := 24) rfl)))) (mvT hZ (hw _ (List.mem_of_getElem? (i := 24) rfl))) (mvT hZ (hw _ (List.mem_of_getElem? (i := 23) rfl))) (by decide) (backOf (W := 0) (own_pc_100_1_0 l Z a0 hw [] b7 ar8 ka8 q0 (0 : Int64) (0 : Int64) (0 : Int64) T9.heap n0 O0_x9 Ea9 Fn9 Fc9 Fs9 Vb9 ge7 ge8_ar8 ne8_b7_ar8) hZ (hw _ (List.mem_of_getElem? (i := 25) rfl)) (hw _ (List.mem_of_getElem? (i := 2) rfl)) (by decide) (by decide)) q10a q10c (g := (mkF m 70 #[.val (.long q0), .second, .val (.long q2), .second, .val (.long q4), .second, .val (.long q6), .second, .val (.int p8), .val (.int (1 : Int32)), .val (.ref b7), .val (.int (1 : Int32)), .unset, .unset, .unset, .unset] [(.int (100 : Int32)), (.ref b7)])) rfl (by rw [hml]; rfl) (Steps.refl _) (argsL := [(.int (100 : Int32))]) (rest := []) (lenOf own_pd8 rfl) rfl (by show 2 * 0 + _ ≤ _; exact Nat.le_of_eq rfl) (hb hby at_70) (fun _ _ => ⟨rfl, rfl, (by decide : 2 + 0 ≤ _), (by decide : 1027 + 0 ≤ _)⟩)
    dsimp only [Pt.U, Pt.locs, Pt.cells, Pt.slots] at X10 l10 y10 z10 st10 hQ10
    subst l10 y10 z10
    obtain ⟨u0_0, hs0, rfl, N10q, K10, Ea10, Fn10, Fc10, Fs10, Vb10⟩ := hQ10
    have N10 := Fr.app N9 N10q
    refine own_st (fun _ kt => st10.trans kt) ?_
    have O0_x10 := O0_x9.keep K10 (allS ge7 (allS ge8_ar8 all0))
    have Ea9_x10 := Ea9.keep K10
    show own_Rch p e below _ T10 (mkF m 73 #[.val (.long q0), .second, .val (.long q2), .second, .val (.long q4), .second, .val (.long q6), .second, .val (.int p8), .val (.int (1 : Int32)), .val (.ref b7), .val (.int (1 : Int32)), .unset, .unset, .unset, .unset] [(.long u0_0)])
    refine own_st (fun _ kt => XS.lloadN X10.here hx rfl (hb hby at_73) rfl  kt) ?_
    show own_Rch p e below _ T10 (mkF m 74 #[.val (.long q0), .second, .val (.long q2), .second, .val (.long q4), .second, .val (.long q6), .second, .val (.int p8), .val (.int (1 : Int32)), .val (.ref b7), .val (.int (1 : Int32)), .unset, .unset, .unset, .unset] [(.long q0), (.long u0_0)])
    refine own_st (fun _ kt => XS.lloadN X10.here hx rfl (hb hby at_74) rfl  kt) ?_
    show own_Rch p e below _ T10 (mkF m 75 #[.val (.long q0), .second, .val (.long q2), .second, .val (.long q4), .second, .val (.long q6), .second, .val (.int p8), .val (.int (1 : Int32)), .val (.ref b7), .val (.int (1 : Int32)), .unset, .unset, .unset, .unset] [(.long q2), (.long q0), (.long u0_0)])
    refine own_st (fun _ kt => XS.lload X10.here hx rfl (hb hby at_75) rfl  kt) ?_
    show own_Rch p e below _ T10 (mkF m 77 #[.val (.long q0), .second, .val (.long q2), .second, .val (.long q4), .second, .val (.long q6), .second, .val (.int p8), .val (.int (1 : Int32)), .val (.ref b7), .val (.int (1 : Int32)), .unset, .unset, .unset, .unset] [(.long q4), (.long q2), (.long q0), (.long u0_0)])
    refine own_st (fun _ kt => XS.iload X10.here hx rfl (hb hby at_77) rfl  kt) ?_
    show own_Rch p e below _ T10 (mkF m 79 #[.val (.long q0), .second, .val (.long q2), .second, .val (.long q4), .second, .val (.long q6), .second, .val (.int p8), .val (.int (1 : Int32)), .val (.ref b7), .val (.int (1 : Int32)), .unset, .unset, .unset, .unset] [(.int (1 : Int32)), (.long q4), (.long q2), (.long q0), (.long u0_0)])
    obtain ⟨_, _, ⟨T11, L11, k11, n11⟩, -, X11, ⟨Lc11, hQ11, l11, y11, z11⟩, st11⟩ := Jvm.LawKit.callS X10 hx (y := (⟨"com/example/respite/respite/cli/LatenciesAddPinLaw", "maxOf", "(JJJI)J"⟩ : MethodName)) hown (mvT hZ (hw _ (List.mem_of_getElem? (i := 53) rfl))) (mvT hZ (hw _ (List.mem_of_getElem? (i := 54) rfl))) (mvT hZ (hw _ (List.mem_of_getElem? (i := 55) rfl))) (mvT hZ (hw _ (List.mem_of_getElem? (i := 56) rfl))) (by decide) (backOf (W := 2) (own_maxof1 l Z a0 hw [] q0 q2 q4 T10.heap n0 O0_x10 ) hZ (hw _ (List.mem_of_getElem? (i := 56) rfl)) (hw _ (List.mem_of_getElem? (i := 55) rfl)) (by decide) (by decide)) (g := (mkF m 79 #[.val (.long q0), .second, .val (.long q2), .second, .val (.long q4), .second, .val (.long q6), .second, .val (.int p8), .val (.int (1 : Int32)), .val (.ref b7), .val (.int (1 : Int32)), .unset, .unset, .unset, .unset] [(.int (1 : Int32)), (.long q4), (.long q2), (.long q0), (.long u0_0)])) rfl (by rw [hml]; rfl) (argsL := [(.long q0), (.long q2), (.long q4), (.int (1 : Int32))]) (rest := [(.long u0_0)]) (lenOf own_pd9 rfl) rfl (by show 2 * 0 + _ ≤ _; exact Nat.le_of_eq rfl) (hb hby at_79) (fun _ _ => ⟨rfl, rfl, (by decide : 2 + 0 ≤ _), (by decide : 1027 + 0 ≤ _)⟩)
    dsimp only [Pt.U, Pt.locs, Pt.cells, Pt.slots] at X11 l11 y11 z11 st11 hQ11
    subst l11 y11 z11
    obtain ⟨rfl, N11q, hh11⟩ := hQ11
    have N11 := Fr.app N10 N11q
    refine own_st st11 ?_
    show own_Rch p e below _ T11 (mkF m 82 #[.val (.long q0), .second, .val (.long q2), .second, .val (.long q4), .second, .val (.long q6), .second, .val (.int p8), .val (.int (1 : Int32)), .val (.ref b7), .val (.int (1 : Int32)), .unset, .unset, .unset, .unset] [(.long q0), (.long u0_0)])
    refine own_st (fun _ kt => XS.lcmp X11.here hx rfl (hb hby at_82) rfl kt) ?_
    show own_Rch p e below _ T11 (mkF m 83 #[.val (.long q0), .second, .val (.long q2), .second, .val (.long q4), .second, .val (.long q6), .second, .val (.int p8), .val (.int (1 : Int32)), .val (.ref b7), .val (.int (1 : Int32)), .unset, .unset, .unset, .unset] [(.int (lcmpW u0_0 q0))])
    refine own_st (fun _ kt => XS.ifNo X11.here hx rfl (hb hby at_83) rfl ((if0 _ _).trans (teq (by rw [lw_eq, ← Int64.toInt_inj]; have he0 := own_ends1 hs0; omega : (lcmpW u0_0 q0) = (0 : Int32))).2) kt) ?_
    show own_Rch p e below _ T11 (mkF m 86 #[.val (.long q0), .second, .val (.long q2), .second, .val (.long q4), .second, .val (.long q6), .second, .val (.int p8), .val (.int (1 : Int32)), .val (.ref b7), .val (.int (1 : Int32)), .unset, .unset, .unset, .unset] [])
    refine own_st (fun _ kt => XS.iconst X11.here hx rfl (hb hby at_86) kt) ?_
    show own_Rch p e below _ T11 (mkF m 87 #[.val (.long q0), .second, .val (.long q2), .second, .val (.long q4), .second, .val (.long q6), .second, .val (.int p8), .val (.int (1 : Int32)), .val (.ref b7), .val (.int (1 : Int32)), .unset, .unset, .unset, .unset] [(.int (1 : Int32))])
    refine own_st (fun _ kt => XS.goto X11.here hx rfl (pc0 := 87) (pc' := 91) rfl (hb hby at_87) (by decide) (by decide) kt) ?_
    show own_Rch p e below _ T11 (mkF m 91 #[.val (.long q0), .second, .val (.long q2), .second, .val (.long q4), .second, .val (.long q6), .second, .val (.int p8), .val (.int (1 : Int32)), .val (.ref b7), .val (.int (1 : Int32)), .unset, .unset, .unset, .unset] [(.int (1 : Int32))])
    refine own_st (fun _ kt => XS.istore X11.here hx rfl (hb hby at_91) rfl (l' := #[.val (.long q0), .second, .val (.long q2), .second, .val (.long q4), .second, .val (.long q6), .second, .val (.int p8), .val (.int (1 : Int32)), .val (.ref b7), .val (.int (1 : Int32)), .unset, .unset, .unset, .unset]) rfl kt) ?_
    show own_Rch p e below _ T11 (mkF m 93 #[.val (.long q0), .second, .val (.long q2), .second, .val (.long q4), .second, .val (.long q6), .second, .val (.int p8), .val (.int (1 : Int32)), .val (.ref b7), .val (.int (1 : Int32)), .unset, .unset, .unset, .unset] [])
    refine own_st (fun _ kt => XS.iload X11.here hx rfl (hb hby at_93) rfl  kt) ?_
    show own_Rch p e below _ T11 (mkF m 95 #[.val (.long q0), .second, .val (.long q2), .second, .val (.long q4), .second, .val (.long q6), .second, .val (.int p8), .val (.int (1 : Int32)), .val (.ref b7), .val (.int (1 : Int32)), .unset, .unset, .unset, .unset] [(.int (1 : Int32))])
    refine own_st (fun _ kt => XS.iconst X11.here hx rfl (hb hby at_95) kt) ?_
    show own_Rch p e below _ T11 (mkF m 96 #[.val (.long q0), .second, .val (.long q2), .second, .val (.long q4), .second, .val (.long q6), .second, .val (.int p8), .val (.int (1 : Int32)), .val (.ref b7), .val (.int (1 : Int32)), .unset, .unset, .unset, .unset] [(.int (3 : Int32)), (.int (1 : Int32))])
    refine own_st (fun _ kt => XS.icmpYes X11.here hx rfl (pc0 := 96) (pc' := 144) rfl (hb hby at_96) rfl (feq ((by decide) : ¬ ((1 : Int32) = (3 : Int32)))).2 (by decide) (by decide) kt) ?_
    show own_Rch p e below _ T11 (mkF m 144 #[.val (.long q0), .second, .val (.long q2), .second, .val (.long q4), .second, .val (.long q6), .second, .val (.int p8), .val (.int (1 : Int32)), .val (.ref b7), .val (.int (1 : Int32)), .unset, .unset, .unset, .unset] [])
    refine own_st (fun _ kt => XS.aload X11.here hx rfl (hb hby at_144) rfl rfl  kt) ?_
    show own_Rch p e below _ T11 (mkF m 146 #[.val (.long q0), .second, .val (.long q2), .second, .val (.long q4), .second, .val (.long q6), .second, .val (.int p8), .val (.int (1 : Int32)), .val (.ref b7), .val (.int (1 : Int32)), .unset, .unset, .unset, .unset] [(.ref b7)])
    refine own_st (fun _ kt => XS.lload X11.here hx rfl (hb hby at_146) rfl  kt) ?_
    show own_Rch p e below _ T11 (mkF m 148 #[.val (.long q0), .second, .val (.long q2), .second, .val (.long q4), .second, .val (.long q6), .second, .val (.int p8), .val (.int (1 : Int32)), .val (.ref b7), .val (.int (1 : Int32)), .unset, .unset, .unset, .unset] [(.long q6), (.ref b7)])
    obtain ⟨cq12, kq12, q12a, q12b, q12c⟩ := isOf hZ hh11 Ea10
    obtain ⟨_, _, ⟨T12, L12, k12, n12⟩, -, X12, ⟨Lc12, hQ12, l12, y12, z12⟩, st12⟩ := X11.virtualBack hx (y := (⟨"com/example/respite/respite/cli/Latencies", "add", "(J)V"⟩ : MethodName)) (z := (⟨"com/example/respite/respite/cli/Latencies", "add", "(J)V"⟩ : MethodName)) hown (mvT hZ (hw _ (List.mem_of_getElem? (i := 14) rfl))) (mvT hZ (hw _ (List.mem_of_getElem? (i := 15) rfl))) (notFace_of_selects (args := #[]) (mvT hZ (hw _ (List.mem_of_getElem? (i := 17) rfl)))) (mvT hZ (hw _ (List.mem_of_getElem? (i := 17) rfl))) (mvT hZ (hw _ (List.mem_of_getElem? (i := 16) rfl))) (by decide) (backOf (W := 0) (own_add1 l Z a0 hw [] b7 ar8 ka8 q6 u0_0 (0 : Int64) (0 : Int64) (0 : Int64) (1 : Int32) T10.heap n0 O0_x10 Ea10 Fn10 Fc10 Fs10 Vb10 ge7 ge8_ar8 ne8_b7_ar8) hZ (hw _ (List.mem_of_getElem? (i := 18) rfl)) (hw _ (List.mem_of_getElem? (i := 2) rfl)) (by decide) (by decide)) q12a q12c (g := (mkF m 148 #[.val (.long q0), .second, .val (.long q2), .second, .val (.long q4), .second, .val (.long q6), .second, .val (.int p8), .val (.int (1 : Int32)), .val (.ref b7), .val (.int (1 : Int32)), .unset, .unset, .unset, .unset] [(.long q6), (.ref b7)])) rfl (by rw [hml]; rfl) (Steps.refl _) (argsL := [(.long q6)]) (rest := []) (lenOf own_pd6 rfl) rfl (by show 2 * 0 + _ ≤ _; exact Nat.le_of_eq rfl) (hb hby at_148) (fun _ _ => ⟨rfl, hh11, (by decide : 2 + 0 ≤ _), (by decide : 1027 + 0 ≤ _)⟩)
    dsimp only [Pt.U, Pt.locs, Pt.cells, Pt.slots] at X12 l12 y12 z12 st12 hQ12
    subst l12 y12 z12
    obtain ⟨rfl, N12q, K12, Ea12, Fn12, Fc12, Fs12, Vb12⟩ := hQ12
    have N12 := Fr.app N11 N12q
    refine own_st (fun _ kt => st12.trans kt) ?_
    have O0_x12 := O0_x10.keep K12 (allS ge7 (allS ge8_ar8 all0))
    have Ea10_x12 := Ea10.keep K12
    show own_Rch p e below _ T12 (mkF m 151 #[.val (.long q0), .second, .val (.long q2), .second, .val (.long q4), .second, .val (.long q6), .second, .val (.int p8), .val (.int (1 : Int32)), .val (.ref b7), .val (.int (1 : Int32)), .unset, .unset, .unset, .unset] [])
    refine own_st (fun _ kt => XS.iload X12.here hx rfl (hb hby at_151) rfl  kt) ?_
    show own_Rch p e below _ T12 (mkF m 153 #[.val (.long q0), .second, .val (.long q2), .second, .val (.long q4), .second, .val (.long q6), .second, .val (.int p8), .val (.int (1 : Int32)), .val (.ref b7), .val (.int (1 : Int32)), .unset, .unset, .unset, .unset] [(.int (1 : Int32))])
    refine own_st (fun _ kt => XS.ifYes X12.here hx rfl (pc0 := 153) (pc' := 161) rfl (hb hby at_153) rfl ((if0 _ _).trans (feq ((by decide) : ¬ ((1 : Int32) = (0 : Int32)))).2) (by decide) (by decide) kt) ?_
    show own_Rch p e below _ T12 (mkF m 161 #[.val (.long q0), .second, .val (.long q2), .second, .val (.long q4), .second, .val (.long q6), .second, .val (.int p8), .val (.int (1 : Int32)), .val (.ref b7), .val (.int (1 : Int32)), .unset, .unset, .unset, .unset] [])
    refine own_st (fun _ kt => XS.lload X12.here hx rfl (hb hby at_161) rfl  kt) ?_
    show own_Rch p e below _ T12 (mkF m 163 #[.val (.long q0), .second, .val (.long q2), .second, .val (.long q4), .second, .val (.long q6), .second, .val (.int p8), .val (.int (1 : Int32)), .val (.ref b7), .val (.int (1 : Int32)), .unset, .unset, .unset, .unset] [(.long q6)])
    refine own_st (fun _ kt => XS.lloadN X12.here hx rfl (hb hby at_163) rfl  kt) ?_
    show own_Rch p e below _ T12 (mkF m 164 #[.val (.long q0), .second, .val (.long q2), .second, .val (.long q4), .second, .val (.long q6), .second, .val (.int p8), .val (.int (1 : Int32)), .val (.ref b7), .val (.int (1 : Int32)), .unset, .unset, .unset, .unset] [(.long q0), (.long q6)])
    refine own_st (fun _ kt => XS.lloadN X12.here hx rfl (hb hby at_164) rfl  kt) ?_
    show own_Rch p e below _ T12 (mkF m 165 #[.val (.long q0), .second, .val (.long q2), .second, .val (.long q4), .second, .val (.long q6), .second, .val (.int p8), .val (.int (1 : Int32)), .val (.ref b7), .val (.int (1 : Int32)), .unset, .unset, .unset, .unset] [(.long q2), (.long q0), (.long q6)])
    refine own_st (fun _ kt => XS.lload X12.here hx rfl (hb hby at_165) rfl  kt) ?_
    show own_Rch p e below _ T12 (mkF m 167 #[.val (.long q0), .second, .val (.long q2), .second, .val (.long q4), .second, .val (.long q6), .second, .val (.int p8), .val (.int (1 : Int32)), .val (.ref b7), .val (.int (1 : Int32)), .unset, .unset, .unset, .unset] [(.long q4), (.long q2), (.long q0), (.long q6)])
    refine own_st (fun _ kt => XS.iload X12.here hx rfl (hb hby at_167) rfl  kt) ?_
    show own_Rch p e below _ T12 (mkF m 169 #[.val (.long q0), .second, .val (.long q2), .second, .val (.long q4), .second, .val (.long q6), .second, .val (.int p8), .val (.int (1 : Int32)), .val (.ref b7), .val (.int (1 : Int32)), .unset, .unset, .unset, .unset] [(.int (1 : Int32)), (.long q4), (.long q2), (.long q0), (.long q6)])
    obtain ⟨_, _, ⟨T13, L13, k13, n13⟩, -, X13, ⟨Lc13, hQ13, l13, y13, z13⟩, st13⟩ := Jvm.LawKit.callS X12 hx (y := (⟨"com/example/respite/respite/cli/LatenciesAddPinLaw", "maxOf", "(JJJI)J"⟩ : MethodName)) hown (mvT hZ (hw _ (List.mem_of_getElem? (i := 53) rfl))) (mvT hZ (hw _ (List.mem_of_getElem? (i := 54) rfl))) (mvT hZ (hw _ (List.mem_of_getElem? (i := 55) rfl))) (mvT hZ (hw _ (List.mem_of_getElem? (i := 56) rfl))) (by decide) (backOf (W := 2) (own_maxof1 l Z a0 hw [] q0 q2 q4 T12.heap n0 O0_x12 ) hZ (hw _ (List.mem_of_getElem? (i := 56) rfl)) (hw _ (List.mem_of_getElem? (i := 55) rfl)) (by decide) (by decide)) (g := (mkF m 169 #[.val (.long q0), .second, .val (.long q2), .second, .val (.long q4), .second, .val (.long q6), .second, .val (.int p8), .val (.int (1 : Int32)), .val (.ref b7), .val (.int (1 : Int32)), .unset, .unset, .unset, .unset] [(.int (1 : Int32)), (.long q4), (.long q2), (.long q0), (.long q6)])) rfl (by rw [hml]; rfl) (argsL := [(.long q0), (.long q2), (.long q4), (.int (1 : Int32))]) (rest := [(.long q6)]) (lenOf own_pd9 rfl) rfl (by show 2 * 0 + _ ≤ _; exact Nat.le_of_eq rfl) (hb hby at_169) (fun _ _ => ⟨rfl, rfl, (by decide : 2 + 0 ≤ _), (by decide : 1027 + 0 ≤ _)⟩)
    dsimp only [Pt.U, Pt.locs, Pt.cells, Pt.slots] at X13 l13 y13 z13 st13 hQ13
    subst l13 y13 z13
    obtain ⟨rfl, N13q, hh13⟩ := hQ13
    have N13 := Fr.app N12 N13q
    refine own_st st13 ?_
    show own_Rch p e below _ T13 (mkF m 172 #[.val (.long q0), .second, .val (.long q2), .second, .val (.long q4), .second, .val (.long q6), .second, .val (.int p8), .val (.int (1 : Int32)), .val (.ref b7), .val (.int (1 : Int32)), .unset, .unset, .unset, .unset] [(.long q0), (.long q6)])
    obtain ⟨_, _, ⟨T14, L14, k14, n14⟩, -, X14, ⟨Lc14, hQ14, l14, y14, z14⟩, st14⟩ := Jvm.LawKit.callS X13 hx (y := (⟨"java/lang/Math", "max", "(JJ)J"⟩ : MethodName)) hown (mvT hZ (hw _ (List.mem_of_getElem? (i := 57) rfl))) (mvT hZ (hw _ (List.mem_of_getElem? (i := 50) rfl))) (mvT hZ (hw _ (List.mem_of_getElem? (i := 51) rfl))) (mvT hZ (hw _ (List.mem_of_getElem? (i := 52) rfl))) (by decide) (backOf (W := 0) (own_lmax l Z a0 hw [] q6 q0 T12.heap n0 O0_x12 ) hZ (hw _ (List.mem_of_getElem? (i := 52) rfl)) (hw _ (List.mem_of_getElem? (i := 51) rfl)) (by decide) (by decide)) (g := (mkF m 172 #[.val (.long q0), .second, .val (.long q2), .second, .val (.long q4), .second, .val (.long q6), .second, .val (.int p8), .val (.int (1 : Int32)), .val (.ref b7), .val (.int (1 : Int32)), .unset, .unset, .unset, .unset] [(.long q0), (.long q6)])) rfl (by rw [hml]; rfl) (argsL := [(.long q6), (.long q0)]) (rest := []) (lenOf own_pd0 rfl) rfl (by show 2 * 0 + _ ≤ _; exact Nat.le_of_eq rfl) (hb hby at_172) (fun _ _ => ⟨rfl, hh13, (by decide : 2 + 0 ≤ _), (by decide : 1027 + 0 ≤ _)⟩)
    dsimp only [Pt.U, Pt.locs, Pt.cells, Pt.slots] at X14 l14 y14 z14 st14 hQ14
    subst l14 y14 z14
    obtain ⟨rfl, N14q, hh14⟩ := hQ14
    have N14 := Fr.app N13 N14q
    refine own_st st14 ?_
    show own_Rch p e below _ T14 (mkF m 175 #[.val (.long q0), .second, .val (.long q2), .second, .val (.long q4), .second, .val (.long q6), .second, .val (.int p8), .val (.int (1 : Int32)), .val (.ref b7), .val (.int (1 : Int32)), .unset, .unset, .unset, .unset] [(.long (own_maxL q6 q0))])
    refine own_st (fun _ kt => XS.lstore X14.here hx rfl (hb hby at_175) rfl (l' := #[.val (.long q0), .second, .val (.long q2), .second, .val (.long q4), .second, .val (.long q6), .second, .val (.int p8), .val (.int (1 : Int32)), .val (.ref b7), .val (.int (1 : Int32)), .val (.long (own_maxL q6 q0)), .second, .unset, .unset]) rfl kt) ?_
    show own_Rch p e below _ T14 (mkF m 177 #[.val (.long q0), .second, .val (.long q2), .second, .val (.long q4), .second, .val (.long q6), .second, .val (.int p8), .val (.int (1 : Int32)), .val (.ref b7), .val (.int (1 : Int32)), .val (.long (own_maxL q6 q0)), .second, .unset, .unset] [])
    refine own_st (fun _ kt => XS.iload X14.here hx rfl (hb hby at_177) rfl  kt) ?_
    show own_Rch p e below _ T14 (mkF m 179 #[.val (.long q0), .second, .val (.long q2), .second, .val (.long q4), .second, .val (.long q6), .second, .val (.int p8), .val (.int (1 : Int32)), .val (.ref b7), .val (.int (1 : Int32)), .val (.long (own_maxL q6 q0)), .second, .unset, .unset] [(.int (1 : Int32))])
    refine own_st (fun _ kt => XS.ifYes X14.here hx rfl (pc0 := 179) (pc' := 187) rfl (hb hby at_179) rfl ((if0 _ _).trans (feq ((by decide) : ¬ ((1 : Int32) = (0 : Int32)))).2) (by decide) (by decide) kt) ?_
    show own_Rch p e below _ T14 (mkF m 187 #[.val (.long q0), .second, .val (.long q2), .second, .val (.long q4), .second, .val (.long q6), .second, .val (.int p8), .val (.int (1 : Int32)), .val (.ref b7), .val (.int (1 : Int32)), .val (.long (own_maxL q6 q0)), .second, .unset, .unset] [])
    refine own_st (fun _ kt => XS.lload X14.here hx rfl (hb hby at_187) rfl  kt) ?_
    show own_Rch p e below _ T14 (mkF m 189 #[.val (.long q0), .second, .val (.long q2), .second, .val (.long q4), .second, .val (.long q6), .second, .val (.int p8), .val (.int (1 : Int32)), .val (.ref b7), .val (.int (1 : Int32)), .val (.long (own_maxL q6 q0)), .second, .unset, .unset] [(.long q6)])
    refine own_st (fun _ kt => XS.lloadN X14.here hx rfl (hb hby at_189) rfl  kt) ?_
    show own_Rch p e below _ T14 (mkF m 190 #[.val (.long q0), .second, .val (.long q2), .second, .val (.long q4), .second, .val (.long q6), .second, .val (.int p8), .val (.int (1 : Int32)), .val (.ref b7), .val (.int (1 : Int32)), .val (.long (own_maxL q6 q0)), .second, .unset, .unset] [(.long q0), (.long q6)])
    refine own_st (fun _ kt => XS.lloadN X14.here hx rfl (hb hby at_190) rfl  kt) ?_
    show own_Rch p e below _ T14 (mkF m 191 #[.val (.long q0), .second, .val (.long q2), .second, .val (.long q4), .second, .val (.long q6), .second, .val (.int p8), .val (.int (1 : Int32)), .val (.ref b7), .val (.int (1 : Int32)), .val (.long (own_maxL q6 q0)), .second, .unset, .unset] [(.long q2), (.long q0), (.long q6)])
    refine own_st (fun _ kt => XS.lload X14.here hx rfl (hb hby at_191) rfl  kt) ?_
    show own_Rch p e below _ T14 (mkF m 193 #[.val (.long q0), .second, .val (.long q2), .second, .val (.long q4), .second, .val (.long q6), .second, .val (.int p8), .val (.int (1 : Int32)), .val (.ref b7), .val (.int (1 : Int32)), .val (.long (own_maxL q6 q0)), .second, .unset, .unset] [(.long q4), (.long q2), (.long q0), (.long q6)])
    refine own_st (fun _ kt => XS.iload X14.here hx rfl (hb hby at_193) rfl  kt) ?_
    show own_Rch p e below _ T14 (mkF m 195 #[.val (.long q0), .second, .val (.long q2), .second, .val (.long q4), .second, .val (.long q6), .second, .val (.int p8), .val (.int (1 : Int32)), .val (.ref b7), .val (.int (1 : Int32)), .val (.long (own_maxL q6 q0)), .second, .unset, .unset] [(.int (1 : Int32)), (.long q4), (.long q2), (.long q0), (.long q6)])
    obtain ⟨_, _, ⟨T15, L15, k15, n15⟩, -, X15, ⟨Lc15, hQ15, l15, y15, z15⟩, st15⟩ := Jvm.LawKit.callS X14 hx (y := (⟨"com/example/respite/respite/cli/LatenciesAddPinLaw", "minOf", "(JJJI)J"⟩ : MethodName)) hown (mvT hZ (hw _ (List.mem_of_getElem? (i := 61) rfl))) (mvT hZ (hw _ (List.mem_of_getElem? (i := 62) rfl))) (mvT hZ (hw _ (List.mem_of_getElem? (i := 55) rfl))) (mvT hZ (hw _ (List.mem_of_getElem? (i := 63) rfl))) (by decide) (backOf (W := 2) (own_minof1 l Z a0 hw [] q0 q2 q4 T12.heap n0 O0_x12 ) hZ (hw _ (List.mem_of_getElem? (i := 63) rfl)) (hw _ (List.mem_of_getElem? (i := 55) rfl)) (by decide) (by decide)) (g := (mkF m 195 #[.val (.long q0), .second, .val (.long q2), .second, .val (.long q4), .second, .val (.long q6), .second, .val (.int p8), .val (.int (1 : Int32)), .val (.ref b7), .val (.int (1 : Int32)), .val (.long (own_maxL q6 q0)), .second, .unset, .unset] [(.int (1 : Int32)), (.long q4), (.long q2), (.long q0), (.long q6)])) rfl (by rw [hml]; rfl) (argsL := [(.long q0), (.long q2), (.long q4), (.int (1 : Int32))]) (rest := [(.long q6)]) (lenOf own_pd9 rfl) rfl (by show 2 * 0 + _ ≤ _; exact Nat.le_of_eq rfl) (hb hby at_195) (fun _ _ => ⟨rfl, hh14, (by decide : 2 + 0 ≤ _), (by decide : 1027 + 0 ≤ _)⟩)
    dsimp only [Pt.U, Pt.locs, Pt.cells, Pt.slots] at X15 l15 y15 z15 st15 hQ15
    subst l15 y15 z15
    obtain ⟨rfl, N15q, hh15⟩ := hQ15
    have N15 := Fr.app N14 N15q
    refine own_st st15 ?_
    show own_Rch p e below _ T15 (mkF m 198 #[.val (.long q0), .second, .val (.long q2), .second, .val (.long q4), .second, .val (.long q6), .second, .val (.int p8), .val (.int (1 : Int32)), .val (.ref b7), .val (.int (1 : Int32)), .val (.long (own_maxL q6 q0)), .second, .unset, .unset] [(.long q0), (.long q6)])
    obtain ⟨_, _, ⟨T16, L16, k16, n16⟩, -, X16, ⟨Lc16, hQ16, l16, y16, z16⟩, st16⟩ := Jvm.LawKit.callS X15 hx (y := (⟨"java/lang/Math", "min", "(JJ)J"⟩ : MethodName)) hown (mvT hZ (hw _ (List.mem_of_getElem? (i := 58) rfl))) (mvT hZ (hw _ (List.mem_of_getElem? (i := 59) rfl))) (mvT hZ (hw _ (List.mem_of_getElem? (i := 51) rfl))) (mvT hZ (hw _ (List.mem_of_getElem? (i := 60) rfl))) (by decide) (backOf (W := 0) (own_lmin l Z a0 hw [] q6 q0 T12.heap n0 O0_x12 ) hZ (hw _ (List.mem_of_getElem? (i := 60) rfl)) (hw _ (List.mem_of_getElem? (i := 51) rfl)) (by decide) (by decide)) (g := (mkF m 198 #[.val (.long q0), .second, .val (.long q2), .second, .val (.long q4), .second, .val (.long q6), .second, .val (.int p8), .val (.int (1 : Int32)), .val (.ref b7), .val (.int (1 : Int32)), .val (.long (own_maxL q6 q0)), .second, .unset, .unset] [(.long q0), (.long q6)])) rfl (by rw [hml]; rfl) (argsL := [(.long q6), (.long q0)]) (rest := []) (lenOf own_pd0 rfl) rfl (by show 2 * 0 + _ ≤ _; exact Nat.le_of_eq rfl) (hb hby at_198) (fun _ _ => ⟨rfl, hh15, (by decide : 2 + 0 ≤ _), (by decide : 1027 + 0 ≤ _)⟩)
    dsimp only [Pt.U, Pt.locs, Pt.cells, Pt.slots] at X16 l16 y16 z16 st16 hQ16
    subst l16 y16 z16
    obtain ⟨rfl, N16q, hh16⟩ := hQ16
    have N16 := Fr.app N15 N16q
    refine own_st st16 ?_
    show own_Rch p e below _ T16 (mkF m 201 #[.val (.long q0), .second, .val (.long q2), .second, .val (.long q4), .second, .val (.long q6), .second, .val (.int p8), .val (.int (1 : Int32)), .val (.ref b7), .val (.int (1 : Int32)), .val (.long (own_maxL q6 q0)), .second, .unset, .unset] [(.long (own_minL q6 q0))])
    refine own_st (fun _ kt => XS.lstore X16.here hx rfl (hb hby at_201) rfl (l' := #[.val (.long q0), .second, .val (.long q2), .second, .val (.long q4), .second, .val (.long q6), .second, .val (.int p8), .val (.int (1 : Int32)), .val (.ref b7), .val (.int (1 : Int32)), .val (.long (own_maxL q6 q0)), .second, .val (.long (own_minL q6 q0)), .second]) rfl kt) ?_
    show own_Rch p e below _ T16 (mkF m 203 #[.val (.long q0), .second, .val (.long q2), .second, .val (.long q4), .second, .val (.long q6), .second, .val (.int p8), .val (.int (1 : Int32)), .val (.ref b7), .val (.int (1 : Int32)), .val (.long (own_maxL q6 q0)), .second, .val (.long (own_minL q6 q0)), .second] [])
    refine own_st (fun _ kt => XS.iload X16.here hx rfl (hb hby at_203) rfl  kt) ?_
    show own_Rch p e below _ T16 (mkF m 205 #[.val (.long q0), .second, .val (.long q2), .second, .val (.long q4), .second, .val (.long q6), .second, .val (.int p8), .val (.int (1 : Int32)), .val (.ref b7), .val (.int (1 : Int32)), .val (.long (own_maxL q6 q0)), .second, .val (.long (own_minL q6 q0)), .second] [(.int (1 : Int32))])
    refine own_st (fun _ kt => XS.ifNo X16.here hx rfl (hb hby at_205) rfl ((if0 _ _).trans (feq ((by decide) : ¬ ((1 : Int32) = (0 : Int32)))).1) kt) ?_
    show own_Rch p e below _ T16 (mkF m 208 #[.val (.long q0), .second, .val (.long q2), .second, .val (.long q4), .second, .val (.long q6), .second, .val (.int p8), .val (.int (1 : Int32)), .val (.ref b7), .val (.int (1 : Int32)), .val (.long (own_maxL q6 q0)), .second, .val (.long (own_minL q6 q0)), .second] [])
    refine own_st (fun _ kt => XS.aload X16.here hx rfl (hb hby at_208) rfl rfl  kt) ?_
    show own_Rch p e below _ T16 (mkF m 210 #[.val (.long q0), .second, .val (.long q2), .second, .val (.long q4), .second, .val (.long q6), .second, .val (.int p8), .val (.int (1 : Int32)), .val (.ref b7), .val (.int (1 : Int32)), .val (.long (own_maxL q6 q0)), .second, .val (.long (own_minL q6 q0)), .second] [(.ref b7)])
    obtain ⟨cq17, kq17, q17a, q17b, q17c⟩ := isOf hZ hh16 Ea12
    obtain ⟨_, _, ⟨T17, L17, k17, n17⟩, -, X17, ⟨Lc17, hQ17, l17, y17, z17⟩, st17⟩ := X16.virtualBack hx (y := (⟨"com/example/respite/respite/cli/Latencies", "count", "()I"⟩ : MethodName)) (z := (⟨"com/example/respite/respite/cli/Latencies", "count", "()I"⟩ : MethodName)) hown (mvT hZ (hw _ (List.mem_of_getElem? (i := 64) rfl))) (mvT hZ (hw _ (List.mem_of_getElem? (i := 65) rfl))) (notFace_of_selects (args := #[]) (mvT hZ (hw _ (List.mem_of_getElem? (i := 67) rfl)))) (mvT hZ (hw _ (List.mem_of_getElem? (i := 67) rfl))) (mvT hZ (hw _ (List.mem_of_getElem? (i := 66) rfl))) (by decide) (backOf (W := 0) (own_count l Z a0 hw [] b7 (2 : Int32) T12.heap n0 O0_x12 Fc12) hZ (hw _ (List.mem_of_getElem? (i := 68) rfl)) (hw _ (List.mem_of_getElem? (i := 2) rfl)) (by decide) (by decide)) q17a q17c (g := (mkF m 210 #[.val (.long q0), .second, .val (.long q2), .second, .val (.long q4), .second, .val (.long q6), .second, .val (.int p8), .val (.int (1 : Int32)), .val (.ref b7), .val (.int (1 : Int32)), .val (.long (own_maxL q6 q0)), .second, .val (.long (own_minL q6 q0)), .second] [(.ref b7)])) rfl (by rw [hml]; rfl) (Steps.refl _) (argsL := []) (rest := []) (lenOf own_pd7 rfl) rfl (by show 2 * 0 + _ ≤ _; exact Nat.le_of_eq rfl) (hb hby at_210) (fun _ _ => ⟨rfl, hh16, (by decide : 2 + 0 ≤ _), (by decide : 1027 + 0 ≤ _)⟩)
    dsimp only [Pt.U, Pt.locs, Pt.cells, Pt.slots] at X17 l17 y17 z17 st17 hQ17
    subst l17 y17 z17
    obtain ⟨rfl, N17q, hh17⟩ := hQ17
    have N17 := Fr.app N16 N17q
    refine own_st (fun _ kt => st17.trans kt) ?_
    show own_Rch p e below _ T17 (mkF m 213 #[.val (.long q0), .second, .val (.long q2), .second, .val (.long q4), .second, .val (.long q6), .second, .val (.int p8), .val (.int (1 : Int32)), .val (.ref b7), .val (.int (1 : Int32)), .val (.long (own_maxL q6 q0)), .second, .val (.long (own_minL q6 q0)), .second] [(.int (2 : Int32))])
    refine own_st (fun _ kt => XS.iload X17.here hx rfl (hb hby at_213) rfl  kt) ?_
    show own_Rch p e below _ T17 (mkF m 215 #[.val (.long q0), .second, .val (.long q2), .second, .val (.long q4), .second, .val (.long q6), .second, .val (.int p8), .val (.int (1 : Int32)), .val (.ref b7), .val (.int (1 : Int32)), .val (.long (own_maxL q6 q0)), .second, .val (.long (own_minL q6 q0)), .second] [(.int (1 : Int32)), (.int (2 : Int32))])
    refine own_st (fun _ kt => XS.iconst X17.here hx rfl (hb hby at_215) kt) ?_
    show own_Rch p e below _ T17 (mkF m 216 #[.val (.long q0), .second, .val (.long q2), .second, .val (.long q4), .second, .val (.long q6), .second, .val (.int p8), .val (.int (1 : Int32)), .val (.ref b7), .val (.int (1 : Int32)), .val (.long (own_maxL q6 q0)), .second, .val (.long (own_minL q6 q0)), .second] [(.int (1 : Int32)), (.int (1 : Int32)), (.int (2 : Int32))])
    refine own_st (fun _ kt => XS.iadd X17.here hx rfl (hb hby at_216) rfl kt) ?_
    show own_Rch p e below _ T17 (mkF m 217 #[.val (.long q0), .second, .val (.long q2), .second, .val (.long q4), .second, .val (.long q6), .second, .val (.int p8), .val (.int (1 : Int32)), .val (.ref b7), .val (.int (1 : Int32)), .val (.long (own_maxL q6 q0)), .second, .val (.long (own_minL q6 q0)), .second] [(.int (2 : Int32)), (.int (2 : Int32))])
    refine own_st (fun _ kt => XS.icmpNo X17.here hx rfl (hb hby at_217) rfl (teq (rfl : (2 : Int32) = (2 : Int32))).2 kt) ?_
    show own_Rch p e below _ T17 (mkF m 220 #[.val (.long q0), .second, .val (.long q2), .second, .val (.long q4), .second, .val (.long q6), .second, .val (.int p8), .val (.int (1 : Int32)), .val (.ref b7), .val (.int (1 : Int32)), .val (.long (own_maxL q6 q0)), .second, .val (.long (own_minL q6 q0)), .second] [])
    refine own_st (fun _ kt => XS.iconst X17.here hx rfl (hb hby at_220) kt) ?_
    show own_Rch p e below _ T17 (mkF m 221 #[.val (.long q0), .second, .val (.long q2), .second, .val (.long q4), .second, .val (.long q6), .second, .val (.int p8), .val (.int (1 : Int32)), .val (.ref b7), .val (.int (1 : Int32)), .val (.long (own_maxL q6 q0)), .second, .val (.long (own_minL q6 q0)), .second] [(.int (1 : Int32))])
    refine own_st (fun _ kt => XS.goto X17.here hx rfl (pc0 := 221) (pc' := 225) rfl (hb hby at_221) (by decide) (by decide) kt) ?_
    show own_Rch p e below _ T17 (mkF m 225 #[.val (.long q0), .second, .val (.long q2), .second, .val (.long q4), .second, .val (.long q6), .second, .val (.int p8), .val (.int (1 : Int32)), .val (.ref b7), .val (.int (1 : Int32)), .val (.long (own_maxL q6 q0)), .second, .val (.long (own_minL q6 q0)), .second] [(.int (1 : Int32))])
    refine own_st (fun _ kt => XS.istore X17.here hx rfl (hb hby at_225) rfl (l' := #[.val (.long q0), .second, .val (.long q2), .second, .val (.long q4), .second, .val (.long q6), .second, .val (.int p8), .val (.int (1 : Int32)), .val (.ref b7), .val (.int (1 : Int32)), .val (.long (own_maxL q6 q0)), .second, .val (.long (own_minL q6 q0)), .second]) rfl kt) ?_
    show own_Rch p e below _ T17 (mkF m 227 #[.val (.long q0), .second, .val (.long q2), .second, .val (.long q4), .second, .val (.long q6), .second, .val (.int p8), .val (.int (1 : Int32)), .val (.ref b7), .val (.int (1 : Int32)), .val (.long (own_maxL q6 q0)), .second, .val (.long (own_minL q6 q0)), .second] [])
    refine own_st (fun _ kt => XS.iload X17.here hx rfl (hb hby at_227) rfl  kt) ?_
    show own_Rch p e below _ T17 (mkF m 229 #[.val (.long q0), .second, .val (.long q2), .second, .val (.long q4), .second, .val (.long q6), .second, .val (.int p8), .val (.int (1 : Int32)), .val (.ref b7), .val (.int (1 : Int32)), .val (.long (own_maxL q6 q0)), .second, .val (.long (own_minL q6 q0)), .second] [(.int (1 : Int32))])
    refine own_st (fun _ kt => XS.ifNo X17.here hx rfl (hb hby at_229) rfl ((if0 _ _).trans (feq ((by decide) : ¬ ((1 : Int32) = (0 : Int32)))).1) kt) ?_
    show own_Rch p e below _ T17 (mkF m 232 #[.val (.long q0), .second, .val (.long q2), .second, .val (.long q4), .second, .val (.long q6), .second, .val (.int p8), .val (.int (1 : Int32)), .val (.ref b7), .val (.int (1 : Int32)), .val (.long (own_maxL q6 q0)), .second, .val (.long (own_minL q6 q0)), .second] [])
    refine own_st (fun _ kt => XS.aload X17.here hx rfl (hb hby at_232) rfl rfl  kt) ?_
    show own_Rch p e below _ T17 (mkF m 234 #[.val (.long q0), .second, .val (.long q2), .second, .val (.long q4), .second, .val (.long q6), .second, .val (.int p8), .val (.int (1 : Int32)), .val (.ref b7), .val (.int (1 : Int32)), .val (.long (own_maxL q6 q0)), .second, .val (.long (own_minL q6 q0)), .second] [(.ref b7)])
    refine own_st (fun _ kt => XS.iconst X17.here hx rfl (hb hby at_234) kt) ?_
    show own_Rch p e below _ T17 (mkF m 235 #[.val (.long q0), .second, .val (.long q2), .second, .val (.long q4), .second, .val (.long q6), .second, .val (.int p8), .val (.int (1 : Int32)), .val (.ref b7), .val (.int (1 : Int32)), .val (.long (own_maxL q6 q0)), .second, .val (.long (own_minL q6 q0)), .second] [(.int (1 : Int32)), (.ref b7)])
    obtain ⟨cq18, kq18, q18a, q18b, q18c⟩ := isOf hZ hh17 Ea12
    obtain ⟨_, _, ⟨T18, L18, k18, n18⟩, -, X18, ⟨Lc18, hQ18, l18, y18, z18⟩, st18⟩ := X17.virtualBack hx (y := (⟨"com/example/respite/respite/cli/Latencies", "percentile", "(I)J"⟩ : MethodName)) (z := (⟨"com/example/respite/respite/cli/Latencies", "percentile", "(I)J"⟩ : MethodName)) hown (mvT hZ (hw _ (List.mem_of_getElem? (i := 21) rfl))) (mvT hZ (hw _ (List.mem_of_getElem? (i := 22) rfl))) (notFace_of_selects (args := #[]) (mvT hZ (hw _ (List.mem_of_getElem? (i := 24) rfl)))) (mvT hZ (hw _ (List.mem_of_getElem? (i := 24) rfl))) (mvT hZ (hw _ (List.mem_of_getElem? (i := 23) rfl))) (by decide) (backOf (W := 0) (own_pc_1_2_0 l Z a0 hw [] b7 ar8 ka8 u0_0 q6 (0 : Int64) (0 : Int64) T12.heap n0 O0_x12 Ea12 Fn12 Fc12 Fs12 Vb12 ge7 ge8_ar8 ne8_b7_ar8) hZ (hw _ (List.mem_of_getElem? (i := 25) rfl)) (hw _ (List.mem_of_getElem? (i := 2) rfl)) (by decide) (by decide)) q18a q18c (g := (mkF m 235 #[.val (.long q0), .second, .val (.long q2), .second, .val (.long q4), .second, .val (.long q6), .second, .val (.int p8), .val (.int (1 : Int32)), .val (.ref b7), .val (.int (1 : Int32)), .val (.long (own_maxL q6 q0)), .second, .val (.long (own_minL q6 q0)), .second] [(.int (1 : Int32)), (.ref b7)])) rfl (by rw [hml]; rfl) (Steps.refl _) (argsL := [(.int (1 : Int32))]) (rest := []) (lenOf own_pd8 rfl) rfl (by show 2 * 0 + _ ≤ _; exact Nat.le_of_eq rfl) (hb hby at_235) (fun _ _ => ⟨rfl, hh17, (by decide : 2 + 0 ≤ _), (by decide : 1027 + 0 ≤ _)⟩)
    dsimp only [Pt.U, Pt.locs, Pt.cells, Pt.slots] at X18 l18 y18 z18 st18 hQ18
    subst l18 y18 z18
    obtain ⟨u1_0, u1_1, hs1, rfl, N18q, K18, Ea18, Fn18, Fc18, Fs18, Vb18⟩ := hQ18
    have N18 := Fr.app N17 N18q
    refine own_st (fun _ kt => st18.trans kt) ?_
    have O0_x18 := O0_x12.keep K18 (allS ge7 (allS ge8_ar8 all0))
    have Ea12_x18 := Ea12.keep K18
    show own_Rch p e below _ T18 (mkF m 238 #[.val (.long q0), .second, .val (.long q2), .second, .val (.long q4), .second, .val (.long q6), .second, .val (.int p8), .val (.int (1 : Int32)), .val (.ref b7), .val (.int (1 : Int32)), .val (.long (own_maxL q6 q0)), .second, .val (.long (own_minL q6 q0)), .second] [(.long u1_0)])
    refine own_st (fun _ kt => XS.lload X18.here hx rfl (hb hby at_238) rfl  kt) ?_
    show own_Rch p e below _ T18 (mkF m 240 #[.val (.long q0), .second, .val (.long q2), .second, .val (.long q4), .second, .val (.long q6), .second, .val (.int p8), .val (.int (1 : Int32)), .val (.ref b7), .val (.int (1 : Int32)), .val (.long (own_maxL q6 q0)), .second, .val (.long (own_minL q6 q0)), .second] [(.long (own_minL q6 q0)), (.long u1_0)])
    refine own_st (fun _ kt => XS.lcmp X18.here hx rfl (hb hby at_240) rfl kt) ?_
    show own_Rch p e below _ T18 (mkF m 241 #[.val (.long q0), .second, .val (.long q2), .second, .val (.long q4), .second, .val (.long q6), .second, .val (.int p8), .val (.int (1 : Int32)), .val (.ref b7), .val (.int (1 : Int32)), .val (.long (own_maxL q6 q0)), .second, .val (.long (own_minL q6 q0)), .second] [(.int (lcmpW u1_0 (own_minL q6 q0)))])
    refine own_st (fun _ kt => XS.ifNo X18.here hx rfl (hb hby at_241) rfl ((if0 _ _).trans (teq (by rw [lw_eq, ← Int64.toInt_inj]; have he0 := own_ends1 hs0; have he1 := own_ends2 hs1; have hm0 := own_minL_b q6 q0; omega : (lcmpW u1_0 (own_minL q6 q0)) = (0 : Int32))).2) kt) ?_
    show own_Rch p e below _ T18 (mkF m 244 #[.val (.long q0), .second, .val (.long q2), .second, .val (.long q4), .second, .val (.long q6), .second, .val (.int p8), .val (.int (1 : Int32)), .val (.ref b7), .val (.int (1 : Int32)), .val (.long (own_maxL q6 q0)), .second, .val (.long (own_minL q6 q0)), .second] [])
    refine own_st (fun _ kt => XS.iconst X18.here hx rfl (hb hby at_244) kt) ?_
    show own_Rch p e below _ T18 (mkF m 245 #[.val (.long q0), .second, .val (.long q2), .second, .val (.long q4), .second, .val (.long q6), .second, .val (.int p8), .val (.int (1 : Int32)), .val (.ref b7), .val (.int (1 : Int32)), .val (.long (own_maxL q6 q0)), .second, .val (.long (own_minL q6 q0)), .second] [(.int (1 : Int32))])
    refine own_st (fun _ kt => XS.goto X18.here hx rfl (pc0 := 245) (pc' := 249) rfl (hb hby at_245) (by decide) (by decide) kt) ?_
    show own_Rch p e below _ T18 (mkF m 249 #[.val (.long q0), .second, .val (.long q2), .second, .val (.long q4), .second, .val (.long q6), .second, .val (.int p8), .val (.int (1 : Int32)), .val (.ref b7), .val (.int (1 : Int32)), .val (.long (own_maxL q6 q0)), .second, .val (.long (own_minL q6 q0)), .second] [(.int (1 : Int32))])
    refine own_st (fun _ kt => XS.istore X18.here hx rfl (hb hby at_249) rfl (l' := #[.val (.long q0), .second, .val (.long q2), .second, .val (.long q4), .second, .val (.long q6), .second, .val (.int p8), .val (.int (1 : Int32)), .val (.ref b7), .val (.int (1 : Int32)), .val (.long (own_maxL q6 q0)), .second, .val (.long (own_minL q6 q0)), .second]) rfl kt) ?_
    show own_Rch p e below _ T18 (mkF m 251 #[.val (.long q0), .second, .val (.long q2), .second, .val (.long q4), .second, .val (.long q6), .second, .val (.int p8), .val (.int (1 : Int32)), .val (.ref b7), .val (.int (1 : Int32)), .val (.long (own_maxL q6 q0)), .second, .val (.long (own_minL q6 q0)), .second] [])
    refine own_st (fun _ kt => XS.iload X18.here hx rfl (hb hby at_251) rfl  kt) ?_
    show own_Rch p e below _ T18 (mkF m 253 #[.val (.long q0), .second, .val (.long q2), .second, .val (.long q4), .second, .val (.long q6), .second, .val (.int p8), .val (.int (1 : Int32)), .val (.ref b7), .val (.int (1 : Int32)), .val (.long (own_maxL q6 q0)), .second, .val (.long (own_minL q6 q0)), .second] [(.int (1 : Int32))])
    refine own_st (fun _ kt => XS.ifNo X18.here hx rfl (hb hby at_253) rfl ((if0 _ _).trans (feq ((by decide) : ¬ ((1 : Int32) = (0 : Int32)))).1) kt) ?_
    show own_Rch p e below _ T18 (mkF m 256 #[.val (.long q0), .second, .val (.long q2), .second, .val (.long q4), .second, .val (.long q6), .second, .val (.int p8), .val (.int (1 : Int32)), .val (.ref b7), .val (.int (1 : Int32)), .val (.long (own_maxL q6 q0)), .second, .val (.long (own_minL q6 q0)), .second] [])
    refine own_st (fun _ kt => XS.aload X18.here hx rfl (hb hby at_256) rfl rfl  kt) ?_
    show own_Rch p e below _ T18 (mkF m 258 #[.val (.long q0), .second, .val (.long q2), .second, .val (.long q4), .second, .val (.long q6), .second, .val (.int p8), .val (.int (1 : Int32)), .val (.ref b7), .val (.int (1 : Int32)), .val (.long (own_maxL q6 q0)), .second, .val (.long (own_minL q6 q0)), .second] [(.ref b7)])
    refine own_st (fun _ kt => XS.bipush X18.here hx rfl (hb hby at_258) kt) ?_
    show own_Rch p e below _ T18 (mkF m 260 #[.val (.long q0), .second, .val (.long q2), .second, .val (.long q4), .second, .val (.long q6), .second, .val (.int p8), .val (.int (1 : Int32)), .val (.ref b7), .val (.int (1 : Int32)), .val (.long (own_maxL q6 q0)), .second, .val (.long (own_minL q6 q0)), .second] [(.int (100 : Int32)), (.ref b7)])
    obtain ⟨cq19, kq19, q19a, q19b, q19c⟩ := isOf hZ rfl Ea18
    obtain ⟨_, _, ⟨T19, L19, k19, n19⟩, -, X19, ⟨Lc19, hQ19, l19, y19, z19⟩, st19⟩ := X18.virtualBack hx (y := (⟨"com/example/respite/respite/cli/Latencies", "percentile", "(I)J"⟩ : MethodName)) (z := (⟨"com/example/respite/respite/cli/Latencies", "percentile", "(I)J"⟩ : MethodName)) hown (mvT hZ (hw _ (List.mem_of_getElem? (i := 21) rfl))) (mvT hZ (hw _ (List.mem_of_getElem? (i := 22) rfl))) (notFace_of_selects (args := #[]) (mvT hZ (hw _ (List.mem_of_getElem? (i := 24) rfl)))) (mvT hZ (hw _ (List.mem_of_getElem? (i := 24) rfl))) (mvT hZ (hw _ (List.mem_of_getElem? (i := 23) rfl))) (by decide) (backOf (W := 0) (own_pc_100_2_1 l Z a0 hw [] b7 ar8 ka8 u1_0 u1_1 (0 : Int64) (0 : Int64) T18.heap n0 O0_x18 Ea18 Fn18 Fc18 Fs18 Vb18 ge7 ge8_ar8 ne8_b7_ar8) hZ (hw _ (List.mem_of_getElem? (i := 25) rfl)) (hw _ (List.mem_of_getElem? (i := 2) rfl)) (by decide) (by decide)) q19a q19c (g := (mkF m 260 #[.val (.long q0), .second, .val (.long q2), .second, .val (.long q4), .second, .val (.long q6), .second, .val (.int p8), .val (.int (1 : Int32)), .val (.ref b7), .val (.int (1 : Int32)), .val (.long (own_maxL q6 q0)), .second, .val (.long (own_minL q6 q0)), .second] [(.int (100 : Int32)), (.ref b7)])) rfl (by rw [hml]; rfl) (Steps.refl _) (argsL := [(.int (100 : Int32))]) (rest := []) (lenOf own_pd8 rfl) rfl (by show 2 * 0 + _ ≤ _; exact Nat.le_of_eq rfl) (hb hby at_260) (fun _ _ => ⟨rfl, rfl, (by decide : 2 + 0 ≤ _), (by decide : 1027 + 0 ≤ _)⟩)
    dsimp only [Pt.U, Pt.locs, Pt.cells, Pt.slots] at X19 l19 y19 z19 st19 hQ19
    subst l19 y19 z19
    obtain ⟨rfl, N19q, hh19⟩ := hQ19
    have N19 := Fr.app N18 N19q
    refine own_st (fun _ kt => st19.trans kt) ?_
    show own_Rch p e below _ T19 (mkF m 263 #[.val (.long q0), .second, .val (.long q2), .second, .val (.long q4), .second, .val (.long q6), .second, .val (.int p8), .val (.int (1 : Int32)), .val (.ref b7), .val (.int (1 : Int32)), .val (.long (own_maxL q6 q0)), .second, .val (.long (own_minL q6 q0)), .second] [(.long u1_1)])
    refine own_st (fun _ kt => XS.lload X19.here hx rfl (hb hby at_263) rfl  kt) ?_
    show own_Rch p e below _ T19 (mkF m 265 #[.val (.long q0), .second, .val (.long q2), .second, .val (.long q4), .second, .val (.long q6), .second, .val (.int p8), .val (.int (1 : Int32)), .val (.ref b7), .val (.int (1 : Int32)), .val (.long (own_maxL q6 q0)), .second, .val (.long (own_minL q6 q0)), .second] [(.long (own_maxL q6 q0)), (.long u1_1)])
    refine own_st (fun _ kt => XS.lcmp X19.here hx rfl (hb hby at_265) rfl kt) ?_
    show own_Rch p e below _ T19 (mkF m 266 #[.val (.long q0), .second, .val (.long q2), .second, .val (.long q4), .second, .val (.long q6), .second, .val (.int p8), .val (.int (1 : Int32)), .val (.ref b7), .val (.int (1 : Int32)), .val (.long (own_maxL q6 q0)), .second, .val (.long (own_minL q6 q0)), .second] [(.int (lcmpW u1_1 (own_maxL q6 q0)))])
    refine own_st (fun _ kt => XS.ifNo X19.here hx rfl (hb hby at_266) rfl ((if0 _ _).trans (teq (by rw [lw_eq, ← Int64.toInt_inj]; have he0 := own_ends1 hs0; have he1 := own_ends2 hs1; have hm0 := own_maxL_b q6 q0; omega : (lcmpW u1_1 (own_maxL q6 q0)) = (0 : Int32))).2) kt) ?_
    show own_Rch p e below _ T19 (mkF m 269 #[.val (.long q0), .second, .val (.long q2), .second, .val (.long q4), .second, .val (.long q6), .second, .val (.int p8), .val (.int (1 : Int32)), .val (.ref b7), .val (.int (1 : Int32)), .val (.long (own_maxL q6 q0)), .second, .val (.long (own_minL q6 q0)), .second] [])
    refine own_st (fun _ kt => XS.iconst X19.here hx rfl (hb hby at_269) kt) ?_
    show own_Rch p e below _ T19 (mkF m 270 #[.val (.long q0), .second, .val (.long q2), .second, .val (.long q4), .second, .val (.long q6), .second, .val (.int p8), .val (.int (1 : Int32)), .val (.ref b7), .val (.int (1 : Int32)), .val (.long (own_maxL q6 q0)), .second, .val (.long (own_minL q6 q0)), .second] [(.int (1 : Int32))])
    refine own_st (fun _ kt => XS.goto X19.here hx rfl (pc0 := 270) (pc' := 274) rfl (hb hby at_270) (by decide) (by decide) kt) ?_
    show own_Rch p e below _ T19 (mkF m 274 #[.val (.long q0), .second, .val (.long q2), .second, .val (.long q4), .second, .val (.long q6), .second, .val (.int p8), .val (.int (1 : Int32)), .val (.ref b7), .val (.int (1 : Int32)), .val (.long (own_maxL q6 q0)), .second, .val (.long (own_minL q6 q0)), .second] [(.int (1 : Int32))])
    refine own_st (fun _ kt => XS.istore X19.here hx rfl (hb hby at_274) rfl (l' := #[.val (.long q0), .second, .val (.long q2), .second, .val (.long q4), .second, .val (.long q6), .second, .val (.int p8), .val (.int (1 : Int32)), .val (.ref b7), .val (.int (1 : Int32)), .val (.long (own_maxL q6 q0)), .second, .val (.long (own_minL q6 q0)), .second]) rfl kt) ?_
    show own_Rch p e below _ T19 (mkF m 276 #[.val (.long q0), .second, .val (.long q2), .second, .val (.long q4), .second, .val (.long q6), .second, .val (.int p8), .val (.int (1 : Int32)), .val (.ref b7), .val (.int (1 : Int32)), .val (.long (own_maxL q6 q0)), .second, .val (.long (own_minL q6 q0)), .second] [])
    refine own_st (fun _ kt => XS.iload X19.here hx rfl (hb hby at_276) rfl  kt) ?_
    show own_Rch p e below _ T19 (mkF m 278 #[.val (.long q0), .second, .val (.long q2), .second, .val (.long q4), .second, .val (.long q6), .second, .val (.int p8), .val (.int (1 : Int32)), .val (.ref b7), .val (.int (1 : Int32)), .val (.long (own_maxL q6 q0)), .second, .val (.long (own_minL q6 q0)), .second] [(.int (1 : Int32))])
    refine own_retN (t := .boolean) (by simp) X19 hx Bd.notSynchronized Bd.returns (hb hby at_278) (by decide) (by decide) ?_
    rw [hh19]
    exact ⟨rfl, N19⟩
  · rw [hm]
    show own_Rch p e below _ s₁ (mkF m 6 #[.val (.long q0), .second, .val (.long q2), .second, .val (.long q4), .second, .val (.long q6), .second, .val (.int p8), .val (.int (2 : Int32)), .unset, .unset, .unset, .unset, .unset, .unset] [])
    obtain ⟨T20, h20, X20, e20, E20, A20, D20, U20, st20⟩ := newO X0 hx hZ hown (hw _ (List.mem_of_getElem? (i := 0) rfl)) (hw _ (List.mem_of_getElem? (i := 1) rfl)) (hw _ (List.mem_of_getElem? (i := 2) rfl)) e0 (g := (mkF m 6 #[.val (.long q0), .second, .val (.long q2), .second, .val (.long q4), .second, .val (.long q6), .second, .val (.int p8), .val (.int (2 : Int32)), .unset, .unset, .unset, .unset, .unset, .unset] [])) rfl (hb hby at_6) (by decide) (by decide)
    obtain ⟨b20, g20⟩ : ∃ z, z = h0.size := ⟨_, rfl⟩
    rw [← g20] at A20 D20 U20 st20
    have ge20 : n0 ≤ b20 := by rw [g20]; exact own_old_le O0
    have O0_x20 := O0.ext E20
    refine own_st st20 ?_
    have F20_nanos : Fld Z h20 b20 "com/example/respite/respite/cli/Latencies" "nanos" "[J" .null := D20 (Or.inl (hw _ (List.mem_of_getElem? (i := 11) rfl))) (ty := (.array .long)) (by decide)
    have F20_sorted : Fld Z h20 b20 "com/example/respite/respite/cli/Latencies" "sorted" "Z" (.int (0 : Int32)) := D20 (Or.inl (hw _ (List.mem_of_getElem? (i := 13) rfl))) (ty := .boolean) (by decide)
    have F20_count : Fld Z h20 b20 "com/example/respite/respite/cli/Latencies" "count" "I" (.int (0 : Int32)) := D20 (Or.inl (hw _ (List.mem_of_getElem? (i := 20) rfl))) (ty := .int) (by decide)
    show own_Rch p e below _ T20 (mkF m 9 #[.val (.long q0), .second, .val (.long q2), .second, .val (.long q4), .second, .val (.long q6), .second, .val (.int p8), .val (.int (2 : Int32)), .unset, .unset, .unset, .unset, .unset, .unset] [(.ref b20)])
    refine own_st (fun _ kt => XS.dup X20.here hx rfl (hb hby at_9) rfl rfl kt) ?_
    show own_Rch p e below _ T20 (mkF m 10 #[.val (.long q0), .second, .val (.long q2), .second, .val (.long q4), .second, .val (.long q6), .second, .val (.int p8), .val (.int (2 : Int32)), .unset, .unset, .unset, .unset, .unset, .unset] [(.ref b20), (.ref b20)])
    obtain ⟨_, _, ⟨T21, L21, k21, n21⟩, -, X21, ⟨Lc21, hQ21, l21, y21, z21⟩, st21⟩ := X20.specialBack hx (y := (⟨"com/example/respite/respite/cli/Latencies", "<init>", "()V"⟩ : MethodName)) rfl hown (mvT hZ (hw _ (List.mem_of_getElem? (i := 3) rfl))) (mvT hZ (hw _ (List.mem_of_getElem? (i := 4) rfl))) (mvT hZ (hw _ (List.mem_of_getElem? (i := 5) rfl))) (by decide) (backOf (W := 1) (own_init l Z a0 hw [] b20 h20 n0 O0_x20 A20 F20_nanos F20_count F20_sorted ge20) hZ (hw _ (List.mem_of_getElem? (i := 5) rfl)) (hw _ (List.mem_of_getElem? (i := 2) rfl)) (by decide) (by decide)) (g := (mkF m 10 #[.val (.long q0), .second, .val (.long q2), .second, .val (.long q4), .second, .val (.long q6), .second, .val (.int p8), .val (.int (2 : Int32)), .unset, .unset, .unset, .unset, .unset, .unset] [(.ref b20), (.ref b20)])) rfl (by rw [hml]; rfl) (Steps.refl _) (a := b20) (argsL := []) (rest := [(.ref b20)]) (lenOf own_pd5 rfl) rfl (by show 2 * 0 + _ ≤ _; exact Nat.le_of_eq rfl) (hb hby at_10) (fun _ _ => ⟨rfl, e20, (by decide : 1 + 1 ≤ _), (by decide : 3 + 1024 ≤ _)⟩)
    dsimp only [Pt.U, Pt.locs, Pt.cells, Pt.slots] at X21 l21 y21 z21 st21 hQ21
    subst l21 y21 z21
    obtain ⟨ar21, ka21, rfl, N21q, K21, hb21, Ea21, Fn21, Fc21, Fs21, Vb21⟩ := hQ21
    have N21 := Fr.app N0 N21q
    refine own_st (fun _ kt => st21.trans kt) ?_
    have ne21_b20_ar21 : b20 ≠ ar21 := Nat.ne_of_lt (Nat.lt_of_lt_of_le F20_nanos.lt hb21)
    have ge21_ar21 : n0 ≤ ar21 := Nat.le_trans (own_old_le O0_x20) hb21
    have O0_x21 := O0_x20.keep K21 (allS ge20 all0)
    have A20_x21 := A20.keep K21
    show own_Rch p e below _ T21 (mkF m 13 #[.val (.long q0), .second, .val (.long q2), .second, .val (.long q4), .second, .val (.long q6), .second, .val (.int p8), .val (.int (2 : Int32)), .unset, .unset, .unset, .unset, .unset, .unset] [(.ref b20)])
    refine own_st (fun _ kt => XS.astore X21.here hx rfl (hb hby at_13) rfl rfl (l' := #[.val (.long q0), .second, .val (.long q2), .second, .val (.long q4), .second, .val (.long q6), .second, .val (.int p8), .val (.int (2 : Int32)), .val (.ref b20), .unset, .unset, .unset, .unset, .unset]) rfl kt) ?_
    show own_Rch p e below _ T21 (mkF m 15 #[.val (.long q0), .second, .val (.long q2), .second, .val (.long q4), .second, .val (.long q6), .second, .val (.int p8), .val (.int (2 : Int32)), .val (.ref b20), .unset, .unset, .unset, .unset, .unset] [])
    refine own_st (fun _ kt => XS.iload X21.here hx rfl (hb hby at_15) rfl  kt) ?_
    show own_Rch p e below _ T21 (mkF m 17 #[.val (.long q0), .second, .val (.long q2), .second, .val (.long q4), .second, .val (.long q6), .second, .val (.int p8), .val (.int (2 : Int32)), .val (.ref b20), .unset, .unset, .unset, .unset, .unset] [(.int (2 : Int32))])
    refine own_st (fun _ kt => XS.iconst X21.here hx rfl (hb hby at_17) kt) ?_
    show own_Rch p e below _ T21 (mkF m 18 #[.val (.long q0), .second, .val (.long q2), .second, .val (.long q4), .second, .val (.long q6), .second, .val (.int p8), .val (.int (2 : Int32)), .val (.ref b20), .unset, .unset, .unset, .unset, .unset] [(.int (1 : Int32)), (.int (2 : Int32))])
    refine own_st (fun _ kt => XS.icmpNo X21.here hx rfl (hb hby at_18) rfl (flt ((by decide) : ¬ ((2 : Int32) < (1 : Int32)))).1 kt) ?_
    show own_Rch p e below _ T21 (mkF m 21 #[.val (.long q0), .second, .val (.long q2), .second, .val (.long q4), .second, .val (.long q6), .second, .val (.int p8), .val (.int (2 : Int32)), .val (.ref b20), .unset, .unset, .unset, .unset, .unset] [])
    refine own_st (fun _ kt => XS.aload X21.here hx rfl (hb hby at_21) rfl rfl  kt) ?_
    show own_Rch p e below _ T21 (mkF m 23 #[.val (.long q0), .second, .val (.long q2), .second, .val (.long q4), .second, .val (.long q6), .second, .val (.int p8), .val (.int (2 : Int32)), .val (.ref b20), .unset, .unset, .unset, .unset, .unset] [(.ref b20)])
    refine own_st (fun _ kt => XS.lloadN X21.here hx rfl (hb hby at_23) rfl  kt) ?_
    show own_Rch p e below _ T21 (mkF m 24 #[.val (.long q0), .second, .val (.long q2), .second, .val (.long q4), .second, .val (.long q6), .second, .val (.int p8), .val (.int (2 : Int32)), .val (.ref b20), .unset, .unset, .unset, .unset, .unset] [(.long q0), (.ref b20)])
    obtain ⟨cq22, kq22, q22a, q22b, q22c⟩ := isOf hZ rfl Ea21
    obtain ⟨_, _, ⟨T22, L22, k22, n22⟩, -, X22, ⟨Lc22, hQ22, l22, y22, z22⟩, st22⟩ := X21.virtualBack hx (y := (⟨"com/example/respite/respite/cli/Latencies", "add", "(J)V"⟩ : MethodName)) (z := (⟨"com/example/respite/respite/cli/Latencies", "add", "(J)V"⟩ : MethodName)) hown (mvT hZ (hw _ (List.mem_of_getElem? (i := 14) rfl))) (mvT hZ (hw _ (List.mem_of_getElem? (i := 15) rfl))) (notFace_of_selects (args := #[]) (mvT hZ (hw _ (List.mem_of_getElem? (i := 17) rfl)))) (mvT hZ (hw _ (List.mem_of_getElem? (i := 17) rfl))) (mvT hZ (hw _ (List.mem_of_getElem? (i := 16) rfl))) (by decide) (backOf (W := 0) (own_add0 l Z a0 hw [] b20 ar21 ka21 q0 (0 : Int64) (0 : Int64) (0 : Int64) (0 : Int64) (1 : Int32) T21.heap n0 O0_x21 Ea21 Fn21 Fc21 Fs21 Vb21 ge20 ge21_ar21 ne21_b20_ar21) hZ (hw _ (List.mem_of_getElem? (i := 18) rfl)) (hw _ (List.mem_of_getElem? (i := 2) rfl)) (by decide) (by decide)) q22a q22c (g := (mkF m 24 #[.val (.long q0), .second, .val (.long q2), .second, .val (.long q4), .second, .val (.long q6), .second, .val (.int p8), .val (.int (2 : Int32)), .val (.ref b20), .unset, .unset, .unset, .unset, .unset] [(.long q0), (.ref b20)])) rfl (by rw [hml]; rfl) (Steps.refl _) (argsL := [(.long q0)]) (rest := []) (lenOf own_pd6 rfl) rfl (by show 2 * 0 + _ ≤ _; exact Nat.le_of_eq rfl) (hb hby at_24) (fun _ _ => ⟨rfl, rfl, (by decide : 2 + 0 ≤ _), (by decide : 1027 + 0 ≤ _)⟩)
    dsimp only [Pt.U, Pt.locs, Pt.cells, Pt.slots] at X22 l22 y22 z22 st22 hQ22
    subst l22 y22 z22
    obtain ⟨rfl, N22q, K22, Ea22, Fn22, Fc22, Fs22, Vb22⟩ := hQ22
    have N22 := Fr.app N21 N22q
    refine own_st (fun _ kt => st22.trans kt) ?_
    have O0_x22 := O0_x21.keep K22 (allS ge20 (allS ge21_ar21 all0))
    have Ea21_x22 := Ea21.keep K22
    show own_Rch p e below _ T22 (mkF m 27 #[.val (.long q0), .second, .val (.long q2), .second, .val (.long q4), .second, .val (.long q6), .second, .val (.int p8), .val (.int (2 : Int32)), .val (.ref b20), .unset, .unset, .unset, .unset, .unset] [])
    refine own_st (fun _ kt => XS.iload X22.here hx rfl (hb hby at_27) rfl  kt) ?_
    show own_Rch p e below _ T22 (mkF m 29 #[.val (.long q0), .second, .val (.long q2), .second, .val (.long q4), .second, .val (.long q6), .second, .val (.int p8), .val (.int (2 : Int32)), .val (.ref b20), .unset, .unset, .unset, .unset, .unset] [(.int (2 : Int32))])
    refine own_st (fun _ kt => XS.iconst X22.here hx rfl (hb hby at_29) kt) ?_
    show own_Rch p e below _ T22 (mkF m 30 #[.val (.long q0), .second, .val (.long q2), .second, .val (.long q4), .second, .val (.long q6), .second, .val (.int p8), .val (.int (2 : Int32)), .val (.ref b20), .unset, .unset, .unset, .unset, .unset] [(.int (2 : Int32)), (.int (2 : Int32))])
    refine own_st (fun _ kt => XS.icmpNo X22.here hx rfl (hb hby at_30) rfl (flt ((by decide) : ¬ ((2 : Int32) < (2 : Int32)))).1 kt) ?_
    show own_Rch p e below _ T22 (mkF m 33 #[.val (.long q0), .second, .val (.long q2), .second, .val (.long q4), .second, .val (.long q6), .second, .val (.int p8), .val (.int (2 : Int32)), .val (.ref b20), .unset, .unset, .unset, .unset, .unset] [])
    refine own_st (fun _ kt => XS.aload X22.here hx rfl (hb hby at_33) rfl rfl  kt) ?_
    show own_Rch p e below _ T22 (mkF m 35 #[.val (.long q0), .second, .val (.long q2), .second, .val (.long q4), .second, .val (.long q6), .second, .val (.int p8), .val (.int (2 : Int32)), .val (.ref b20), .unset, .unset, .unset, .unset, .unset] [(.ref b20)])
    refine own_st (fun _ kt => XS.lloadN X22.here hx rfl (hb hby at_35) rfl  kt) ?_
    show own_Rch p e below _ T22 (mkF m 36 #[.val (.long q0), .second, .val (.long q2), .second, .val (.long q4), .second, .val (.long q6), .second, .val (.int p8), .val (.int (2 : Int32)), .val (.ref b20), .unset, .unset, .unset, .unset, .unset] [(.long q2), (.ref b20)])
    obtain ⟨cq23, kq23, q23a, q23b, q23c⟩ := isOf hZ rfl Ea22
    obtain ⟨_, _, ⟨T23, L23, k23, n23⟩, -, X23, ⟨Lc23, hQ23, l23, y23, z23⟩, st23⟩ := X22.virtualBack hx (y := (⟨"com/example/respite/respite/cli/Latencies", "add", "(J)V"⟩ : MethodName)) (z := (⟨"com/example/respite/respite/cli/Latencies", "add", "(J)V"⟩ : MethodName)) hown (mvT hZ (hw _ (List.mem_of_getElem? (i := 14) rfl))) (mvT hZ (hw _ (List.mem_of_getElem? (i := 15) rfl))) (notFace_of_selects (args := #[]) (mvT hZ (hw _ (List.mem_of_getElem? (i := 17) rfl)))) (mvT hZ (hw _ (List.mem_of_getElem? (i := 17) rfl))) (mvT hZ (hw _ (List.mem_of_getElem? (i := 16) rfl))) (by decide) (backOf (W := 0) (own_add1 l Z a0 hw [] b20 ar21 ka21 q2 q0 (0 : Int64) (0 : Int64) (0 : Int64) (0 : Int32) T22.heap n0 O0_x22 Ea22 Fn22 Fc22 Fs22 Vb22 ge20 ge21_ar21 ne21_b20_ar21) hZ (hw _ (List.mem_of_getElem? (i := 18) rfl)) (hw _ (List.mem_of_getElem? (i := 2) rfl)) (by decide) (by decide)) q23a q23c (g := (mkF m 36 #[.val (.long q0), .second, .val (.long q2), .second, .val (.long q4), .second, .val (.long q6), .second, .val (.int p8), .val (.int (2 : Int32)), .val (.ref b20), .unset, .unset, .unset, .unset, .unset] [(.long q2), (.ref b20)])) rfl (by rw [hml]; rfl) (Steps.refl _) (argsL := [(.long q2)]) (rest := []) (lenOf own_pd6 rfl) rfl (by show 2 * 0 + _ ≤ _; exact Nat.le_of_eq rfl) (hb hby at_36) (fun _ _ => ⟨rfl, rfl, (by decide : 2 + 0 ≤ _), (by decide : 1027 + 0 ≤ _)⟩)
    dsimp only [Pt.U, Pt.locs, Pt.cells, Pt.slots] at X23 l23 y23 z23 st23 hQ23
    subst l23 y23 z23
    obtain ⟨rfl, N23q, K23, Ea23, Fn23, Fc23, Fs23, Vb23⟩ := hQ23
    have N23 := Fr.app N22 N23q
    refine own_st (fun _ kt => st23.trans kt) ?_
    have O0_x23 := O0_x22.keep K23 (allS ge20 (allS ge21_ar21 all0))
    have Ea22_x23 := Ea22.keep K23
    show own_Rch p e below _ T23 (mkF m 39 #[.val (.long q0), .second, .val (.long q2), .second, .val (.long q4), .second, .val (.long q6), .second, .val (.int p8), .val (.int (2 : Int32)), .val (.ref b20), .unset, .unset, .unset, .unset, .unset] [])
    refine own_st (fun _ kt => XS.iload X23.here hx rfl (hb hby at_39) rfl  kt) ?_
    show own_Rch p e below _ T23 (mkF m 41 #[.val (.long q0), .second, .val (.long q2), .second, .val (.long q4), .second, .val (.long q6), .second, .val (.int p8), .val (.int (2 : Int32)), .val (.ref b20), .unset, .unset, .unset, .unset, .unset] [(.int (2 : Int32))])
    refine own_st (fun _ kt => XS.iconst X23.here hx rfl (hb hby at_41) kt) ?_
    show own_Rch p e below _ T23 (mkF m 42 #[.val (.long q0), .second, .val (.long q2), .second, .val (.long q4), .second, .val (.long q6), .second, .val (.int p8), .val (.int (2 : Int32)), .val (.ref b20), .unset, .unset, .unset, .unset, .unset] [(.int (3 : Int32)), (.int (2 : Int32))])
    refine own_st (fun _ kt => XS.icmpYes X23.here hx rfl (pc0 := 42) (pc' := 52) rfl (hb hby at_42) rfl (tlt ((by decide) : (2 : Int32) < (3 : Int32))).1 (by decide) (by decide) kt) ?_
    show own_Rch p e below _ T23 (mkF m 52 #[.val (.long q0), .second, .val (.long q2), .second, .val (.long q4), .second, .val (.long q6), .second, .val (.int p8), .val (.int (2 : Int32)), .val (.ref b20), .unset, .unset, .unset, .unset, .unset] [])
    refine own_st (fun _ kt => XS.iconst X23.here hx rfl (hb hby at_52) kt) ?_
    show own_Rch p e below _ T23 (mkF m 53 #[.val (.long q0), .second, .val (.long q2), .second, .val (.long q4), .second, .val (.long q6), .second, .val (.int p8), .val (.int (2 : Int32)), .val (.ref b20), .unset, .unset, .unset, .unset, .unset] [(.int (1 : Int32))])
    refine own_st (fun _ kt => XS.istore X23.here hx rfl (hb hby at_53) rfl (l' := #[.val (.long q0), .second, .val (.long q2), .second, .val (.long q4), .second, .val (.long q6), .second, .val (.int p8), .val (.int (2 : Int32)), .val (.ref b20), .val (.int (1 : Int32)), .unset, .unset, .unset, .unset]) rfl kt) ?_
    show own_Rch p e below _ T23 (mkF m 55 #[.val (.long q0), .second, .val (.long q2), .second, .val (.long q4), .second, .val (.long q6), .second, .val (.int p8), .val (.int (2 : Int32)), .val (.ref b20), .val (.int (1 : Int32)), .unset, .unset, .unset, .unset] [])
    refine own_st (fun _ kt => XS.iload X23.here hx rfl (hb hby at_55) rfl  kt) ?_
    show own_Rch p e below _ T23 (mkF m 57 #[.val (.long q0), .second, .val (.long q2), .second, .val (.long q4), .second, .val (.long q6), .second, .val (.int p8), .val (.int (2 : Int32)), .val (.ref b20), .val (.int (1 : Int32)), .unset, .unset, .unset, .unset] [(.int (2 : Int32))])
    refine own_st (fun _ kt => XS.iconst X23.here hx rfl (hb hby at_57) kt) ?_
    show own_Rch p e below _ T23 (mkF m 58 #[.val (.long q0), .second, .val (.long q2), .second, .val (.long q4), .second, .val (.long q6), .second, .val (.int p8), .val (.int (2 : Int32)), .val (.ref b20), .val (.int (1 : Int32)), .unset, .unset, .unset, .unset] [(.int (1 : Int32)), (.int (2 : Int32))])
    refine own_st (fun _ kt => XS.icmpNo X23.here hx rfl (hb hby at_58) rfl (flt ((by decide) : ¬ ((2 : Int32) < (1 : Int32)))).1 kt) ?_
    show own_Rch p e below _ T23 (mkF m 61 #[.val (.long q0), .second, .val (.long q2), .second, .val (.long q4), .second, .val (.long q6), .second, .val (.int p8), .val (.int (2 : Int32)), .val (.ref b20), .val (.int (1 : Int32)), .unset, .unset, .unset, .unset] [])
    refine own_st (fun _ kt => XS.iload X23.here hx rfl (hb hby at_61) rfl  kt) ?_
    show own_Rch p e below _ T23 (mkF m 63 #[.val (.long q0), .second, .val (.long q2), .second, .val (.long q4), .second, .val (.long q6), .second, .val (.int p8), .val (.int (2 : Int32)), .val (.ref b20), .val (.int (1 : Int32)), .unset, .unset, .unset, .unset] [(.int (1 : Int32))])
    refine own_st (fun _ kt => XS.ifNo X23.here hx rfl (hb hby at_63) rfl ((if0 _ _).trans (feq ((by decide) : ¬ ((1 : Int32) = (0 : Int32)))).1) kt) ?_
    show own_Rch p e below _ T23 (mkF m 66 #[.val (.long q0), .second, .val (.long q2), .second, .val (.long q4), .second, .val (.long q6), .second, .val (.int p8), .val (.int (2 : Int32)), .val (.ref b20), .val (.int (1 : Int32)), .unset, .unset, .unset, .unset] [])
    refine own_st (fun _ kt => XS.aload X23.here hx rfl (hb hby at_66) rfl rfl  kt) ?_
    show own_Rch p e below _ T23 (mkF m 68 #[.val (.long q0), .second, .val (.long q2), .second, .val (.long q4), .second, .val (.long q6), .second, .val (.int p8), .val (.int (2 : Int32)), .val (.ref b20), .val (.int (1 : Int32)), .unset, .unset, .unset, .unset] [(.ref b20)])
    refine own_st (fun _ kt => XS.bipush X23.here hx rfl (hb hby at_68) kt) ?_
    show own_Rch p e below _ T23 (mkF m 70 #[.val (.long q0), .second, .val (.long q2), .second, .val (.long q4), .second, .val (.long q6), .second, .val (.int p8), .val (.int (2 : Int32)), .val (.ref b20), .val (.int (1 : Int32)), .unset, .unset, .unset, .unset] [(.int (100 : Int32)), (.ref b20)])
    obtain ⟨cq24, kq24, q24a, q24b, q24c⟩ := isOf hZ rfl Ea23
    obtain ⟨_, _, ⟨T24, L24, k24, n24⟩, -, X24, ⟨Lc24, hQ24, l24, y24, z24⟩, st24⟩ := X23.virtualBack hx (y := (⟨"com/example/respite/respite/cli/Latencies", "percentile", "(I)J"⟩ : MethodName)) (z := (⟨"com/example/respite/respite/cli/Latencies", "percentile", "(I)J"⟩ : MethodName)) hown (mvT hZ (hw _ (List.mem_of_getElem? (i := 21) rfl))) (mvT hZ (hw _ (List.mem_of_getElem? (i := 22) rfl))) (notFace_of_selects (args := #[]) (mvT hZ (hw _ (List.mem_of_getElem? (i := 24) rfl)))) (mvT hZ (hw _ (List.mem_of_getElem? (i := 24) rfl))) (mvT hZ (hw _ (List.mem_of_getElem? (i := 23) rfl))) (by decide) (backOf (W := 0) (own_pc_100_2_0 l Z a0 hw [] b20 ar21 ka21 q0 q2 (0 : Int64) (0 : Int64) T23.heap n0 O0_x23 Ea23 Fn23 Fc23 Fs23 Vb23 ge20 ge21_ar21 ne21_b20_ar21) hZ (hw _ (List.mem_of_getElem? (i := 25) rfl)) (hw _ (List.mem_of_getElem? (i := 2) rfl)) (by decide) (by decide)) q24a q24c (g := (mkF m 70 #[.val (.long q0), .second, .val (.long q2), .second, .val (.long q4), .second, .val (.long q6), .second, .val (.int p8), .val (.int (2 : Int32)), .val (.ref b20), .val (.int (1 : Int32)), .unset, .unset, .unset, .unset] [(.int (100 : Int32)), (.ref b20)])) rfl (by rw [hml]; rfl) (Steps.refl _) (argsL := [(.int (100 : Int32))]) (rest := []) (lenOf own_pd8 rfl) rfl (by show 2 * 0 + _ ≤ _; exact Nat.le_of_eq rfl) (hb hby at_70) (fun _ _ => ⟨rfl, rfl, (by decide : 2 + 0 ≤ _), (by decide : 1027 + 0 ≤ _)⟩)
    dsimp only [Pt.U, Pt.locs, Pt.cells, Pt.slots] at X24 l24 y24 z24 st24 hQ24
    subst l24 y24 z24
    obtain ⟨u0_0, u0_1, hs0, rfl, N24q, K24, Ea24, Fn24, Fc24, Fs24, Vb24⟩ := hQ24
    have N24 := Fr.app N23 N24q
    refine own_st (fun _ kt => st24.trans kt) ?_
    have O0_x24 := O0_x23.keep K24 (allS ge20 (allS ge21_ar21 all0))
    have Ea23_x24 := Ea23.keep K24
    show own_Rch p e below _ T24 (mkF m 73 #[.val (.long q0), .second, .val (.long q2), .second, .val (.long q4), .second, .val (.long q6), .second, .val (.int p8), .val (.int (2 : Int32)), .val (.ref b20), .val (.int (1 : Int32)), .unset, .unset, .unset, .unset] [(.long u0_1)])
    refine own_st (fun _ kt => XS.lloadN X24.here hx rfl (hb hby at_73) rfl  kt) ?_
    show own_Rch p e below _ T24 (mkF m 74 #[.val (.long q0), .second, .val (.long q2), .second, .val (.long q4), .second, .val (.long q6), .second, .val (.int p8), .val (.int (2 : Int32)), .val (.ref b20), .val (.int (1 : Int32)), .unset, .unset, .unset, .unset] [(.long q0), (.long u0_1)])
    refine own_st (fun _ kt => XS.lloadN X24.here hx rfl (hb hby at_74) rfl  kt) ?_
    show own_Rch p e below _ T24 (mkF m 75 #[.val (.long q0), .second, .val (.long q2), .second, .val (.long q4), .second, .val (.long q6), .second, .val (.int p8), .val (.int (2 : Int32)), .val (.ref b20), .val (.int (1 : Int32)), .unset, .unset, .unset, .unset] [(.long q2), (.long q0), (.long u0_1)])
    refine own_st (fun _ kt => XS.lload X24.here hx rfl (hb hby at_75) rfl  kt) ?_
    show own_Rch p e below _ T24 (mkF m 77 #[.val (.long q0), .second, .val (.long q2), .second, .val (.long q4), .second, .val (.long q6), .second, .val (.int p8), .val (.int (2 : Int32)), .val (.ref b20), .val (.int (1 : Int32)), .unset, .unset, .unset, .unset] [(.long q4), (.long q2), (.long q0), (.long u0_1)])
    refine own_st (fun _ kt => XS.iload X24.here hx rfl (hb hby at_77) rfl  kt) ?_
    show own_Rch p e below _ T24 (mkF m 79 #[.val (.long q0), .second, .val (.long q2), .second, .val (.long q4), .second, .val (.long q6), .second, .val (.int p8), .val (.int (2 : Int32)), .val (.ref b20), .val (.int (1 : Int32)), .unset, .unset, .unset, .unset] [(.int (2 : Int32)), (.long q4), (.long q2), (.long q0), (.long u0_1)])
    obtain ⟨_, _, ⟨T25, L25, k25, n25⟩, -, X25, ⟨Lc25, hQ25, l25, y25, z25⟩, st25⟩ := Jvm.LawKit.callS X24 hx (y := (⟨"com/example/respite/respite/cli/LatenciesAddPinLaw", "maxOf", "(JJJI)J"⟩ : MethodName)) hown (mvT hZ (hw _ (List.mem_of_getElem? (i := 53) rfl))) (mvT hZ (hw _ (List.mem_of_getElem? (i := 54) rfl))) (mvT hZ (hw _ (List.mem_of_getElem? (i := 55) rfl))) (mvT hZ (hw _ (List.mem_of_getElem? (i := 56) rfl))) (by decide) (backOf (W := 2) (own_maxof2 l Z a0 hw [] q0 q2 q4 T24.heap n0 O0_x24 ) hZ (hw _ (List.mem_of_getElem? (i := 56) rfl)) (hw _ (List.mem_of_getElem? (i := 55) rfl)) (by decide) (by decide)) (g := (mkF m 79 #[.val (.long q0), .second, .val (.long q2), .second, .val (.long q4), .second, .val (.long q6), .second, .val (.int p8), .val (.int (2 : Int32)), .val (.ref b20), .val (.int (1 : Int32)), .unset, .unset, .unset, .unset] [(.int (2 : Int32)), (.long q4), (.long q2), (.long q0), (.long u0_1)])) rfl (by rw [hml]; rfl) (argsL := [(.long q0), (.long q2), (.long q4), (.int (2 : Int32))]) (rest := [(.long u0_1)]) (lenOf own_pd9 rfl) rfl (by show 2 * 0 + _ ≤ _; exact Nat.le_of_eq rfl) (hb hby at_79) (fun _ _ => ⟨rfl, rfl, (by decide : 2 + 0 ≤ _), (by decide : 1027 + 0 ≤ _)⟩)
    dsimp only [Pt.U, Pt.locs, Pt.cells, Pt.slots] at X25 l25 y25 z25 st25 hQ25
    subst l25 y25 z25
    obtain ⟨rfl, N25q, hh25⟩ := hQ25
    have N25 := Fr.app N24 N25q
    refine own_st st25 ?_
    show own_Rch p e below _ T25 (mkF m 82 #[.val (.long q0), .second, .val (.long q2), .second, .val (.long q4), .second, .val (.long q6), .second, .val (.int p8), .val (.int (2 : Int32)), .val (.ref b20), .val (.int (1 : Int32)), .unset, .unset, .unset, .unset] [(.long (own_maxL q0 q2)), (.long u0_1)])
    refine own_st (fun _ kt => XS.lcmp X25.here hx rfl (hb hby at_82) rfl kt) ?_
    show own_Rch p e below _ T25 (mkF m 83 #[.val (.long q0), .second, .val (.long q2), .second, .val (.long q4), .second, .val (.long q6), .second, .val (.int p8), .val (.int (2 : Int32)), .val (.ref b20), .val (.int (1 : Int32)), .unset, .unset, .unset, .unset] [(.int (lcmpW u0_1 (own_maxL q0 q2)))])
    refine own_st (fun _ kt => XS.ifNo X25.here hx rfl (hb hby at_83) rfl ((if0 _ _).trans (teq (by rw [lw_eq, ← Int64.toInt_inj]; have he0 := own_ends2 hs0; have hm0 := own_maxL_b q0 q2; omega : (lcmpW u0_1 (own_maxL q0 q2)) = (0 : Int32))).2) kt) ?_
    show own_Rch p e below _ T25 (mkF m 86 #[.val (.long q0), .second, .val (.long q2), .second, .val (.long q4), .second, .val (.long q6), .second, .val (.int p8), .val (.int (2 : Int32)), .val (.ref b20), .val (.int (1 : Int32)), .unset, .unset, .unset, .unset] [])
    refine own_st (fun _ kt => XS.iconst X25.here hx rfl (hb hby at_86) kt) ?_
    show own_Rch p e below _ T25 (mkF m 87 #[.val (.long q0), .second, .val (.long q2), .second, .val (.long q4), .second, .val (.long q6), .second, .val (.int p8), .val (.int (2 : Int32)), .val (.ref b20), .val (.int (1 : Int32)), .unset, .unset, .unset, .unset] [(.int (1 : Int32))])
    refine own_st (fun _ kt => XS.goto X25.here hx rfl (pc0 := 87) (pc' := 91) rfl (hb hby at_87) (by decide) (by decide) kt) ?_
    show own_Rch p e below _ T25 (mkF m 91 #[.val (.long q0), .second, .val (.long q2), .second, .val (.long q4), .second, .val (.long q6), .second, .val (.int p8), .val (.int (2 : Int32)), .val (.ref b20), .val (.int (1 : Int32)), .unset, .unset, .unset, .unset] [(.int (1 : Int32))])
    refine own_st (fun _ kt => XS.istore X25.here hx rfl (hb hby at_91) rfl (l' := #[.val (.long q0), .second, .val (.long q2), .second, .val (.long q4), .second, .val (.long q6), .second, .val (.int p8), .val (.int (2 : Int32)), .val (.ref b20), .val (.int (1 : Int32)), .unset, .unset, .unset, .unset]) rfl kt) ?_
    show own_Rch p e below _ T25 (mkF m 93 #[.val (.long q0), .second, .val (.long q2), .second, .val (.long q4), .second, .val (.long q6), .second, .val (.int p8), .val (.int (2 : Int32)), .val (.ref b20), .val (.int (1 : Int32)), .unset, .unset, .unset, .unset] [])
    refine own_st (fun _ kt => XS.iload X25.here hx rfl (hb hby at_93) rfl  kt) ?_
    show own_Rch p e below _ T25 (mkF m 95 #[.val (.long q0), .second, .val (.long q2), .second, .val (.long q4), .second, .val (.long q6), .second, .val (.int p8), .val (.int (2 : Int32)), .val (.ref b20), .val (.int (1 : Int32)), .unset, .unset, .unset, .unset] [(.int (2 : Int32))])
    refine own_st (fun _ kt => XS.iconst X25.here hx rfl (hb hby at_95) kt) ?_
    show own_Rch p e below _ T25 (mkF m 96 #[.val (.long q0), .second, .val (.long q2), .second, .val (.long q4), .second, .val (.long q6), .second, .val (.int p8), .val (.int (2 : Int32)), .val (.ref b20), .val (.int (1 : Int32)), .unset, .unset, .unset, .unset] [(.int (3 : Int32)), (.int (2 : Int32))])
    refine own_st (fun _ kt => XS.icmpYes X25.here hx rfl (pc0 := 96) (pc' := 144) rfl (hb hby at_96) rfl (feq ((by decide) : ¬ ((2 : Int32) = (3 : Int32)))).2 (by decide) (by decide) kt) ?_
    show own_Rch p e below _ T25 (mkF m 144 #[.val (.long q0), .second, .val (.long q2), .second, .val (.long q4), .second, .val (.long q6), .second, .val (.int p8), .val (.int (2 : Int32)), .val (.ref b20), .val (.int (1 : Int32)), .unset, .unset, .unset, .unset] [])
    refine own_st (fun _ kt => XS.aload X25.here hx rfl (hb hby at_144) rfl rfl  kt) ?_
    show own_Rch p e below _ T25 (mkF m 146 #[.val (.long q0), .second, .val (.long q2), .second, .val (.long q4), .second, .val (.long q6), .second, .val (.int p8), .val (.int (2 : Int32)), .val (.ref b20), .val (.int (1 : Int32)), .unset, .unset, .unset, .unset] [(.ref b20)])
    refine own_st (fun _ kt => XS.lload X25.here hx rfl (hb hby at_146) rfl  kt) ?_
    show own_Rch p e below _ T25 (mkF m 148 #[.val (.long q0), .second, .val (.long q2), .second, .val (.long q4), .second, .val (.long q6), .second, .val (.int p8), .val (.int (2 : Int32)), .val (.ref b20), .val (.int (1 : Int32)), .unset, .unset, .unset, .unset] [(.long q6), (.ref b20)])
    obtain ⟨cq26, kq26, q26a, q26b, q26c⟩ := isOf hZ hh25 Ea24
    obtain ⟨_, _, ⟨T26, L26, k26, n26⟩, -, X26, ⟨Lc26, hQ26, l26, y26, z26⟩, st26⟩ := X25.virtualBack hx (y := (⟨"com/example/respite/respite/cli/Latencies", "add", "(J)V"⟩ : MethodName)) (z := (⟨"com/example/respite/respite/cli/Latencies", "add", "(J)V"⟩ : MethodName)) hown (mvT hZ (hw _ (List.mem_of_getElem? (i := 14) rfl))) (mvT hZ (hw _ (List.mem_of_getElem? (i := 15) rfl))) (notFace_of_selects (args := #[]) (mvT hZ (hw _ (List.mem_of_getElem? (i := 17) rfl)))) (mvT hZ (hw _ (List.mem_of_getElem? (i := 17) rfl))) (mvT hZ (hw _ (List.mem_of_getElem? (i := 16) rfl))) (by decide) (backOf (W := 0) (own_add2 l Z a0 hw [] b20 ar21 ka21 q6 u0_0 u0_1 (0 : Int64) (0 : Int64) (1 : Int32) T24.heap n0 O0_x24 Ea24 Fn24 Fc24 Fs24 Vb24 ge20 ge21_ar21 ne21_b20_ar21) hZ (hw _ (List.mem_of_getElem? (i := 18) rfl)) (hw _ (List.mem_of_getElem? (i := 2) rfl)) (by decide) (by decide)) q26a q26c (g := (mkF m 148 #[.val (.long q0), .second, .val (.long q2), .second, .val (.long q4), .second, .val (.long q6), .second, .val (.int p8), .val (.int (2 : Int32)), .val (.ref b20), .val (.int (1 : Int32)), .unset, .unset, .unset, .unset] [(.long q6), (.ref b20)])) rfl (by rw [hml]; rfl) (Steps.refl _) (argsL := [(.long q6)]) (rest := []) (lenOf own_pd6 rfl) rfl (by show 2 * 0 + _ ≤ _; exact Nat.le_of_eq rfl) (hb hby at_148) (fun _ _ => ⟨rfl, hh25, (by decide : 2 + 0 ≤ _), (by decide : 1027 + 0 ≤ _)⟩)
    dsimp only [Pt.U, Pt.locs, Pt.cells, Pt.slots] at X26 l26 y26 z26 st26 hQ26
    subst l26 y26 z26
    obtain ⟨rfl, N26q, K26, Ea26, Fn26, Fc26, Fs26, Vb26⟩ := hQ26
    have N26 := Fr.app N25 N26q
    refine own_st (fun _ kt => st26.trans kt) ?_
    have O0_x26 := O0_x24.keep K26 (allS ge20 (allS ge21_ar21 all0))
    have Ea24_x26 := Ea24.keep K26
    show own_Rch p e below _ T26 (mkF m 151 #[.val (.long q0), .second, .val (.long q2), .second, .val (.long q4), .second, .val (.long q6), .second, .val (.int p8), .val (.int (2 : Int32)), .val (.ref b20), .val (.int (1 : Int32)), .unset, .unset, .unset, .unset] [])
    refine own_st (fun _ kt => XS.iload X26.here hx rfl (hb hby at_151) rfl  kt) ?_
    show own_Rch p e below _ T26 (mkF m 153 #[.val (.long q0), .second, .val (.long q2), .second, .val (.long q4), .second, .val (.long q6), .second, .val (.int p8), .val (.int (2 : Int32)), .val (.ref b20), .val (.int (1 : Int32)), .unset, .unset, .unset, .unset] [(.int (2 : Int32))])
    refine own_st (fun _ kt => XS.ifYes X26.here hx rfl (pc0 := 153) (pc' := 161) rfl (hb hby at_153) rfl ((if0 _ _).trans (feq ((by decide) : ¬ ((2 : Int32) = (0 : Int32)))).2) (by decide) (by decide) kt) ?_
    show own_Rch p e below _ T26 (mkF m 161 #[.val (.long q0), .second, .val (.long q2), .second, .val (.long q4), .second, .val (.long q6), .second, .val (.int p8), .val (.int (2 : Int32)), .val (.ref b20), .val (.int (1 : Int32)), .unset, .unset, .unset, .unset] [])
    refine own_st (fun _ kt => XS.lload X26.here hx rfl (hb hby at_161) rfl  kt) ?_
    show own_Rch p e below _ T26 (mkF m 163 #[.val (.long q0), .second, .val (.long q2), .second, .val (.long q4), .second, .val (.long q6), .second, .val (.int p8), .val (.int (2 : Int32)), .val (.ref b20), .val (.int (1 : Int32)), .unset, .unset, .unset, .unset] [(.long q6)])
    refine own_st (fun _ kt => XS.lloadN X26.here hx rfl (hb hby at_163) rfl  kt) ?_
    show own_Rch p e below _ T26 (mkF m 164 #[.val (.long q0), .second, .val (.long q2), .second, .val (.long q4), .second, .val (.long q6), .second, .val (.int p8), .val (.int (2 : Int32)), .val (.ref b20), .val (.int (1 : Int32)), .unset, .unset, .unset, .unset] [(.long q0), (.long q6)])
    refine own_st (fun _ kt => XS.lloadN X26.here hx rfl (hb hby at_164) rfl  kt) ?_
    show own_Rch p e below _ T26 (mkF m 165 #[.val (.long q0), .second, .val (.long q2), .second, .val (.long q4), .second, .val (.long q6), .second, .val (.int p8), .val (.int (2 : Int32)), .val (.ref b20), .val (.int (1 : Int32)), .unset, .unset, .unset, .unset] [(.long q2), (.long q0), (.long q6)])
    refine own_st (fun _ kt => XS.lload X26.here hx rfl (hb hby at_165) rfl  kt) ?_
    show own_Rch p e below _ T26 (mkF m 167 #[.val (.long q0), .second, .val (.long q2), .second, .val (.long q4), .second, .val (.long q6), .second, .val (.int p8), .val (.int (2 : Int32)), .val (.ref b20), .val (.int (1 : Int32)), .unset, .unset, .unset, .unset] [(.long q4), (.long q2), (.long q0), (.long q6)])
    refine own_st (fun _ kt => XS.iload X26.here hx rfl (hb hby at_167) rfl  kt) ?_
    show own_Rch p e below _ T26 (mkF m 169 #[.val (.long q0), .second, .val (.long q2), .second, .val (.long q4), .second, .val (.long q6), .second, .val (.int p8), .val (.int (2 : Int32)), .val (.ref b20), .val (.int (1 : Int32)), .unset, .unset, .unset, .unset] [(.int (2 : Int32)), (.long q4), (.long q2), (.long q0), (.long q6)])
    obtain ⟨_, _, ⟨T27, L27, k27, n27⟩, -, X27, ⟨Lc27, hQ27, l27, y27, z27⟩, st27⟩ := Jvm.LawKit.callS X26 hx (y := (⟨"com/example/respite/respite/cli/LatenciesAddPinLaw", "maxOf", "(JJJI)J"⟩ : MethodName)) hown (mvT hZ (hw _ (List.mem_of_getElem? (i := 53) rfl))) (mvT hZ (hw _ (List.mem_of_getElem? (i := 54) rfl))) (mvT hZ (hw _ (List.mem_of_getElem? (i := 55) rfl))) (mvT hZ (hw _ (List.mem_of_getElem? (i := 56) rfl))) (by decide) (backOf (W := 2) (own_maxof2 l Z a0 hw [] q0 q2 q4 T26.heap n0 O0_x26 ) hZ (hw _ (List.mem_of_getElem? (i := 56) rfl)) (hw _ (List.mem_of_getElem? (i := 55) rfl)) (by decide) (by decide)) (g := (mkF m 169 #[.val (.long q0), .second, .val (.long q2), .second, .val (.long q4), .second, .val (.long q6), .second, .val (.int p8), .val (.int (2 : Int32)), .val (.ref b20), .val (.int (1 : Int32)), .unset, .unset, .unset, .unset] [(.int (2 : Int32)), (.long q4), (.long q2), (.long q0), (.long q6)])) rfl (by rw [hml]; rfl) (argsL := [(.long q0), (.long q2), (.long q4), (.int (2 : Int32))]) (rest := [(.long q6)]) (lenOf own_pd9 rfl) rfl (by show 2 * 0 + _ ≤ _; exact Nat.le_of_eq rfl) (hb hby at_169) (fun _ _ => ⟨rfl, rfl, (by decide : 2 + 0 ≤ _), (by decide : 1027 + 0 ≤ _)⟩)
    dsimp only [Pt.U, Pt.locs, Pt.cells, Pt.slots] at X27 l27 y27 z27 st27 hQ27
    subst l27 y27 z27
    obtain ⟨rfl, N27q, hh27⟩ := hQ27
    have N27 := Fr.app N26 N27q
    refine own_st st27 ?_
    show own_Rch p e below _ T27 (mkF m 172 #[.val (.long q0), .second, .val (.long q2), .second, .val (.long q4), .second, .val (.long q6), .second, .val (.int p8), .val (.int (2 : Int32)), .val (.ref b20), .val (.int (1 : Int32)), .unset, .unset, .unset, .unset] [(.long (own_maxL q0 q2)), (.long q6)])
    obtain ⟨_, _, ⟨T28, L28, k28, n28⟩, -, X28, ⟨Lc28, hQ28, l28, y28, z28⟩, st28⟩ := Jvm.LawKit.callS X27 hx (y := (⟨"java/lang/Math", "max", "(JJ)J"⟩ : MethodName)) hown (mvT hZ (hw _ (List.mem_of_getElem? (i := 57) rfl))) (mvT hZ (hw _ (List.mem_of_getElem? (i := 50) rfl))) (mvT hZ (hw _ (List.mem_of_getElem? (i := 51) rfl))) (mvT hZ (hw _ (List.mem_of_getElem? (i := 52) rfl))) (by decide) (backOf (W := 0) (own_lmax l Z a0 hw [] q6 (own_maxL q0 q2) T26.heap n0 O0_x26 ) hZ (hw _ (List.mem_of_getElem? (i := 52) rfl)) (hw _ (List.mem_of_getElem? (i := 51) rfl)) (by decide) (by decide)) (g := (mkF m 172 #[.val (.long q0), .second, .val (.long q2), .second, .val (.long q4), .second, .val (.long q6), .second, .val (.int p8), .val (.int (2 : Int32)), .val (.ref b20), .val (.int (1 : Int32)), .unset, .unset, .unset, .unset] [(.long (own_maxL q0 q2)), (.long q6)])) rfl (by rw [hml]; rfl) (argsL := [(.long q6), (.long (own_maxL q0 q2))]) (rest := []) (lenOf own_pd0 rfl) rfl (by show 2 * 0 + _ ≤ _; exact Nat.le_of_eq rfl) (hb hby at_172) (fun _ _ => ⟨rfl, hh27, (by decide : 2 + 0 ≤ _), (by decide : 1027 + 0 ≤ _)⟩)
    dsimp only [Pt.U, Pt.locs, Pt.cells, Pt.slots] at X28 l28 y28 z28 st28 hQ28
    subst l28 y28 z28
    obtain ⟨rfl, N28q, hh28⟩ := hQ28
    have N28 := Fr.app N27 N28q
    refine own_st st28 ?_
    show own_Rch p e below _ T28 (mkF m 175 #[.val (.long q0), .second, .val (.long q2), .second, .val (.long q4), .second, .val (.long q6), .second, .val (.int p8), .val (.int (2 : Int32)), .val (.ref b20), .val (.int (1 : Int32)), .unset, .unset, .unset, .unset] [(.long (own_maxL q6 (own_maxL q0 q2)))])
    refine own_st (fun _ kt => XS.lstore X28.here hx rfl (hb hby at_175) rfl (l' := #[.val (.long q0), .second, .val (.long q2), .second, .val (.long q4), .second, .val (.long q6), .second, .val (.int p8), .val (.int (2 : Int32)), .val (.ref b20), .val (.int (1 : Int32)), .val (.long (own_maxL q6 (own_maxL q0 q2))), .second, .unset, .unset]) rfl kt) ?_
    show own_Rch p e below _ T28 (mkF m 177 #[.val (.long q0), .second, .val (.long q2), .second, .val (.long q4), .second, .val (.long q6), .second, .val (.int p8), .val (.int (2 : Int32)), .val (.ref b20), .val (.int (1 : Int32)), .val (.long (own_maxL q6 (own_maxL q0 q2))), .second, .unset, .unset] [])
    refine own_st (fun _ kt => XS.iload X28.here hx rfl (hb hby at_177) rfl  kt) ?_
    show own_Rch p e below _ T28 (mkF m 179 #[.val (.long q0), .second, .val (.long q2), .second, .val (.long q4), .second, .val (.long q6), .second, .val (.int p8), .val (.int (2 : Int32)), .val (.ref b20), .val (.int (1 : Int32)), .val (.long (own_maxL q6 (own_maxL q0 q2))), .second, .unset, .unset] [(.int (2 : Int32))])
    refine own_st (fun _ kt => XS.ifYes X28.here hx rfl (pc0 := 179) (pc' := 187) rfl (hb hby at_179) rfl ((if0 _ _).trans (feq ((by decide) : ¬ ((2 : Int32) = (0 : Int32)))).2) (by decide) (by decide) kt) ?_
    show own_Rch p e below _ T28 (mkF m 187 #[.val (.long q0), .second, .val (.long q2), .second, .val (.long q4), .second, .val (.long q6), .second, .val (.int p8), .val (.int (2 : Int32)), .val (.ref b20), .val (.int (1 : Int32)), .val (.long (own_maxL q6 (own_maxL q0 q2))), .second, .unset, .unset] [])
    refine own_st (fun _ kt => XS.lload X28.here hx rfl (hb hby at_187) rfl  kt) ?_
    show own_Rch p e below _ T28 (mkF m 189 #[.val (.long q0), .second, .val (.long q2), .second, .val (.long q4), .second, .val (.long q6), .second, .val (.int p8), .val (.int (2 : Int32)), .val (.ref b20), .val (.int (1 : Int32)), .val (.long (own_maxL q6 (own_maxL q0 q2))), .second, .unset, .unset] [(.long q6)])
    refine own_st (fun _ kt => XS.lloadN X28.here hx rfl (hb hby at_189) rfl  kt) ?_
    show own_Rch p e below _ T28 (mkF m 190 #[.val (.long q0), .second, .val (.long q2), .second, .val (.long q4), .second, .val (.long q6), .second, .val (.int p8), .val (.int (2 : Int32)), .val (.ref b20), .val (.int (1 : Int32)), .val (.long (own_maxL q6 (own_maxL q0 q2))), .second, .unset, .unset] [(.long q0), (.long q6)])
    refine own_st (fun _ kt => XS.lloadN X28.here hx rfl (hb hby at_190) rfl  kt) ?_
    show own_Rch p e below _ T28 (mkF m 191 #[.val (.long q0), .second, .val (.long q2), .second, .val (.long q4), .second, .val (.long q6), .second, .val (.int p8), .val (.int (2 : Int32)), .val (.ref b20), .val (.int (1 : Int32)), .val (.long (own_maxL q6 (own_maxL q0 q2))), .second, .unset, .unset] [(.long q2), (.long q0), (.long q6)])
    refine own_st (fun _ kt => XS.lload X28.here hx rfl (hb hby at_191) rfl  kt) ?_
    show own_Rch p e below _ T28 (mkF m 193 #[.val (.long q0), .second, .val (.long q2), .second, .val (.long q4), .second, .val (.long q6), .second, .val (.int p8), .val (.int (2 : Int32)), .val (.ref b20), .val (.int (1 : Int32)), .val (.long (own_maxL q6 (own_maxL q0 q2))), .second, .unset, .unset] [(.long q4), (.long q2), (.long q0), (.long q6)])
    refine own_st (fun _ kt => XS.iload X28.here hx rfl (hb hby at_193) rfl  kt) ?_
    show own_Rch p e below _ T28 (mkF m 195 #[.val (.long q0), .second, .val (.long q2), .second, .val (.long q4), .second, .val (.long q6), .second, .val (.int p8), .val (.int (2 : Int32)), .val (.ref b20), .val (.int (1 : Int32)), .val (.long (own_maxL q6 (own_maxL q0 q2))), .second, .unset, .unset] [(.int (2 : Int32)), (.long q4), (.long q2), (.long q0), (.long q6)])
    obtain ⟨_, _, ⟨T29, L29, k29, n29⟩, -, X29, ⟨Lc29, hQ29, l29, y29, z29⟩, st29⟩ := Jvm.LawKit.callS X28 hx (y := (⟨"com/example/respite/respite/cli/LatenciesAddPinLaw", "minOf", "(JJJI)J"⟩ : MethodName)) hown (mvT hZ (hw _ (List.mem_of_getElem? (i := 61) rfl))) (mvT hZ (hw _ (List.mem_of_getElem? (i := 62) rfl))) (mvT hZ (hw _ (List.mem_of_getElem? (i := 55) rfl))) (mvT hZ (hw _ (List.mem_of_getElem? (i := 63) rfl))) (by decide) (backOf (W := 2) (own_minof2 l Z a0 hw [] q0 q2 q4 T26.heap n0 O0_x26 ) hZ (hw _ (List.mem_of_getElem? (i := 63) rfl)) (hw _ (List.mem_of_getElem? (i := 55) rfl)) (by decide) (by decide)) (g := (mkF m 195 #[.val (.long q0), .second, .val (.long q2), .second, .val (.long q4), .second, .val (.long q6), .second, .val (.int p8), .val (.int (2 : Int32)), .val (.ref b20), .val (.int (1 : Int32)), .val (.long (own_maxL q6 (own_maxL q0 q2))), .second, .unset, .unset] [(.int (2 : Int32)), (.long q4), (.long q2), (.long q0), (.long q6)])) rfl (by rw [hml]; rfl) (argsL := [(.long q0), (.long q2), (.long q4), (.int (2 : Int32))]) (rest := [(.long q6)]) (lenOf own_pd9 rfl) rfl (by show 2 * 0 + _ ≤ _; exact Nat.le_of_eq rfl) (hb hby at_195) (fun _ _ => ⟨rfl, hh28, (by decide : 2 + 0 ≤ _), (by decide : 1027 + 0 ≤ _)⟩)
    dsimp only [Pt.U, Pt.locs, Pt.cells, Pt.slots] at X29 l29 y29 z29 st29 hQ29
    subst l29 y29 z29
    obtain ⟨rfl, N29q, hh29⟩ := hQ29
    have N29 := Fr.app N28 N29q
    refine own_st st29 ?_
    show own_Rch p e below _ T29 (mkF m 198 #[.val (.long q0), .second, .val (.long q2), .second, .val (.long q4), .second, .val (.long q6), .second, .val (.int p8), .val (.int (2 : Int32)), .val (.ref b20), .val (.int (1 : Int32)), .val (.long (own_maxL q6 (own_maxL q0 q2))), .second, .unset, .unset] [(.long (own_minL q0 q2)), (.long q6)])
    obtain ⟨_, _, ⟨T30, L30, k30, n30⟩, -, X30, ⟨Lc30, hQ30, l30, y30, z30⟩, st30⟩ := Jvm.LawKit.callS X29 hx (y := (⟨"java/lang/Math", "min", "(JJ)J"⟩ : MethodName)) hown (mvT hZ (hw _ (List.mem_of_getElem? (i := 58) rfl))) (mvT hZ (hw _ (List.mem_of_getElem? (i := 59) rfl))) (mvT hZ (hw _ (List.mem_of_getElem? (i := 51) rfl))) (mvT hZ (hw _ (List.mem_of_getElem? (i := 60) rfl))) (by decide) (backOf (W := 0) (own_lmin l Z a0 hw [] q6 (own_minL q0 q2) T26.heap n0 O0_x26 ) hZ (hw _ (List.mem_of_getElem? (i := 60) rfl)) (hw _ (List.mem_of_getElem? (i := 51) rfl)) (by decide) (by decide)) (g := (mkF m 198 #[.val (.long q0), .second, .val (.long q2), .second, .val (.long q4), .second, .val (.long q6), .second, .val (.int p8), .val (.int (2 : Int32)), .val (.ref b20), .val (.int (1 : Int32)), .val (.long (own_maxL q6 (own_maxL q0 q2))), .second, .unset, .unset] [(.long (own_minL q0 q2)), (.long q6)])) rfl (by rw [hml]; rfl) (argsL := [(.long q6), (.long (own_minL q0 q2))]) (rest := []) (lenOf own_pd0 rfl) rfl (by show 2 * 0 + _ ≤ _; exact Nat.le_of_eq rfl) (hb hby at_198) (fun _ _ => ⟨rfl, hh29, (by decide : 2 + 0 ≤ _), (by decide : 1027 + 0 ≤ _)⟩)
    dsimp only [Pt.U, Pt.locs, Pt.cells, Pt.slots] at X30 l30 y30 z30 st30 hQ30
    subst l30 y30 z30
    obtain ⟨rfl, N30q, hh30⟩ := hQ30
    have N30 := Fr.app N29 N30q
    refine own_st st30 ?_
    show own_Rch p e below _ T30 (mkF m 201 #[.val (.long q0), .second, .val (.long q2), .second, .val (.long q4), .second, .val (.long q6), .second, .val (.int p8), .val (.int (2 : Int32)), .val (.ref b20), .val (.int (1 : Int32)), .val (.long (own_maxL q6 (own_maxL q0 q2))), .second, .unset, .unset] [(.long (own_minL q6 (own_minL q0 q2)))])
    refine own_st (fun _ kt => XS.lstore X30.here hx rfl (hb hby at_201) rfl (l' := #[.val (.long q0), .second, .val (.long q2), .second, .val (.long q4), .second, .val (.long q6), .second, .val (.int p8), .val (.int (2 : Int32)), .val (.ref b20), .val (.int (1 : Int32)), .val (.long (own_maxL q6 (own_maxL q0 q2))), .second, .val (.long (own_minL q6 (own_minL q0 q2))), .second]) rfl kt) ?_
    show own_Rch p e below _ T30 (mkF m 203 #[.val (.long q0), .second, .val (.long q2), .second, .val (.long q4), .second, .val (.long q6), .second, .val (.int p8), .val (.int (2 : Int32)), .val (.ref b20), .val (.int (1 : Int32)), .val (.long (own_maxL q6 (own_maxL q0 q2))), .second, .val (.long (own_minL q6 (own_minL q0 q2))), .second] [])
    refine own_st (fun _ kt => XS.iload X30.here hx rfl (hb hby at_203) rfl  kt) ?_
    show own_Rch p e below _ T30 (mkF m 205 #[.val (.long q0), .second, .val (.long q2), .second, .val (.long q4), .second, .val (.long q6), .second, .val (.int p8), .val (.int (2 : Int32)), .val (.ref b20), .val (.int (1 : Int32)), .val (.long (own_maxL q6 (own_maxL q0 q2))), .second, .val (.long (own_minL q6 (own_minL q0 q2))), .second] [(.int (1 : Int32))])
    refine own_st (fun _ kt => XS.ifNo X30.here hx rfl (hb hby at_205) rfl ((if0 _ _).trans (feq ((by decide) : ¬ ((1 : Int32) = (0 : Int32)))).1) kt) ?_
    show own_Rch p e below _ T30 (mkF m 208 #[.val (.long q0), .second, .val (.long q2), .second, .val (.long q4), .second, .val (.long q6), .second, .val (.int p8), .val (.int (2 : Int32)), .val (.ref b20), .val (.int (1 : Int32)), .val (.long (own_maxL q6 (own_maxL q0 q2))), .second, .val (.long (own_minL q6 (own_minL q0 q2))), .second] [])
    refine own_st (fun _ kt => XS.aload X30.here hx rfl (hb hby at_208) rfl rfl  kt) ?_
    show own_Rch p e below _ T30 (mkF m 210 #[.val (.long q0), .second, .val (.long q2), .second, .val (.long q4), .second, .val (.long q6), .second, .val (.int p8), .val (.int (2 : Int32)), .val (.ref b20), .val (.int (1 : Int32)), .val (.long (own_maxL q6 (own_maxL q0 q2))), .second, .val (.long (own_minL q6 (own_minL q0 q2))), .second] [(.ref b20)])
    obtain ⟨cq31, kq31, q31a, q31b, q31c⟩ := isOf hZ hh30 Ea26
    obtain ⟨_, _, ⟨T31, L31, k31, n31⟩, -, X31, ⟨Lc31, hQ31, l31, y31, z31⟩, st31⟩ := X30.virtualBack hx (y := (⟨"com/example/respite/respite/cli/Latencies", "count", "()I"⟩ : MethodName)) (z := (⟨"com/example/respite/respite/cli/Latencies", "count", "()I"⟩ : MethodName)) hown (mvT hZ (hw _ (List.mem_of_getElem? (i := 64) rfl))) (mvT hZ (hw _ (List.mem_of_getElem? (i := 65) rfl))) (notFace_of_selects (args := #[]) (mvT hZ (hw _ (List.mem_of_getElem? (i := 67) rfl)))) (mvT hZ (hw _ (List.mem_of_getElem? (i := 67) rfl))) (mvT hZ (hw _ (List.mem_of_getElem? (i := 66) rfl))) (by decide) (backOf (W := 0) (own_count l Z a0 hw [] b20 (3 : Int32) T26.heap n0 O0_x26 Fc26) hZ (hw _ (List.mem_of_getElem? (i := 68) rfl)) (hw _ (List.mem_of_getElem? (i := 2) rfl)) (by decide) (by decide)) q31a q31c (g := (mkF m 210 #[.val (.long q0), .second, .val (.long q2), .second, .val (.long q4), .second, .val (.long q6), .second, .val (.int p8), .val (.int (2 : Int32)), .val (.ref b20), .val (.int (1 : Int32)), .val (.long (own_maxL q6 (own_maxL q0 q2))), .second, .val (.long (own_minL q6 (own_minL q0 q2))), .second] [(.ref b20)])) rfl (by rw [hml]; rfl) (Steps.refl _) (argsL := []) (rest := []) (lenOf own_pd7 rfl) rfl (by show 2 * 0 + _ ≤ _; exact Nat.le_of_eq rfl) (hb hby at_210) (fun _ _ => ⟨rfl, hh30, (by decide : 2 + 0 ≤ _), (by decide : 1027 + 0 ≤ _)⟩)
    dsimp only [Pt.U, Pt.locs, Pt.cells, Pt.slots] at X31 l31 y31 z31 st31 hQ31
    subst l31 y31 z31
    obtain ⟨rfl, N31q, hh31⟩ := hQ31
    have N31 := Fr.app N30 N31q
    refine own_st (fun _ kt => st31.trans kt) ?_
    show own_Rch p e below _ T31 (mkF m 213 #[.val (.long q0), .second, .val (.long q2), .second, .val (.long q4), .second, .val (.long q6), .second, .val (.int p8), .val (.int (2 : Int32)), .val (.ref b20), .val (.int (1 : Int32)), .val (.long (own_maxL q6 (own_maxL q0 q2))), .second, .val (.long (own_minL q6 (own_minL q0 q2))), .second] [(.int (3 : Int32))])
    refine own_st (fun _ kt => XS.iload X31.here hx rfl (hb hby at_213) rfl  kt) ?_
    show own_Rch p e below _ T31 (mkF m 215 #[.val (.long q0), .second, .val (.long q2), .second, .val (.long q4), .second, .val (.long q6), .second, .val (.int p8), .val (.int (2 : Int32)), .val (.ref b20), .val (.int (1 : Int32)), .val (.long (own_maxL q6 (own_maxL q0 q2))), .second, .val (.long (own_minL q6 (own_minL q0 q2))), .second] [(.int (2 : Int32)), (.int (3 : Int32))])
    refine own_st (fun _ kt => XS.iconst X31.here hx rfl (hb hby at_215) kt) ?_
    show own_Rch p e below _ T31 (mkF m 216 #[.val (.long q0), .second, .val (.long q2), .second, .val (.long q4), .second, .val (.long q6), .second, .val (.int p8), .val (.int (2 : Int32)), .val (.ref b20), .val (.int (1 : Int32)), .val (.long (own_maxL q6 (own_maxL q0 q2))), .second, .val (.long (own_minL q6 (own_minL q0 q2))), .second] [(.int (1 : Int32)), (.int (2 : Int32)), (.int (3 : Int32))])
    refine own_st (fun _ kt => XS.iadd X31.here hx rfl (hb hby at_216) rfl kt) ?_
    show own_Rch p e below _ T31 (mkF m 217 #[.val (.long q0), .second, .val (.long q2), .second, .val (.long q4), .second, .val (.long q6), .second, .val (.int p8), .val (.int (2 : Int32)), .val (.ref b20), .val (.int (1 : Int32)), .val (.long (own_maxL q6 (own_maxL q0 q2))), .second, .val (.long (own_minL q6 (own_minL q0 q2))), .second] [(.int (3 : Int32)), (.int (3 : Int32))])
    refine own_st (fun _ kt => XS.icmpNo X31.here hx rfl (hb hby at_217) rfl (teq (rfl : (3 : Int32) = (3 : Int32))).2 kt) ?_
    show own_Rch p e below _ T31 (mkF m 220 #[.val (.long q0), .second, .val (.long q2), .second, .val (.long q4), .second, .val (.long q6), .second, .val (.int p8), .val (.int (2 : Int32)), .val (.ref b20), .val (.int (1 : Int32)), .val (.long (own_maxL q6 (own_maxL q0 q2))), .second, .val (.long (own_minL q6 (own_minL q0 q2))), .second] [])
    refine own_st (fun _ kt => XS.iconst X31.here hx rfl (hb hby at_220) kt) ?_
    show own_Rch p e below _ T31 (mkF m 221 #[.val (.long q0), .second, .val (.long q2), .second, .val (.long q4), .second, .val (.long q6), .second, .val (.int p8), .val (.int (2 : Int32)), .val (.ref b20), .val (.int (1 : Int32)), .val (.long (own_maxL q6 (own_maxL q0 q2))), .second, .val (.long (own_minL q6 (own_minL q0 q2))), .second] [(.int (1 : Int32))])
    refine own_st (fun _ kt => XS.goto X31.here hx rfl (pc0 := 221) (pc' := 225) rfl (hb hby at_221) (by decide) (by decide) kt) ?_
    show own_Rch p e below _ T31 (mkF m 225 #[.val (.long q0), .second, .val (.long q2), .second, .val (.long q4), .second, .val (.long q6), .second, .val (.int p8), .val (.int (2 : Int32)), .val (.ref b20), .val (.int (1 : Int32)), .val (.long (own_maxL q6 (own_maxL q0 q2))), .second, .val (.long (own_minL q6 (own_minL q0 q2))), .second] [(.int (1 : Int32))])
    refine own_st (fun _ kt => XS.istore X31.here hx rfl (hb hby at_225) rfl (l' := #[.val (.long q0), .second, .val (.long q2), .second, .val (.long q4), .second, .val (.long q6), .second, .val (.int p8), .val (.int (2 : Int32)), .val (.ref b20), .val (.int (1 : Int32)), .val (.long (own_maxL q6 (own_maxL q0 q2))), .second, .val (.long (own_minL q6 (own_minL q0 q2))), .second]) rfl kt) ?_
    show own_Rch p e below _ T31 (mkF m 227 #[.val (.long q0), .second, .val (.long q2), .second, .val (.long q4), .second, .val (.long q6), .second, .val (.int p8), .val (.int (2 : Int32)), .val (.ref b20), .val (.int (1 : Int32)), .val (.long (own_maxL q6 (own_maxL q0 q2))), .second, .val (.long (own_minL q6 (own_minL q0 q2))), .second] [])
    refine own_st (fun _ kt => XS.iload X31.here hx rfl (hb hby at_227) rfl  kt) ?_
    show own_Rch p e below _ T31 (mkF m 229 #[.val (.long q0), .second, .val (.long q2), .second, .val (.long q4), .second, .val (.long q6), .second, .val (.int p8), .val (.int (2 : Int32)), .val (.ref b20), .val (.int (1 : Int32)), .val (.long (own_maxL q6 (own_maxL q0 q2))), .second, .val (.long (own_minL q6 (own_minL q0 q2))), .second] [(.int (1 : Int32))])
    refine own_st (fun _ kt => XS.ifNo X31.here hx rfl (hb hby at_229) rfl ((if0 _ _).trans (feq ((by decide) : ¬ ((1 : Int32) = (0 : Int32)))).1) kt) ?_
    show own_Rch p e below _ T31 (mkF m 232 #[.val (.long q0), .second, .val (.long q2), .second, .val (.long q4), .second, .val (.long q6), .second, .val (.int p8), .val (.int (2 : Int32)), .val (.ref b20), .val (.int (1 : Int32)), .val (.long (own_maxL q6 (own_maxL q0 q2))), .second, .val (.long (own_minL q6 (own_minL q0 q2))), .second] [])
    refine own_st (fun _ kt => XS.aload X31.here hx rfl (hb hby at_232) rfl rfl  kt) ?_
    show own_Rch p e below _ T31 (mkF m 234 #[.val (.long q0), .second, .val (.long q2), .second, .val (.long q4), .second, .val (.long q6), .second, .val (.int p8), .val (.int (2 : Int32)), .val (.ref b20), .val (.int (1 : Int32)), .val (.long (own_maxL q6 (own_maxL q0 q2))), .second, .val (.long (own_minL q6 (own_minL q0 q2))), .second] [(.ref b20)])
    refine own_st (fun _ kt => XS.iconst X31.here hx rfl (hb hby at_234) kt) ?_
    show own_Rch p e below _ T31 (mkF m 235 #[.val (.long q0), .second, .val (.long q2), .second, .val (.long q4), .second, .val (.long q6), .second, .val (.int p8), .val (.int (2 : Int32)), .val (.ref b20), .val (.int (1 : Int32)), .val (.long (own_maxL q6 (own_maxL q0 q2))), .second, .val (.long (own_minL q6 (own_minL q0 q2))), .second] [(.int (1 : Int32)), (.ref b20)])
    obtain ⟨cq32, kq32, q32a, q32b, q32c⟩ := isOf hZ hh31 Ea26
    obtain ⟨_, _, ⟨T32, L32, k32, n32⟩, -, X32, ⟨Lc32, hQ32, l32, y32, z32⟩, st32⟩ := X31.virtualBack hx (y := (⟨"com/example/respite/respite/cli/Latencies", "percentile", "(I)J"⟩ : MethodName)) (z := (⟨"com/example/respite/respite/cli/Latencies", "percentile", "(I)J"⟩ : MethodName)) hown (mvT hZ (hw _ (List.mem_of_getElem? (i := 21) rfl))) (mvT hZ (hw _ (List.mem_of_getElem? (i := 22) rfl))) (notFace_of_selects (args := #[]) (mvT hZ (hw _ (List.mem_of_getElem? (i := 24) rfl)))) (mvT hZ (hw _ (List.mem_of_getElem? (i := 24) rfl))) (mvT hZ (hw _ (List.mem_of_getElem? (i := 23) rfl))) (by decide) (backOf (W := 0) (own_pc_1_3_0 l Z a0 hw [] b20 ar21 ka21 u0_0 u0_1 q6 (0 : Int64) T26.heap n0 O0_x26 Ea26 Fn26 Fc26 Fs26 Vb26 ge20 ge21_ar21 ne21_b20_ar21) hZ (hw _ (List.mem_of_getElem? (i := 25) rfl)) (hw _ (List.mem_of_getElem? (i := 2) rfl)) (by decide) (by decide)) q32a q32c (g := (mkF m 235 #[.val (.long q0), .second, .val (.long q2), .second, .val (.long q4), .second, .val (.long q6), .second, .val (.int p8), .val (.int (2 : Int32)), .val (.ref b20), .val (.int (1 : Int32)), .val (.long (own_maxL q6 (own_maxL q0 q2))), .second, .val (.long (own_minL q6 (own_minL q0 q2))), .second] [(.int (1 : Int32)), (.ref b20)])) rfl (by rw [hml]; rfl) (Steps.refl _) (argsL := [(.int (1 : Int32))]) (rest := []) (lenOf own_pd8 rfl) rfl (by show 2 * 0 + _ ≤ _; exact Nat.le_of_eq rfl) (hb hby at_235) (fun _ _ => ⟨rfl, hh31, (by decide : 2 + 0 ≤ _), (by decide : 1027 + 0 ≤ _)⟩)
    dsimp only [Pt.U, Pt.locs, Pt.cells, Pt.slots] at X32 l32 y32 z32 st32 hQ32
    subst l32 y32 z32
    obtain ⟨u1_0, u1_1, u1_2, hs1, rfl, N32q, K32, Ea32, Fn32, Fc32, Fs32, Vb32⟩ := hQ32
    have N32 := Fr.app N31 N32q
    refine own_st (fun _ kt => st32.trans kt) ?_
    have O0_x32 := O0_x26.keep K32 (allS ge20 (allS ge21_ar21 all0))
    have Ea26_x32 := Ea26.keep K32
    show own_Rch p e below _ T32 (mkF m 238 #[.val (.long q0), .second, .val (.long q2), .second, .val (.long q4), .second, .val (.long q6), .second, .val (.int p8), .val (.int (2 : Int32)), .val (.ref b20), .val (.int (1 : Int32)), .val (.long (own_maxL q6 (own_maxL q0 q2))), .second, .val (.long (own_minL q6 (own_minL q0 q2))), .second] [(.long u1_0)])
    refine own_st (fun _ kt => XS.lload X32.here hx rfl (hb hby at_238) rfl  kt) ?_
    show own_Rch p e below _ T32 (mkF m 240 #[.val (.long q0), .second, .val (.long q2), .second, .val (.long q4), .second, .val (.long q6), .second, .val (.int p8), .val (.int (2 : Int32)), .val (.ref b20), .val (.int (1 : Int32)), .val (.long (own_maxL q6 (own_maxL q0 q2))), .second, .val (.long (own_minL q6 (own_minL q0 q2))), .second] [(.long (own_minL q6 (own_minL q0 q2))), (.long u1_0)])
    refine own_st (fun _ kt => XS.lcmp X32.here hx rfl (hb hby at_240) rfl kt) ?_
    show own_Rch p e below _ T32 (mkF m 241 #[.val (.long q0), .second, .val (.long q2), .second, .val (.long q4), .second, .val (.long q6), .second, .val (.int p8), .val (.int (2 : Int32)), .val (.ref b20), .val (.int (1 : Int32)), .val (.long (own_maxL q6 (own_maxL q0 q2))), .second, .val (.long (own_minL q6 (own_minL q0 q2))), .second] [(.int (lcmpW u1_0 (own_minL q6 (own_minL q0 q2))))])
    refine own_st (fun _ kt => XS.ifNo X32.here hx rfl (hb hby at_241) rfl ((if0 _ _).trans (teq (by rw [lw_eq, ← Int64.toInt_inj]; have he0 := own_ends2 hs0; have he1 := own_ends3 hs1; have hm0 := own_minL_b q6 (own_minL q0 q2); have hm1 := own_minL_b q0 q2; omega : (lcmpW u1_0 (own_minL q6 (own_minL q0 q2))) = (0 : Int32))).2) kt) ?_
    show own_Rch p e below _ T32 (mkF m 244 #[.val (.long q0), .second, .val (.long q2), .second, .val (.long q4), .second, .val (.long q6), .second, .val (.int p8), .val (.int (2 : Int32)), .val (.ref b20), .val (.int (1 : Int32)), .val (.long (own_maxL q6 (own_maxL q0 q2))), .second, .val (.long (own_minL q6 (own_minL q0 q2))), .second] [])
    refine own_st (fun _ kt => XS.iconst X32.here hx rfl (hb hby at_244) kt) ?_
    show own_Rch p e below _ T32 (mkF m 245 #[.val (.long q0), .second, .val (.long q2), .second, .val (.long q4), .second, .val (.long q6), .second, .val (.int p8), .val (.int (2 : Int32)), .val (.ref b20), .val (.int (1 : Int32)), .val (.long (own_maxL q6 (own_maxL q0 q2))), .second, .val (.long (own_minL q6 (own_minL q0 q2))), .second] [(.int (1 : Int32))])
    refine own_st (fun _ kt => XS.goto X32.here hx rfl (pc0 := 245) (pc' := 249) rfl (hb hby at_245) (by decide) (by decide) kt) ?_
    show own_Rch p e below _ T32 (mkF m 249 #[.val (.long q0), .second, .val (.long q2), .second, .val (.long q4), .second, .val (.long q6), .second, .val (.int p8), .val (.int (2 : Int32)), .val (.ref b20), .val (.int (1 : Int32)), .val (.long (own_maxL q6 (own_maxL q0 q2))), .second, .val (.long (own_minL q6 (own_minL q0 q2))), .second] [(.int (1 : Int32))])
    refine own_st (fun _ kt => XS.istore X32.here hx rfl (hb hby at_249) rfl (l' := #[.val (.long q0), .second, .val (.long q2), .second, .val (.long q4), .second, .val (.long q6), .second, .val (.int p8), .val (.int (2 : Int32)), .val (.ref b20), .val (.int (1 : Int32)), .val (.long (own_maxL q6 (own_maxL q0 q2))), .second, .val (.long (own_minL q6 (own_minL q0 q2))), .second]) rfl kt) ?_
    show own_Rch p e below _ T32 (mkF m 251 #[.val (.long q0), .second, .val (.long q2), .second, .val (.long q4), .second, .val (.long q6), .second, .val (.int p8), .val (.int (2 : Int32)), .val (.ref b20), .val (.int (1 : Int32)), .val (.long (own_maxL q6 (own_maxL q0 q2))), .second, .val (.long (own_minL q6 (own_minL q0 q2))), .second] [])
    refine own_st (fun _ kt => XS.iload X32.here hx rfl (hb hby at_251) rfl  kt) ?_
    show own_Rch p e below _ T32 (mkF m 253 #[.val (.long q0), .second, .val (.long q2), .second, .val (.long q4), .second, .val (.long q6), .second, .val (.int p8), .val (.int (2 : Int32)), .val (.ref b20), .val (.int (1 : Int32)), .val (.long (own_maxL q6 (own_maxL q0 q2))), .second, .val (.long (own_minL q6 (own_minL q0 q2))), .second] [(.int (1 : Int32))])
    refine own_st (fun _ kt => XS.ifNo X32.here hx rfl (hb hby at_253) rfl ((if0 _ _).trans (feq ((by decide) : ¬ ((1 : Int32) = (0 : Int32)))).1) kt) ?_
    show own_Rch p e below _ T32 (mkF m 256 #[.val (.long q0), .second, .val (.long q2), .second, .val (.long q4), .second, .val (.long q6), .second, .val (.int p8), .val (.int (2 : Int32)), .val (.ref b20), .val (.int (1 : Int32)), .val (.long (own_maxL q6 (own_maxL q0 q2))), .second, .val (.long (own_minL q6 (own_minL q0 q2))), .second] [])
    refine own_st (fun _ kt => XS.aload X32.here hx rfl (hb hby at_256) rfl rfl  kt) ?_
    show own_Rch p e below _ T32 (mkF m 258 #[.val (.long q0), .second, .val (.long q2), .second, .val (.long q4), .second, .val (.long q6), .second, .val (.int p8), .val (.int (2 : Int32)), .val (.ref b20), .val (.int (1 : Int32)), .val (.long (own_maxL q6 (own_maxL q0 q2))), .second, .val (.long (own_minL q6 (own_minL q0 q2))), .second] [(.ref b20)])
    refine own_st (fun _ kt => XS.bipush X32.here hx rfl (hb hby at_258) kt) ?_
    show own_Rch p e below _ T32 (mkF m 260 #[.val (.long q0), .second, .val (.long q2), .second, .val (.long q4), .second, .val (.long q6), .second, .val (.int p8), .val (.int (2 : Int32)), .val (.ref b20), .val (.int (1 : Int32)), .val (.long (own_maxL q6 (own_maxL q0 q2))), .second, .val (.long (own_minL q6 (own_minL q0 q2))), .second] [(.int (100 : Int32)), (.ref b20)])
    obtain ⟨cq33, kq33, q33a, q33b, q33c⟩ := isOf hZ rfl Ea32
    obtain ⟨_, _, ⟨T33, L33, k33, n33⟩, -, X33, ⟨Lc33, hQ33, l33, y33, z33⟩, st33⟩ := X32.virtualBack hx (y := (⟨"com/example/respite/respite/cli/Latencies", "percentile", "(I)J"⟩ : MethodName)) (z := (⟨"com/example/respite/respite/cli/Latencies", "percentile", "(I)J"⟩ : MethodName)) hown (mvT hZ (hw _ (List.mem_of_getElem? (i := 21) rfl))) (mvT hZ (hw _ (List.mem_of_getElem? (i := 22) rfl))) (notFace_of_selects (args := #[]) (mvT hZ (hw _ (List.mem_of_getElem? (i := 24) rfl)))) (mvT hZ (hw _ (List.mem_of_getElem? (i := 24) rfl))) (mvT hZ (hw _ (List.mem_of_getElem? (i := 23) rfl))) (by decide) (backOf (W := 0) (own_pc_100_3_1 l Z a0 hw [] b20 ar21 ka21 u1_0 u1_1 u1_2 (0 : Int64) T32.heap n0 O0_x32 Ea32 Fn32 Fc32 Fs32 Vb32 ge20 ge21_ar21 ne21_b20_ar21) hZ (hw _ (List.mem_of_getElem? (i := 25) rfl)) (hw _ (List.mem_of_getElem? (i := 2) rfl)) (by decide) (by decide)) q33a q33c (g := (mkF m 260 #[.val (.long q0), .second, .val (.long q2), .second, .val (.long q4), .second, .val (.long q6), .second, .val (.int p8), .val (.int (2 : Int32)), .val (.ref b20), .val (.int (1 : Int32)), .val (.long (own_maxL q6 (own_maxL q0 q2))), .second, .val (.long (own_minL q6 (own_minL q0 q2))), .second] [(.int (100 : Int32)), (.ref b20)])) rfl (by rw [hml]; rfl) (Steps.refl _) (argsL := [(.int (100 : Int32))]) (rest := []) (lenOf own_pd8 rfl) rfl (by show 2 * 0 + _ ≤ _; exact Nat.le_of_eq rfl) (hb hby at_260) (fun _ _ => ⟨rfl, rfl, (by decide : 2 + 0 ≤ _), (by decide : 1027 + 0 ≤ _)⟩)
    dsimp only [Pt.U, Pt.locs, Pt.cells, Pt.slots] at X33 l33 y33 z33 st33 hQ33
    subst l33 y33 z33
    obtain ⟨rfl, N33q, hh33⟩ := hQ33
    have N33 := Fr.app N32 N33q
    refine own_st (fun _ kt => st33.trans kt) ?_
    show own_Rch p e below _ T33 (mkF m 263 #[.val (.long q0), .second, .val (.long q2), .second, .val (.long q4), .second, .val (.long q6), .second, .val (.int p8), .val (.int (2 : Int32)), .val (.ref b20), .val (.int (1 : Int32)), .val (.long (own_maxL q6 (own_maxL q0 q2))), .second, .val (.long (own_minL q6 (own_minL q0 q2))), .second] [(.long u1_2)])
    refine own_st (fun _ kt => XS.lload X33.here hx rfl (hb hby at_263) rfl  kt) ?_
    show own_Rch p e below _ T33 (mkF m 265 #[.val (.long q0), .second, .val (.long q2), .second, .val (.long q4), .second, .val (.long q6), .second, .val (.int p8), .val (.int (2 : Int32)), .val (.ref b20), .val (.int (1 : Int32)), .val (.long (own_maxL q6 (own_maxL q0 q2))), .second, .val (.long (own_minL q6 (own_minL q0 q2))), .second] [(.long (own_maxL q6 (own_maxL q0 q2))), (.long u1_2)])
    refine own_st (fun _ kt => XS.lcmp X33.here hx rfl (hb hby at_265) rfl kt) ?_
    show own_Rch p e below _ T33 (mkF m 266 #[.val (.long q0), .second, .val (.long q2), .second, .val (.long q4), .second, .val (.long q6), .second, .val (.int p8), .val (.int (2 : Int32)), .val (.ref b20), .val (.int (1 : Int32)), .val (.long (own_maxL q6 (own_maxL q0 q2))), .second, .val (.long (own_minL q6 (own_minL q0 q2))), .second] [(.int (lcmpW u1_2 (own_maxL q6 (own_maxL q0 q2))))])
    refine own_st (fun _ kt => XS.ifNo X33.here hx rfl (hb hby at_266) rfl ((if0 _ _).trans (teq (by rw [lw_eq, ← Int64.toInt_inj]; have he0 := own_ends2 hs0; have he1 := own_ends3 hs1; have hm0 := own_maxL_b q6 (own_maxL q0 q2); have hm1 := own_maxL_b q0 q2; omega : (lcmpW u1_2 (own_maxL q6 (own_maxL q0 q2))) = (0 : Int32))).2) kt) ?_
    show own_Rch p e below _ T33 (mkF m 269 #[.val (.long q0), .second, .val (.long q2), .second, .val (.long q4), .second, .val (.long q6), .second, .val (.int p8), .val (.int (2 : Int32)), .val (.ref b20), .val (.int (1 : Int32)), .val (.long (own_maxL q6 (own_maxL q0 q2))), .second, .val (.long (own_minL q6 (own_minL q0 q2))), .second] [])
    refine own_st (fun _ kt => XS.iconst X33.here hx rfl (hb hby at_269) kt) ?_
    show own_Rch p e below _ T33 (mkF m 270 #[.val (.long q0), .second, .val (.long q2), .second, .val (.long q4), .second, .val (.long q6), .second, .val (.int p8), .val (.int (2 : Int32)), .val (.ref b20), .val (.int (1 : Int32)), .val (.long (own_maxL q6 (own_maxL q0 q2))), .second, .val (.long (own_minL q6 (own_minL q0 q2))), .second] [(.int (1 : Int32))])
    refine own_st (fun _ kt => XS.goto X33.here hx rfl (pc0 := 270) (pc' := 274) rfl (hb hby at_270) (by decide) (by decide) kt) ?_
    show own_Rch p e below _ T33 (mkF m 274 #[.val (.long q0), .second, .val (.long q2), .second, .val (.long q4), .second, .val (.long q6), .second, .val (.int p8), .val (.int (2 : Int32)), .val (.ref b20), .val (.int (1 : Int32)), .val (.long (own_maxL q6 (own_maxL q0 q2))), .second, .val (.long (own_minL q6 (own_minL q0 q2))), .second] [(.int (1 : Int32))])
    refine own_st (fun _ kt => XS.istore X33.here hx rfl (hb hby at_274) rfl (l' := #[.val (.long q0), .second, .val (.long q2), .second, .val (.long q4), .second, .val (.long q6), .second, .val (.int p8), .val (.int (2 : Int32)), .val (.ref b20), .val (.int (1 : Int32)), .val (.long (own_maxL q6 (own_maxL q0 q2))), .second, .val (.long (own_minL q6 (own_minL q0 q2))), .second]) rfl kt) ?_
    show own_Rch p e below _ T33 (mkF m 276 #[.val (.long q0), .second, .val (.long q2), .second, .val (.long q4), .second, .val (.long q6), .second, .val (.int p8), .val (.int (2 : Int32)), .val (.ref b20), .val (.int (1 : Int32)), .val (.long (own_maxL q6 (own_maxL q0 q2))), .second, .val (.long (own_minL q6 (own_minL q0 q2))), .second] [])
    refine own_st (fun _ kt => XS.iload X33.here hx rfl (hb hby at_276) rfl  kt) ?_
    show own_Rch p e below _ T33 (mkF m 278 #[.val (.long q0), .second, .val (.long q2), .second, .val (.long q4), .second, .val (.long q6), .second, .val (.int p8), .val (.int (2 : Int32)), .val (.ref b20), .val (.int (1 : Int32)), .val (.long (own_maxL q6 (own_maxL q0 q2))), .second, .val (.long (own_minL q6 (own_minL q0 q2))), .second] [(.int (1 : Int32))])
    refine own_retN (t := .boolean) (by simp) X33 hx Bd.notSynchronized Bd.returns (hb hby at_278) (by decide) (by decide) ?_
    rw [hh33]
    exact ⟨rfl, N33⟩
  · rw [hm]
    show own_Rch p e below _ s₁ (mkF m 6 #[.val (.long q0), .second, .val (.long q2), .second, .val (.long q4), .second, .val (.long q6), .second, .val (.int p8), .val (.int (3 : Int32)), .unset, .unset, .unset, .unset, .unset, .unset] [])
    obtain ⟨T34, h34, X34, e34, E34, A34, D34, U34, st34⟩ := newO X0 hx hZ hown (hw _ (List.mem_of_getElem? (i := 0) rfl)) (hw _ (List.mem_of_getElem? (i := 1) rfl)) (hw _ (List.mem_of_getElem? (i := 2) rfl)) e0 (g := (mkF m 6 #[.val (.long q0), .second, .val (.long q2), .second, .val (.long q4), .second, .val (.long q6), .second, .val (.int p8), .val (.int (3 : Int32)), .unset, .unset, .unset, .unset, .unset, .unset] [])) rfl (hb hby at_6) (by decide) (by decide)
    obtain ⟨b34, g34⟩ : ∃ z, z = h0.size := ⟨_, rfl⟩
    rw [← g34] at A34 D34 U34 st34
    have ge34 : n0 ≤ b34 := by rw [g34]; exact own_old_le O0
    have O0_x34 := O0.ext E34
    refine own_st st34 ?_
    have F34_nanos : Fld Z h34 b34 "com/example/respite/respite/cli/Latencies" "nanos" "[J" .null := D34 (Or.inl (hw _ (List.mem_of_getElem? (i := 11) rfl))) (ty := (.array .long)) (by decide)
    have F34_sorted : Fld Z h34 b34 "com/example/respite/respite/cli/Latencies" "sorted" "Z" (.int (0 : Int32)) := D34 (Or.inl (hw _ (List.mem_of_getElem? (i := 13) rfl))) (ty := .boolean) (by decide)
    have F34_count : Fld Z h34 b34 "com/example/respite/respite/cli/Latencies" "count" "I" (.int (0 : Int32)) := D34 (Or.inl (hw _ (List.mem_of_getElem? (i := 20) rfl))) (ty := .int) (by decide)
    show own_Rch p e below _ T34 (mkF m 9 #[.val (.long q0), .second, .val (.long q2), .second, .val (.long q4), .second, .val (.long q6), .second, .val (.int p8), .val (.int (3 : Int32)), .unset, .unset, .unset, .unset, .unset, .unset] [(.ref b34)])
    refine own_st (fun _ kt => XS.dup X34.here hx rfl (hb hby at_9) rfl rfl kt) ?_
    show own_Rch p e below _ T34 (mkF m 10 #[.val (.long q0), .second, .val (.long q2), .second, .val (.long q4), .second, .val (.long q6), .second, .val (.int p8), .val (.int (3 : Int32)), .unset, .unset, .unset, .unset, .unset, .unset] [(.ref b34), (.ref b34)])
    obtain ⟨_, _, ⟨T35, L35, k35, n35⟩, -, X35, ⟨Lc35, hQ35, l35, y35, z35⟩, st35⟩ := X34.specialBack hx (y := (⟨"com/example/respite/respite/cli/Latencies", "<init>", "()V"⟩ : MethodName)) rfl hown (mvT hZ (hw _ (List.mem_of_getElem? (i := 3) rfl))) (mvT hZ (hw _ (List.mem_of_getElem? (i := 4) rfl))) (mvT hZ (hw _ (List.mem_of_getElem? (i := 5) rfl))) (by decide) (backOf (W := 1) (own_init l Z a0 hw [] b34 h34 n0 O0_x34 A34 F34_nanos F34_count F34_sorted ge34) hZ (hw _ (List.mem_of_getElem? (i := 5) rfl)) (hw _ (List.mem_of_getElem? (i := 2) rfl)) (by decide) (by decide)) (g := (mkF m 10 #[.val (.long q0), .second, .val (.long q2), .second, .val (.long q4), .second, .val (.long q6), .second, .val (.int p8), .val (.int (3 : Int32)), .unset, .unset, .unset, .unset, .unset, .unset] [(.ref b34), (.ref b34)])) rfl (by rw [hml]; rfl) (Steps.refl _) (a := b34) (argsL := []) (rest := [(.ref b34)]) (lenOf own_pd5 rfl) rfl (by show 2 * 0 + _ ≤ _; exact Nat.le_of_eq rfl) (hb hby at_10) (fun _ _ => ⟨rfl, e34, (by decide : 1 + 1 ≤ _), (by decide : 3 + 1024 ≤ _)⟩)
    dsimp only [Pt.U, Pt.locs, Pt.cells, Pt.slots] at X35 l35 y35 z35 st35 hQ35
    subst l35 y35 z35
    obtain ⟨ar35, ka35, rfl, N35q, K35, hb35, Ea35, Fn35, Fc35, Fs35, Vb35⟩ := hQ35
    have N35 := Fr.app N0 N35q
    refine own_st (fun _ kt => st35.trans kt) ?_
    have ne35_b34_ar35 : b34 ≠ ar35 := Nat.ne_of_lt (Nat.lt_of_lt_of_le F34_nanos.lt hb35)
    have ge35_ar35 : n0 ≤ ar35 := Nat.le_trans (own_old_le O0_x34) hb35
    have O0_x35 := O0_x34.keep K35 (allS ge34 all0)
    have A34_x35 := A34.keep K35
    show own_Rch p e below _ T35 (mkF m 13 #[.val (.long q0), .second, .val (.long q2), .second, .val (.long q4), .second, .val (.long q6), .second, .val (.int p8), .val (.int (3 : Int32)), .unset, .unset, .unset, .unset, .unset, .unset] [(.ref b34)])
    refine own_st (fun _ kt => XS.astore X35.here hx rfl (hb hby at_13) rfl rfl (l' := #[.val (.long q0), .second, .val (.long q2), .second, .val (.long q4), .second, .val (.long q6), .second, .val (.int p8), .val (.int (3 : Int32)), .val (.ref b34), .unset, .unset, .unset, .unset, .unset]) rfl kt) ?_
    show own_Rch p e below _ T35 (mkF m 15 #[.val (.long q0), .second, .val (.long q2), .second, .val (.long q4), .second, .val (.long q6), .second, .val (.int p8), .val (.int (3 : Int32)), .val (.ref b34), .unset, .unset, .unset, .unset, .unset] [])
    refine own_st (fun _ kt => XS.iload X35.here hx rfl (hb hby at_15) rfl  kt) ?_
    show own_Rch p e below _ T35 (mkF m 17 #[.val (.long q0), .second, .val (.long q2), .second, .val (.long q4), .second, .val (.long q6), .second, .val (.int p8), .val (.int (3 : Int32)), .val (.ref b34), .unset, .unset, .unset, .unset, .unset] [(.int (3 : Int32))])
    refine own_st (fun _ kt => XS.iconst X35.here hx rfl (hb hby at_17) kt) ?_
    show own_Rch p e below _ T35 (mkF m 18 #[.val (.long q0), .second, .val (.long q2), .second, .val (.long q4), .second, .val (.long q6), .second, .val (.int p8), .val (.int (3 : Int32)), .val (.ref b34), .unset, .unset, .unset, .unset, .unset] [(.int (1 : Int32)), (.int (3 : Int32))])
    refine own_st (fun _ kt => XS.icmpNo X35.here hx rfl (hb hby at_18) rfl (flt ((by decide) : ¬ ((3 : Int32) < (1 : Int32)))).1 kt) ?_
    show own_Rch p e below _ T35 (mkF m 21 #[.val (.long q0), .second, .val (.long q2), .second, .val (.long q4), .second, .val (.long q6), .second, .val (.int p8), .val (.int (3 : Int32)), .val (.ref b34), .unset, .unset, .unset, .unset, .unset] [])
    refine own_st (fun _ kt => XS.aload X35.here hx rfl (hb hby at_21) rfl rfl  kt) ?_
    show own_Rch p e below _ T35 (mkF m 23 #[.val (.long q0), .second, .val (.long q2), .second, .val (.long q4), .second, .val (.long q6), .second, .val (.int p8), .val (.int (3 : Int32)), .val (.ref b34), .unset, .unset, .unset, .unset, .unset] [(.ref b34)])
    refine own_st (fun _ kt => XS.lloadN X35.here hx rfl (hb hby at_23) rfl  kt) ?_
    show own_Rch p e below _ T35 (mkF m 24 #[.val (.long q0), .second, .val (.long q2), .second, .val (.long q4), .second, .val (.long q6), .second, .val (.int p8), .val (.int (3 : Int32)), .val (.ref b34), .unset, .unset, .unset, .unset, .unset] [(.long q0), (.ref b34)])
    obtain ⟨cq36, kq36, q36a, q36b, q36c⟩ := isOf hZ rfl Ea35
    obtain ⟨_, _, ⟨T36, L36, k36, n36⟩, -, X36, ⟨Lc36, hQ36, l36, y36, z36⟩, st36⟩ := X35.virtualBack hx (y := (⟨"com/example/respite/respite/cli/Latencies", "add", "(J)V"⟩ : MethodName)) (z := (⟨"com/example/respite/respite/cli/Latencies", "add", "(J)V"⟩ : MethodName)) hown (mvT hZ (hw _ (List.mem_of_getElem? (i := 14) rfl))) (mvT hZ (hw _ (List.mem_of_getElem? (i := 15) rfl))) (notFace_of_selects (args := #[]) (mvT hZ (hw _ (List.mem_of_getElem? (i := 17) rfl)))) (mvT hZ (hw _ (List.mem_of_getElem? (i := 17) rfl))) (mvT hZ (hw _ (List.mem_of_getElem? (i := 16) rfl))) (by decide) (backOf (W := 0) (own_add0 l Z a0 hw [] b34 ar35 ka35 q0 (0 : Int64) (0 : Int64) (0 : Int64) (0 : Int64) (1 : Int32) T35.heap n0 O0_x35 Ea35 Fn35 Fc35 Fs35 Vb35 ge34 ge35_ar35 ne35_b34_ar35) hZ (hw _ (List.mem_of_getElem? (i := 18) rfl)) (hw _ (List.mem_of_getElem? (i := 2) rfl)) (by decide) (by decide)) q36a q36c (g := (mkF m 24 #[.val (.long q0), .second, .val (.long q2), .second, .val (.long q4), .second, .val (.long q6), .second, .val (.int p8), .val (.int (3 : Int32)), .val (.ref b34), .unset, .unset, .unset, .unset, .unset] [(.long q0), (.ref b34)])) rfl (by rw [hml]; rfl) (Steps.refl _) (argsL := [(.long q0)]) (rest := []) (lenOf own_pd6 rfl) rfl (by show 2 * 0 + _ ≤ _; exact Nat.le_of_eq rfl) (hb hby at_24) (fun _ _ => ⟨rfl, rfl, (by decide : 2 + 0 ≤ _), (by decide : 1027 + 0 ≤ _)⟩)
    dsimp only [Pt.U, Pt.locs, Pt.cells, Pt.slots] at X36 l36 y36 z36 st36 hQ36
    subst l36 y36 z36
    obtain ⟨rfl, N36q, K36, Ea36, Fn36, Fc36, Fs36, Vb36⟩ := hQ36
    have N36 := Fr.app N35 N36q
    refine own_st (fun _ kt => st36.trans kt) ?_
    have O0_x36 := O0_x35.keep K36 (allS ge34 (allS ge35_ar35 all0))
    have Ea35_x36 := Ea35.keep K36
    show own_Rch p e below _ T36 (mkF m 27 #[.val (.long q0), .second, .val (.long q2), .second, .val (.long q4), .second, .val (.long q6), .second, .val (.int p8), .val (.int (3 : Int32)), .val (.ref b34), .unset, .unset, .unset, .unset, .unset] [])
    refine own_st (fun _ kt => XS.iload X36.here hx rfl (hb hby at_27) rfl  kt) ?_
    show own_Rch p e below _ T36 (mkF m 29 #[.val (.long q0), .second, .val (.long q2), .second, .val (.long q4), .second, .val (.long q6), .second, .val (.int p8), .val (.int (3 : Int32)), .val (.ref b34), .unset, .unset, .unset, .unset, .unset] [(.int (3 : Int32))])
    refine own_st (fun _ kt => XS.iconst X36.here hx rfl (hb hby at_29) kt) ?_
    show own_Rch p e below _ T36 (mkF m 30 #[.val (.long q0), .second, .val (.long q2), .second, .val (.long q4), .second, .val (.long q6), .second, .val (.int p8), .val (.int (3 : Int32)), .val (.ref b34), .unset, .unset, .unset, .unset, .unset] [(.int (2 : Int32)), (.int (3 : Int32))])
    refine own_st (fun _ kt => XS.icmpNo X36.here hx rfl (hb hby at_30) rfl (flt ((by decide) : ¬ ((3 : Int32) < (2 : Int32)))).1 kt) ?_
    show own_Rch p e below _ T36 (mkF m 33 #[.val (.long q0), .second, .val (.long q2), .second, .val (.long q4), .second, .val (.long q6), .second, .val (.int p8), .val (.int (3 : Int32)), .val (.ref b34), .unset, .unset, .unset, .unset, .unset] [])
    refine own_st (fun _ kt => XS.aload X36.here hx rfl (hb hby at_33) rfl rfl  kt) ?_
    show own_Rch p e below _ T36 (mkF m 35 #[.val (.long q0), .second, .val (.long q2), .second, .val (.long q4), .second, .val (.long q6), .second, .val (.int p8), .val (.int (3 : Int32)), .val (.ref b34), .unset, .unset, .unset, .unset, .unset] [(.ref b34)])
    refine own_st (fun _ kt => XS.lloadN X36.here hx rfl (hb hby at_35) rfl  kt) ?_
    show own_Rch p e below _ T36 (mkF m 36 #[.val (.long q0), .second, .val (.long q2), .second, .val (.long q4), .second, .val (.long q6), .second, .val (.int p8), .val (.int (3 : Int32)), .val (.ref b34), .unset, .unset, .unset, .unset, .unset] [(.long q2), (.ref b34)])
    obtain ⟨cq37, kq37, q37a, q37b, q37c⟩ := isOf hZ rfl Ea36
    obtain ⟨_, _, ⟨T37, L37, k37, n37⟩, -, X37, ⟨Lc37, hQ37, l37, y37, z37⟩, st37⟩ := X36.virtualBack hx (y := (⟨"com/example/respite/respite/cli/Latencies", "add", "(J)V"⟩ : MethodName)) (z := (⟨"com/example/respite/respite/cli/Latencies", "add", "(J)V"⟩ : MethodName)) hown (mvT hZ (hw _ (List.mem_of_getElem? (i := 14) rfl))) (mvT hZ (hw _ (List.mem_of_getElem? (i := 15) rfl))) (notFace_of_selects (args := #[]) (mvT hZ (hw _ (List.mem_of_getElem? (i := 17) rfl)))) (mvT hZ (hw _ (List.mem_of_getElem? (i := 17) rfl))) (mvT hZ (hw _ (List.mem_of_getElem? (i := 16) rfl))) (by decide) (backOf (W := 0) (own_add1 l Z a0 hw [] b34 ar35 ka35 q2 q0 (0 : Int64) (0 : Int64) (0 : Int64) (0 : Int32) T36.heap n0 O0_x36 Ea36 Fn36 Fc36 Fs36 Vb36 ge34 ge35_ar35 ne35_b34_ar35) hZ (hw _ (List.mem_of_getElem? (i := 18) rfl)) (hw _ (List.mem_of_getElem? (i := 2) rfl)) (by decide) (by decide)) q37a q37c (g := (mkF m 36 #[.val (.long q0), .second, .val (.long q2), .second, .val (.long q4), .second, .val (.long q6), .second, .val (.int p8), .val (.int (3 : Int32)), .val (.ref b34), .unset, .unset, .unset, .unset, .unset] [(.long q2), (.ref b34)])) rfl (by rw [hml]; rfl) (Steps.refl _) (argsL := [(.long q2)]) (rest := []) (lenOf own_pd6 rfl) rfl (by show 2 * 0 + _ ≤ _; exact Nat.le_of_eq rfl) (hb hby at_36) (fun _ _ => ⟨rfl, rfl, (by decide : 2 + 0 ≤ _), (by decide : 1027 + 0 ≤ _)⟩)
    dsimp only [Pt.U, Pt.locs, Pt.cells, Pt.slots] at X37 l37 y37 z37 st37 hQ37
    subst l37 y37 z37
    obtain ⟨rfl, N37q, K37, Ea37, Fn37, Fc37, Fs37, Vb37⟩ := hQ37
    have N37 := Fr.app N36 N37q
    refine own_st (fun _ kt => st37.trans kt) ?_
    have O0_x37 := O0_x36.keep K37 (allS ge34 (allS ge35_ar35 all0))
    have Ea36_x37 := Ea36.keep K37
    show own_Rch p e below _ T37 (mkF m 39 #[.val (.long q0), .second, .val (.long q2), .second, .val (.long q4), .second, .val (.long q6), .second, .val (.int p8), .val (.int (3 : Int32)), .val (.ref b34), .unset, .unset, .unset, .unset, .unset] [])
    refine own_st (fun _ kt => XS.iload X37.here hx rfl (hb hby at_39) rfl  kt) ?_
    show own_Rch p e below _ T37 (mkF m 41 #[.val (.long q0), .second, .val (.long q2), .second, .val (.long q4), .second, .val (.long q6), .second, .val (.int p8), .val (.int (3 : Int32)), .val (.ref b34), .unset, .unset, .unset, .unset, .unset] [(.int (3 : Int32))])
    refine own_st (fun _ kt => XS.iconst X37.here hx rfl (hb hby at_41) kt) ?_
    show own_Rch p e below _ T37 (mkF m 42 #[.val (.long q0), .second, .val (.long q2), .second, .val (.long q4), .second, .val (.long q6), .second, .val (.int p8), .val (.int (3 : Int32)), .val (.ref b34), .unset, .unset, .unset, .unset, .unset] [(.int (3 : Int32)), (.int (3 : Int32))])
    refine own_st (fun _ kt => XS.icmpNo X37.here hx rfl (hb hby at_42) rfl (flt ((by decide) : ¬ ((3 : Int32) < (3 : Int32)))).1 kt) ?_
    show own_Rch p e below _ T37 (mkF m 45 #[.val (.long q0), .second, .val (.long q2), .second, .val (.long q4), .second, .val (.long q6), .second, .val (.int p8), .val (.int (3 : Int32)), .val (.ref b34), .unset, .unset, .unset, .unset, .unset] [])
    refine own_st (fun _ kt => XS.aload X37.here hx rfl (hb hby at_45) rfl rfl  kt) ?_
    show own_Rch p e below _ T37 (mkF m 47 #[.val (.long q0), .second, .val (.long q2), .second, .val (.long q4), .second, .val (.long q6), .second, .val (.int p8), .val (.int (3 : Int32)), .val (.ref b34), .unset, .unset, .unset, .unset, .unset] [(.ref b34)])
    refine own_st (fun _ kt => XS.lload X37.here hx rfl (hb hby at_47) rfl  kt) ?_
    show own_Rch p e below _ T37 (mkF m 49 #[.val (.long q0), .second, .val (.long q2), .second, .val (.long q4), .second, .val (.long q6), .second, .val (.int p8), .val (.int (3 : Int32)), .val (.ref b34), .unset, .unset, .unset, .unset, .unset] [(.long q4), (.ref b34)])
    obtain ⟨cq38, kq38, q38a, q38b, q38c⟩ := isOf hZ rfl Ea37
    obtain ⟨_, _, ⟨T38, L38, k38, n38⟩, -, X38, ⟨Lc38, hQ38, l38, y38, z38⟩, st38⟩ := X37.virtualBack hx (y := (⟨"com/example/respite/respite/cli/Latencies", "add", "(J)V"⟩ : MethodName)) (z := (⟨"com/example/respite/respite/cli/Latencies", "add", "(J)V"⟩ : MethodName)) hown (mvT hZ (hw _ (List.mem_of_getElem? (i := 14) rfl))) (mvT hZ (hw _ (List.mem_of_getElem? (i := 15) rfl))) (notFace_of_selects (args := #[]) (mvT hZ (hw _ (List.mem_of_getElem? (i := 17) rfl)))) (mvT hZ (hw _ (List.mem_of_getElem? (i := 17) rfl))) (mvT hZ (hw _ (List.mem_of_getElem? (i := 16) rfl))) (by decide) (backOf (W := 0) (own_add2 l Z a0 hw [] b34 ar35 ka35 q4 q0 q2 (0 : Int64) (0 : Int64) (0 : Int32) T37.heap n0 O0_x37 Ea37 Fn37 Fc37 Fs37 Vb37 ge34 ge35_ar35 ne35_b34_ar35) hZ (hw _ (List.mem_of_getElem? (i := 18) rfl)) (hw _ (List.mem_of_getElem? (i := 2) rfl)) (by decide) (by decide)) q38a q38c (g := (mkF m 49 #[.val (.long q0), .second, .val (.long q2), .second, .val (.long q4), .second, .val (.long q6), .second, .val (.int p8), .val (.int (3 : Int32)), .val (.ref b34), .unset, .unset, .unset, .unset, .unset] [(.long q4), (.ref b34)])) rfl (by rw [hml]; rfl) (Steps.refl _) (argsL := [(.long q4)]) (rest := []) (lenOf own_pd6 rfl) rfl (by show 2 * 0 + _ ≤ _; exact Nat.le_of_eq rfl) (hb hby at_49) (fun _ _ => ⟨rfl, rfl, (by decide : 2 + 0 ≤ _), (by decide : 1027 + 0 ≤ _)⟩)
    dsimp only [Pt.U, Pt.locs, Pt.cells, Pt.slots] at X38 l38 y38 z38 st38 hQ38
    subst l38 y38 z38
    obtain ⟨rfl, N38q, K38, Ea38, Fn38, Fc38, Fs38, Vb38⟩ := hQ38
    have N38 := Fr.app N37 N38q
    refine own_st (fun _ kt => st38.trans kt) ?_
    have O0_x38 := O0_x37.keep K38 (allS ge34 (allS ge35_ar35 all0))
    have Ea37_x38 := Ea37.keep K38
    show own_Rch p e below _ T38 (mkF m 52 #[.val (.long q0), .second, .val (.long q2), .second, .val (.long q4), .second, .val (.long q6), .second, .val (.int p8), .val (.int (3 : Int32)), .val (.ref b34), .unset, .unset, .unset, .unset, .unset] [])
    refine own_st (fun _ kt => XS.iconst X38.here hx rfl (hb hby at_52) kt) ?_
    show own_Rch p e below _ T38 (mkF m 53 #[.val (.long q0), .second, .val (.long q2), .second, .val (.long q4), .second, .val (.long q6), .second, .val (.int p8), .val (.int (3 : Int32)), .val (.ref b34), .unset, .unset, .unset, .unset, .unset] [(.int (1 : Int32))])
    refine own_st (fun _ kt => XS.istore X38.here hx rfl (hb hby at_53) rfl (l' := #[.val (.long q0), .second, .val (.long q2), .second, .val (.long q4), .second, .val (.long q6), .second, .val (.int p8), .val (.int (3 : Int32)), .val (.ref b34), .val (.int (1 : Int32)), .unset, .unset, .unset, .unset]) rfl kt) ?_
    show own_Rch p e below _ T38 (mkF m 55 #[.val (.long q0), .second, .val (.long q2), .second, .val (.long q4), .second, .val (.long q6), .second, .val (.int p8), .val (.int (3 : Int32)), .val (.ref b34), .val (.int (1 : Int32)), .unset, .unset, .unset, .unset] [])
    refine own_st (fun _ kt => XS.iload X38.here hx rfl (hb hby at_55) rfl  kt) ?_
    show own_Rch p e below _ T38 (mkF m 57 #[.val (.long q0), .second, .val (.long q2), .second, .val (.long q4), .second, .val (.long q6), .second, .val (.int p8), .val (.int (3 : Int32)), .val (.ref b34), .val (.int (1 : Int32)), .unset, .unset, .unset, .unset] [(.int (3 : Int32))])
    refine own_st (fun _ kt => XS.iconst X38.here hx rfl (hb hby at_57) kt) ?_
    show own_Rch p e below _ T38 (mkF m 58 #[.val (.long q0), .second, .val (.long q2), .second, .val (.long q4), .second, .val (.long q6), .second, .val (.int p8), .val (.int (3 : Int32)), .val (.ref b34), .val (.int (1 : Int32)), .unset, .unset, .unset, .unset] [(.int (1 : Int32)), (.int (3 : Int32))])
    refine own_st (fun _ kt => XS.icmpNo X38.here hx rfl (hb hby at_58) rfl (flt ((by decide) : ¬ ((3 : Int32) < (1 : Int32)))).1 kt) ?_
    show own_Rch p e below _ T38 (mkF m 61 #[.val (.long q0), .second, .val (.long q2), .second, .val (.long q4), .second, .val (.long q6), .second, .val (.int p8), .val (.int (3 : Int32)), .val (.ref b34), .val (.int (1 : Int32)), .unset, .unset, .unset, .unset] [])
    refine own_st (fun _ kt => XS.iload X38.here hx rfl (hb hby at_61) rfl  kt) ?_
    show own_Rch p e below _ T38 (mkF m 63 #[.val (.long q0), .second, .val (.long q2), .second, .val (.long q4), .second, .val (.long q6), .second, .val (.int p8), .val (.int (3 : Int32)), .val (.ref b34), .val (.int (1 : Int32)), .unset, .unset, .unset, .unset] [(.int (1 : Int32))])
    refine own_st (fun _ kt => XS.ifNo X38.here hx rfl (hb hby at_63) rfl ((if0 _ _).trans (feq ((by decide) : ¬ ((1 : Int32) = (0 : Int32)))).1) kt) ?_
    show own_Rch p e below _ T38 (mkF m 66 #[.val (.long q0), .second, .val (.long q2), .second, .val (.long q4), .second, .val (.long q6), .second, .val (.int p8), .val (.int (3 : Int32)), .val (.ref b34), .val (.int (1 : Int32)), .unset, .unset, .unset, .unset] [])
    refine own_st (fun _ kt => XS.aload X38.here hx rfl (hb hby at_66) rfl rfl  kt) ?_
    show own_Rch p e below _ T38 (mkF m 68 #[.val (.long q0), .second, .val (.long q2), .second, .val (.long q4), .second, .val (.long q6), .second, .val (.int p8), .val (.int (3 : Int32)), .val (.ref b34), .val (.int (1 : Int32)), .unset, .unset, .unset, .unset] [(.ref b34)])
    refine own_st (fun _ kt => XS.bipush X38.here hx rfl (hb hby at_68) kt) ?_
    show own_Rch p e below _ T38 (mkF m 70 #[.val (.long q0), .second, .val (.long q2), .second, .val (.long q4), .second, .val (.long q6), .second, .val (.int p8), .val (.int (3 : Int32)), .val (.ref b34), .val (.int (1 : Int32)), .unset, .unset, .unset, .unset] [(.int (100 : Int32)), (.ref b34)])
    obtain ⟨cq39, kq39, q39a, q39b, q39c⟩ := isOf hZ rfl Ea38
    obtain ⟨_, _, ⟨T39, L39, k39, n39⟩, -, X39, ⟨Lc39, hQ39, l39, y39, z39⟩, st39⟩ := X38.virtualBack hx (y := (⟨"com/example/respite/respite/cli/Latencies", "percentile", "(I)J"⟩ : MethodName)) (z := (⟨"com/example/respite/respite/cli/Latencies", "percentile", "(I)J"⟩ : MethodName)) hown (mvT hZ (hw _ (List.mem_of_getElem? (i := 21) rfl))) (mvT hZ (hw _ (List.mem_of_getElem? (i := 22) rfl))) (notFace_of_selects (args := #[]) (mvT hZ (hw _ (List.mem_of_getElem? (i := 24) rfl)))) (mvT hZ (hw _ (List.mem_of_getElem? (i := 24) rfl))) (mvT hZ (hw _ (List.mem_of_getElem? (i := 23) rfl))) (by decide) (backOf (W := 0) (own_pc_100_3_0 l Z a0 hw [] b34 ar35 ka35 q0 q2 q4 (0 : Int64) T38.heap n0 O0_x38 Ea38 Fn38 Fc38 Fs38 Vb38 ge34 ge35_ar35 ne35_b34_ar35) hZ (hw _ (List.mem_of_getElem? (i := 25) rfl)) (hw _ (List.mem_of_getElem? (i := 2) rfl)) (by decide) (by decide)) q39a q39c (g := (mkF m 70 #[.val (.long q0), .second, .val (.long q2), .second, .val (.long q4), .second, .val (.long q6), .second, .val (.int p8), .val (.int (3 : Int32)), .val (.ref b34), .val (.int (1 : Int32)), .unset, .unset, .unset, .unset] [(.int (100 : Int32)), (.ref b34)])) rfl (by rw [hml]; rfl) (Steps.refl _) (argsL := [(.int (100 : Int32))]) (rest := []) (lenOf own_pd8 rfl) rfl (by show 2 * 0 + _ ≤ _; exact Nat.le_of_eq rfl) (hb hby at_70) (fun _ _ => ⟨rfl, rfl, (by decide : 2 + 0 ≤ _), (by decide : 1027 + 0 ≤ _)⟩)
    dsimp only [Pt.U, Pt.locs, Pt.cells, Pt.slots] at X39 l39 y39 z39 st39 hQ39
    subst l39 y39 z39
    obtain ⟨u0_0, u0_1, u0_2, hs0, rfl, N39q, K39, Ea39, Fn39, Fc39, Fs39, Vb39⟩ := hQ39
    have N39 := Fr.app N38 N39q
    refine own_st (fun _ kt => st39.trans kt) ?_
    have O0_x39 := O0_x38.keep K39 (allS ge34 (allS ge35_ar35 all0))
    have Ea38_x39 := Ea38.keep K39
    show own_Rch p e below _ T39 (mkF m 73 #[.val (.long q0), .second, .val (.long q2), .second, .val (.long q4), .second, .val (.long q6), .second, .val (.int p8), .val (.int (3 : Int32)), .val (.ref b34), .val (.int (1 : Int32)), .unset, .unset, .unset, .unset] [(.long u0_2)])
    refine own_st (fun _ kt => XS.lloadN X39.here hx rfl (hb hby at_73) rfl  kt) ?_
    show own_Rch p e below _ T39 (mkF m 74 #[.val (.long q0), .second, .val (.long q2), .second, .val (.long q4), .second, .val (.long q6), .second, .val (.int p8), .val (.int (3 : Int32)), .val (.ref b34), .val (.int (1 : Int32)), .unset, .unset, .unset, .unset] [(.long q0), (.long u0_2)])
    refine own_st (fun _ kt => XS.lloadN X39.here hx rfl (hb hby at_74) rfl  kt) ?_
    show own_Rch p e below _ T39 (mkF m 75 #[.val (.long q0), .second, .val (.long q2), .second, .val (.long q4), .second, .val (.long q6), .second, .val (.int p8), .val (.int (3 : Int32)), .val (.ref b34), .val (.int (1 : Int32)), .unset, .unset, .unset, .unset] [(.long q2), (.long q0), (.long u0_2)])
    refine own_st (fun _ kt => XS.lload X39.here hx rfl (hb hby at_75) rfl  kt) ?_
    show own_Rch p e below _ T39 (mkF m 77 #[.val (.long q0), .second, .val (.long q2), .second, .val (.long q4), .second, .val (.long q6), .second, .val (.int p8), .val (.int (3 : Int32)), .val (.ref b34), .val (.int (1 : Int32)), .unset, .unset, .unset, .unset] [(.long q4), (.long q2), (.long q0), (.long u0_2)])
    refine own_st (fun _ kt => XS.iload X39.here hx rfl (hb hby at_77) rfl  kt) ?_
    show own_Rch p e below _ T39 (mkF m 79 #[.val (.long q0), .second, .val (.long q2), .second, .val (.long q4), .second, .val (.long q6), .second, .val (.int p8), .val (.int (3 : Int32)), .val (.ref b34), .val (.int (1 : Int32)), .unset, .unset, .unset, .unset] [(.int (3 : Int32)), (.long q4), (.long q2), (.long q0), (.long u0_2)])
    obtain ⟨_, _, ⟨T40, L40, k40, n40⟩, -, X40, ⟨Lc40, hQ40, l40, y40, z40⟩, st40⟩ := Jvm.LawKit.callS X39 hx (y := (⟨"com/example/respite/respite/cli/LatenciesAddPinLaw", "maxOf", "(JJJI)J"⟩ : MethodName)) hown (mvT hZ (hw _ (List.mem_of_getElem? (i := 53) rfl))) (mvT hZ (hw _ (List.mem_of_getElem? (i := 54) rfl))) (mvT hZ (hw _ (List.mem_of_getElem? (i := 55) rfl))) (mvT hZ (hw _ (List.mem_of_getElem? (i := 56) rfl))) (by decide) (backOf (W := 2) (own_maxof3 l Z a0 hw [] q0 q2 q4 T39.heap n0 O0_x39 ) hZ (hw _ (List.mem_of_getElem? (i := 56) rfl)) (hw _ (List.mem_of_getElem? (i := 55) rfl)) (by decide) (by decide)) (g := (mkF m 79 #[.val (.long q0), .second, .val (.long q2), .second, .val (.long q4), .second, .val (.long q6), .second, .val (.int p8), .val (.int (3 : Int32)), .val (.ref b34), .val (.int (1 : Int32)), .unset, .unset, .unset, .unset] [(.int (3 : Int32)), (.long q4), (.long q2), (.long q0), (.long u0_2)])) rfl (by rw [hml]; rfl) (argsL := [(.long q0), (.long q2), (.long q4), (.int (3 : Int32))]) (rest := [(.long u0_2)]) (lenOf own_pd9 rfl) rfl (by show 2 * 0 + _ ≤ _; exact Nat.le_of_eq rfl) (hb hby at_79) (fun _ _ => ⟨rfl, rfl, (by decide : 2 + 0 ≤ _), (by decide : 1027 + 0 ≤ _)⟩)
    dsimp only [Pt.U, Pt.locs, Pt.cells, Pt.slots] at X40 l40 y40 z40 st40 hQ40
    subst l40 y40 z40
    obtain ⟨rfl, N40q, hh40⟩ := hQ40
    have N40 := Fr.app N39 N40q
    refine own_st st40 ?_
    show own_Rch p e below _ T40 (mkF m 82 #[.val (.long q0), .second, .val (.long q2), .second, .val (.long q4), .second, .val (.long q6), .second, .val (.int p8), .val (.int (3 : Int32)), .val (.ref b34), .val (.int (1 : Int32)), .unset, .unset, .unset, .unset] [(.long (own_maxL q0 (own_maxL q2 q4))), (.long u0_2)])
    refine own_st (fun _ kt => XS.lcmp X40.here hx rfl (hb hby at_82) rfl kt) ?_
    show own_Rch p e below _ T40 (mkF m 83 #[.val (.long q0), .second, .val (.long q2), .second, .val (.long q4), .second, .val (.long q6), .second, .val (.int p8), .val (.int (3 : Int32)), .val (.ref b34), .val (.int (1 : Int32)), .unset, .unset, .unset, .unset] [(.int (lcmpW u0_2 (own_maxL q0 (own_maxL q2 q4))))])
    refine own_st (fun _ kt => XS.ifNo X40.here hx rfl (hb hby at_83) rfl ((if0 _ _).trans (teq (by rw [lw_eq, ← Int64.toInt_inj]; have he0 := own_ends3 hs0; have hm0 := own_maxL_b q0 (own_maxL q2 q4); have hm1 := own_maxL_b q2 q4; omega : (lcmpW u0_2 (own_maxL q0 (own_maxL q2 q4))) = (0 : Int32))).2) kt) ?_
    show own_Rch p e below _ T40 (mkF m 86 #[.val (.long q0), .second, .val (.long q2), .second, .val (.long q4), .second, .val (.long q6), .second, .val (.int p8), .val (.int (3 : Int32)), .val (.ref b34), .val (.int (1 : Int32)), .unset, .unset, .unset, .unset] [])
    refine own_st (fun _ kt => XS.iconst X40.here hx rfl (hb hby at_86) kt) ?_
    show own_Rch p e below _ T40 (mkF m 87 #[.val (.long q0), .second, .val (.long q2), .second, .val (.long q4), .second, .val (.long q6), .second, .val (.int p8), .val (.int (3 : Int32)), .val (.ref b34), .val (.int (1 : Int32)), .unset, .unset, .unset, .unset] [(.int (1 : Int32))])
    refine own_st (fun _ kt => XS.goto X40.here hx rfl (pc0 := 87) (pc' := 91) rfl (hb hby at_87) (by decide) (by decide) kt) ?_
    show own_Rch p e below _ T40 (mkF m 91 #[.val (.long q0), .second, .val (.long q2), .second, .val (.long q4), .second, .val (.long q6), .second, .val (.int p8), .val (.int (3 : Int32)), .val (.ref b34), .val (.int (1 : Int32)), .unset, .unset, .unset, .unset] [(.int (1 : Int32))])
    refine own_st (fun _ kt => XS.istore X40.here hx rfl (hb hby at_91) rfl (l' := #[.val (.long q0), .second, .val (.long q2), .second, .val (.long q4), .second, .val (.long q6), .second, .val (.int p8), .val (.int (3 : Int32)), .val (.ref b34), .val (.int (1 : Int32)), .unset, .unset, .unset, .unset]) rfl kt) ?_
    show own_Rch p e below _ T40 (mkF m 93 #[.val (.long q0), .second, .val (.long q2), .second, .val (.long q4), .second, .val (.long q6), .second, .val (.int p8), .val (.int (3 : Int32)), .val (.ref b34), .val (.int (1 : Int32)), .unset, .unset, .unset, .unset] [])
    refine own_st (fun _ kt => XS.iload X40.here hx rfl (hb hby at_93) rfl  kt) ?_
    show own_Rch p e below _ T40 (mkF m 95 #[.val (.long q0), .second, .val (.long q2), .second, .val (.long q4), .second, .val (.long q6), .second, .val (.int p8), .val (.int (3 : Int32)), .val (.ref b34), .val (.int (1 : Int32)), .unset, .unset, .unset, .unset] [(.int (3 : Int32))])
    refine own_st (fun _ kt => XS.iconst X40.here hx rfl (hb hby at_95) kt) ?_
    show own_Rch p e below _ T40 (mkF m 96 #[.val (.long q0), .second, .val (.long q2), .second, .val (.long q4), .second, .val (.long q6), .second, .val (.int p8), .val (.int (3 : Int32)), .val (.ref b34), .val (.int (1 : Int32)), .unset, .unset, .unset, .unset] [(.int (3 : Int32)), (.int (3 : Int32))])
    refine own_st (fun _ kt => XS.icmpNo X40.here hx rfl (hb hby at_96) rfl (teq (rfl : (3 : Int32) = (3 : Int32))).2 kt) ?_
    show own_Rch p e below _ T40 (mkF m 99 #[.val (.long q0), .second, .val (.long q2), .second, .val (.long q4), .second, .val (.long q6), .second, .val (.int p8), .val (.int (3 : Int32)), .val (.ref b34), .val (.int (1 : Int32)), .unset, .unset, .unset, .unset] [])
    refine own_st (fun _ kt => XS.lloadN X40.here hx rfl (hb hby at_99) rfl  kt) ?_
    show own_Rch p e below _ T40 (mkF m 100 #[.val (.long q0), .second, .val (.long q2), .second, .val (.long q4), .second, .val (.long q6), .second, .val (.int p8), .val (.int (3 : Int32)), .val (.ref b34), .val (.int (1 : Int32)), .unset, .unset, .unset, .unset] [(.long q0)])
    refine own_st (fun _ kt => XS.lloadN X40.here hx rfl (hb hby at_100) rfl  kt) ?_
    show own_Rch p e below _ T40 (mkF m 101 #[.val (.long q0), .second, .val (.long q2), .second, .val (.long q4), .second, .val (.long q6), .second, .val (.int p8), .val (.int (3 : Int32)), .val (.ref b34), .val (.int (1 : Int32)), .unset, .unset, .unset, .unset] [(.long q2), (.long q0)])
    obtain ⟨_, _, ⟨T41, L41, k41, n41⟩, -, X41, ⟨Lc41, hQ41, l41, y41, z41⟩, st41⟩ := Jvm.LawKit.callS X40 hx (y := (⟨"java/lang/Math", "min", "(JJ)J"⟩ : MethodName)) hown (mvT hZ (hw _ (List.mem_of_getElem? (i := 58) rfl))) (mvT hZ (hw _ (List.mem_of_getElem? (i := 59) rfl))) (mvT hZ (hw _ (List.mem_of_getElem? (i := 51) rfl))) (mvT hZ (hw _ (List.mem_of_getElem? (i := 60) rfl))) (by decide) (backOf (W := 0) (own_lmin l Z a0 hw [] q0 q2 T39.heap n0 O0_x39 ) hZ (hw _ (List.mem_of_getElem? (i := 60) rfl)) (hw _ (List.mem_of_getElem? (i := 51) rfl)) (by decide) (by decide)) (g := (mkF m 101 #[.val (.long q0), .second, .val (.long q2), .second, .val (.long q4), .second, .val (.long q6), .second, .val (.int p8), .val (.int (3 : Int32)), .val (.ref b34), .val (.int (1 : Int32)), .unset, .unset, .unset, .unset] [(.long q2), (.long q0)])) rfl (by rw [hml]; rfl) (argsL := [(.long q0), (.long q2)]) (rest := []) (lenOf own_pd0 rfl) rfl (by show 2 * 0 + _ ≤ _; exact Nat.le_of_eq rfl) (hb hby at_101) (fun _ _ => ⟨rfl, hh40, (by decide : 2 + 0 ≤ _), (by decide : 1027 + 0 ≤ _)⟩)
    dsimp only [Pt.U, Pt.locs, Pt.cells, Pt.slots] at X41 l41 y41 z41 st41 hQ41
    subst l41 y41 z41
    obtain ⟨rfl, N41q, hh41⟩ := hQ41
    have N41 := Fr.app N40 N41q
    refine own_st st41 ?_
    show own_Rch p e below _ T41 (mkF m 104 #[.val (.long q0), .second, .val (.long q2), .second, .val (.long q4), .second, .val (.long q6), .second, .val (.int p8), .val (.int (3 : Int32)), .val (.ref b34), .val (.int (1 : Int32)), .unset, .unset, .unset, .unset] [(.long (own_minL q0 q2))])
    refine own_st (fun _ kt => XS.lloadN X41.here hx rfl (hb hby at_104) rfl  kt) ?_
    show own_Rch p e below _ T41 (mkF m 105 #[.val (.long q0), .second, .val (.long q2), .second, .val (.long q4), .second, .val (.long q6), .second, .val (.int p8), .val (.int (3 : Int32)), .val (.ref b34), .val (.int (1 : Int32)), .unset, .unset, .unset, .unset] [(.long q0), (.long (own_minL q0 q2))])
    refine own_st (fun _ kt => XS.lloadN X41.here hx rfl (hb hby at_105) rfl  kt) ?_
    show own_Rch p e below _ T41 (mkF m 106 #[.val (.long q0), .second, .val (.long q2), .second, .val (.long q4), .second, .val (.long q6), .second, .val (.int p8), .val (.int (3 : Int32)), .val (.ref b34), .val (.int (1 : Int32)), .unset, .unset, .unset, .unset] [(.long q2), (.long q0), (.long (own_minL q0 q2))])
    obtain ⟨_, _, ⟨T42, L42, k42, n42⟩, -, X42, ⟨Lc42, hQ42, l42, y42, z42⟩, st42⟩ := Jvm.LawKit.callS X41 hx (y := (⟨"java/lang/Math", "max", "(JJ)J"⟩ : MethodName)) hown (mvT hZ (hw _ (List.mem_of_getElem? (i := 57) rfl))) (mvT hZ (hw _ (List.mem_of_getElem? (i := 50) rfl))) (mvT hZ (hw _ (List.mem_of_getElem? (i := 51) rfl))) (mvT hZ (hw _ (List.mem_of_getElem? (i := 52) rfl))) (by decide) (backOf (W := 2) (own_lmax l Z a0 hw [] q0 q2 T39.heap n0 O0_x39 ) hZ (hw _ (List.mem_of_getElem? (i := 52) rfl)) (hw _ (List.mem_of_getElem? (i := 51) rfl)) (by decide) (by decide)) (g := (mkF m 106 #[.val (.long q0), .second, .val (.long q2), .second, .val (.long q4), .second, .val (.long q6), .second, .val (.int p8), .val (.int (3 : Int32)), .val (.ref b34), .val (.int (1 : Int32)), .unset, .unset, .unset, .unset] [(.long q2), (.long q0), (.long (own_minL q0 q2))])) rfl (by rw [hml]; rfl) (argsL := [(.long q0), (.long q2)]) (rest := [(.long (own_minL q0 q2))]) (lenOf own_pd0 rfl) rfl (by show 2 * 0 + _ ≤ _; exact Nat.le_of_eq rfl) (hb hby at_106) (fun _ _ => ⟨rfl, hh41, (by decide : 2 + 0 ≤ _), (by decide : 1027 + 0 ≤ _)⟩)
    dsimp only [Pt.U, Pt.locs, Pt.cells, Pt.slots] at X42 l42 y42 z42 st42 hQ42
    subst l42 y42 z42
    obtain ⟨rfl, N42q, hh42⟩ := hQ42
    have N42 := Fr.app N41 N42q
    refine own_st st42 ?_
    show own_Rch p e below _ T42 (mkF m 109 #[.val (.long q0), .second, .val (.long q2), .second, .val (.long q4), .second, .val (.long q6), .second, .val (.int p8), .val (.int (3 : Int32)), .val (.ref b34), .val (.int (1 : Int32)), .unset, .unset, .unset, .unset] [(.long (own_maxL q0 q2)), (.long (own_minL q0 q2))])
    refine own_st (fun _ kt => XS.lload X42.here hx rfl (hb hby at_109) rfl  kt) ?_
    show own_Rch p e below _ T42 (mkF m 111 #[.val (.long q0), .second, .val (.long q2), .second, .val (.long q4), .second, .val (.long q6), .second, .val (.int p8), .val (.int (3 : Int32)), .val (.ref b34), .val (.int (1 : Int32)), .unset, .unset, .unset, .unset] [(.long q4), (.long (own_maxL q0 q2)), (.long (own_minL q0 q2))])
    obtain ⟨_, _, ⟨T43, L43, k43, n43⟩, -, X43, ⟨Lc43, hQ43, l43, y43, z43⟩, st43⟩ := Jvm.LawKit.callS X42 hx (y := (⟨"java/lang/Math", "min", "(JJ)J"⟩ : MethodName)) hown (mvT hZ (hw _ (List.mem_of_getElem? (i := 58) rfl))) (mvT hZ (hw _ (List.mem_of_getElem? (i := 59) rfl))) (mvT hZ (hw _ (List.mem_of_getElem? (i := 51) rfl))) (mvT hZ (hw _ (List.mem_of_getElem? (i := 60) rfl))) (by decide) (backOf (W := 2) (own_lmin l Z a0 hw [] (own_maxL q0 q2) q4 T39.heap n0 O0_x39 ) hZ (hw _ (List.mem_of_getElem? (i := 60) rfl)) (hw _ (List.mem_of_getElem? (i := 51) rfl)) (by decide) (by decide)) (g := (mkF m 111 #[.val (.long q0), .second, .val (.long q2), .second, .val (.long q4), .second, .val (.long q6), .second, .val (.int p8), .val (.int (3 : Int32)), .val (.ref b34), .val (.int (1 : Int32)), .unset, .unset, .unset, .unset] [(.long q4), (.long (own_maxL q0 q2)), (.long (own_minL q0 q2))])) rfl (by rw [hml]; rfl) (argsL := [(.long (own_maxL q0 q2)), (.long q4)]) (rest := [(.long (own_minL q0 q2))]) (lenOf own_pd0 rfl) rfl (by show 2 * 0 + _ ≤ _; exact Nat.le_of_eq rfl) (hb hby at_111) (fun _ _ => ⟨rfl, hh42, (by decide : 2 + 0 ≤ _), (by decide : 1027 + 0 ≤ _)⟩)
    dsimp only [Pt.U, Pt.locs, Pt.cells, Pt.slots] at X43 l43 y43 z43 st43 hQ43
    subst l43 y43 z43
    obtain ⟨rfl, N43q, hh43⟩ := hQ43
    have N43 := Fr.app N42 N43q
    refine own_st st43 ?_
    show own_Rch p e below _ T43 (mkF m 114 #[.val (.long q0), .second, .val (.long q2), .second, .val (.long q4), .second, .val (.long q6), .second, .val (.int p8), .val (.int (3 : Int32)), .val (.ref b34), .val (.int (1 : Int32)), .unset, .unset, .unset, .unset] [(.long (own_minL (own_maxL q0 q2) q4)), (.long (own_minL q0 q2))])
    obtain ⟨_, _, ⟨T44, L44, k44, n44⟩, -, X44, ⟨Lc44, hQ44, l44, y44, z44⟩, st44⟩ := Jvm.LawKit.callS X43 hx (y := (⟨"java/lang/Math", "max", "(JJ)J"⟩ : MethodName)) hown (mvT hZ (hw _ (List.mem_of_getElem? (i := 57) rfl))) (mvT hZ (hw _ (List.mem_of_getElem? (i := 50) rfl))) (mvT hZ (hw _ (List.mem_of_getElem? (i := 51) rfl))) (mvT hZ (hw _ (List.mem_of_getElem? (i := 52) rfl))) (by decide) (backOf (W := 0) (own_lmax l Z a0 hw [] (own_minL q0 q2) (own_minL (own_maxL q0 q2) q4) T39.heap n0 O0_x39 ) hZ (hw _ (List.mem_of_getElem? (i := 52) rfl)) (hw _ (List.mem_of_getElem? (i := 51) rfl)) (by decide) (by decide)) (g := (mkF m 114 #[.val (.long q0), .second, .val (.long q2), .second, .val (.long q4), .second, .val (.long q6), .second, .val (.int p8), .val (.int (3 : Int32)), .val (.ref b34), .val (.int (1 : Int32)), .unset, .unset, .unset, .unset] [(.long (own_minL (own_maxL q0 q2) q4)), (.long (own_minL q0 q2))])) rfl (by rw [hml]; rfl) (argsL := [(.long (own_minL q0 q2)), (.long (own_minL (own_maxL q0 q2) q4))]) (rest := []) (lenOf own_pd0 rfl) rfl (by show 2 * 0 + _ ≤ _; exact Nat.le_of_eq rfl) (hb hby at_114) (fun _ _ => ⟨rfl, hh43, (by decide : 2 + 0 ≤ _), (by decide : 1027 + 0 ≤ _)⟩)
    dsimp only [Pt.U, Pt.locs, Pt.cells, Pt.slots] at X44 l44 y44 z44 st44 hQ44
    subst l44 y44 z44
    obtain ⟨rfl, N44q, hh44⟩ := hQ44
    have N44 := Fr.app N43 N44q
    refine own_st st44 ?_
    show own_Rch p e below _ T44 (mkF m 117 #[.val (.long q0), .second, .val (.long q2), .second, .val (.long q4), .second, .val (.long q6), .second, .val (.int p8), .val (.int (3 : Int32)), .val (.ref b34), .val (.int (1 : Int32)), .unset, .unset, .unset, .unset] [(.long (own_maxL (own_minL q0 q2) (own_minL (own_maxL q0 q2) q4)))])
    refine own_st (fun _ kt => XS.lstore X44.here hx rfl (hb hby at_117) rfl (l' := #[.val (.long q0), .second, .val (.long q2), .second, .val (.long q4), .second, .val (.long q6), .second, .val (.int p8), .val (.int (3 : Int32)), .val (.ref b34), .val (.int (1 : Int32)), .val (.long (own_maxL (own_minL q0 q2) (own_minL (own_maxL q0 q2) q4))), .second, .unset, .unset]) rfl kt) ?_
    show own_Rch p e below _ T44 (mkF m 119 #[.val (.long q0), .second, .val (.long q2), .second, .val (.long q4), .second, .val (.long q6), .second, .val (.int p8), .val (.int (3 : Int32)), .val (.ref b34), .val (.int (1 : Int32)), .val (.long (own_maxL (own_minL q0 q2) (own_minL (own_maxL q0 q2) q4))), .second, .unset, .unset] [])
    refine own_st (fun _ kt => XS.iload X44.here hx rfl (hb hby at_119) rfl  kt) ?_
    show own_Rch p e below _ T44 (mkF m 121 #[.val (.long q0), .second, .val (.long q2), .second, .val (.long q4), .second, .val (.long q6), .second, .val (.int p8), .val (.int (3 : Int32)), .val (.ref b34), .val (.int (1 : Int32)), .val (.long (own_maxL (own_minL q0 q2) (own_minL (own_maxL q0 q2) q4))), .second, .unset, .unset] [(.int (1 : Int32))])
    refine own_st (fun _ kt => XS.ifNo X44.here hx rfl (hb hby at_121) rfl ((if0 _ _).trans (feq ((by decide) : ¬ ((1 : Int32) = (0 : Int32)))).1) kt) ?_
    show own_Rch p e below _ T44 (mkF m 124 #[.val (.long q0), .second, .val (.long q2), .second, .val (.long q4), .second, .val (.long q6), .second, .val (.int p8), .val (.int (3 : Int32)), .val (.ref b34), .val (.int (1 : Int32)), .val (.long (own_maxL (own_minL q0 q2) (own_minL (own_maxL q0 q2) q4))), .second, .unset, .unset] [])
    refine own_st (fun _ kt => XS.aload X44.here hx rfl (hb hby at_124) rfl rfl  kt) ?_
    show own_Rch p e below _ T44 (mkF m 126 #[.val (.long q0), .second, .val (.long q2), .second, .val (.long q4), .second, .val (.long q6), .second, .val (.int p8), .val (.int (3 : Int32)), .val (.ref b34), .val (.int (1 : Int32)), .val (.long (own_maxL (own_minL q0 q2) (own_minL (own_maxL q0 q2) q4))), .second, .unset, .unset] [(.ref b34)])
    refine own_st (fun _ kt => XS.bipush X44.here hx rfl (hb hby at_126) kt) ?_
    show own_Rch p e below _ T44 (mkF m 128 #[.val (.long q0), .second, .val (.long q2), .second, .val (.long q4), .second, .val (.long q6), .second, .val (.int p8), .val (.int (3 : Int32)), .val (.ref b34), .val (.int (1 : Int32)), .val (.long (own_maxL (own_minL q0 q2) (own_minL (own_maxL q0 q2) q4))), .second, .unset, .unset] [(.int (50 : Int32)), (.ref b34)])
    obtain ⟨cq45, kq45, q45a, q45b, q45c⟩ := isOf hZ hh44 Ea39
    obtain ⟨_, _, ⟨T45, L45, k45, n45⟩, -, X45, ⟨Lc45, hQ45, l45, y45, z45⟩, st45⟩ := X44.virtualBack hx (y := (⟨"com/example/respite/respite/cli/Latencies", "percentile", "(I)J"⟩ : MethodName)) (z := (⟨"com/example/respite/respite/cli/Latencies", "percentile", "(I)J"⟩ : MethodName)) hown (mvT hZ (hw _ (List.mem_of_getElem? (i := 21) rfl))) (mvT hZ (hw _ (List.mem_of_getElem? (i := 22) rfl))) (notFace_of_selects (args := #[]) (mvT hZ (hw _ (List.mem_of_getElem? (i := 24) rfl)))) (mvT hZ (hw _ (List.mem_of_getElem? (i := 24) rfl))) (mvT hZ (hw _ (List.mem_of_getElem? (i := 23) rfl))) (by decide) (backOf (W := 0) (own_pc_50_3_1 l Z a0 hw [] b34 ar35 ka35 u0_0 u0_1 u0_2 (0 : Int64) T39.heap n0 O0_x39 Ea39 Fn39 Fc39 Fs39 Vb39 ge34 ge35_ar35 ne35_b34_ar35) hZ (hw _ (List.mem_of_getElem? (i := 25) rfl)) (hw _ (List.mem_of_getElem? (i := 2) rfl)) (by decide) (by decide)) q45a q45c (g := (mkF m 128 #[.val (.long q0), .second, .val (.long q2), .second, .val (.long q4), .second, .val (.long q6), .second, .val (.int p8), .val (.int (3 : Int32)), .val (.ref b34), .val (.int (1 : Int32)), .val (.long (own_maxL (own_minL q0 q2) (own_minL (own_maxL q0 q2) q4))), .second, .unset, .unset] [(.int (50 : Int32)), (.ref b34)])) rfl (by rw [hml]; rfl) (Steps.refl _) (argsL := [(.int (50 : Int32))]) (rest := []) (lenOf own_pd8 rfl) rfl (by show 2 * 0 + _ ≤ _; exact Nat.le_of_eq rfl) (hb hby at_128) (fun _ _ => ⟨rfl, hh44, (by decide : 2 + 0 ≤ _), (by decide : 1027 + 0 ≤ _)⟩)
    dsimp only [Pt.U, Pt.locs, Pt.cells, Pt.slots] at X45 l45 y45 z45 st45 hQ45
    subst l45 y45 z45
    obtain ⟨rfl, N45q, hh45⟩ := hQ45
    have N45 := Fr.app N44 N45q
    refine own_st (fun _ kt => st45.trans kt) ?_
    show own_Rch p e below _ T45 (mkF m 131 #[.val (.long q0), .second, .val (.long q2), .second, .val (.long q4), .second, .val (.long q6), .second, .val (.int p8), .val (.int (3 : Int32)), .val (.ref b34), .val (.int (1 : Int32)), .val (.long (own_maxL (own_minL q0 q2) (own_minL (own_maxL q0 q2) q4))), .second, .unset, .unset] [(.long u0_1)])
    refine own_st (fun _ kt => XS.lload X45.here hx rfl (hb hby at_131) rfl  kt) ?_
    show own_Rch p e below _ T45 (mkF m 133 #[.val (.long q0), .second, .val (.long q2), .second, .val (.long q4), .second, .val (.long q6), .second, .val (.int p8), .val (.int (3 : Int32)), .val (.ref b34), .val (.int (1 : Int32)), .val (.long (own_maxL (own_minL q0 q2) (own_minL (own_maxL q0 q2) q4))), .second, .unset, .unset] [(.long (own_maxL (own_minL q0 q2) (own_minL (own_maxL q0 q2) q4))), (.long u0_1)])
    refine own_st (fun _ kt => XS.lcmp X45.here hx rfl (hb hby at_133) rfl kt) ?_
    show own_Rch p e below _ T45 (mkF m 134 #[.val (.long q0), .second, .val (.long q2), .second, .val (.long q4), .second, .val (.long q6), .second, .val (.int p8), .val (.int (3 : Int32)), .val (.ref b34), .val (.int (1 : Int32)), .val (.long (own_maxL (own_minL q0 q2) (own_minL (own_maxL q0 q2) q4))), .second, .unset, .unset] [(.int (lcmpW u0_1 (own_maxL (own_minL q0 q2) (own_minL (own_maxL q0 q2) q4))))])
    refine own_st (fun _ kt => XS.ifNo X45.here hx rfl (hb hby at_134) rfl ((if0 _ _).trans (teq (by rw [lw_eq, ← Int64.toInt_inj]; have he0 := own_ends3 hs0; have hm0 := own_maxL_b (own_minL q0 q2) (own_minL (own_maxL q0 q2) q4); have hm1 := own_maxL_b q0 q2; have hm2 := own_minL_b q0 q2; have hm3 := own_minL_b (own_maxL q0 q2) q4; omega : (lcmpW u0_1 (own_maxL (own_minL q0 q2) (own_minL (own_maxL q0 q2) q4))) = (0 : Int32))).2) kt) ?_
    show own_Rch p e below _ T45 (mkF m 137 #[.val (.long q0), .second, .val (.long q2), .second, .val (.long q4), .second, .val (.long q6), .second, .val (.int p8), .val (.int (3 : Int32)), .val (.ref b34), .val (.int (1 : Int32)), .val (.long (own_maxL (own_minL q0 q2) (own_minL (own_maxL q0 q2) q4))), .second, .unset, .unset] [])
    refine own_st (fun _ kt => XS.iconst X45.here hx rfl (hb hby at_137) kt) ?_
    show own_Rch p e below _ T45 (mkF m 138 #[.val (.long q0), .second, .val (.long q2), .second, .val (.long q4), .second, .val (.long q6), .second, .val (.int p8), .val (.int (3 : Int32)), .val (.ref b34), .val (.int (1 : Int32)), .val (.long (own_maxL (own_minL q0 q2) (own_minL (own_maxL q0 q2) q4))), .second, .unset, .unset] [(.int (1 : Int32))])
    refine own_st (fun _ kt => XS.goto X45.here hx rfl (pc0 := 138) (pc' := 142) rfl (hb hby at_138) (by decide) (by decide) kt) ?_
    show own_Rch p e below _ T45 (mkF m 142 #[.val (.long q0), .second, .val (.long q2), .second, .val (.long q4), .second, .val (.long q6), .second, .val (.int p8), .val (.int (3 : Int32)), .val (.ref b34), .val (.int (1 : Int32)), .val (.long (own_maxL (own_minL q0 q2) (own_minL (own_maxL q0 q2) q4))), .second, .unset, .unset] [(.int (1 : Int32))])
    refine own_st (fun _ kt => XS.istore X45.here hx rfl (hb hby at_142) rfl (l' := #[.val (.long q0), .second, .val (.long q2), .second, .val (.long q4), .second, .val (.long q6), .second, .val (.int p8), .val (.int (3 : Int32)), .val (.ref b34), .val (.int (1 : Int32)), .val (.long (own_maxL (own_minL q0 q2) (own_minL (own_maxL q0 q2) q4))), .second, .unset, .unset]) rfl kt) ?_
    show own_Rch p e below _ T45 (mkF m 144 #[.val (.long q0), .second, .val (.long q2), .second, .val (.long q4), .second, .val (.long q6), .second, .val (.int p8), .val (.int (3 : Int32)), .val (.ref b34), .val (.int (1 : Int32)), .val (.long (own_maxL (own_minL q0 q2) (own_minL (own_maxL q0 q2) q4))), .second, .unset, .unset] [])
    refine own_st (fun _ kt => XS.aload X45.here hx rfl (hb hby at_144) rfl rfl  kt) ?_
    show own_Rch p e below _ T45 (mkF m 146 #[.val (.long q0), .second, .val (.long q2), .second, .val (.long q4), .second, .val (.long q6), .second, .val (.int p8), .val (.int (3 : Int32)), .val (.ref b34), .val (.int (1 : Int32)), .val (.long (own_maxL (own_minL q0 q2) (own_minL (own_maxL q0 q2) q4))), .second, .unset, .unset] [(.ref b34)])
    refine own_st (fun _ kt => XS.lload X45.here hx rfl (hb hby at_146) rfl  kt) ?_
    show own_Rch p e below _ T45 (mkF m 148 #[.val (.long q0), .second, .val (.long q2), .second, .val (.long q4), .second, .val (.long q6), .second, .val (.int p8), .val (.int (3 : Int32)), .val (.ref b34), .val (.int (1 : Int32)), .val (.long (own_maxL (own_minL q0 q2) (own_minL (own_maxL q0 q2) q4))), .second, .unset, .unset] [(.long q6), (.ref b34)])
    obtain ⟨cq46, kq46, q46a, q46b, q46c⟩ := isOf hZ hh45 Ea39
    obtain ⟨_, _, ⟨T46, L46, k46, n46⟩, -, X46, ⟨Lc46, hQ46, l46, y46, z46⟩, st46⟩ := X45.virtualBack hx (y := (⟨"com/example/respite/respite/cli/Latencies", "add", "(J)V"⟩ : MethodName)) (z := (⟨"com/example/respite/respite/cli/Latencies", "add", "(J)V"⟩ : MethodName)) hown (mvT hZ (hw _ (List.mem_of_getElem? (i := 14) rfl))) (mvT hZ (hw _ (List.mem_of_getElem? (i := 15) rfl))) (notFace_of_selects (args := #[]) (mvT hZ (hw _ (List.mem_of_getElem? (i := 17) rfl)))) (mvT hZ (hw _ (List.mem_of_getElem? (i := 17) rfl))) (mvT hZ (hw _ (List.mem_of_getElem? (i := 16) rfl))) (by decide) (backOf (W := 0) (own_add3 l Z a0 hw [] b34 ar35 ka35 q6 u0_0 u0_1 u0_2 (0 : Int64) (1 : Int32) T39.heap n0 O0_x39 Ea39 Fn39 Fc39 Fs39 Vb39 ge34 ge35_ar35 ne35_b34_ar35) hZ (hw _ (List.mem_of_getElem? (i := 18) rfl)) (hw _ (List.mem_of_getElem? (i := 2) rfl)) (by decide) (by decide)) q46a q46c (g := (mkF m 148 #[.val (.long q0), .second, .val (.long q2), .second, .val (.long q4), .second, .val (.long q6), .second, .val (.int p8), .val (.int (3 : Int32)), .val (.ref b34), .val (.int (1 : Int32)), .val (.long (own_maxL (own_minL q0 q2) (own_minL (own_maxL q0 q2) q4))), .second, .unset, .unset] [(.long q6), (.ref b34)])) rfl (by rw [hml]; rfl) (Steps.refl _) (argsL := [(.long q6)]) (rest := []) (lenOf own_pd6 rfl) rfl (by show 2 * 0 + _ ≤ _; exact Nat.le_of_eq rfl) (hb hby at_148) (fun _ _ => ⟨rfl, hh45, (by decide : 2 + 0 ≤ _), (by decide : 1027 + 0 ≤ _)⟩)
    dsimp only [Pt.U, Pt.locs, Pt.cells, Pt.slots] at X46 l46 y46 z46 st46 hQ46
    subst l46 y46 z46
    obtain ⟨rfl, N46q, K46, Ea46, Fn46, Fc46, Fs46, Vb46⟩ := hQ46
    have N46 := Fr.app N45 N46q
    refine own_st (fun _ kt => st46.trans kt) ?_
    have O0_x46 := O0_x39.keep K46 (allS ge34 (allS ge35_ar35 all0))
    have Ea39_x46 := Ea39.keep K46
    show own_Rch p e below _ T46 (mkF m 151 #[.val (.long q0), .second, .val (.long q2), .second, .val (.long q4), .second, .val (.long q6), .second, .val (.int p8), .val (.int (3 : Int32)), .val (.ref b34), .val (.int (1 : Int32)), .val (.long (own_maxL (own_minL q0 q2) (own_minL (own_maxL q0 q2) q4))), .second, .unset, .unset] [])
    refine own_st (fun _ kt => XS.iload X46.here hx rfl (hb hby at_151) rfl  kt) ?_
    show own_Rch p e below _ T46 (mkF m 153 #[.val (.long q0), .second, .val (.long q2), .second, .val (.long q4), .second, .val (.long q6), .second, .val (.int p8), .val (.int (3 : Int32)), .val (.ref b34), .val (.int (1 : Int32)), .val (.long (own_maxL (own_minL q0 q2) (own_minL (own_maxL q0 q2) q4))), .second, .unset, .unset] [(.int (3 : Int32))])
    refine own_st (fun _ kt => XS.ifYes X46.here hx rfl (pc0 := 153) (pc' := 161) rfl (hb hby at_153) rfl ((if0 _ _).trans (feq ((by decide) : ¬ ((3 : Int32) = (0 : Int32)))).2) (by decide) (by decide) kt) ?_
    show own_Rch p e below _ T46 (mkF m 161 #[.val (.long q0), .second, .val (.long q2), .second, .val (.long q4), .second, .val (.long q6), .second, .val (.int p8), .val (.int (3 : Int32)), .val (.ref b34), .val (.int (1 : Int32)), .val (.long (own_maxL (own_minL q0 q2) (own_minL (own_maxL q0 q2) q4))), .second, .unset, .unset] [])
    refine own_st (fun _ kt => XS.lload X46.here hx rfl (hb hby at_161) rfl  kt) ?_
    show own_Rch p e below _ T46 (mkF m 163 #[.val (.long q0), .second, .val (.long q2), .second, .val (.long q4), .second, .val (.long q6), .second, .val (.int p8), .val (.int (3 : Int32)), .val (.ref b34), .val (.int (1 : Int32)), .val (.long (own_maxL (own_minL q0 q2) (own_minL (own_maxL q0 q2) q4))), .second, .unset, .unset] [(.long q6)])
    refine own_st (fun _ kt => XS.lloadN X46.here hx rfl (hb hby at_163) rfl  kt) ?_
    show own_Rch p e below _ T46 (mkF m 164 #[.val (.long q0), .second, .val (.long q2), .second, .val (.long q4), .second, .val (.long q6), .second, .val (.int p8), .val (.int (3 : Int32)), .val (.ref b34), .val (.int (1 : Int32)), .val (.long (own_maxL (own_minL q0 q2) (own_minL (own_maxL q0 q2) q4))), .second, .unset, .unset] [(.long q0), (.long q6)])
    refine own_st (fun _ kt => XS.lloadN X46.here hx rfl (hb hby at_164) rfl  kt) ?_
    show own_Rch p e below _ T46 (mkF m 165 #[.val (.long q0), .second, .val (.long q2), .second, .val (.long q4), .second, .val (.long q6), .second, .val (.int p8), .val (.int (3 : Int32)), .val (.ref b34), .val (.int (1 : Int32)), .val (.long (own_maxL (own_minL q0 q2) (own_minL (own_maxL q0 q2) q4))), .second, .unset, .unset] [(.long q2), (.long q0), (.long q6)])
    refine own_st (fun _ kt => XS.lload X46.here hx rfl (hb hby at_165) rfl  kt) ?_
    show own_Rch p e below _ T46 (mkF m 167 #[.val (.long q0), .second, .val (.long q2), .second, .val (.long q4), .second, .val (.long q6), .second, .val (.int p8), .val (.int (3 : Int32)), .val (.ref b34), .val (.int (1 : Int32)), .val (.long (own_maxL (own_minL q0 q2) (own_minL (own_maxL q0 q2) q4))), .second, .unset, .unset] [(.long q4), (.long q2), (.long q0), (.long q6)])
    refine own_st (fun _ kt => XS.iload X46.here hx rfl (hb hby at_167) rfl  kt) ?_
    show own_Rch p e below _ T46 (mkF m 169 #[.val (.long q0), .second, .val (.long q2), .second, .val (.long q4), .second, .val (.long q6), .second, .val (.int p8), .val (.int (3 : Int32)), .val (.ref b34), .val (.int (1 : Int32)), .val (.long (own_maxL (own_minL q0 q2) (own_minL (own_maxL q0 q2) q4))), .second, .unset, .unset] [(.int (3 : Int32)), (.long q4), (.long q2), (.long q0), (.long q6)])
    obtain ⟨_, _, ⟨T47, L47, k47, n47⟩, -, X47, ⟨Lc47, hQ47, l47, y47, z47⟩, st47⟩ := Jvm.LawKit.callS X46 hx (y := (⟨"com/example/respite/respite/cli/LatenciesAddPinLaw", "maxOf", "(JJJI)J"⟩ : MethodName)) hown (mvT hZ (hw _ (List.mem_of_getElem? (i := 53) rfl))) (mvT hZ (hw _ (List.mem_of_getElem? (i := 54) rfl))) (mvT hZ (hw _ (List.mem_of_getElem? (i := 55) rfl))) (mvT hZ (hw _ (List.mem_of_getElem? (i := 56) rfl))) (by decide) (backOf (W := 2) (own_maxof3 l Z a0 hw [] q0 q2 q4 T46.heap n0 O0_x46 ) hZ (hw _ (List.mem_of_getElem? (i := 56) rfl)) (hw _ (List.mem_of_getElem? (i := 55) rfl)) (by decide) (by decide)) (g := (mkF m 169 #[.val (.long q0), .second, .val (.long q2), .second, .val (.long q4), .second, .val (.long q6), .second, .val (.int p8), .val (.int (3 : Int32)), .val (.ref b34), .val (.int (1 : Int32)), .val (.long (own_maxL (own_minL q0 q2) (own_minL (own_maxL q0 q2) q4))), .second, .unset, .unset] [(.int (3 : Int32)), (.long q4), (.long q2), (.long q0), (.long q6)])) rfl (by rw [hml]; rfl) (argsL := [(.long q0), (.long q2), (.long q4), (.int (3 : Int32))]) (rest := [(.long q6)]) (lenOf own_pd9 rfl) rfl (by show 2 * 0 + _ ≤ _; exact Nat.le_of_eq rfl) (hb hby at_169) (fun _ _ => ⟨rfl, rfl, (by decide : 2 + 0 ≤ _), (by decide : 1027 + 0 ≤ _)⟩)
    dsimp only [Pt.U, Pt.locs, Pt.cells, Pt.slots] at X47 l47 y47 z47 st47 hQ47
    subst l47 y47 z47
    obtain ⟨rfl, N47q, hh47⟩ := hQ47
    have N47 := Fr.app N46 N47q
    refine own_st st47 ?_
    show own_Rch p e below _ T47 (mkF m 172 #[.val (.long q0), .second, .val (.long q2), .second, .val (.long q4), .second, .val (.long q6), .second, .val (.int p8), .val (.int (3 : Int32)), .val (.ref b34), .val (.int (1 : Int32)), .val (.long (own_maxL (own_minL q0 q2) (own_minL (own_maxL q0 q2) q4))), .second, .unset, .unset] [(.long (own_maxL q0 (own_maxL q2 q4))), (.long q6)])
    obtain ⟨_, _, ⟨T48, L48, k48, n48⟩, -, X48, ⟨Lc48, hQ48, l48, y48, z48⟩, st48⟩ := Jvm.LawKit.callS X47 hx (y := (⟨"java/lang/Math", "max", "(JJ)J"⟩ : MethodName)) hown (mvT hZ (hw _ (List.mem_of_getElem? (i := 57) rfl))) (mvT hZ (hw _ (List.mem_of_getElem? (i := 50) rfl))) (mvT hZ (hw _ (List.mem_of_getElem? (i := 51) rfl))) (mvT hZ (hw _ (List.mem_of_getElem? (i := 52) rfl))) (by decide) (backOf (W := 0) (own_lmax l Z a0 hw [] q6 (own_maxL q0 (own_maxL q2 q4)) T46.heap n0 O0_x46 ) hZ (hw _ (List.mem_of_getElem? (i := 52) rfl)) (hw _ (List.mem_of_getElem? (i := 51) rfl)) (by decide) (by decide)) (g := (mkF m 172 #[.val (.long q0), .second, .val (.long q2), .second, .val (.long q4), .second, .val (.long q6), .second, .val (.int p8), .val (.int (3 : Int32)), .val (.ref b34), .val (.int (1 : Int32)), .val (.long (own_maxL (own_minL q0 q2) (own_minL (own_maxL q0 q2) q4))), .second, .unset, .unset] [(.long (own_maxL q0 (own_maxL q2 q4))), (.long q6)])) rfl (by rw [hml]; rfl) (argsL := [(.long q6), (.long (own_maxL q0 (own_maxL q2 q4)))]) (rest := []) (lenOf own_pd0 rfl) rfl (by show 2 * 0 + _ ≤ _; exact Nat.le_of_eq rfl) (hb hby at_172) (fun _ _ => ⟨rfl, hh47, (by decide : 2 + 0 ≤ _), (by decide : 1027 + 0 ≤ _)⟩)
    dsimp only [Pt.U, Pt.locs, Pt.cells, Pt.slots] at X48 l48 y48 z48 st48 hQ48
    subst l48 y48 z48
    obtain ⟨rfl, N48q, hh48⟩ := hQ48
    have N48 := Fr.app N47 N48q
    refine own_st st48 ?_
    show own_Rch p e below _ T48 (mkF m 175 #[.val (.long q0), .second, .val (.long q2), .second, .val (.long q4), .second, .val (.long q6), .second, .val (.int p8), .val (.int (3 : Int32)), .val (.ref b34), .val (.int (1 : Int32)), .val (.long (own_maxL (own_minL q0 q2) (own_minL (own_maxL q0 q2) q4))), .second, .unset, .unset] [(.long (own_maxL q6 (own_maxL q0 (own_maxL q2 q4))))])
    refine own_st (fun _ kt => XS.lstore X48.here hx rfl (hb hby at_175) rfl (l' := #[.val (.long q0), .second, .val (.long q2), .second, .val (.long q4), .second, .val (.long q6), .second, .val (.int p8), .val (.int (3 : Int32)), .val (.ref b34), .val (.int (1 : Int32)), .val (.long (own_maxL q6 (own_maxL q0 (own_maxL q2 q4)))), .second, .unset, .unset]) rfl kt) ?_
    show own_Rch p e below _ T48 (mkF m 177 #[.val (.long q0), .second, .val (.long q2), .second, .val (.long q4), .second, .val (.long q6), .second, .val (.int p8), .val (.int (3 : Int32)), .val (.ref b34), .val (.int (1 : Int32)), .val (.long (own_maxL q6 (own_maxL q0 (own_maxL q2 q4)))), .second, .unset, .unset] [])
    refine own_st (fun _ kt => XS.iload X48.here hx rfl (hb hby at_177) rfl  kt) ?_
    show own_Rch p e below _ T48 (mkF m 179 #[.val (.long q0), .second, .val (.long q2), .second, .val (.long q4), .second, .val (.long q6), .second, .val (.int p8), .val (.int (3 : Int32)), .val (.ref b34), .val (.int (1 : Int32)), .val (.long (own_maxL q6 (own_maxL q0 (own_maxL q2 q4)))), .second, .unset, .unset] [(.int (3 : Int32))])
    refine own_st (fun _ kt => XS.ifYes X48.here hx rfl (pc0 := 179) (pc' := 187) rfl (hb hby at_179) rfl ((if0 _ _).trans (feq ((by decide) : ¬ ((3 : Int32) = (0 : Int32)))).2) (by decide) (by decide) kt) ?_
    show own_Rch p e below _ T48 (mkF m 187 #[.val (.long q0), .second, .val (.long q2), .second, .val (.long q4), .second, .val (.long q6), .second, .val (.int p8), .val (.int (3 : Int32)), .val (.ref b34), .val (.int (1 : Int32)), .val (.long (own_maxL q6 (own_maxL q0 (own_maxL q2 q4)))), .second, .unset, .unset] [])
    refine own_st (fun _ kt => XS.lload X48.here hx rfl (hb hby at_187) rfl  kt) ?_
    show own_Rch p e below _ T48 (mkF m 189 #[.val (.long q0), .second, .val (.long q2), .second, .val (.long q4), .second, .val (.long q6), .second, .val (.int p8), .val (.int (3 : Int32)), .val (.ref b34), .val (.int (1 : Int32)), .val (.long (own_maxL q6 (own_maxL q0 (own_maxL q2 q4)))), .second, .unset, .unset] [(.long q6)])
    refine own_st (fun _ kt => XS.lloadN X48.here hx rfl (hb hby at_189) rfl  kt) ?_
    show own_Rch p e below _ T48 (mkF m 190 #[.val (.long q0), .second, .val (.long q2), .second, .val (.long q4), .second, .val (.long q6), .second, .val (.int p8), .val (.int (3 : Int32)), .val (.ref b34), .val (.int (1 : Int32)), .val (.long (own_maxL q6 (own_maxL q0 (own_maxL q2 q4)))), .second, .unset, .unset] [(.long q0), (.long q6)])
    refine own_st (fun _ kt => XS.lloadN X48.here hx rfl (hb hby at_190) rfl  kt) ?_
    show own_Rch p e below _ T48 (mkF m 191 #[.val (.long q0), .second, .val (.long q2), .second, .val (.long q4), .second, .val (.long q6), .second, .val (.int p8), .val (.int (3 : Int32)), .val (.ref b34), .val (.int (1 : Int32)), .val (.long (own_maxL q6 (own_maxL q0 (own_maxL q2 q4)))), .second, .unset, .unset] [(.long q2), (.long q0), (.long q6)])
    refine own_st (fun _ kt => XS.lload X48.here hx rfl (hb hby at_191) rfl  kt) ?_
    show own_Rch p e below _ T48 (mkF m 193 #[.val (.long q0), .second, .val (.long q2), .second, .val (.long q4), .second, .val (.long q6), .second, .val (.int p8), .val (.int (3 : Int32)), .val (.ref b34), .val (.int (1 : Int32)), .val (.long (own_maxL q6 (own_maxL q0 (own_maxL q2 q4)))), .second, .unset, .unset] [(.long q4), (.long q2), (.long q0), (.long q6)])
    refine own_st (fun _ kt => XS.iload X48.here hx rfl (hb hby at_193) rfl  kt) ?_
    show own_Rch p e below _ T48 (mkF m 195 #[.val (.long q0), .second, .val (.long q2), .second, .val (.long q4), .second, .val (.long q6), .second, .val (.int p8), .val (.int (3 : Int32)), .val (.ref b34), .val (.int (1 : Int32)), .val (.long (own_maxL q6 (own_maxL q0 (own_maxL q2 q4)))), .second, .unset, .unset] [(.int (3 : Int32)), (.long q4), (.long q2), (.long q0), (.long q6)])
    obtain ⟨_, _, ⟨T49, L49, k49, n49⟩, -, X49, ⟨Lc49, hQ49, l49, y49, z49⟩, st49⟩ := Jvm.LawKit.callS X48 hx (y := (⟨"com/example/respite/respite/cli/LatenciesAddPinLaw", "minOf", "(JJJI)J"⟩ : MethodName)) hown (mvT hZ (hw _ (List.mem_of_getElem? (i := 61) rfl))) (mvT hZ (hw _ (List.mem_of_getElem? (i := 62) rfl))) (mvT hZ (hw _ (List.mem_of_getElem? (i := 55) rfl))) (mvT hZ (hw _ (List.mem_of_getElem? (i := 63) rfl))) (by decide) (backOf (W := 2) (own_minof3 l Z a0 hw [] q0 q2 q4 T46.heap n0 O0_x46 ) hZ (hw _ (List.mem_of_getElem? (i := 63) rfl)) (hw _ (List.mem_of_getElem? (i := 55) rfl)) (by decide) (by decide)) (g := (mkF m 195 #[.val (.long q0), .second, .val (.long q2), .second, .val (.long q4), .second, .val (.long q6), .second, .val (.int p8), .val (.int (3 : Int32)), .val (.ref b34), .val (.int (1 : Int32)), .val (.long (own_maxL q6 (own_maxL q0 (own_maxL q2 q4)))), .second, .unset, .unset] [(.int (3 : Int32)), (.long q4), (.long q2), (.long q0), (.long q6)])) rfl (by rw [hml]; rfl) (argsL := [(.long q0), (.long q2), (.long q4), (.int (3 : Int32))]) (rest := [(.long q6)]) (lenOf own_pd9 rfl) rfl (by show 2 * 0 + _ ≤ _; exact Nat.le_of_eq rfl) (hb hby at_195) (fun _ _ => ⟨rfl, hh48, (by decide : 2 + 0 ≤ _), (by decide : 1027 + 0 ≤ _)⟩)
    dsimp only [Pt.U, Pt.locs, Pt.cells, Pt.slots] at X49 l49 y49 z49 st49 hQ49
    subst l49 y49 z49
    obtain ⟨rfl, N49q, hh49⟩ := hQ49
    have N49 := Fr.app N48 N49q
    refine own_st st49 ?_
    show own_Rch p e below _ T49 (mkF m 198 #[.val (.long q0), .second, .val (.long q2), .second, .val (.long q4), .second, .val (.long q6), .second, .val (.int p8), .val (.int (3 : Int32)), .val (.ref b34), .val (.int (1 : Int32)), .val (.long (own_maxL q6 (own_maxL q0 (own_maxL q2 q4)))), .second, .unset, .unset] [(.long (own_minL q0 (own_minL q2 q4))), (.long q6)])
    obtain ⟨_, _, ⟨T50, L50, k50, n50⟩, -, X50, ⟨Lc50, hQ50, l50, y50, z50⟩, st50⟩ := Jvm.LawKit.callS X49 hx (y := (⟨"java/lang/Math", "min", "(JJ)J"⟩ : MethodName)) hown (mvT hZ (hw _ (List.mem_of_getElem? (i := 58) rfl))) (mvT hZ (hw _ (List.mem_of_getElem? (i := 59) rfl))) (mvT hZ (hw _ (List.mem_of_getElem? (i := 51) rfl))) (mvT hZ (hw _ (List.mem_of_getElem? (i := 60) rfl))) (by decide) (backOf (W := 0) (own_lmin l Z a0 hw [] q6 (own_minL q0 (own_minL q2 q4)) T46.heap n0 O0_x46 ) hZ (hw _ (List.mem_of_getElem? (i := 60) rfl)) (hw _ (List.mem_of_getElem? (i := 51) rfl)) (by decide) (by decide)) (g := (mkF m 198 #[.val (.long q0), .second, .val (.long q2), .second, .val (.long q4), .second, .val (.long q6), .second, .val (.int p8), .val (.int (3 : Int32)), .val (.ref b34), .val (.int (1 : Int32)), .val (.long (own_maxL q6 (own_maxL q0 (own_maxL q2 q4)))), .second, .unset, .unset] [(.long (own_minL q0 (own_minL q2 q4))), (.long q6)])) rfl (by rw [hml]; rfl) (argsL := [(.long q6), (.long (own_minL q0 (own_minL q2 q4)))]) (rest := []) (lenOf own_pd0 rfl) rfl (by show 2 * 0 + _ ≤ _; exact Nat.le_of_eq rfl) (hb hby at_198) (fun _ _ => ⟨rfl, hh49, (by decide : 2 + 0 ≤ _), (by decide : 1027 + 0 ≤ _)⟩)
    dsimp only [Pt.U, Pt.locs, Pt.cells, Pt.slots] at X50 l50 y50 z50 st50 hQ50
    subst l50 y50 z50
    obtain ⟨rfl, N50q, hh50⟩ := hQ50
    have N50 := Fr.app N49 N50q
    refine own_st st50 ?_
    show own_Rch p e below _ T50 (mkF m 201 #[.val (.long q0), .second, .val (.long q2), .second, .val (.long q4), .second, .val (.long q6), .second, .val (.int p8), .val (.int (3 : Int32)), .val (.ref b34), .val (.int (1 : Int32)), .val (.long (own_maxL q6 (own_maxL q0 (own_maxL q2 q4)))), .second, .unset, .unset] [(.long (own_minL q6 (own_minL q0 (own_minL q2 q4))))])
    refine own_st (fun _ kt => XS.lstore X50.here hx rfl (hb hby at_201) rfl (l' := #[.val (.long q0), .second, .val (.long q2), .second, .val (.long q4), .second, .val (.long q6), .second, .val (.int p8), .val (.int (3 : Int32)), .val (.ref b34), .val (.int (1 : Int32)), .val (.long (own_maxL q6 (own_maxL q0 (own_maxL q2 q4)))), .second, .val (.long (own_minL q6 (own_minL q0 (own_minL q2 q4)))), .second]) rfl kt) ?_
    show own_Rch p e below _ T50 (mkF m 203 #[.val (.long q0), .second, .val (.long q2), .second, .val (.long q4), .second, .val (.long q6), .second, .val (.int p8), .val (.int (3 : Int32)), .val (.ref b34), .val (.int (1 : Int32)), .val (.long (own_maxL q6 (own_maxL q0 (own_maxL q2 q4)))), .second, .val (.long (own_minL q6 (own_minL q0 (own_minL q2 q4)))), .second] [])
    refine own_st (fun _ kt => XS.iload X50.here hx rfl (hb hby at_203) rfl  kt) ?_
    show own_Rch p e below _ T50 (mkF m 205 #[.val (.long q0), .second, .val (.long q2), .second, .val (.long q4), .second, .val (.long q6), .second, .val (.int p8), .val (.int (3 : Int32)), .val (.ref b34), .val (.int (1 : Int32)), .val (.long (own_maxL q6 (own_maxL q0 (own_maxL q2 q4)))), .second, .val (.long (own_minL q6 (own_minL q0 (own_minL q2 q4)))), .second] [(.int (1 : Int32))])
    refine own_st (fun _ kt => XS.ifNo X50.here hx rfl (hb hby at_205) rfl ((if0 _ _).trans (feq ((by decide) : ¬ ((1 : Int32) = (0 : Int32)))).1) kt) ?_
    show own_Rch p e below _ T50 (mkF m 208 #[.val (.long q0), .second, .val (.long q2), .second, .val (.long q4), .second, .val (.long q6), .second, .val (.int p8), .val (.int (3 : Int32)), .val (.ref b34), .val (.int (1 : Int32)), .val (.long (own_maxL q6 (own_maxL q0 (own_maxL q2 q4)))), .second, .val (.long (own_minL q6 (own_minL q0 (own_minL q2 q4)))), .second] [])
    refine own_st (fun _ kt => XS.aload X50.here hx rfl (hb hby at_208) rfl rfl  kt) ?_
    show own_Rch p e below _ T50 (mkF m 210 #[.val (.long q0), .second, .val (.long q2), .second, .val (.long q4), .second, .val (.long q6), .second, .val (.int p8), .val (.int (3 : Int32)), .val (.ref b34), .val (.int (1 : Int32)), .val (.long (own_maxL q6 (own_maxL q0 (own_maxL q2 q4)))), .second, .val (.long (own_minL q6 (own_minL q0 (own_minL q2 q4)))), .second] [(.ref b34)])
    obtain ⟨cq51, kq51, q51a, q51b, q51c⟩ := isOf hZ hh50 Ea46
    obtain ⟨_, _, ⟨T51, L51, k51, n51⟩, -, X51, ⟨Lc51, hQ51, l51, y51, z51⟩, st51⟩ := X50.virtualBack hx (y := (⟨"com/example/respite/respite/cli/Latencies", "count", "()I"⟩ : MethodName)) (z := (⟨"com/example/respite/respite/cli/Latencies", "count", "()I"⟩ : MethodName)) hown (mvT hZ (hw _ (List.mem_of_getElem? (i := 64) rfl))) (mvT hZ (hw _ (List.mem_of_getElem? (i := 65) rfl))) (notFace_of_selects (args := #[]) (mvT hZ (hw _ (List.mem_of_getElem? (i := 67) rfl)))) (mvT hZ (hw _ (List.mem_of_getElem? (i := 67) rfl))) (mvT hZ (hw _ (List.mem_of_getElem? (i := 66) rfl))) (by decide) (backOf (W := 0) (own_count l Z a0 hw [] b34 (4 : Int32) T46.heap n0 O0_x46 Fc46) hZ (hw _ (List.mem_of_getElem? (i := 68) rfl)) (hw _ (List.mem_of_getElem? (i := 2) rfl)) (by decide) (by decide)) q51a q51c (g := (mkF m 210 #[.val (.long q0), .second, .val (.long q2), .second, .val (.long q4), .second, .val (.long q6), .second, .val (.int p8), .val (.int (3 : Int32)), .val (.ref b34), .val (.int (1 : Int32)), .val (.long (own_maxL q6 (own_maxL q0 (own_maxL q2 q4)))), .second, .val (.long (own_minL q6 (own_minL q0 (own_minL q2 q4)))), .second] [(.ref b34)])) rfl (by rw [hml]; rfl) (Steps.refl _) (argsL := []) (rest := []) (lenOf own_pd7 rfl) rfl (by show 2 * 0 + _ ≤ _; exact Nat.le_of_eq rfl) (hb hby at_210) (fun _ _ => ⟨rfl, hh50, (by decide : 2 + 0 ≤ _), (by decide : 1027 + 0 ≤ _)⟩)
    dsimp only [Pt.U, Pt.locs, Pt.cells, Pt.slots] at X51 l51 y51 z51 st51 hQ51
    subst l51 y51 z51
    obtain ⟨rfl, N51q, hh51⟩ := hQ51
    have N51 := Fr.app N50 N51q
    refine own_st (fun _ kt => st51.trans kt) ?_
    show own_Rch p e below _ T51 (mkF m 213 #[.val (.long q0), .second, .val (.long q2), .second, .val (.long q4), .second, .val (.long q6), .second, .val (.int p8), .val (.int (3 : Int32)), .val (.ref b34), .val (.int (1 : Int32)), .val (.long (own_maxL q6 (own_maxL q0 (own_maxL q2 q4)))), .second, .val (.long (own_minL q6 (own_minL q0 (own_minL q2 q4)))), .second] [(.int (4 : Int32))])
    refine own_st (fun _ kt => XS.iload X51.here hx rfl (hb hby at_213) rfl  kt) ?_
    show own_Rch p e below _ T51 (mkF m 215 #[.val (.long q0), .second, .val (.long q2), .second, .val (.long q4), .second, .val (.long q6), .second, .val (.int p8), .val (.int (3 : Int32)), .val (.ref b34), .val (.int (1 : Int32)), .val (.long (own_maxL q6 (own_maxL q0 (own_maxL q2 q4)))), .second, .val (.long (own_minL q6 (own_minL q0 (own_minL q2 q4)))), .second] [(.int (3 : Int32)), (.int (4 : Int32))])
    refine own_st (fun _ kt => XS.iconst X51.here hx rfl (hb hby at_215) kt) ?_
    show own_Rch p e below _ T51 (mkF m 216 #[.val (.long q0), .second, .val (.long q2), .second, .val (.long q4), .second, .val (.long q6), .second, .val (.int p8), .val (.int (3 : Int32)), .val (.ref b34), .val (.int (1 : Int32)), .val (.long (own_maxL q6 (own_maxL q0 (own_maxL q2 q4)))), .second, .val (.long (own_minL q6 (own_minL q0 (own_minL q2 q4)))), .second] [(.int (1 : Int32)), (.int (3 : Int32)), (.int (4 : Int32))])
    refine own_st (fun _ kt => XS.iadd X51.here hx rfl (hb hby at_216) rfl kt) ?_
    show own_Rch p e below _ T51 (mkF m 217 #[.val (.long q0), .second, .val (.long q2), .second, .val (.long q4), .second, .val (.long q6), .second, .val (.int p8), .val (.int (3 : Int32)), .val (.ref b34), .val (.int (1 : Int32)), .val (.long (own_maxL q6 (own_maxL q0 (own_maxL q2 q4)))), .second, .val (.long (own_minL q6 (own_minL q0 (own_minL q2 q4)))), .second] [(.int (4 : Int32)), (.int (4 : Int32))])
    refine own_st (fun _ kt => XS.icmpNo X51.here hx rfl (hb hby at_217) rfl (teq (rfl : (4 : Int32) = (4 : Int32))).2 kt) ?_
    show own_Rch p e below _ T51 (mkF m 220 #[.val (.long q0), .second, .val (.long q2), .second, .val (.long q4), .second, .val (.long q6), .second, .val (.int p8), .val (.int (3 : Int32)), .val (.ref b34), .val (.int (1 : Int32)), .val (.long (own_maxL q6 (own_maxL q0 (own_maxL q2 q4)))), .second, .val (.long (own_minL q6 (own_minL q0 (own_minL q2 q4)))), .second] [])
    refine own_st (fun _ kt => XS.iconst X51.here hx rfl (hb hby at_220) kt) ?_
    show own_Rch p e below _ T51 (mkF m 221 #[.val (.long q0), .second, .val (.long q2), .second, .val (.long q4), .second, .val (.long q6), .second, .val (.int p8), .val (.int (3 : Int32)), .val (.ref b34), .val (.int (1 : Int32)), .val (.long (own_maxL q6 (own_maxL q0 (own_maxL q2 q4)))), .second, .val (.long (own_minL q6 (own_minL q0 (own_minL q2 q4)))), .second] [(.int (1 : Int32))])
    refine own_st (fun _ kt => XS.goto X51.here hx rfl (pc0 := 221) (pc' := 225) rfl (hb hby at_221) (by decide) (by decide) kt) ?_
    show own_Rch p e below _ T51 (mkF m 225 #[.val (.long q0), .second, .val (.long q2), .second, .val (.long q4), .second, .val (.long q6), .second, .val (.int p8), .val (.int (3 : Int32)), .val (.ref b34), .val (.int (1 : Int32)), .val (.long (own_maxL q6 (own_maxL q0 (own_maxL q2 q4)))), .second, .val (.long (own_minL q6 (own_minL q0 (own_minL q2 q4)))), .second] [(.int (1 : Int32))])
    refine own_st (fun _ kt => XS.istore X51.here hx rfl (hb hby at_225) rfl (l' := #[.val (.long q0), .second, .val (.long q2), .second, .val (.long q4), .second, .val (.long q6), .second, .val (.int p8), .val (.int (3 : Int32)), .val (.ref b34), .val (.int (1 : Int32)), .val (.long (own_maxL q6 (own_maxL q0 (own_maxL q2 q4)))), .second, .val (.long (own_minL q6 (own_minL q0 (own_minL q2 q4)))), .second]) rfl kt) ?_
    show own_Rch p e below _ T51 (mkF m 227 #[.val (.long q0), .second, .val (.long q2), .second, .val (.long q4), .second, .val (.long q6), .second, .val (.int p8), .val (.int (3 : Int32)), .val (.ref b34), .val (.int (1 : Int32)), .val (.long (own_maxL q6 (own_maxL q0 (own_maxL q2 q4)))), .second, .val (.long (own_minL q6 (own_minL q0 (own_minL q2 q4)))), .second] [])
    refine own_st (fun _ kt => XS.iload X51.here hx rfl (hb hby at_227) rfl  kt) ?_
    show own_Rch p e below _ T51 (mkF m 229 #[.val (.long q0), .second, .val (.long q2), .second, .val (.long q4), .second, .val (.long q6), .second, .val (.int p8), .val (.int (3 : Int32)), .val (.ref b34), .val (.int (1 : Int32)), .val (.long (own_maxL q6 (own_maxL q0 (own_maxL q2 q4)))), .second, .val (.long (own_minL q6 (own_minL q0 (own_minL q2 q4)))), .second] [(.int (1 : Int32))])
    refine own_st (fun _ kt => XS.ifNo X51.here hx rfl (hb hby at_229) rfl ((if0 _ _).trans (feq ((by decide) : ¬ ((1 : Int32) = (0 : Int32)))).1) kt) ?_
    show own_Rch p e below _ T51 (mkF m 232 #[.val (.long q0), .second, .val (.long q2), .second, .val (.long q4), .second, .val (.long q6), .second, .val (.int p8), .val (.int (3 : Int32)), .val (.ref b34), .val (.int (1 : Int32)), .val (.long (own_maxL q6 (own_maxL q0 (own_maxL q2 q4)))), .second, .val (.long (own_minL q6 (own_minL q0 (own_minL q2 q4)))), .second] [])
    refine own_st (fun _ kt => XS.aload X51.here hx rfl (hb hby at_232) rfl rfl  kt) ?_
    show own_Rch p e below _ T51 (mkF m 234 #[.val (.long q0), .second, .val (.long q2), .second, .val (.long q4), .second, .val (.long q6), .second, .val (.int p8), .val (.int (3 : Int32)), .val (.ref b34), .val (.int (1 : Int32)), .val (.long (own_maxL q6 (own_maxL q0 (own_maxL q2 q4)))), .second, .val (.long (own_minL q6 (own_minL q0 (own_minL q2 q4)))), .second] [(.ref b34)])
    refine own_st (fun _ kt => XS.iconst X51.here hx rfl (hb hby at_234) kt) ?_
    show own_Rch p e below _ T51 (mkF m 235 #[.val (.long q0), .second, .val (.long q2), .second, .val (.long q4), .second, .val (.long q6), .second, .val (.int p8), .val (.int (3 : Int32)), .val (.ref b34), .val (.int (1 : Int32)), .val (.long (own_maxL q6 (own_maxL q0 (own_maxL q2 q4)))), .second, .val (.long (own_minL q6 (own_minL q0 (own_minL q2 q4)))), .second] [(.int (1 : Int32)), (.ref b34)])
    obtain ⟨cq52, kq52, q52a, q52b, q52c⟩ := isOf hZ hh51 Ea46
    obtain ⟨_, _, ⟨T52, L52, k52, n52⟩, -, X52, ⟨Lc52, hQ52, l52, y52, z52⟩, st52⟩ := X51.virtualBack hx (y := (⟨"com/example/respite/respite/cli/Latencies", "percentile", "(I)J"⟩ : MethodName)) (z := (⟨"com/example/respite/respite/cli/Latencies", "percentile", "(I)J"⟩ : MethodName)) hown (mvT hZ (hw _ (List.mem_of_getElem? (i := 21) rfl))) (mvT hZ (hw _ (List.mem_of_getElem? (i := 22) rfl))) (notFace_of_selects (args := #[]) (mvT hZ (hw _ (List.mem_of_getElem? (i := 24) rfl)))) (mvT hZ (hw _ (List.mem_of_getElem? (i := 24) rfl))) (mvT hZ (hw _ (List.mem_of_getElem? (i := 23) rfl))) (by decide) (backOf (W := 0) (own_pc_1_4_0 l Z a0 hw [] b34 ar35 ka35 u0_0 u0_1 u0_2 q6 T46.heap n0 O0_x46 Ea46 Fn46 Fc46 Fs46 Vb46 ge34 ge35_ar35 ne35_b34_ar35) hZ (hw _ (List.mem_of_getElem? (i := 25) rfl)) (hw _ (List.mem_of_getElem? (i := 2) rfl)) (by decide) (by decide)) q52a q52c (g := (mkF m 235 #[.val (.long q0), .second, .val (.long q2), .second, .val (.long q4), .second, .val (.long q6), .second, .val (.int p8), .val (.int (3 : Int32)), .val (.ref b34), .val (.int (1 : Int32)), .val (.long (own_maxL q6 (own_maxL q0 (own_maxL q2 q4)))), .second, .val (.long (own_minL q6 (own_minL q0 (own_minL q2 q4)))), .second] [(.int (1 : Int32)), (.ref b34)])) rfl (by rw [hml]; rfl) (Steps.refl _) (argsL := [(.int (1 : Int32))]) (rest := []) (lenOf own_pd8 rfl) rfl (by show 2 * 0 + _ ≤ _; exact Nat.le_of_eq rfl) (hb hby at_235) (fun _ _ => ⟨rfl, hh51, (by decide : 2 + 0 ≤ _), (by decide : 1027 + 0 ≤ _)⟩)
    dsimp only [Pt.U, Pt.locs, Pt.cells, Pt.slots] at X52 l52 y52 z52 st52 hQ52
    subst l52 y52 z52
    obtain ⟨u1_0, u1_1, u1_2, u1_3, hs1, rfl, N52q, K52, Ea52, Fn52, Fc52, Fs52, Vb52⟩ := hQ52
    have N52 := Fr.app N51 N52q
    refine own_st (fun _ kt => st52.trans kt) ?_
    have O0_x52 := O0_x46.keep K52 (allS ge34 (allS ge35_ar35 all0))
    have Ea46_x52 := Ea46.keep K52
    show own_Rch p e below _ T52 (mkF m 238 #[.val (.long q0), .second, .val (.long q2), .second, .val (.long q4), .second, .val (.long q6), .second, .val (.int p8), .val (.int (3 : Int32)), .val (.ref b34), .val (.int (1 : Int32)), .val (.long (own_maxL q6 (own_maxL q0 (own_maxL q2 q4)))), .second, .val (.long (own_minL q6 (own_minL q0 (own_minL q2 q4)))), .second] [(.long u1_0)])
    refine own_st (fun _ kt => XS.lload X52.here hx rfl (hb hby at_238) rfl  kt) ?_
    show own_Rch p e below _ T52 (mkF m 240 #[.val (.long q0), .second, .val (.long q2), .second, .val (.long q4), .second, .val (.long q6), .second, .val (.int p8), .val (.int (3 : Int32)), .val (.ref b34), .val (.int (1 : Int32)), .val (.long (own_maxL q6 (own_maxL q0 (own_maxL q2 q4)))), .second, .val (.long (own_minL q6 (own_minL q0 (own_minL q2 q4)))), .second] [(.long (own_minL q6 (own_minL q0 (own_minL q2 q4)))), (.long u1_0)])
    refine own_st (fun _ kt => XS.lcmp X52.here hx rfl (hb hby at_240) rfl kt) ?_
    show own_Rch p e below _ T52 (mkF m 241 #[.val (.long q0), .second, .val (.long q2), .second, .val (.long q4), .second, .val (.long q6), .second, .val (.int p8), .val (.int (3 : Int32)), .val (.ref b34), .val (.int (1 : Int32)), .val (.long (own_maxL q6 (own_maxL q0 (own_maxL q2 q4)))), .second, .val (.long (own_minL q6 (own_minL q0 (own_minL q2 q4)))), .second] [(.int (lcmpW u1_0 (own_minL q6 (own_minL q0 (own_minL q2 q4)))))])
    refine own_st (fun _ kt => XS.ifNo X52.here hx rfl (hb hby at_241) rfl ((if0 _ _).trans (teq (by rw [lw_eq, ← Int64.toInt_inj]; have he0 := own_ends3 hs0; have he1 := own_ends4 hs1; have hm0 := own_minL_b q6 (own_minL q0 (own_minL q2 q4)); have hm1 := own_minL_b q0 (own_minL q2 q4); have hm2 := own_minL_b q2 q4; omega : (lcmpW u1_0 (own_minL q6 (own_minL q0 (own_minL q2 q4)))) = (0 : Int32))).2) kt) ?_
    show own_Rch p e below _ T52 (mkF m 244 #[.val (.long q0), .second, .val (.long q2), .second, .val (.long q4), .second, .val (.long q6), .second, .val (.int p8), .val (.int (3 : Int32)), .val (.ref b34), .val (.int (1 : Int32)), .val (.long (own_maxL q6 (own_maxL q0 (own_maxL q2 q4)))), .second, .val (.long (own_minL q6 (own_minL q0 (own_minL q2 q4)))), .second] [])
    refine own_st (fun _ kt => XS.iconst X52.here hx rfl (hb hby at_244) kt) ?_
    show own_Rch p e below _ T52 (mkF m 245 #[.val (.long q0), .second, .val (.long q2), .second, .val (.long q4), .second, .val (.long q6), .second, .val (.int p8), .val (.int (3 : Int32)), .val (.ref b34), .val (.int (1 : Int32)), .val (.long (own_maxL q6 (own_maxL q0 (own_maxL q2 q4)))), .second, .val (.long (own_minL q6 (own_minL q0 (own_minL q2 q4)))), .second] [(.int (1 : Int32))])
    refine own_st (fun _ kt => XS.goto X52.here hx rfl (pc0 := 245) (pc' := 249) rfl (hb hby at_245) (by decide) (by decide) kt) ?_
    show own_Rch p e below _ T52 (mkF m 249 #[.val (.long q0), .second, .val (.long q2), .second, .val (.long q4), .second, .val (.long q6), .second, .val (.int p8), .val (.int (3 : Int32)), .val (.ref b34), .val (.int (1 : Int32)), .val (.long (own_maxL q6 (own_maxL q0 (own_maxL q2 q4)))), .second, .val (.long (own_minL q6 (own_minL q0 (own_minL q2 q4)))), .second] [(.int (1 : Int32))])
    refine own_st (fun _ kt => XS.istore X52.here hx rfl (hb hby at_249) rfl (l' := #[.val (.long q0), .second, .val (.long q2), .second, .val (.long q4), .second, .val (.long q6), .second, .val (.int p8), .val (.int (3 : Int32)), .val (.ref b34), .val (.int (1 : Int32)), .val (.long (own_maxL q6 (own_maxL q0 (own_maxL q2 q4)))), .second, .val (.long (own_minL q6 (own_minL q0 (own_minL q2 q4)))), .second]) rfl kt) ?_
    show own_Rch p e below _ T52 (mkF m 251 #[.val (.long q0), .second, .val (.long q2), .second, .val (.long q4), .second, .val (.long q6), .second, .val (.int p8), .val (.int (3 : Int32)), .val (.ref b34), .val (.int (1 : Int32)), .val (.long (own_maxL q6 (own_maxL q0 (own_maxL q2 q4)))), .second, .val (.long (own_minL q6 (own_minL q0 (own_minL q2 q4)))), .second] [])
    refine own_st (fun _ kt => XS.iload X52.here hx rfl (hb hby at_251) rfl  kt) ?_
    show own_Rch p e below _ T52 (mkF m 253 #[.val (.long q0), .second, .val (.long q2), .second, .val (.long q4), .second, .val (.long q6), .second, .val (.int p8), .val (.int (3 : Int32)), .val (.ref b34), .val (.int (1 : Int32)), .val (.long (own_maxL q6 (own_maxL q0 (own_maxL q2 q4)))), .second, .val (.long (own_minL q6 (own_minL q0 (own_minL q2 q4)))), .second] [(.int (1 : Int32))])
    refine own_st (fun _ kt => XS.ifNo X52.here hx rfl (hb hby at_253) rfl ((if0 _ _).trans (feq ((by decide) : ¬ ((1 : Int32) = (0 : Int32)))).1) kt) ?_
    show own_Rch p e below _ T52 (mkF m 256 #[.val (.long q0), .second, .val (.long q2), .second, .val (.long q4), .second, .val (.long q6), .second, .val (.int p8), .val (.int (3 : Int32)), .val (.ref b34), .val (.int (1 : Int32)), .val (.long (own_maxL q6 (own_maxL q0 (own_maxL q2 q4)))), .second, .val (.long (own_minL q6 (own_minL q0 (own_minL q2 q4)))), .second] [])
    refine own_st (fun _ kt => XS.aload X52.here hx rfl (hb hby at_256) rfl rfl  kt) ?_
    show own_Rch p e below _ T52 (mkF m 258 #[.val (.long q0), .second, .val (.long q2), .second, .val (.long q4), .second, .val (.long q6), .second, .val (.int p8), .val (.int (3 : Int32)), .val (.ref b34), .val (.int (1 : Int32)), .val (.long (own_maxL q6 (own_maxL q0 (own_maxL q2 q4)))), .second, .val (.long (own_minL q6 (own_minL q0 (own_minL q2 q4)))), .second] [(.ref b34)])
    refine own_st (fun _ kt => XS.bipush X52.here hx rfl (hb hby at_258) kt) ?_
    show own_Rch p e below _ T52 (mkF m 260 #[.val (.long q0), .second, .val (.long q2), .second, .val (.long q4), .second, .val (.long q6), .second, .val (.int p8), .val (.int (3 : Int32)), .val (.ref b34), .val (.int (1 : Int32)), .val (.long (own_maxL q6 (own_maxL q0 (own_maxL q2 q4)))), .second, .val (.long (own_minL q6 (own_minL q0 (own_minL q2 q4)))), .second] [(.int (100 : Int32)), (.ref b34)])
    obtain ⟨cq53, kq53, q53a, q53b, q53c⟩ := isOf hZ rfl Ea52
    obtain ⟨_, _, ⟨T53, L53, k53, n53⟩, -, X53, ⟨Lc53, hQ53, l53, y53, z53⟩, st53⟩ := X52.virtualBack hx (y := (⟨"com/example/respite/respite/cli/Latencies", "percentile", "(I)J"⟩ : MethodName)) (z := (⟨"com/example/respite/respite/cli/Latencies", "percentile", "(I)J"⟩ : MethodName)) hown (mvT hZ (hw _ (List.mem_of_getElem? (i := 21) rfl))) (mvT hZ (hw _ (List.mem_of_getElem? (i := 22) rfl))) (notFace_of_selects (args := #[]) (mvT hZ (hw _ (List.mem_of_getElem? (i := 24) rfl)))) (mvT hZ (hw _ (List.mem_of_getElem? (i := 24) rfl))) (mvT hZ (hw _ (List.mem_of_getElem? (i := 23) rfl))) (by decide) (backOf (W := 0) (own_pc_100_4_1 l Z a0 hw [] b34 ar35 ka35 u1_0 u1_1 u1_2 u1_3 T52.heap n0 O0_x52 Ea52 Fn52 Fc52 Fs52 Vb52 ge34 ge35_ar35 ne35_b34_ar35) hZ (hw _ (List.mem_of_getElem? (i := 25) rfl)) (hw _ (List.mem_of_getElem? (i := 2) rfl)) (by decide) (by decide)) q53a q53c (g := (mkF m 260 #[.val (.long q0), .second, .val (.long q2), .second, .val (.long q4), .second, .val (.long q6), .second, .val (.int p8), .val (.int (3 : Int32)), .val (.ref b34), .val (.int (1 : Int32)), .val (.long (own_maxL q6 (own_maxL q0 (own_maxL q2 q4)))), .second, .val (.long (own_minL q6 (own_minL q0 (own_minL q2 q4)))), .second] [(.int (100 : Int32)), (.ref b34)])) rfl (by rw [hml]; rfl) (Steps.refl _) (argsL := [(.int (100 : Int32))]) (rest := []) (lenOf own_pd8 rfl) rfl (by show 2 * 0 + _ ≤ _; exact Nat.le_of_eq rfl) (hb hby at_260) (fun _ _ => ⟨rfl, rfl, (by decide : 2 + 0 ≤ _), (by decide : 1027 + 0 ≤ _)⟩)
    dsimp only [Pt.U, Pt.locs, Pt.cells, Pt.slots] at X53 l53 y53 z53 st53 hQ53
    subst l53 y53 z53
    obtain ⟨rfl, N53q, hh53⟩ := hQ53
    have N53 := Fr.app N52 N53q
    refine own_st (fun _ kt => st53.trans kt) ?_
    show own_Rch p e below _ T53 (mkF m 263 #[.val (.long q0), .second, .val (.long q2), .second, .val (.long q4), .second, .val (.long q6), .second, .val (.int p8), .val (.int (3 : Int32)), .val (.ref b34), .val (.int (1 : Int32)), .val (.long (own_maxL q6 (own_maxL q0 (own_maxL q2 q4)))), .second, .val (.long (own_minL q6 (own_minL q0 (own_minL q2 q4)))), .second] [(.long u1_3)])
    refine own_st (fun _ kt => XS.lload X53.here hx rfl (hb hby at_263) rfl  kt) ?_
    show own_Rch p e below _ T53 (mkF m 265 #[.val (.long q0), .second, .val (.long q2), .second, .val (.long q4), .second, .val (.long q6), .second, .val (.int p8), .val (.int (3 : Int32)), .val (.ref b34), .val (.int (1 : Int32)), .val (.long (own_maxL q6 (own_maxL q0 (own_maxL q2 q4)))), .second, .val (.long (own_minL q6 (own_minL q0 (own_minL q2 q4)))), .second] [(.long (own_maxL q6 (own_maxL q0 (own_maxL q2 q4)))), (.long u1_3)])
    refine own_st (fun _ kt => XS.lcmp X53.here hx rfl (hb hby at_265) rfl kt) ?_
    show own_Rch p e below _ T53 (mkF m 266 #[.val (.long q0), .second, .val (.long q2), .second, .val (.long q4), .second, .val (.long q6), .second, .val (.int p8), .val (.int (3 : Int32)), .val (.ref b34), .val (.int (1 : Int32)), .val (.long (own_maxL q6 (own_maxL q0 (own_maxL q2 q4)))), .second, .val (.long (own_minL q6 (own_minL q0 (own_minL q2 q4)))), .second] [(.int (lcmpW u1_3 (own_maxL q6 (own_maxL q0 (own_maxL q2 q4)))))])
    refine own_st (fun _ kt => XS.ifNo X53.here hx rfl (hb hby at_266) rfl ((if0 _ _).trans (teq (by rw [lw_eq, ← Int64.toInt_inj]; have he0 := own_ends3 hs0; have he1 := own_ends4 hs1; have hm0 := own_maxL_b q6 (own_maxL q0 (own_maxL q2 q4)); have hm1 := own_maxL_b q0 (own_maxL q2 q4); have hm2 := own_maxL_b q2 q4; omega : (lcmpW u1_3 (own_maxL q6 (own_maxL q0 (own_maxL q2 q4)))) = (0 : Int32))).2) kt) ?_
    show own_Rch p e below _ T53 (mkF m 269 #[.val (.long q0), .second, .val (.long q2), .second, .val (.long q4), .second, .val (.long q6), .second, .val (.int p8), .val (.int (3 : Int32)), .val (.ref b34), .val (.int (1 : Int32)), .val (.long (own_maxL q6 (own_maxL q0 (own_maxL q2 q4)))), .second, .val (.long (own_minL q6 (own_minL q0 (own_minL q2 q4)))), .second] [])
    refine own_st (fun _ kt => XS.iconst X53.here hx rfl (hb hby at_269) kt) ?_
    show own_Rch p e below _ T53 (mkF m 270 #[.val (.long q0), .second, .val (.long q2), .second, .val (.long q4), .second, .val (.long q6), .second, .val (.int p8), .val (.int (3 : Int32)), .val (.ref b34), .val (.int (1 : Int32)), .val (.long (own_maxL q6 (own_maxL q0 (own_maxL q2 q4)))), .second, .val (.long (own_minL q6 (own_minL q0 (own_minL q2 q4)))), .second] [(.int (1 : Int32))])
    refine own_st (fun _ kt => XS.goto X53.here hx rfl (pc0 := 270) (pc' := 274) rfl (hb hby at_270) (by decide) (by decide) kt) ?_
    show own_Rch p e below _ T53 (mkF m 274 #[.val (.long q0), .second, .val (.long q2), .second, .val (.long q4), .second, .val (.long q6), .second, .val (.int p8), .val (.int (3 : Int32)), .val (.ref b34), .val (.int (1 : Int32)), .val (.long (own_maxL q6 (own_maxL q0 (own_maxL q2 q4)))), .second, .val (.long (own_minL q6 (own_minL q0 (own_minL q2 q4)))), .second] [(.int (1 : Int32))])
    refine own_st (fun _ kt => XS.istore X53.here hx rfl (hb hby at_274) rfl (l' := #[.val (.long q0), .second, .val (.long q2), .second, .val (.long q4), .second, .val (.long q6), .second, .val (.int p8), .val (.int (3 : Int32)), .val (.ref b34), .val (.int (1 : Int32)), .val (.long (own_maxL q6 (own_maxL q0 (own_maxL q2 q4)))), .second, .val (.long (own_minL q6 (own_minL q0 (own_minL q2 q4)))), .second]) rfl kt) ?_
    show own_Rch p e below _ T53 (mkF m 276 #[.val (.long q0), .second, .val (.long q2), .second, .val (.long q4), .second, .val (.long q6), .second, .val (.int p8), .val (.int (3 : Int32)), .val (.ref b34), .val (.int (1 : Int32)), .val (.long (own_maxL q6 (own_maxL q0 (own_maxL q2 q4)))), .second, .val (.long (own_minL q6 (own_minL q0 (own_minL q2 q4)))), .second] [])
    refine own_st (fun _ kt => XS.iload X53.here hx rfl (hb hby at_276) rfl  kt) ?_
    show own_Rch p e below _ T53 (mkF m 278 #[.val (.long q0), .second, .val (.long q2), .second, .val (.long q4), .second, .val (.long q6), .second, .val (.int p8), .val (.int (3 : Int32)), .val (.ref b34), .val (.int (1 : Int32)), .val (.long (own_maxL q6 (own_maxL q0 (own_maxL q2 q4)))), .second, .val (.long (own_minL q6 (own_minL q0 (own_minL q2 q4)))), .second] [(.int (1 : Int32))])
    refine own_retN (t := .boolean) (by simp) X53 hx Bd.notSynchronized Bd.returns (hb hby at_278) (by decide) (by decide) ?_
    rw [hh53]
    exact ⟨rfl, N53⟩
set_option maxRecDepth 65536 in
set_option maxHeartbeats 40000000 in
theorem own_comes {Post : Tables → Env → Array Value → State → Outcome → State → Prop} (hpost : ∀ tb e args s v u, (limb_1_1.after args s (.returned v) u = true ∧ limb_1_2.after args s (.returned v) u = true ∧ True) → FrameEnd s (.returned v) u (Jvm.fieldLocs frame_1_writes args s ++ Jvm.arrayLocs frame_1_arrays args s ++ Jvm.staticLocs frame_1_statics s) 16 2176 → Post tb e args s (.returned v) u) :
    ArmFor flags0 classFile x code maxLocals ret World_1 tables_1 room_1 Calls_1 rest_1 Pre_1 Post := by
  intro l hfl _ _ p e ha hc hk s m args below hf hA hF happ hP
  obtain ⟨hcalls, hrest, hpre⟩ := hP
  obtain ⟨-, -, -, hnamed, -, -, -, hat⟩ := (Spec.applies_iff hf).mp happ
  obtain ⟨hg, hn⟩ := and_e (Cond.before_iff.mp (show (Jvm.Cond.and given_1 narrow_1).before args s = true from hpre))
  obtain ⟨g0, g1⟩ := and_e hg
  obtain ⟨g2, g3⟩ := and_e g1
  obtain ⟨g4, g5⟩ := and_e g3
  obtain ⟨g6, g7⟩ := and_e g5
  obtain ⟨g8, g9⟩ := and_e g7
  obtain ⟨w0, w1, w2, w3, w4, rfl⟩ : ∃ w0 w1 w2 w3 w4 : Value, args = #[w0, w1, w2, w3, w4] := by
    have hs : args.size = 5 := by simpa [Cond.value, given_1] using g0
    obtain ⟨L⟩ := args
    match L, hs with
    | [w0, w1, w2, w3, w4], _ => exact ⟨w0, w1, w2, w3, w4, rfl⟩
  have hw := fun d (hd : d ∈ tables_1) => atoms_spec (ws := Jvm.Cond.code x code maxLocals ret :: tables_1) hat d (List.mem_cons_of_mem _ hd)
  have hfit : Fit s := fun {y c} hc i hi => by
    obtain ⟨ha, rfl⟩ := Array.getElem?_eq_some_iff.mp hc
    have q := List.all_eq_true.mp ((Array.all_eq_true_iff_forall_mem.mp hF) _ (Array.getElem_mem ha)) i (List.mem_range.mpr hi)
    simpa [Array.getElem?_eq_getElem hi] using q
  obtain ⟨i0, ei0⟩ := isL_v g2
  obtain rfl : w0 = (.long i0) := Option.some.inj ei0
  obtain ⟨i1, ei1⟩ := isL_v g4
  obtain rfl : w1 = (.long i1) := Option.some.inj ei1
  obtain ⟨i2, ei2⟩ := isL_v g6
  obtain rfl : w2 = (.long i2) := Option.some.inj ei2
  obtain ⟨i3, ei3⟩ := isL_v g8
  obtain rfl : w3 = (.long i3) := Option.some.inj ei3
  obtain ⟨i4, ei4⟩ := is_v g9
  obtain rfl : w4 = (.int i4) := Option.some.inj ei4
  obtain ⟨n, o, h1, h2, h3, _, L, rfl, ⟨rfl, N⟩, hq⟩ := own_rm0 l s _ hw tables_1 i0 i1 i2 i3 i4 s.heap s.heap.size (Old.start s)  p e ha hc hk s m _ below hf ((Spec.applies_iff_loose hf).mp happ).1 ⟨rfl, State.Warmed39.refl s, rfl⟩ trivial
  refine ⟨n, _, h1, h2, h3, hpost _ _ _ _ _ _ ⟨Cond.after_iff.mpr rfl, Cond.after_iff.mpr (eq_i res_at (Term.int_eval (1)) rfl), trivial⟩ ⟨hq.1, hq.2.1, (hq.2.2.sift fun y hy => Or.inr (N y hy)).mono (by decide) (by decide)⟩⟩
theorem main_1_1 : Claimed_1_1 := own_comes fun _ _ _ _ _ _ h hF => ⟨h.1, hF⟩
theorem main_1_2 : Claimed_1_2 := own_comes fun _ _ _ _ _ _ h hF => ⟨h.2.1, hF⟩
end Jvm.Pilot.@@N@@
namespace Jvm.Pilot.@@N@@
open Jvm Jvm.ClassFile Sem Op Lib Jvm.Free Jvm.Stand Jvm.Pilot.@@N@@.Jvm.D
/-! MADE BY PROGRAM (witnessworld.py) out of the Statement's table words and the real class files: 14 classes; the members and pool entries that the words name. The judged class is class 1, her method 3. -/
namespace start1
open Jvm.ClassFile
def u (s : String) : CpInfo := .utf8 (stringToUtf16 s)
/-- a pool by its gaps: so many unusable entries, then the entry; so many at the end -/
def gap : Nat → List CpInfo → List CpInfo
  | 0, r => r
  | n + 1, r => .unusable :: gap n r
def poolList (es : List (Nat × CpInfo)) (last : Nat) : List CpInfo := es.foldr (fun e r => gap e.1 (e.2 :: r)) (gap last [])
def pool (es : List (Nat × CpInfo)) (last : Nat) : Array CpInfo := ⟨poolList es last⟩
def fileOf (pool : Array CpInfo) (this : Nat) (attrs : Array Attribute := #[]) (ms : Array MethodInfo := #[]) (fl : Nat := 33) (sup : Nat := 0) (ifs : Array Nat := #[]) (fds : Array FieldInfo := #[]) : ClassFile where
  minorVersion := 0
  majorVersion := 65
  constantPool := pool
  accessFlags := fl
  thisClass := this
  superClass := sup
  interfaces := ifs
  fields := fds
  methods := ms
  attributes := attrs
def plain (name : String) (sup : Option ClassId) : Class where
  name := name
  kind := .ordinary
  loader := none
  accessFlags := 33
  super := sup
  interfaces := #[]
  cf := none
  fields := #[]
  methods := #[]
  instanceTypes := #[]
  staticTypes := #[]
  resolved := #[]
  callSites := []
  init := .initialized
  statics := none
  mirror := none

def pool0 : Array CpInfo := pool [(5, u "<init>"), (0, u "()V"), (1, .class_ 10), (1, u "java/lang/Object")] 113

def k0c0 : Code := { maxStack := 0, maxLocals := 1, code := object_method_1_code, exceptionTable := #[], attributes := #[] }
def k0m0 : Method := { name := "<init>", desc := "()V", sig := { parameters := [], returnType := none }, accessFlags := 1, code := some k0c0 }
/-- java/lang/Object -/
def k0 : Class := { plain "java/lang/Object" none with
  accessFlags := 33
  interfaces := #[]
  cf := some (fileOf pool0 8 #[] #[{ accessFlags := 1, nameIndex := 5, descriptorIndex := 6, attributes := #[] }] 33 0 #[] #[])
  fields := #[]
  methods := #[k0m0]
  instanceTypes := #[]
  staticTypes := #[]
  resolved := Array.replicate 124 none
  statics := none }

def pool1 : Array CpInfo := pool [(2, .class_ 4), (0, .nameAndType 5 6), (0, u "java/lang/Object"), (0, u "<init>"), (0, u "()V"), (0, .methodref 8 9), (0, .class_ 10), (0, .nameAndType 11 12), (0, u "java/lang/Math"), (0, u "max"), (0, u "(JJ)J"), (0, .methodref 8 14), (0, .nameAndType 15 12), (0, u "min"), (0, .class_ 17), (0, u "com/example/respite/respite/cli/Latencies"), (0, .methodref 16 3), (0, .methodref 16 20), (0, .nameAndType 21 22), (0, u "add"), (0, u "(J)V"), (0, .methodref 16 24), (0, .nameAndType 25 26), (0, u "percentile"), (0, u "(I)J"), (0, .methodref 28 29), (0, .class_ 30), (0, .nameAndType 31 32), (0, u "com/example/respite/respite/cli/LatenciesAddPinLaw"), (0, u "maxOf"), (0, u "(JJJI)J"), (0, .methodref 28 34), (0, .nameAndType 35 32), (0, u "minOf"), (0, .methodref 16 37), (0, .nameAndType 38 39), (0, u "count"), (0, u "()I"), (3, u "law"), (0, u "(JJJJI)Z")] 2

def k1m0 : Method := { name := "<init>", desc := "()V", sig := { parameters := [], returnType := none }, accessFlags := 1, code := none }
def k1c1 : Code := { maxStack := 6, maxLocals := 7, code := method_2_code, exceptionTable := #[], attributes := #[] }
def k1m1 : Method := { name := "maxOf", desc := "(JJJI)J", sig := { parameters := [.long, .long, .long, .int], returnType := some .long }, accessFlags := 10, code := some k1c1 }
def k1c2 : Code := { maxStack := 6, maxLocals := 7, code := method_3_code, exceptionTable := #[], attributes := #[] }
def k1m2 : Method := { name := "minOf", desc := "(JJJI)J", sig := { parameters := [.long, .long, .long, .int], returnType := some .long }, accessFlags := 10, code := some k1c2 }
def k1c3 : Code := { maxStack := 9, maxLocals := 16, code := code, exceptionTable := #[], attributes := #[] }
def k1m3 : Method := { name := "law", desc := "(JJJJI)Z", sig := { parameters := [.long, .long, .long, .long, .int], returnType := some .boolean }, accessFlags := 9, code := some k1c3 }
/-- com/example/respite/respite/cli/LatenciesAddPinLaw -/
def k1 : Class := { plain "com/example/respite/respite/cli/LatenciesAddPinLaw" (some 0) with
  accessFlags := 49
  interfaces := #[]
  cf := some (fileOf pool1 28 #[] #[{ accessFlags := 1, nameIndex := 5, descriptorIndex := 6, attributes := #[] }, { accessFlags := 10, nameIndex := 31, descriptorIndex := 32, attributes := #[] }, { accessFlags := 10, nameIndex := 35, descriptorIndex := 32, attributes := #[] }, { accessFlags := 9, nameIndex := 43, descriptorIndex := 44, attributes := #[] }] 49 2 #[] #[])
  fields := #[]
  methods := #[k1m0, k1m1, k1m2, k1m3]
  instanceTypes := #[]
  staticTypes := #[]
  resolved := Array.replicate 47 none
  statics := none }

def pool2 : Array CpInfo := pool [(1, .methodref 2 3), (0, .class_ 4), (0, .nameAndType 5 6), (0, u "java/lang/Object"), (0, u "<init>"), (0, u "()V"), (0, .fieldref 8 9), (0, .class_ 10), (0, .nameAndType 11 12), (0, u "com/example/respite/respite/cli/Latencies"), (0, u "nanos"), (0, u "[J"), (0, .fieldref 8 14), (0, .nameAndType 15 16), (0, u "sorted"), (0, u "Z"), (0, .fieldref 8 18), (0, .nameAndType 19 20), (0, u "count"), (0, u "I"), (1, .class_ 24), (1, u "java/util/Arrays"), (3, .class_ 30), (1, u "java/lang/Math"), (0, u "max"), (7, .methodref 8 40), (0, .nameAndType 41 6), (0, u "requireAny"), (0, .methodref 22 43), (0, .nameAndType 44 45), (0, u "sort"), (0, u "([JII)V"), (0, .long 99), (1, .long 100), (1, .methodref 28 51), (0, .nameAndType 31 52), (0, u "(JJ)J"), (9, u "add"), (0, u "(J)V"), (3, u "()I"), (0, u "percentile"), (0, u "(I)J")] 4

def k2c0 : Code := { maxStack := 2, maxLocals := 1, code := prog_8_method_1_code, exceptionTable := #[], attributes := #[] }
def k2m0 : Method := { name := "<init>", desc := "()V", sig := { parameters := [], returnType := none }, accessFlags := 0, code := some k2c0 }
def k2c1 : Code := { maxStack := 5, maxLocals := 3, code := prog_8_method_2_code, exceptionTable := #[], attributes := #[] }
def k2m1 : Method := { name := "add", desc := "(J)V", sig := { parameters := [.long], returnType := none }, accessFlags := 0, code := some k2c1 }
def k2c2 : Code := { maxStack := 1, maxLocals := 1, code := prog_8_method_4_code, exceptionTable := #[], attributes := #[] }
def k2m2 : Method := { name := "count", desc := "()I", sig := { parameters := [], returnType := some .int }, accessFlags := 0, code := some k2c2 }
def k2c3 : Code := { maxStack := 5, maxLocals := 4, code := prog_8_method_5_code, exceptionTable := #[], attributes := #[] }
def k2m3 : Method := { name := "percentile", desc := "(I)J", sig := { parameters := [.int], returnType := some .long }, accessFlags := 0, code := some k2c3 }
def k2c4 : Code := { maxStack := 3, maxLocals := 1, code := prog_8_method_7_code, exceptionTable := #[], attributes := #[] }
def k2m4 : Method := { name := "requireAny", desc := "()V", sig := { parameters := [], returnType := none }, accessFlags := 2, code := some k2c4 }
/-- com/example/respite/respite/cli/Latencies -/
def k2 : Class := { plain "com/example/respite/respite/cli/Latencies" (some 0) with
  accessFlags := 32
  interfaces := #[]
  cf := some (fileOf pool2 8 #[] #[{ accessFlags := 0, nameIndex := 5, descriptorIndex := 6, attributes := #[] }, { accessFlags := 0, nameIndex := 62, descriptorIndex := 63, attributes := #[] }, { accessFlags := 0, nameIndex := 19, descriptorIndex := 67, attributes := #[] }, { accessFlags := 0, nameIndex := 68, descriptorIndex := 69, attributes := #[] }, { accessFlags := 2, nameIndex := 41, descriptorIndex := 6, attributes := #[] }] 32 2 #[] #[{ accessFlags := 2, nameIndex := 11, descriptorIndex := 12, attributes := #[] }, { accessFlags := 2, nameIndex := 19, descriptorIndex := 20, attributes := #[] }, { accessFlags := 2, nameIndex := 15, descriptorIndex := 16, attributes := #[] }])
  fields := #[{ name := "nanos", type := (.array .long), accessFlags := 2, slot := 0, constantValue := 0 }, { name := "count", type := .int, accessFlags := 2, slot := 1, constantValue := 0 }, { name := "sorted", type := .boolean, accessFlags := 2, slot := 2, constantValue := 0 }]
  methods := #[k2m0, k2m1, k2m2, k2m3, k2m4]
  instanceTypes := #[(.array .long), .int, .boolean]
  staticTypes := #[]
  resolved := Array.replicate 74 none
  statics := none }

def pool3 : Array CpInfo := pool [(2, .class_ 4), (1, u "java/lang/Object"), (0, u "<init>"), (0, u "()V"), (1, .class_ 10), (1, u "java/util/DualPivotQuicksort"), (0, u "sort"), (1, .methodref 14 15), (0, .class_ 16), (0, .nameAndType 17 18), (0, u "java/util/Arrays"), (0, u "rangeCheck"), (0, u "(III)V"), (0, .methodref 8 20), (0, .nameAndType 11 21), (0, u "([JIII)V"), (52, .class_ 76), (1, u "java/util/Arrays$NaturalOrder"), (36, .class_ 115), (1, u "java/util/Arrays$LegacyMergeSort"), (1, u "Z"), (257, .class_ 376), (0, u "java/util/Arrays$ArrayList"), (68, u "$assertionsDisabled"), (269, u "MIN_ARRAY_SORT_GRAN"), (0, u "I"), (2, u "INSERTIONSORT_THRESHOLD"), (12, u "([JII)V"), (242, .class_ 976), (0, u "java/util/Arrays$ArrayItr")] 52

def k3m0 : Method := { name := "<init>", desc := "()V", sig := { parameters := [], returnType := none }, accessFlags := 2, code := none }
def k3c1 : Code := { maxStack := 4, maxLocals := 3, code := jdk_65_method_5_code, exceptionTable := #[], attributes := #[] }
def k3m1 : Method := { name := "sort", desc := "([JII)V", sig := { parameters := [(.array .long), .int, .int], returnType := none }, accessFlags := 9, code := some k3c1 }
def k3c2 : Code := { maxStack := 4, maxLocals := 3, code := jdk_65_method_30_code, exceptionTable := #[], attributes := #[] }
def k3m2 : Method := { name := "rangeCheck", desc := "(III)V", sig := { parameters := [.int, .int, .int], returnType := none }, accessFlags := 8, code := some k3c2 }
/-- java/util/Arrays -/
def k3 : Class := { plain "java/util/Arrays" (some 0) with
  accessFlags := 49
  interfaces := #[]
  cf := some (fileOf pool3 14 #[.nestMembers #[975, 375, 113, 74]] #[{ accessFlags := 2, nameIndex := 5, descriptorIndex := 6, attributes := #[] }, { accessFlags := 9, nameIndex := 11, descriptorIndex := 732, attributes := #[] }, { accessFlags := 8, nameIndex := 17, descriptorIndex := 18, attributes := #[] }] 49 2 #[] #[{ accessFlags := 26, nameIndex := 715, descriptorIndex := 716, attributes := #[] }, { accessFlags := 26, nameIndex := 719, descriptorIndex := 716, attributes := #[] }, { accessFlags := 4120, nameIndex := 445, descriptorIndex := 117, attributes := #[] }])
  fields := #[{ name := "MIN_ARRAY_SORT_GRAN", type := .int, accessFlags := 26, slot := 0, constantValue := 0 }, { name := "INSERTIONSORT_THRESHOLD", type := .int, accessFlags := 26, slot := 1, constantValue := 0 }, { name := "$assertionsDisabled", type := .boolean, accessFlags := 4120, slot := 2, constantValue := 0 }]
  methods := #[k3m0, k3m1, k3m2]
  instanceTypes := #[]
  staticTypes := #[.int, .int, .boolean]
  resolved := Array.replicate 1029 none
  statics := none }

def pool4 : Array CpInfo := pool [(1, .class_ 2), (0, u "java/util/DualPivotQuicksort"), (5, .class_ 10), (1, u "java/lang/Object"), (0, u "<init>"), (0, u "()V"), (4, .class_ 18), (0, u "java/util/DualPivotQuicksort$Sorter"), (9, u "sort"), (7, u "insertionSort"), (31, u "I"), (4, .class_ 74), (0, u "java/util/DualPivotQuicksort$RunMerger"), (10, .class_ 86), (0, u "java/util/DualPivotQuicksort$Merger"), (12, .methodref 1 100), (0, .nameAndType 28 101), (0, u "(Ljava/util/DualPivotQuicksort$Sorter;[JIII)V"), (2, u "([JIII)V"), (0, .methodref 1 106), (0, .nameAndType 36 107), (0, u "([JII)V"), (106, u "MAX_MIXED_INSERTION_SORT_SIZE"), (2, u "MAX_INSERTION_SORT_SIZE"), (1, u "MIN_PARALLEL_SORT_SIZE"), (1, u "MIN_TRY_MERGE_SIZE"), (0, u "MIN_FIRST_RUN_SIZE"), (1, u "MIN_FIRST_RUNS_FACTOR"), (1, u "MAX_RUN_CAPACITY"), (1, u "MIN_RUN_COUNT"), (1, u "MIN_PARALLEL_MERGE_PARTS_SIZE"), (0, u "MIN_BYTE_COUNTING_SORT_SIZE"), (1, u "MIN_SHORT_OR_CHAR_COUNTING_SORT_SIZE"), (1, u "DELTA"), (1, u "MAX_RECURSION_DEPTH"), (1, u "NUM_BYTE_VALUES"), (1, u "MAX_BYTE_INDEX"), (0, u "NUM_CHAR_VALUES"), (0, u "NUM_SHORT_VALUES"), (0, u "MAX_SHORT_INDEX")] 86

def k4m0 : Method := { name := "<init>", desc := "()V", sig := { parameters := [], returnType := none }, accessFlags := 2, code := none }
def k4c1 : Code := { maxStack := 9, maxLocals := 7, code := jdk_2529_method_12_code, exceptionTable := #[], attributes := #[] }
def k4m1 : Method := { name := "sort", desc := "([JIII)V", sig := { parameters := [(.array .long), .int, .int, .int], returnType := none }, accessFlags := 8, code := some k4c1 }
def k4c2 : Code := { maxStack := 6, maxLocals := 25, code := jdk_2529_method_13_code, exceptionTable := #[], attributes := #[] }
def k4m2 : Method := { name := "sort", desc := "(Ljava/util/DualPivotQuicksort$Sorter;[JIII)V", sig := { parameters := [(.object "java/util/DualPivotQuicksort$Sorter"), (.array .long), .int, .int, .int], returnType := none }, accessFlags := 8, code := some k4c2 }
def k4c3 : Code := { maxStack := 5, maxLocals := 7, code := jdk_2529_method_15_code, exceptionTable := #[], attributes := #[] }
def k4m3 : Method := { name := "insertionSort", desc := "([JII)V", sig := { parameters := [(.array .long), .int, .int], returnType := none }, accessFlags := 10, code := some k4c3 }
/-- java/util/DualPivotQuicksort -/
def k4 : Class := { plain "java/util/DualPivotQuicksort" (some 0) with
  accessFlags := 48
  interfaces := #[]
  cf := some (fileOf pool4 1 #[.nestMembers #[73, 85, 17]] #[{ accessFlags := 2, nameIndex := 11, descriptorIndex := 12, attributes := #[] }, { accessFlags := 8, nameIndex := 28, descriptorIndex := 104, attributes := #[] }, { accessFlags := 8, nameIndex := 28, descriptorIndex := 101, attributes := #[] }, { accessFlags := 10, nameIndex := 36, descriptorIndex := 107, attributes := #[] }] 48 8 #[] #[{ accessFlags := 26, nameIndex := 214, descriptorIndex := 68, attributes := #[] }, { accessFlags := 26, nameIndex := 217, descriptorIndex := 68, attributes := #[] }, { accessFlags := 26, nameIndex := 219, descriptorIndex := 68, attributes := #[] }, { accessFlags := 26, nameIndex := 221, descriptorIndex := 68, attributes := #[] }, { accessFlags := 26, nameIndex := 222, descriptorIndex := 68, attributes := #[] }, { accessFlags := 26, nameIndex := 224, descriptorIndex := 68, attributes := #[] }, { accessFlags := 26, nameIndex := 226, descriptorIndex := 68, attributes := #[] }, { accessFlags := 26, nameIndex := 228, descriptorIndex := 68, attributes := #[] }, { accessFlags := 26, nameIndex := 230, descriptorIndex := 68, attributes := #[] }, { accessFlags := 26, nameIndex := 231, descriptorIndex := 68, attributes := #[] }, { accessFlags := 26, nameIndex := 233, descriptorIndex := 68, attributes := #[] }, { accessFlags := 26, nameIndex := 235, descriptorIndex := 68, attributes := #[] }, { accessFlags := 26, nameIndex := 237, descriptorIndex := 68, attributes := #[] }, { accessFlags := 26, nameIndex := 239, descriptorIndex := 68, attributes := #[] }, { accessFlags := 26, nameIndex := 241, descriptorIndex := 68, attributes := #[] }, { accessFlags := 26, nameIndex := 242, descriptorIndex := 68, attributes := #[] }, { accessFlags := 26, nameIndex := 243, descriptorIndex := 68, attributes := #[] }, { accessFlags := 26, nameIndex := 244, descriptorIndex := 68, attributes := #[] }])
  fields := #[{ name := "MAX_MIXED_INSERTION_SORT_SIZE", type := .int, accessFlags := 26, slot := 0, constantValue := 0 }, { name := "MAX_INSERTION_SORT_SIZE", type := .int, accessFlags := 26, slot := 1, constantValue := 0 }, { name := "MIN_PARALLEL_SORT_SIZE", type := .int, accessFlags := 26, slot := 2, constantValue := 0 }, { name := "MIN_TRY_MERGE_SIZE", type := .int, accessFlags := 26, slot := 3, constantValue := 0 }, { name := "MIN_FIRST_RUN_SIZE", type := .int, accessFlags := 26, slot := 4, constantValue := 0 }, { name := "MIN_FIRST_RUNS_FACTOR", type := .int, accessFlags := 26, slot := 5, constantValue := 0 }, { name := "MAX_RUN_CAPACITY", type := .int, accessFlags := 26, slot := 6, constantValue := 0 }, { name := "MIN_RUN_COUNT", type := .int, accessFlags := 26, slot := 7, constantValue := 0 }, { name := "MIN_PARALLEL_MERGE_PARTS_SIZE", type := .int, accessFlags := 26, slot := 8, constantValue := 0 }, { name := "MIN_BYTE_COUNTING_SORT_SIZE", type := .int, accessFlags := 26, slot := 9, constantValue := 0 }, { name := "MIN_SHORT_OR_CHAR_COUNTING_SORT_SIZE", type := .int, accessFlags := 26, slot := 10, constantValue := 0 }, { name := "DELTA", type := .int, accessFlags := 26, slot := 11, constantValue := 0 }, { name := "MAX_RECURSION_DEPTH", type := .int, accessFlags := 26, slot := 12, constantValue := 0 }, { name := "NUM_BYTE_VALUES", type := .int, accessFlags := 26, slot := 13, constantValue := 0 }, { name := "MAX_BYTE_INDEX", type := .int, accessFlags := 26, slot := 14, constantValue := 0 }, { name := "NUM_CHAR_VALUES", type := .int, accessFlags := 26, slot := 15, constantValue := 0 }, { name := "NUM_SHORT_VALUES", type := .int, accessFlags := 26, slot := 16, constantValue := 0 }, { name := "MAX_SHORT_INDEX", type := .int, accessFlags := 26, slot := 17, constantValue := 0 }]
  methods := #[k4m0, k4m1, k4m2, k4m3]
  instanceTypes := #[]
  staticTypes := #[.int, .int, .int, .int, .int, .int, .int, .int, .int, .int, .int, .int, .int, .int, .int, .int, .int, .int]
  resolved := Array.replicate 331 none
  statics := none }

def pool5 : Array CpInfo := pool [(1, .class_ 2), (0, u "java/lang/Math"), (1, .class_ 6), (1, u "java/lang/Object"), (0, u "<init>"), (0, u "()V"), (89, .class_ 100), (1, u "java/lang/Math$RandomNumberGeneratorHolder"), (20, u "(JJ)J"), (50, u "negativeZeroFloatBits"), (0, u "J"), (2, u "negativeZeroDoubleBits"), (21, u "max"), (2, u "min"), (43, u "$assertionsDisabled"), (0, u "Z"), (91, u "twoToTheDoubleScaleDown"), (0, u "D"), (4, u "twoToTheDoubleScaleUp"), (9, u "E"), (3, u "PI"), (2, u "TAU"), (2, u "DEGREES_TO_RADIANS"), (0, u "RADIANS_TO_DEGREES")] 94

def k5m0 : Method := { name := "<init>", desc := "()V", sig := { parameters := [], returnType := none }, accessFlags := 2, code := none }
def k5c1 : Code := { maxStack := 4, maxLocals := 4, code := jdk_29_method_66_code, exceptionTable := #[], attributes := #[] }
def k5m1 : Method := { name := "max", desc := "(JJ)J", sig := { parameters := [.long, .long], returnType := some .long }, accessFlags := 9, code := some k5c1 }
def k5c2 : Code := { maxStack := 4, maxLocals := 4, code := jdk_29_method_70_code, exceptionTable := #[], attributes := #[] }
def k5m2 : Method := { name := "min", desc := "(JJ)J", sig := { parameters := [.long, .long], returnType := some .long }, accessFlags := 9, code := some k5c2 }
/-- java/lang/Math -/
def k5 : Class := { plain "java/lang/Math" (some 0) with
  accessFlags := 49
  interfaces := #[]
  cf := some (fileOf pool5 1 #[.nestMembers #[98]] #[{ accessFlags := 2, nameIndex := 7, descriptorIndex := 8, attributes := #[] }, { accessFlags := 9, nameIndex := 198, descriptorIndex := 121, attributes := #[] }, { accessFlags := 9, nameIndex := 201, descriptorIndex := 121, attributes := #[] }] 49 4 #[] #[{ accessFlags := 25, nameIndex := 354, descriptorIndex := 339, attributes := #[] }, { accessFlags := 25, nameIndex := 358, descriptorIndex := 339, attributes := #[] }, { accessFlags := 25, nameIndex := 361, descriptorIndex := 339, attributes := #[] }, { accessFlags := 26, nameIndex := 364, descriptorIndex := 339, attributes := #[] }, { accessFlags := 26, nameIndex := 365, descriptorIndex := 339, attributes := #[] }, { accessFlags := 26, nameIndex := 172, descriptorIndex := 173, attributes := #[] }, { accessFlags := 26, nameIndex := 176, descriptorIndex := 173, attributes := #[] }, { accessFlags := 8, nameIndex := 344, descriptorIndex := 339, attributes := #[] }, { accessFlags := 8, nameIndex := 338, descriptorIndex := 339, attributes := #[] }, { accessFlags := 4120, nameIndex := 245, descriptorIndex := 246, attributes := #[] }])
  fields := #[{ name := "E", type := .double, accessFlags := 25, slot := 0, constantValue := 0 }, { name := "PI", type := .double, accessFlags := 25, slot := 1, constantValue := 0 }, { name := "TAU", type := .double, accessFlags := 25, slot := 2, constantValue := 0 }, { name := "DEGREES_TO_RADIANS", type := .double, accessFlags := 26, slot := 3, constantValue := 0 }, { name := "RADIANS_TO_DEGREES", type := .double, accessFlags := 26, slot := 4, constantValue := 0 }, { name := "negativeZeroFloatBits", type := .long, accessFlags := 26, slot := 5, constantValue := 0 }, { name := "negativeZeroDoubleBits", type := .long, accessFlags := 26, slot := 6, constantValue := 0 }, { name := "twoToTheDoubleScaleUp", type := .double, accessFlags := 8, slot := 7, constantValue := 0 }, { name := "twoToTheDoubleScaleDown", type := .double, accessFlags := 8, slot := 8, constantValue := 0 }, { name := "$assertionsDisabled", type := .boolean, accessFlags := 4120, slot := 9, constantValue := 0 }]
  methods := #[k5m0, k5m1, k5m2]
  instanceTypes := #[]
  staticTypes := #[.double, .double, .double, .double, .double, .long, .long, .double, .double, .boolean]
  resolved := Array.replicate 460 none
  statics := none }

def pool6 : Array CpInfo := pool [(1, u "java/lang/Cloneable"), (0, .class_ 1), (0, u "java/lang/Object"), (0, .class_ 3)] 3

/-- java/lang/Cloneable -/
def k6 : Class := { plain "java/lang/Cloneable" (some 0) with
  accessFlags := 1537
  interfaces := #[]
  cf := some (fileOf pool6 2 #[] #[] 1537 4 #[] #[])
  fields := #[]
  methods := #[]
  instanceTypes := #[]
  staticTypes := #[]
  resolved := Array.replicate 8 none
  statics := none }

def pool7 : Array CpInfo := pool [(1, u "java/io/Serializable"), (0, .class_ 1), (0, u "java/lang/Object"), (0, .class_ 3)] 3

/-- java/io/Serializable -/
def k7 : Class := { plain "java/io/Serializable" (some 0) with
  accessFlags := 1537
  interfaces := #[]
  cf := some (fileOf pool7 2 #[] #[] 1537 4 #[] #[])
  fields := #[]
  methods := #[]
  instanceTypes := #[]
  staticTypes := #[]
  resolved := Array.replicate 8 none
  statics := none }

/-- the primitive byte -/
def k8 : Class := { plain "byte" none with kind := .primitive 'B', accessFlags := 0x411 }
/-- [B -/
def k9 : Class := { plain "[B" (some 0) with kind := .array 8 .byte, interfaces := #[6, 7], accessFlags := 1041 }

/-- the primitive int -/
def k10 : Class := { plain "int" none with kind := .primitive 'I', accessFlags := 0x411 }
/-- [I -/
def k11 : Class := { plain "[I" (some 0) with kind := .array 10 .int, interfaces := #[6, 7], accessFlags := 1041 }

/-- the primitive long -/
def k12 : Class := { plain "long" none with kind := .primitive 'J', accessFlags := 0x411 }
/-- [J -/
def k13 : Class := { plain "[J" (some 0) with kind := .array 12 .long, interfaces := #[6, 7], accessFlags := 1041 }

def heap : Heap := #[]
def classes : Array Class := #[k0, k1, k2, k3, k4, k5, k6, k7, k8, k9, k10, k11, k12, k13]
def interned : List (Array UInt16 × Addr) := []
def slotsUsed : Nat := 0
def theMethod : MethodId := ⟨1, 3⟩
def args0 : Array Value := #[.long 5, .long 3, .long 9, .long 1, .int 3]
def aboutOver (below : List Frame) : State where
  vm := { classes := classes, interned := interned.toArray }
  heap := heap
  slotsUsed := slotsUsed
  threads := #[{ frames := .invoking theMethod args0 :: below }]
def below0 : List Frame := [.native { method := ⟨0, 0⟩, args := #[] }]
def about1 : State := aboutOver below0
def p0 : Program := .bare "" "" ""
def e0 : Env := launch0.env 0 0 0
theorem w_frames : about1.frames = Frame.invoking theMethod args0 :: below0 := rfl
set_option maxRecDepth 65536 in
theorem w_args : argsFit about1.vm theMethod args0 = true := by decide +kernel
set_option maxRecDepth 65536 in
theorem w_heap : heapFits about1 = true := by decide +kernel
set_option maxRecDepth 65536 in
theorem w_runnable : about1.curStatus? = some .runnable := by decide +kernel
set_option maxRecDepth 65536 in
theorem w_alone : about1.alone = true := by decide +kernel
set_option maxRecDepth 65536 in
theorem w_named : about1.methodNamed? x = some theMethod := by decide +kernel
set_option maxRecDepth 65536 in
theorem w_hears : about1.hears theMethod below0 = true := by decide +kernel
set_option maxRecDepth 65536 in
theorem w_ripe : about1.ripe theMethod args0 below0 = true := by decide +kernel
theorem w_running : about1.status = .running := rfl
set_option maxRecDepth 65536 in
theorem w_room : about1.hasRoom e0.platform room_1 = true :=
  launch0.hasRoom_least _ room_1 (by decide +kernel) (by decide +kernel) (by decide +kernel) (by decide +kernel) (by decide +kernel) (by decide +kernel)
theorem allAtoms_all (ts : List Jvm.Cond) (a : Array Jvm.Value) (st : Jvm.State) : (allAtoms ts).before a st = ts.all (fun c => c.before a st) := by
  induction ts with
  | nil => rfl
  | cons c t ih =>
    show (Jvm.Cond.and c (allAtoms t)).before a st = _
    rw [Jvm.Cond.before_and, ih, List.all_cons]
def words1 : List Jvm.Cond := Jvm.Cond.code x code maxLocals ret :: tables_1
/-- a 'code' word, met by the world's own term for the bytes: nothing is compared byte by byte -/
theorem code_word {y : MethodName} {bytes : ByteArray} {mx : Nat} {rt : Option FieldType} {a : Array Value} {s : State} {m : MethodId} {meth : Method} {c : Code} (h1 : s.methodNamed? y = some m) (h2 : s.vm.method? m = some meth) (h3 : meth.code = some c) (h4 : c.code = bytes)
    (h5 : (c.maxLocals == mx && c.exceptionTable.isEmpty && decide (c.maxStack ≤ mostOperands) && decide (meth.sig.returnType = rt) && !meth.locks && decide (parseMethodDescriptor y.desc = some meth.sig)) = true) : (Jvm.Cond.code y bytes mx rt).before a s = true := by
  simp only [Bool.and_eq_true, beq_iff_eq, Bool.not_eq_true', decide_eq_true_eq] at h5
  obtain ⟨⟨⟨⟨⟨g1, g2⟩, g3⟩, g4⟩, g5⟩, g6⟩ := h5
  simp [Cond.before, Cond.holds, Cond.value, h1, h2, h3, h4, g1, g2, g3, g4, g5, g6]
def isCode : Jvm.Cond → Bool
  | .code _ _ _ _ => true
  | _ => false
theorem all_split {L : List Jvm.Cond} {P : Jvm.Cond → Bool} (h1 : L.all (fun c => isCode c || P c) = true) (h2 : ∀ c ∈ L.filter isCode, P c = true) : L.all P = true := by
  refine List.all_eq_true.mpr fun c hc => ?_
  have h := List.all_eq_true.mp h1 c hc
  rcases Bool.eq_false_or_eq_true (isCode c) with hi | hi
  · exact h2 c (List.mem_filter.mpr ⟨hc, hi⟩)
  · simpa [hi] using h
set_option maxRecDepth 65536 in
theorem w_c0 : (Jvm.Cond.code x code maxLocals ret).before args0 about1 = true := code_word (m := ⟨1, 3⟩) (meth := k1m3) (c := k1c3) (by decide +kernel) rfl rfl rfl (by decide +kernel)
set_option maxRecDepth 65536 in
theorem w_c1 : (Jvm.Cond.code ({ cls := "com/example/respite/respite/cli/Latencies", name := "<init>", desc := "()V" } : Jvm.MethodName) prog_8_method_1_code (1 : Nat) (Option.none : Option Jvm.ClassFile.FieldType)).before args0 about1 = true := code_word (m := ⟨2, 0⟩) (meth := k2m0) (c := k2c0) (by decide +kernel) rfl rfl rfl (by decide +kernel)
set_option maxRecDepth 65536 in
theorem w_c2 : (Jvm.Cond.code ({ cls := "java/lang/Object", name := "<init>", desc := "()V" } : Jvm.MethodName) object_method_1_code (1 : Nat) (Option.none : Option Jvm.ClassFile.FieldType)).before args0 about1 = true := code_word (m := ⟨0, 0⟩) (meth := k0m0) (c := k0c0) (by decide +kernel) rfl rfl rfl (by decide +kernel)
set_option maxRecDepth 65536 in
theorem w_c3 : (Jvm.Cond.code ({ cls := "com/example/respite/respite/cli/Latencies", name := "add", desc := "(J)V" } : Jvm.MethodName) prog_8_method_2_code (3 : Nat) (Option.none : Option Jvm.ClassFile.FieldType)).before args0 about1 = true := code_word (m := ⟨2, 1⟩) (meth := k2m1) (c := k2c1) (by decide +kernel) rfl rfl rfl (by decide +kernel)
set_option maxRecDepth 65536 in
theorem w_c4 : (Jvm.Cond.code ({ cls := "com/example/respite/respite/cli/Latencies", name := "percentile", desc := "(I)J" } : Jvm.MethodName) prog_8_method_5_code (4 : Nat) (Option.some Jvm.ClassFile.FieldType.long)).before args0 about1 = true := code_word (m := ⟨2, 3⟩) (meth := k2m3) (c := k2c3) (by decide +kernel) rfl rfl rfl (by decide +kernel)
set_option maxRecDepth 65536 in
theorem w_c5 : (Jvm.Cond.code ({ cls := "com/example/respite/respite/cli/Latencies", name := "requireAny", desc := "()V" } : Jvm.MethodName) prog_8_method_7_code (1 : Nat) (Option.none : Option Jvm.ClassFile.FieldType)).before args0 about1 = true := code_word (m := ⟨2, 4⟩) (meth := k2m4) (c := k2c4) (by decide +kernel) rfl rfl rfl (by decide +kernel)
set_option maxRecDepth 65536 in
theorem w_c6 : (Jvm.Cond.code ({ cls := "java/util/Arrays", name := "sort", desc := "([JII)V" } : Jvm.MethodName) jdk_65_method_5_code (3 : Nat) (Option.none : Option Jvm.ClassFile.FieldType)).before args0 about1 = true := code_word (m := ⟨3, 1⟩) (meth := k3m1) (c := k3c1) (by decide +kernel) rfl rfl rfl (by decide +kernel)
set_option maxRecDepth 65536 in
theorem w_c7 : (Jvm.Cond.code ({ cls := "java/util/Arrays", name := "rangeCheck", desc := "(III)V" } : Jvm.MethodName) jdk_65_method_30_code (3 : Nat) (Option.none : Option Jvm.ClassFile.FieldType)).before args0 about1 = true := code_word (m := ⟨3, 2⟩) (meth := k3m2) (c := k3c2) (by decide +kernel) rfl rfl rfl (by decide +kernel)
set_option maxRecDepth 65536 in
theorem w_c8 : (Jvm.Cond.code ({ cls := "java/util/DualPivotQuicksort", name := "sort", desc := "([JIII)V" } : Jvm.MethodName) jdk_2529_method_12_code (7 : Nat) (Option.none : Option Jvm.ClassFile.FieldType)).before args0 about1 = true := code_word (m := ⟨4, 1⟩) (meth := k4m1) (c := k4c1) (by decide +kernel) rfl rfl rfl (by decide +kernel)
set_option maxRecDepth 65536 in
theorem w_c9 : (Jvm.Cond.code ({ cls := "java/util/DualPivotQuicksort", name := "sort", desc := "(Ljava/util/DualPivotQuicksort$Sorter;[JIII)V" } : Jvm.MethodName) jdk_2529_method_13_code (25 : Nat) (Option.none : Option Jvm.ClassFile.FieldType)).before args0 about1 = true := code_word (m := ⟨4, 2⟩) (meth := k4m2) (c := k4c2) (by decide +kernel) rfl rfl rfl (by decide +kernel)
set_option maxRecDepth 65536 in
theorem w_c10 : (Jvm.Cond.code ({ cls := "java/util/DualPivotQuicksort", name := "insertionSort", desc := "([JII)V" } : Jvm.MethodName) jdk_2529_method_15_code (7 : Nat) (Option.none : Option Jvm.ClassFile.FieldType)).before args0 about1 = true := code_word (m := ⟨4, 3⟩) (meth := k4m3) (c := k4c3) (by decide +kernel) rfl rfl rfl (by decide +kernel)
set_option maxRecDepth 65536 in
theorem w_c11 : (Jvm.Cond.code ({ cls := "java/lang/Math", name := "max", desc := "(JJ)J" } : Jvm.MethodName) jdk_29_method_66_code (4 : Nat) (Option.some Jvm.ClassFile.FieldType.long)).before args0 about1 = true := code_word (m := ⟨5, 1⟩) (meth := k5m1) (c := k5c1) (by decide +kernel) rfl rfl rfl (by decide +kernel)
set_option maxRecDepth 65536 in
theorem w_c12 : (Jvm.Cond.code ({ cls := "com/example/respite/respite/cli/LatenciesAddPinLaw", name := "maxOf", desc := "(JJJI)J" } : Jvm.MethodName) method_2_code (7 : Nat) (Option.some Jvm.ClassFile.FieldType.long)).before args0 about1 = true := code_word (m := ⟨1, 1⟩) (meth := k1m1) (c := k1c1) (by decide +kernel) rfl rfl rfl (by decide +kernel)
set_option maxRecDepth 65536 in
theorem w_c13 : (Jvm.Cond.code ({ cls := "java/lang/Math", name := "min", desc := "(JJ)J" } : Jvm.MethodName) jdk_29_method_70_code (4 : Nat) (Option.some Jvm.ClassFile.FieldType.long)).before args0 about1 = true := code_word (m := ⟨5, 2⟩) (meth := k5m2) (c := k5c2) (by decide +kernel) rfl rfl rfl (by decide +kernel)
set_option maxRecDepth 65536 in
theorem w_c14 : (Jvm.Cond.code ({ cls := "com/example/respite/respite/cli/LatenciesAddPinLaw", name := "minOf", desc := "(JJJI)J" } : Jvm.MethodName) method_3_code (7 : Nat) (Option.some Jvm.ClassFile.FieldType.long)).before args0 about1 = true := code_word (m := ⟨1, 2⟩) (meth := k1m2) (c := k1c2) (by decide +kernel) rfl rfl rfl (by decide +kernel)
set_option maxRecDepth 65536 in
theorem w_c15 : (Jvm.Cond.code ({ cls := "com/example/respite/respite/cli/Latencies", name := "count", desc := "()I" } : Jvm.MethodName) prog_8_method_4_code (1 : Nat) (Option.some Jvm.ClassFile.FieldType.int)).before args0 about1 = true := code_word (m := ⟨2, 2⟩) (meth := k2m2) (c := k2c2) (by decide +kernel) rfl rfl rfl (by decide +kernel)
def codes1 : List Jvm.Cond := [Jvm.Cond.code x code maxLocals ret, Jvm.Cond.code ({ cls := "com/example/respite/respite/cli/Latencies", name := "<init>", desc := "()V" } : Jvm.MethodName) prog_8_method_1_code (1 : Nat) (Option.none : Option Jvm.ClassFile.FieldType), Jvm.Cond.code ({ cls := "java/lang/Object", name := "<init>", desc := "()V" } : Jvm.MethodName) object_method_1_code (1 : Nat) (Option.none : Option Jvm.ClassFile.FieldType), Jvm.Cond.code ({ cls := "com/example/respite/respite/cli/Latencies", name := "add", desc := "(J)V" } : Jvm.MethodName) prog_8_method_2_code (3 : Nat) (Option.none : Option Jvm.ClassFile.FieldType), Jvm.Cond.code ({ cls := "com/example/respite/respite/cli/Latencies", name := "percentile", desc := "(I)J" } : Jvm.MethodName) prog_8_method_5_code (4 : Nat) (Option.some Jvm.ClassFile.FieldType.long), Jvm.Cond.code ({ cls := "com/example/respite/respite/cli/Latencies", name := "requireAny", desc := "()V" } : Jvm.MethodName) prog_8_method_7_code (1 : Nat) (Option.none : Option Jvm.ClassFile.FieldType), Jvm.Cond.code ({ cls := "java/util/Arrays", name := "sort", desc := "([JII)V" } : Jvm.MethodName) jdk_65_method_5_code (3 : Nat) (Option.none : Option Jvm.ClassFile.FieldType), Jvm.Cond.code ({ cls := "java/util/Arrays", name := "rangeCheck", desc := "(III)V" } : Jvm.MethodName) jdk_65_method_30_code (3 : Nat) (Option.none : Option Jvm.ClassFile.FieldType), Jvm.Cond.code ({ cls := "java/util/DualPivotQuicksort", name := "sort", desc := "([JIII)V" } : Jvm.MethodName) jdk_2529_method_12_code (7 : Nat) (Option.none : Option Jvm.ClassFile.FieldType), Jvm.Cond.code ({ cls := "java/util/DualPivotQuicksort", name := "sort", desc := "(Ljava/util/DualPivotQuicksort$Sorter;[JIII)V" } : Jvm.MethodName) jdk_2529_method_13_code (25 : Nat) (Option.none : Option Jvm.ClassFile.FieldType), Jvm.Cond.code ({ cls := "java/util/DualPivotQuicksort", name := "insertionSort", desc := "([JII)V" } : Jvm.MethodName) jdk_2529_method_15_code (7 : Nat) (Option.none : Option Jvm.ClassFile.FieldType), Jvm.Cond.code ({ cls := "java/lang/Math", name := "max", desc := "(JJ)J" } : Jvm.MethodName) jdk_29_method_66_code (4 : Nat) (Option.some Jvm.ClassFile.FieldType.long), Jvm.Cond.code ({ cls := "com/example/respite/respite/cli/LatenciesAddPinLaw", name := "maxOf", desc := "(JJJI)J" } : Jvm.MethodName) method_2_code (7 : Nat) (Option.some Jvm.ClassFile.FieldType.long), Jvm.Cond.code ({ cls := "java/lang/Math", name := "min", desc := "(JJ)J" } : Jvm.MethodName) jdk_29_method_70_code (4 : Nat) (Option.some Jvm.ClassFile.FieldType.long), Jvm.Cond.code ({ cls := "com/example/respite/respite/cli/LatenciesAddPinLaw", name := "minOf", desc := "(JJJI)J" } : Jvm.MethodName) method_3_code (7 : Nat) (Option.some Jvm.ClassFile.FieldType.long), Jvm.Cond.code ({ cls := "com/example/respite/respite/cli/Latencies", name := "count", desc := "()I" } : Jvm.MethodName) prog_8_method_4_code (1 : Nat) (Option.some Jvm.ClassFile.FieldType.int)]
set_option maxRecDepth 65536 in
theorem codes_eq : words1.filter isCode = codes1 := rfl
theorem w_codes : ∀ c ∈ words1.filter isCode, c.before args0 about1 = true := by
  rw [codes_eq]
  intro c hc
  simp only [codes1, List.mem_cons, List.not_mem_nil, or_false] at hc
  rcases hc with rfl | rfl | rfl | rfl | rfl | rfl | rfl | rfl | rfl | rfl | rfl | rfl | rfl | rfl | rfl | rfl
  · exact w_c0
  · exact w_c1
  · exact w_c2
  · exact w_c3
  · exact w_c4
  · exact w_c5
  · exact w_c6
  · exact w_c7
  · exact w_c8
  · exact w_c9
  · exact w_c10
  · exact w_c11
  · exact w_c12
  · exact w_c13
  · exact w_c14
  · exact w_c15
set_option maxRecDepth 65536 in
theorem w_t1 : (words1.take 24).all (fun c => isCode c || c.before args0 about1) = true := by decide +kernel
set_option maxRecDepth 65536 in
theorem w_t2 : ((words1.drop 24).take 24).all (fun c => isCode c || c.before args0 about1) = true := by decide +kernel
set_option maxRecDepth 65536 in
theorem w_t3 : ((words1.drop 24).drop 24).all (fun c => isCode c || c.before args0 about1) = true := by decide +kernel
theorem w_tables : (allAtoms (Jvm.Cond.code x code maxLocals ret :: tables_1)).before args0 about1 = true := by
  rw [allAtoms_all]
  show words1.all (fun c => c.before args0 about1) = true
  refine all_split ?_ w_codes
  rw [← List.take_append_drop 24 words1, List.all_append, w_t1, ← List.take_append_drop 24 (words1.drop 24), List.all_append, w_t2, w_t3]
  rfl
set_option maxRecDepth 65536 in
theorem w_case : (Jvm.Cond.and given_1 narrow_1).before args0 about1 = true := by decide +kernel
theorem w_applies : (headSpec (Jvm.Cond.code x code maxLocals ret :: tables_1) room_1).applies x e0.platform about1 = true :=
  (Spec.applies_iff w_frames).mpr ⟨w_running, w_runnable, w_alone, w_named, w_hears, w_ripe, w_room, w_tables⟩
theorem atStart : AtStart classFile x code maxLocals ret World_1 tables_1 room_1 Calls_1 rest_1 Pre_1 launch0 p0 e0 about1 theMethod args0 below0 :=
  ⟨lists_1, trivial, launch0.admits_env _ _ _, launch0.least_env, fairChoices_fair.cas, fairChoices_fair.clock, w_frames, w_args, w_heap, w_applies, trivial, trivial, w_case⟩
end start1
theorem witness_1 : WitnessClaimed_1 := ⟨start1.p0, start1.e0, start1.about1, start1.theMethod, start1.args0, start1.below0, start1.atStart⟩
end Jvm.Pilot.@@N@@
